import JvmDerived
import JvmDerived.Pilot.@@N@@Statement
import JvmDerived.Pilot.@@N@@Code
set_option linter.unusedVariables false
set_option linter.unusedSimpArgs false
namespace Jvm.Pilot.@@N@@
open Jvm Jvm.ClassFile Sem Op Lib Jvm.Free Jvm.Stand Jvm.LawKit Jvm.RoadKit Bundle Jvm.Pilot.@@N@@.Jvm.D
/-- from the state U the run comes to the method's end, where Q holds of what it returns, of the heap and of the places written -/
def Dn (p : Program) (e : Env) (below : List Frame) (s : State) (k n : Nat) (Q : Option Value → Heap → List Loc → Prop) (U : State) : Prop :=
  ∃ t o, Steps p.tables e below U t ∧ t.status = .running ∧ Ended t below o ∧ ∃ v L, o = .returned v ∧ Q v t.heap L ∧ FrameEnd s o t L k n
theorem Dn.by {p : Program} {e : Env} {below : List Frame} {s : State} {k n : Nat} {Q : Option Value → Heap → List Loc → Prop} {U U' : State} (st : ∀ t, Steps p.tables e below U' t → Steps p.tables e below U t) (h : Dn p e below s k n Q U') : Dn p e below s k n Q U := by
  obtain ⟨t, o, h1, h2⟩ := h
  exact ⟨t, o, st t h1, h2⟩
theorem Dn.out {p : Program} {l : Launch} {e : Env} {R : Room} {s : State} {m : MethodId} {args : Array Value} {below : List Frame} {meth : Method} {c : Code} {T : State} {locs : List Loc} {cells slots k n : Nat} {Q : Option Value → Heap → List Loc → Prop} {U : State} (X : Stand p l e R s m args below meth c T locs cells slots) {v : Option Value} (hv : meth.sig.returnType = none → v = none) (hlk : meth.locks = false)
    (st : ∀ fs, (∀ (f : JFrame) (acts : List Action), f.method = m → f.locked = none → f.entered = [] → (doReturn e (T.setTop f) acts v).1 = T.setFrames fs) → Steps p.tables e below U (T.setFrames fs)) (hk : cells ≤ k) (hn : slots ≤ n) (hQ : Q v T.heap locs) : Dn p e below s k n Q U := by
  obtain ⟨fs, hr, hrun, hended, hW, hsame⟩ := X.leave (v := v) hv hlk
  exact ⟨_, _, st fs hr, hrun, hended, v, locs, rfl, hQ, ⟨_, rfl⟩, hW, hsame.mono hk hn⟩
theorem pn0 : plainName "com/example/flok/flok/geo/Coordinates" = true := by first | (simp [plainName, overriddenIn]; done) | decide +kernel
theorem pn1 : plainName "com/example/flok/flok/geo/Box" = true := by first | (simp [plainName, overriddenIn]; done) | decide +kernel
theorem pn2 : plainName "java/lang/Number" = true := by first | (simp [plainName, overriddenIn]; done) | decide +kernel
theorem pn3 : plainName "java/lang/Integer" = true := by first | (simp [plainName, overriddenIn]; done) | decide +kernel
theorem pn4 : plainName "com/example/flok/flok/geo/BoxEqualsPinLaw" = true := by first | (simp [plainName, overriddenIn]; done) | decide +kernel
theorem pd0 : parseMethodDescriptor "(Ljava/lang/String;DI)V" = some ⟨[(.object "java/lang/String"), .double, .int], none⟩ := by decide +kernel
theorem pd1 : parseMethodDescriptor "(Ljava/lang/String;D)V" = some ⟨[(.object "java/lang/String"), .double], none⟩ := by decide +kernel
theorem pd2 : parseMethodDescriptor "()V" = some ⟨[], none⟩ := by decide +kernel
theorem pd3 : parseMethodDescriptor "(I)V" = some ⟨[.int], none⟩ := by decide +kernel
theorem pd4 : parseMethodDescriptor "(DDDD)V" = some ⟨[.double, .double, .double, .double], none⟩ := by decide +kernel
theorem pd5 : parseMethodDescriptor "(I)Ljava/lang/Integer;" = some ⟨[.int], some (.object "java/lang/Integer")⟩ := by decide +kernel
theorem pd6 : parseMethodDescriptor "(Ljava/lang/Object;)Z" = some ⟨[(.object "java/lang/Object")], some .boolean⟩ := by decide +kernel
theorem d1_0 : decode prog_20_method_1_code 0 = .ok (.aload_n 0, 1) := by decide +kernel
theorem d1_1 : decode prog_20_method_1_code 1 = .ok (.invokespecial 1, 3) := by decide +kernel
theorem d1_4 : decode prog_20_method_1_code 4 = .ok (.ldc 7, 2) := by decide +kernel
theorem d1_6 : decode prog_20_method_1_code 6 = .ok (.dload_n 1, 1) := by decide +kernel
theorem d1_7 : decode prog_20_method_1_code 7 = .ok (.invokestatic 9, 3) := by decide +kernel
theorem d1_10 : decode prog_20_method_1_code 10 = .ok (.ldc 15, 2) := by decide +kernel
theorem d1_12 : decode prog_20_method_1_code 12 = .ok (.dload_n 3, 1) := by decide +kernel
theorem d1_13 : decode prog_20_method_1_code 13 = .ok (.invokestatic 17, 3) := by decide +kernel
theorem d1_16 : decode prog_20_method_1_code 16 = .ok (.ldc 20, 2) := by decide +kernel
theorem d1_18 : decode prog_20_method_1_code 18 = .ok (.dload 5, 2) := by decide +kernel
theorem d1_20 : decode prog_20_method_1_code 20 = .ok (.invokestatic 9, 3) := by decide +kernel
theorem d1_23 : decode prog_20_method_1_code 23 = .ok (.ldc 22, 2) := by decide +kernel
theorem d1_25 : decode prog_20_method_1_code 25 = .ok (.dload 7, 2) := by decide +kernel
theorem d1_27 : decode prog_20_method_1_code 27 = .ok (.invokestatic 17, 3) := by decide +kernel
theorem d1_30 : decode prog_20_method_1_code 30 = .ok (.dload_n 1, 1) := by decide +kernel
theorem d1_31 : decode prog_20_method_1_code 31 = .ok (.dload 5, 2) := by decide +kernel
theorem d1_33 : decode prog_20_method_1_code 33 = .ok (.dcmp .l, 1) := by decide +kernel
theorem d1_34 : decode prog_20_method_1_code 34 = .ok (.ifCond .le 19, 3) := by decide +kernel
theorem d1_53 : decode prog_20_method_1_code 53 = .ok (.dload_n 3, 1) := by decide +kernel
theorem d1_54 : decode prog_20_method_1_code 54 = .ok (.dload 7, 2) := by decide +kernel
theorem d1_56 : decode prog_20_method_1_code 56 = .ok (.dcmp .l, 1) := by decide +kernel
theorem d1_57 : decode prog_20_method_1_code 57 = .ok (.ifCond .le 19, 3) := by decide +kernel
theorem d1_76 : decode prog_20_method_1_code 76 = .ok (.aload_n 0, 1) := by decide +kernel
theorem d1_77 : decode prog_20_method_1_code 77 = .ok (.dload_n 1, 1) := by decide +kernel
theorem d1_78 : decode prog_20_method_1_code 78 = .ok (.putfield 34, 3) := by decide +kernel
theorem d1_81 : decode prog_20_method_1_code 81 = .ok (.aload_n 0, 1) := by decide +kernel
theorem d1_82 : decode prog_20_method_1_code 82 = .ok (.dload_n 3, 1) := by decide +kernel
theorem d1_83 : decode prog_20_method_1_code 83 = .ok (.putfield 39, 3) := by decide +kernel
theorem d1_86 : decode prog_20_method_1_code 86 = .ok (.aload_n 0, 1) := by decide +kernel
theorem d1_87 : decode prog_20_method_1_code 87 = .ok (.dload 5, 2) := by decide +kernel
theorem d1_89 : decode prog_20_method_1_code 89 = .ok (.putfield 41, 3) := by decide +kernel
theorem d1_92 : decode prog_20_method_1_code 92 = .ok (.aload_n 0, 1) := by decide +kernel
theorem d1_93 : decode prog_20_method_1_code 93 = .ok (.dload 7, 2) := by decide +kernel
theorem d1_95 : decode prog_20_method_1_code 95 = .ok (.putfield 43, 3) := by decide +kernel
theorem d1_98 : decode prog_20_method_1_code 98 = .ok (.return_, 1) := by decide +kernel
theorem d3_0 : decode prog_26_method_2_code 0 = .ok (.aload_n 0, 1) := by decide +kernel
theorem d3_1 : decode prog_26_method_2_code 1 = .ok (.dload_n 1, 1) := by decide +kernel
theorem d3_2 : decode prog_26_method_2_code 2 = .ok (.sipush 180, 3) := by decide +kernel
theorem d3_5 : decode prog_26_method_2_code 5 = .ok (.invokestatic 7, 3) := by decide +kernel
theorem d3_8 : decode prog_26_method_2_code 8 = .ok (.return_, 1) := by decide +kernel
theorem d4_0 : decode prog_26_method_4_code 0 = .ok (.dload_n 1, 1) := by decide +kernel
theorem d4_1 : decode prog_26_method_4_code 1 = .ok (.iload_n 3, 1) := by decide +kernel
theorem d4_2 : decode prog_26_method_4_code 2 = .ok (.ineg, 1) := by decide +kernel
theorem d4_3 : decode prog_26_method_4_code 3 = .ok (.i2d, 1) := by decide +kernel
theorem d4_4 : decode prog_26_method_4_code 4 = .ok (.dcmp .l, 1) := by decide +kernel
theorem d4_5 : decode prog_26_method_4_code 5 = .ok (.ifCond .lt 10, 3) := by decide +kernel
theorem d4_8 : decode prog_26_method_4_code 8 = .ok (.dload_n 1, 1) := by decide +kernel
theorem d4_9 : decode prog_26_method_4_code 9 = .ok (.iload_n 3, 1) := by decide +kernel
theorem d4_10 : decode prog_26_method_4_code 10 = .ok (.i2d, 1) := by decide +kernel
theorem d4_11 : decode prog_26_method_4_code 11 = .ok (.dcmp .g, 1) := by decide +kernel
theorem d4_12 : decode prog_26_method_4_code 12 = .ok (.ifCond .le 20, 3) := by decide +kernel
theorem d4_32 : decode prog_26_method_4_code 32 = .ok (.return_, 1) := by decide +kernel
theorem d5_0 : decode prog_26_method_3_code 0 = .ok (.aload_n 0, 1) := by decide +kernel
theorem d5_1 : decode prog_26_method_3_code 1 = .ok (.dload_n 1, 1) := by decide +kernel
theorem d5_2 : decode prog_26_method_3_code 2 = .ok (.bipush 90, 2) := by decide +kernel
theorem d5_4 : decode prog_26_method_3_code 4 = .ok (.invokestatic 7, 3) := by decide +kernel
theorem d5_7 : decode prog_26_method_3_code 7 = .ok (.return_, 1) := by decide +kernel
theorem d6_0 : decode jdk_33_method_22_code 0 = .ok (.iload_n 0, 1) := by decide +kernel
theorem d6_1 : decode jdk_33_method_22_code 1 = .ok (.bipush (-128), 2) := by decide +kernel
theorem d6_3 : decode jdk_33_method_22_code 3 = .ok (.if_icmp .lt 20, 3) := by decide +kernel
theorem d6_6 : decode jdk_33_method_22_code 6 = .ok (.iload_n 0, 1) := by decide +kernel
theorem d6_7 : decode jdk_33_method_22_code 7 = .ok (.getstatic 191, 3) := by decide +kernel
theorem d6_10 : decode jdk_33_method_22_code 10 = .ok (.if_icmp .gt 13, 3) := by decide +kernel
theorem d6_13 : decode jdk_33_method_22_code 13 = .ok (.getstatic 195, 3) := by decide +kernel
theorem d6_16 : decode jdk_33_method_22_code 16 = .ok (.iload_n 0, 1) := by decide +kernel
theorem d6_17 : decode jdk_33_method_22_code 17 = .ok (.sipush 128, 3) := by decide +kernel
theorem d6_20 : decode jdk_33_method_22_code 20 = .ok (.iadd, 1) := by decide +kernel
theorem d6_21 : decode jdk_33_method_22_code 21 = .ok (.aaload, 1) := by decide +kernel
theorem d6_22 : decode jdk_33_method_22_code 22 = .ok (.areturn, 1) := by decide +kernel
theorem d6_23 : decode jdk_33_method_22_code 23 = .ok (.new 1, 3) := by decide +kernel
theorem d6_26 : decode jdk_33_method_22_code 26 = .ok (.dup, 1) := by decide +kernel
theorem d6_27 : decode jdk_33_method_22_code 27 = .ok (.iload_n 0, 1) := by decide +kernel
theorem d6_28 : decode jdk_33_method_22_code 28 = .ok (.invokespecial 199, 3) := by decide +kernel
theorem d6_31 : decode jdk_33_method_22_code 31 = .ok (.areturn, 1) := by decide +kernel
theorem d7_0 : decode prog_20_method_6_code 0 = .ok (.aload_n 1, 1) := by decide +kernel
theorem d7_1 : decode prog_20_method_6_code 1 = .ok (.instanceof 35, 3) := by decide +kernel
theorem d7_4 : decode prog_20_method_6_code 4 = .ok (.ifCond .eq 60, 3) := by decide +kernel
theorem d7_7 : decode prog_20_method_6_code 7 = .ok (.aload_n 1, 1) := by decide +kernel
theorem d7_8 : decode prog_20_method_6_code 8 = .ok (.checkcast 35, 3) := by decide +kernel
theorem d7_11 : decode prog_20_method_6_code 11 = .ok (.astore_n 2, 1) := by decide +kernel
theorem d7_12 : decode prog_20_method_6_code 12 = .ok (.aload_n 0, 1) := by decide +kernel
theorem d7_13 : decode prog_20_method_6_code 13 = .ok (.getfield 34, 3) := by decide +kernel
theorem d7_16 : decode prog_20_method_6_code 16 = .ok (.aload_n 2, 1) := by decide +kernel
theorem d7_17 : decode prog_20_method_6_code 17 = .ok (.getfield 34, 3) := by decide +kernel
theorem d7_20 : decode prog_20_method_6_code 20 = .ok (.dcmp .l, 1) := by decide +kernel
theorem d7_21 : decode prog_20_method_6_code 21 = .ok (.ifCond .ne 43, 3) := by decide +kernel
theorem d7_24 : decode prog_20_method_6_code 24 = .ok (.aload_n 0, 1) := by decide +kernel
theorem d7_25 : decode prog_20_method_6_code 25 = .ok (.getfield 39, 3) := by decide +kernel
theorem d7_28 : decode prog_20_method_6_code 28 = .ok (.aload_n 2, 1) := by decide +kernel
theorem d7_29 : decode prog_20_method_6_code 29 = .ok (.getfield 39, 3) := by decide +kernel
theorem d7_32 : decode prog_20_method_6_code 32 = .ok (.dcmp .l, 1) := by decide +kernel
theorem d7_33 : decode prog_20_method_6_code 33 = .ok (.ifCond .ne 31, 3) := by decide +kernel
theorem d7_36 : decode prog_20_method_6_code 36 = .ok (.aload_n 0, 1) := by decide +kernel
theorem d7_37 : decode prog_20_method_6_code 37 = .ok (.getfield 41, 3) := by decide +kernel
theorem d7_40 : decode prog_20_method_6_code 40 = .ok (.aload_n 2, 1) := by decide +kernel
theorem d7_41 : decode prog_20_method_6_code 41 = .ok (.getfield 41, 3) := by decide +kernel
theorem d7_44 : decode prog_20_method_6_code 44 = .ok (.dcmp .l, 1) := by decide +kernel
theorem d7_45 : decode prog_20_method_6_code 45 = .ok (.ifCond .ne 19, 3) := by decide +kernel
theorem d7_48 : decode prog_20_method_6_code 48 = .ok (.aload_n 0, 1) := by decide +kernel
theorem d7_49 : decode prog_20_method_6_code 49 = .ok (.getfield 43, 3) := by decide +kernel
theorem d7_52 : decode prog_20_method_6_code 52 = .ok (.aload_n 2, 1) := by decide +kernel
theorem d7_53 : decode prog_20_method_6_code 53 = .ok (.getfield 43, 3) := by decide +kernel
theorem d7_56 : decode prog_20_method_6_code 56 = .ok (.dcmp .l, 1) := by decide +kernel
theorem d7_57 : decode prog_20_method_6_code 57 = .ok (.ifCond .ne 7, 3) := by decide +kernel
theorem d7_60 : decode prog_20_method_6_code 60 = .ok (.iconst 1, 1) := by decide +kernel
theorem d7_61 : decode prog_20_method_6_code 61 = .ok (.goto 4, 3) := by decide +kernel
theorem d7_64 : decode prog_20_method_6_code 64 = .ok (.iconst 0, 1) := by decide +kernel
theorem d7_65 : decode prog_20_method_6_code 65 = .ok (.ireturn, 1) := by decide +kernel
theorem d8_0 : decode jdk_33_method_23_code 0 = .ok (.aload_n 0, 1) := by decide +kernel
theorem d8_1 : decode jdk_33_method_23_code 1 = .ok (.invokespecial 202, 3) := by decide +kernel
theorem d8_4 : decode jdk_33_method_23_code 4 = .ok (.aload_n 0, 1) := by decide +kernel
theorem d8_5 : decode jdk_33_method_23_code 5 = .ok (.iload_n 1, 1) := by decide +kernel
theorem d8_6 : decode jdk_33_method_23_code 6 = .ok (.putfield 205, 3) := by decide +kernel
theorem d8_9 : decode jdk_33_method_23_code 9 = .ok (.return_, 1) := by decide +kernel
theorem d9_0 : decode jdk_18_method_1_code 0 = .ok (.aload_n 0, 1) := by decide +kernel
theorem d9_1 : decode jdk_18_method_1_code 1 = .ok (.invokespecial 1, 3) := by decide +kernel
theorem d9_4 : decode jdk_18_method_1_code 4 = .ok (.return_, 1) := by decide +kernel
theorem own_subt {Z : State} {args : Array Value} {j : Int32} (nn : ¬ j < 0) : (Jvm.Term.sub (Jvm.Term.index (0 : Nat)) (Jvm.Term.int (128 : Int32))).eval args Z none [j.toNatClampNeg] Z = some (.int (j - (128 : Int32))) := by
  have a : (Jvm.Term.index (0 : Nat)).eval args Z none [j.toNatClampNeg] Z = some (.int j) := idx_at nn
  have b : (Jvm.Term.int (128 : Int32)).eval args Z none [j.toNatClampNeg] Z = some (.int (128 : Int32)) := Term.int_eval _
  simp [Term.eval, a, b]
  exact (back32 nn).1
/-- as Dn, for a body that may load a String constant for the first time: the wide end, and what becomes of the held constants -/
def DnW (p : Program) (e : Env) (below : List Frame) (s : State) (EL : List (String × Nat)) (Z : State) (k n : Nat) (Q : Option Value → Heap → List Loc → Prop) (U : State) : Prop :=
  ∃ t o, Steps p.tables e below U t ∧ t.status = .running ∧ Ended t below o ∧ ∃ v L, o = .returned v ∧ Q v t.heap L ∧ CHr Z EL s.vm s.heap t.vm t.heap ∧ ReturnedEndW s o t L k n
theorem DnW.by {p : Program} {e : Env} {below : List Frame} {s : State} {EL : List (String × Nat)} {Z : State} {k n : Nat} {Q : Option Value → Heap → List Loc → Prop} {U U' : State} (st : ∀ t, Steps p.tables e below U' t → Steps p.tables e below U t) (h : DnW p e below s EL Z k n Q U') : DnW p e below s EL Z k n Q U := by
  obtain ⟨t, o, h1, h2⟩ := h
  exact ⟨t, o, st t h1, h2⟩
theorem DnW.out {p : Program} {l : Launch} {e : Env} {R : Room} {s : State} {m : MethodId} {args : Array Value} {below : List Frame} {meth : Method} {c : Code} {T : State} {locs : List Loc} {cells slots k n : Nat} {EL : List (String × Nat)} {Z : State} {vm0 : Vm} {k0 : Nat} {Q : Option Value → Heap → List Loc → Prop} {U : State} (X : Stand p l e R (s.setVm vm0) m args below meth c T locs cells slots) (hS : s.Since vm0 k0) (hk0 : k0 ≤ T.heap.size) {v : Option Value} (hv : meth.sig.returnType = none → v = none) (hlk : meth.locks = false)
    (st : ∀ fs, (∀ (f : JFrame) (acts : List Action), f.method = m → f.locked = none → f.entered = [] → (doReturn e (T.setTop f) acts v).1 = T.setFrames fs) → Steps p.tables e below U (T.setFrames fs)) (hk : cells ≤ k) (hn : slots ≤ n) (hQ : Q v T.heap locs) (hC : CHr Z EL s.vm s.heap T.vm T.heap) : DnW p e below s EL Z k n Q U := by
  obtain ⟨fs, hr, hrun, hended, hR⟩ := X.leaveW hS hk0 (v := v) hv hlk
  exact ⟨_, _, st fs hr, hrun, hended, v, locs, rfl, hQ, hC, hR.1, hR.2.1, hR.2.2.1, hR.2.2.2.mono hk hn⟩
theorem own_safeV {Z : State} {EL : List (String × Nat)} {vm : Vm} {h : Heap} {a : Addr} {k : ClassId} {ty : FieldType} {z : Int32} {vs : List Value} {d : Value} (hal : Z.vm.Alike vm) (V : Arv Z h a k ty z vs d) (ht : ty ≠ .byte) : Safe Z EL vm h a := by
  obtain ⟨c, A, -⟩ := V
  exact Safe.arr hal A ht
/-- a callee that may load constants, whose contract asks besides that some objects are none of the held constants -/
theorem own_backSH {p : Program} {l : Launch} {e : Env} {R : Room} {s : State} {args : Array Value} {below : List Frame} {Z : State} {a0 : Array Value} {h : Heap} {vm0 : Vm} {EL : List (String × Nat)} {SL : List Addr} {y : MethodName} {bytes : ByteArray} {maxL : Nat} {ret : Option FieldType} {rm : Room} {len W : Nat} {as' : Array Value} {Q : Option Value → Heap → List Loc → Prop}
    (hM : MetFree l y (head1 [Jvm.Cond.code y bytes maxL ret] rm) (fun a U => a = as' ∧ Z.Warmed39 U.vm ∧ U.heap = h ∧ CHv Z EL U.vm h ∧ ∀ x ∈ SL, Safe Z EL U.vm h x) (fun _ _ _ _ _ => True) (fun _ U o U' => ∃ v L, o = .returned v ∧ Q v U'.heap L ∧ CHr Z EL U.vm U.heap U'.vm U'.heap ∧ ReturnedEndW U o U' L rm.cells rm.slots))
    (hZ : Z.Warmed39 vm0) (wc : (Jvm.Cond.code y bytes maxL ret).before a0 Z = true) (wz : (Jvm.Cond.initialized y.cls).before a0 Z = true) (hf : rm.frames + 1 ≤ R.frames) (hl : W + (maxL + 11) + rm.locals ≤ R.locals) (hEL : EW Z a0 EL) (H : CHv Z EL vm0 h) (hS : ∀ x ∈ SL, x < h.size ∧ Safe Z EL vm0 h x) :
    BackS l R p e below (s.setVm vm0) args y len W (fun A a => a = as' ∧ A.U.heap = h ∧ A.cells + rm.cells ≤ R.cells ∧ A.slots + rm.slots ≤ R.slots)
      (fun A _ v B => ∃ L, Q v B.U.heap L ∧ B.locs = A.locs ++ L ∧ B.cells = A.cells + rm.cells ∧ B.slots = A.slots + rm.slots ∧ CHr Z EL vm0 h B.U.vm B.U.heap) := by
  refine BackS.of_freeW (bytes := bytes) (maxL := maxL) (ret := ret) (E := fun _ first o t L k n => k = rm.cells ∧ n = rm.slots ∧ (∃ v, o = .returned v ∧ Q v t.heap L) ∧ CHr Z EL first.vm first.heap t.vm t.heap) hM hf hl ?_ ?_ (fun _ _ _ _ _ _ _ _ _ => trivial) ?_ ?_
  · intro m meth c A a Y hp
    have hU : Z.Warmed39 A.U.vm := wtrans (s := s.setVm vm0) hZ Y.warmed
    exact ⟨by show (Jvm.Cond.and _ .tt).before a A.U = true; rw [Cond.before_and, mv hU wc]; rfl, mv hU wc, mv hU wz, hp.2.2.1, hp.2.2.2⟩
  · intro m meth c A a g mk Y hp
    have CA := CHv.at Y hZ hEL H
    exact ⟨hp.1, wtrans (s := s.setVm vm0) hZ Y.warmed, hp.2.1, CA.1, fun x hx => CA.safe (hS x hx).1 (hS x hx).2⟩
  · rintro _ _ _ _ ⟨v, L, h1, h2, h3, h4⟩
    exact ⟨L, _, _, h4, rfl, rfl, ⟨v, h1, h2⟩, h3⟩
  · rintro m meth c A a g mk v t L k n Y hp _ _ ⟨e1, e2, ⟨v', e3, e4⟩, e5⟩
    cases e3; subst e1 e2
    refine ⟨L, e4, rfl, rfl, rfl, (CHv.at Y hZ hEL H).trans ?_⟩
    rw [← hp.2.1]; exact e5
def EL : List (String × Nat) := []
theorem own_EL {Z : State} {a0 : Array Value} (hw : ∀ d ∈ tables_1, d.before a0 Z = true) : EW Z a0 EL := EW.nil
theorem own_strW {Z : State} {a0 : Array Value} (hw : ∀ d ∈ tables_1, d.before a0 Z = true) : ∀ d ∈ Bundle.stringAtoms, d.before a0 Z = true := fun d hd => hw d ((by decide +kernel : ∀ d ∈ Bundle.stringAtoms, d ∈ tables_1) d hd)
theorem own_root {Z : State} {a0 : Array Value} {O K : String} {n : Nat} (w : (Jvm.Cond.noSuperclass O).before a0 Z = true) (wi : (Jvm.Cond.instantiable K n).before a0 Z = true) (hn : O ≠ K) : NS Z O K := by
  obtain ⟨c, k, h1, h2, h3, -, -⟩ := Cond.noSuperclass_spec w
  obtain ⟨t, kt, g1, -⟩ := Cond.instantiable_spec wi
  have ne := ids_ne h1 g1 hn
  refine ⟨c, t, h1, g1, fun fuel => ?_⟩
  cases fuel with
  | zero => rfl
  | succ f => simp [Vm.isSubclassAux, ne, h2, h3]
theorem own_no {Z : State} {a0 : Array Value} {C S K : String} {n : Nat} (w : (Jvm.Cond.superclass C S).before a0 Z = true) (wi : (Jvm.Cond.instantiable K n).before a0 Z = true) (ns : NS Z C K) (hn : C ≠ K) : ∃ c t, Z.vm.findClass C = some c ∧ Z.vm.findClass K = some t ∧ Z.vm.assignable c t = false := by
  obtain ⟨c, t, h0, g0, n3⟩ := ns
  obtain ⟨p, k, kp, h1, h2, h3, h4, h5, -, h7⟩ := Cond.superclass_spec h0 w
  obtain ⟨t', kt, g1, g2, g3, g4, -⟩ := Cond.instantiable_spec wi
  cases g0.symm.trans g1
  have g7 : kt.isInterface = false := (Bool.or_eq_false_iff.mp g4).1
  have ne := ids_ne h0 g0 hn
  refine ⟨c, t, h0, g0, ?_⟩
  show Z.vm.assignableAux (255 + 1) c t = false
  simp [Vm.assignableAux, ne, h2, g2, h5, g3, g7, Vm.isSubclass, n3]
theorem own_cmp (a b : Int32) (o : CmpOp) : cmpValue (FP.dcmp (FP.i2d a) (FP.i2d b)) o = if a.toInt < b.toInt then (-1 : Int32) else if a.toInt = b.toInt then (0 : Int32) else (1 : Int32) := by
  rw [show FP.dcmp (FP.i2d a) (FP.i2d b) = some (compare a.toInt b.toInt) from Jvm.FP.Core.dcmp_int (Jvm.FP.Core.i2d_int a) (Jvm.FP.Core.i2d_int b)]
  by_cases h : a.toInt < b.toInt
  · rw [if_pos h, show compare a.toInt b.toInt = .lt from by simp [compare, compareOfLessAndEq, h]]; rfl
  · by_cases q : a.toInt = b.toInt
    · rw [if_neg h, if_pos q, q, Jvm.FP.Core.compare_self_int]; rfl
    · rw [if_neg h, if_neg q, show compare a.toInt b.toInt = .gt from by simp [compare, compareOfLessAndEq, h, q]]; rfl
theorem own_ge (a k : Int32) (h : k.toInt ≤ a.toInt) (o : CmpOp) : ¬ cmpValue (FP.dcmp (FP.i2d a) (FP.i2d k)) o < (0 : Int32) := by
  rw [own_cmp, if_neg (by omega)]; split <;> decide
theorem own_le (a k : Int32) (h : a.toInt ≤ k.toInt) (o : CmpOp) : ¬ (0 : Int32) < cmpValue (FP.dcmp (FP.i2d a) (FP.i2d k)) o := by
  rw [own_cmp]
  by_cases q : a.toInt < k.toInt
  · rw [if_pos q]; decide
  · rw [if_neg q, if_pos (by omega)]; decide
theorem own_z (a k : Int32) (o : CmpOp) : cmpValue (FP.dcmp (FP.i2d a) (FP.i2d k)) o = (0 : Int32) ↔ a = k := by
  rw [own_cmp]
  constructor
  · intro q
    by_cases h : a.toInt < k.toInt
    · rw [if_pos h] at q; exact absurd q (by decide)
    · rw [if_neg h] at q
      by_cases h2 : a.toInt = k.toInt
      · exact Int32.toInt_inj.mp h2
      · rw [if_neg h2] at q; exact absurd q (by decide)
  · rintro rfl; rw [if_neg (by omega), if_pos rfl]
theorem own_n180 : (-(180 : Int32)).toInt = -180 := by decide
theorem own_n90 : (-(90 : Int32)).toInt = -90 := by decide
theorem own_p180 : (180 : Int32).toInt = 180 := by decide
theorem own_p90 : (90 : Int32).toInt = 90 := by decide
abbrev Rm4 : Room := { frames := 0, cells := 0, slots := 0, locals := 0 }
theorem ef_4 (m : MethodId) (o0 : Addr) (x1 : UInt64) (p2 : Int32) : entryFrame m #[(.ref o0), (.double x1), (.int p2)] 4 = mkF m 0 #[.val (.ref o0), .val (.double x1), .second, .val (.int p2)] [] := by first | (simp [entryFrame, mkF, argsToLocals, Value.category]; done) | rfl
def Q4 (Z : State) (o0 : Addr) (x1 : UInt64) (p2 : Int32) (h0 : Heap) (n0 : Nat) (v : Option Value) (h : Heap) (L : List Loc) : Prop := v = none ∧ Fr n0 L ∧ h = h0
set_option maxRecDepth 65536 in
set_option maxHeartbeats 40000000 in
theorem rm4 (l : Launch) (Z : State) (a0 : Array Value) (hw : ∀ d ∈ tables_1, d.before a0 Z = true) (ws : List Jvm.Cond) (o0 : Addr) (x1 : UInt64) (p2 : Int32) (h0 : Heap) (n0 : Nat) (Z0 : n0 ≤ h0.size) (hlo : ¬ (cmpValue (FP.dcmp x1 (FP.i2d (-p2))) .l) < (0 : Int32)) (hhi : ¬ (0 : Int32) < (cmpValue (FP.dcmp x1 (FP.i2d p2)) .g)) :
    MetFree l (⟨"com/example/flok/flok/geo/Coordinates", "checkRange", "(Ljava/lang/String;DI)V"⟩ : MethodName) (head1 (Jvm.Cond.code (⟨"com/example/flok/flok/geo/Coordinates", "checkRange", "(Ljava/lang/String;DI)V"⟩ : MethodName) prog_26_method_4_code 4 none :: ws) Rm4) (fun a U => a = #[(.ref o0), (.double x1), (.int p2)] ∧ Z.Warmed39 U.vm ∧ U.heap = h0) (fun _ _ _ _ _ => True) (fun _ U o U' => ∃ v L, o = .returned v ∧ Q4 Z o0 x1 p2 h0 n0 v U'.heap L ∧ FrameEnd U o U' L Rm4.cells Rm4.slots) := by
  refine MetFree.of_bodySF (plainFor_of_name pn0) hisR ?_
  intro p e s m args below meth c s₁ Bd hml0 hP hK
  obtain ⟨rfl, hZ, hh⟩ := hP
  have hx := Bd.exec
  have hby := Bd.bytes
  have hml : c.maxLocals = 4 := hml0
  have hown : s.vm.findClass "com/example/flok/flok/geo/Coordinates" = some m.cls := findClass_of_methodNamed Bd.named
  have hnm := (name_of_methodNamed Bd.named Bd.method).1
  have X0 : Stand p l e Rm4 s m #[(.ref o0), (.double x1), (.int p2)] below meth c s₁ [] 0 0 := Stand.of_body Bd
  have e0 : s₁.heap = h0 := by rw [← hh, Bd.state]; rfl
  have N0 := Fr.nil n0
  show Dn p e below s Rm4.cells Rm4.slots (Q4 Z o0 x1 p2 h0 n0) (s₁.setTop (entryFrame m #[(.ref o0), (.double x1), (.int p2)] 4))
  rw [ef_4]
  refine Dn.by (U' := s₁.setTop (mkF m 1 #[.val (.ref o0), .val (.double x1), .second, .val (.int p2)] [(.double x1)])) (fun _ ks => XS.dloadN X0.here hx rfl (hb hby d4_0) rfl ks) ?_
  refine Dn.by (U' := s₁.setTop (mkF m 2 #[.val (.ref o0), .val (.double x1), .second, .val (.int p2)] [(.int p2), (.double x1)])) (fun _ ks => XS.iloadN X0.here hx rfl (hb hby d4_1) rfl ks) ?_
  refine Dn.by (U' := s₁.setTop (mkF m 3 #[.val (.ref o0), .val (.double x1), .second, .val (.int p2)] [(.int (-p2)), (.double x1)])) (fun _ ks => XS.ineg X0.here hx rfl (hb hby d4_2) rfl ks) ?_
  refine Dn.by (U' := s₁.setTop (mkF m 4 #[.val (.ref o0), .val (.double x1), .second, .val (.int p2)] [(.double (FP.i2d (-p2))), (.double x1)])) (fun _ ks => XS.i2dS X0.here hx rfl (hb hby d4_3) rfl rfl ks) ?_
  refine Dn.by (U' := s₁.setTop (mkF m 5 #[.val (.ref o0), .val (.double x1), .second, .val (.int p2)] [(.int (cmpValue (FP.dcmp x1 (FP.i2d (-p2))) .l))])) (fun _ ks => XS.dcmpS X0.here hx rfl (hb hby d4_4) rfl rfl ks) ?_
  refine Dn.by (U' := s₁.setTop (mkF m 8 #[.val (.ref o0), .val (.double x1), .second, .val (.int p2)] [])) (fun _ ks => XS.ifNo X0.here hx rfl (hb hby d4_5) rfl ((if0 _ _).trans (flt hlo).1) ks) ?_
  refine Dn.by (U' := s₁.setTop (mkF m 9 #[.val (.ref o0), .val (.double x1), .second, .val (.int p2)] [(.double x1)])) (fun _ ks => XS.dloadN X0.here hx rfl (hb hby d4_8) rfl ks) ?_
  refine Dn.by (U' := s₁.setTop (mkF m 10 #[.val (.ref o0), .val (.double x1), .second, .val (.int p2)] [(.int p2), (.double x1)])) (fun _ ks => XS.iloadN X0.here hx rfl (hb hby d4_9) rfl ks) ?_
  refine Dn.by (U' := s₁.setTop (mkF m 11 #[.val (.ref o0), .val (.double x1), .second, .val (.int p2)] [(.double (FP.i2d p2)), (.double x1)])) (fun _ ks => XS.i2dS X0.here hx rfl (hb hby d4_10) rfl rfl ks) ?_
  refine Dn.by (U' := s₁.setTop (mkF m 12 #[.val (.ref o0), .val (.double x1), .second, .val (.int p2)] [(.int (cmpValue (FP.dcmp x1 (FP.i2d p2)) .g))])) (fun _ ks => XS.dcmpS X0.here hx rfl (hb hby d4_11) rfl rfl ks) ?_
  refine Dn.by (U' := s₁.setTop (mkF m 32 #[.val (.ref o0), .val (.double x1), .second, .val (.int p2)] [])) (fun _ ks => XS.ifYes X0.here hx rfl (pc0 := 12) (pc' := 32) rfl (hb hby d4_12) rfl ((if0 _ _).trans (flt hhi).2.2.2) (by decide) (by decide) ks) ?_
  refine Dn.out X0 (v := none) (fun _ => rfl) (BodyLoose.notSynchronized Bd) (fun _ hr => X0.returnOut hx Bd.returns (hb hby d4_32) hr) (by decide) (by decide) ?_
  rw [e0]
  exact ⟨rfl, N0, rfl⟩
abbrev Rm3 : Room := { frames := 1, cells := 0, slots := 0, locals := 15 }
theorem ef_3 (m : MethodId) (o0 : Addr) (x1 : UInt64) : entryFrame m #[(.ref o0), (.double x1)] 3 = mkF m 0 #[.val (.ref o0), .val (.double x1), .second] [] := by first | (simp [entryFrame, mkF, argsToLocals, Value.category]; done) | rfl
def Q3 (Z : State) (o0 : Addr) (x1 : UInt64) (h0 : Heap) (n0 : Nat) (v : Option Value) (h : Heap) (L : List Loc) : Prop := v = none ∧ Fr n0 L ∧ h = h0
set_option maxRecDepth 65536 in
set_option maxHeartbeats 40000000 in
theorem rm3 (l : Launch) (Z : State) (a0 : Array Value) (hw : ∀ d ∈ tables_1, d.before a0 Z = true) (ws : List Jvm.Cond) (o0 : Addr) (x1 : UInt64) (h0 : Heap) (n0 : Nat) (Z0 : n0 ≤ h0.size) (hlo : ¬ (cmpValue (FP.dcmp x1 (FP.i2d (-(180 : Int32)))) .l) < (0 : Int32)) (hhi : ¬ (0 : Int32) < (cmpValue (FP.dcmp x1 (FP.i2d (180 : Int32))) .g)) :
    MetFree l (⟨"com/example/flok/flok/geo/Coordinates", "checkLongitude", "(Ljava/lang/String;D)V"⟩ : MethodName) (head1 (Jvm.Cond.code (⟨"com/example/flok/flok/geo/Coordinates", "checkLongitude", "(Ljava/lang/String;D)V"⟩ : MethodName) prog_26_method_2_code 3 none :: ws) Rm3) (fun a U => a = #[(.ref o0), (.double x1)] ∧ Z.Warmed39 U.vm ∧ U.heap = h0) (fun _ _ _ _ _ => True) (fun _ U o U' => ∃ v L, o = .returned v ∧ Q3 Z o0 x1 h0 n0 v U'.heap L ∧ FrameEnd U o U' L Rm3.cells Rm3.slots) := by
  refine MetFree.of_bodySF (plainFor_of_name pn0) hisR ?_
  intro p e s m args below meth c s₁ Bd hml0 hP hK
  obtain ⟨rfl, hZ, hh⟩ := hP
  have hx := Bd.exec
  have hby := Bd.bytes
  have hml : c.maxLocals = 3 := hml0
  have hown : s.vm.findClass "com/example/flok/flok/geo/Coordinates" = some m.cls := findClass_of_methodNamed Bd.named
  have hnm := (name_of_methodNamed Bd.named Bd.method).1
  have X0 : Stand p l e Rm3 s m #[(.ref o0), (.double x1)] below meth c s₁ [] 0 0 := Stand.of_body Bd
  have e0 : s₁.heap = h0 := by rw [← hh, Bd.state]; rfl
  have N0 := Fr.nil n0
  show Dn p e below s Rm3.cells Rm3.slots (Q3 Z o0 x1 h0 n0) (s₁.setTop (entryFrame m #[(.ref o0), (.double x1)] 3))
  rw [ef_3]
  refine Dn.by (U' := s₁.setTop (mkF m 1 #[.val (.ref o0), .val (.double x1), .second] [(.ref o0)])) (fun _ ks => XS.aloadN X0.here hx rfl (hb hby d3_0) rfl rfl ks) ?_
  refine Dn.by (U' := s₁.setTop (mkF m 2 #[.val (.ref o0), .val (.double x1), .second] [(.double x1), (.ref o0)])) (fun _ ks => XS.dloadN X0.here hx rfl (hb hby d3_1) rfl ks) ?_
  refine Dn.by (U' := s₁.setTop (mkF m 5 #[.val (.ref o0), .val (.double x1), .second] [(.int (180 : Int32)), (.double x1), (.ref o0)])) (fun _ ks => XS.sipush X0.here hx rfl (hb hby d3_2)  ks) ?_
  obtain ⟨_, _, ⟨T1, L1, k1, n1⟩, -, X1, ⟨Lc1, hQ1, l1, y1, z1⟩, st1⟩ := Jvm.LawKit.callS X0 hx (y := (⟨"com/example/flok/flok/geo/Coordinates", "checkRange", "(Ljava/lang/String;DI)V"⟩ : MethodName)) hown (mvT hZ (hw _ (List.mem_of_getElem? (i := 22) rfl))) (mvT hZ (hw _ (List.mem_of_getElem? (i := 23) rfl))) (mvT hZ (hw _ (List.mem_of_getElem? (i := 20) rfl))) (mvT hZ (hw _ (List.mem_of_getElem? (i := 24) rfl))) (by decide) (backOf (W := 0) (rm4 l Z a0 hw [] o0 x1 (180 : Int32)  h0 n0 Z0 hlo hhi) hZ (hw _ (List.mem_of_getElem? (i := 24) rfl)) (hw _ (List.mem_of_getElem? (i := 20) rfl)) (by decide) (by decide)) (g := (mkF m 5 #[.val (.ref o0), .val (.double x1), .second] [(.int (180 : Int32)), (.double x1), (.ref o0)])) rfl (by rw [hml]; rfl) (argsL := [(.ref o0), (.double x1), (.int (180 : Int32))]) (rest := []) (lenOf pd0 rfl) rfl (by show 2 * 0 + _ ≤ _; exact Nat.le_of_eq rfl) (hb hby d3_5) (fun _ _ => ⟨rfl, e0, (by decide : 0 + 0 ≤ _), (by decide : 0 + 0 ≤ _)⟩)
  dsimp only [Pt.U, Pt.locs, Pt.cells, Pt.slots] at X1 l1 y1 z1 st1 hQ1
  rw [l1, y1, z1] at X1
  obtain ⟨rfl, N1q, e1⟩ := hQ1
  have N1 := Fr.app N0 N1q
  refine Dn.by (U' := T1.setTop (mkF m 8 #[.val (.ref o0), .val (.double x1), .second] [])) st1 ?_
  refine Dn.out X1 (v := none) (fun _ => rfl) (BodyLoose.notSynchronized Bd) (fun _ hr => X1.returnOut hx Bd.returns (hb hby d3_8) hr) (by decide) (by decide) ?_
  rw [e1]
  exact ⟨rfl, N1, rfl⟩
abbrev Rm5 : Room := { frames := 1, cells := 0, slots := 0, locals := 15 }
theorem ef_5 (m : MethodId) (o0 : Addr) (x1 : UInt64) : entryFrame m #[(.ref o0), (.double x1)] 3 = mkF m 0 #[.val (.ref o0), .val (.double x1), .second] [] := by first | (simp [entryFrame, mkF, argsToLocals, Value.category]; done) | rfl
def Q5 (Z : State) (o0 : Addr) (x1 : UInt64) (h0 : Heap) (n0 : Nat) (v : Option Value) (h : Heap) (L : List Loc) : Prop := v = none ∧ Fr n0 L ∧ h = h0
set_option maxRecDepth 65536 in
set_option maxHeartbeats 40000000 in
theorem rm5 (l : Launch) (Z : State) (a0 : Array Value) (hw : ∀ d ∈ tables_1, d.before a0 Z = true) (ws : List Jvm.Cond) (o0 : Addr) (x1 : UInt64) (h0 : Heap) (n0 : Nat) (Z0 : n0 ≤ h0.size) (hlo : ¬ (cmpValue (FP.dcmp x1 (FP.i2d (-(90 : Int32)))) .l) < (0 : Int32)) (hhi : ¬ (0 : Int32) < (cmpValue (FP.dcmp x1 (FP.i2d (90 : Int32))) .g)) :
    MetFree l (⟨"com/example/flok/flok/geo/Coordinates", "checkLatitude", "(Ljava/lang/String;D)V"⟩ : MethodName) (head1 (Jvm.Cond.code (⟨"com/example/flok/flok/geo/Coordinates", "checkLatitude", "(Ljava/lang/String;D)V"⟩ : MethodName) prog_26_method_3_code 3 none :: ws) Rm5) (fun a U => a = #[(.ref o0), (.double x1)] ∧ Z.Warmed39 U.vm ∧ U.heap = h0) (fun _ _ _ _ _ => True) (fun _ U o U' => ∃ v L, o = .returned v ∧ Q5 Z o0 x1 h0 n0 v U'.heap L ∧ FrameEnd U o U' L Rm5.cells Rm5.slots) := by
  refine MetFree.of_bodySF (plainFor_of_name pn0) hisR ?_
  intro p e s m args below meth c s₁ Bd hml0 hP hK
  obtain ⟨rfl, hZ, hh⟩ := hP
  have hx := Bd.exec
  have hby := Bd.bytes
  have hml : c.maxLocals = 3 := hml0
  have hown : s.vm.findClass "com/example/flok/flok/geo/Coordinates" = some m.cls := findClass_of_methodNamed Bd.named
  have hnm := (name_of_methodNamed Bd.named Bd.method).1
  have X0 : Stand p l e Rm5 s m #[(.ref o0), (.double x1)] below meth c s₁ [] 0 0 := Stand.of_body Bd
  have e0 : s₁.heap = h0 := by rw [← hh, Bd.state]; rfl
  have N0 := Fr.nil n0
  show Dn p e below s Rm5.cells Rm5.slots (Q5 Z o0 x1 h0 n0) (s₁.setTop (entryFrame m #[(.ref o0), (.double x1)] 3))
  rw [ef_5]
  refine Dn.by (U' := s₁.setTop (mkF m 1 #[.val (.ref o0), .val (.double x1), .second] [(.ref o0)])) (fun _ ks => XS.aloadN X0.here hx rfl (hb hby d5_0) rfl rfl ks) ?_
  refine Dn.by (U' := s₁.setTop (mkF m 2 #[.val (.ref o0), .val (.double x1), .second] [(.double x1), (.ref o0)])) (fun _ ks => XS.dloadN X0.here hx rfl (hb hby d5_1) rfl ks) ?_
  refine Dn.by (U' := s₁.setTop (mkF m 4 #[.val (.ref o0), .val (.double x1), .second] [(.int (90 : Int32)), (.double x1), (.ref o0)])) (fun _ ks => XS.bipush X0.here hx rfl (hb hby d5_2)  ks) ?_
  obtain ⟨_, _, ⟨T1, L1, k1, n1⟩, -, X1, ⟨Lc1, hQ1, l1, y1, z1⟩, st1⟩ := Jvm.LawKit.callS X0 hx (y := (⟨"com/example/flok/flok/geo/Coordinates", "checkRange", "(Ljava/lang/String;DI)V"⟩ : MethodName)) hown (mvT hZ (hw _ (List.mem_of_getElem? (i := 22) rfl))) (mvT hZ (hw _ (List.mem_of_getElem? (i := 23) rfl))) (mvT hZ (hw _ (List.mem_of_getElem? (i := 20) rfl))) (mvT hZ (hw _ (List.mem_of_getElem? (i := 24) rfl))) (by decide) (backOf (W := 0) (rm4 l Z a0 hw [] o0 x1 (90 : Int32)  h0 n0 Z0 hlo hhi) hZ (hw _ (List.mem_of_getElem? (i := 24) rfl)) (hw _ (List.mem_of_getElem? (i := 20) rfl)) (by decide) (by decide)) (g := (mkF m 4 #[.val (.ref o0), .val (.double x1), .second] [(.int (90 : Int32)), (.double x1), (.ref o0)])) rfl (by rw [hml]; rfl) (argsL := [(.ref o0), (.double x1), (.int (90 : Int32))]) (rest := []) (lenOf pd0 rfl) rfl (by show 2 * 0 + _ ≤ _; exact Nat.le_of_eq rfl) (hb hby d5_4) (fun _ _ => ⟨rfl, e0, (by decide : 0 + 0 ≤ _), (by decide : 0 + 0 ≤ _)⟩)
  dsimp only [Pt.U, Pt.locs, Pt.cells, Pt.slots] at X1 l1 y1 z1 st1 hQ1
  rw [l1, y1, z1] at X1
  obtain ⟨rfl, N1q, e1⟩ := hQ1
  have N1 := Fr.app N0 N1q
  refine Dn.by (U' := T1.setTop (mkF m 7 #[.val (.ref o0), .val (.double x1), .second] [])) st1 ?_
  refine Dn.out X1 (v := none) (fun _ => rfl) (BodyLoose.notSynchronized Bd) (fun _ hr => X1.returnOut hx Bd.returns (hb hby d5_7) hr) (by decide) (by decide) ?_
  rw [e1]
  exact ⟨rfl, N1, rfl⟩
abbrev Rm1 : Room := { frames := 2, cells := 8, slots := 88, locals := 29 }
theorem ef_1 (m : MethodId) (o0 : Addr) (x1 : UInt64) (x2 : UInt64) (x3 : UInt64) (x4 : UInt64) : entryFrame m #[(.ref o0), (.double x1), (.double x2), (.double x3), (.double x4)] 9 = mkF m 0 #[.val (.ref o0), .val (.double x1), .second, .val (.double x2), .second, .val (.double x3), .second, .val (.double x4), .second] [] := by first | (simp [entryFrame, mkF, argsToLocals, Value.category]; done) | rfl
def Q1 (Z : State) (o0 : Addr) (x1 : UInt64) (x2 : UInt64) (x3 : UInt64) (x4 : UInt64) (u_west_o0 : Value) (u_south_o0 : Value) (u_east_o0 : Value) (u_north_o0 : Value) (h0 : Heap) (n0 : Nat) (v : Option Value) (h : Heap) (L : List Loc) : Prop := v = none ∧ Fr n0 L ∧ Keep h0 h [o0] ∧ Exa Z h o0 "com/example/flok/flok/geo/Box" ∧ Fld Z h o0 "com/example/flok/flok/geo/Box" "west" "D" (.double x1) ∧ Fld Z h o0 "com/example/flok/flok/geo/Box" "south" "D" (.double x2) ∧ Fld Z h o0 "com/example/flok/flok/geo/Box" "east" "D" (.double x3) ∧ Fld Z h o0 "com/example/flok/flok/geo/Box" "north" "D" (.double x4)
set_option maxRecDepth 65536 in
set_option maxHeartbeats 40000000 in
theorem rm1 (l : Launch) (Z : State) (a0 : Array Value) (hw : ∀ d ∈ tables_1, d.before a0 Z = true) (ws : List Jvm.Cond) (o0 : Addr) (x1 : UInt64) (x2 : UInt64) (x3 : UInt64) (x4 : UInt64) (u_west_o0 : Value) (u_south_o0 : Value) (u_east_o0 : Value) (u_north_o0 : Value) (h0 : Heap) (n0 : Nat) (Z0 : n0 ≤ h0.size) (hlo_x1 : ¬ (cmpValue (FP.dcmp x1 (FP.i2d (-(180 : Int32)))) .l) < (0 : Int32)) (hhi_x1 : ¬ (0 : Int32) < (cmpValue (FP.dcmp x1 (FP.i2d (180 : Int32))) .g)) (hlo_x2 : ¬ (cmpValue (FP.dcmp x2 (FP.i2d (-(90 : Int32)))) .l) < (0 : Int32)) (hhi_x2 : ¬ (0 : Int32) < (cmpValue (FP.dcmp x2 (FP.i2d (90 : Int32))) .g)) (hlo_x3 : ¬ (cmpValue (FP.dcmp x3 (FP.i2d (-(180 : Int32)))) .l) < (0 : Int32)) (hhi_x3 : ¬ (0 : Int32) < (cmpValue (FP.dcmp x3 (FP.i2d (180 : Int32))) .g)) (hlo_x4 : ¬ (cmpValue (FP.dcmp x4 (FP.i2d (-(90 : Int32)))) .l) < (0 : Int32)) (hhi_x4 : ¬ (0 : Int32) < (cmpValue (FP.dcmp x4 (FP.i2d (90 : Int32))) .g)) (hwe : ¬ (0 : Int32) < (cmpValue (FP.dcmp x1 x3) .l)) (hsn : ¬ (0 : Int32) < (cmpValue (FP.dcmp x2 x4) .l)) (g_o0 : n0 ≤ o0) (E_o0 : Exa Z h0 o0 "com/example/flok/flok/geo/Box") (F_u_west_o0 : Fld Z h0 o0 "com/example/flok/flok/geo/Box" "west" "D" u_west_o0) (F_u_south_o0 : Fld Z h0 o0 "com/example/flok/flok/geo/Box" "south" "D" u_south_o0) (F_u_east_o0 : Fld Z h0 o0 "com/example/flok/flok/geo/Box" "east" "D" u_east_o0) (F_u_north_o0 : Fld Z h0 o0 "com/example/flok/flok/geo/Box" "north" "D" u_north_o0) :
    MetFree l (⟨"com/example/flok/flok/geo/Box", "<init>", "(DDDD)V"⟩ : MethodName) (head1 (Jvm.Cond.code (⟨"com/example/flok/flok/geo/Box", "<init>", "(DDDD)V"⟩ : MethodName) prog_20_method_1_code 9 none :: ws) Rm1) (fun a U => a = #[(.ref o0), (.double x1), (.double x2), (.double x3), (.double x4)] ∧ Z.Warmed39 U.vm ∧ U.heap = h0 ∧ CHv Z EL U.vm h0 ∧ ∀ x ∈ ([] : List Addr), Safe Z EL U.vm h0 x) (fun _ _ _ _ _ => True) (fun _ U o U' => ∃ v L, o = .returned v ∧ Q1 Z o0 x1 x2 x3 x4 u_west_o0 u_south_o0 u_east_o0 u_north_o0 h0 n0 v U'.heap L ∧ CHr Z EL U.vm U.heap U'.vm U'.heap ∧ ReturnedEndW U o U' L Rm1.cells Rm1.slots) := by
  refine MetFree.of_bodySF (plainFor_of_name pn1) hisR ?_
  intro p e s m args below meth c s₁ Bd hml0 hP hK
  obtain ⟨rfl, hZ, hh, hCH, hSL⟩ := hP
  have hx := Bd.exec
  have hby := Bd.bytes
  have hml : c.maxLocals = 9 := hml0
  have hown : s.vm.findClass "com/example/flok/flok/geo/Box" = some m.cls := findClass_of_methodNamed Bd.named
  have hnm := (name_of_methodNamed Bd.named Bd.method).1
  have X0 : Stand p l e Rm1 (s.setVm s.vm) m #[(.ref o0), (.double x1), (.double x2), (.double x3), (.double x4)] below meth c s₁ [] 0 0 := Stand.of_body Bd
  have hS0 : s.Since s.vm 0 := (State.WarmedH.refl s).since 0
  have hk0 : 0 ≤ h0.size := Nat.zero_le _
  have C0 : CHr Z EL s.vm h0 s.vm h0 := CHr.refl hCH
  have hEL : EW Z a0 EL := own_EL hw
  have e0 : s₁.heap = h0 := by rw [← hh, Bd.state]; rfl
  have N0 := Fr.nil n0
  show DnW p e below s EL Z Rm1.cells Rm1.slots (Q1 Z o0 x1 x2 x3 x4 u_west_o0 u_south_o0 u_east_o0 u_north_o0 h0 n0) (s₁.setTop (entryFrame m #[(.ref o0), (.double x1), (.double x2), (.double x3), (.double x4)] 9))
  rw [ef_1]
  refine DnW.by (U' := s₁.setTop (mkF m 1 #[.val (.ref o0), .val (.double x1), .second, .val (.double x2), .second, .val (.double x3), .second, .val (.double x4), .second] [(.ref o0)])) (fun _ ks => XS.aloadN X0.here hx rfl (hb hby d1_0) rfl rfl ks) ?_
  obtain ⟨T1, X1, e1, st1⟩ := initO X0 hx hZ hown (hw _ (List.mem_of_getElem? (i := 7) rfl)) (hw _ (List.mem_of_getElem? (i := 8) rfl)) (hw _ (List.mem_of_getElem? (i := 9) rfl)) e0 (g := (mkF m 1 #[.val (.ref o0), .val (.double x1), .second, .val (.double x2), .second, .val (.double x3), .second, .val (.double x4), .second] [(.ref o0)])) rfl (by rw [hml]; rfl) rfl (hb hby d1_1) (by decide) (W := 0) (by show 2 * 0 + _ ≤ _; exact Nat.le_of_eq rfl) (by decide)
  refine DnW.by (U' := T1.setTop (mkF m 4 #[.val (.ref o0), .val (.double x1), .second, .val (.double x2), .second, .val (.double x3), .second, .val (.double x4), .second] [])) st1 ?_
  obtain ⟨b2, T2, h2, kS2, X2, e2, E2, hS2, hk2, hZ, hown, CC2, Lt2, st2⟩ := ldcOH X1 hx hZ hown (hw _ (List.mem_of_getElem? (i := 10) rfl)) (own_strW hw) e1 hS0 hk0 hEL C0.1 (g := (mkF m 4 #[.val (.ref o0), .val (.double x1), .second, .val (.double x2), .second, .val (.double x3), .second, .val (.double x4), .second] [])) rfl (hb hby d1_4) (n := 16) (by decide) (by decide) (by decide) (by decide)
  have K3 : Keep h0 h2 [o0] := ((Keep.refl h0 [o0]).ext E2)
  have z3 : n0 ≤ h2.size := (Nat.le_trans Z0 E2.1)
  have C3 : CHr Z EL s.vm h0 T2.vm h2 := C0.trans CC2
  refine DnW.by (U' := T2.setTop (mkF m 6 #[.val (.ref o0), .val (.double x1), .second, .val (.double x2), .second, .val (.double x3), .second, .val (.double x4), .second] [(.ref b2)])) st2 ?_
  refine DnW.by (U' := T2.setTop (mkF m 7 #[.val (.ref o0), .val (.double x1), .second, .val (.double x2), .second, .val (.double x3), .second, .val (.double x4), .second] [(.double x1), (.ref b2)])) (fun _ ks => XS.dloadN X2.here hx rfl (hb hby d1_6) rfl ks) ?_
  obtain ⟨_, _, ⟨T4, L4, k4, n4⟩, -, X4, ⟨Lc4, hQ4, l4, y4, z4⟩, st4⟩ := Jvm.LawKit.callS X2 hx (y := (⟨"com/example/flok/flok/geo/Coordinates", "checkLongitude", "(Ljava/lang/String;D)V"⟩ : MethodName)) hown (mvT hZ (hw _ (List.mem_of_getElem? (i := 18) rfl))) (mvT hZ (hw _ (List.mem_of_getElem? (i := 19) rfl))) (mvT hZ (hw _ (List.mem_of_getElem? (i := 20) rfl))) (mvT hZ (hw _ (List.mem_of_getElem? (i := 21) rfl))) (by decide) (backOf (W := 0) (rm3 l Z a0 hw [] b2 x1  h2 n0 z3 hlo_x1 hhi_x1) hZ (hw _ (List.mem_of_getElem? (i := 21) rfl)) (hw _ (List.mem_of_getElem? (i := 20) rfl)) (by decide) (by decide)) (g := (mkF m 7 #[.val (.ref o0), .val (.double x1), .second, .val (.double x2), .second, .val (.double x3), .second, .val (.double x4), .second] [(.double x1), (.ref b2)])) rfl (by rw [hml]; rfl) (argsL := [(.ref b2), (.double x1)]) (rest := []) (lenOf pd1 rfl) rfl (by show 2 * 0 + _ ≤ _; exact Nat.le_of_eq rfl) (hb hby d1_7) (fun _ _ => ⟨rfl, e2, (by decide : 2 + 0 ≤ _), (by decide : 20 + 0 ≤ _)⟩)
  dsimp only [Pt.U, Pt.locs, Pt.cells, Pt.slots] at X4 l4 y4 z4 st4 hQ4
  rw [l4, y4, z4] at X4
  obtain ⟨rfl, N4q, e4⟩ := hQ4
  have N4 := Fr.app N0 N4q
  refine DnW.by (U' := T4.setTop (mkF m 10 #[.val (.ref o0), .val (.double x1), .second, .val (.double x2), .second, .val (.double x3), .second, .val (.double x4), .second] [])) st4 ?_
  obtain ⟨b5, T5, h5, kS5, X5, e5, E5, hS5, hk5, hZ, hown, CC5, Lt5, st5⟩ := ldcOH X4 hx hZ hown (hw _ (List.mem_of_getElem? (i := 25) rfl)) (own_strW hw) e4 hS2 hk2 hEL C3.1 (g := (mkF m 10 #[.val (.ref o0), .val (.double x1), .second, .val (.double x2), .second, .val (.double x3), .second, .val (.double x4), .second] [])) rfl (hb hby d1_10) (n := 20) (by decide) (by decide) (by decide) (by decide)
  have K6 : Keep h0 h5 [o0] := (K3.ext E5)
  have z6 : n0 ≤ h5.size := (Nat.le_trans z3 E5.1)
  have C6 : CHr Z EL s.vm h0 T5.vm h5 := C3.trans CC5
  refine DnW.by (U' := T5.setTop (mkF m 12 #[.val (.ref o0), .val (.double x1), .second, .val (.double x2), .second, .val (.double x3), .second, .val (.double x4), .second] [(.ref b5)])) st5 ?_
  refine DnW.by (U' := T5.setTop (mkF m 13 #[.val (.ref o0), .val (.double x1), .second, .val (.double x2), .second, .val (.double x3), .second, .val (.double x4), .second] [(.double x2), (.ref b5)])) (fun _ ks => XS.dloadN X5.here hx rfl (hb hby d1_12) rfl ks) ?_
  obtain ⟨_, _, ⟨T7, L7, k7, n7⟩, -, X7, ⟨Lc7, hQ7, l7, y7, z7⟩, st7⟩ := Jvm.LawKit.callS X5 hx (y := (⟨"com/example/flok/flok/geo/Coordinates", "checkLatitude", "(Ljava/lang/String;D)V"⟩ : MethodName)) hown (mvT hZ (hw _ (List.mem_of_getElem? (i := 26) rfl))) (mvT hZ (hw _ (List.mem_of_getElem? (i := 27) rfl))) (mvT hZ (hw _ (List.mem_of_getElem? (i := 20) rfl))) (mvT hZ (hw _ (List.mem_of_getElem? (i := 28) rfl))) (by decide) (backOf (W := 0) (rm5 l Z a0 hw [] b5 x2  h5 n0 z6 hlo_x2 hhi_x2) hZ (hw _ (List.mem_of_getElem? (i := 28) rfl)) (hw _ (List.mem_of_getElem? (i := 20) rfl)) (by decide) (by decide)) (g := (mkF m 13 #[.val (.ref o0), .val (.double x1), .second, .val (.double x2), .second, .val (.double x3), .second, .val (.double x4), .second] [(.double x2), (.ref b5)])) rfl (by rw [hml]; rfl) (argsL := [(.ref b5), (.double x2)]) (rest := []) (lenOf pd1 rfl) rfl (by show 2 * 0 + _ ≤ _; exact Nat.le_of_eq rfl) (hb hby d1_13) (fun _ _ => ⟨rfl, e5, (by decide : 4 + 0 ≤ _), (by decide : 44 + 0 ≤ _)⟩)
  dsimp only [Pt.U, Pt.locs, Pt.cells, Pt.slots] at X7 l7 y7 z7 st7 hQ7
  rw [l7, y7, z7] at X7
  obtain ⟨rfl, N7q, e7⟩ := hQ7
  have N7 := Fr.app N4 N7q
  refine DnW.by (U' := T7.setTop (mkF m 16 #[.val (.ref o0), .val (.double x1), .second, .val (.double x2), .second, .val (.double x3), .second, .val (.double x4), .second] [])) st7 ?_
  obtain ⟨b8, T8, h8, kS8, X8, e8, E8, hS8, hk8, hZ, hown, CC8, Lt8, st8⟩ := ldcOH X7 hx hZ hown (hw _ (List.mem_of_getElem? (i := 29) rfl)) (own_strW hw) e7 hS5 hk5 hEL C6.1 (g := (mkF m 16 #[.val (.ref o0), .val (.double x1), .second, .val (.double x2), .second, .val (.double x3), .second, .val (.double x4), .second] [])) rfl (hb hby d1_16) (n := 16) (by decide) (by decide) (by decide) (by decide)
  have K9 : Keep h0 h8 [o0] := (K6.ext E8)
  have z9 : n0 ≤ h8.size := (Nat.le_trans z6 E8.1)
  have C9 : CHr Z EL s.vm h0 T8.vm h8 := C6.trans CC8
  refine DnW.by (U' := T8.setTop (mkF m 18 #[.val (.ref o0), .val (.double x1), .second, .val (.double x2), .second, .val (.double x3), .second, .val (.double x4), .second] [(.ref b8)])) st8 ?_
  refine DnW.by (U' := T8.setTop (mkF m 20 #[.val (.ref o0), .val (.double x1), .second, .val (.double x2), .second, .val (.double x3), .second, .val (.double x4), .second] [(.double x3), (.ref b8)])) (fun _ ks => XS.dload X8.here hx rfl (hb hby d1_18) rfl ks) ?_
  obtain ⟨_, _, ⟨T10, L10, k10, n10⟩, -, X10, ⟨Lc10, hQ10, l10, y10, z10⟩, st10⟩ := Jvm.LawKit.callS X8 hx (y := (⟨"com/example/flok/flok/geo/Coordinates", "checkLongitude", "(Ljava/lang/String;D)V"⟩ : MethodName)) hown (mvT hZ (hw _ (List.mem_of_getElem? (i := 18) rfl))) (mvT hZ (hw _ (List.mem_of_getElem? (i := 19) rfl))) (mvT hZ (hw _ (List.mem_of_getElem? (i := 20) rfl))) (mvT hZ (hw _ (List.mem_of_getElem? (i := 21) rfl))) (by decide) (backOf (W := 0) (rm3 l Z a0 hw [] b8 x3  h8 n0 z9 hlo_x3 hhi_x3) hZ (hw _ (List.mem_of_getElem? (i := 21) rfl)) (hw _ (List.mem_of_getElem? (i := 20) rfl)) (by decide) (by decide)) (g := (mkF m 20 #[.val (.ref o0), .val (.double x1), .second, .val (.double x2), .second, .val (.double x3), .second, .val (.double x4), .second] [(.double x3), (.ref b8)])) rfl (by rw [hml]; rfl) (argsL := [(.ref b8), (.double x3)]) (rest := []) (lenOf pd1 rfl) rfl (by show 2 * 0 + _ ≤ _; exact Nat.le_of_eq rfl) (hb hby d1_20) (fun _ _ => ⟨rfl, e8, (by decide : 6 + 0 ≤ _), (by decide : 64 + 0 ≤ _)⟩)
  dsimp only [Pt.U, Pt.locs, Pt.cells, Pt.slots] at X10 l10 y10 z10 st10 hQ10
  rw [l10, y10, z10] at X10
  obtain ⟨rfl, N10q, e10⟩ := hQ10
  have N10 := Fr.app N7 N10q
  refine DnW.by (U' := T10.setTop (mkF m 23 #[.val (.ref o0), .val (.double x1), .second, .val (.double x2), .second, .val (.double x3), .second, .val (.double x4), .second] [])) st10 ?_
  obtain ⟨b11, T11, h11, kS11, X11, e11, E11, hS11, hk11, hZ, hown, CC11, Lt11, st11⟩ := ldcOH X10 hx hZ hown (hw _ (List.mem_of_getElem? (i := 30) rfl)) (own_strW hw) e10 hS8 hk8 hEL C9.1 (g := (mkF m 23 #[.val (.ref o0), .val (.double x1), .second, .val (.double x2), .second, .val (.double x3), .second, .val (.double x4), .second] [])) rfl (hb hby d1_23) (n := 20) (by decide) (by decide) (by decide) (by decide)
  have K12 : Keep h0 h11 [o0] := (K9.ext E11)
  have z12 : n0 ≤ h11.size := (Nat.le_trans z9 E11.1)
  have C12 : CHr Z EL s.vm h0 T11.vm h11 := C9.trans CC11
  refine DnW.by (U' := T11.setTop (mkF m 25 #[.val (.ref o0), .val (.double x1), .second, .val (.double x2), .second, .val (.double x3), .second, .val (.double x4), .second] [(.ref b11)])) st11 ?_
  refine DnW.by (U' := T11.setTop (mkF m 27 #[.val (.ref o0), .val (.double x1), .second, .val (.double x2), .second, .val (.double x3), .second, .val (.double x4), .second] [(.double x4), (.ref b11)])) (fun _ ks => XS.dload X11.here hx rfl (hb hby d1_25) rfl ks) ?_
  obtain ⟨_, _, ⟨T13, L13, k13, n13⟩, -, X13, ⟨Lc13, hQ13, l13, y13, z13⟩, st13⟩ := Jvm.LawKit.callS X11 hx (y := (⟨"com/example/flok/flok/geo/Coordinates", "checkLatitude", "(Ljava/lang/String;D)V"⟩ : MethodName)) hown (mvT hZ (hw _ (List.mem_of_getElem? (i := 26) rfl))) (mvT hZ (hw _ (List.mem_of_getElem? (i := 27) rfl))) (mvT hZ (hw _ (List.mem_of_getElem? (i := 20) rfl))) (mvT hZ (hw _ (List.mem_of_getElem? (i := 28) rfl))) (by decide) (backOf (W := 0) (rm5 l Z a0 hw [] b11 x4  h11 n0 z12 hlo_x4 hhi_x4) hZ (hw _ (List.mem_of_getElem? (i := 28) rfl)) (hw _ (List.mem_of_getElem? (i := 20) rfl)) (by decide) (by decide)) (g := (mkF m 27 #[.val (.ref o0), .val (.double x1), .second, .val (.double x2), .second, .val (.double x3), .second, .val (.double x4), .second] [(.double x4), (.ref b11)])) rfl (by rw [hml]; rfl) (argsL := [(.ref b11), (.double x4)]) (rest := []) (lenOf pd1 rfl) rfl (by show 2 * 0 + _ ≤ _; exact Nat.le_of_eq rfl) (hb hby d1_27) (fun _ _ => ⟨rfl, e11, (by decide : 8 + 0 ≤ _), (by decide : 88 + 0 ≤ _)⟩)
  dsimp only [Pt.U, Pt.locs, Pt.cells, Pt.slots] at X13 l13 y13 z13 st13 hQ13
  rw [l13, y13, z13] at X13
  obtain ⟨rfl, N13q, e13⟩ := hQ13
  have N13 := Fr.app N10 N13q
  refine DnW.by (U' := T13.setTop (mkF m 30 #[.val (.ref o0), .val (.double x1), .second, .val (.double x2), .second, .val (.double x3), .second, .val (.double x4), .second] [])) st13 ?_
  refine DnW.by (U' := T13.setTop (mkF m 31 #[.val (.ref o0), .val (.double x1), .second, .val (.double x2), .second, .val (.double x3), .second, .val (.double x4), .second] [(.double x1)])) (fun _ ks => XS.dloadN X13.here hx rfl (hb hby d1_30) rfl ks) ?_
  refine DnW.by (U' := T13.setTop (mkF m 33 #[.val (.ref o0), .val (.double x1), .second, .val (.double x2), .second, .val (.double x3), .second, .val (.double x4), .second] [(.double x3), (.double x1)])) (fun _ ks => XS.dload X13.here hx rfl (hb hby d1_31) rfl ks) ?_
  refine DnW.by (U' := T13.setTop (mkF m 34 #[.val (.ref o0), .val (.double x1), .second, .val (.double x2), .second, .val (.double x3), .second, .val (.double x4), .second] [(.int (cmpValue (FP.dcmp x1 x3) .l))])) (fun _ ks => XS.dcmpS X13.here hx rfl (hb hby d1_33) rfl rfl ks) ?_
  refine DnW.by (U' := T13.setTop (mkF m 53 #[.val (.ref o0), .val (.double x1), .second, .val (.double x2), .second, .val (.double x3), .second, .val (.double x4), .second] [])) (fun _ ks => XS.ifYes X13.here hx rfl (pc0 := 34) (pc' := 53) rfl (hb hby d1_34) rfl ((if0 _ _).trans (flt hwe).2.2.2) (by decide) (by decide) ks) ?_
  refine DnW.by (U' := T13.setTop (mkF m 54 #[.val (.ref o0), .val (.double x1), .second, .val (.double x2), .second, .val (.double x3), .second, .val (.double x4), .second] [(.double x2)])) (fun _ ks => XS.dloadN X13.here hx rfl (hb hby d1_53) rfl ks) ?_
  refine DnW.by (U' := T13.setTop (mkF m 56 #[.val (.ref o0), .val (.double x1), .second, .val (.double x2), .second, .val (.double x3), .second, .val (.double x4), .second] [(.double x4), (.double x2)])) (fun _ ks => XS.dload X13.here hx rfl (hb hby d1_54) rfl ks) ?_
  refine DnW.by (U' := T13.setTop (mkF m 57 #[.val (.ref o0), .val (.double x1), .second, .val (.double x2), .second, .val (.double x3), .second, .val (.double x4), .second] [(.int (cmpValue (FP.dcmp x2 x4) .l))])) (fun _ ks => XS.dcmpS X13.here hx rfl (hb hby d1_56) rfl rfl ks) ?_
  refine DnW.by (U' := T13.setTop (mkF m 76 #[.val (.ref o0), .val (.double x1), .second, .val (.double x2), .second, .val (.double x3), .second, .val (.double x4), .second] [])) (fun _ ks => XS.ifYes X13.here hx rfl (pc0 := 57) (pc' := 76) rfl (hb hby d1_57) rfl ((if0 _ _).trans (flt hsn).2.2.2) (by decide) (by decide) ks) ?_
  refine DnW.by (U' := T13.setTop (mkF m 77 #[.val (.ref o0), .val (.double x1), .second, .val (.double x2), .second, .val (.double x3), .second, .val (.double x4), .second] [(.ref o0)])) (fun _ ks => XS.aloadN X13.here hx rfl (hb hby d1_76) rfl rfl ks) ?_
  refine DnW.by (U' := T13.setTop (mkF m 78 #[.val (.ref o0), .val (.double x1), .second, .val (.double x2), .second, .val (.double x3), .second, .val (.double x4), .second] [(.double x1), (.ref o0)])) (fun _ ks => XS.dloadN X13.here hx rfl (hb hby d1_77) rfl ks) ?_
  obtain ⟨T14, h14, X14, e14, W14, st14⟩ := putF X13 hx hZ hown (host := "") (Or.inl (hw _ (List.mem_of_getElem? (i := 31) rfl))) Via.refl e13 ((((F_u_west_o0.ext E2).ext E5).ext E8).ext E11) ((((E_o0.ext E2).ext E5).ext E8).ext E11) (Or.inr ⟨(hw _ (List.mem_of_getElem? (i := 32) rfl)), rfl, hnm⟩) (hw _ (List.mem_of_getElem? (i := 2) rfl)) (ty := .double) (by decide) rfl rfl (g := (mkF m 78 #[.val (.ref o0), .val (.double x1), .second, .val (.double x2), .second, .val (.double x3), .second, .val (.double x4), .second] [(.double x1), (.ref o0)])) rfl rfl (hb hby d1_78)
  have F14 := ((((F_u_west_o0.ext E2).ext E5).ext E8).ext E11).same W14
  have K15 : Keep h0 h14 [o0] := (K12.wr W14 (Or.inl (List.mem_of_getElem? (i := 0) rfl)))
  have z15 : n0 ≤ h14.size := (Nat.le_trans z12 (Keep.of_wr W14).1)
  have C15 : CHr Z EL s.vm h0 T11.vm h14 := C12.trans (CHr.wr W14 (Safe.exa hZ.alike ((((E_o0.ext E2).ext E5).ext E8).ext E11) (by decide) (by decide)) C12.1)
  have hk15 : _ ≤ h14.size := Nat.le_trans hk11 (Keep.of_wr W14).1
  have N14 := Fr.snoc X14 N13 g_o0
  refine DnW.by (U' := T14.setTop (mkF m 81 #[.val (.ref o0), .val (.double x1), .second, .val (.double x2), .second, .val (.double x3), .second, .val (.double x4), .second] [])) st14 ?_
  refine DnW.by (U' := T14.setTop (mkF m 82 #[.val (.ref o0), .val (.double x1), .second, .val (.double x2), .second, .val (.double x3), .second, .val (.double x4), .second] [(.ref o0)])) (fun _ ks => XS.aloadN X14.here hx rfl (hb hby d1_81) rfl rfl ks) ?_
  refine DnW.by (U' := T14.setTop (mkF m 83 #[.val (.ref o0), .val (.double x1), .second, .val (.double x2), .second, .val (.double x3), .second, .val (.double x4), .second] [(.double x2), (.ref o0)])) (fun _ ks => XS.dloadN X14.here hx rfl (hb hby d1_82) rfl ks) ?_
  obtain ⟨T16, h16, X16, e16, W16, st16⟩ := putF X14 hx hZ hown (host := "") (Or.inl (hw _ (List.mem_of_getElem? (i := 33) rfl))) Via.refl e14 (((((F_u_south_o0.ext E2).ext E5).ext E8).ext E11).other W14 (Or.inr (slot_ne (Or.inr (hw _ (List.mem_of_getElem? (i := 34) rfl))) (Or.inr (hw _ (List.mem_of_getElem? (i := 32) rfl))) (by decide) (t := .double) (t' := .double) (by decide) (by decide)))) (((((E_o0.ext E2).ext E5).ext E8).ext E11).wr W14) (Or.inr ⟨(hw _ (List.mem_of_getElem? (i := 34) rfl)), rfl, hnm⟩) (hw _ (List.mem_of_getElem? (i := 2) rfl)) (ty := .double) (by decide) rfl rfl (g := (mkF m 83 #[.val (.ref o0), .val (.double x1), .second, .val (.double x2), .second, .val (.double x3), .second, .val (.double x4), .second] [(.double x2), (.ref o0)])) rfl rfl (hb hby d1_83)
  have F16 := (((((F_u_south_o0.ext E2).ext E5).ext E8).ext E11).other W14 (Or.inr (slot_ne (Or.inr (hw _ (List.mem_of_getElem? (i := 34) rfl))) (Or.inr (hw _ (List.mem_of_getElem? (i := 32) rfl))) (by decide) (t := .double) (t' := .double) (by decide) (by decide)))).same W16
  have K17 : Keep h0 h16 [o0] := (K15.wr W16 (Or.inl (List.mem_of_getElem? (i := 0) rfl)))
  have z17 : n0 ≤ h16.size := (Nat.le_trans z15 (Keep.of_wr W16).1)
  have C17 : CHr Z EL s.vm h0 T11.vm h16 := C15.trans (CHr.wr W16 (Safe.exa hZ.alike (((((E_o0.ext E2).ext E5).ext E8).ext E11).wr W14) (by decide) (by decide)) C15.1)
  have hk17 : _ ≤ h16.size := Nat.le_trans hk15 (Keep.of_wr W16).1
  have N16 := Fr.snoc X16 N14 g_o0
  refine DnW.by (U' := T16.setTop (mkF m 86 #[.val (.ref o0), .val (.double x1), .second, .val (.double x2), .second, .val (.double x3), .second, .val (.double x4), .second] [])) st16 ?_
  refine DnW.by (U' := T16.setTop (mkF m 87 #[.val (.ref o0), .val (.double x1), .second, .val (.double x2), .second, .val (.double x3), .second, .val (.double x4), .second] [(.ref o0)])) (fun _ ks => XS.aloadN X16.here hx rfl (hb hby d1_86) rfl rfl ks) ?_
  refine DnW.by (U' := T16.setTop (mkF m 89 #[.val (.ref o0), .val (.double x1), .second, .val (.double x2), .second, .val (.double x3), .second, .val (.double x4), .second] [(.double x3), (.ref o0)])) (fun _ ks => XS.dload X16.here hx rfl (hb hby d1_87) rfl ks) ?_
  obtain ⟨T18, h18, X18, e18, W18, st18⟩ := putF X16 hx hZ hown (host := "") (Or.inl (hw _ (List.mem_of_getElem? (i := 35) rfl))) Via.refl e16 ((((((F_u_east_o0.ext E2).ext E5).ext E8).ext E11).other W14 (Or.inr (slot_ne (Or.inr (hw _ (List.mem_of_getElem? (i := 36) rfl))) (Or.inr (hw _ (List.mem_of_getElem? (i := 32) rfl))) (by decide) (t := .double) (t' := .double) (by decide) (by decide)))).other W16 (Or.inr (slot_ne (Or.inr (hw _ (List.mem_of_getElem? (i := 36) rfl))) (Or.inr (hw _ (List.mem_of_getElem? (i := 34) rfl))) (by decide) (t := .double) (t' := .double) (by decide) (by decide)))) ((((((E_o0.ext E2).ext E5).ext E8).ext E11).wr W14).wr W16) (Or.inr ⟨(hw _ (List.mem_of_getElem? (i := 36) rfl)), rfl, hnm⟩) (hw _ (List.mem_of_getElem? (i := 2) rfl)) (ty := .double) (by decide) rfl rfl (g := (mkF m 89 #[.val (.ref o0), .val (.double x1), .second, .val (.double x2), .second, .val (.double x3), .second, .val (.double x4), .second] [(.double x3), (.ref o0)])) rfl rfl (hb hby d1_89)
  have F18 := ((((((F_u_east_o0.ext E2).ext E5).ext E8).ext E11).other W14 (Or.inr (slot_ne (Or.inr (hw _ (List.mem_of_getElem? (i := 36) rfl))) (Or.inr (hw _ (List.mem_of_getElem? (i := 32) rfl))) (by decide) (t := .double) (t' := .double) (by decide) (by decide)))).other W16 (Or.inr (slot_ne (Or.inr (hw _ (List.mem_of_getElem? (i := 36) rfl))) (Or.inr (hw _ (List.mem_of_getElem? (i := 34) rfl))) (by decide) (t := .double) (t' := .double) (by decide) (by decide)))).same W18
  have K19 : Keep h0 h18 [o0] := (K17.wr W18 (Or.inl (List.mem_of_getElem? (i := 0) rfl)))
  have z19 : n0 ≤ h18.size := (Nat.le_trans z17 (Keep.of_wr W18).1)
  have C19 : CHr Z EL s.vm h0 T11.vm h18 := C17.trans (CHr.wr W18 (Safe.exa hZ.alike ((((((E_o0.ext E2).ext E5).ext E8).ext E11).wr W14).wr W16) (by decide) (by decide)) C17.1)
  have hk19 : _ ≤ h18.size := Nat.le_trans hk17 (Keep.of_wr W18).1
  have N18 := Fr.snoc X18 N16 g_o0
  refine DnW.by (U' := T18.setTop (mkF m 92 #[.val (.ref o0), .val (.double x1), .second, .val (.double x2), .second, .val (.double x3), .second, .val (.double x4), .second] [])) st18 ?_
  refine DnW.by (U' := T18.setTop (mkF m 93 #[.val (.ref o0), .val (.double x1), .second, .val (.double x2), .second, .val (.double x3), .second, .val (.double x4), .second] [(.ref o0)])) (fun _ ks => XS.aloadN X18.here hx rfl (hb hby d1_92) rfl rfl ks) ?_
  refine DnW.by (U' := T18.setTop (mkF m 95 #[.val (.ref o0), .val (.double x1), .second, .val (.double x2), .second, .val (.double x3), .second, .val (.double x4), .second] [(.double x4), (.ref o0)])) (fun _ ks => XS.dload X18.here hx rfl (hb hby d1_93) rfl ks) ?_
  obtain ⟨T20, h20, X20, e20, W20, st20⟩ := putF X18 hx hZ hown (host := "") (Or.inl (hw _ (List.mem_of_getElem? (i := 37) rfl))) Via.refl e18 (((((((F_u_north_o0.ext E2).ext E5).ext E8).ext E11).other W14 (Or.inr (slot_ne (Or.inr (hw _ (List.mem_of_getElem? (i := 38) rfl))) (Or.inr (hw _ (List.mem_of_getElem? (i := 32) rfl))) (by decide) (t := .double) (t' := .double) (by decide) (by decide)))).other W16 (Or.inr (slot_ne (Or.inr (hw _ (List.mem_of_getElem? (i := 38) rfl))) (Or.inr (hw _ (List.mem_of_getElem? (i := 34) rfl))) (by decide) (t := .double) (t' := .double) (by decide) (by decide)))).other W18 (Or.inr (slot_ne (Or.inr (hw _ (List.mem_of_getElem? (i := 38) rfl))) (Or.inr (hw _ (List.mem_of_getElem? (i := 36) rfl))) (by decide) (t := .double) (t' := .double) (by decide) (by decide)))) (((((((E_o0.ext E2).ext E5).ext E8).ext E11).wr W14).wr W16).wr W18) (Or.inr ⟨(hw _ (List.mem_of_getElem? (i := 38) rfl)), rfl, hnm⟩) (hw _ (List.mem_of_getElem? (i := 2) rfl)) (ty := .double) (by decide) rfl rfl (g := (mkF m 95 #[.val (.ref o0), .val (.double x1), .second, .val (.double x2), .second, .val (.double x3), .second, .val (.double x4), .second] [(.double x4), (.ref o0)])) rfl rfl (hb hby d1_95)
  have F20 := (((((((F_u_north_o0.ext E2).ext E5).ext E8).ext E11).other W14 (Or.inr (slot_ne (Or.inr (hw _ (List.mem_of_getElem? (i := 38) rfl))) (Or.inr (hw _ (List.mem_of_getElem? (i := 32) rfl))) (by decide) (t := .double) (t' := .double) (by decide) (by decide)))).other W16 (Or.inr (slot_ne (Or.inr (hw _ (List.mem_of_getElem? (i := 38) rfl))) (Or.inr (hw _ (List.mem_of_getElem? (i := 34) rfl))) (by decide) (t := .double) (t' := .double) (by decide) (by decide)))).other W18 (Or.inr (slot_ne (Or.inr (hw _ (List.mem_of_getElem? (i := 38) rfl))) (Or.inr (hw _ (List.mem_of_getElem? (i := 36) rfl))) (by decide) (t := .double) (t' := .double) (by decide) (by decide)))).same W20
  have K21 : Keep h0 h20 [o0] := (K19.wr W20 (Or.inl (List.mem_of_getElem? (i := 0) rfl)))
  have z21 : n0 ≤ h20.size := (Nat.le_trans z19 (Keep.of_wr W20).1)
  have C21 : CHr Z EL s.vm h0 T11.vm h20 := C19.trans (CHr.wr W20 (Safe.exa hZ.alike (((((((E_o0.ext E2).ext E5).ext E8).ext E11).wr W14).wr W16).wr W18) (by decide) (by decide)) C19.1)
  have hk21 : _ ≤ h20.size := Nat.le_trans hk19 (Keep.of_wr W20).1
  have N20 := Fr.snoc X20 N18 g_o0
  refine DnW.by (U' := T20.setTop (mkF m 98 #[.val (.ref o0), .val (.double x1), .second, .val (.double x2), .second, .val (.double x3), .second, .val (.double x4), .second] [])) st20 ?_
  refine DnW.out X20 hS11 (by rw [e20]; exact hk21) (v := none) (fun _ => rfl) (BodyLoose.notSynchronized Bd) (fun _ hr => X20.returnOut hx Bd.returns (hb hby d1_98) hr) (by decide) (by decide) ?_ ?_
  · rw [e20]; exact ⟨rfl, N20, K21, ((((((((E_o0.ext E2).ext E5).ext E8).ext E11).wr W14).wr W16).wr W18).wr W20), (((F14.other W16 (Or.inr (slot_ne (Or.inr (hw _ (List.mem_of_getElem? (i := 32) rfl))) (Or.inr (hw _ (List.mem_of_getElem? (i := 34) rfl))) (by decide) (t := .double) (t' := .double) (by decide) (by decide)))).other W18 (Or.inr (slot_ne (Or.inr (hw _ (List.mem_of_getElem? (i := 32) rfl))) (Or.inr (hw _ (List.mem_of_getElem? (i := 36) rfl))) (by decide) (t := .double) (t' := .double) (by decide) (by decide)))).other W20 (Or.inr (slot_ne (Or.inr (hw _ (List.mem_of_getElem? (i := 32) rfl))) (Or.inr (hw _ (List.mem_of_getElem? (i := 38) rfl))) (by decide) (t := .double) (t' := .double) (by decide) (by decide)))), ((F16.other W18 (Or.inr (slot_ne (Or.inr (hw _ (List.mem_of_getElem? (i := 34) rfl))) (Or.inr (hw _ (List.mem_of_getElem? (i := 36) rfl))) (by decide) (t := .double) (t' := .double) (by decide) (by decide)))).other W20 (Or.inr (slot_ne (Or.inr (hw _ (List.mem_of_getElem? (i := 34) rfl))) (Or.inr (hw _ (List.mem_of_getElem? (i := 38) rfl))) (by decide) (t := .double) (t' := .double) (by decide) (by decide)))), (F18.other W20 (Or.inr (slot_ne (Or.inr (hw _ (List.mem_of_getElem? (i := 36) rfl))) (Or.inr (hw _ (List.mem_of_getElem? (i := 38) rfl))) (by decide) (t := .double) (t' := .double) (by decide) (by decide)))), F20⟩
  · rw [hh, e20]; exact C21.trans (CHv.at X20 hZ hEL C21.1)
def eqB (o0 : Addr) (o1 : Addr) (u_west_o0 : UInt64) (u_south_o0 : UInt64) (u_east_o0 : UInt64) (u_north_o0 : UInt64) (u_west_o1 : UInt64) (u_south_o1 : UInt64) (u_east_o1 : UInt64) (u_north_o1 : UInt64) : Int32 := (if (cmpValue (FP.dcmp u_west_o0 u_west_o1) .l) = (0 : Int32) then (if (cmpValue (FP.dcmp u_south_o0 u_south_o1) .l) = (0 : Int32) then (if (cmpValue (FP.dcmp u_east_o0 u_east_o1) .l) = (0 : Int32) then (if (cmpValue (FP.dcmp u_north_o0 u_north_o1) .l) = (0 : Int32) then (1 : Int32) else (0 : Int32)) else (0 : Int32)) else (0 : Int32)) else (0 : Int32))
abbrev Rm7 : Room := { frames := 0, cells := 0, slots := 0, locals := 0 }
theorem ef_7 (m : MethodId) (o0 : Addr) (o1 : Addr) : entryFrame m #[(.ref o0), (.ref o1)] 3 = mkF m 0 #[.val (.ref o0), .val (.ref o1), .unset] [] := by first | (simp [entryFrame, mkF, argsToLocals, Value.category]; done) | rfl
def Q7 (Z : State) (o0 : Addr) (o1 : Addr) (u_west_o0 : UInt64) (u_south_o0 : UInt64) (u_east_o0 : UInt64) (u_north_o0 : UInt64) (u_west_o1 : UInt64) (u_south_o1 : UInt64) (u_east_o1 : UInt64) (u_north_o1 : UInt64) (h0 : Heap) (n0 : Nat) (v : Option Value) (h : Heap) (L : List Loc) : Prop := v = some (.int (eqB o0 o1 u_west_o0 u_south_o0 u_east_o0 u_north_o0 u_west_o1 u_south_o1 u_east_o1 u_north_o1)) ∧ Fr n0 L ∧ h = h0
set_option maxRecDepth 65536 in
set_option maxHeartbeats 40000000 in
theorem rm7 (l : Launch) (Z : State) (a0 : Array Value) (hw : ∀ d ∈ tables_1, d.before a0 Z = true) (ws : List Jvm.Cond) (o0 : Addr) (o1 : Addr) (u_west_o0 : UInt64) (u_south_o0 : UInt64) (u_east_o0 : UInt64) (u_north_o0 : UInt64) (u_west_o1 : UInt64) (u_south_o1 : UInt64) (u_east_o1 : UInt64) (u_north_o1 : UInt64) (h0 : Heap) (n0 : Nat) (Z0 : n0 ≤ h0.size) (F_u_west_o0 : Fld Z h0 o0 "com/example/flok/flok/geo/Box" "west" "D" (.double u_west_o0)) (F_u_south_o0 : Fld Z h0 o0 "com/example/flok/flok/geo/Box" "south" "D" (.double u_south_o0)) (F_u_east_o0 : Fld Z h0 o0 "com/example/flok/flok/geo/Box" "east" "D" (.double u_east_o0)) (F_u_north_o0 : Fld Z h0 o0 "com/example/flok/flok/geo/Box" "north" "D" (.double u_north_o0)) (F_u_west_o1 : Fld Z h0 o1 "com/example/flok/flok/geo/Box" "west" "D" (.double u_west_o1)) (F_u_south_o1 : Fld Z h0 o1 "com/example/flok/flok/geo/Box" "south" "D" (.double u_south_o1)) (F_u_east_o1 : Fld Z h0 o1 "com/example/flok/flok/geo/Box" "east" "D" (.double u_east_o1)) (F_u_north_o1 : Fld Z h0 o1 "com/example/flok/flok/geo/Box" "north" "D" (.double u_north_o1)) (E_o1 : Exa Z h0 o1 "com/example/flok/flok/geo/Box") :
    MetFree l (⟨"com/example/flok/flok/geo/Box", "equals", "(Ljava/lang/Object;)Z"⟩ : MethodName) (head1 (Jvm.Cond.code (⟨"com/example/flok/flok/geo/Box", "equals", "(Ljava/lang/Object;)Z"⟩ : MethodName) prog_20_method_6_code 3 (some .boolean) :: ws) Rm7) (fun a U => a = #[(.ref o0), (.ref o1)] ∧ Z.Warmed39 U.vm ∧ U.heap = h0) (fun _ _ _ _ _ => True) (fun _ U o U' => ∃ v L, o = .returned v ∧ Q7 Z o0 o1 u_west_o0 u_south_o0 u_east_o0 u_north_o0 u_west_o1 u_south_o1 u_east_o1 u_north_o1 h0 n0 v U'.heap L ∧ FrameEnd U o U' L Rm7.cells Rm7.slots) := by
  refine MetFree.of_bodySF (plainFor_of_name pn1) hisR ?_
  intro p e s m args below meth c s₁ Bd hml0 hP hK
  obtain ⟨rfl, hZ, hh⟩ := hP
  have hx := Bd.exec
  have hby := Bd.bytes
  have hml : c.maxLocals = 3 := hml0
  have hown : s.vm.findClass "com/example/flok/flok/geo/Box" = some m.cls := findClass_of_methodNamed Bd.named
  have hnm := (name_of_methodNamed Bd.named Bd.method).1
  have X0 : Stand p l e Rm7 s m #[(.ref o0), (.ref o1)] below meth c s₁ [] 0 0 := Stand.of_body Bd
  have e0 : s₁.heap = h0 := by rw [← hh, Bd.state]; rfl
  have N0 := Fr.nil n0
  show Dn p e below s Rm7.cells Rm7.slots (Q7 Z o0 o1 u_west_o0 u_south_o0 u_east_o0 u_north_o0 u_west_o1 u_south_o1 u_east_o1 u_north_o1 h0 n0) (s₁.setTop (entryFrame m #[(.ref o0), (.ref o1)] 3))
  rw [ef_7]
  refine Dn.by (U' := s₁.setTop (mkF m 1 #[.val (.ref o0), .val (.ref o1), .unset] [(.ref o1)])) (fun _ ks => XS.aloadN X0.here hx rfl (hb hby d7_0) rfl rfl ks) ?_
  obtain ⟨T1, X1, e1, st1⟩ := instY X0 hx hZ hown (hw _ (List.mem_of_getElem? (i := 51) rfl)) e0 (Ins.self E_o1) (g := (mkF m 1 #[.val (.ref o0), .val (.ref o1), .unset] [(.ref o1)])) rfl rfl (hb hby d7_1)
  refine Dn.by (U' := T1.setTop (mkF m 4 #[.val (.ref o0), .val (.ref o1), .unset] [(.int (1 : Int32))])) st1 ?_
  refine Dn.by (U' := T1.setTop (mkF m 7 #[.val (.ref o0), .val (.ref o1), .unset] [])) (fun _ ks => XS.ifNo X1.here hx rfl (hb hby d7_4) rfl (by decide) ks) ?_
  refine Dn.by (U' := T1.setTop (mkF m 8 #[.val (.ref o0), .val (.ref o1), .unset] [(.ref o1)])) (fun _ ks => XS.aloadN X1.here hx rfl (hb hby d7_7) rfl rfl ks) ?_
  obtain ⟨T2, X2, e2, st2⟩ := castY X1 hx hZ hown (hw _ (List.mem_of_getElem? (i := 51) rfl)) e1 (Ins.self E_o1) (g := (mkF m 8 #[.val (.ref o0), .val (.ref o1), .unset] [(.ref o1)])) rfl rfl (hb hby d7_8)
  refine Dn.by (U' := T2.setTop (mkF m 11 #[.val (.ref o0), .val (.ref o1), .unset] [(.ref o1)])) st2 ?_
  refine Dn.by (U' := T2.setTop (mkF m 12 #[.val (.ref o0), .val (.ref o1), .val (.ref o1)] [])) (fun _ ks => XS.astoreN X2.here hx rfl (hb hby d7_11) rfl rfl (l' := #[.val (.ref o0), .val (.ref o1), .val (.ref o1)]) rfl ks) ?_
  refine Dn.by (U' := T2.setTop (mkF m 13 #[.val (.ref o0), .val (.ref o1), .val (.ref o1)] [(.ref o0)])) (fun _ ks => XS.aloadN X2.here hx rfl (hb hby d7_12) rfl rfl ks) ?_
  obtain ⟨T3, X3, e3, st3⟩ := getF X2 hx hZ hown (host := "") (Or.inl (hw _ (List.mem_of_getElem? (i := 31) rfl))) Via.refl e2 F_u_west_o0 (g := (mkF m 13 #[.val (.ref o0), .val (.ref o1), .val (.ref o1)] [(.ref o0)])) rfl rfl (hb hby d7_13)
  refine Dn.by (U' := T3.setTop (mkF m 16 #[.val (.ref o0), .val (.ref o1), .val (.ref o1)] [(.double u_west_o0)])) st3 ?_
  refine Dn.by (U' := T3.setTop (mkF m 17 #[.val (.ref o0), .val (.ref o1), .val (.ref o1)] [(.ref o1), (.double u_west_o0)])) (fun _ ks => XS.aloadN X3.here hx rfl (hb hby d7_16) rfl rfl ks) ?_
  obtain ⟨T4, X4, e4, st4⟩ := getF X3 hx hZ hown (host := "") (Or.inl (hw _ (List.mem_of_getElem? (i := 31) rfl))) Via.refl e3 F_u_west_o1 (g := (mkF m 17 #[.val (.ref o0), .val (.ref o1), .val (.ref o1)] [(.ref o1), (.double u_west_o0)])) rfl rfl (hb hby d7_17)
  refine Dn.by (U' := T4.setTop (mkF m 20 #[.val (.ref o0), .val (.ref o1), .val (.ref o1)] [(.double u_west_o1), (.double u_west_o0)])) st4 ?_
  refine Dn.by (U' := T4.setTop (mkF m 21 #[.val (.ref o0), .val (.ref o1), .val (.ref o1)] [(.int (cmpValue (FP.dcmp u_west_o0 u_west_o1) .l))])) (fun _ ks => XS.dcmpS X4.here hx rfl (hb hby d7_20) rfl rfl ks) ?_
  by_cases c21_5 : (cmpValue (FP.dcmp u_west_o0 u_west_o1) .l) = (0 : Int32)
  ·
    refine Dn.by (U' := T4.setTop (mkF m 24 #[.val (.ref o0), .val (.ref o1), .val (.ref o1)] [])) (fun _ ks => XS.ifNo X4.here hx rfl (hb hby d7_21) rfl ((if0 _ _).trans (teq c21_5).2) ks) ?_
    refine Dn.by (U' := T4.setTop (mkF m 25 #[.val (.ref o0), .val (.ref o1), .val (.ref o1)] [(.ref o0)])) (fun _ ks => XS.aloadN X4.here hx rfl (hb hby d7_24) rfl rfl ks) ?_
    obtain ⟨T6, X6, e6, st6⟩ := getF X4 hx hZ hown (host := "") (Or.inl (hw _ (List.mem_of_getElem? (i := 33) rfl))) Via.refl e4 F_u_south_o0 (g := (mkF m 25 #[.val (.ref o0), .val (.ref o1), .val (.ref o1)] [(.ref o0)])) rfl rfl (hb hby d7_25)
    refine Dn.by (U' := T6.setTop (mkF m 28 #[.val (.ref o0), .val (.ref o1), .val (.ref o1)] [(.double u_south_o0)])) st6 ?_
    refine Dn.by (U' := T6.setTop (mkF m 29 #[.val (.ref o0), .val (.ref o1), .val (.ref o1)] [(.ref o1), (.double u_south_o0)])) (fun _ ks => XS.aloadN X6.here hx rfl (hb hby d7_28) rfl rfl ks) ?_
    obtain ⟨T7, X7, e7, st7⟩ := getF X6 hx hZ hown (host := "") (Or.inl (hw _ (List.mem_of_getElem? (i := 33) rfl))) Via.refl e6 F_u_south_o1 (g := (mkF m 29 #[.val (.ref o0), .val (.ref o1), .val (.ref o1)] [(.ref o1), (.double u_south_o0)])) rfl rfl (hb hby d7_29)
    refine Dn.by (U' := T7.setTop (mkF m 32 #[.val (.ref o0), .val (.ref o1), .val (.ref o1)] [(.double u_south_o1), (.double u_south_o0)])) st7 ?_
    refine Dn.by (U' := T7.setTop (mkF m 33 #[.val (.ref o0), .val (.ref o1), .val (.ref o1)] [(.int (cmpValue (FP.dcmp u_south_o0 u_south_o1) .l))])) (fun _ ks => XS.dcmpS X7.here hx rfl (hb hby d7_32) rfl rfl ks) ?_
    by_cases c33_8 : (cmpValue (FP.dcmp u_south_o0 u_south_o1) .l) = (0 : Int32)
    ·
      refine Dn.by (U' := T7.setTop (mkF m 36 #[.val (.ref o0), .val (.ref o1), .val (.ref o1)] [])) (fun _ ks => XS.ifNo X7.here hx rfl (hb hby d7_33) rfl ((if0 _ _).trans (teq c33_8).2) ks) ?_
      refine Dn.by (U' := T7.setTop (mkF m 37 #[.val (.ref o0), .val (.ref o1), .val (.ref o1)] [(.ref o0)])) (fun _ ks => XS.aloadN X7.here hx rfl (hb hby d7_36) rfl rfl ks) ?_
      obtain ⟨T9, X9, e9, st9⟩ := getF X7 hx hZ hown (host := "") (Or.inl (hw _ (List.mem_of_getElem? (i := 35) rfl))) Via.refl e7 F_u_east_o0 (g := (mkF m 37 #[.val (.ref o0), .val (.ref o1), .val (.ref o1)] [(.ref o0)])) rfl rfl (hb hby d7_37)
      refine Dn.by (U' := T9.setTop (mkF m 40 #[.val (.ref o0), .val (.ref o1), .val (.ref o1)] [(.double u_east_o0)])) st9 ?_
      refine Dn.by (U' := T9.setTop (mkF m 41 #[.val (.ref o0), .val (.ref o1), .val (.ref o1)] [(.ref o1), (.double u_east_o0)])) (fun _ ks => XS.aloadN X9.here hx rfl (hb hby d7_40) rfl rfl ks) ?_
      obtain ⟨T10, X10, e10, st10⟩ := getF X9 hx hZ hown (host := "") (Or.inl (hw _ (List.mem_of_getElem? (i := 35) rfl))) Via.refl e9 F_u_east_o1 (g := (mkF m 41 #[.val (.ref o0), .val (.ref o1), .val (.ref o1)] [(.ref o1), (.double u_east_o0)])) rfl rfl (hb hby d7_41)
      refine Dn.by (U' := T10.setTop (mkF m 44 #[.val (.ref o0), .val (.ref o1), .val (.ref o1)] [(.double u_east_o1), (.double u_east_o0)])) st10 ?_
      refine Dn.by (U' := T10.setTop (mkF m 45 #[.val (.ref o0), .val (.ref o1), .val (.ref o1)] [(.int (cmpValue (FP.dcmp u_east_o0 u_east_o1) .l))])) (fun _ ks => XS.dcmpS X10.here hx rfl (hb hby d7_44) rfl rfl ks) ?_
      by_cases c45_11 : (cmpValue (FP.dcmp u_east_o0 u_east_o1) .l) = (0 : Int32)
      ·
        refine Dn.by (U' := T10.setTop (mkF m 48 #[.val (.ref o0), .val (.ref o1), .val (.ref o1)] [])) (fun _ ks => XS.ifNo X10.here hx rfl (hb hby d7_45) rfl ((if0 _ _).trans (teq c45_11).2) ks) ?_
        refine Dn.by (U' := T10.setTop (mkF m 49 #[.val (.ref o0), .val (.ref o1), .val (.ref o1)] [(.ref o0)])) (fun _ ks => XS.aloadN X10.here hx rfl (hb hby d7_48) rfl rfl ks) ?_
        obtain ⟨T12, X12, e12, st12⟩ := getF X10 hx hZ hown (host := "") (Or.inl (hw _ (List.mem_of_getElem? (i := 37) rfl))) Via.refl e10 F_u_north_o0 (g := (mkF m 49 #[.val (.ref o0), .val (.ref o1), .val (.ref o1)] [(.ref o0)])) rfl rfl (hb hby d7_49)
        refine Dn.by (U' := T12.setTop (mkF m 52 #[.val (.ref o0), .val (.ref o1), .val (.ref o1)] [(.double u_north_o0)])) st12 ?_
        refine Dn.by (U' := T12.setTop (mkF m 53 #[.val (.ref o0), .val (.ref o1), .val (.ref o1)] [(.ref o1), (.double u_north_o0)])) (fun _ ks => XS.aloadN X12.here hx rfl (hb hby d7_52) rfl rfl ks) ?_
        obtain ⟨T13, X13, e13, st13⟩ := getF X12 hx hZ hown (host := "") (Or.inl (hw _ (List.mem_of_getElem? (i := 37) rfl))) Via.refl e12 F_u_north_o1 (g := (mkF m 53 #[.val (.ref o0), .val (.ref o1), .val (.ref o1)] [(.ref o1), (.double u_north_o0)])) rfl rfl (hb hby d7_53)
        refine Dn.by (U' := T13.setTop (mkF m 56 #[.val (.ref o0), .val (.ref o1), .val (.ref o1)] [(.double u_north_o1), (.double u_north_o0)])) st13 ?_
        refine Dn.by (U' := T13.setTop (mkF m 57 #[.val (.ref o0), .val (.ref o1), .val (.ref o1)] [(.int (cmpValue (FP.dcmp u_north_o0 u_north_o1) .l))])) (fun _ ks => XS.dcmpS X13.here hx rfl (hb hby d7_56) rfl rfl ks) ?_
        by_cases c57_14 : (cmpValue (FP.dcmp u_north_o0 u_north_o1) .l) = (0 : Int32)
        ·
          refine Dn.by (U' := T13.setTop (mkF m 60 #[.val (.ref o0), .val (.ref o1), .val (.ref o1)] [])) (fun _ ks => XS.ifNo X13.here hx rfl (hb hby d7_57) rfl ((if0 _ _).trans (teq c57_14).2) ks) ?_
          refine Dn.by (U' := T13.setTop (mkF m 61 #[.val (.ref o0), .val (.ref o1), .val (.ref o1)] [(.int (1 : Int32))])) (fun _ ks => XS.iconst X13.here hx rfl (hb hby d7_60)  ks) ?_
          refine Dn.by (U' := T13.setTop (mkF m 65 #[.val (.ref o0), .val (.ref o1), .val (.ref o1)] [(.int (1 : Int32))])) (fun _ ks => XS.goto X13.here hx rfl (pc0 := 61) (pc' := 65) rfl (hb hby d7_61) (by decide) (by decide) ks) ?_
          refine Dn.out X13 (v := (some (.int (1 : Int32)))) (fun h => by rw [Bd.returns] at h; cases h) (BodyLoose.notSynchronized Bd) (fun _ hr => retN X13 hx (t := .boolean) Bd.returns (by simp) (hb hby d7_65) hr) (by decide) (by decide) ?_
          rw [e13]
          exact ⟨by simp only [eqB, if_pos c21_5, if_pos c33_8, if_pos c45_11, if_pos c57_14], N0, rfl⟩
        ·
          refine Dn.by (U' := T13.setTop (mkF m 64 #[.val (.ref o0), .val (.ref o1), .val (.ref o1)] [])) (fun _ ks => XS.ifYes X13.here hx rfl (pc0 := 57) (pc' := 64) rfl (hb hby d7_57) rfl ((if0 _ _).trans (feq c57_14).2) (by decide) (by decide) ks) ?_
          refine Dn.by (U' := T13.setTop (mkF m 65 #[.val (.ref o0), .val (.ref o1), .val (.ref o1)] [(.int (0 : Int32))])) (fun _ ks => XS.iconst X13.here hx rfl (hb hby d7_64)  ks) ?_
          refine Dn.out X13 (v := (some (.int (0 : Int32)))) (fun h => by rw [Bd.returns] at h; cases h) (BodyLoose.notSynchronized Bd) (fun _ hr => retN X13 hx (t := .boolean) Bd.returns (by simp) (hb hby d7_65) hr) (by decide) (by decide) ?_
          rw [e13]
          exact ⟨by simp only [eqB, if_pos c21_5, if_pos c33_8, if_pos c45_11, if_neg c57_14], N0, rfl⟩
      ·
        refine Dn.by (U' := T10.setTop (mkF m 64 #[.val (.ref o0), .val (.ref o1), .val (.ref o1)] [])) (fun _ ks => XS.ifYes X10.here hx rfl (pc0 := 45) (pc' := 64) rfl (hb hby d7_45) rfl ((if0 _ _).trans (feq c45_11).2) (by decide) (by decide) ks) ?_
        refine Dn.by (U' := T10.setTop (mkF m 65 #[.val (.ref o0), .val (.ref o1), .val (.ref o1)] [(.int (0 : Int32))])) (fun _ ks => XS.iconst X10.here hx rfl (hb hby d7_64)  ks) ?_
        refine Dn.out X10 (v := (some (.int (0 : Int32)))) (fun h => by rw [Bd.returns] at h; cases h) (BodyLoose.notSynchronized Bd) (fun _ hr => retN X10 hx (t := .boolean) Bd.returns (by simp) (hb hby d7_65) hr) (by decide) (by decide) ?_
        rw [e10]
        exact ⟨by simp only [eqB, if_pos c21_5, if_pos c33_8, if_neg c45_11], N0, rfl⟩
    ·
      refine Dn.by (U' := T7.setTop (mkF m 64 #[.val (.ref o0), .val (.ref o1), .val (.ref o1)] [])) (fun _ ks => XS.ifYes X7.here hx rfl (pc0 := 33) (pc' := 64) rfl (hb hby d7_33) rfl ((if0 _ _).trans (feq c33_8).2) (by decide) (by decide) ks) ?_
      refine Dn.by (U' := T7.setTop (mkF m 65 #[.val (.ref o0), .val (.ref o1), .val (.ref o1)] [(.int (0 : Int32))])) (fun _ ks => XS.iconst X7.here hx rfl (hb hby d7_64)  ks) ?_
      refine Dn.out X7 (v := (some (.int (0 : Int32)))) (fun h => by rw [Bd.returns] at h; cases h) (BodyLoose.notSynchronized Bd) (fun _ hr => retN X7 hx (t := .boolean) Bd.returns (by simp) (hb hby d7_65) hr) (by decide) (by decide) ?_
      rw [e7]
      exact ⟨by simp only [eqB, if_pos c21_5, if_neg c33_8], N0, rfl⟩
  ·
    refine Dn.by (U' := T4.setTop (mkF m 64 #[.val (.ref o0), .val (.ref o1), .val (.ref o1)] [])) (fun _ ks => XS.ifYes X4.here hx rfl (pc0 := 21) (pc' := 64) rfl (hb hby d7_21) rfl ((if0 _ _).trans (feq c21_5).2) (by decide) (by decide) ks) ?_
    refine Dn.by (U' := T4.setTop (mkF m 65 #[.val (.ref o0), .val (.ref o1), .val (.ref o1)] [(.int (0 : Int32))])) (fun _ ks => XS.iconst X4.here hx rfl (hb hby d7_64)  ks) ?_
    refine Dn.out X4 (v := (some (.int (0 : Int32)))) (fun h => by rw [Bd.returns] at h; cases h) (BodyLoose.notSynchronized Bd) (fun _ hr => retN X4 hx (t := .boolean) Bd.returns (by simp) (hb hby d7_65) hr) (by decide) (by decide) ?_
    rw [e4]
    exact ⟨by simp only [eqB, if_neg c21_5], N0, rfl⟩
theorem own_eqB (o o' : Addr) (a b c d a' b' c' d' : Int32) : eqB o o' (FP.i2d a) (FP.i2d b) (FP.i2d c) (FP.i2d d) (FP.i2d a') (FP.i2d b') (FP.i2d c') (FP.i2d d') = if a = a' ∧ b = b' ∧ c = c' ∧ d = d' then (1 : Int32) else (0 : Int32) := by
  unfold eqB
  simp only [own_z]
  by_cases h1 : a = a' <;> by_cases h2 : b = b' <;> by_cases h3 : c = c' <;> by_cases h4 : d = d' <;> simp [h1, h2, h3, h4]
theorem own_refl (o : Addr) (a b c d : Int32) : eqB o o (FP.i2d a) (FP.i2d b) (FP.i2d c) (FP.i2d d) (FP.i2d a) (FP.i2d b) (FP.i2d c) (FP.i2d d) = 1 := (own_eqB _ _ _ _ _ _ _ _ _ _).trans (if_pos ⟨rfl, rfl, rfl, rfl⟩)
abbrev Rm7n : Room := { frames := 0, cells := 0, slots := 0, locals := 0 }
theorem ef_7n (m : MethodId) (o0 : Addr) : entryFrame m #[(.ref o0), .null] 3 = mkF m 0 #[.val (.ref o0), .val .null, .unset] [] := by first | (simp [entryFrame, mkF, argsToLocals, Value.category]; done) | rfl
def Q7n (Z : State) (o0 : Addr) (h0 : Heap) (n0 : Nat) (v : Option Value) (h : Heap) (L : List Loc) : Prop := v = some (.int (0 : Int32)) ∧ Fr n0 L ∧ h = h0
set_option maxRecDepth 65536 in
set_option maxHeartbeats 40000000 in
theorem rm7n (l : Launch) (Z : State) (a0 : Array Value) (hw : ∀ d ∈ tables_1, d.before a0 Z = true) (ws : List Jvm.Cond) (o0 : Addr) (h0 : Heap) (n0 : Nat) (Z0 : n0 ≤ h0.size)  :
    MetFree l (⟨"com/example/flok/flok/geo/Box", "equals", "(Ljava/lang/Object;)Z"⟩ : MethodName) (head1 (Jvm.Cond.code (⟨"com/example/flok/flok/geo/Box", "equals", "(Ljava/lang/Object;)Z"⟩ : MethodName) prog_20_method_6_code 3 (some .boolean) :: ws) Rm7n) (fun a U => a = #[(.ref o0), .null] ∧ Z.Warmed39 U.vm ∧ U.heap = h0) (fun _ _ _ _ _ => True) (fun _ U o U' => ∃ v L, o = .returned v ∧ Q7n Z o0 h0 n0 v U'.heap L ∧ FrameEnd U o U' L Rm7n.cells Rm7n.slots) := by
  refine MetFree.of_bodySF (plainFor_of_name pn1) hisR ?_
  intro p e s m args below meth c s₁ Bd hml0 hP hK
  obtain ⟨rfl, hZ, hh⟩ := hP
  have hx := Bd.exec
  have hby := Bd.bytes
  have hml : c.maxLocals = 3 := hml0
  have hown : s.vm.findClass "com/example/flok/flok/geo/Box" = some m.cls := findClass_of_methodNamed Bd.named
  have hnm := (name_of_methodNamed Bd.named Bd.method).1
  have X0 : Stand p l e Rm7n s m #[(.ref o0), .null] below meth c s₁ [] 0 0 := Stand.of_body Bd
  have e0 : s₁.heap = h0 := by rw [← hh, Bd.state]; rfl
  have N0 := Fr.nil n0
  show Dn p e below s Rm7n.cells Rm7n.slots (Q7n Z o0 h0 n0) (s₁.setTop (entryFrame m #[(.ref o0), .null] 3))
  rw [ef_7n]
  refine Dn.by (U' := s₁.setTop (mkF m 1 #[.val (.ref o0), .val .null, .unset] [.null])) (fun _ ks => XS.aloadN X0.here hx rfl (hb hby d7_0) rfl rfl ks) ?_
  refine Dn.by (U' := s₁.setTop (mkF m 4 #[.val (.ref o0), .val .null, .unset] [(.int (0 : Int32))])) (X0.instanceofNull hx (g := (mkF m 1 #[.val (.ref o0), .val .null, .unset] [.null])) rfl rfl (hb hby d7_1)) ?_
  refine Dn.by (U' := s₁.setTop (mkF m 64 #[.val (.ref o0), .val .null, .unset] [])) (fun _ ks => XS.ifYes X0.here hx rfl (pc0 := 4) (pc' := 64) rfl (hb hby d7_4) rfl (by decide) (by decide) (by decide) ks) ?_
  refine Dn.by (U' := s₁.setTop (mkF m 65 #[.val (.ref o0), .val .null, .unset] [(.int (0 : Int32))])) (fun _ ks => XS.iconst X0.here hx rfl (hb hby d7_64)  ks) ?_
  refine Dn.out X0 (v := (some (.int (0 : Int32)))) (fun h => by rw [Bd.returns] at h; cases h) (BodyLoose.notSynchronized Bd) (fun _ hr => retN X0 hx (t := .boolean) Bd.returns (by simp) (hb hby d7_65) hr) (by decide) (by decide) ?_
  rw [e0]
  exact ⟨rfl, N0, rfl⟩
abbrev Rm7l : Room := { frames := 0, cells := 0, slots := 0, locals := 0 }
theorem ef_7l (m : MethodId) (o0 : Addr) (o1 : Addr) : entryFrame m #[(.ref o0), (.ref o1)] 3 = mkF m 0 #[.val (.ref o0), .val (.ref o1), .unset] [] := by first | (simp [entryFrame, mkF, argsToLocals, Value.category]; done) | rfl
def Q7l (Z : State) (o0 : Addr) (o1 : Addr) (h0 : Heap) (n0 : Nat) (v : Option Value) (h : Heap) (L : List Loc) : Prop := v = some (.int (0 : Int32)) ∧ Fr n0 L ∧ h = h0
set_option maxRecDepth 65536 in
set_option maxHeartbeats 40000000 in
theorem rm7l (l : Launch) (Z : State) (a0 : Array Value) (hw : ∀ d ∈ tables_1, d.before a0 Z = true) (ws : List Jvm.Cond) (o0 : Addr) (o1 : Addr) (h0 : Heap) (n0 : Nat) (Z0 : n0 ≤ h0.size) (E_o1 : Exa Z h0 o1 "java/lang/Integer") :
    MetFree l (⟨"com/example/flok/flok/geo/Box", "equals", "(Ljava/lang/Object;)Z"⟩ : MethodName) (head1 (Jvm.Cond.code (⟨"com/example/flok/flok/geo/Box", "equals", "(Ljava/lang/Object;)Z"⟩ : MethodName) prog_20_method_6_code 3 (some .boolean) :: ws) Rm7l) (fun a U => a = #[(.ref o0), (.ref o1)] ∧ Z.Warmed39 U.vm ∧ U.heap = h0) (fun _ _ _ _ _ => True) (fun _ U o U' => ∃ v L, o = .returned v ∧ Q7l Z o0 o1 h0 n0 v U'.heap L ∧ FrameEnd U o U' L Rm7l.cells Rm7l.slots) := by
  refine MetFree.of_bodySF (plainFor_of_name pn1) hisR ?_
  intro p e s m args below meth c s₁ Bd hml0 hP hK
  obtain ⟨rfl, hZ, hh⟩ := hP
  have hx := Bd.exec
  have hby := Bd.bytes
  have hml : c.maxLocals = 3 := hml0
  have hown : s.vm.findClass "com/example/flok/flok/geo/Box" = some m.cls := findClass_of_methodNamed Bd.named
  have hnm := (name_of_methodNamed Bd.named Bd.method).1
  have X0 : Stand p l e Rm7l s m #[(.ref o0), (.ref o1)] below meth c s₁ [] 0 0 := Stand.of_body Bd
  have e0 : s₁.heap = h0 := by rw [← hh, Bd.state]; rfl
  have N0 := Fr.nil n0
  show Dn p e below s Rm7l.cells Rm7l.slots (Q7l Z o0 o1 h0 n0) (s₁.setTop (entryFrame m #[(.ref o0), (.ref o1)] 3))
  rw [ef_7l]
  refine Dn.by (U' := s₁.setTop (mkF m 1 #[.val (.ref o0), .val (.ref o1), .unset] [(.ref o1)])) (fun _ ks => XS.aloadN X0.here hx rfl (hb hby d7_0) rfl rfl ks) ?_
  obtain ⟨T1, X1, e1, st1⟩ := instNo X0 hx hZ (a0 := a0) hown (hw _ (List.mem_of_getElem? (i := 51) rfl)) e0 E_o1 (own_no (hw _ (List.mem_of_getElem? (i := 53) rfl)) (hw _ (List.mem_of_getElem? (i := 2) rfl)) (NS.step (hw _ (List.mem_of_getElem? (i := 53) rfl)) (NS.step (hw _ (List.mem_of_getElem? (i := 54) rfl)) (own_root (hw _ (List.mem_of_getElem? (i := 55) rfl)) (hw _ (List.mem_of_getElem? (i := 2) rfl)) (by decide)) (by decide)) (by decide)) (by decide)) (g := (mkF m 1 #[.val (.ref o0), .val (.ref o1), .unset] [(.ref o1)])) rfl rfl (hb hby d7_1)
  refine Dn.by (U' := T1.setTop (mkF m 4 #[.val (.ref o0), .val (.ref o1), .unset] [(.int (0 : Int32))])) st1 ?_
  refine Dn.by (U' := T1.setTop (mkF m 64 #[.val (.ref o0), .val (.ref o1), .unset] [])) (fun _ ks => XS.ifYes X1.here hx rfl (pc0 := 4) (pc' := 64) rfl (hb hby d7_4) rfl (by decide) (by decide) (by decide) ks) ?_
  refine Dn.by (U' := T1.setTop (mkF m 65 #[.val (.ref o0), .val (.ref o1), .unset] [(.int (0 : Int32))])) (fun _ ks => XS.iconst X1.here hx rfl (hb hby d7_64)  ks) ?_
  refine Dn.out X1 (v := (some (.int (0 : Int32)))) (fun h => by rw [Bd.returns] at h; cases h) (BodyLoose.notSynchronized Bd) (fun _ hr => retN X1 hx (t := .boolean) Bd.returns (by simp) (hb hby d7_65) hr) (by decide) (by decide) ?_
  rw [e1]
  exact ⟨rfl, N0, rfl⟩
abbrev Rm9 : Room := { frames := 1, cells := 0, slots := 0, locals := 12 }
theorem ef_9 (m : MethodId) (o0 : Addr) : entryFrame m #[(.ref o0)] 1 = mkF m 0 #[.val (.ref o0)] [] := by first | (simp [entryFrame, mkF, argsToLocals, Value.category]; done) | rfl
def Q9 (Z : State) (o0 : Addr) (h0 : Heap) (n0 : Nat) (v : Option Value) (h : Heap) (L : List Loc) : Prop := v = none ∧ Fr n0 L ∧ h = h0
set_option maxRecDepth 65536 in
set_option maxHeartbeats 40000000 in
theorem rm9 (l : Launch) (Z : State) (a0 : Array Value) (hw : ∀ d ∈ tables_1, d.before a0 Z = true) (ws : List Jvm.Cond) (o0 : Addr) (h0 : Heap) (n0 : Nat) (Z0 : n0 ≤ h0.size)  :
    MetFree l (⟨"java/lang/Number", "<init>", "()V"⟩ : MethodName) (head1 (Jvm.Cond.code (⟨"java/lang/Number", "<init>", "()V"⟩ : MethodName) jdk_18_method_1_code 1 none :: ws) Rm9) (fun a U => a = #[(.ref o0)] ∧ Z.Warmed39 U.vm ∧ U.heap = h0) (fun _ _ _ _ _ => True) (fun _ U o U' => ∃ v L, o = .returned v ∧ Q9 Z o0 h0 n0 v U'.heap L ∧ FrameEnd U o U' L Rm9.cells Rm9.slots) := by
  refine MetFree.of_bodySF (plainFor_of_name pn2) hisR ?_
  intro p e s m args below meth c s₁ Bd hml0 hP hK
  obtain ⟨rfl, hZ, hh⟩ := hP
  have hx := Bd.exec
  have hby := Bd.bytes
  have hml : c.maxLocals = 1 := hml0
  have hown : s.vm.findClass "java/lang/Number" = some m.cls := findClass_of_methodNamed Bd.named
  have hnm := (name_of_methodNamed Bd.named Bd.method).1
  have X0 : Stand p l e Rm9 s m #[(.ref o0)] below meth c s₁ [] 0 0 := Stand.of_body Bd
  have e0 : s₁.heap = h0 := by rw [← hh, Bd.state]; rfl
  have N0 := Fr.nil n0
  show Dn p e below s Rm9.cells Rm9.slots (Q9 Z o0 h0 n0) (s₁.setTop (entryFrame m #[(.ref o0)] 1))
  rw [ef_9]
  refine Dn.by (U' := s₁.setTop (mkF m 1 #[.val (.ref o0)] [(.ref o0)])) (fun _ ks => XS.aloadN X0.here hx rfl (hb hby d9_0) rfl rfl ks) ?_
  obtain ⟨T1, X1, e1, st1⟩ := initO X0 hx hZ hown (hw _ (List.mem_of_getElem? (i := 68) rfl)) (hw _ (List.mem_of_getElem? (i := 8) rfl)) (hw _ (List.mem_of_getElem? (i := 9) rfl)) e0 (g := (mkF m 1 #[.val (.ref o0)] [(.ref o0)])) rfl (by rw [hml]; rfl) rfl (hb hby d9_1) (by decide) (W := 0) (by show 2 * 0 + _ ≤ _; exact Nat.le_of_eq rfl) (by decide)
  refine Dn.by (U' := T1.setTop (mkF m 4 #[.val (.ref o0)] [])) st1 ?_
  refine Dn.out X1 (v := none) (fun _ => rfl) (BodyLoose.notSynchronized Bd) (fun _ hr => X1.returnOut hx Bd.returns (hb hby d9_4) hr) (by decide) (by decide) ?_
  rw [e1]
  exact ⟨rfl, N0, rfl⟩
abbrev Rm8 : Room := { frames := 2, cells := 0, slots := 0, locals := 24 }
theorem ef_8 (m : MethodId) (o0 : Addr) (p1 : Int32) : entryFrame m #[(.ref o0), (.int p1)] 2 = mkF m 0 #[.val (.ref o0), .val (.int p1)] [] := by first | (simp [entryFrame, mkF, argsToLocals, Value.category]; done) | rfl
def Q8 (Z : State) (o0 : Addr) (p1 : Int32) (u_value_o0 : Value) (h0 : Heap) (n0 : Nat) (v : Option Value) (h : Heap) (L : List Loc) : Prop := v = none ∧ Fr n0 L ∧ Keep h0 h [o0] ∧ Exa Z h o0 "java/lang/Integer" ∧ Fld Z h o0 "java/lang/Integer" "value" "I" (.int p1)
set_option maxRecDepth 65536 in
set_option maxHeartbeats 40000000 in
theorem rm8 (l : Launch) (Z : State) (a0 : Array Value) (hw : ∀ d ∈ tables_1, d.before a0 Z = true) (ws : List Jvm.Cond) (o0 : Addr) (p1 : Int32) (u_value_o0 : Value) (h0 : Heap) (n0 : Nat) (Z0 : n0 ≤ h0.size) (g_o0 : n0 ≤ o0) (E_o0 : Exa Z h0 o0 "java/lang/Integer") (F_u_value_o0 : Fld Z h0 o0 "java/lang/Integer" "value" "I" u_value_o0) :
    MetFree l (⟨"java/lang/Integer", "<init>", "(I)V"⟩ : MethodName) (head1 (Jvm.Cond.code (⟨"java/lang/Integer", "<init>", "(I)V"⟩ : MethodName) jdk_33_method_23_code 2 none :: ws) Rm8) (fun a U => a = #[(.ref o0), (.int p1)] ∧ Z.Warmed39 U.vm ∧ U.heap = h0) (fun _ _ _ _ _ => True) (fun _ U o U' => ∃ v L, o = .returned v ∧ Q8 Z o0 p1 u_value_o0 h0 n0 v U'.heap L ∧ FrameEnd U o U' L Rm8.cells Rm8.slots) := by
  refine MetFree.of_bodySF (plainFor_of_name pn3) hisR ?_
  intro p e s m args below meth c s₁ Bd hml0 hP hK
  obtain ⟨rfl, hZ, hh⟩ := hP
  have hx := Bd.exec
  have hby := Bd.bytes
  have hml : c.maxLocals = 2 := hml0
  have hown : s.vm.findClass "java/lang/Integer" = some m.cls := findClass_of_methodNamed Bd.named
  have hnm := (name_of_methodNamed Bd.named Bd.method).1
  have X0 : Stand p l e Rm8 s m #[(.ref o0), (.int p1)] below meth c s₁ [] 0 0 := Stand.of_body Bd
  have e0 : s₁.heap = h0 := by rw [← hh, Bd.state]; rfl
  have N0 := Fr.nil n0
  show Dn p e below s Rm8.cells Rm8.slots (Q8 Z o0 p1 u_value_o0 h0 n0) (s₁.setTop (entryFrame m #[(.ref o0), (.int p1)] 2))
  rw [ef_8]
  refine Dn.by (U' := s₁.setTop (mkF m 1 #[.val (.ref o0), .val (.int p1)] [(.ref o0)])) (fun _ ks => XS.aloadN X0.here hx rfl (hb hby d8_0) rfl rfl ks) ?_
  obtain ⟨_, _, ⟨T1, L1, k1, n1⟩, -, X1, ⟨Lc1, hQ1, l1, y1, z1⟩, st1⟩ := X0.specialBack hx (y := (⟨"java/lang/Number", "<init>", "()V"⟩ : MethodName)) rfl hown (mvT hZ (hw _ (List.mem_of_getElem? (i := 62) rfl))) (mvT hZ (hw _ (List.mem_of_getElem? (i := 63) rfl))) (mvT hZ (hw _ (List.mem_of_getElem? (i := 67) rfl))) (by decide) (backOf (W := 0) (rm9 l Z a0 hw [] o0  h0 n0 Z0 ) hZ (hw _ (List.mem_of_getElem? (i := 67) rfl)) (hw _ (List.mem_of_getElem? (i := 66) rfl)) (by decide) (by decide)) (g := (mkF m 1 #[.val (.ref o0), .val (.int p1)] [(.ref o0)])) rfl (by rw [hml]; rfl) (Steps.refl _) (a := o0) (argsL := []) (rest := []) (lenOf pd2 rfl) rfl (by show 2 * 0 + _ ≤ _; exact Nat.le_of_eq rfl) (hb hby d8_1) (fun _ _ => ⟨rfl, e0, (by decide : 0 + 0 ≤ _), (by decide : 0 + 0 ≤ _)⟩)
  dsimp only [Pt.U, Pt.locs, Pt.cells, Pt.slots] at X1 l1 y1 z1 st1 hQ1
  rw [l1, y1, z1] at X1
  obtain ⟨rfl, N1q, e1⟩ := hQ1
  have N1 := Fr.app N0 N1q
  refine Dn.by (U' := T1.setTop (mkF m 4 #[.val (.ref o0), .val (.int p1)] [])) (fun _ ks => st1.trans ks) ?_
  refine Dn.by (U' := T1.setTop (mkF m 5 #[.val (.ref o0), .val (.int p1)] [(.ref o0)])) (fun _ ks => XS.aloadN X1.here hx rfl (hb hby d8_4) rfl rfl ks) ?_
  refine Dn.by (U' := T1.setTop (mkF m 6 #[.val (.ref o0), .val (.int p1)] [(.int p1), (.ref o0)])) (fun _ ks => XS.iloadN X1.here hx rfl (hb hby d8_5) rfl ks) ?_
  obtain ⟨T2, h2, X2, e2, W2, st2⟩ := putF X1 hx hZ hown (host := "") (Or.inl (hw _ (List.mem_of_getElem? (i := 69) rfl))) Via.refl e1 F_u_value_o0 E_o0 (Or.inr ⟨(hw _ (List.mem_of_getElem? (i := 70) rfl)), rfl, hnm⟩) (hw _ (List.mem_of_getElem? (i := 57) rfl)) (ty := .int) (by decide) rfl rfl (g := (mkF m 6 #[.val (.ref o0), .val (.int p1)] [(.int p1), (.ref o0)])) rfl rfl (hb hby d8_6)
  have F2 := F_u_value_o0.same W2
  have K3 : Keep h0 h2 [o0] := ((Keep.refl h0 [o0]).wr W2 (Or.inl (List.mem_of_getElem? (i := 0) rfl)))
  have z3 : n0 ≤ h2.size := (Nat.le_trans Z0 (Keep.of_wr W2).1)
  have N2 := Fr.snoc X2 N1 g_o0
  refine Dn.by (U' := T2.setTop (mkF m 9 #[.val (.ref o0), .val (.int p1)] [])) st2 ?_
  refine Dn.out X2 (v := none) (fun _ => rfl) (BodyLoose.notSynchronized Bd) (fun _ hr => X2.returnOut hx Bd.returns (hb hby d8_9) hr) (by decide) (by decide) ?_
  rw [e2]
  exact ⟨rfl, N2, K3, (E_o0.wr W2), F2⟩
abbrev Rm6 : Room := { frames := 3, cells := 1, slots := 1, locals := 38 }
theorem ef_6 (m : MethodId) (p0 : Int32) : entryFrame m #[(.int p0)] 1 = mkF m 0 #[.val (.int p0)] [] := by first | (simp [entryFrame, mkF, argsToLocals, Value.category]; done) | rfl
def Q6 (Z : State) (p0 : Int32) (h0 : Heap) (n0 : Nat) (v : Option Value) (h : Heap) (L : List Loc) : Prop := ∃ b, v = some (.ref b) ∧ Fr n0 L ∧ Keep h0 h [] ∧ Exa Z h b "java/lang/Integer"
set_option maxRecDepth 65536 in
set_option maxHeartbeats 40000000 in
theorem rm6 (l : Launch) (Z : State) (a0 : Array Value) (hw : ∀ d ∈ tables_1, d.before a0 Z = true) (ws : List Jvm.Cond) (p0 : Int32) (h0 : Heap) (n0 : Nat) (Z0 : n0 ≤ h0.size) (O0 : Old Z n0 h0) (ca : Addr) (cc : Cell) (vl : Int32 → Value) (S_hi : Sta Z Z.heap "java/lang/Integer$IntegerCache" "high" "I" (.int (127 : Int32))) (S_ca : Sta Z Z.heap "java/lang/Integer$IntegerCache" "cache" "[Ljava/lang/Integer;" (.ref ca)) (BX : Bxs Z ca cc "java/lang/Integer" "I" (256 : Int32) vl) :
    MetFree l (⟨"java/lang/Integer", "valueOf", "(I)Ljava/lang/Integer;"⟩ : MethodName) (head1 (Jvm.Cond.code (⟨"java/lang/Integer", "valueOf", "(I)Ljava/lang/Integer;"⟩ : MethodName) jdk_33_method_22_code 1 (some (.object "java/lang/Integer")) :: ws) Rm6) (fun a U => a = #[(.int p0)] ∧ Z.Warmed39 U.vm ∧ U.heap = h0) (fun _ _ _ _ _ => True) (fun _ U o U' => ∃ v L, o = .returned v ∧ Q6 Z p0 h0 n0 v U'.heap L ∧ FrameEnd U o U' L Rm6.cells Rm6.slots) := by
  refine MetFree.of_bodySF (plainFor_of_name pn3) hisR ?_
  intro p e s m args below meth c s₁ Bd hml0 hP hK
  obtain ⟨rfl, hZ, hh⟩ := hP
  have hx := Bd.exec
  have hby := Bd.bytes
  have hml : c.maxLocals = 1 := hml0
  have hown : s.vm.findClass "java/lang/Integer" = some m.cls := findClass_of_methodNamed Bd.named
  have hnm := (name_of_methodNamed Bd.named Bd.method).1
  have X0 : Stand p l e Rm6 s m #[(.int p0)] below meth c s₁ [] 0 0 := Stand.of_body Bd
  have e0 : s₁.heap = h0 := by rw [← hh, Bd.state]; rfl
  have N0 := Fr.nil n0
  show Dn p e below s Rm6.cells Rm6.slots (Q6 Z p0 h0 n0) (s₁.setTop (entryFrame m #[(.int p0)] 1))
  rw [ef_6]
  refine Dn.by (U' := s₁.setTop (mkF m 1 #[.val (.int p0)] [(.int p0)])) (fun _ ks => XS.iloadN X0.here hx rfl (hb hby d6_0) rfl ks) ?_
  refine Dn.by (U' := s₁.setTop (mkF m 3 #[.val (.int p0)] [(.int (-128 : Int32)), (.int p0)])) (fun _ ks => XS.bipush X0.here hx rfl (hb hby d6_1)  ks) ?_
  by_cases c3_1 : p0 < (-128 : Int32)
  ·
    refine Dn.by (U' := s₁.setTop (mkF m 23 #[.val (.int p0)] [])) (fun _ ks => XS.icmpYes X0.here hx rfl (pc0 := 3) (pc' := 23) rfl (hb hby d6_3) rfl (tlt c3_1).1 (by decide) (by decide) ks) ?_
    obtain ⟨T2, h2, X2, e2, E2, A2, D2, -, st2⟩ := newO X0 hx hZ hown (hw _ (List.mem_of_getElem? (i := 56) rfl)) (hw _ (List.mem_of_getElem? (i := 57) rfl)) (hw _ (List.mem_of_getElem? (i := 41) rfl)) e0 (g := (mkF m 23 #[.val (.int p0)] [])) rfl (hb hby d6_23) (by decide) (by decide)
    obtain ⟨b2, g2⟩ : ∃ z, z = h0.size := ⟨_, rfl⟩
    rw [← g2] at A2 D2 st2
    have g_b2 : n0 ≤ b2 := Nat.le_trans Z0 (Nat.le_of_eq g2.symm)
    have sz_b2 : h0.size ≤ b2 := Nat.le_trans (Keep.refl h0 []).1 (Nat.le_of_eq g2.symm)
    have K3 : Keep h0 h2 [] := ((Keep.refl h0 []).ext E2)
    have z3 : n0 ≤ h2.size := (Nat.le_trans Z0 E2.1)
    have O3 : Old Z n0 h2 := O0.ext E2
    have F_value_b2 : Fld Z h2 b2 "java/lang/Integer" "value" "I" (.int (0 : Int32)) := D2 (Or.inr (hw _ (List.mem_of_getElem? (i := 70) rfl))) (ty := .int) (by decide)
    refine Dn.by (U' := T2.setTop (mkF m 26 #[.val (.int p0)] [(.ref b2)])) st2 ?_
    refine Dn.by (U' := T2.setTop (mkF m 27 #[.val (.int p0)] [(.ref b2), (.ref b2)])) (fun _ ks => XS.dup X2.here hx rfl (hb hby d6_26) rfl rfl ks) ?_
    refine Dn.by (U' := T2.setTop (mkF m 28 #[.val (.int p0)] [(.int p0), (.ref b2), (.ref b2)])) (fun _ ks => XS.iloadN X2.here hx rfl (hb hby d6_27) rfl ks) ?_
    obtain ⟨_, _, ⟨T4, L4, k4, n4⟩, -, X4, ⟨Lc4, hQ4, l4, y4, z4⟩, st4⟩ := X2.specialBack hx (y := (⟨"java/lang/Integer", "<init>", "(I)V"⟩ : MethodName)) rfl hown (mvT hZ (hw _ (List.mem_of_getElem? (i := 58) rfl))) (mvT hZ (hw _ (List.mem_of_getElem? (i := 59) rfl))) (mvT hZ (hw _ (List.mem_of_getElem? (i := 61) rfl))) (by decide) (backOf (W := 1) (rm8 l Z a0 hw [] b2 p0 ((.int (0 : Int32)) : Value) h2 n0 z3 g_b2 A2 F_value_b2) hZ (hw _ (List.mem_of_getElem? (i := 61) rfl)) (hw _ (List.mem_of_getElem? (i := 41) rfl)) (by decide) (by decide)) (g := (mkF m 28 #[.val (.int p0)] [(.int p0), (.ref b2), (.ref b2)])) rfl (by rw [hml]; rfl) (Steps.refl _) (a := b2) (argsL := [(.int p0)]) (rest := [(.ref b2)]) (lenOf pd3 rfl) rfl (by show 2 * 0 + _ ≤ _; exact Nat.le_of_eq rfl) (hb hby d6_28) (fun _ _ => ⟨rfl, e2, (by decide : 1 + 0 ≤ _), (by decide : 1 + 0 ≤ _)⟩)
    dsimp only [Pt.U, Pt.locs, Pt.cells, Pt.slots] at X4 l4 y4 z4 st4 hQ4
    rw [l4, y4, z4] at X4
    obtain ⟨rfl, N4q, KK4, EE4, FF4_0⟩ := hQ4
    have N4 := Fr.app N0 N4q
    have K5 : Keep h0 T4.heap [] := (K3.trans KK4 (allS (Or.inr sz_b2) all0))
    have z5 : n0 ≤ T4.heap.size := (Nat.le_trans z3 KK4.1)
    have O5 : Old Z n0 T4.heap := O3.keep KK4 (allS g_b2 all0)
    refine Dn.by (U' := T4.setTop (mkF m 31 #[.val (.int p0)] [(.ref b2)])) (fun _ ks => st4.trans ks) ?_
    refine Dn.out X4 (v := (some (.ref b2))) (fun h => by rw [Bd.returns] at h; cases h) (BodyLoose.notSynchronized Bd) (fun _ hr => retOut X4 hx Bd.returns rfl (Or.inr (Or.inr (Or.inr (Or.inr ⟨rfl, rfl, rfl⟩)))) (hb hby d6_31) hr) (by decide) (by decide) ?_
    exact ⟨b2, rfl, N4, K5, (A2.keep KK4)⟩
  ·
    refine Dn.by (U' := s₁.setTop (mkF m 6 #[.val (.int p0)] [])) (fun _ ks => XS.icmpNo X0.here hx rfl (hb hby d6_3) rfl (flt c3_1).1 ks) ?_
    refine Dn.by (U' := s₁.setTop (mkF m 7 #[.val (.int p0)] [(.int p0)])) (fun _ ks => XS.iloadN X0.here hx rfl (hb hby d6_6) rfl ks) ?_
    obtain ⟨T6, X6, e6, st6⟩ := getS2 X0 hx hZ (a0 := a0) hown (host := "") (Or.inl (hw _ (List.mem_of_getElem? (i := 43) rfl))) Via.refl e0 (S_hi.ext O0.2) (g := (mkF m 7 #[.val (.int p0)] [(.int p0)])) rfl (hb hby d6_7)
    refine Dn.by (U' := T6.setTop (mkF m 10 #[.val (.int p0)] [(.int (127 : Int32)), (.int p0)])) st6 ?_
    by_cases c10_7 : (127 : Int32) < p0
    ·
      refine Dn.by (U' := T6.setTop (mkF m 23 #[.val (.int p0)] [])) (fun _ ks => XS.icmpYes X6.here hx rfl (pc0 := 10) (pc' := 23) rfl (hb hby d6_10) rfl (tlt c10_7).2.2.1 (by decide) (by decide) ks) ?_
      obtain ⟨T8, h8, X8, e8, E8, A8, D8, -, st8⟩ := newO X6 hx hZ hown (hw _ (List.mem_of_getElem? (i := 56) rfl)) (hw _ (List.mem_of_getElem? (i := 57) rfl)) (hw _ (List.mem_of_getElem? (i := 41) rfl)) e6 (g := (mkF m 23 #[.val (.int p0)] [])) rfl (hb hby d6_23) (by decide) (by decide)
      obtain ⟨b8, g8⟩ : ∃ z, z = h0.size := ⟨_, rfl⟩
      rw [← g8] at A8 D8 st8
      have g_b8 : n0 ≤ b8 := Nat.le_trans Z0 (Nat.le_of_eq g8.symm)
      have sz_b8 : h0.size ≤ b8 := Nat.le_trans (Keep.refl h0 []).1 (Nat.le_of_eq g8.symm)
      have K9 : Keep h0 h8 [] := ((Keep.refl h0 []).ext E8)
      have z9 : n0 ≤ h8.size := (Nat.le_trans Z0 E8.1)
      have O9 : Old Z n0 h8 := O0.ext E8
      have F_value_b8 : Fld Z h8 b8 "java/lang/Integer" "value" "I" (.int (0 : Int32)) := D8 (Or.inr (hw _ (List.mem_of_getElem? (i := 70) rfl))) (ty := .int) (by decide)
      refine Dn.by (U' := T8.setTop (mkF m 26 #[.val (.int p0)] [(.ref b8)])) st8 ?_
      refine Dn.by (U' := T8.setTop (mkF m 27 #[.val (.int p0)] [(.ref b8), (.ref b8)])) (fun _ ks => XS.dup X8.here hx rfl (hb hby d6_26) rfl rfl ks) ?_
      refine Dn.by (U' := T8.setTop (mkF m 28 #[.val (.int p0)] [(.int p0), (.ref b8), (.ref b8)])) (fun _ ks => XS.iloadN X8.here hx rfl (hb hby d6_27) rfl ks) ?_
      obtain ⟨_, _, ⟨T10, L10, k10, n10⟩, -, X10, ⟨Lc10, hQ10, l10, y10, z10⟩, st10⟩ := X8.specialBack hx (y := (⟨"java/lang/Integer", "<init>", "(I)V"⟩ : MethodName)) rfl hown (mvT hZ (hw _ (List.mem_of_getElem? (i := 58) rfl))) (mvT hZ (hw _ (List.mem_of_getElem? (i := 59) rfl))) (mvT hZ (hw _ (List.mem_of_getElem? (i := 61) rfl))) (by decide) (backOf (W := 1) (rm8 l Z a0 hw [] b8 p0 ((.int (0 : Int32)) : Value) h8 n0 z9 g_b8 A8 F_value_b8) hZ (hw _ (List.mem_of_getElem? (i := 61) rfl)) (hw _ (List.mem_of_getElem? (i := 41) rfl)) (by decide) (by decide)) (g := (mkF m 28 #[.val (.int p0)] [(.int p0), (.ref b8), (.ref b8)])) rfl (by rw [hml]; rfl) (Steps.refl _) (a := b8) (argsL := [(.int p0)]) (rest := [(.ref b8)]) (lenOf pd3 rfl) rfl (by show 2 * 0 + _ ≤ _; exact Nat.le_of_eq rfl) (hb hby d6_28) (fun _ _ => ⟨rfl, e8, (by decide : 1 + 0 ≤ _), (by decide : 1 + 0 ≤ _)⟩)
      dsimp only [Pt.U, Pt.locs, Pt.cells, Pt.slots] at X10 l10 y10 z10 st10 hQ10
      rw [l10, y10, z10] at X10
      obtain ⟨rfl, N10q, KK10, EE10, FF10_0⟩ := hQ10
      have N10 := Fr.app N0 N10q
      have K11 : Keep h0 T10.heap [] := (K9.trans KK10 (allS (Or.inr sz_b8) all0))
      have z11 : n0 ≤ T10.heap.size := (Nat.le_trans z9 KK10.1)
      have O11 : Old Z n0 T10.heap := O9.keep KK10 (allS g_b8 all0)
      refine Dn.by (U' := T10.setTop (mkF m 31 #[.val (.int p0)] [(.ref b8)])) (fun _ ks => st10.trans ks) ?_
      refine Dn.out X10 (v := (some (.ref b8))) (fun h => by rw [Bd.returns] at h; cases h) (BodyLoose.notSynchronized Bd) (fun _ hr => retOut X10 hx Bd.returns rfl (Or.inr (Or.inr (Or.inr (Or.inr ⟨rfl, rfl, rfl⟩)))) (hb hby d6_31) hr) (by decide) (by decide) ?_
      exact ⟨b8, rfl, N10, K11, (A8.keep KK10)⟩
    ·
      refine Dn.by (U' := T6.setTop (mkF m 13 #[.val (.int p0)] [])) (fun _ ks => XS.icmpNo X6.here hx rfl (hb hby d6_10) rfl (flt c10_7).2.2.1 ks) ?_
      obtain ⟨T12, X12, e12, st12⟩ := getS2 X6 hx hZ (a0 := a0) hown (host := "") (Or.inl (hw _ (List.mem_of_getElem? (i := 45) rfl))) Via.refl e6 (S_ca.ext O0.2) (g := (mkF m 13 #[.val (.int p0)] [])) rfl (hb hby d6_13)
      refine Dn.by (U' := T12.setTop (mkF m 16 #[.val (.int p0)] [(.ref ca)])) st12 ?_
      refine Dn.by (U' := T12.setTop (mkF m 17 #[.val (.int p0)] [(.int p0), (.ref ca)])) (fun _ ks => XS.iloadN X12.here hx rfl (hb hby d6_16) rfl ks) ?_
      refine Dn.by (U' := T12.setTop (mkF m 20 #[.val (.int p0)] [(.int (128 : Int32)), (.int p0), (.ref ca)])) (fun _ ks => XS.sipush X12.here hx rfl (hb hby d6_17)  ks) ?_
      refine Dn.by (U' := T12.setTop (mkF m 21 #[.val (.int p0)] [(.int (p0 + (128 : Int32))), (.ref ca)])) (fun _ ks => XS.iadd X12.here hx rfl (hb hby d6_20) rfl ks) ?_
      have hj : ¬ (p0 + (128 : Int32)) < (0 : Int32) ∧ (p0 + (128 : Int32)) < (256 : Int32) := by
        have u0 : ¬ p0.toInt < (-128 : Int32).toInt := fun q => c3_1 (Int32.lt_iff_toInt_lt.mpr q)
        have u1 : ¬ (127 : Int32).toInt < p0.toInt := fun q => c10_7 (Int32.lt_iff_toInt_lt.mpr q)
        have u2 := rng32 p0
        have u3 := (by decide : (-128 : Int32).toInt = -128)
        have u4 := (by decide : (127 : Int32).toInt = 127)
        have u5 := (by decide : (128 : Int32).toInt = 128)
        have u6 := rng32 (p0 + (128 : Int32))
        have u7 := c_iadd p0 (128 : Int32)
        have u8 := (by decide : (0 : Int32).toInt = 0)
        have u9 := (by decide : (256 : Int32).toInt = 256)
        rw [Int32.lt_iff_toInt_lt, Int32.lt_iff_toInt_lt]
        omega
      have hin := inb_of BX.2.1 hj
      obtain ⟨bx, hat, EB, FB⟩ := BX.2.2.2 (p0 + (128 : Int32)) hin
      have Ar : Arr Z h0 ca cc (.object "java/lang/Integer") := (BX.ext O0.2).1
      refine Dn.by (U' := T12.setTop (mkF m 22 #[.val (.int p0)] [(.ref bx)])) (X12.aaload hx (j := (p0 + (128 : Int32))) (v := (.ref bx)) (by rw [e12]; exact Ar.1) (State.isArrayOf_alike hZ.alike Ar.2.1) rfl Ar.2.2 hin hat (g := (mkF m 21 #[.val (.int p0)] [(.int (p0 + (128 : Int32))), (.ref ca)])) rfl rfl (hb hby d6_21)) ?_
      refine Dn.out X12 (v := (some (.ref bx))) (fun h => by rw [Bd.returns] at h; cases h) (BodyLoose.notSynchronized Bd) (fun _ hr => retOut X12 hx Bd.returns rfl (Or.inr (Or.inr (Or.inr (Or.inr ⟨rfl, rfl, rfl⟩)))) (hb hby d6_22) hr) (by decide) (by decide) ?_
      rw [e12]
      exact ⟨bx, rfl, N0, (Keep.refl h0 []), (EB.ext O0.2)⟩
theorem ef_0 (m : MethodId) (p0 : Int32) (p1 : Int32) (p2 : Int32) (p3 : Int32) (p4 : Int32) (p5 : Int32) : entryFrame m #[(.int p0), (.int p1), (.int p2), (.int p3), (.int p4), (.int p5)] maxLocals = mkF m 0 #[.val (.int p0), .val (.int p1), .val (.int p2), .val (.int p3), .val (.int p4), .val (.int p5), .unset, .unset, .unset, .unset, .unset, .unset, .unset, .unset, .unset, .unset, .unset, .unset, .unset, .unset] [] := by first | (simp [entryFrame, mkF, argsToLocals, Value.category, maxLocals]; done) | rfl
def Q0 (Z : State) (p0 : Int32) (p1 : Int32) (p2 : Int32) (p3 : Int32) (p4 : Int32) (p5 : Int32) (ca : Addr) (cc : Cell) (vl : Int32 → Value) (h0 : Heap) (n0 : Nat) (v : Option Value) (h : Heap) (L : List Loc) : Prop := v = some (.int 1) ∧ Fr n0 L
set_option maxRecDepth 65536 in
set_option maxHeartbeats 40000000 in
theorem rm0 (l : Launch) (Z : State) (a0 : Array Value) (hw : ∀ d ∈ tables_1, d.before a0 Z = true) (ws : List Jvm.Cond) (p0 : Int32) (p1 : Int32) (p2 : Int32) (p3 : Int32) (p4 : Int32) (p5 : Int32) (ca : Addr) (cc : Cell) (vl : Int32 → Value) (h0 : Heap) (n0 : Nat) (Z0 : n0 ≤ h0.size) (O0 : Old Z n0 h0) (S_hi : Sta Z Z.heap "java/lang/Integer$IntegerCache" "high" "I" (.int (127 : Int32))) (S_ca : Sta Z Z.heap "java/lang/Integer$IntegerCache" "cache" "[Ljava/lang/Integer;" (.ref ca)) (BX : Bxs Z ca cc "java/lang/Integer" "I" (256 : Int32) vl) :
    MetFree l x (head1 (Jvm.Cond.code x code maxLocals ret :: ws) room_1) (fun a U => a = #[(.int p0), (.int p1), (.int p2), (.int p3), (.int p4), (.int p5)] ∧ Z.Warmed39 U.vm ∧ U.heap = h0 ∧ CHv Z EL U.vm h0 ∧ ∀ x ∈ ([] : List Addr), Safe Z EL U.vm h0 x) (fun _ _ _ _ _ => True) (fun _ U o U' => ∃ v L, o = .returned v ∧ Q0 Z p0 p1 p2 p3 p4 p5 ca cc vl h0 n0 v U'.heap L ∧ CHr Z EL U.vm U.heap U'.vm U'.heap ∧ ReturnedEndW U o U' L 24 4224) := by
  refine MetFree.of_bodySF (plainFor_of_name pn4) hisR ?_
  intro p e s m args below meth c s₁ Bd hml0 hP hK
  obtain ⟨rfl, hZ, hh, hCH, hSL⟩ := hP
  have hx := Bd.exec
  have hby := Bd.bytes
  have hml : c.maxLocals = 20 := hml0
  have hown : s.vm.findClass "com/example/flok/flok/geo/BoxEqualsPinLaw" = some m.cls := findClass_of_methodNamed Bd.named
  have hnm := (name_of_methodNamed Bd.named Bd.method).1
  have X0 : Stand p l e room_1 (s.setVm s.vm) m #[(.int p0), (.int p1), (.int p2), (.int p3), (.int p4), (.int p5)] below meth c s₁ [] 0 0 := Stand.of_body Bd
  have hS0 : s.Since s.vm 0 := (State.WarmedH.refl s).since 0
  have hk0 : 0 ≤ h0.size := Nat.zero_le _
  have C0 : CHr Z EL s.vm h0 s.vm h0 := CHr.refl hCH
  have hEL : EW Z a0 EL := own_EL hw
  have e0 : s₁.heap = h0 := by rw [← hh, Bd.state]; rfl
  have N0 := Fr.nil n0
  show DnW p e below s EL Z 24 4224 (Q0 Z p0 p1 p2 p3 p4 p5 ca cc vl h0 n0) (s₁.setTop (entryFrame m #[(.int p0), (.int p1), (.int p2), (.int p3), (.int p4), (.int p5)] maxLocals))
  rw [ef_0]
  refine DnW.by (U' := s₁.setTop (mkF m 1 #[.val (.int p0), .val (.int p1), .val (.int p2), .val (.int p3), .val (.int p4), .val (.int p5), .unset, .unset, .unset, .unset, .unset, .unset, .unset, .unset, .unset, .unset, .unset, .unset, .unset, .unset] [(.int p0)])) (fun _ ks => XS.iloadN X0.here hx rfl (hb hby at_0) rfl ks) ?_
  refine DnW.by (U' := s₁.setTop (mkF m 3 #[.val (.int p0), .val (.int p1), .val (.int p2), .val (.int p3), .val (.int p4), .val (.int p5), .unset, .unset, .unset, .unset, .unset, .unset, .unset, .unset, .unset, .unset, .unset, .unset, .unset, .unset] [(.int (2147483647 : Int32)), (.int p0)])) (X0.ldcInt hx hown (mvT hZ (hw _ (List.mem_of_getElem? (i := 0) rfl))) (g := (mkF m 1 #[.val (.int p0), .val (.int p1), .val (.int p2), .val (.int p3), .val (.int p4), .val (.int p5), .unset, .unset, .unset, .unset, .unset, .unset, .unset, .unset, .unset, .unset, .unset, .unset, .unset, .unset] [(.int p0)])) rfl (hb hby at_1)) ?_
  refine DnW.by (U' := s₁.setTop (mkF m 4 #[.val (.int p0), .val (.int p1), .val (.int p2), .val (.int p3), .val (.int p4), .val (.int p5), .unset, .unset, .unset, .unset, .unset, .unset, .unset, .unset, .unset, .unset, .unset, .unset, .unset, .unset] [(.int (p0 &&& (2147483647 : Int32)))])) (fun _ ks => XS.iand X0.here hx rfl (hb hby at_3) rfl ks) ?_
  refine DnW.by (U' := s₁.setTop (mkF m 7 #[.val (.int p0), .val (.int p1), .val (.int p2), .val (.int p3), .val (.int p4), .val (.int p5), .unset, .unset, .unset, .unset, .unset, .unset, .unset, .unset, .unset, .unset, .unset, .unset, .unset, .unset] [(.int (181 : Int32)), (.int (p0 &&& (2147483647 : Int32)))])) (fun _ ks => XS.sipush X0.here hx rfl (hb hby at_4)  ks) ?_
  refine DnW.by (U' := s₁.setTop (mkF m 8 #[.val (.int p0), .val (.int p1), .val (.int p2), .val (.int p3), .val (.int p4), .val (.int p5), .unset, .unset, .unset, .unset, .unset, .unset, .unset, .unset, .unset, .unset, .unset, .unset, .unset, .unset] [(.int ((p0 &&& (2147483647 : Int32)) % (181 : Int32)))])) (fun _ ks => iremM X0 hx rfl (hb hby at_7) rfl (by decide) ks) ?_
  refine DnW.by (U' := s₁.setTop (mkF m 9 #[.val (.int p0), .val (.int p1), .val (.int p2), .val (.int p3), .val (.int p4), .val (.int p5), .unset, .unset, .unset, .unset, .unset, .unset, .unset, .unset, .unset, .unset, .unset, .unset, .unset, .unset] [(.int (-((p0 &&& (2147483647 : Int32)) % (181 : Int32))))])) (fun _ ks => XS.ineg X0.here hx rfl (hb hby at_8) rfl ks) ?_
  have Hgw1 : -180 ≤ (-((p0 &&& (2147483647 : Int32)) % (181 : Int32))).toInt ∧ (-((p0 &&& (2147483647 : Int32)) % (181 : Int32))).toInt ≤ 0 := by
    have u0 := rng32 p0
    have u1 := (by decide : (2147483647 : Int32).toInt = 2147483647)
    have u2 := rng32 (p0 &&& (2147483647 : Int32))
    have u3 := c_mask p0 (2147483647 : Int32) 31 (by decide) (by decide)
    have u4 := (by decide : (181 : Int32).toInt = 181)
    have u5 := rng32 ((p0 &&& (2147483647 : Int32)) % (181 : Int32))
    have u6 := c_irem (p0 &&& (2147483647 : Int32)) (181 : Int32) 181 (by decide)
    have u7 := rng32 (-((p0 &&& (2147483647 : Int32)) % (181 : Int32)))
    have u8 := c_ineg ((p0 &&& (2147483647 : Int32)) % (181 : Int32))
    omega
  generalize (-((p0 &&& (2147483647 : Int32)) % (181 : Int32))) = gw1 at Hgw1 ⊢
  refine DnW.by (U' := s₁.setTop (mkF m 11 #[.val (.int p0), .val (.int p1), .val (.int p2), .val (.int p3), .val (.int p4), .val (.int p5), .val (.int gw1), .unset, .unset, .unset, .unset, .unset, .unset, .unset, .unset, .unset, .unset, .unset, .unset, .unset] [])) (fun _ ks => XS.istore X0.here hx rfl (hb hby at_9) rfl (l' := #[.val (.int p0), .val (.int p1), .val (.int p2), .val (.int p3), .val (.int p4), .val (.int p5), .val (.int gw1), .unset, .unset, .unset, .unset, .unset, .unset, .unset, .unset, .unset, .unset, .unset, .unset, .unset]) rfl ks) ?_
  refine DnW.by (U' := s₁.setTop (mkF m 12 #[.val (.int p0), .val (.int p1), .val (.int p2), .val (.int p3), .val (.int p4), .val (.int p5), .val (.int gw1), .unset, .unset, .unset, .unset, .unset, .unset, .unset, .unset, .unset, .unset, .unset, .unset, .unset] [(.int p1)])) (fun _ ks => XS.iloadN X0.here hx rfl (hb hby at_11) rfl ks) ?_
  refine DnW.by (U' := s₁.setTop (mkF m 14 #[.val (.int p0), .val (.int p1), .val (.int p2), .val (.int p3), .val (.int p4), .val (.int p5), .val (.int gw1), .unset, .unset, .unset, .unset, .unset, .unset, .unset, .unset, .unset, .unset, .unset, .unset, .unset] [(.int (2147483647 : Int32)), (.int p1)])) (X0.ldcInt hx hown (mvT hZ (hw _ (List.mem_of_getElem? (i := 0) rfl))) (g := (mkF m 12 #[.val (.int p0), .val (.int p1), .val (.int p2), .val (.int p3), .val (.int p4), .val (.int p5), .val (.int gw1), .unset, .unset, .unset, .unset, .unset, .unset, .unset, .unset, .unset, .unset, .unset, .unset, .unset] [(.int p1)])) rfl (hb hby at_12)) ?_
  refine DnW.by (U' := s₁.setTop (mkF m 15 #[.val (.int p0), .val (.int p1), .val (.int p2), .val (.int p3), .val (.int p4), .val (.int p5), .val (.int gw1), .unset, .unset, .unset, .unset, .unset, .unset, .unset, .unset, .unset, .unset, .unset, .unset, .unset] [(.int (p1 &&& (2147483647 : Int32)))])) (fun _ ks => XS.iand X0.here hx rfl (hb hby at_14) rfl ks) ?_
  refine DnW.by (U' := s₁.setTop (mkF m 17 #[.val (.int p0), .val (.int p1), .val (.int p2), .val (.int p3), .val (.int p4), .val (.int p5), .val (.int gw1), .unset, .unset, .unset, .unset, .unset, .unset, .unset, .unset, .unset, .unset, .unset, .unset, .unset] [(.int (91 : Int32)), (.int (p1 &&& (2147483647 : Int32)))])) (fun _ ks => XS.bipush X0.here hx rfl (hb hby at_15)  ks) ?_
  refine DnW.by (U' := s₁.setTop (mkF m 18 #[.val (.int p0), .val (.int p1), .val (.int p2), .val (.int p3), .val (.int p4), .val (.int p5), .val (.int gw1), .unset, .unset, .unset, .unset, .unset, .unset, .unset, .unset, .unset, .unset, .unset, .unset, .unset] [(.int ((p1 &&& (2147483647 : Int32)) % (91 : Int32)))])) (fun _ ks => iremM X0 hx rfl (hb hby at_17) rfl (by decide) ks) ?_
  refine DnW.by (U' := s₁.setTop (mkF m 19 #[.val (.int p0), .val (.int p1), .val (.int p2), .val (.int p3), .val (.int p4), .val (.int p5), .val (.int gw1), .unset, .unset, .unset, .unset, .unset, .unset, .unset, .unset, .unset, .unset, .unset, .unset, .unset] [(.int (-((p1 &&& (2147483647 : Int32)) % (91 : Int32))))])) (fun _ ks => XS.ineg X0.here hx rfl (hb hby at_18) rfl ks) ?_
  have Hgs1 : -90 ≤ (-((p1 &&& (2147483647 : Int32)) % (91 : Int32))).toInt ∧ (-((p1 &&& (2147483647 : Int32)) % (91 : Int32))).toInt ≤ 0 := by
    have u0 := rng32 p1
    have u1 := (by decide : (2147483647 : Int32).toInt = 2147483647)
    have u2 := rng32 (p1 &&& (2147483647 : Int32))
    have u3 := c_mask p1 (2147483647 : Int32) 31 (by decide) (by decide)
    have u4 := (by decide : (91 : Int32).toInt = 91)
    have u5 := rng32 ((p1 &&& (2147483647 : Int32)) % (91 : Int32))
    have u6 := c_irem (p1 &&& (2147483647 : Int32)) (91 : Int32) 91 (by decide)
    have u7 := rng32 (-((p1 &&& (2147483647 : Int32)) % (91 : Int32)))
    have u8 := c_ineg ((p1 &&& (2147483647 : Int32)) % (91 : Int32))
    omega
  generalize (-((p1 &&& (2147483647 : Int32)) % (91 : Int32))) = gs1 at Hgs1 ⊢
  refine DnW.by (U' := s₁.setTop (mkF m 21 #[.val (.int p0), .val (.int p1), .val (.int p2), .val (.int p3), .val (.int p4), .val (.int p5), .val (.int gw1), .val (.int gs1), .unset, .unset, .unset, .unset, .unset, .unset, .unset, .unset, .unset, .unset, .unset, .unset] [])) (fun _ ks => XS.istore X0.here hx rfl (hb hby at_19) rfl (l' := #[.val (.int p0), .val (.int p1), .val (.int p2), .val (.int p3), .val (.int p4), .val (.int p5), .val (.int gw1), .val (.int gs1), .unset, .unset, .unset, .unset, .unset, .unset, .unset, .unset, .unset, .unset, .unset, .unset]) rfl ks) ?_
  refine DnW.by (U' := s₁.setTop (mkF m 22 #[.val (.int p0), .val (.int p1), .val (.int p2), .val (.int p3), .val (.int p4), .val (.int p5), .val (.int gw1), .val (.int gs1), .unset, .unset, .unset, .unset, .unset, .unset, .unset, .unset, .unset, .unset, .unset, .unset] [(.int p2)])) (fun _ ks => XS.iloadN X0.here hx rfl (hb hby at_21) rfl ks) ?_
  refine DnW.by (U' := s₁.setTop (mkF m 24 #[.val (.int p0), .val (.int p1), .val (.int p2), .val (.int p3), .val (.int p4), .val (.int p5), .val (.int gw1), .val (.int gs1), .unset, .unset, .unset, .unset, .unset, .unset, .unset, .unset, .unset, .unset, .unset, .unset] [(.int (2147483647 : Int32)), (.int p2)])) (X0.ldcInt hx hown (mvT hZ (hw _ (List.mem_of_getElem? (i := 0) rfl))) (g := (mkF m 22 #[.val (.int p0), .val (.int p1), .val (.int p2), .val (.int p3), .val (.int p4), .val (.int p5), .val (.int gw1), .val (.int gs1), .unset, .unset, .unset, .unset, .unset, .unset, .unset, .unset, .unset, .unset, .unset, .unset] [(.int p2)])) rfl (hb hby at_22)) ?_
  refine DnW.by (U' := s₁.setTop (mkF m 25 #[.val (.int p0), .val (.int p1), .val (.int p2), .val (.int p3), .val (.int p4), .val (.int p5), .val (.int gw1), .val (.int gs1), .unset, .unset, .unset, .unset, .unset, .unset, .unset, .unset, .unset, .unset, .unset, .unset] [(.int (p2 &&& (2147483647 : Int32)))])) (fun _ ks => XS.iand X0.here hx rfl (hb hby at_24) rfl ks) ?_
  refine DnW.by (U' := s₁.setTop (mkF m 28 #[.val (.int p0), .val (.int p1), .val (.int p2), .val (.int p3), .val (.int p4), .val (.int p5), .val (.int gw1), .val (.int gs1), .unset, .unset, .unset, .unset, .unset, .unset, .unset, .unset, .unset, .unset, .unset, .unset] [(.int (181 : Int32)), (.int (p2 &&& (2147483647 : Int32)))])) (fun _ ks => XS.sipush X0.here hx rfl (hb hby at_25)  ks) ?_
  refine DnW.by (U' := s₁.setTop (mkF m 29 #[.val (.int p0), .val (.int p1), .val (.int p2), .val (.int p3), .val (.int p4), .val (.int p5), .val (.int gw1), .val (.int gs1), .unset, .unset, .unset, .unset, .unset, .unset, .unset, .unset, .unset, .unset, .unset, .unset] [(.int ((p2 &&& (2147483647 : Int32)) % (181 : Int32)))])) (fun _ ks => iremM X0 hx rfl (hb hby at_28) rfl (by decide) ks) ?_
  have Hge1 : 0 ≤ ((p2 &&& (2147483647 : Int32)) % (181 : Int32)).toInt ∧ ((p2 &&& (2147483647 : Int32)) % (181 : Int32)).toInt ≤ 180 := by
    have u0 := rng32 p2
    have u1 := (by decide : (2147483647 : Int32).toInt = 2147483647)
    have u2 := rng32 (p2 &&& (2147483647 : Int32))
    have u3 := c_mask p2 (2147483647 : Int32) 31 (by decide) (by decide)
    have u4 := (by decide : (181 : Int32).toInt = 181)
    have u5 := rng32 ((p2 &&& (2147483647 : Int32)) % (181 : Int32))
    have u6 := c_irem (p2 &&& (2147483647 : Int32)) (181 : Int32) 181 (by decide)
    omega
  generalize ((p2 &&& (2147483647 : Int32)) % (181 : Int32)) = ge1 at Hge1 ⊢
  refine DnW.by (U' := s₁.setTop (mkF m 31 #[.val (.int p0), .val (.int p1), .val (.int p2), .val (.int p3), .val (.int p4), .val (.int p5), .val (.int gw1), .val (.int gs1), .val (.int ge1), .unset, .unset, .unset, .unset, .unset, .unset, .unset, .unset, .unset, .unset, .unset] [])) (fun _ ks => XS.istore X0.here hx rfl (hb hby at_29) rfl (l' := #[.val (.int p0), .val (.int p1), .val (.int p2), .val (.int p3), .val (.int p4), .val (.int p5), .val (.int gw1), .val (.int gs1), .val (.int ge1), .unset, .unset, .unset, .unset, .unset, .unset, .unset, .unset, .unset, .unset, .unset]) rfl ks) ?_
  refine DnW.by (U' := s₁.setTop (mkF m 32 #[.val (.int p0), .val (.int p1), .val (.int p2), .val (.int p3), .val (.int p4), .val (.int p5), .val (.int gw1), .val (.int gs1), .val (.int ge1), .unset, .unset, .unset, .unset, .unset, .unset, .unset, .unset, .unset, .unset, .unset] [(.int p3)])) (fun _ ks => XS.iloadN X0.here hx rfl (hb hby at_31) rfl ks) ?_
  refine DnW.by (U' := s₁.setTop (mkF m 34 #[.val (.int p0), .val (.int p1), .val (.int p2), .val (.int p3), .val (.int p4), .val (.int p5), .val (.int gw1), .val (.int gs1), .val (.int ge1), .unset, .unset, .unset, .unset, .unset, .unset, .unset, .unset, .unset, .unset, .unset] [(.int (2147483647 : Int32)), (.int p3)])) (X0.ldcInt hx hown (mvT hZ (hw _ (List.mem_of_getElem? (i := 0) rfl))) (g := (mkF m 32 #[.val (.int p0), .val (.int p1), .val (.int p2), .val (.int p3), .val (.int p4), .val (.int p5), .val (.int gw1), .val (.int gs1), .val (.int ge1), .unset, .unset, .unset, .unset, .unset, .unset, .unset, .unset, .unset, .unset, .unset] [(.int p3)])) rfl (hb hby at_32)) ?_
  refine DnW.by (U' := s₁.setTop (mkF m 35 #[.val (.int p0), .val (.int p1), .val (.int p2), .val (.int p3), .val (.int p4), .val (.int p5), .val (.int gw1), .val (.int gs1), .val (.int ge1), .unset, .unset, .unset, .unset, .unset, .unset, .unset, .unset, .unset, .unset, .unset] [(.int (p3 &&& (2147483647 : Int32)))])) (fun _ ks => XS.iand X0.here hx rfl (hb hby at_34) rfl ks) ?_
  refine DnW.by (U' := s₁.setTop (mkF m 37 #[.val (.int p0), .val (.int p1), .val (.int p2), .val (.int p3), .val (.int p4), .val (.int p5), .val (.int gw1), .val (.int gs1), .val (.int ge1), .unset, .unset, .unset, .unset, .unset, .unset, .unset, .unset, .unset, .unset, .unset] [(.int (91 : Int32)), (.int (p3 &&& (2147483647 : Int32)))])) (fun _ ks => XS.bipush X0.here hx rfl (hb hby at_35)  ks) ?_
  refine DnW.by (U' := s₁.setTop (mkF m 38 #[.val (.int p0), .val (.int p1), .val (.int p2), .val (.int p3), .val (.int p4), .val (.int p5), .val (.int gw1), .val (.int gs1), .val (.int ge1), .unset, .unset, .unset, .unset, .unset, .unset, .unset, .unset, .unset, .unset, .unset] [(.int ((p3 &&& (2147483647 : Int32)) % (91 : Int32)))])) (fun _ ks => iremM X0 hx rfl (hb hby at_37) rfl (by decide) ks) ?_
  have Hgn1 : 0 ≤ ((p3 &&& (2147483647 : Int32)) % (91 : Int32)).toInt ∧ ((p3 &&& (2147483647 : Int32)) % (91 : Int32)).toInt ≤ 90 := by
    have u0 := rng32 p3
    have u1 := (by decide : (2147483647 : Int32).toInt = 2147483647)
    have u2 := rng32 (p3 &&& (2147483647 : Int32))
    have u3 := c_mask p3 (2147483647 : Int32) 31 (by decide) (by decide)
    have u4 := (by decide : (91 : Int32).toInt = 91)
    have u5 := rng32 ((p3 &&& (2147483647 : Int32)) % (91 : Int32))
    have u6 := c_irem (p3 &&& (2147483647 : Int32)) (91 : Int32) 91 (by decide)
    omega
  generalize ((p3 &&& (2147483647 : Int32)) % (91 : Int32)) = gn1 at Hgn1 ⊢
  refine DnW.by (U' := s₁.setTop (mkF m 40 #[.val (.int p0), .val (.int p1), .val (.int p2), .val (.int p3), .val (.int p4), .val (.int p5), .val (.int gw1), .val (.int gs1), .val (.int ge1), .val (.int gn1), .unset, .unset, .unset, .unset, .unset, .unset, .unset, .unset, .unset, .unset] [])) (fun _ ks => XS.istore X0.here hx rfl (hb hby at_38) rfl (l' := #[.val (.int p0), .val (.int p1), .val (.int p2), .val (.int p3), .val (.int p4), .val (.int p5), .val (.int gw1), .val (.int gs1), .val (.int ge1), .val (.int gn1), .unset, .unset, .unset, .unset, .unset, .unset, .unset, .unset, .unset, .unset]) rfl ks) ?_
  refine DnW.by (U' := s₁.setTop (mkF m 42 #[.val (.int p0), .val (.int p1), .val (.int p2), .val (.int p3), .val (.int p4), .val (.int p5), .val (.int gw1), .val (.int gs1), .val (.int ge1), .val (.int gn1), .unset, .unset, .unset, .unset, .unset, .unset, .unset, .unset, .unset, .unset] [(.int p4)])) (fun _ ks => XS.iload X0.here hx rfl (hb hby at_40) rfl ks) ?_
  refine DnW.by (U' := s₁.setTop (mkF m 44 #[.val (.int p0), .val (.int p1), .val (.int p2), .val (.int p3), .val (.int p4), .val (.int p5), .val (.int gw1), .val (.int gs1), .val (.int ge1), .val (.int gn1), .unset, .unset, .unset, .unset, .unset, .unset, .unset, .unset, .unset, .unset] [(.int (2147483647 : Int32)), (.int p4)])) (X0.ldcInt hx hown (mvT hZ (hw _ (List.mem_of_getElem? (i := 0) rfl))) (g := (mkF m 42 #[.val (.int p0), .val (.int p1), .val (.int p2), .val (.int p3), .val (.int p4), .val (.int p5), .val (.int gw1), .val (.int gs1), .val (.int ge1), .val (.int gn1), .unset, .unset, .unset, .unset, .unset, .unset, .unset, .unset, .unset, .unset] [(.int p4)])) rfl (hb hby at_42)) ?_
  refine DnW.by (U' := s₁.setTop (mkF m 45 #[.val (.int p0), .val (.int p1), .val (.int p2), .val (.int p3), .val (.int p4), .val (.int p5), .val (.int gw1), .val (.int gs1), .val (.int ge1), .val (.int gn1), .unset, .unset, .unset, .unset, .unset, .unset, .unset, .unset, .unset, .unset] [(.int (p4 &&& (2147483647 : Int32)))])) (fun _ ks => XS.iand X0.here hx rfl (hb hby at_44) rfl ks) ?_
  have Hal : 0 ≤ (p4 &&& (2147483647 : Int32)).toInt := by
    have u0 := rng32 p4
    have u1 := (by decide : (2147483647 : Int32).toInt = 2147483647)
    have u2 := rng32 (p4 &&& (2147483647 : Int32))
    have u3 := c_mask p4 (2147483647 : Int32) 31 (by decide) (by decide)
    omega
  generalize (p4 &&& (2147483647 : Int32)) = al at Hal ⊢
  refine DnW.by (U' := s₁.setTop (mkF m 47 #[.val (.int p0), .val (.int p1), .val (.int p2), .val (.int p3), .val (.int p4), .val (.int p5), .val (.int gw1), .val (.int gs1), .val (.int ge1), .val (.int gn1), .val (.int al), .unset, .unset, .unset, .unset, .unset, .unset, .unset, .unset, .unset] [])) (fun _ ks => XS.istore X0.here hx rfl (hb hby at_45) rfl (l' := #[.val (.int p0), .val (.int p1), .val (.int p2), .val (.int p3), .val (.int p4), .val (.int p5), .val (.int gw1), .val (.int gs1), .val (.int ge1), .val (.int gn1), .val (.int al), .unset, .unset, .unset, .unset, .unset, .unset, .unset, .unset, .unset]) rfl ks) ?_
  refine DnW.by (U' := s₁.setTop (mkF m 49 #[.val (.int p0), .val (.int p1), .val (.int p2), .val (.int p3), .val (.int p4), .val (.int p5), .val (.int gw1), .val (.int gs1), .val (.int ge1), .val (.int gn1), .val (.int al), .unset, .unset, .unset, .unset, .unset, .unset, .unset, .unset, .unset] [(.int p5)])) (fun _ ks => XS.iload X0.here hx rfl (hb hby at_47) rfl ks) ?_
  refine DnW.by (U' := s₁.setTop (mkF m 50 #[.val (.int p0), .val (.int p1), .val (.int p2), .val (.int p3), .val (.int p4), .val (.int p5), .val (.int gw1), .val (.int gs1), .val (.int ge1), .val (.int gn1), .val (.int al), .unset, .unset, .unset, .unset, .unset, .unset, .unset, .unset, .unset] [(.int (1 : Int32)), (.int p5)])) (fun _ ks => XS.iconst X0.here hx rfl (hb hby at_49)  ks) ?_
  refine DnW.by (U' := s₁.setTop (mkF m 51 #[.val (.int p0), .val (.int p1), .val (.int p2), .val (.int p3), .val (.int p4), .val (.int p5), .val (.int gw1), .val (.int gs1), .val (.int ge1), .val (.int gn1), .val (.int al), .unset, .unset, .unset, .unset, .unset, .unset, .unset, .unset, .unset] [(.int (p5 &&& (1 : Int32)))])) (fun _ ks => XS.iand X0.here hx rfl (hb hby at_50) rfl ks) ?_
  have Jgw : ∀ (gw2 : Int32) (Hgw2 : -180 ≤ gw2.toInt ∧ gw2.toInt ≤ 0), DnW p e below s EL Z 24 4224 (Q0 Z p0 p1 p2 p3 p4 p5 ca cc vl h0 n0) (s₁.setTop (mkF m 66 #[.val (.int p0), .val (.int p1), .val (.int p2), .val (.int p3), .val (.int p4), .val (.int p5), .val (.int gw1), .val (.int gs1), .val (.int ge1), .val (.int gn1), .val (.int al), .unset, .unset, .unset, .unset, .unset, .unset, .unset, .unset, .unset] [(.int gw2)])) := by
    intro gw2 Hgw2
    refine DnW.by (U' := s₁.setTop (mkF m 68 #[.val (.int p0), .val (.int p1), .val (.int p2), .val (.int p3), .val (.int p4), .val (.int p5), .val (.int gw1), .val (.int gs1), .val (.int ge1), .val (.int gn1), .val (.int al), .val (.int gw2), .unset, .unset, .unset, .unset, .unset, .unset, .unset, .unset] [])) (fun _ ks => XS.istore X0.here hx rfl (hb hby at_66) rfl (l' := #[.val (.int p0), .val (.int p1), .val (.int p2), .val (.int p3), .val (.int p4), .val (.int p5), .val (.int gw1), .val (.int gs1), .val (.int ge1), .val (.int gn1), .val (.int al), .val (.int gw2), .unset, .unset, .unset, .unset, .unset, .unset, .unset, .unset]) rfl ks) ?_
    refine DnW.by (U' := s₁.setTop (mkF m 70 #[.val (.int p0), .val (.int p1), .val (.int p2), .val (.int p3), .val (.int p4), .val (.int p5), .val (.int gw1), .val (.int gs1), .val (.int ge1), .val (.int gn1), .val (.int al), .val (.int gw2), .unset, .unset, .unset, .unset, .unset, .unset, .unset, .unset] [(.int p5)])) (fun _ ks => XS.iload X0.here hx rfl (hb hby at_68) rfl ks) ?_
    refine DnW.by (U' := s₁.setTop (mkF m 71 #[.val (.int p0), .val (.int p1), .val (.int p2), .val (.int p3), .val (.int p4), .val (.int p5), .val (.int gw1), .val (.int gs1), .val (.int ge1), .val (.int gn1), .val (.int al), .val (.int gw2), .unset, .unset, .unset, .unset, .unset, .unset, .unset, .unset] [(.int (2 : Int32)), (.int p5)])) (fun _ ks => XS.iconst X0.here hx rfl (hb hby at_70)  ks) ?_
    refine DnW.by (U' := s₁.setTop (mkF m 72 #[.val (.int p0), .val (.int p1), .val (.int p2), .val (.int p3), .val (.int p4), .val (.int p5), .val (.int gw1), .val (.int gs1), .val (.int ge1), .val (.int gn1), .val (.int al), .val (.int gw2), .unset, .unset, .unset, .unset, .unset, .unset, .unset, .unset] [(.int (p5 &&& (2 : Int32)))])) (fun _ ks => XS.iand X0.here hx rfl (hb hby at_71) rfl ks) ?_
    have Jgs : ∀ (gs2 : Int32) (Hgs2 : -90 ≤ gs2.toInt ∧ gs2.toInt ≤ 0), DnW p e below s EL Z 24 4224 (Q0 Z p0 p1 p2 p3 p4 p5 ca cc vl h0 n0) (s₁.setTop (mkF m 90 #[.val (.int p0), .val (.int p1), .val (.int p2), .val (.int p3), .val (.int p4), .val (.int p5), .val (.int gw1), .val (.int gs1), .val (.int ge1), .val (.int gn1), .val (.int al), .val (.int gw2), .unset, .unset, .unset, .unset, .unset, .unset, .unset, .unset] [(.int gs2)])) := by
      intro gs2 Hgs2
      refine DnW.by (U' := s₁.setTop (mkF m 92 #[.val (.int p0), .val (.int p1), .val (.int p2), .val (.int p3), .val (.int p4), .val (.int p5), .val (.int gw1), .val (.int gs1), .val (.int ge1), .val (.int gn1), .val (.int al), .val (.int gw2), .val (.int gs2), .unset, .unset, .unset, .unset, .unset, .unset, .unset] [])) (fun _ ks => XS.istore X0.here hx rfl (hb hby at_90) rfl (l' := #[.val (.int p0), .val (.int p1), .val (.int p2), .val (.int p3), .val (.int p4), .val (.int p5), .val (.int gw1), .val (.int gs1), .val (.int ge1), .val (.int gn1), .val (.int al), .val (.int gw2), .val (.int gs2), .unset, .unset, .unset, .unset, .unset, .unset, .unset]) rfl ks) ?_
      refine DnW.by (U' := s₁.setTop (mkF m 94 #[.val (.int p0), .val (.int p1), .val (.int p2), .val (.int p3), .val (.int p4), .val (.int p5), .val (.int gw1), .val (.int gs1), .val (.int ge1), .val (.int gn1), .val (.int al), .val (.int gw2), .val (.int gs2), .unset, .unset, .unset, .unset, .unset, .unset, .unset] [(.int p5)])) (fun _ ks => XS.iload X0.here hx rfl (hb hby at_92) rfl ks) ?_
      refine DnW.by (U' := s₁.setTop (mkF m 95 #[.val (.int p0), .val (.int p1), .val (.int p2), .val (.int p3), .val (.int p4), .val (.int p5), .val (.int gw1), .val (.int gs1), .val (.int ge1), .val (.int gn1), .val (.int al), .val (.int gw2), .val (.int gs2), .unset, .unset, .unset, .unset, .unset, .unset, .unset] [(.int (4 : Int32)), (.int p5)])) (fun _ ks => XS.iconst X0.here hx rfl (hb hby at_94)  ks) ?_
      refine DnW.by (U' := s₁.setTop (mkF m 96 #[.val (.int p0), .val (.int p1), .val (.int p2), .val (.int p3), .val (.int p4), .val (.int p5), .val (.int gw1), .val (.int gs1), .val (.int ge1), .val (.int gn1), .val (.int al), .val (.int gw2), .val (.int gs2), .unset, .unset, .unset, .unset, .unset, .unset, .unset] [(.int (p5 &&& (4 : Int32)))])) (fun _ ks => XS.iand X0.here hx rfl (hb hby at_95) rfl ks) ?_
      have Jge : ∀ (ge2 : Int32) (Hge2 : 0 ≤ ge2.toInt ∧ ge2.toInt ≤ 180), DnW p e below s EL Z 24 4224 (Q0 Z p0 p1 p2 p3 p4 p5 ca cc vl h0 n0) (s₁.setTop (mkF m 113 #[.val (.int p0), .val (.int p1), .val (.int p2), .val (.int p3), .val (.int p4), .val (.int p5), .val (.int gw1), .val (.int gs1), .val (.int ge1), .val (.int gn1), .val (.int al), .val (.int gw2), .val (.int gs2), .unset, .unset, .unset, .unset, .unset, .unset, .unset] [(.int ge2)])) := by
        intro ge2 Hge2
        refine DnW.by (U' := s₁.setTop (mkF m 115 #[.val (.int p0), .val (.int p1), .val (.int p2), .val (.int p3), .val (.int p4), .val (.int p5), .val (.int gw1), .val (.int gs1), .val (.int ge1), .val (.int gn1), .val (.int al), .val (.int gw2), .val (.int gs2), .val (.int ge2), .unset, .unset, .unset, .unset, .unset, .unset] [])) (fun _ ks => XS.istore X0.here hx rfl (hb hby at_113) rfl (l' := #[.val (.int p0), .val (.int p1), .val (.int p2), .val (.int p3), .val (.int p4), .val (.int p5), .val (.int gw1), .val (.int gs1), .val (.int ge1), .val (.int gn1), .val (.int al), .val (.int gw2), .val (.int gs2), .val (.int ge2), .unset, .unset, .unset, .unset, .unset, .unset]) rfl ks) ?_
        refine DnW.by (U' := s₁.setTop (mkF m 117 #[.val (.int p0), .val (.int p1), .val (.int p2), .val (.int p3), .val (.int p4), .val (.int p5), .val (.int gw1), .val (.int gs1), .val (.int ge1), .val (.int gn1), .val (.int al), .val (.int gw2), .val (.int gs2), .val (.int ge2), .unset, .unset, .unset, .unset, .unset, .unset] [(.int p5)])) (fun _ ks => XS.iload X0.here hx rfl (hb hby at_115) rfl ks) ?_
        refine DnW.by (U' := s₁.setTop (mkF m 119 #[.val (.int p0), .val (.int p1), .val (.int p2), .val (.int p3), .val (.int p4), .val (.int p5), .val (.int gw1), .val (.int gs1), .val (.int ge1), .val (.int gn1), .val (.int al), .val (.int gw2), .val (.int gs2), .val (.int ge2), .unset, .unset, .unset, .unset, .unset, .unset] [(.int (8 : Int32)), (.int p5)])) (fun _ ks => XS.bipush X0.here hx rfl (hb hby at_117)  ks) ?_
        refine DnW.by (U' := s₁.setTop (mkF m 120 #[.val (.int p0), .val (.int p1), .val (.int p2), .val (.int p3), .val (.int p4), .val (.int p5), .val (.int gw1), .val (.int gs1), .val (.int ge1), .val (.int gn1), .val (.int al), .val (.int gw2), .val (.int gs2), .val (.int ge2), .unset, .unset, .unset, .unset, .unset, .unset] [(.int (p5 &&& (8 : Int32)))])) (fun _ ks => XS.iand X0.here hx rfl (hb hby at_119) rfl ks) ?_
        have Jgn : ∀ (gn2 : Int32) (Hgn2 : 0 ≤ gn2.toInt ∧ gn2.toInt ≤ 90), DnW p e below s EL Z 24 4224 (Q0 Z p0 p1 p2 p3 p4 p5 ca cc vl h0 n0) (s₁.setTop (mkF m 136 #[.val (.int p0), .val (.int p1), .val (.int p2), .val (.int p3), .val (.int p4), .val (.int p5), .val (.int gw1), .val (.int gs1), .val (.int ge1), .val (.int gn1), .val (.int al), .val (.int gw2), .val (.int gs2), .val (.int ge2), .unset, .unset, .unset, .unset, .unset, .unset] [(.int gn2)])) := by
          intro gn2 Hgn2
          refine DnW.by (U' := s₁.setTop (mkF m 138 #[.val (.int p0), .val (.int p1), .val (.int p2), .val (.int p3), .val (.int p4), .val (.int p5), .val (.int gw1), .val (.int gs1), .val (.int ge1), .val (.int gn1), .val (.int al), .val (.int gw2), .val (.int gs2), .val (.int ge2), .val (.int gn2), .unset, .unset, .unset, .unset, .unset] [])) (fun _ ks => XS.istore X0.here hx rfl (hb hby at_136) rfl (l' := #[.val (.int p0), .val (.int p1), .val (.int p2), .val (.int p3), .val (.int p4), .val (.int p5), .val (.int gw1), .val (.int gs1), .val (.int ge1), .val (.int gn1), .val (.int al), .val (.int gw2), .val (.int gs2), .val (.int ge2), .val (.int gn2), .unset, .unset, .unset, .unset, .unset]) rfl ks) ?_
          obtain ⟨T1, h1, X1, e1, E1, A1, D1, -, st1⟩ := newO X0 hx hZ hown (hw _ (List.mem_of_getElem? (i := 1) rfl)) (hw _ (List.mem_of_getElem? (i := 2) rfl)) (hw _ (List.mem_of_getElem? (i := 3) rfl)) e0 (g := (mkF m 138 #[.val (.int p0), .val (.int p1), .val (.int p2), .val (.int p3), .val (.int p4), .val (.int p5), .val (.int gw1), .val (.int gs1), .val (.int ge1), .val (.int gn1), .val (.int al), .val (.int gw2), .val (.int gs2), .val (.int ge2), .val (.int gn2), .unset, .unset, .unset, .unset, .unset] [])) rfl (hb hby at_138) (by decide) (by decide)
          obtain ⟨b1, g1⟩ : ∃ z, z = h0.size := ⟨_, rfl⟩
          rw [← g1] at A1 D1 st1
          have g_b1 : n0 ≤ b1 := Nat.le_trans Z0 (Nat.le_of_eq g1.symm)
          have sz_b1 : h0.size ≤ b1 := Nat.le_trans (Keep.refl h0 []).1 (Nat.le_of_eq g1.symm)
          have K2 : Keep h0 h1 [] := ((Keep.refl h0 []).ext E1)
          have z2 : n0 ≤ h1.size := (Nat.le_trans Z0 E1.1)
          have O2 : Old Z n0 h1 := O0.ext E1
          have C2 : CHr Z EL s.vm h0 s.vm h1 := C0.trans (CHr.ext E1 C0.1)
          have hk2 : _ ≤ h1.size := Nat.le_trans hk0 E1.1
          have F_west_b1 : Fld Z h1 b1 "com/example/flok/flok/geo/Box" "west" "D" (.double (0 : UInt64)) := D1 (Or.inr (hw _ (List.mem_of_getElem? (i := 32) rfl))) (ty := .double) (by decide)
          have F_south_b1 : Fld Z h1 b1 "com/example/flok/flok/geo/Box" "south" "D" (.double (0 : UInt64)) := D1 (Or.inr (hw _ (List.mem_of_getElem? (i := 34) rfl))) (ty := .double) (by decide)
          have F_east_b1 : Fld Z h1 b1 "com/example/flok/flok/geo/Box" "east" "D" (.double (0 : UInt64)) := D1 (Or.inr (hw _ (List.mem_of_getElem? (i := 36) rfl))) (ty := .double) (by decide)
          have F_north_b1 : Fld Z h1 b1 "com/example/flok/flok/geo/Box" "north" "D" (.double (0 : UInt64)) := D1 (Or.inr (hw _ (List.mem_of_getElem? (i := 38) rfl))) (ty := .double) (by decide)
          refine DnW.by (U' := T1.setTop (mkF m 141 #[.val (.int p0), .val (.int p1), .val (.int p2), .val (.int p3), .val (.int p4), .val (.int p5), .val (.int gw1), .val (.int gs1), .val (.int ge1), .val (.int gn1), .val (.int al), .val (.int gw2), .val (.int gs2), .val (.int ge2), .val (.int gn2), .unset, .unset, .unset, .unset, .unset] [(.ref b1)])) st1 ?_
          refine DnW.by (U' := T1.setTop (mkF m 142 #[.val (.int p0), .val (.int p1), .val (.int p2), .val (.int p3), .val (.int p4), .val (.int p5), .val (.int gw1), .val (.int gs1), .val (.int ge1), .val (.int gn1), .val (.int al), .val (.int gw2), .val (.int gs2), .val (.int ge2), .val (.int gn2), .unset, .unset, .unset, .unset, .unset] [(.ref b1), (.ref b1)])) (fun _ ks => XS.dup X1.here hx rfl (hb hby at_141) rfl rfl ks) ?_
          refine DnW.by (U' := T1.setTop (mkF m 144 #[.val (.int p0), .val (.int p1), .val (.int p2), .val (.int p3), .val (.int p4), .val (.int p5), .val (.int gw1), .val (.int gs1), .val (.int ge1), .val (.int gn1), .val (.int al), .val (.int gw2), .val (.int gs2), .val (.int ge2), .val (.int gn2), .unset, .unset, .unset, .unset, .unset] [(.int gw1), (.ref b1), (.ref b1)])) (fun _ ks => XS.iload X1.here hx rfl (hb hby at_142) rfl ks) ?_
          refine DnW.by (U' := T1.setTop (mkF m 145 #[.val (.int p0), .val (.int p1), .val (.int p2), .val (.int p3), .val (.int p4), .val (.int p5), .val (.int gw1), .val (.int gs1), .val (.int ge1), .val (.int gn1), .val (.int al), .val (.int gw2), .val (.int gs2), .val (.int ge2), .val (.int gn2), .unset, .unset, .unset, .unset, .unset] [(.double (FP.i2d gw1)), (.ref b1), (.ref b1)])) (fun _ ks => XS.i2dS X1.here hx rfl (hb hby at_144) rfl rfl ks) ?_
          refine DnW.by (U' := T1.setTop (mkF m 147 #[.val (.int p0), .val (.int p1), .val (.int p2), .val (.int p3), .val (.int p4), .val (.int p5), .val (.int gw1), .val (.int gs1), .val (.int ge1), .val (.int gn1), .val (.int al), .val (.int gw2), .val (.int gs2), .val (.int ge2), .val (.int gn2), .unset, .unset, .unset, .unset, .unset] [(.int gs1), (.double (FP.i2d gw1)), (.ref b1), (.ref b1)])) (fun _ ks => XS.iload X1.here hx rfl (hb hby at_145) rfl ks) ?_
          refine DnW.by (U' := T1.setTop (mkF m 148 #[.val (.int p0), .val (.int p1), .val (.int p2), .val (.int p3), .val (.int p4), .val (.int p5), .val (.int gw1), .val (.int gs1), .val (.int ge1), .val (.int gn1), .val (.int al), .val (.int gw2), .val (.int gs2), .val (.int ge2), .val (.int gn2), .unset, .unset, .unset, .unset, .unset] [(.double (FP.i2d gs1)), (.double (FP.i2d gw1)), (.ref b1), (.ref b1)])) (fun _ ks => XS.i2dS X1.here hx rfl (hb hby at_147) rfl rfl ks) ?_
          refine DnW.by (U' := T1.setTop (mkF m 150 #[.val (.int p0), .val (.int p1), .val (.int p2), .val (.int p3), .val (.int p4), .val (.int p5), .val (.int gw1), .val (.int gs1), .val (.int ge1), .val (.int gn1), .val (.int al), .val (.int gw2), .val (.int gs2), .val (.int ge2), .val (.int gn2), .unset, .unset, .unset, .unset, .unset] [(.int ge1), (.double (FP.i2d gs1)), (.double (FP.i2d gw1)), (.ref b1), (.ref b1)])) (fun _ ks => XS.iload X1.here hx rfl (hb hby at_148) rfl ks) ?_
          refine DnW.by (U' := T1.setTop (mkF m 151 #[.val (.int p0), .val (.int p1), .val (.int p2), .val (.int p3), .val (.int p4), .val (.int p5), .val (.int gw1), .val (.int gs1), .val (.int ge1), .val (.int gn1), .val (.int al), .val (.int gw2), .val (.int gs2), .val (.int ge2), .val (.int gn2), .unset, .unset, .unset, .unset, .unset] [(.double (FP.i2d ge1)), (.double (FP.i2d gs1)), (.double (FP.i2d gw1)), (.ref b1), (.ref b1)])) (fun _ ks => XS.i2dS X1.here hx rfl (hb hby at_150) rfl rfl ks) ?_
          refine DnW.by (U' := T1.setTop (mkF m 153 #[.val (.int p0), .val (.int p1), .val (.int p2), .val (.int p3), .val (.int p4), .val (.int p5), .val (.int gw1), .val (.int gs1), .val (.int ge1), .val (.int gn1), .val (.int al), .val (.int gw2), .val (.int gs2), .val (.int ge2), .val (.int gn2), .unset, .unset, .unset, .unset, .unset] [(.int gn1), (.double (FP.i2d ge1)), (.double (FP.i2d gs1)), (.double (FP.i2d gw1)), (.ref b1), (.ref b1)])) (fun _ ks => XS.iload X1.here hx rfl (hb hby at_151) rfl ks) ?_
          refine DnW.by (U' := T1.setTop (mkF m 154 #[.val (.int p0), .val (.int p1), .val (.int p2), .val (.int p3), .val (.int p4), .val (.int p5), .val (.int gw1), .val (.int gs1), .val (.int ge1), .val (.int gn1), .val (.int al), .val (.int gw2), .val (.int gs2), .val (.int ge2), .val (.int gn2), .unset, .unset, .unset, .unset, .unset] [(.double (FP.i2d gn1)), (.double (FP.i2d ge1)), (.double (FP.i2d gs1)), (.double (FP.i2d gw1)), (.ref b1), (.ref b1)])) (fun _ ks => XS.i2dS X1.here hx rfl (hb hby at_153) rfl rfl ks) ?_
          obtain ⟨_, _, ⟨T3, L3, k3, n3⟩, -, X3, hs3, gr3, ⟨Lc3, hQ3, l3, y3, z3, CC3⟩, st3⟩ := X1.specialBackS hx (y := (⟨"com/example/flok/flok/geo/Box", "<init>", "(DDDD)V"⟩ : MethodName)) rfl hown (mvT hZ (hw _ (List.mem_of_getElem? (i := 4) rfl))) (mvT hZ (hw _ (List.mem_of_getElem? (i := 5) rfl))) (mvT hZ (hw _ (List.mem_of_getElem? (i := 6) rfl))) (by decide) (own_backSH (W := 1) (rm1 l Z a0 hw [] b1 (FP.i2d gw1) (FP.i2d gs1) (FP.i2d ge1) (FP.i2d gn1) ((.double (0 : UInt64)) : Value) ((.double (0 : UInt64)) : Value) ((.double (0 : UInt64)) : Value) ((.double (0 : UInt64)) : Value) h1 n0 z2 (own_ge _ _ (by rw [own_n180]; omega) _) (own_le _ _ (by rw [own_p180]; omega) _) (own_ge _ _ (by rw [own_n90]; omega) _) (own_le _ _ (by rw [own_p90]; omega) _) (own_ge _ _ (by rw [own_n180]; omega) _) (own_le _ _ (by rw [own_p180]; omega) _) (own_ge _ _ (by rw [own_n90]; omega) _) (own_le _ _ (by rw [own_p90]; omega) _) (own_le _ _ (by omega) _) (own_le _ _ (by omega) _) g_b1 A1 F_west_b1 F_south_b1 F_east_b1 F_north_b1) hZ (hw _ (List.mem_of_getElem? (i := 6) rfl)) (hw _ (List.mem_of_getElem? (i := 3) rfl)) (by decide) (by decide) hEL C2.1 all0) (g := (mkF m 154 #[.val (.int p0), .val (.int p1), .val (.int p2), .val (.int p3), .val (.int p4), .val (.int p5), .val (.int gw1), .val (.int gs1), .val (.int ge1), .val (.int gn1), .val (.int al), .val (.int gw2), .val (.int gs2), .val (.int ge2), .val (.int gn2), .unset, .unset, .unset, .unset, .unset] [(.double (FP.i2d gn1)), (.double (FP.i2d ge1)), (.double (FP.i2d gs1)), (.double (FP.i2d gw1)), (.ref b1), (.ref b1)])) rfl (by rw [hml]; rfl) (Steps.refl _) (a := b1) (argsL := [(.double (FP.i2d gw1)), (.double (FP.i2d gs1)), (.double (FP.i2d ge1)), (.double (FP.i2d gn1))]) (rest := [(.ref b1)]) (lenOf pd4 rfl) rfl (by show 2 * 0 + _ ≤ _; exact Nat.le_of_eq rfl) (hb hby at_154) (fun _ _ => ⟨rfl, e1, (by decide : 1 + 8 ≤ _), (by decide : 4 + 88 ≤ _)⟩)
          dsimp only [Pt.U, Pt.locs, Pt.cells, Pt.slots] at X3 l3 y3 z3 st3 hQ3 hs3 gr3 CC3
          rw [l3, y3, z3] at X3
          obtain ⟨X3, hS3, hZ, hown⟩ := rebS hS0 (by rw [e1]; exact hk2) X3 hs3 gr3 hZ hown
          obtain ⟨rfl, N3q, KK3, EE3, FF3_0, FF3_1, FF3_2, FF3_3⟩ := hQ3
          have N3 := Fr.app N0 N3q
          have K4 : Keep h0 T3.heap [] := (K2.trans KK3 (allS (Or.inr sz_b1) all0))
          have z4 : n0 ≤ T3.heap.size := (Nat.le_trans z2 KK3.1)
          have O4 : Old Z n0 T3.heap := O2.keep KK3 (allS g_b1 all0)
          have C4 : CHr Z EL s.vm h0 T3.vm T3.heap := C2.trans CC3
          refine DnW.by (U' := T3.setTop (mkF m 157 #[.val (.int p0), .val (.int p1), .val (.int p2), .val (.int p3), .val (.int p4), .val (.int p5), .val (.int gw1), .val (.int gs1), .val (.int ge1), .val (.int gn1), .val (.int al), .val (.int gw2), .val (.int gs2), .val (.int ge2), .val (.int gn2), .unset, .unset, .unset, .unset, .unset] [(.ref b1)])) (fun _ ks => st3.trans ks) ?_
          refine DnW.by (U' := T3.setTop (mkF m 159 #[.val (.int p0), .val (.int p1), .val (.int p2), .val (.int p3), .val (.int p4), .val (.int p5), .val (.int gw1), .val (.int gs1), .val (.int ge1), .val (.int gn1), .val (.int al), .val (.int gw2), .val (.int gs2), .val (.int ge2), .val (.int gn2), .val (.ref b1), .unset, .unset, .unset, .unset] [])) (fun _ ks => XS.astore X3.here hx rfl (hb hby at_157) rfl rfl (l' := #[.val (.int p0), .val (.int p1), .val (.int p2), .val (.int p3), .val (.int p4), .val (.int p5), .val (.int gw1), .val (.int gs1), .val (.int ge1), .val (.int gn1), .val (.int al), .val (.int gw2), .val (.int gs2), .val (.int ge2), .val (.int gn2), .val (.ref b1), .unset, .unset, .unset, .unset]) rfl ks) ?_
          obtain ⟨T5, h5, X5, e5, E5, A5, D5, -, st5⟩ := newO X3 hx hZ hown (hw _ (List.mem_of_getElem? (i := 1) rfl)) (hw _ (List.mem_of_getElem? (i := 2) rfl)) (hw _ (List.mem_of_getElem? (i := 3) rfl)) rfl (g := (mkF m 159 #[.val (.int p0), .val (.int p1), .val (.int p2), .val (.int p3), .val (.int p4), .val (.int p5), .val (.int gw1), .val (.int gs1), .val (.int ge1), .val (.int gn1), .val (.int al), .val (.int gw2), .val (.int gs2), .val (.int ge2), .val (.int gn2), .val (.ref b1), .unset, .unset, .unset, .unset] [])) rfl (hb hby at_159) (by decide) (by decide)
          obtain ⟨b5, g5⟩ : ∃ z, z = T3.heap.size := ⟨_, rfl⟩
          rw [← g5] at A5 D5 st5
          have g_b5 : n0 ≤ b5 := Nat.le_trans z4 (Nat.le_of_eq g5.symm)
          have sz_b5 : h0.size ≤ b5 := Nat.le_trans K4.1 (Nat.le_of_eq g5.symm)
          have ne_b1_b5 : b1 ≠ b5 := Nat.ne_of_lt (Nat.lt_of_lt_of_le (A1.keep KK3).lt (Nat.le_of_eq g5.symm))
          have K6 : Keep h0 h5 [] := (K4.ext E5)
          have z6 : n0 ≤ h5.size := (Nat.le_trans z4 E5.1)
          have O6 : Old Z n0 h5 := O4.ext E5
          have C6 : CHr Z EL s.vm h0 T3.vm h5 := C4.trans (CHr.ext E5 C4.1)
          have hk6 : _ ≤ h5.size := Nat.le_trans (Nat.le_refl _) E5.1
          have F_west_b5 : Fld Z h5 b5 "com/example/flok/flok/geo/Box" "west" "D" (.double (0 : UInt64)) := D5 (Or.inr (hw _ (List.mem_of_getElem? (i := 32) rfl))) (ty := .double) (by decide)
          have F_south_b5 : Fld Z h5 b5 "com/example/flok/flok/geo/Box" "south" "D" (.double (0 : UInt64)) := D5 (Or.inr (hw _ (List.mem_of_getElem? (i := 34) rfl))) (ty := .double) (by decide)
          have F_east_b5 : Fld Z h5 b5 "com/example/flok/flok/geo/Box" "east" "D" (.double (0 : UInt64)) := D5 (Or.inr (hw _ (List.mem_of_getElem? (i := 36) rfl))) (ty := .double) (by decide)
          have F_north_b5 : Fld Z h5 b5 "com/example/flok/flok/geo/Box" "north" "D" (.double (0 : UInt64)) := D5 (Or.inr (hw _ (List.mem_of_getElem? (i := 38) rfl))) (ty := .double) (by decide)
          refine DnW.by (U' := T5.setTop (mkF m 162 #[.val (.int p0), .val (.int p1), .val (.int p2), .val (.int p3), .val (.int p4), .val (.int p5), .val (.int gw1), .val (.int gs1), .val (.int ge1), .val (.int gn1), .val (.int al), .val (.int gw2), .val (.int gs2), .val (.int ge2), .val (.int gn2), .val (.ref b1), .unset, .unset, .unset, .unset] [(.ref b5)])) st5 ?_
          refine DnW.by (U' := T5.setTop (mkF m 163 #[.val (.int p0), .val (.int p1), .val (.int p2), .val (.int p3), .val (.int p4), .val (.int p5), .val (.int gw1), .val (.int gs1), .val (.int ge1), .val (.int gn1), .val (.int al), .val (.int gw2), .val (.int gs2), .val (.int ge2), .val (.int gn2), .val (.ref b1), .unset, .unset, .unset, .unset] [(.ref b5), (.ref b5)])) (fun _ ks => XS.dup X5.here hx rfl (hb hby at_162) rfl rfl ks) ?_
          refine DnW.by (U' := T5.setTop (mkF m 165 #[.val (.int p0), .val (.int p1), .val (.int p2), .val (.int p3), .val (.int p4), .val (.int p5), .val (.int gw1), .val (.int gs1), .val (.int ge1), .val (.int gn1), .val (.int al), .val (.int gw2), .val (.int gs2), .val (.int ge2), .val (.int gn2), .val (.ref b1), .unset, .unset, .unset, .unset] [(.int gw2), (.ref b5), (.ref b5)])) (fun _ ks => XS.iload X5.here hx rfl (hb hby at_163) rfl ks) ?_
          refine DnW.by (U' := T5.setTop (mkF m 166 #[.val (.int p0), .val (.int p1), .val (.int p2), .val (.int p3), .val (.int p4), .val (.int p5), .val (.int gw1), .val (.int gs1), .val (.int ge1), .val (.int gn1), .val (.int al), .val (.int gw2), .val (.int gs2), .val (.int ge2), .val (.int gn2), .val (.ref b1), .unset, .unset, .unset, .unset] [(.double (FP.i2d gw2)), (.ref b5), (.ref b5)])) (fun _ ks => XS.i2dS X5.here hx rfl (hb hby at_165) rfl rfl ks) ?_
          refine DnW.by (U' := T5.setTop (mkF m 168 #[.val (.int p0), .val (.int p1), .val (.int p2), .val (.int p3), .val (.int p4), .val (.int p5), .val (.int gw1), .val (.int gs1), .val (.int ge1), .val (.int gn1), .val (.int al), .val (.int gw2), .val (.int gs2), .val (.int ge2), .val (.int gn2), .val (.ref b1), .unset, .unset, .unset, .unset] [(.int gs2), (.double (FP.i2d gw2)), (.ref b5), (.ref b5)])) (fun _ ks => XS.iload X5.here hx rfl (hb hby at_166) rfl ks) ?_
          refine DnW.by (U' := T5.setTop (mkF m 169 #[.val (.int p0), .val (.int p1), .val (.int p2), .val (.int p3), .val (.int p4), .val (.int p5), .val (.int gw1), .val (.int gs1), .val (.int ge1), .val (.int gn1), .val (.int al), .val (.int gw2), .val (.int gs2), .val (.int ge2), .val (.int gn2), .val (.ref b1), .unset, .unset, .unset, .unset] [(.double (FP.i2d gs2)), (.double (FP.i2d gw2)), (.ref b5), (.ref b5)])) (fun _ ks => XS.i2dS X5.here hx rfl (hb hby at_168) rfl rfl ks) ?_
          refine DnW.by (U' := T5.setTop (mkF m 171 #[.val (.int p0), .val (.int p1), .val (.int p2), .val (.int p3), .val (.int p4), .val (.int p5), .val (.int gw1), .val (.int gs1), .val (.int ge1), .val (.int gn1), .val (.int al), .val (.int gw2), .val (.int gs2), .val (.int ge2), .val (.int gn2), .val (.ref b1), .unset, .unset, .unset, .unset] [(.int ge2), (.double (FP.i2d gs2)), (.double (FP.i2d gw2)), (.ref b5), (.ref b5)])) (fun _ ks => XS.iload X5.here hx rfl (hb hby at_169) rfl ks) ?_
          refine DnW.by (U' := T5.setTop (mkF m 172 #[.val (.int p0), .val (.int p1), .val (.int p2), .val (.int p3), .val (.int p4), .val (.int p5), .val (.int gw1), .val (.int gs1), .val (.int ge1), .val (.int gn1), .val (.int al), .val (.int gw2), .val (.int gs2), .val (.int ge2), .val (.int gn2), .val (.ref b1), .unset, .unset, .unset, .unset] [(.double (FP.i2d ge2)), (.double (FP.i2d gs2)), (.double (FP.i2d gw2)), (.ref b5), (.ref b5)])) (fun _ ks => XS.i2dS X5.here hx rfl (hb hby at_171) rfl rfl ks) ?_
          refine DnW.by (U' := T5.setTop (mkF m 174 #[.val (.int p0), .val (.int p1), .val (.int p2), .val (.int p3), .val (.int p4), .val (.int p5), .val (.int gw1), .val (.int gs1), .val (.int ge1), .val (.int gn1), .val (.int al), .val (.int gw2), .val (.int gs2), .val (.int ge2), .val (.int gn2), .val (.ref b1), .unset, .unset, .unset, .unset] [(.int gn2), (.double (FP.i2d ge2)), (.double (FP.i2d gs2)), (.double (FP.i2d gw2)), (.ref b5), (.ref b5)])) (fun _ ks => XS.iload X5.here hx rfl (hb hby at_172) rfl ks) ?_
          refine DnW.by (U' := T5.setTop (mkF m 175 #[.val (.int p0), .val (.int p1), .val (.int p2), .val (.int p3), .val (.int p4), .val (.int p5), .val (.int gw1), .val (.int gs1), .val (.int ge1), .val (.int gn1), .val (.int al), .val (.int gw2), .val (.int gs2), .val (.int ge2), .val (.int gn2), .val (.ref b1), .unset, .unset, .unset, .unset] [(.double (FP.i2d gn2)), (.double (FP.i2d ge2)), (.double (FP.i2d gs2)), (.double (FP.i2d gw2)), (.ref b5), (.ref b5)])) (fun _ ks => XS.i2dS X5.here hx rfl (hb hby at_174) rfl rfl ks) ?_
          obtain ⟨_, _, ⟨T7, L7, k7, n7⟩, -, X7, hs7, gr7, ⟨Lc7, hQ7, l7, y7, z7, CC7⟩, st7⟩ := X5.specialBackS hx (y := (⟨"com/example/flok/flok/geo/Box", "<init>", "(DDDD)V"⟩ : MethodName)) rfl hown (mvT hZ (hw _ (List.mem_of_getElem? (i := 4) rfl))) (mvT hZ (hw _ (List.mem_of_getElem? (i := 5) rfl))) (mvT hZ (hw _ (List.mem_of_getElem? (i := 6) rfl))) (by decide) (own_backSH (W := 1) (rm1 l Z a0 hw [] b5 (FP.i2d gw2) (FP.i2d gs2) (FP.i2d ge2) (FP.i2d gn2) ((.double (0 : UInt64)) : Value) ((.double (0 : UInt64)) : Value) ((.double (0 : UInt64)) : Value) ((.double (0 : UInt64)) : Value) h5 n0 z6 (own_ge _ _ (by rw [own_n180]; omega) _) (own_le _ _ (by rw [own_p180]; omega) _) (own_ge _ _ (by rw [own_n90]; omega) _) (own_le _ _ (by rw [own_p90]; omega) _) (own_ge _ _ (by rw [own_n180]; omega) _) (own_le _ _ (by rw [own_p180]; omega) _) (own_ge _ _ (by rw [own_n90]; omega) _) (own_le _ _ (by rw [own_p90]; omega) _) (own_le _ _ (by omega) _) (own_le _ _ (by omega) _) g_b5 A5 F_west_b5 F_south_b5 F_east_b5 F_north_b5) hZ (hw _ (List.mem_of_getElem? (i := 6) rfl)) (hw _ (List.mem_of_getElem? (i := 3) rfl)) (by decide) (by decide) hEL C6.1 all0) (g := (mkF m 175 #[.val (.int p0), .val (.int p1), .val (.int p2), .val (.int p3), .val (.int p4), .val (.int p5), .val (.int gw1), .val (.int gs1), .val (.int ge1), .val (.int gn1), .val (.int al), .val (.int gw2), .val (.int gs2), .val (.int ge2), .val (.int gn2), .val (.ref b1), .unset, .unset, .unset, .unset] [(.double (FP.i2d gn2)), (.double (FP.i2d ge2)), (.double (FP.i2d gs2)), (.double (FP.i2d gw2)), (.ref b5), (.ref b5)])) rfl (by rw [hml]; rfl) (Steps.refl _) (a := b5) (argsL := [(.double (FP.i2d gw2)), (.double (FP.i2d gs2)), (.double (FP.i2d ge2)), (.double (FP.i2d gn2))]) (rest := [(.ref b5)]) (lenOf pd4 rfl) rfl (by show 2 * 0 + _ ≤ _; exact Nat.le_of_eq rfl) (hb hby at_175) (fun _ _ => ⟨rfl, e5, (by decide : 10 + 8 ≤ _), (by decide : 96 + 88 ≤ _)⟩)
          dsimp only [Pt.U, Pt.locs, Pt.cells, Pt.slots] at X7 l7 y7 z7 st7 hQ7 hs7 gr7 CC7
          rw [l7, y7, z7] at X7
          obtain ⟨X7, hS7, hZ, hown⟩ := rebS hS3 (by rw [e5]; exact hk6) X7 hs7 gr7 hZ hown
          obtain ⟨rfl, N7q, KK7, EE7, FF7_0, FF7_1, FF7_2, FF7_3⟩ := hQ7
          have N7 := Fr.app N3 N7q
          have K8 : Keep h0 T7.heap [] := (K6.trans KK7 (allS (Or.inr sz_b5) all0))
          have z8 : n0 ≤ T7.heap.size := (Nat.le_trans z6 KK7.1)
          have O8 : Old Z n0 T7.heap := O6.keep KK7 (allS g_b5 all0)
          have C8 : CHr Z EL s.vm h0 T7.vm T7.heap := C6.trans CC7
          refine DnW.by (U' := T7.setTop (mkF m 178 #[.val (.int p0), .val (.int p1), .val (.int p2), .val (.int p3), .val (.int p4), .val (.int p5), .val (.int gw1), .val (.int gs1), .val (.int ge1), .val (.int gn1), .val (.int al), .val (.int gw2), .val (.int gs2), .val (.int ge2), .val (.int gn2), .val (.ref b1), .unset, .unset, .unset, .unset] [(.ref b5)])) (fun _ ks => st7.trans ks) ?_
          refine DnW.by (U' := T7.setTop (mkF m 180 #[.val (.int p0), .val (.int p1), .val (.int p2), .val (.int p3), .val (.int p4), .val (.int p5), .val (.int gw1), .val (.int gs1), .val (.int ge1), .val (.int gn1), .val (.int al), .val (.int gw2), .val (.int gs2), .val (.int ge2), .val (.int gn2), .val (.ref b1), .val (.ref b5), .unset, .unset, .unset] [])) (fun _ ks => XS.astore X7.here hx rfl (hb hby at_178) rfl rfl (l' := #[.val (.int p0), .val (.int p1), .val (.int p2), .val (.int p3), .val (.int p4), .val (.int p5), .val (.int gw1), .val (.int gs1), .val (.int ge1), .val (.int gn1), .val (.int al), .val (.int gw2), .val (.int gs2), .val (.int ge2), .val (.int gn2), .val (.ref b1), .val (.ref b5), .unset, .unset, .unset]) rfl ks) ?_
          refine DnW.by (U' := T7.setTop (mkF m 182 #[.val (.int p0), .val (.int p1), .val (.int p2), .val (.int p3), .val (.int p4), .val (.int p5), .val (.int gw1), .val (.int gs1), .val (.int ge1), .val (.int gn1), .val (.int al), .val (.int gw2), .val (.int gs2), .val (.int ge2), .val (.int gn2), .val (.ref b1), .val (.ref b5), .unset, .unset, .unset] [(.int gw1)])) (fun _ ks => XS.iload X7.here hx rfl (hb hby at_180) rfl ks) ?_
          obtain ⟨_, _, ⟨T9, L9, k9, n9⟩, -, X9, ⟨Lc9, hQ9, l9, y9, z9⟩, st9⟩ := Jvm.LawKit.callS X7 hx (y := (⟨"java/lang/Integer", "valueOf", "(I)Ljava/lang/Integer;"⟩ : MethodName)) hown (mvT hZ (hw _ (List.mem_of_getElem? (i := 39) rfl))) (mvT hZ (hw _ (List.mem_of_getElem? (i := 40) rfl))) (mvT hZ (hw _ (List.mem_of_getElem? (i := 41) rfl))) (mvT hZ (hw _ (List.mem_of_getElem? (i := 42) rfl))) (by decide) (backOf (W := 0) (rm6 l Z a0 hw [] gw1  T7.heap n0 z8 O8 ca cc vl S_hi S_ca BX) hZ (hw _ (List.mem_of_getElem? (i := 42) rfl)) (hw _ (List.mem_of_getElem? (i := 41) rfl)) (by decide) (by decide)) (g := (mkF m 182 #[.val (.int p0), .val (.int p1), .val (.int p2), .val (.int p3), .val (.int p4), .val (.int p5), .val (.int gw1), .val (.int gs1), .val (.int ge1), .val (.int gn1), .val (.int al), .val (.int gw2), .val (.int gs2), .val (.int ge2), .val (.int gn2), .val (.ref b1), .val (.ref b5), .unset, .unset, .unset] [(.int gw1)])) rfl (by rw [hml]; rfl) (argsL := [(.int gw1)]) (rest := []) (lenOf pd5 rfl) rfl (by show 2 * 0 + _ ≤ _; exact Nat.le_of_eq rfl) (hb hby at_182) (fun _ _ => ⟨rfl, rfl, (by decide : 18 + 1 ≤ _), (by decide : 184 + 1 ≤ _)⟩)
          dsimp only [Pt.U, Pt.locs, Pt.cells, Pt.slots] at X9 l9 y9 z9 st9 hQ9
          rw [l9, y9, z9] at X9
          obtain ⟨b9, rfl, N9q, KK9, EE9⟩ := hQ9
          have N9 := Fr.app N7 N9q
          have K10 : Keep h0 T9.heap [] := (K8.trans KK9 all0)
          have z10 : n0 ≤ T9.heap.size := (Nat.le_trans z8 KK9.1)
          have O10 : Old Z n0 T9.heap := O8.keep KK9 all0
          have C10 : CHr Z EL s.vm h0 T7.vm T9.heap := C8.trans (CHr.keep KK9 all0 C8.1)
          have hk10 : _ ≤ T9.heap.size := Nat.le_trans (Nat.le_refl _) KK9.1
          refine DnW.by (U' := T9.setTop (mkF m 185 #[.val (.int p0), .val (.int p1), .val (.int p2), .val (.int p3), .val (.int p4), .val (.int p5), .val (.int gw1), .val (.int gs1), .val (.int ge1), .val (.int gn1), .val (.int al), .val (.int gw2), .val (.int gs2), .val (.int ge2), .val (.int gn2), .val (.ref b1), .val (.ref b5), .unset, .unset, .unset] [(.ref b9)])) st9 ?_
          refine DnW.by (U' := T9.setTop (mkF m 187 #[.val (.int p0), .val (.int p1), .val (.int p2), .val (.int p3), .val (.int p4), .val (.int p5), .val (.int gw1), .val (.int gs1), .val (.int ge1), .val (.int gn1), .val (.int al), .val (.int gw2), .val (.int gs2), .val (.int ge2), .val (.int gn2), .val (.ref b1), .val (.ref b5), .val (.ref b9), .unset, .unset] [])) (fun _ ks => XS.astore X9.here hx rfl (hb hby at_185) rfl rfl (l' := #[.val (.int p0), .val (.int p1), .val (.int p2), .val (.int p3), .val (.int p4), .val (.int p5), .val (.int gw1), .val (.int gs1), .val (.int ge1), .val (.int gn1), .val (.int al), .val (.int gw2), .val (.int gs2), .val (.int ge2), .val (.int gn2), .val (.ref b1), .val (.ref b5), .val (.ref b9), .unset, .unset]) rfl ks) ?_
          refine DnW.by (U' := T9.setTop (mkF m 189 #[.val (.int p0), .val (.int p1), .val (.int p2), .val (.int p3), .val (.int p4), .val (.int p5), .val (.int gw1), .val (.int gs1), .val (.int ge1), .val (.int gn1), .val (.int al), .val (.int gw2), .val (.int gs2), .val (.int ge2), .val (.int gn2), .val (.ref b1), .val (.ref b5), .val (.ref b9), .unset, .unset] [(.int p5)])) (fun _ ks => XS.iload X9.here hx rfl (hb hby at_187) rfl ks) ?_
          refine DnW.by (U' := T9.setTop (mkF m 190 #[.val (.int p0), .val (.int p1), .val (.int p2), .val (.int p3), .val (.int p4), .val (.int p5), .val (.int gw1), .val (.int gs1), .val (.int ge1), .val (.int gn1), .val (.int al), .val (.int gw2), .val (.int gs2), .val (.int ge2), .val (.int gn2), .val (.ref b1), .val (.ref b5), .val (.ref b9), .unset, .unset] [(.int (4 : Int32)), (.int p5)])) (fun _ ks => XS.iconst X9.here hx rfl (hb hby at_189)  ks) ?_
          refine DnW.by (U' := T9.setTop (mkF m 191 #[.val (.int p0), .val (.int p1), .val (.int p2), .val (.int p3), .val (.int p4), .val (.int p5), .val (.int gw1), .val (.int gs1), .val (.int ge1), .val (.int gn1), .val (.int al), .val (.int gw2), .val (.int gs2), .val (.int ge2), .val (.int gn2), .val (.ref b1), .val (.ref b5), .val (.ref b9), .unset, .unset] [(.int ((p5.toUInt32 >>> ((4 : Int32) &&& 31).toUInt32).toInt32))])) (fun _ ks => XS.iushr X9.here hx rfl (hb hby at_190) rfl ks) ?_
          refine DnW.by (U' := T9.setTop (mkF m 192 #[.val (.int p0), .val (.int p1), .val (.int p2), .val (.int p3), .val (.int p4), .val (.int p5), .val (.int gw1), .val (.int gs1), .val (.int ge1), .val (.int gn1), .val (.int al), .val (.int gw2), .val (.int gs2), .val (.int ge2), .val (.int gn2), .val (.ref b1), .val (.ref b5), .val (.ref b9), .unset, .unset] [(.int (3 : Int32)), (.int ((p5.toUInt32 >>> ((4 : Int32) &&& 31).toUInt32).toInt32))])) (fun _ ks => XS.iconst X9.here hx rfl (hb hby at_191)  ks) ?_
          refine DnW.by (U' := T9.setTop (mkF m 193 #[.val (.int p0), .val (.int p1), .val (.int p2), .val (.int p3), .val (.int p4), .val (.int p5), .val (.int gw1), .val (.int gs1), .val (.int ge1), .val (.int gn1), .val (.int al), .val (.int gw2), .val (.int gs2), .val (.int ge2), .val (.int gn2), .val (.ref b1), .val (.ref b5), .val (.ref b9), .unset, .unset] [(.int (((p5.toUInt32 >>> ((4 : Int32) &&& 31).toUInt32).toInt32) &&& (3 : Int32)))])) (fun _ ks => XS.iand X9.here hx rfl (hb hby at_192) rfl ks) ?_
          generalize h_md : (((p5.toUInt32 >>> ((4 : Int32) &&& 31).toUInt32).toInt32) &&& (3 : Int32)) = md
          refine DnW.by (U' := T9.setTop (mkF m 195 #[.val (.int p0), .val (.int p1), .val (.int p2), .val (.int p3), .val (.int p4), .val (.int p5), .val (.int gw1), .val (.int gs1), .val (.int ge1), .val (.int gn1), .val (.int al), .val (.int gw2), .val (.int gs2), .val (.int ge2), .val (.int gn2), .val (.ref b1), .val (.ref b5), .val (.ref b9), .val (.int md), .unset] [])) (fun _ ks => XS.istore X9.here hx rfl (hb hby at_193) rfl (l' := #[.val (.int p0), .val (.int p1), .val (.int p2), .val (.int p3), .val (.int p4), .val (.int p5), .val (.int gw1), .val (.int gs1), .val (.int ge1), .val (.int gn1), .val (.int al), .val (.int gw2), .val (.int gs2), .val (.int ge2), .val (.int gn2), .val (.ref b1), .val (.ref b5), .val (.ref b9), .val (.int md), .unset]) rfl ks) ?_
          refine DnW.by (U' := T9.setTop (mkF m 197 #[.val (.int p0), .val (.int p1), .val (.int p2), .val (.int p3), .val (.int p4), .val (.int p5), .val (.int gw1), .val (.int gs1), .val (.int ge1), .val (.int gn1), .val (.int al), .val (.int gw2), .val (.int gs2), .val (.int ge2), .val (.int gn2), .val (.ref b1), .val (.ref b5), .val (.ref b9), .val (.int md), .unset] [(.int md)])) (fun _ ks => XS.iload X9.here hx rfl (hb hby at_195) rfl ks) ?_
          refine DnW.by (U' := T9.setTop (mkF m 198 #[.val (.int p0), .val (.int p1), .val (.int p2), .val (.int p3), .val (.int p4), .val (.int p5), .val (.int gw1), .val (.int gs1), .val (.int ge1), .val (.int gn1), .val (.int al), .val (.int gw2), .val (.int gs2), .val (.int ge2), .val (.int gn2), .val (.ref b1), .val (.ref b5), .val (.ref b9), .val (.int md), .unset] [(.int (1 : Int32)), (.int md)])) (fun _ ks => XS.iconst X9.here hx rfl (hb hby at_197)  ks) ?_
          by_cases c198_11 : md = (1 : Int32)
          ·
            refine DnW.by (U' := T9.setTop (mkF m 201 #[.val (.int p0), .val (.int p1), .val (.int p2), .val (.int p3), .val (.int p4), .val (.int p5), .val (.int gw1), .val (.int gs1), .val (.int ge1), .val (.int gn1), .val (.int al), .val (.int gw2), .val (.int gs2), .val (.int ge2), .val (.int gn2), .val (.ref b1), .val (.ref b5), .val (.ref b9), .val (.int md), .unset] [])) (fun _ ks => XS.icmpNo X9.here hx rfl (hb hby at_198) rfl (teq c198_11).2 ks) ?_
            refine DnW.by (U' := T9.setTop (mkF m 203 #[.val (.int p0), .val (.int p1), .val (.int p2), .val (.int p3), .val (.int p4), .val (.int p5), .val (.int gw1), .val (.int gs1), .val (.int ge1), .val (.int gn1), .val (.int al), .val (.int gw2), .val (.int gs2), .val (.int ge2), .val (.int gn2), .val (.ref b1), .val (.ref b5), .val (.ref b9), .val (.int md), .unset] [(.ref b1)])) (fun _ ks => XS.aload X9.here hx rfl (hb hby at_201) rfl rfl ks) ?_
            refine DnW.by (U' := T9.setTop (mkF m 205 #[.val (.int p0), .val (.int p1), .val (.int p2), .val (.int p3), .val (.int p4), .val (.int p5), .val (.int gw1), .val (.int gs1), .val (.int ge1), .val (.int gn1), .val (.int al), .val (.int gw2), .val (.int gs2), .val (.int ge2), .val (.int gn2), .val (.ref b1), .val (.ref b5), .val (.ref b9), .val (.int md), .unset] [(.ref b1), (.ref b1)])) (fun _ ks => XS.aload X9.here hx rfl (hb hby at_203) rfl rfl ks) ?_
            obtain ⟨cq12, kq12, qa12, qb12, qc12⟩ := isOf hZ rfl ((((A1.keep KK3).ext E5).keep KK7).keep KK9)
            obtain ⟨_, _, ⟨T12, L12, k12, n12⟩, -, X12, ⟨Lc12, hQ12, l12, y12, z12⟩, st12⟩ := X9.virtualBack hx (y := (⟨"com/example/flok/flok/geo/Box", "equals", "(Ljava/lang/Object;)Z"⟩ : MethodName)) (z := (⟨"com/example/flok/flok/geo/Box", "equals", "(Ljava/lang/Object;)Z"⟩ : MethodName)) hown (mvT hZ (hw _ (List.mem_of_getElem? (i := 46) rfl))) (mvT hZ (hw _ (List.mem_of_getElem? (i := 47) rfl))) (notFace_of_selects (args := #[]) (mvT hZ (hw _ (List.mem_of_getElem? (i := 49) rfl)))) (mvT hZ (hw _ (List.mem_of_getElem? (i := 49) rfl))) (mvT hZ (hw _ (List.mem_of_getElem? (i := 48) rfl))) (by decide) (backOf (W := 0) (rm7 l Z a0 hw [] b1 b1 (FP.i2d gw1) (FP.i2d gs1) (FP.i2d ge1) (FP.i2d gn1) (FP.i2d gw1) (FP.i2d gs1) (FP.i2d ge1) (FP.i2d gn1) T9.heap n0 z10 (((FF3_0.ext E5).keep KK7 (ninS ne_b1_b5 nin0)).keep KK9 nin0) (((FF3_1.ext E5).keep KK7 (ninS ne_b1_b5 nin0)).keep KK9 nin0) (((FF3_2.ext E5).keep KK7 (ninS ne_b1_b5 nin0)).keep KK9 nin0) (((FF3_3.ext E5).keep KK7 (ninS ne_b1_b5 nin0)).keep KK9 nin0) (((FF3_0.ext E5).keep KK7 (ninS ne_b1_b5 nin0)).keep KK9 nin0) (((FF3_1.ext E5).keep KK7 (ninS ne_b1_b5 nin0)).keep KK9 nin0) (((FF3_2.ext E5).keep KK7 (ninS ne_b1_b5 nin0)).keep KK9 nin0) (((FF3_3.ext E5).keep KK7 (ninS ne_b1_b5 nin0)).keep KK9 nin0) ((((A1.keep KK3).ext E5).keep KK7).keep KK9)) hZ (hw _ (List.mem_of_getElem? (i := 50) rfl)) (hw _ (List.mem_of_getElem? (i := 3) rfl)) (by decide) (by decide)) qa12 qc12 (g := (mkF m 205 #[.val (.int p0), .val (.int p1), .val (.int p2), .val (.int p3), .val (.int p4), .val (.int p5), .val (.int gw1), .val (.int gs1), .val (.int ge1), .val (.int gn1), .val (.int al), .val (.int gw2), .val (.int gs2), .val (.int ge2), .val (.int gn2), .val (.ref b1), .val (.ref b5), .val (.ref b9), .val (.int md), .unset] [(.ref b1), (.ref b1)])) rfl (by rw [hml]; rfl) (Steps.refl _) (argsL := [(.ref b1)]) (rest := []) (lenOf pd6 rfl) rfl (by show 2 * 0 + _ ≤ _; exact Nat.le_of_eq rfl) (hb hby at_205) (fun _ _ => ⟨rfl, rfl, (by decide : 19 + 0 ≤ _), (by decide : 185 + 0 ≤ _)⟩)
            dsimp only [Pt.U, Pt.locs, Pt.cells, Pt.slots] at X12 l12 y12 z12 st12 hQ12
            rw [l12, y12, z12] at X12
            obtain ⟨rfl, N12q, e12⟩ := hQ12
            have N12 := Fr.app N9 N12q
            refine DnW.by (U' := T12.setTop (mkF m 208 #[.val (.int p0), .val (.int p1), .val (.int p2), .val (.int p3), .val (.int p4), .val (.int p5), .val (.int gw1), .val (.int gs1), .val (.int ge1), .val (.int gn1), .val (.int al), .val (.int gw2), .val (.int gs2), .val (.int ge2), .val (.int gn2), .val (.ref b1), .val (.ref b5), .val (.ref b9), .val (.int md), .unset] [(.int (eqB b1 b1 (FP.i2d gw1) (FP.i2d gs1) (FP.i2d ge1) (FP.i2d gn1) (FP.i2d gw1) (FP.i2d gs1) (FP.i2d ge1) (FP.i2d gn1)))])) (fun _ ks => st12.trans ks) ?_
            rw [show (eqB b1 b1 (FP.i2d gw1) (FP.i2d gs1) (FP.i2d ge1) (FP.i2d gn1) (FP.i2d gw1) (FP.i2d gs1) (FP.i2d ge1) (FP.i2d gn1)) = (1 : Int32) from own_refl _ _ _ _ _]
            refine DnW.out X12 hS7 (by rw [e12]; exact hk10) (v := (some (.int (1 : Int32)))) (fun h => by rw [Bd.returns] at h; cases h) (BodyLoose.notSynchronized Bd) (fun _ hr => retN X12 hx (t := .boolean) Bd.returns (by simp) (hb hby at_208) hr) (by decide) (by decide) ?_ ?_
            · rw [e12]; exact ⟨rfl, N12⟩
            · rw [hh, e12]; exact C10.trans (CHv.at X12 hZ hEL C10.1)
          ·
            refine DnW.by (U' := T9.setTop (mkF m 209 #[.val (.int p0), .val (.int p1), .val (.int p2), .val (.int p3), .val (.int p4), .val (.int p5), .val (.int gw1), .val (.int gs1), .val (.int ge1), .val (.int gn1), .val (.int al), .val (.int gw2), .val (.int gs2), .val (.int ge2), .val (.int gn2), .val (.ref b1), .val (.ref b5), .val (.ref b9), .val (.int md), .unset] [])) (fun _ ks => XS.icmpYes X9.here hx rfl (pc0 := 198) (pc' := 209) rfl (hb hby at_198) rfl (feq c198_11).2 (by decide) (by decide) ks) ?_
            refine DnW.by (U' := T9.setTop (mkF m 211 #[.val (.int p0), .val (.int p1), .val (.int p2), .val (.int p3), .val (.int p4), .val (.int p5), .val (.int gw1), .val (.int gs1), .val (.int ge1), .val (.int gn1), .val (.int al), .val (.int gw2), .val (.int gs2), .val (.int ge2), .val (.int gn2), .val (.ref b1), .val (.ref b5), .val (.ref b9), .val (.int md), .unset] [(.int md)])) (fun _ ks => XS.iload X9.here hx rfl (hb hby at_209) rfl ks) ?_
            refine DnW.by (U' := T9.setTop (mkF m 212 #[.val (.int p0), .val (.int p1), .val (.int p2), .val (.int p3), .val (.int p4), .val (.int p5), .val (.int gw1), .val (.int gs1), .val (.int ge1), .val (.int gn1), .val (.int al), .val (.int gw2), .val (.int gs2), .val (.int ge2), .val (.int gn2), .val (.ref b1), .val (.ref b5), .val (.ref b9), .val (.int md), .unset] [(.int (2 : Int32)), (.int md)])) (fun _ ks => XS.iconst X9.here hx rfl (hb hby at_211)  ks) ?_
            by_cases c212_13 : md = (2 : Int32)
            ·
              refine DnW.by (U' := T9.setTop (mkF m 215 #[.val (.int p0), .val (.int p1), .val (.int p2), .val (.int p3), .val (.int p4), .val (.int p5), .val (.int gw1), .val (.int gs1), .val (.int ge1), .val (.int gn1), .val (.int al), .val (.int gw2), .val (.int gs2), .val (.int ge2), .val (.int gn2), .val (.ref b1), .val (.ref b5), .val (.ref b9), .val (.int md), .unset] [])) (fun _ ks => XS.icmpNo X9.here hx rfl (hb hby at_212) rfl (teq c212_13).2 ks) ?_
              refine DnW.by (U' := T9.setTop (mkF m 217 #[.val (.int p0), .val (.int p1), .val (.int p2), .val (.int p3), .val (.int p4), .val (.int p5), .val (.int gw1), .val (.int gs1), .val (.int ge1), .val (.int gn1), .val (.int al), .val (.int gw2), .val (.int gs2), .val (.int ge2), .val (.int gn2), .val (.ref b1), .val (.ref b5), .val (.ref b9), .val (.int md), .unset] [(.ref b1)])) (fun _ ks => XS.aload X9.here hx rfl (hb hby at_215) rfl rfl ks) ?_
              refine DnW.by (U' := T9.setTop (mkF m 218 #[.val (.int p0), .val (.int p1), .val (.int p2), .val (.int p3), .val (.int p4), .val (.int p5), .val (.int gw1), .val (.int gs1), .val (.int ge1), .val (.int gn1), .val (.int al), .val (.int gw2), .val (.int gs2), .val (.int ge2), .val (.int gn2), .val (.ref b1), .val (.ref b5), .val (.ref b9), .val (.int md), .unset] [.null, (.ref b1)])) (fun _ ks => XS.aconstNull X9.here hx rfl (hb hby at_217)  ks) ?_
              obtain ⟨cq14, kq14, qa14, qb14, qc14⟩ := isOf hZ rfl ((((A1.keep KK3).ext E5).keep KK7).keep KK9)
              obtain ⟨_, _, ⟨T14, L14, k14, n14⟩, -, X14, ⟨Lc14, hQ14, l14, y14, z14⟩, st14⟩ := X9.virtualBack hx (y := (⟨"com/example/flok/flok/geo/Box", "equals", "(Ljava/lang/Object;)Z"⟩ : MethodName)) (z := (⟨"com/example/flok/flok/geo/Box", "equals", "(Ljava/lang/Object;)Z"⟩ : MethodName)) hown (mvT hZ (hw _ (List.mem_of_getElem? (i := 46) rfl))) (mvT hZ (hw _ (List.mem_of_getElem? (i := 47) rfl))) (notFace_of_selects (args := #[]) (mvT hZ (hw _ (List.mem_of_getElem? (i := 49) rfl)))) (mvT hZ (hw _ (List.mem_of_getElem? (i := 49) rfl))) (mvT hZ (hw _ (List.mem_of_getElem? (i := 48) rfl))) (by decide) (backOf (W := 0) (rm7n l Z a0 hw [] b1  T9.heap n0 z10 ) hZ (hw _ (List.mem_of_getElem? (i := 50) rfl)) (hw _ (List.mem_of_getElem? (i := 3) rfl)) (by decide) (by decide)) qa14 qc14 (g := (mkF m 218 #[.val (.int p0), .val (.int p1), .val (.int p2), .val (.int p3), .val (.int p4), .val (.int p5), .val (.int gw1), .val (.int gs1), .val (.int ge1), .val (.int gn1), .val (.int al), .val (.int gw2), .val (.int gs2), .val (.int ge2), .val (.int gn2), .val (.ref b1), .val (.ref b5), .val (.ref b9), .val (.int md), .unset] [.null, (.ref b1)])) rfl (by rw [hml]; rfl) (Steps.refl _) (argsL := [.null]) (rest := []) (lenOf pd6 rfl) rfl (by show 2 * 0 + _ ≤ _; exact Nat.le_of_eq rfl) (hb hby at_218) (fun _ _ => ⟨rfl, rfl, (by decide : 19 + 0 ≤ _), (by decide : 185 + 0 ≤ _)⟩)
              dsimp only [Pt.U, Pt.locs, Pt.cells, Pt.slots] at X14 l14 y14 z14 st14 hQ14
              rw [l14, y14, z14] at X14
              obtain ⟨rfl, N14q, e14⟩ := hQ14
              have N14 := Fr.app N9 N14q
              refine DnW.by (U' := T14.setTop (mkF m 221 #[.val (.int p0), .val (.int p1), .val (.int p2), .val (.int p3), .val (.int p4), .val (.int p5), .val (.int gw1), .val (.int gs1), .val (.int ge1), .val (.int gn1), .val (.int al), .val (.int gw2), .val (.int gs2), .val (.int ge2), .val (.int gn2), .val (.ref b1), .val (.ref b5), .val (.ref b9), .val (.int md), .unset] [(.int (0 : Int32))])) (fun _ ks => st14.trans ks) ?_
              refine DnW.by (U' := T14.setTop (mkF m 224 #[.val (.int p0), .val (.int p1), .val (.int p2), .val (.int p3), .val (.int p4), .val (.int p5), .val (.int gw1), .val (.int gs1), .val (.int ge1), .val (.int gn1), .val (.int al), .val (.int gw2), .val (.int gs2), .val (.int ge2), .val (.int gn2), .val (.ref b1), .val (.ref b5), .val (.ref b9), .val (.int md), .unset] [])) (fun _ ks => XS.ifNo X14.here hx rfl (hb hby at_221) rfl (by decide) ks) ?_
              refine DnW.by (U' := T14.setTop (mkF m 225 #[.val (.int p0), .val (.int p1), .val (.int p2), .val (.int p3), .val (.int p4), .val (.int p5), .val (.int gw1), .val (.int gs1), .val (.int ge1), .val (.int gn1), .val (.int al), .val (.int gw2), .val (.int gs2), .val (.int ge2), .val (.int gn2), .val (.ref b1), .val (.ref b5), .val (.ref b9), .val (.int md), .unset] [(.int (1 : Int32))])) (fun _ ks => XS.iconst X14.here hx rfl (hb hby at_224)  ks) ?_
              refine DnW.by (U' := T14.setTop (mkF m 229 #[.val (.int p0), .val (.int p1), .val (.int p2), .val (.int p3), .val (.int p4), .val (.int p5), .val (.int gw1), .val (.int gs1), .val (.int ge1), .val (.int gn1), .val (.int al), .val (.int gw2), .val (.int gs2), .val (.int ge2), .val (.int gn2), .val (.ref b1), .val (.ref b5), .val (.ref b9), .val (.int md), .unset] [(.int (1 : Int32))])) (fun _ ks => XS.goto X14.here hx rfl (pc0 := 225) (pc' := 229) rfl (hb hby at_225) (by decide) (by decide) ks) ?_
              refine DnW.out X14 hS7 (by rw [e14]; exact hk10) (v := (some (.int (1 : Int32)))) (fun h => by rw [Bd.returns] at h; cases h) (BodyLoose.notSynchronized Bd) (fun _ hr => retN X14 hx (t := .boolean) Bd.returns (by simp) (hb hby at_229) hr) (by decide) (by decide) ?_ ?_
              · rw [e14]; exact ⟨rfl, N14⟩
              · rw [hh, e14]; exact C10.trans (CHv.at X14 hZ hEL C10.1)
            ·
              refine DnW.by (U' := T9.setTop (mkF m 230 #[.val (.int p0), .val (.int p1), .val (.int p2), .val (.int p3), .val (.int p4), .val (.int p5), .val (.int gw1), .val (.int gs1), .val (.int ge1), .val (.int gn1), .val (.int al), .val (.int gw2), .val (.int gs2), .val (.int ge2), .val (.int gn2), .val (.ref b1), .val (.ref b5), .val (.ref b9), .val (.int md), .unset] [])) (fun _ ks => XS.icmpYes X9.here hx rfl (pc0 := 212) (pc' := 230) rfl (hb hby at_212) rfl (feq c212_13).2 (by decide) (by decide) ks) ?_
              refine DnW.by (U' := T9.setTop (mkF m 232 #[.val (.int p0), .val (.int p1), .val (.int p2), .val (.int p3), .val (.int p4), .val (.int p5), .val (.int gw1), .val (.int gs1), .val (.int ge1), .val (.int gn1), .val (.int al), .val (.int gw2), .val (.int gs2), .val (.int ge2), .val (.int gn2), .val (.ref b1), .val (.ref b5), .val (.ref b9), .val (.int md), .unset] [(.int md)])) (fun _ ks => XS.iload X9.here hx rfl (hb hby at_230) rfl ks) ?_
              refine DnW.by (U' := T9.setTop (mkF m 233 #[.val (.int p0), .val (.int p1), .val (.int p2), .val (.int p3), .val (.int p4), .val (.int p5), .val (.int gw1), .val (.int gs1), .val (.int ge1), .val (.int gn1), .val (.int al), .val (.int gw2), .val (.int gs2), .val (.int ge2), .val (.int gn2), .val (.ref b1), .val (.ref b5), .val (.ref b9), .val (.int md), .unset] [(.int (3 : Int32)), (.int md)])) (fun _ ks => XS.iconst X9.here hx rfl (hb hby at_232)  ks) ?_
              by_cases c233_15 : md = (3 : Int32)
              ·
                refine DnW.by (U' := T9.setTop (mkF m 236 #[.val (.int p0), .val (.int p1), .val (.int p2), .val (.int p3), .val (.int p4), .val (.int p5), .val (.int gw1), .val (.int gs1), .val (.int ge1), .val (.int gn1), .val (.int al), .val (.int gw2), .val (.int gs2), .val (.int ge2), .val (.int gn2), .val (.ref b1), .val (.ref b5), .val (.ref b9), .val (.int md), .unset] [])) (fun _ ks => XS.icmpNo X9.here hx rfl (hb hby at_233) rfl (teq c233_15).2 ks) ?_
                refine DnW.by (U' := T9.setTop (mkF m 238 #[.val (.int p0), .val (.int p1), .val (.int p2), .val (.int p3), .val (.int p4), .val (.int p5), .val (.int gw1), .val (.int gs1), .val (.int ge1), .val (.int gn1), .val (.int al), .val (.int gw2), .val (.int gs2), .val (.int ge2), .val (.int gn2), .val (.ref b1), .val (.ref b5), .val (.ref b9), .val (.int md), .unset] [(.ref b1)])) (fun _ ks => XS.aload X9.here hx rfl (hb hby at_236) rfl rfl ks) ?_
                refine DnW.by (U' := T9.setTop (mkF m 240 #[.val (.int p0), .val (.int p1), .val (.int p2), .val (.int p3), .val (.int p4), .val (.int p5), .val (.int gw1), .val (.int gs1), .val (.int ge1), .val (.int gn1), .val (.int al), .val (.int gw2), .val (.int gs2), .val (.int ge2), .val (.int gn2), .val (.ref b1), .val (.ref b5), .val (.ref b9), .val (.int md), .unset] [(.ref b9), (.ref b1)])) (fun _ ks => XS.aload X9.here hx rfl (hb hby at_238) rfl rfl ks) ?_
                obtain ⟨cq16, kq16, qa16, qb16, qc16⟩ := isOf hZ rfl ((((A1.keep KK3).ext E5).keep KK7).keep KK9)
                obtain ⟨_, _, ⟨T16, L16, k16, n16⟩, -, X16, ⟨Lc16, hQ16, l16, y16, z16⟩, st16⟩ := X9.virtualBack hx (y := (⟨"com/example/flok/flok/geo/Box", "equals", "(Ljava/lang/Object;)Z"⟩ : MethodName)) (z := (⟨"com/example/flok/flok/geo/Box", "equals", "(Ljava/lang/Object;)Z"⟩ : MethodName)) hown (mvT hZ (hw _ (List.mem_of_getElem? (i := 46) rfl))) (mvT hZ (hw _ (List.mem_of_getElem? (i := 47) rfl))) (notFace_of_selects (args := #[]) (mvT hZ (hw _ (List.mem_of_getElem? (i := 49) rfl)))) (mvT hZ (hw _ (List.mem_of_getElem? (i := 49) rfl))) (mvT hZ (hw _ (List.mem_of_getElem? (i := 48) rfl))) (by decide) (backOf (W := 0) (rm7l l Z a0 hw [] b1 b9  T9.heap n0 z10 EE9) hZ (hw _ (List.mem_of_getElem? (i := 50) rfl)) (hw _ (List.mem_of_getElem? (i := 3) rfl)) (by decide) (by decide)) qa16 qc16 (g := (mkF m 240 #[.val (.int p0), .val (.int p1), .val (.int p2), .val (.int p3), .val (.int p4), .val (.int p5), .val (.int gw1), .val (.int gs1), .val (.int ge1), .val (.int gn1), .val (.int al), .val (.int gw2), .val (.int gs2), .val (.int ge2), .val (.int gn2), .val (.ref b1), .val (.ref b5), .val (.ref b9), .val (.int md), .unset] [(.ref b9), (.ref b1)])) rfl (by rw [hml]; rfl) (Steps.refl _) (argsL := [(.ref b9)]) (rest := []) (lenOf pd6 rfl) rfl (by show 2 * 0 + _ ≤ _; exact Nat.le_of_eq rfl) (hb hby at_240) (fun _ _ => ⟨rfl, rfl, (by decide : 19 + 0 ≤ _), (by decide : 185 + 0 ≤ _)⟩)
                dsimp only [Pt.U, Pt.locs, Pt.cells, Pt.slots] at X16 l16 y16 z16 st16 hQ16
                rw [l16, y16, z16] at X16
                obtain ⟨rfl, N16q, e16⟩ := hQ16
                have N16 := Fr.app N9 N16q
                refine DnW.by (U' := T16.setTop (mkF m 243 #[.val (.int p0), .val (.int p1), .val (.int p2), .val (.int p3), .val (.int p4), .val (.int p5), .val (.int gw1), .val (.int gs1), .val (.int ge1), .val (.int gn1), .val (.int al), .val (.int gw2), .val (.int gs2), .val (.int ge2), .val (.int gn2), .val (.ref b1), .val (.ref b5), .val (.ref b9), .val (.int md), .unset] [(.int (0 : Int32))])) (fun _ ks => st16.trans ks) ?_
                refine DnW.by (U' := T16.setTop (mkF m 246 #[.val (.int p0), .val (.int p1), .val (.int p2), .val (.int p3), .val (.int p4), .val (.int p5), .val (.int gw1), .val (.int gs1), .val (.int ge1), .val (.int gn1), .val (.int al), .val (.int gw2), .val (.int gs2), .val (.int ge2), .val (.int gn2), .val (.ref b1), .val (.ref b5), .val (.ref b9), .val (.int md), .unset] [])) (fun _ ks => XS.ifNo X16.here hx rfl (hb hby at_243) rfl (by decide) ks) ?_
                refine DnW.by (U' := T16.setTop (mkF m 247 #[.val (.int p0), .val (.int p1), .val (.int p2), .val (.int p3), .val (.int p4), .val (.int p5), .val (.int gw1), .val (.int gs1), .val (.int ge1), .val (.int gn1), .val (.int al), .val (.int gw2), .val (.int gs2), .val (.int ge2), .val (.int gn2), .val (.ref b1), .val (.ref b5), .val (.ref b9), .val (.int md), .unset] [(.int (1 : Int32))])) (fun _ ks => XS.iconst X16.here hx rfl (hb hby at_246)  ks) ?_
                refine DnW.by (U' := T16.setTop (mkF m 251 #[.val (.int p0), .val (.int p1), .val (.int p2), .val (.int p3), .val (.int p4), .val (.int p5), .val (.int gw1), .val (.int gs1), .val (.int ge1), .val (.int gn1), .val (.int al), .val (.int gw2), .val (.int gs2), .val (.int ge2), .val (.int gn2), .val (.ref b1), .val (.ref b5), .val (.ref b9), .val (.int md), .unset] [(.int (1 : Int32))])) (fun _ ks => XS.goto X16.here hx rfl (pc0 := 247) (pc' := 251) rfl (hb hby at_247) (by decide) (by decide) ks) ?_
                refine DnW.out X16 hS7 (by rw [e16]; exact hk10) (v := (some (.int (1 : Int32)))) (fun h => by rw [Bd.returns] at h; cases h) (BodyLoose.notSynchronized Bd) (fun _ hr => retN X16 hx (t := .boolean) Bd.returns (by simp) (hb hby at_251) hr) (by decide) (by decide) ?_ ?_
                · rw [e16]; exact ⟨rfl, N16⟩
                · rw [hh, e16]; exact C10.trans (CHv.at X16 hZ hEL C10.1)
              ·
                refine DnW.by (U' := T9.setTop (mkF m 252 #[.val (.int p0), .val (.int p1), .val (.int p2), .val (.int p3), .val (.int p4), .val (.int p5), .val (.int gw1), .val (.int gs1), .val (.int ge1), .val (.int gn1), .val (.int al), .val (.int gw2), .val (.int gs2), .val (.int ge2), .val (.int gn2), .val (.ref b1), .val (.ref b5), .val (.ref b9), .val (.int md), .unset] [])) (fun _ ks => XS.icmpYes X9.here hx rfl (pc0 := 233) (pc' := 252) rfl (hb hby at_233) rfl (feq c233_15).2 (by decide) (by decide) ks) ?_
                refine DnW.by (U' := T9.setTop (mkF m 254 #[.val (.int p0), .val (.int p1), .val (.int p2), .val (.int p3), .val (.int p4), .val (.int p5), .val (.int gw1), .val (.int gs1), .val (.int ge1), .val (.int gn1), .val (.int al), .val (.int gw2), .val (.int gs2), .val (.int ge2), .val (.int gn2), .val (.ref b1), .val (.ref b5), .val (.ref b9), .val (.int md), .unset] [(.int gw1)])) (fun _ ks => XS.iload X9.here hx rfl (hb hby at_252) rfl ks) ?_
                refine DnW.by (U' := T9.setTop (mkF m 256 #[.val (.int p0), .val (.int p1), .val (.int p2), .val (.int p3), .val (.int p4), .val (.int p5), .val (.int gw1), .val (.int gs1), .val (.int ge1), .val (.int gn1), .val (.int al), .val (.int gw2), .val (.int gs2), .val (.int ge2), .val (.int gn2), .val (.ref b1), .val (.ref b5), .val (.ref b9), .val (.int md), .unset] [(.int gw2), (.int gw1)])) (fun _ ks => XS.iload X9.here hx rfl (hb hby at_254) rfl ks) ?_
                by_cases c256_17 : gw1 = gw2
                ·
                  refine DnW.by (U' := T9.setTop (mkF m 259 #[.val (.int p0), .val (.int p1), .val (.int p2), .val (.int p3), .val (.int p4), .val (.int p5), .val (.int gw1), .val (.int gs1), .val (.int ge1), .val (.int gn1), .val (.int al), .val (.int gw2), .val (.int gs2), .val (.int ge2), .val (.int gn2), .val (.ref b1), .val (.ref b5), .val (.ref b9), .val (.int md), .unset] [])) (fun _ ks => XS.icmpNo X9.here hx rfl (hb hby at_256) rfl (teq c256_17).2 ks) ?_
                  refine DnW.by (U' := T9.setTop (mkF m 261 #[.val (.int p0), .val (.int p1), .val (.int p2), .val (.int p3), .val (.int p4), .val (.int p5), .val (.int gw1), .val (.int gs1), .val (.int ge1), .val (.int gn1), .val (.int al), .val (.int gw2), .val (.int gs2), .val (.int ge2), .val (.int gn2), .val (.ref b1), .val (.ref b5), .val (.ref b9), .val (.int md), .unset] [(.int gs1)])) (fun _ ks => XS.iload X9.here hx rfl (hb hby at_259) rfl ks) ?_
                  refine DnW.by (U' := T9.setTop (mkF m 263 #[.val (.int p0), .val (.int p1), .val (.int p2), .val (.int p3), .val (.int p4), .val (.int p5), .val (.int gw1), .val (.int gs1), .val (.int ge1), .val (.int gn1), .val (.int al), .val (.int gw2), .val (.int gs2), .val (.int ge2), .val (.int gn2), .val (.ref b1), .val (.ref b5), .val (.ref b9), .val (.int md), .unset] [(.int gs2), (.int gs1)])) (fun _ ks => XS.iload X9.here hx rfl (hb hby at_261) rfl ks) ?_
                  by_cases c263_18 : gs1 = gs2
                  ·
                    refine DnW.by (U' := T9.setTop (mkF m 266 #[.val (.int p0), .val (.int p1), .val (.int p2), .val (.int p3), .val (.int p4), .val (.int p5), .val (.int gw1), .val (.int gs1), .val (.int ge1), .val (.int gn1), .val (.int al), .val (.int gw2), .val (.int gs2), .val (.int ge2), .val (.int gn2), .val (.ref b1), .val (.ref b5), .val (.ref b9), .val (.int md), .unset] [])) (fun _ ks => XS.icmpNo X9.here hx rfl (hb hby at_263) rfl (teq c263_18).2 ks) ?_
                    refine DnW.by (U' := T9.setTop (mkF m 268 #[.val (.int p0), .val (.int p1), .val (.int p2), .val (.int p3), .val (.int p4), .val (.int p5), .val (.int gw1), .val (.int gs1), .val (.int ge1), .val (.int gn1), .val (.int al), .val (.int gw2), .val (.int gs2), .val (.int ge2), .val (.int gn2), .val (.ref b1), .val (.ref b5), .val (.ref b9), .val (.int md), .unset] [(.int ge1)])) (fun _ ks => XS.iload X9.here hx rfl (hb hby at_266) rfl ks) ?_
                    refine DnW.by (U' := T9.setTop (mkF m 270 #[.val (.int p0), .val (.int p1), .val (.int p2), .val (.int p3), .val (.int p4), .val (.int p5), .val (.int gw1), .val (.int gs1), .val (.int ge1), .val (.int gn1), .val (.int al), .val (.int gw2), .val (.int gs2), .val (.int ge2), .val (.int gn2), .val (.ref b1), .val (.ref b5), .val (.ref b9), .val (.int md), .unset] [(.int ge2), (.int ge1)])) (fun _ ks => XS.iload X9.here hx rfl (hb hby at_268) rfl ks) ?_
                    by_cases c270_19 : ge1 = ge2
                    ·
                      refine DnW.by (U' := T9.setTop (mkF m 273 #[.val (.int p0), .val (.int p1), .val (.int p2), .val (.int p3), .val (.int p4), .val (.int p5), .val (.int gw1), .val (.int gs1), .val (.int ge1), .val (.int gn1), .val (.int al), .val (.int gw2), .val (.int gs2), .val (.int ge2), .val (.int gn2), .val (.ref b1), .val (.ref b5), .val (.ref b9), .val (.int md), .unset] [])) (fun _ ks => XS.icmpNo X9.here hx rfl (hb hby at_270) rfl (teq c270_19).2 ks) ?_
                      refine DnW.by (U' := T9.setTop (mkF m 275 #[.val (.int p0), .val (.int p1), .val (.int p2), .val (.int p3), .val (.int p4), .val (.int p5), .val (.int gw1), .val (.int gs1), .val (.int ge1), .val (.int gn1), .val (.int al), .val (.int gw2), .val (.int gs2), .val (.int ge2), .val (.int gn2), .val (.ref b1), .val (.ref b5), .val (.ref b9), .val (.int md), .unset] [(.int gn1)])) (fun _ ks => XS.iload X9.here hx rfl (hb hby at_273) rfl ks) ?_
                      refine DnW.by (U' := T9.setTop (mkF m 277 #[.val (.int p0), .val (.int p1), .val (.int p2), .val (.int p3), .val (.int p4), .val (.int p5), .val (.int gw1), .val (.int gs1), .val (.int ge1), .val (.int gn1), .val (.int al), .val (.int gw2), .val (.int gs2), .val (.int ge2), .val (.int gn2), .val (.ref b1), .val (.ref b5), .val (.ref b9), .val (.int md), .unset] [(.int gn2), (.int gn1)])) (fun _ ks => XS.iload X9.here hx rfl (hb hby at_275) rfl ks) ?_
                      by_cases c277_20 : gn1 = gn2
                      ·
                        refine DnW.by (U' := T9.setTop (mkF m 280 #[.val (.int p0), .val (.int p1), .val (.int p2), .val (.int p3), .val (.int p4), .val (.int p5), .val (.int gw1), .val (.int gs1), .val (.int ge1), .val (.int gn1), .val (.int al), .val (.int gw2), .val (.int gs2), .val (.int ge2), .val (.int gn2), .val (.ref b1), .val (.ref b5), .val (.ref b9), .val (.int md), .unset] [])) (fun _ ks => XS.icmpNo X9.here hx rfl (hb hby at_277) rfl (teq c277_20).2 ks) ?_
                        refine DnW.by (U' := T9.setTop (mkF m 281 #[.val (.int p0), .val (.int p1), .val (.int p2), .val (.int p3), .val (.int p4), .val (.int p5), .val (.int gw1), .val (.int gs1), .val (.int ge1), .val (.int gn1), .val (.int al), .val (.int gw2), .val (.int gs2), .val (.int ge2), .val (.int gn2), .val (.ref b1), .val (.ref b5), .val (.ref b9), .val (.int md), .unset] [(.int (1 : Int32))])) (fun _ ks => XS.iconst X9.here hx rfl (hb hby at_280)  ks) ?_
                        refine DnW.by (U' := T9.setTop (mkF m 285 #[.val (.int p0), .val (.int p1), .val (.int p2), .val (.int p3), .val (.int p4), .val (.int p5), .val (.int gw1), .val (.int gs1), .val (.int ge1), .val (.int gn1), .val (.int al), .val (.int gw2), .val (.int gs2), .val (.int ge2), .val (.int gn2), .val (.ref b1), .val (.ref b5), .val (.ref b9), .val (.int md), .unset] [(.int (1 : Int32))])) (fun _ ks => XS.goto X9.here hx rfl (pc0 := 281) (pc' := 285) rfl (hb hby at_281) (by decide) (by decide) ks) ?_
                        refine DnW.by (U' := T9.setTop (mkF m 287 #[.val (.int p0), .val (.int p1), .val (.int p2), .val (.int p3), .val (.int p4), .val (.int p5), .val (.int gw1), .val (.int gs1), .val (.int ge1), .val (.int gn1), .val (.int al), .val (.int gw2), .val (.int gs2), .val (.int ge2), .val (.int gn2), .val (.ref b1), .val (.ref b5), .val (.ref b9), .val (.int md), .val (.int (1 : Int32))] [])) (fun _ ks => XS.istore X9.here hx rfl (hb hby at_285) rfl (l' := #[.val (.int p0), .val (.int p1), .val (.int p2), .val (.int p3), .val (.int p4), .val (.int p5), .val (.int gw1), .val (.int gs1), .val (.int ge1), .val (.int gn1), .val (.int al), .val (.int gw2), .val (.int gs2), .val (.int ge2), .val (.int gn2), .val (.ref b1), .val (.ref b5), .val (.ref b9), .val (.int md), .val (.int (1 : Int32))]) rfl ks) ?_
                        refine DnW.by (U' := T9.setTop (mkF m 289 #[.val (.int p0), .val (.int p1), .val (.int p2), .val (.int p3), .val (.int p4), .val (.int p5), .val (.int gw1), .val (.int gs1), .val (.int ge1), .val (.int gn1), .val (.int al), .val (.int gw2), .val (.int gs2), .val (.int ge2), .val (.int gn2), .val (.ref b1), .val (.ref b5), .val (.ref b9), .val (.int md), .val (.int (1 : Int32))] [(.ref b1)])) (fun _ ks => XS.aload X9.here hx rfl (hb hby at_287) rfl rfl ks) ?_
                        refine DnW.by (U' := T9.setTop (mkF m 291 #[.val (.int p0), .val (.int p1), .val (.int p2), .val (.int p3), .val (.int p4), .val (.int p5), .val (.int gw1), .val (.int gs1), .val (.int ge1), .val (.int gn1), .val (.int al), .val (.int gw2), .val (.int gs2), .val (.int ge2), .val (.int gn2), .val (.ref b1), .val (.ref b5), .val (.ref b9), .val (.int md), .val (.int (1 : Int32))] [(.ref b5), (.ref b1)])) (fun _ ks => XS.aload X9.here hx rfl (hb hby at_289) rfl rfl ks) ?_
                        obtain ⟨cq21, kq21, qa21, qb21, qc21⟩ := isOf hZ rfl ((((A1.keep KK3).ext E5).keep KK7).keep KK9)
                        obtain ⟨_, _, ⟨T21, L21, k21, n21⟩, -, X21, ⟨Lc21, hQ21, l21, y21, z21⟩, st21⟩ := X9.virtualBack hx (y := (⟨"com/example/flok/flok/geo/Box", "equals", "(Ljava/lang/Object;)Z"⟩ : MethodName)) (z := (⟨"com/example/flok/flok/geo/Box", "equals", "(Ljava/lang/Object;)Z"⟩ : MethodName)) hown (mvT hZ (hw _ (List.mem_of_getElem? (i := 46) rfl))) (mvT hZ (hw _ (List.mem_of_getElem? (i := 47) rfl))) (notFace_of_selects (args := #[]) (mvT hZ (hw _ (List.mem_of_getElem? (i := 49) rfl)))) (mvT hZ (hw _ (List.mem_of_getElem? (i := 49) rfl))) (mvT hZ (hw _ (List.mem_of_getElem? (i := 48) rfl))) (by decide) (backOf (W := 0) (rm7 l Z a0 hw [] b1 b5 (FP.i2d gw1) (FP.i2d gs1) (FP.i2d ge1) (FP.i2d gn1) (FP.i2d gw2) (FP.i2d gs2) (FP.i2d ge2) (FP.i2d gn2) T9.heap n0 z10 (((FF3_0.ext E5).keep KK7 (ninS ne_b1_b5 nin0)).keep KK9 nin0) (((FF3_1.ext E5).keep KK7 (ninS ne_b1_b5 nin0)).keep KK9 nin0) (((FF3_2.ext E5).keep KK7 (ninS ne_b1_b5 nin0)).keep KK9 nin0) (((FF3_3.ext E5).keep KK7 (ninS ne_b1_b5 nin0)).keep KK9 nin0) (FF7_0.keep KK9 nin0) (FF7_1.keep KK9 nin0) (FF7_2.keep KK9 nin0) (FF7_3.keep KK9 nin0) ((A5.keep KK7).keep KK9)) hZ (hw _ (List.mem_of_getElem? (i := 50) rfl)) (hw _ (List.mem_of_getElem? (i := 3) rfl)) (by decide) (by decide)) qa21 qc21 (g := (mkF m 291 #[.val (.int p0), .val (.int p1), .val (.int p2), .val (.int p3), .val (.int p4), .val (.int p5), .val (.int gw1), .val (.int gs1), .val (.int ge1), .val (.int gn1), .val (.int al), .val (.int gw2), .val (.int gs2), .val (.int ge2), .val (.int gn2), .val (.ref b1), .val (.ref b5), .val (.ref b9), .val (.int md), .val (.int (1 : Int32))] [(.ref b5), (.ref b1)])) rfl (by rw [hml]; rfl) (Steps.refl _) (argsL := [(.ref b5)]) (rest := []) (lenOf pd6 rfl) rfl (by show 2 * 0 + _ ≤ _; exact Nat.le_of_eq rfl) (hb hby at_291) (fun _ _ => ⟨rfl, rfl, (by decide : 19 + 0 ≤ _), (by decide : 185 + 0 ≤ _)⟩)
                        dsimp only [Pt.U, Pt.locs, Pt.cells, Pt.slots] at X21 l21 y21 z21 st21 hQ21
                        rw [l21, y21, z21] at X21
                        obtain ⟨rfl, N21q, e21⟩ := hQ21
                        have N21 := Fr.app N9 N21q
                        refine DnW.by (U' := T21.setTop (mkF m 294 #[.val (.int p0), .val (.int p1), .val (.int p2), .val (.int p3), .val (.int p4), .val (.int p5), .val (.int gw1), .val (.int gs1), .val (.int ge1), .val (.int gn1), .val (.int al), .val (.int gw2), .val (.int gs2), .val (.int ge2), .val (.int gn2), .val (.ref b1), .val (.ref b5), .val (.ref b9), .val (.int md), .val (.int (1 : Int32))] [(.int (eqB b1 b5 (FP.i2d gw1) (FP.i2d gs1) (FP.i2d ge1) (FP.i2d gn1) (FP.i2d gw2) (FP.i2d gs2) (FP.i2d ge2) (FP.i2d gn2)))])) (fun _ ks => st21.trans ks) ?_
                        refine DnW.by (U' := T21.setTop (mkF m 296 #[.val (.int p0), .val (.int p1), .val (.int p2), .val (.int p3), .val (.int p4), .val (.int p5), .val (.int gw1), .val (.int gs1), .val (.int ge1), .val (.int gn1), .val (.int al), .val (.int gw2), .val (.int gs2), .val (.int ge2), .val (.int gn2), .val (.ref b1), .val (.ref b5), .val (.ref b9), .val (.int md), .val (.int (1 : Int32))] [(.int (1 : Int32)), (.int (eqB b1 b5 (FP.i2d gw1) (FP.i2d gs1) (FP.i2d ge1) (FP.i2d gn1) (FP.i2d gw2) (FP.i2d gs2) (FP.i2d ge2) (FP.i2d gn2)))])) (fun _ ks => XS.iload X21.here hx rfl (hb hby at_294) rfl ks) ?_
                        refine DnW.by (U' := T21.setTop (mkF m 299 #[.val (.int p0), .val (.int p1), .val (.int p2), .val (.int p3), .val (.int p4), .val (.int p5), .val (.int gw1), .val (.int gs1), .val (.int ge1), .val (.int gn1), .val (.int al), .val (.int gw2), .val (.int gs2), .val (.int ge2), .val (.int gn2), .val (.ref b1), .val (.ref b5), .val (.ref b9), .val (.int md), .val (.int (1 : Int32))] [])) (fun _ ks => XS.icmpNo X21.here hx rfl (hb hby at_296) rfl (teq ((own_eqB _ _ _ _ _ _ _ _ _ _).trans (if_pos ⟨c256_17, c263_18, c270_19, c277_20⟩))).2 ks) ?_
                        refine DnW.by (U' := T21.setTop (mkF m 301 #[.val (.int p0), .val (.int p1), .val (.int p2), .val (.int p3), .val (.int p4), .val (.int p5), .val (.int gw1), .val (.int gs1), .val (.int ge1), .val (.int gn1), .val (.int al), .val (.int gw2), .val (.int gs2), .val (.int ge2), .val (.int gn2), .val (.ref b1), .val (.ref b5), .val (.ref b9), .val (.int md), .val (.int (1 : Int32))] [(.ref b5)])) (fun _ ks => XS.aload X21.here hx rfl (hb hby at_299) rfl rfl ks) ?_
                        refine DnW.by (U' := T21.setTop (mkF m 303 #[.val (.int p0), .val (.int p1), .val (.int p2), .val (.int p3), .val (.int p4), .val (.int p5), .val (.int gw1), .val (.int gs1), .val (.int ge1), .val (.int gn1), .val (.int al), .val (.int gw2), .val (.int gs2), .val (.int ge2), .val (.int gn2), .val (.ref b1), .val (.ref b5), .val (.ref b9), .val (.int md), .val (.int (1 : Int32))] [(.ref b1), (.ref b5)])) (fun _ ks => XS.aload X21.here hx rfl (hb hby at_301) rfl rfl ks) ?_
                        obtain ⟨cq22, kq22, qa22, qb22, qc22⟩ := isOf hZ e21 ((A5.keep KK7).keep KK9)
                        obtain ⟨_, _, ⟨T22, L22, k22, n22⟩, -, X22, ⟨Lc22, hQ22, l22, y22, z22⟩, st22⟩ := X21.virtualBack hx (y := (⟨"com/example/flok/flok/geo/Box", "equals", "(Ljava/lang/Object;)Z"⟩ : MethodName)) (z := (⟨"com/example/flok/flok/geo/Box", "equals", "(Ljava/lang/Object;)Z"⟩ : MethodName)) hown (mvT hZ (hw _ (List.mem_of_getElem? (i := 46) rfl))) (mvT hZ (hw _ (List.mem_of_getElem? (i := 47) rfl))) (notFace_of_selects (args := #[]) (mvT hZ (hw _ (List.mem_of_getElem? (i := 49) rfl)))) (mvT hZ (hw _ (List.mem_of_getElem? (i := 49) rfl))) (mvT hZ (hw _ (List.mem_of_getElem? (i := 48) rfl))) (by decide) (backOf (W := 0) (rm7 l Z a0 hw [] b5 b1 (FP.i2d gw2) (FP.i2d gs2) (FP.i2d ge2) (FP.i2d gn2) (FP.i2d gw1) (FP.i2d gs1) (FP.i2d ge1) (FP.i2d gn1) T9.heap n0 z10 (FF7_0.keep KK9 nin0) (FF7_1.keep KK9 nin0) (FF7_2.keep KK9 nin0) (FF7_3.keep KK9 nin0) (((FF3_0.ext E5).keep KK7 (ninS ne_b1_b5 nin0)).keep KK9 nin0) (((FF3_1.ext E5).keep KK7 (ninS ne_b1_b5 nin0)).keep KK9 nin0) (((FF3_2.ext E5).keep KK7 (ninS ne_b1_b5 nin0)).keep KK9 nin0) (((FF3_3.ext E5).keep KK7 (ninS ne_b1_b5 nin0)).keep KK9 nin0) ((((A1.keep KK3).ext E5).keep KK7).keep KK9)) hZ (hw _ (List.mem_of_getElem? (i := 50) rfl)) (hw _ (List.mem_of_getElem? (i := 3) rfl)) (by decide) (by decide)) qa22 qc22 (g := (mkF m 303 #[.val (.int p0), .val (.int p1), .val (.int p2), .val (.int p3), .val (.int p4), .val (.int p5), .val (.int gw1), .val (.int gs1), .val (.int ge1), .val (.int gn1), .val (.int al), .val (.int gw2), .val (.int gs2), .val (.int ge2), .val (.int gn2), .val (.ref b1), .val (.ref b5), .val (.ref b9), .val (.int md), .val (.int (1 : Int32))] [(.ref b1), (.ref b5)])) rfl (by rw [hml]; rfl) (Steps.refl _) (argsL := [(.ref b1)]) (rest := []) (lenOf pd6 rfl) rfl (by show 2 * 0 + _ ≤ _; exact Nat.le_of_eq rfl) (hb hby at_303) (fun _ _ => ⟨rfl, e21, (by decide : 19 + 0 ≤ _), (by decide : 185 + 0 ≤ _)⟩)
                        dsimp only [Pt.U, Pt.locs, Pt.cells, Pt.slots] at X22 l22 y22 z22 st22 hQ22
                        rw [l22, y22, z22] at X22
                        obtain ⟨rfl, N22q, e22⟩ := hQ22
                        have N22 := Fr.app N21 N22q
                        refine DnW.by (U' := T22.setTop (mkF m 306 #[.val (.int p0), .val (.int p1), .val (.int p2), .val (.int p3), .val (.int p4), .val (.int p5), .val (.int gw1), .val (.int gs1), .val (.int ge1), .val (.int gn1), .val (.int al), .val (.int gw2), .val (.int gs2), .val (.int ge2), .val (.int gn2), .val (.ref b1), .val (.ref b5), .val (.ref b9), .val (.int md), .val (.int (1 : Int32))] [(.int (eqB b5 b1 (FP.i2d gw2) (FP.i2d gs2) (FP.i2d ge2) (FP.i2d gn2) (FP.i2d gw1) (FP.i2d gs1) (FP.i2d ge1) (FP.i2d gn1)))])) (fun _ ks => st22.trans ks) ?_
                        refine DnW.by (U' := T22.setTop (mkF m 308 #[.val (.int p0), .val (.int p1), .val (.int p2), .val (.int p3), .val (.int p4), .val (.int p5), .val (.int gw1), .val (.int gs1), .val (.int ge1), .val (.int gn1), .val (.int al), .val (.int gw2), .val (.int gs2), .val (.int ge2), .val (.int gn2), .val (.ref b1), .val (.ref b5), .val (.ref b9), .val (.int md), .val (.int (1 : Int32))] [(.int (1 : Int32)), (.int (eqB b5 b1 (FP.i2d gw2) (FP.i2d gs2) (FP.i2d ge2) (FP.i2d gn2) (FP.i2d gw1) (FP.i2d gs1) (FP.i2d ge1) (FP.i2d gn1)))])) (fun _ ks => XS.iload X22.here hx rfl (hb hby at_306) rfl ks) ?_
                        refine DnW.by (U' := T22.setTop (mkF m 311 #[.val (.int p0), .val (.int p1), .val (.int p2), .val (.int p3), .val (.int p4), .val (.int p5), .val (.int gw1), .val (.int gs1), .val (.int ge1), .val (.int gn1), .val (.int al), .val (.int gw2), .val (.int gs2), .val (.int ge2), .val (.int gn2), .val (.ref b1), .val (.ref b5), .val (.ref b9), .val (.int md), .val (.int (1 : Int32))] [])) (fun _ ks => XS.icmpNo X22.here hx rfl (hb hby at_308) rfl (teq ((own_eqB _ _ _ _ _ _ _ _ _ _).trans (if_pos ⟨c256_17.symm, c263_18.symm, c270_19.symm, c277_20.symm⟩))).2 ks) ?_
                        refine DnW.by (U' := T22.setTop (mkF m 312 #[.val (.int p0), .val (.int p1), .val (.int p2), .val (.int p3), .val (.int p4), .val (.int p5), .val (.int gw1), .val (.int gs1), .val (.int ge1), .val (.int gn1), .val (.int al), .val (.int gw2), .val (.int gs2), .val (.int ge2), .val (.int gn2), .val (.ref b1), .val (.ref b5), .val (.ref b9), .val (.int md), .val (.int (1 : Int32))] [(.int (1 : Int32))])) (fun _ ks => XS.iconst X22.here hx rfl (hb hby at_311)  ks) ?_
                        refine DnW.by (U' := T22.setTop (mkF m 316 #[.val (.int p0), .val (.int p1), .val (.int p2), .val (.int p3), .val (.int p4), .val (.int p5), .val (.int gw1), .val (.int gs1), .val (.int ge1), .val (.int gn1), .val (.int al), .val (.int gw2), .val (.int gs2), .val (.int ge2), .val (.int gn2), .val (.ref b1), .val (.ref b5), .val (.ref b9), .val (.int md), .val (.int (1 : Int32))] [(.int (1 : Int32))])) (fun _ ks => XS.goto X22.here hx rfl (pc0 := 312) (pc' := 316) rfl (hb hby at_312) (by decide) (by decide) ks) ?_
                        refine DnW.out X22 hS7 (by rw [e22]; exact hk10) (v := (some (.int (1 : Int32)))) (fun h => by rw [Bd.returns] at h; cases h) (BodyLoose.notSynchronized Bd) (fun _ hr => retN X22 hx (t := .boolean) Bd.returns (by simp) (hb hby at_316) hr) (by decide) (by decide) ?_ ?_
                        · rw [e22]; exact ⟨rfl, N22⟩
                        · rw [hh, e22]; exact C10.trans (CHv.at X22 hZ hEL C10.1)
                      ·
                        refine DnW.by (U' := T9.setTop (mkF m 284 #[.val (.int p0), .val (.int p1), .val (.int p2), .val (.int p3), .val (.int p4), .val (.int p5), .val (.int gw1), .val (.int gs1), .val (.int ge1), .val (.int gn1), .val (.int al), .val (.int gw2), .val (.int gs2), .val (.int ge2), .val (.int gn2), .val (.ref b1), .val (.ref b5), .val (.ref b9), .val (.int md), .unset] [])) (fun _ ks => XS.icmpYes X9.here hx rfl (pc0 := 277) (pc' := 284) rfl (hb hby at_277) rfl (feq c277_20).2 (by decide) (by decide) ks) ?_
                        refine DnW.by (U' := T9.setTop (mkF m 285 #[.val (.int p0), .val (.int p1), .val (.int p2), .val (.int p3), .val (.int p4), .val (.int p5), .val (.int gw1), .val (.int gs1), .val (.int ge1), .val (.int gn1), .val (.int al), .val (.int gw2), .val (.int gs2), .val (.int ge2), .val (.int gn2), .val (.ref b1), .val (.ref b5), .val (.ref b9), .val (.int md), .unset] [(.int (0 : Int32))])) (fun _ ks => XS.iconst X9.here hx rfl (hb hby at_284)  ks) ?_
                        refine DnW.by (U' := T9.setTop (mkF m 287 #[.val (.int p0), .val (.int p1), .val (.int p2), .val (.int p3), .val (.int p4), .val (.int p5), .val (.int gw1), .val (.int gs1), .val (.int ge1), .val (.int gn1), .val (.int al), .val (.int gw2), .val (.int gs2), .val (.int ge2), .val (.int gn2), .val (.ref b1), .val (.ref b5), .val (.ref b9), .val (.int md), .val (.int (0 : Int32))] [])) (fun _ ks => XS.istore X9.here hx rfl (hb hby at_285) rfl (l' := #[.val (.int p0), .val (.int p1), .val (.int p2), .val (.int p3), .val (.int p4), .val (.int p5), .val (.int gw1), .val (.int gs1), .val (.int ge1), .val (.int gn1), .val (.int al), .val (.int gw2), .val (.int gs2), .val (.int ge2), .val (.int gn2), .val (.ref b1), .val (.ref b5), .val (.ref b9), .val (.int md), .val (.int (0 : Int32))]) rfl ks) ?_
                        refine DnW.by (U' := T9.setTop (mkF m 289 #[.val (.int p0), .val (.int p1), .val (.int p2), .val (.int p3), .val (.int p4), .val (.int p5), .val (.int gw1), .val (.int gs1), .val (.int ge1), .val (.int gn1), .val (.int al), .val (.int gw2), .val (.int gs2), .val (.int ge2), .val (.int gn2), .val (.ref b1), .val (.ref b5), .val (.ref b9), .val (.int md), .val (.int (0 : Int32))] [(.ref b1)])) (fun _ ks => XS.aload X9.here hx rfl (hb hby at_287) rfl rfl ks) ?_
                        refine DnW.by (U' := T9.setTop (mkF m 291 #[.val (.int p0), .val (.int p1), .val (.int p2), .val (.int p3), .val (.int p4), .val (.int p5), .val (.int gw1), .val (.int gs1), .val (.int ge1), .val (.int gn1), .val (.int al), .val (.int gw2), .val (.int gs2), .val (.int ge2), .val (.int gn2), .val (.ref b1), .val (.ref b5), .val (.ref b9), .val (.int md), .val (.int (0 : Int32))] [(.ref b5), (.ref b1)])) (fun _ ks => XS.aload X9.here hx rfl (hb hby at_289) rfl rfl ks) ?_
                        obtain ⟨cq23, kq23, qa23, qb23, qc23⟩ := isOf hZ rfl ((((A1.keep KK3).ext E5).keep KK7).keep KK9)
                        obtain ⟨_, _, ⟨T23, L23, k23, n23⟩, -, X23, ⟨Lc23, hQ23, l23, y23, z23⟩, st23⟩ := X9.virtualBack hx (y := (⟨"com/example/flok/flok/geo/Box", "equals", "(Ljava/lang/Object;)Z"⟩ : MethodName)) (z := (⟨"com/example/flok/flok/geo/Box", "equals", "(Ljava/lang/Object;)Z"⟩ : MethodName)) hown (mvT hZ (hw _ (List.mem_of_getElem? (i := 46) rfl))) (mvT hZ (hw _ (List.mem_of_getElem? (i := 47) rfl))) (notFace_of_selects (args := #[]) (mvT hZ (hw _ (List.mem_of_getElem? (i := 49) rfl)))) (mvT hZ (hw _ (List.mem_of_getElem? (i := 49) rfl))) (mvT hZ (hw _ (List.mem_of_getElem? (i := 48) rfl))) (by decide) (backOf (W := 0) (rm7 l Z a0 hw [] b1 b5 (FP.i2d gw1) (FP.i2d gs1) (FP.i2d ge1) (FP.i2d gn1) (FP.i2d gw2) (FP.i2d gs2) (FP.i2d ge2) (FP.i2d gn2) T9.heap n0 z10 (((FF3_0.ext E5).keep KK7 (ninS ne_b1_b5 nin0)).keep KK9 nin0) (((FF3_1.ext E5).keep KK7 (ninS ne_b1_b5 nin0)).keep KK9 nin0) (((FF3_2.ext E5).keep KK7 (ninS ne_b1_b5 nin0)).keep KK9 nin0) (((FF3_3.ext E5).keep KK7 (ninS ne_b1_b5 nin0)).keep KK9 nin0) (FF7_0.keep KK9 nin0) (FF7_1.keep KK9 nin0) (FF7_2.keep KK9 nin0) (FF7_3.keep KK9 nin0) ((A5.keep KK7).keep KK9)) hZ (hw _ (List.mem_of_getElem? (i := 50) rfl)) (hw _ (List.mem_of_getElem? (i := 3) rfl)) (by decide) (by decide)) qa23 qc23 (g := (mkF m 291 #[.val (.int p0), .val (.int p1), .val (.int p2), .val (.int p3), .val (.int p4), .val (.int p5), .val (.int gw1), .val (.int gs1), .val (.int ge1), .val (.int gn1), .val (.int al), .val (.int gw2), .val (.int gs2), .val (.int ge2), .val (.int gn2), .val (.ref b1), .val (.ref b5), .val (.ref b9), .val (.int md), .val (.int (0 : Int32))] [(.ref b5), (.ref b1)])) rfl (by rw [hml]; rfl) (Steps.refl _) (argsL := [(.ref b5)]) (rest := []) (lenOf pd6 rfl) rfl (by show 2 * 0 + _ ≤ _; exact Nat.le_of_eq rfl) (hb hby at_291) (fun _ _ => ⟨rfl, rfl, (by decide : 19 + 0 ≤ _), (by decide : 185 + 0 ≤ _)⟩)
                        dsimp only [Pt.U, Pt.locs, Pt.cells, Pt.slots] at X23 l23 y23 z23 st23 hQ23
                        rw [l23, y23, z23] at X23
                        obtain ⟨rfl, N23q, e23⟩ := hQ23
                        have N23 := Fr.app N9 N23q
                        refine DnW.by (U' := T23.setTop (mkF m 294 #[.val (.int p0), .val (.int p1), .val (.int p2), .val (.int p3), .val (.int p4), .val (.int p5), .val (.int gw1), .val (.int gs1), .val (.int ge1), .val (.int gn1), .val (.int al), .val (.int gw2), .val (.int gs2), .val (.int ge2), .val (.int gn2), .val (.ref b1), .val (.ref b5), .val (.ref b9), .val (.int md), .val (.int (0 : Int32))] [(.int (eqB b1 b5 (FP.i2d gw1) (FP.i2d gs1) (FP.i2d ge1) (FP.i2d gn1) (FP.i2d gw2) (FP.i2d gs2) (FP.i2d ge2) (FP.i2d gn2)))])) (fun _ ks => st23.trans ks) ?_
                        refine DnW.by (U' := T23.setTop (mkF m 296 #[.val (.int p0), .val (.int p1), .val (.int p2), .val (.int p3), .val (.int p4), .val (.int p5), .val (.int gw1), .val (.int gs1), .val (.int ge1), .val (.int gn1), .val (.int al), .val (.int gw2), .val (.int gs2), .val (.int ge2), .val (.int gn2), .val (.ref b1), .val (.ref b5), .val (.ref b9), .val (.int md), .val (.int (0 : Int32))] [(.int (0 : Int32)), (.int (eqB b1 b5 (FP.i2d gw1) (FP.i2d gs1) (FP.i2d ge1) (FP.i2d gn1) (FP.i2d gw2) (FP.i2d gs2) (FP.i2d ge2) (FP.i2d gn2)))])) (fun _ ks => XS.iload X23.here hx rfl (hb hby at_294) rfl ks) ?_
                        refine DnW.by (U' := T23.setTop (mkF m 299 #[.val (.int p0), .val (.int p1), .val (.int p2), .val (.int p3), .val (.int p4), .val (.int p5), .val (.int gw1), .val (.int gs1), .val (.int ge1), .val (.int gn1), .val (.int al), .val (.int gw2), .val (.int gs2), .val (.int ge2), .val (.int gn2), .val (.ref b1), .val (.ref b5), .val (.ref b9), .val (.int md), .val (.int (0 : Int32))] [])) (fun _ ks => XS.icmpNo X23.here hx rfl (hb hby at_296) rfl (teq ((own_eqB _ _ _ _ _ _ _ _ _ _).trans (if_neg (fun q => c277_20 q.2.2.2)))).2 ks) ?_
                        refine DnW.by (U' := T23.setTop (mkF m 301 #[.val (.int p0), .val (.int p1), .val (.int p2), .val (.int p3), .val (.int p4), .val (.int p5), .val (.int gw1), .val (.int gs1), .val (.int ge1), .val (.int gn1), .val (.int al), .val (.int gw2), .val (.int gs2), .val (.int ge2), .val (.int gn2), .val (.ref b1), .val (.ref b5), .val (.ref b9), .val (.int md), .val (.int (0 : Int32))] [(.ref b5)])) (fun _ ks => XS.aload X23.here hx rfl (hb hby at_299) rfl rfl ks) ?_
                        refine DnW.by (U' := T23.setTop (mkF m 303 #[.val (.int p0), .val (.int p1), .val (.int p2), .val (.int p3), .val (.int p4), .val (.int p5), .val (.int gw1), .val (.int gs1), .val (.int ge1), .val (.int gn1), .val (.int al), .val (.int gw2), .val (.int gs2), .val (.int ge2), .val (.int gn2), .val (.ref b1), .val (.ref b5), .val (.ref b9), .val (.int md), .val (.int (0 : Int32))] [(.ref b1), (.ref b5)])) (fun _ ks => XS.aload X23.here hx rfl (hb hby at_301) rfl rfl ks) ?_
                        obtain ⟨cq24, kq24, qa24, qb24, qc24⟩ := isOf hZ e23 ((A5.keep KK7).keep KK9)
                        obtain ⟨_, _, ⟨T24, L24, k24, n24⟩, -, X24, ⟨Lc24, hQ24, l24, y24, z24⟩, st24⟩ := X23.virtualBack hx (y := (⟨"com/example/flok/flok/geo/Box", "equals", "(Ljava/lang/Object;)Z"⟩ : MethodName)) (z := (⟨"com/example/flok/flok/geo/Box", "equals", "(Ljava/lang/Object;)Z"⟩ : MethodName)) hown (mvT hZ (hw _ (List.mem_of_getElem? (i := 46) rfl))) (mvT hZ (hw _ (List.mem_of_getElem? (i := 47) rfl))) (notFace_of_selects (args := #[]) (mvT hZ (hw _ (List.mem_of_getElem? (i := 49) rfl)))) (mvT hZ (hw _ (List.mem_of_getElem? (i := 49) rfl))) (mvT hZ (hw _ (List.mem_of_getElem? (i := 48) rfl))) (by decide) (backOf (W := 0) (rm7 l Z a0 hw [] b5 b1 (FP.i2d gw2) (FP.i2d gs2) (FP.i2d ge2) (FP.i2d gn2) (FP.i2d gw1) (FP.i2d gs1) (FP.i2d ge1) (FP.i2d gn1) T9.heap n0 z10 (FF7_0.keep KK9 nin0) (FF7_1.keep KK9 nin0) (FF7_2.keep KK9 nin0) (FF7_3.keep KK9 nin0) (((FF3_0.ext E5).keep KK7 (ninS ne_b1_b5 nin0)).keep KK9 nin0) (((FF3_1.ext E5).keep KK7 (ninS ne_b1_b5 nin0)).keep KK9 nin0) (((FF3_2.ext E5).keep KK7 (ninS ne_b1_b5 nin0)).keep KK9 nin0) (((FF3_3.ext E5).keep KK7 (ninS ne_b1_b5 nin0)).keep KK9 nin0) ((((A1.keep KK3).ext E5).keep KK7).keep KK9)) hZ (hw _ (List.mem_of_getElem? (i := 50) rfl)) (hw _ (List.mem_of_getElem? (i := 3) rfl)) (by decide) (by decide)) qa24 qc24 (g := (mkF m 303 #[.val (.int p0), .val (.int p1), .val (.int p2), .val (.int p3), .val (.int p4), .val (.int p5), .val (.int gw1), .val (.int gs1), .val (.int ge1), .val (.int gn1), .val (.int al), .val (.int gw2), .val (.int gs2), .val (.int ge2), .val (.int gn2), .val (.ref b1), .val (.ref b5), .val (.ref b9), .val (.int md), .val (.int (0 : Int32))] [(.ref b1), (.ref b5)])) rfl (by rw [hml]; rfl) (Steps.refl _) (argsL := [(.ref b1)]) (rest := []) (lenOf pd6 rfl) rfl (by show 2 * 0 + _ ≤ _; exact Nat.le_of_eq rfl) (hb hby at_303) (fun _ _ => ⟨rfl, e23, (by decide : 19 + 0 ≤ _), (by decide : 185 + 0 ≤ _)⟩)
                        dsimp only [Pt.U, Pt.locs, Pt.cells, Pt.slots] at X24 l24 y24 z24 st24 hQ24
                        rw [l24, y24, z24] at X24
                        obtain ⟨rfl, N24q, e24⟩ := hQ24
                        have N24 := Fr.app N23 N24q
                        refine DnW.by (U' := T24.setTop (mkF m 306 #[.val (.int p0), .val (.int p1), .val (.int p2), .val (.int p3), .val (.int p4), .val (.int p5), .val (.int gw1), .val (.int gs1), .val (.int ge1), .val (.int gn1), .val (.int al), .val (.int gw2), .val (.int gs2), .val (.int ge2), .val (.int gn2), .val (.ref b1), .val (.ref b5), .val (.ref b9), .val (.int md), .val (.int (0 : Int32))] [(.int (eqB b5 b1 (FP.i2d gw2) (FP.i2d gs2) (FP.i2d ge2) (FP.i2d gn2) (FP.i2d gw1) (FP.i2d gs1) (FP.i2d ge1) (FP.i2d gn1)))])) (fun _ ks => st24.trans ks) ?_
                        refine DnW.by (U' := T24.setTop (mkF m 308 #[.val (.int p0), .val (.int p1), .val (.int p2), .val (.int p3), .val (.int p4), .val (.int p5), .val (.int gw1), .val (.int gs1), .val (.int ge1), .val (.int gn1), .val (.int al), .val (.int gw2), .val (.int gs2), .val (.int ge2), .val (.int gn2), .val (.ref b1), .val (.ref b5), .val (.ref b9), .val (.int md), .val (.int (0 : Int32))] [(.int (0 : Int32)), (.int (eqB b5 b1 (FP.i2d gw2) (FP.i2d gs2) (FP.i2d ge2) (FP.i2d gn2) (FP.i2d gw1) (FP.i2d gs1) (FP.i2d ge1) (FP.i2d gn1)))])) (fun _ ks => XS.iload X24.here hx rfl (hb hby at_306) rfl ks) ?_
                        refine DnW.by (U' := T24.setTop (mkF m 311 #[.val (.int p0), .val (.int p1), .val (.int p2), .val (.int p3), .val (.int p4), .val (.int p5), .val (.int gw1), .val (.int gs1), .val (.int ge1), .val (.int gn1), .val (.int al), .val (.int gw2), .val (.int gs2), .val (.int ge2), .val (.int gn2), .val (.ref b1), .val (.ref b5), .val (.ref b9), .val (.int md), .val (.int (0 : Int32))] [])) (fun _ ks => XS.icmpNo X24.here hx rfl (hb hby at_308) rfl (teq ((own_eqB _ _ _ _ _ _ _ _ _ _).trans (if_neg (fun q => c277_20 q.2.2.2.symm)))).2 ks) ?_
                        refine DnW.by (U' := T24.setTop (mkF m 312 #[.val (.int p0), .val (.int p1), .val (.int p2), .val (.int p3), .val (.int p4), .val (.int p5), .val (.int gw1), .val (.int gs1), .val (.int ge1), .val (.int gn1), .val (.int al), .val (.int gw2), .val (.int gs2), .val (.int ge2), .val (.int gn2), .val (.ref b1), .val (.ref b5), .val (.ref b9), .val (.int md), .val (.int (0 : Int32))] [(.int (1 : Int32))])) (fun _ ks => XS.iconst X24.here hx rfl (hb hby at_311)  ks) ?_
                        refine DnW.by (U' := T24.setTop (mkF m 316 #[.val (.int p0), .val (.int p1), .val (.int p2), .val (.int p3), .val (.int p4), .val (.int p5), .val (.int gw1), .val (.int gs1), .val (.int ge1), .val (.int gn1), .val (.int al), .val (.int gw2), .val (.int gs2), .val (.int ge2), .val (.int gn2), .val (.ref b1), .val (.ref b5), .val (.ref b9), .val (.int md), .val (.int (0 : Int32))] [(.int (1 : Int32))])) (fun _ ks => XS.goto X24.here hx rfl (pc0 := 312) (pc' := 316) rfl (hb hby at_312) (by decide) (by decide) ks) ?_
                        refine DnW.out X24 hS7 (by rw [e24]; exact hk10) (v := (some (.int (1 : Int32)))) (fun h => by rw [Bd.returns] at h; cases h) (BodyLoose.notSynchronized Bd) (fun _ hr => retN X24 hx (t := .boolean) Bd.returns (by simp) (hb hby at_316) hr) (by decide) (by decide) ?_ ?_
                        · rw [e24]; exact ⟨rfl, N24⟩
                        · rw [hh, e24]; exact C10.trans (CHv.at X24 hZ hEL C10.1)
                    ·
                      refine DnW.by (U' := T9.setTop (mkF m 284 #[.val (.int p0), .val (.int p1), .val (.int p2), .val (.int p3), .val (.int p4), .val (.int p5), .val (.int gw1), .val (.int gs1), .val (.int ge1), .val (.int gn1), .val (.int al), .val (.int gw2), .val (.int gs2), .val (.int ge2), .val (.int gn2), .val (.ref b1), .val (.ref b5), .val (.ref b9), .val (.int md), .unset] [])) (fun _ ks => XS.icmpYes X9.here hx rfl (pc0 := 270) (pc' := 284) rfl (hb hby at_270) rfl (feq c270_19).2 (by decide) (by decide) ks) ?_
                      refine DnW.by (U' := T9.setTop (mkF m 285 #[.val (.int p0), .val (.int p1), .val (.int p2), .val (.int p3), .val (.int p4), .val (.int p5), .val (.int gw1), .val (.int gs1), .val (.int ge1), .val (.int gn1), .val (.int al), .val (.int gw2), .val (.int gs2), .val (.int ge2), .val (.int gn2), .val (.ref b1), .val (.ref b5), .val (.ref b9), .val (.int md), .unset] [(.int (0 : Int32))])) (fun _ ks => XS.iconst X9.here hx rfl (hb hby at_284)  ks) ?_
                      refine DnW.by (U' := T9.setTop (mkF m 287 #[.val (.int p0), .val (.int p1), .val (.int p2), .val (.int p3), .val (.int p4), .val (.int p5), .val (.int gw1), .val (.int gs1), .val (.int ge1), .val (.int gn1), .val (.int al), .val (.int gw2), .val (.int gs2), .val (.int ge2), .val (.int gn2), .val (.ref b1), .val (.ref b5), .val (.ref b9), .val (.int md), .val (.int (0 : Int32))] [])) (fun _ ks => XS.istore X9.here hx rfl (hb hby at_285) rfl (l' := #[.val (.int p0), .val (.int p1), .val (.int p2), .val (.int p3), .val (.int p4), .val (.int p5), .val (.int gw1), .val (.int gs1), .val (.int ge1), .val (.int gn1), .val (.int al), .val (.int gw2), .val (.int gs2), .val (.int ge2), .val (.int gn2), .val (.ref b1), .val (.ref b5), .val (.ref b9), .val (.int md), .val (.int (0 : Int32))]) rfl ks) ?_
                      refine DnW.by (U' := T9.setTop (mkF m 289 #[.val (.int p0), .val (.int p1), .val (.int p2), .val (.int p3), .val (.int p4), .val (.int p5), .val (.int gw1), .val (.int gs1), .val (.int ge1), .val (.int gn1), .val (.int al), .val (.int gw2), .val (.int gs2), .val (.int ge2), .val (.int gn2), .val (.ref b1), .val (.ref b5), .val (.ref b9), .val (.int md), .val (.int (0 : Int32))] [(.ref b1)])) (fun _ ks => XS.aload X9.here hx rfl (hb hby at_287) rfl rfl ks) ?_
                      refine DnW.by (U' := T9.setTop (mkF m 291 #[.val (.int p0), .val (.int p1), .val (.int p2), .val (.int p3), .val (.int p4), .val (.int p5), .val (.int gw1), .val (.int gs1), .val (.int ge1), .val (.int gn1), .val (.int al), .val (.int gw2), .val (.int gs2), .val (.int ge2), .val (.int gn2), .val (.ref b1), .val (.ref b5), .val (.ref b9), .val (.int md), .val (.int (0 : Int32))] [(.ref b5), (.ref b1)])) (fun _ ks => XS.aload X9.here hx rfl (hb hby at_289) rfl rfl ks) ?_
                      obtain ⟨cq25, kq25, qa25, qb25, qc25⟩ := isOf hZ rfl ((((A1.keep KK3).ext E5).keep KK7).keep KK9)
                      obtain ⟨_, _, ⟨T25, L25, k25, n25⟩, -, X25, ⟨Lc25, hQ25, l25, y25, z25⟩, st25⟩ := X9.virtualBack hx (y := (⟨"com/example/flok/flok/geo/Box", "equals", "(Ljava/lang/Object;)Z"⟩ : MethodName)) (z := (⟨"com/example/flok/flok/geo/Box", "equals", "(Ljava/lang/Object;)Z"⟩ : MethodName)) hown (mvT hZ (hw _ (List.mem_of_getElem? (i := 46) rfl))) (mvT hZ (hw _ (List.mem_of_getElem? (i := 47) rfl))) (notFace_of_selects (args := #[]) (mvT hZ (hw _ (List.mem_of_getElem? (i := 49) rfl)))) (mvT hZ (hw _ (List.mem_of_getElem? (i := 49) rfl))) (mvT hZ (hw _ (List.mem_of_getElem? (i := 48) rfl))) (by decide) (backOf (W := 0) (rm7 l Z a0 hw [] b1 b5 (FP.i2d gw1) (FP.i2d gs1) (FP.i2d ge1) (FP.i2d gn1) (FP.i2d gw2) (FP.i2d gs2) (FP.i2d ge2) (FP.i2d gn2) T9.heap n0 z10 (((FF3_0.ext E5).keep KK7 (ninS ne_b1_b5 nin0)).keep KK9 nin0) (((FF3_1.ext E5).keep KK7 (ninS ne_b1_b5 nin0)).keep KK9 nin0) (((FF3_2.ext E5).keep KK7 (ninS ne_b1_b5 nin0)).keep KK9 nin0) (((FF3_3.ext E5).keep KK7 (ninS ne_b1_b5 nin0)).keep KK9 nin0) (FF7_0.keep KK9 nin0) (FF7_1.keep KK9 nin0) (FF7_2.keep KK9 nin0) (FF7_3.keep KK9 nin0) ((A5.keep KK7).keep KK9)) hZ (hw _ (List.mem_of_getElem? (i := 50) rfl)) (hw _ (List.mem_of_getElem? (i := 3) rfl)) (by decide) (by decide)) qa25 qc25 (g := (mkF m 291 #[.val (.int p0), .val (.int p1), .val (.int p2), .val (.int p3), .val (.int p4), .val (.int p5), .val (.int gw1), .val (.int gs1), .val (.int ge1), .val (.int gn1), .val (.int al), .val (.int gw2), .val (.int gs2), .val (.int ge2), .val (.int gn2), .val (.ref b1), .val (.ref b5), .val (.ref b9), .val (.int md), .val (.int (0 : Int32))] [(.ref b5), (.ref b1)])) rfl (by rw [hml]; rfl) (Steps.refl _) (argsL := [(.ref b5)]) (rest := []) (lenOf pd6 rfl) rfl (by show 2 * 0 + _ ≤ _; exact Nat.le_of_eq rfl) (hb hby at_291) (fun _ _ => ⟨rfl, rfl, (by decide : 19 + 0 ≤ _), (by decide : 185 + 0 ≤ _)⟩)
                      dsimp only [Pt.U, Pt.locs, Pt.cells, Pt.slots] at X25 l25 y25 z25 st25 hQ25
                      rw [l25, y25, z25] at X25
                      obtain ⟨rfl, N25q, e25⟩ := hQ25
                      have N25 := Fr.app N9 N25q
                      refine DnW.by (U' := T25.setTop (mkF m 294 #[.val (.int p0), .val (.int p1), .val (.int p2), .val (.int p3), .val (.int p4), .val (.int p5), .val (.int gw1), .val (.int gs1), .val (.int ge1), .val (.int gn1), .val (.int al), .val (.int gw2), .val (.int gs2), .val (.int ge2), .val (.int gn2), .val (.ref b1), .val (.ref b5), .val (.ref b9), .val (.int md), .val (.int (0 : Int32))] [(.int (eqB b1 b5 (FP.i2d gw1) (FP.i2d gs1) (FP.i2d ge1) (FP.i2d gn1) (FP.i2d gw2) (FP.i2d gs2) (FP.i2d ge2) (FP.i2d gn2)))])) (fun _ ks => st25.trans ks) ?_
                      refine DnW.by (U' := T25.setTop (mkF m 296 #[.val (.int p0), .val (.int p1), .val (.int p2), .val (.int p3), .val (.int p4), .val (.int p5), .val (.int gw1), .val (.int gs1), .val (.int ge1), .val (.int gn1), .val (.int al), .val (.int gw2), .val (.int gs2), .val (.int ge2), .val (.int gn2), .val (.ref b1), .val (.ref b5), .val (.ref b9), .val (.int md), .val (.int (0 : Int32))] [(.int (0 : Int32)), (.int (eqB b1 b5 (FP.i2d gw1) (FP.i2d gs1) (FP.i2d ge1) (FP.i2d gn1) (FP.i2d gw2) (FP.i2d gs2) (FP.i2d ge2) (FP.i2d gn2)))])) (fun _ ks => XS.iload X25.here hx rfl (hb hby at_294) rfl ks) ?_
                      refine DnW.by (U' := T25.setTop (mkF m 299 #[.val (.int p0), .val (.int p1), .val (.int p2), .val (.int p3), .val (.int p4), .val (.int p5), .val (.int gw1), .val (.int gs1), .val (.int ge1), .val (.int gn1), .val (.int al), .val (.int gw2), .val (.int gs2), .val (.int ge2), .val (.int gn2), .val (.ref b1), .val (.ref b5), .val (.ref b9), .val (.int md), .val (.int (0 : Int32))] [])) (fun _ ks => XS.icmpNo X25.here hx rfl (hb hby at_296) rfl (teq ((own_eqB _ _ _ _ _ _ _ _ _ _).trans (if_neg (fun q => c270_19 q.2.2.1)))).2 ks) ?_
                      refine DnW.by (U' := T25.setTop (mkF m 301 #[.val (.int p0), .val (.int p1), .val (.int p2), .val (.int p3), .val (.int p4), .val (.int p5), .val (.int gw1), .val (.int gs1), .val (.int ge1), .val (.int gn1), .val (.int al), .val (.int gw2), .val (.int gs2), .val (.int ge2), .val (.int gn2), .val (.ref b1), .val (.ref b5), .val (.ref b9), .val (.int md), .val (.int (0 : Int32))] [(.ref b5)])) (fun _ ks => XS.aload X25.here hx rfl (hb hby at_299) rfl rfl ks) ?_
                      refine DnW.by (U' := T25.setTop (mkF m 303 #[.val (.int p0), .val (.int p1), .val (.int p2), .val (.int p3), .val (.int p4), .val (.int p5), .val (.int gw1), .val (.int gs1), .val (.int ge1), .val (.int gn1), .val (.int al), .val (.int gw2), .val (.int gs2), .val (.int ge2), .val (.int gn2), .val (.ref b1), .val (.ref b5), .val (.ref b9), .val (.int md), .val (.int (0 : Int32))] [(.ref b1), (.ref b5)])) (fun _ ks => XS.aload X25.here hx rfl (hb hby at_301) rfl rfl ks) ?_
                      obtain ⟨cq26, kq26, qa26, qb26, qc26⟩ := isOf hZ e25 ((A5.keep KK7).keep KK9)
                      obtain ⟨_, _, ⟨T26, L26, k26, n26⟩, -, X26, ⟨Lc26, hQ26, l26, y26, z26⟩, st26⟩ := X25.virtualBack hx (y := (⟨"com/example/flok/flok/geo/Box", "equals", "(Ljava/lang/Object;)Z"⟩ : MethodName)) (z := (⟨"com/example/flok/flok/geo/Box", "equals", "(Ljava/lang/Object;)Z"⟩ : MethodName)) hown (mvT hZ (hw _ (List.mem_of_getElem? (i := 46) rfl))) (mvT hZ (hw _ (List.mem_of_getElem? (i := 47) rfl))) (notFace_of_selects (args := #[]) (mvT hZ (hw _ (List.mem_of_getElem? (i := 49) rfl)))) (mvT hZ (hw _ (List.mem_of_getElem? (i := 49) rfl))) (mvT hZ (hw _ (List.mem_of_getElem? (i := 48) rfl))) (by decide) (backOf (W := 0) (rm7 l Z a0 hw [] b5 b1 (FP.i2d gw2) (FP.i2d gs2) (FP.i2d ge2) (FP.i2d gn2) (FP.i2d gw1) (FP.i2d gs1) (FP.i2d ge1) (FP.i2d gn1) T9.heap n0 z10 (FF7_0.keep KK9 nin0) (FF7_1.keep KK9 nin0) (FF7_2.keep KK9 nin0) (FF7_3.keep KK9 nin0) (((FF3_0.ext E5).keep KK7 (ninS ne_b1_b5 nin0)).keep KK9 nin0) (((FF3_1.ext E5).keep KK7 (ninS ne_b1_b5 nin0)).keep KK9 nin0) (((FF3_2.ext E5).keep KK7 (ninS ne_b1_b5 nin0)).keep KK9 nin0) (((FF3_3.ext E5).keep KK7 (ninS ne_b1_b5 nin0)).keep KK9 nin0) ((((A1.keep KK3).ext E5).keep KK7).keep KK9)) hZ (hw _ (List.mem_of_getElem? (i := 50) rfl)) (hw _ (List.mem_of_getElem? (i := 3) rfl)) (by decide) (by decide)) qa26 qc26 (g := (mkF m 303 #[.val (.int p0), .val (.int p1), .val (.int p2), .val (.int p3), .val (.int p4), .val (.int p5), .val (.int gw1), .val (.int gs1), .val (.int ge1), .val (.int gn1), .val (.int al), .val (.int gw2), .val (.int gs2), .val (.int ge2), .val (.int gn2), .val (.ref b1), .val (.ref b5), .val (.ref b9), .val (.int md), .val (.int (0 : Int32))] [(.ref b1), (.ref b5)])) rfl (by rw [hml]; rfl) (Steps.refl _) (argsL := [(.ref b1)]) (rest := []) (lenOf pd6 rfl) rfl (by show 2 * 0 + _ ≤ _; exact Nat.le_of_eq rfl) (hb hby at_303) (fun _ _ => ⟨rfl, e25, (by decide : 19 + 0 ≤ _), (by decide : 185 + 0 ≤ _)⟩)
                      dsimp only [Pt.U, Pt.locs, Pt.cells, Pt.slots] at X26 l26 y26 z26 st26 hQ26
                      rw [l26, y26, z26] at X26
                      obtain ⟨rfl, N26q, e26⟩ := hQ26
                      have N26 := Fr.app N25 N26q
                      refine DnW.by (U' := T26.setTop (mkF m 306 #[.val (.int p0), .val (.int p1), .val (.int p2), .val (.int p3), .val (.int p4), .val (.int p5), .val (.int gw1), .val (.int gs1), .val (.int ge1), .val (.int gn1), .val (.int al), .val (.int gw2), .val (.int gs2), .val (.int ge2), .val (.int gn2), .val (.ref b1), .val (.ref b5), .val (.ref b9), .val (.int md), .val (.int (0 : Int32))] [(.int (eqB b5 b1 (FP.i2d gw2) (FP.i2d gs2) (FP.i2d ge2) (FP.i2d gn2) (FP.i2d gw1) (FP.i2d gs1) (FP.i2d ge1) (FP.i2d gn1)))])) (fun _ ks => st26.trans ks) ?_
                      refine DnW.by (U' := T26.setTop (mkF m 308 #[.val (.int p0), .val (.int p1), .val (.int p2), .val (.int p3), .val (.int p4), .val (.int p5), .val (.int gw1), .val (.int gs1), .val (.int ge1), .val (.int gn1), .val (.int al), .val (.int gw2), .val (.int gs2), .val (.int ge2), .val (.int gn2), .val (.ref b1), .val (.ref b5), .val (.ref b9), .val (.int md), .val (.int (0 : Int32))] [(.int (0 : Int32)), (.int (eqB b5 b1 (FP.i2d gw2) (FP.i2d gs2) (FP.i2d ge2) (FP.i2d gn2) (FP.i2d gw1) (FP.i2d gs1) (FP.i2d ge1) (FP.i2d gn1)))])) (fun _ ks => XS.iload X26.here hx rfl (hb hby at_306) rfl ks) ?_
                      refine DnW.by (U' := T26.setTop (mkF m 311 #[.val (.int p0), .val (.int p1), .val (.int p2), .val (.int p3), .val (.int p4), .val (.int p5), .val (.int gw1), .val (.int gs1), .val (.int ge1), .val (.int gn1), .val (.int al), .val (.int gw2), .val (.int gs2), .val (.int ge2), .val (.int gn2), .val (.ref b1), .val (.ref b5), .val (.ref b9), .val (.int md), .val (.int (0 : Int32))] [])) (fun _ ks => XS.icmpNo X26.here hx rfl (hb hby at_308) rfl (teq ((own_eqB _ _ _ _ _ _ _ _ _ _).trans (if_neg (fun q => c270_19 q.2.2.1.symm)))).2 ks) ?_
                      refine DnW.by (U' := T26.setTop (mkF m 312 #[.val (.int p0), .val (.int p1), .val (.int p2), .val (.int p3), .val (.int p4), .val (.int p5), .val (.int gw1), .val (.int gs1), .val (.int ge1), .val (.int gn1), .val (.int al), .val (.int gw2), .val (.int gs2), .val (.int ge2), .val (.int gn2), .val (.ref b1), .val (.ref b5), .val (.ref b9), .val (.int md), .val (.int (0 : Int32))] [(.int (1 : Int32))])) (fun _ ks => XS.iconst X26.here hx rfl (hb hby at_311)  ks) ?_
                      refine DnW.by (U' := T26.setTop (mkF m 316 #[.val (.int p0), .val (.int p1), .val (.int p2), .val (.int p3), .val (.int p4), .val (.int p5), .val (.int gw1), .val (.int gs1), .val (.int ge1), .val (.int gn1), .val (.int al), .val (.int gw2), .val (.int gs2), .val (.int ge2), .val (.int gn2), .val (.ref b1), .val (.ref b5), .val (.ref b9), .val (.int md), .val (.int (0 : Int32))] [(.int (1 : Int32))])) (fun _ ks => XS.goto X26.here hx rfl (pc0 := 312) (pc' := 316) rfl (hb hby at_312) (by decide) (by decide) ks) ?_
                      refine DnW.out X26 hS7 (by rw [e26]; exact hk10) (v := (some (.int (1 : Int32)))) (fun h => by rw [Bd.returns] at h; cases h) (BodyLoose.notSynchronized Bd) (fun _ hr => retN X26 hx (t := .boolean) Bd.returns (by simp) (hb hby at_316) hr) (by decide) (by decide) ?_ ?_
                      · rw [e26]; exact ⟨rfl, N26⟩
                      · rw [hh, e26]; exact C10.trans (CHv.at X26 hZ hEL C10.1)
                  ·
                    refine DnW.by (U' := T9.setTop (mkF m 284 #[.val (.int p0), .val (.int p1), .val (.int p2), .val (.int p3), .val (.int p4), .val (.int p5), .val (.int gw1), .val (.int gs1), .val (.int ge1), .val (.int gn1), .val (.int al), .val (.int gw2), .val (.int gs2), .val (.int ge2), .val (.int gn2), .val (.ref b1), .val (.ref b5), .val (.ref b9), .val (.int md), .unset] [])) (fun _ ks => XS.icmpYes X9.here hx rfl (pc0 := 263) (pc' := 284) rfl (hb hby at_263) rfl (feq c263_18).2 (by decide) (by decide) ks) ?_
                    refine DnW.by (U' := T9.setTop (mkF m 285 #[.val (.int p0), .val (.int p1), .val (.int p2), .val (.int p3), .val (.int p4), .val (.int p5), .val (.int gw1), .val (.int gs1), .val (.int ge1), .val (.int gn1), .val (.int al), .val (.int gw2), .val (.int gs2), .val (.int ge2), .val (.int gn2), .val (.ref b1), .val (.ref b5), .val (.ref b9), .val (.int md), .unset] [(.int (0 : Int32))])) (fun _ ks => XS.iconst X9.here hx rfl (hb hby at_284)  ks) ?_
                    refine DnW.by (U' := T9.setTop (mkF m 287 #[.val (.int p0), .val (.int p1), .val (.int p2), .val (.int p3), .val (.int p4), .val (.int p5), .val (.int gw1), .val (.int gs1), .val (.int ge1), .val (.int gn1), .val (.int al), .val (.int gw2), .val (.int gs2), .val (.int ge2), .val (.int gn2), .val (.ref b1), .val (.ref b5), .val (.ref b9), .val (.int md), .val (.int (0 : Int32))] [])) (fun _ ks => XS.istore X9.here hx rfl (hb hby at_285) rfl (l' := #[.val (.int p0), .val (.int p1), .val (.int p2), .val (.int p3), .val (.int p4), .val (.int p5), .val (.int gw1), .val (.int gs1), .val (.int ge1), .val (.int gn1), .val (.int al), .val (.int gw2), .val (.int gs2), .val (.int ge2), .val (.int gn2), .val (.ref b1), .val (.ref b5), .val (.ref b9), .val (.int md), .val (.int (0 : Int32))]) rfl ks) ?_
                    refine DnW.by (U' := T9.setTop (mkF m 289 #[.val (.int p0), .val (.int p1), .val (.int p2), .val (.int p3), .val (.int p4), .val (.int p5), .val (.int gw1), .val (.int gs1), .val (.int ge1), .val (.int gn1), .val (.int al), .val (.int gw2), .val (.int gs2), .val (.int ge2), .val (.int gn2), .val (.ref b1), .val (.ref b5), .val (.ref b9), .val (.int md), .val (.int (0 : Int32))] [(.ref b1)])) (fun _ ks => XS.aload X9.here hx rfl (hb hby at_287) rfl rfl ks) ?_
                    refine DnW.by (U' := T9.setTop (mkF m 291 #[.val (.int p0), .val (.int p1), .val (.int p2), .val (.int p3), .val (.int p4), .val (.int p5), .val (.int gw1), .val (.int gs1), .val (.int ge1), .val (.int gn1), .val (.int al), .val (.int gw2), .val (.int gs2), .val (.int ge2), .val (.int gn2), .val (.ref b1), .val (.ref b5), .val (.ref b9), .val (.int md), .val (.int (0 : Int32))] [(.ref b5), (.ref b1)])) (fun _ ks => XS.aload X9.here hx rfl (hb hby at_289) rfl rfl ks) ?_
                    obtain ⟨cq27, kq27, qa27, qb27, qc27⟩ := isOf hZ rfl ((((A1.keep KK3).ext E5).keep KK7).keep KK9)
                    obtain ⟨_, _, ⟨T27, L27, k27, n27⟩, -, X27, ⟨Lc27, hQ27, l27, y27, z27⟩, st27⟩ := X9.virtualBack hx (y := (⟨"com/example/flok/flok/geo/Box", "equals", "(Ljava/lang/Object;)Z"⟩ : MethodName)) (z := (⟨"com/example/flok/flok/geo/Box", "equals", "(Ljava/lang/Object;)Z"⟩ : MethodName)) hown (mvT hZ (hw _ (List.mem_of_getElem? (i := 46) rfl))) (mvT hZ (hw _ (List.mem_of_getElem? (i := 47) rfl))) (notFace_of_selects (args := #[]) (mvT hZ (hw _ (List.mem_of_getElem? (i := 49) rfl)))) (mvT hZ (hw _ (List.mem_of_getElem? (i := 49) rfl))) (mvT hZ (hw _ (List.mem_of_getElem? (i := 48) rfl))) (by decide) (backOf (W := 0) (rm7 l Z a0 hw [] b1 b5 (FP.i2d gw1) (FP.i2d gs1) (FP.i2d ge1) (FP.i2d gn1) (FP.i2d gw2) (FP.i2d gs2) (FP.i2d ge2) (FP.i2d gn2) T9.heap n0 z10 (((FF3_0.ext E5).keep KK7 (ninS ne_b1_b5 nin0)).keep KK9 nin0) (((FF3_1.ext E5).keep KK7 (ninS ne_b1_b5 nin0)).keep KK9 nin0) (((FF3_2.ext E5).keep KK7 (ninS ne_b1_b5 nin0)).keep KK9 nin0) (((FF3_3.ext E5).keep KK7 (ninS ne_b1_b5 nin0)).keep KK9 nin0) (FF7_0.keep KK9 nin0) (FF7_1.keep KK9 nin0) (FF7_2.keep KK9 nin0) (FF7_3.keep KK9 nin0) ((A5.keep KK7).keep KK9)) hZ (hw _ (List.mem_of_getElem? (i := 50) rfl)) (hw _ (List.mem_of_getElem? (i := 3) rfl)) (by decide) (by decide)) qa27 qc27 (g := (mkF m 291 #[.val (.int p0), .val (.int p1), .val (.int p2), .val (.int p3), .val (.int p4), .val (.int p5), .val (.int gw1), .val (.int gs1), .val (.int ge1), .val (.int gn1), .val (.int al), .val (.int gw2), .val (.int gs2), .val (.int ge2), .val (.int gn2), .val (.ref b1), .val (.ref b5), .val (.ref b9), .val (.int md), .val (.int (0 : Int32))] [(.ref b5), (.ref b1)])) rfl (by rw [hml]; rfl) (Steps.refl _) (argsL := [(.ref b5)]) (rest := []) (lenOf pd6 rfl) rfl (by show 2 * 0 + _ ≤ _; exact Nat.le_of_eq rfl) (hb hby at_291) (fun _ _ => ⟨rfl, rfl, (by decide : 19 + 0 ≤ _), (by decide : 185 + 0 ≤ _)⟩)
                    dsimp only [Pt.U, Pt.locs, Pt.cells, Pt.slots] at X27 l27 y27 z27 st27 hQ27
                    rw [l27, y27, z27] at X27
                    obtain ⟨rfl, N27q, e27⟩ := hQ27
                    have N27 := Fr.app N9 N27q
                    refine DnW.by (U' := T27.setTop (mkF m 294 #[.val (.int p0), .val (.int p1), .val (.int p2), .val (.int p3), .val (.int p4), .val (.int p5), .val (.int gw1), .val (.int gs1), .val (.int ge1), .val (.int gn1), .val (.int al), .val (.int gw2), .val (.int gs2), .val (.int ge2), .val (.int gn2), .val (.ref b1), .val (.ref b5), .val (.ref b9), .val (.int md), .val (.int (0 : Int32))] [(.int (eqB b1 b5 (FP.i2d gw1) (FP.i2d gs1) (FP.i2d ge1) (FP.i2d gn1) (FP.i2d gw2) (FP.i2d gs2) (FP.i2d ge2) (FP.i2d gn2)))])) (fun _ ks => st27.trans ks) ?_
                    refine DnW.by (U' := T27.setTop (mkF m 296 #[.val (.int p0), .val (.int p1), .val (.int p2), .val (.int p3), .val (.int p4), .val (.int p5), .val (.int gw1), .val (.int gs1), .val (.int ge1), .val (.int gn1), .val (.int al), .val (.int gw2), .val (.int gs2), .val (.int ge2), .val (.int gn2), .val (.ref b1), .val (.ref b5), .val (.ref b9), .val (.int md), .val (.int (0 : Int32))] [(.int (0 : Int32)), (.int (eqB b1 b5 (FP.i2d gw1) (FP.i2d gs1) (FP.i2d ge1) (FP.i2d gn1) (FP.i2d gw2) (FP.i2d gs2) (FP.i2d ge2) (FP.i2d gn2)))])) (fun _ ks => XS.iload X27.here hx rfl (hb hby at_294) rfl ks) ?_
                    refine DnW.by (U' := T27.setTop (mkF m 299 #[.val (.int p0), .val (.int p1), .val (.int p2), .val (.int p3), .val (.int p4), .val (.int p5), .val (.int gw1), .val (.int gs1), .val (.int ge1), .val (.int gn1), .val (.int al), .val (.int gw2), .val (.int gs2), .val (.int ge2), .val (.int gn2), .val (.ref b1), .val (.ref b5), .val (.ref b9), .val (.int md), .val (.int (0 : Int32))] [])) (fun _ ks => XS.icmpNo X27.here hx rfl (hb hby at_296) rfl (teq ((own_eqB _ _ _ _ _ _ _ _ _ _).trans (if_neg (fun q => c263_18 q.2.1)))).2 ks) ?_
                    refine DnW.by (U' := T27.setTop (mkF m 301 #[.val (.int p0), .val (.int p1), .val (.int p2), .val (.int p3), .val (.int p4), .val (.int p5), .val (.int gw1), .val (.int gs1), .val (.int ge1), .val (.int gn1), .val (.int al), .val (.int gw2), .val (.int gs2), .val (.int ge2), .val (.int gn2), .val (.ref b1), .val (.ref b5), .val (.ref b9), .val (.int md), .val (.int (0 : Int32))] [(.ref b5)])) (fun _ ks => XS.aload X27.here hx rfl (hb hby at_299) rfl rfl ks) ?_
                    refine DnW.by (U' := T27.setTop (mkF m 303 #[.val (.int p0), .val (.int p1), .val (.int p2), .val (.int p3), .val (.int p4), .val (.int p5), .val (.int gw1), .val (.int gs1), .val (.int ge1), .val (.int gn1), .val (.int al), .val (.int gw2), .val (.int gs2), .val (.int ge2), .val (.int gn2), .val (.ref b1), .val (.ref b5), .val (.ref b9), .val (.int md), .val (.int (0 : Int32))] [(.ref b1), (.ref b5)])) (fun _ ks => XS.aload X27.here hx rfl (hb hby at_301) rfl rfl ks) ?_
                    obtain ⟨cq28, kq28, qa28, qb28, qc28⟩ := isOf hZ e27 ((A5.keep KK7).keep KK9)
                    obtain ⟨_, _, ⟨T28, L28, k28, n28⟩, -, X28, ⟨Lc28, hQ28, l28, y28, z28⟩, st28⟩ := X27.virtualBack hx (y := (⟨"com/example/flok/flok/geo/Box", "equals", "(Ljava/lang/Object;)Z"⟩ : MethodName)) (z := (⟨"com/example/flok/flok/geo/Box", "equals", "(Ljava/lang/Object;)Z"⟩ : MethodName)) hown (mvT hZ (hw _ (List.mem_of_getElem? (i := 46) rfl))) (mvT hZ (hw _ (List.mem_of_getElem? (i := 47) rfl))) (notFace_of_selects (args := #[]) (mvT hZ (hw _ (List.mem_of_getElem? (i := 49) rfl)))) (mvT hZ (hw _ (List.mem_of_getElem? (i := 49) rfl))) (mvT hZ (hw _ (List.mem_of_getElem? (i := 48) rfl))) (by decide) (backOf (W := 0) (rm7 l Z a0 hw [] b5 b1 (FP.i2d gw2) (FP.i2d gs2) (FP.i2d ge2) (FP.i2d gn2) (FP.i2d gw1) (FP.i2d gs1) (FP.i2d ge1) (FP.i2d gn1) T9.heap n0 z10 (FF7_0.keep KK9 nin0) (FF7_1.keep KK9 nin0) (FF7_2.keep KK9 nin0) (FF7_3.keep KK9 nin0) (((FF3_0.ext E5).keep KK7 (ninS ne_b1_b5 nin0)).keep KK9 nin0) (((FF3_1.ext E5).keep KK7 (ninS ne_b1_b5 nin0)).keep KK9 nin0) (((FF3_2.ext E5).keep KK7 (ninS ne_b1_b5 nin0)).keep KK9 nin0) (((FF3_3.ext E5).keep KK7 (ninS ne_b1_b5 nin0)).keep KK9 nin0) ((((A1.keep KK3).ext E5).keep KK7).keep KK9)) hZ (hw _ (List.mem_of_getElem? (i := 50) rfl)) (hw _ (List.mem_of_getElem? (i := 3) rfl)) (by decide) (by decide)) qa28 qc28 (g := (mkF m 303 #[.val (.int p0), .val (.int p1), .val (.int p2), .val (.int p3), .val (.int p4), .val (.int p5), .val (.int gw1), .val (.int gs1), .val (.int ge1), .val (.int gn1), .val (.int al), .val (.int gw2), .val (.int gs2), .val (.int ge2), .val (.int gn2), .val (.ref b1), .val (.ref b5), .val (.ref b9), .val (.int md), .val (.int (0 : Int32))] [(.ref b1), (.ref b5)])) rfl (by rw [hml]; rfl) (Steps.refl _) (argsL := [(.ref b1)]) (rest := []) (lenOf pd6 rfl) rfl (by show 2 * 0 + _ ≤ _; exact Nat.le_of_eq rfl) (hb hby at_303) (fun _ _ => ⟨rfl, e27, (by decide : 19 + 0 ≤ _), (by decide : 185 + 0 ≤ _)⟩)
                    dsimp only [Pt.U, Pt.locs, Pt.cells, Pt.slots] at X28 l28 y28 z28 st28 hQ28
                    rw [l28, y28, z28] at X28
                    obtain ⟨rfl, N28q, e28⟩ := hQ28
                    have N28 := Fr.app N27 N28q
                    refine DnW.by (U' := T28.setTop (mkF m 306 #[.val (.int p0), .val (.int p1), .val (.int p2), .val (.int p3), .val (.int p4), .val (.int p5), .val (.int gw1), .val (.int gs1), .val (.int ge1), .val (.int gn1), .val (.int al), .val (.int gw2), .val (.int gs2), .val (.int ge2), .val (.int gn2), .val (.ref b1), .val (.ref b5), .val (.ref b9), .val (.int md), .val (.int (0 : Int32))] [(.int (eqB b5 b1 (FP.i2d gw2) (FP.i2d gs2) (FP.i2d ge2) (FP.i2d gn2) (FP.i2d gw1) (FP.i2d gs1) (FP.i2d ge1) (FP.i2d gn1)))])) (fun _ ks => st28.trans ks) ?_
                    refine DnW.by (U' := T28.setTop (mkF m 308 #[.val (.int p0), .val (.int p1), .val (.int p2), .val (.int p3), .val (.int p4), .val (.int p5), .val (.int gw1), .val (.int gs1), .val (.int ge1), .val (.int gn1), .val (.int al), .val (.int gw2), .val (.int gs2), .val (.int ge2), .val (.int gn2), .val (.ref b1), .val (.ref b5), .val (.ref b9), .val (.int md), .val (.int (0 : Int32))] [(.int (0 : Int32)), (.int (eqB b5 b1 (FP.i2d gw2) (FP.i2d gs2) (FP.i2d ge2) (FP.i2d gn2) (FP.i2d gw1) (FP.i2d gs1) (FP.i2d ge1) (FP.i2d gn1)))])) (fun _ ks => XS.iload X28.here hx rfl (hb hby at_306) rfl ks) ?_
                    refine DnW.by (U' := T28.setTop (mkF m 311 #[.val (.int p0), .val (.int p1), .val (.int p2), .val (.int p3), .val (.int p4), .val (.int p5), .val (.int gw1), .val (.int gs1), .val (.int ge1), .val (.int gn1), .val (.int al), .val (.int gw2), .val (.int gs2), .val (.int ge2), .val (.int gn2), .val (.ref b1), .val (.ref b5), .val (.ref b9), .val (.int md), .val (.int (0 : Int32))] [])) (fun _ ks => XS.icmpNo X28.here hx rfl (hb hby at_308) rfl (teq ((own_eqB _ _ _ _ _ _ _ _ _ _).trans (if_neg (fun q => c263_18 q.2.1.symm)))).2 ks) ?_
                    refine DnW.by (U' := T28.setTop (mkF m 312 #[.val (.int p0), .val (.int p1), .val (.int p2), .val (.int p3), .val (.int p4), .val (.int p5), .val (.int gw1), .val (.int gs1), .val (.int ge1), .val (.int gn1), .val (.int al), .val (.int gw2), .val (.int gs2), .val (.int ge2), .val (.int gn2), .val (.ref b1), .val (.ref b5), .val (.ref b9), .val (.int md), .val (.int (0 : Int32))] [(.int (1 : Int32))])) (fun _ ks => XS.iconst X28.here hx rfl (hb hby at_311)  ks) ?_
                    refine DnW.by (U' := T28.setTop (mkF m 316 #[.val (.int p0), .val (.int p1), .val (.int p2), .val (.int p3), .val (.int p4), .val (.int p5), .val (.int gw1), .val (.int gs1), .val (.int ge1), .val (.int gn1), .val (.int al), .val (.int gw2), .val (.int gs2), .val (.int ge2), .val (.int gn2), .val (.ref b1), .val (.ref b5), .val (.ref b9), .val (.int md), .val (.int (0 : Int32))] [(.int (1 : Int32))])) (fun _ ks => XS.goto X28.here hx rfl (pc0 := 312) (pc' := 316) rfl (hb hby at_312) (by decide) (by decide) ks) ?_
                    refine DnW.out X28 hS7 (by rw [e28]; exact hk10) (v := (some (.int (1 : Int32)))) (fun h => by rw [Bd.returns] at h; cases h) (BodyLoose.notSynchronized Bd) (fun _ hr => retN X28 hx (t := .boolean) Bd.returns (by simp) (hb hby at_316) hr) (by decide) (by decide) ?_ ?_
                    · rw [e28]; exact ⟨rfl, N28⟩
                    · rw [hh, e28]; exact C10.trans (CHv.at X28 hZ hEL C10.1)
                ·
                  refine DnW.by (U' := T9.setTop (mkF m 284 #[.val (.int p0), .val (.int p1), .val (.int p2), .val (.int p3), .val (.int p4), .val (.int p5), .val (.int gw1), .val (.int gs1), .val (.int ge1), .val (.int gn1), .val (.int al), .val (.int gw2), .val (.int gs2), .val (.int ge2), .val (.int gn2), .val (.ref b1), .val (.ref b5), .val (.ref b9), .val (.int md), .unset] [])) (fun _ ks => XS.icmpYes X9.here hx rfl (pc0 := 256) (pc' := 284) rfl (hb hby at_256) rfl (feq c256_17).2 (by decide) (by decide) ks) ?_
                  refine DnW.by (U' := T9.setTop (mkF m 285 #[.val (.int p0), .val (.int p1), .val (.int p2), .val (.int p3), .val (.int p4), .val (.int p5), .val (.int gw1), .val (.int gs1), .val (.int ge1), .val (.int gn1), .val (.int al), .val (.int gw2), .val (.int gs2), .val (.int ge2), .val (.int gn2), .val (.ref b1), .val (.ref b5), .val (.ref b9), .val (.int md), .unset] [(.int (0 : Int32))])) (fun _ ks => XS.iconst X9.here hx rfl (hb hby at_284)  ks) ?_
                  refine DnW.by (U' := T9.setTop (mkF m 287 #[.val (.int p0), .val (.int p1), .val (.int p2), .val (.int p3), .val (.int p4), .val (.int p5), .val (.int gw1), .val (.int gs1), .val (.int ge1), .val (.int gn1), .val (.int al), .val (.int gw2), .val (.int gs2), .val (.int ge2), .val (.int gn2), .val (.ref b1), .val (.ref b5), .val (.ref b9), .val (.int md), .val (.int (0 : Int32))] [])) (fun _ ks => XS.istore X9.here hx rfl (hb hby at_285) rfl (l' := #[.val (.int p0), .val (.int p1), .val (.int p2), .val (.int p3), .val (.int p4), .val (.int p5), .val (.int gw1), .val (.int gs1), .val (.int ge1), .val (.int gn1), .val (.int al), .val (.int gw2), .val (.int gs2), .val (.int ge2), .val (.int gn2), .val (.ref b1), .val (.ref b5), .val (.ref b9), .val (.int md), .val (.int (0 : Int32))]) rfl ks) ?_
                  refine DnW.by (U' := T9.setTop (mkF m 289 #[.val (.int p0), .val (.int p1), .val (.int p2), .val (.int p3), .val (.int p4), .val (.int p5), .val (.int gw1), .val (.int gs1), .val (.int ge1), .val (.int gn1), .val (.int al), .val (.int gw2), .val (.int gs2), .val (.int ge2), .val (.int gn2), .val (.ref b1), .val (.ref b5), .val (.ref b9), .val (.int md), .val (.int (0 : Int32))] [(.ref b1)])) (fun _ ks => XS.aload X9.here hx rfl (hb hby at_287) rfl rfl ks) ?_
                  refine DnW.by (U' := T9.setTop (mkF m 291 #[.val (.int p0), .val (.int p1), .val (.int p2), .val (.int p3), .val (.int p4), .val (.int p5), .val (.int gw1), .val (.int gs1), .val (.int ge1), .val (.int gn1), .val (.int al), .val (.int gw2), .val (.int gs2), .val (.int ge2), .val (.int gn2), .val (.ref b1), .val (.ref b5), .val (.ref b9), .val (.int md), .val (.int (0 : Int32))] [(.ref b5), (.ref b1)])) (fun _ ks => XS.aload X9.here hx rfl (hb hby at_289) rfl rfl ks) ?_
                  obtain ⟨cq29, kq29, qa29, qb29, qc29⟩ := isOf hZ rfl ((((A1.keep KK3).ext E5).keep KK7).keep KK9)
                  obtain ⟨_, _, ⟨T29, L29, k29, n29⟩, -, X29, ⟨Lc29, hQ29, l29, y29, z29⟩, st29⟩ := X9.virtualBack hx (y := (⟨"com/example/flok/flok/geo/Box", "equals", "(Ljava/lang/Object;)Z"⟩ : MethodName)) (z := (⟨"com/example/flok/flok/geo/Box", "equals", "(Ljava/lang/Object;)Z"⟩ : MethodName)) hown (mvT hZ (hw _ (List.mem_of_getElem? (i := 46) rfl))) (mvT hZ (hw _ (List.mem_of_getElem? (i := 47) rfl))) (notFace_of_selects (args := #[]) (mvT hZ (hw _ (List.mem_of_getElem? (i := 49) rfl)))) (mvT hZ (hw _ (List.mem_of_getElem? (i := 49) rfl))) (mvT hZ (hw _ (List.mem_of_getElem? (i := 48) rfl))) (by decide) (backOf (W := 0) (rm7 l Z a0 hw [] b1 b5 (FP.i2d gw1) (FP.i2d gs1) (FP.i2d ge1) (FP.i2d gn1) (FP.i2d gw2) (FP.i2d gs2) (FP.i2d ge2) (FP.i2d gn2) T9.heap n0 z10 (((FF3_0.ext E5).keep KK7 (ninS ne_b1_b5 nin0)).keep KK9 nin0) (((FF3_1.ext E5).keep KK7 (ninS ne_b1_b5 nin0)).keep KK9 nin0) (((FF3_2.ext E5).keep KK7 (ninS ne_b1_b5 nin0)).keep KK9 nin0) (((FF3_3.ext E5).keep KK7 (ninS ne_b1_b5 nin0)).keep KK9 nin0) (FF7_0.keep KK9 nin0) (FF7_1.keep KK9 nin0) (FF7_2.keep KK9 nin0) (FF7_3.keep KK9 nin0) ((A5.keep KK7).keep KK9)) hZ (hw _ (List.mem_of_getElem? (i := 50) rfl)) (hw _ (List.mem_of_getElem? (i := 3) rfl)) (by decide) (by decide)) qa29 qc29 (g := (mkF m 291 #[.val (.int p0), .val (.int p1), .val (.int p2), .val (.int p3), .val (.int p4), .val (.int p5), .val (.int gw1), .val (.int gs1), .val (.int ge1), .val (.int gn1), .val (.int al), .val (.int gw2), .val (.int gs2), .val (.int ge2), .val (.int gn2), .val (.ref b1), .val (.ref b5), .val (.ref b9), .val (.int md), .val (.int (0 : Int32))] [(.ref b5), (.ref b1)])) rfl (by rw [hml]; rfl) (Steps.refl _) (argsL := [(.ref b5)]) (rest := []) (lenOf pd6 rfl) rfl (by show 2 * 0 + _ ≤ _; exact Nat.le_of_eq rfl) (hb hby at_291) (fun _ _ => ⟨rfl, rfl, (by decide : 19 + 0 ≤ _), (by decide : 185 + 0 ≤ _)⟩)
                  dsimp only [Pt.U, Pt.locs, Pt.cells, Pt.slots] at X29 l29 y29 z29 st29 hQ29
                  rw [l29, y29, z29] at X29
                  obtain ⟨rfl, N29q, e29⟩ := hQ29
                  have N29 := Fr.app N9 N29q
                  refine DnW.by (U' := T29.setTop (mkF m 294 #[.val (.int p0), .val (.int p1), .val (.int p2), .val (.int p3), .val (.int p4), .val (.int p5), .val (.int gw1), .val (.int gs1), .val (.int ge1), .val (.int gn1), .val (.int al), .val (.int gw2), .val (.int gs2), .val (.int ge2), .val (.int gn2), .val (.ref b1), .val (.ref b5), .val (.ref b9), .val (.int md), .val (.int (0 : Int32))] [(.int (eqB b1 b5 (FP.i2d gw1) (FP.i2d gs1) (FP.i2d ge1) (FP.i2d gn1) (FP.i2d gw2) (FP.i2d gs2) (FP.i2d ge2) (FP.i2d gn2)))])) (fun _ ks => st29.trans ks) ?_
                  refine DnW.by (U' := T29.setTop (mkF m 296 #[.val (.int p0), .val (.int p1), .val (.int p2), .val (.int p3), .val (.int p4), .val (.int p5), .val (.int gw1), .val (.int gs1), .val (.int ge1), .val (.int gn1), .val (.int al), .val (.int gw2), .val (.int gs2), .val (.int ge2), .val (.int gn2), .val (.ref b1), .val (.ref b5), .val (.ref b9), .val (.int md), .val (.int (0 : Int32))] [(.int (0 : Int32)), (.int (eqB b1 b5 (FP.i2d gw1) (FP.i2d gs1) (FP.i2d ge1) (FP.i2d gn1) (FP.i2d gw2) (FP.i2d gs2) (FP.i2d ge2) (FP.i2d gn2)))])) (fun _ ks => XS.iload X29.here hx rfl (hb hby at_294) rfl ks) ?_
                  refine DnW.by (U' := T29.setTop (mkF m 299 #[.val (.int p0), .val (.int p1), .val (.int p2), .val (.int p3), .val (.int p4), .val (.int p5), .val (.int gw1), .val (.int gs1), .val (.int ge1), .val (.int gn1), .val (.int al), .val (.int gw2), .val (.int gs2), .val (.int ge2), .val (.int gn2), .val (.ref b1), .val (.ref b5), .val (.ref b9), .val (.int md), .val (.int (0 : Int32))] [])) (fun _ ks => XS.icmpNo X29.here hx rfl (hb hby at_296) rfl (teq ((own_eqB _ _ _ _ _ _ _ _ _ _).trans (if_neg (fun q => c256_17 q.1)))).2 ks) ?_
                  refine DnW.by (U' := T29.setTop (mkF m 301 #[.val (.int p0), .val (.int p1), .val (.int p2), .val (.int p3), .val (.int p4), .val (.int p5), .val (.int gw1), .val (.int gs1), .val (.int ge1), .val (.int gn1), .val (.int al), .val (.int gw2), .val (.int gs2), .val (.int ge2), .val (.int gn2), .val (.ref b1), .val (.ref b5), .val (.ref b9), .val (.int md), .val (.int (0 : Int32))] [(.ref b5)])) (fun _ ks => XS.aload X29.here hx rfl (hb hby at_299) rfl rfl ks) ?_
                  refine DnW.by (U' := T29.setTop (mkF m 303 #[.val (.int p0), .val (.int p1), .val (.int p2), .val (.int p3), .val (.int p4), .val (.int p5), .val (.int gw1), .val (.int gs1), .val (.int ge1), .val (.int gn1), .val (.int al), .val (.int gw2), .val (.int gs2), .val (.int ge2), .val (.int gn2), .val (.ref b1), .val (.ref b5), .val (.ref b9), .val (.int md), .val (.int (0 : Int32))] [(.ref b1), (.ref b5)])) (fun _ ks => XS.aload X29.here hx rfl (hb hby at_301) rfl rfl ks) ?_
                  obtain ⟨cq30, kq30, qa30, qb30, qc30⟩ := isOf hZ e29 ((A5.keep KK7).keep KK9)
                  obtain ⟨_, _, ⟨T30, L30, k30, n30⟩, -, X30, ⟨Lc30, hQ30, l30, y30, z30⟩, st30⟩ := X29.virtualBack hx (y := (⟨"com/example/flok/flok/geo/Box", "equals", "(Ljava/lang/Object;)Z"⟩ : MethodName)) (z := (⟨"com/example/flok/flok/geo/Box", "equals", "(Ljava/lang/Object;)Z"⟩ : MethodName)) hown (mvT hZ (hw _ (List.mem_of_getElem? (i := 46) rfl))) (mvT hZ (hw _ (List.mem_of_getElem? (i := 47) rfl))) (notFace_of_selects (args := #[]) (mvT hZ (hw _ (List.mem_of_getElem? (i := 49) rfl)))) (mvT hZ (hw _ (List.mem_of_getElem? (i := 49) rfl))) (mvT hZ (hw _ (List.mem_of_getElem? (i := 48) rfl))) (by decide) (backOf (W := 0) (rm7 l Z a0 hw [] b5 b1 (FP.i2d gw2) (FP.i2d gs2) (FP.i2d ge2) (FP.i2d gn2) (FP.i2d gw1) (FP.i2d gs1) (FP.i2d ge1) (FP.i2d gn1) T9.heap n0 z10 (FF7_0.keep KK9 nin0) (FF7_1.keep KK9 nin0) (FF7_2.keep KK9 nin0) (FF7_3.keep KK9 nin0) (((FF3_0.ext E5).keep KK7 (ninS ne_b1_b5 nin0)).keep KK9 nin0) (((FF3_1.ext E5).keep KK7 (ninS ne_b1_b5 nin0)).keep KK9 nin0) (((FF3_2.ext E5).keep KK7 (ninS ne_b1_b5 nin0)).keep KK9 nin0) (((FF3_3.ext E5).keep KK7 (ninS ne_b1_b5 nin0)).keep KK9 nin0) ((((A1.keep KK3).ext E5).keep KK7).keep KK9)) hZ (hw _ (List.mem_of_getElem? (i := 50) rfl)) (hw _ (List.mem_of_getElem? (i := 3) rfl)) (by decide) (by decide)) qa30 qc30 (g := (mkF m 303 #[.val (.int p0), .val (.int p1), .val (.int p2), .val (.int p3), .val (.int p4), .val (.int p5), .val (.int gw1), .val (.int gs1), .val (.int ge1), .val (.int gn1), .val (.int al), .val (.int gw2), .val (.int gs2), .val (.int ge2), .val (.int gn2), .val (.ref b1), .val (.ref b5), .val (.ref b9), .val (.int md), .val (.int (0 : Int32))] [(.ref b1), (.ref b5)])) rfl (by rw [hml]; rfl) (Steps.refl _) (argsL := [(.ref b1)]) (rest := []) (lenOf pd6 rfl) rfl (by show 2 * 0 + _ ≤ _; exact Nat.le_of_eq rfl) (hb hby at_303) (fun _ _ => ⟨rfl, e29, (by decide : 19 + 0 ≤ _), (by decide : 185 + 0 ≤ _)⟩)
                  dsimp only [Pt.U, Pt.locs, Pt.cells, Pt.slots] at X30 l30 y30 z30 st30 hQ30
                  rw [l30, y30, z30] at X30
                  obtain ⟨rfl, N30q, e30⟩ := hQ30
                  have N30 := Fr.app N29 N30q
                  refine DnW.by (U' := T30.setTop (mkF m 306 #[.val (.int p0), .val (.int p1), .val (.int p2), .val (.int p3), .val (.int p4), .val (.int p5), .val (.int gw1), .val (.int gs1), .val (.int ge1), .val (.int gn1), .val (.int al), .val (.int gw2), .val (.int gs2), .val (.int ge2), .val (.int gn2), .val (.ref b1), .val (.ref b5), .val (.ref b9), .val (.int md), .val (.int (0 : Int32))] [(.int (eqB b5 b1 (FP.i2d gw2) (FP.i2d gs2) (FP.i2d ge2) (FP.i2d gn2) (FP.i2d gw1) (FP.i2d gs1) (FP.i2d ge1) (FP.i2d gn1)))])) (fun _ ks => st30.trans ks) ?_
                  refine DnW.by (U' := T30.setTop (mkF m 308 #[.val (.int p0), .val (.int p1), .val (.int p2), .val (.int p3), .val (.int p4), .val (.int p5), .val (.int gw1), .val (.int gs1), .val (.int ge1), .val (.int gn1), .val (.int al), .val (.int gw2), .val (.int gs2), .val (.int ge2), .val (.int gn2), .val (.ref b1), .val (.ref b5), .val (.ref b9), .val (.int md), .val (.int (0 : Int32))] [(.int (0 : Int32)), (.int (eqB b5 b1 (FP.i2d gw2) (FP.i2d gs2) (FP.i2d ge2) (FP.i2d gn2) (FP.i2d gw1) (FP.i2d gs1) (FP.i2d ge1) (FP.i2d gn1)))])) (fun _ ks => XS.iload X30.here hx rfl (hb hby at_306) rfl ks) ?_
                  refine DnW.by (U' := T30.setTop (mkF m 311 #[.val (.int p0), .val (.int p1), .val (.int p2), .val (.int p3), .val (.int p4), .val (.int p5), .val (.int gw1), .val (.int gs1), .val (.int ge1), .val (.int gn1), .val (.int al), .val (.int gw2), .val (.int gs2), .val (.int ge2), .val (.int gn2), .val (.ref b1), .val (.ref b5), .val (.ref b9), .val (.int md), .val (.int (0 : Int32))] [])) (fun _ ks => XS.icmpNo X30.here hx rfl (hb hby at_308) rfl (teq ((own_eqB _ _ _ _ _ _ _ _ _ _).trans (if_neg (fun q => c256_17 q.1.symm)))).2 ks) ?_
                  refine DnW.by (U' := T30.setTop (mkF m 312 #[.val (.int p0), .val (.int p1), .val (.int p2), .val (.int p3), .val (.int p4), .val (.int p5), .val (.int gw1), .val (.int gs1), .val (.int ge1), .val (.int gn1), .val (.int al), .val (.int gw2), .val (.int gs2), .val (.int ge2), .val (.int gn2), .val (.ref b1), .val (.ref b5), .val (.ref b9), .val (.int md), .val (.int (0 : Int32))] [(.int (1 : Int32))])) (fun _ ks => XS.iconst X30.here hx rfl (hb hby at_311)  ks) ?_
                  refine DnW.by (U' := T30.setTop (mkF m 316 #[.val (.int p0), .val (.int p1), .val (.int p2), .val (.int p3), .val (.int p4), .val (.int p5), .val (.int gw1), .val (.int gs1), .val (.int ge1), .val (.int gn1), .val (.int al), .val (.int gw2), .val (.int gs2), .val (.int ge2), .val (.int gn2), .val (.ref b1), .val (.ref b5), .val (.ref b9), .val (.int md), .val (.int (0 : Int32))] [(.int (1 : Int32))])) (fun _ ks => XS.goto X30.here hx rfl (pc0 := 312) (pc' := 316) rfl (hb hby at_312) (by decide) (by decide) ks) ?_
                  refine DnW.out X30 hS7 (by rw [e30]; exact hk10) (v := (some (.int (1 : Int32)))) (fun h => by rw [Bd.returns] at h; cases h) (BodyLoose.notSynchronized Bd) (fun _ hr => retN X30 hx (t := .boolean) Bd.returns (by simp) (hb hby at_316) hr) (by decide) (by decide) ?_ ?_
                  · rw [e30]; exact ⟨rfl, N30⟩
                  · rw [hh, e30]; exact C10.trans (CHv.at X30 hZ hEL C10.1)
        by_cases c120_31 : (p5 &&& (8 : Int32)) = (0 : Int32)
        ·
          refine DnW.by (U' := s₁.setTop (mkF m 134 #[.val (.int p0), .val (.int p1), .val (.int p2), .val (.int p3), .val (.int p4), .val (.int p5), .val (.int gw1), .val (.int gs1), .val (.int ge1), .val (.int gn1), .val (.int al), .val (.int gw2), .val (.int gs2), .val (.int ge2), .unset, .unset, .unset, .unset, .unset, .unset] [])) (fun _ ks => XS.ifYes X0.here hx rfl (pc0 := 120) (pc' := 134) rfl (hb hby at_120) rfl ((if0 _ _).trans (teq c120_31).1) (by decide) (by decide) ks) ?_
          refine DnW.by (U' := s₁.setTop (mkF m 136 #[.val (.int p0), .val (.int p1), .val (.int p2), .val (.int p3), .val (.int p4), .val (.int p5), .val (.int gw1), .val (.int gs1), .val (.int ge1), .val (.int gn1), .val (.int al), .val (.int gw2), .val (.int gs2), .val (.int ge2), .unset, .unset, .unset, .unset, .unset, .unset] [(.int gn1)])) (fun _ ks => XS.iload X0.here hx rfl (hb hby at_134) rfl ks) ?_
          exact Jgn _ Hgn1
        ·
          refine DnW.by (U' := s₁.setTop (mkF m 123 #[.val (.int p0), .val (.int p1), .val (.int p2), .val (.int p3), .val (.int p4), .val (.int p5), .val (.int gw1), .val (.int gs1), .val (.int ge1), .val (.int gn1), .val (.int al), .val (.int gw2), .val (.int gs2), .val (.int ge2), .unset, .unset, .unset, .unset, .unset, .unset] [])) (fun _ ks => XS.ifNo X0.here hx rfl (hb hby at_120) rfl ((if0 _ _).trans (feq c120_31).1) ks) ?_
          refine DnW.by (U' := s₁.setTop (mkF m 125 #[.val (.int p0), .val (.int p1), .val (.int p2), .val (.int p3), .val (.int p4), .val (.int p5), .val (.int gw1), .val (.int gs1), .val (.int ge1), .val (.int gn1), .val (.int al), .val (.int gw2), .val (.int gs2), .val (.int ge2), .unset, .unset, .unset, .unset, .unset, .unset] [(.int al)])) (fun _ ks => XS.iload X0.here hx rfl (hb hby at_123) rfl ks) ?_
          refine DnW.by (U' := s₁.setTop (mkF m 127 #[.val (.int p0), .val (.int p1), .val (.int p2), .val (.int p3), .val (.int p4), .val (.int p5), .val (.int gw1), .val (.int gs1), .val (.int ge1), .val (.int gn1), .val (.int al), .val (.int gw2), .val (.int gs2), .val (.int ge2), .unset, .unset, .unset, .unset, .unset, .unset] [(.int (13 : Int32)), (.int al)])) (fun _ ks => XS.bipush X0.here hx rfl (hb hby at_125)  ks) ?_
          refine DnW.by (U' := s₁.setTop (mkF m 128 #[.val (.int p0), .val (.int p1), .val (.int p2), .val (.int p3), .val (.int p4), .val (.int p5), .val (.int gw1), .val (.int gs1), .val (.int ge1), .val (.int gn1), .val (.int al), .val (.int gw2), .val (.int gs2), .val (.int ge2), .unset, .unset, .unset, .unset, .unset, .unset] [(.int (al / (13 : Int32)))])) (fun _ ks => XS.idiv X0.here hx rfl (hb hby at_127) rfl (by decide) ks) ?_
          refine DnW.by (U' := s₁.setTop (mkF m 130 #[.val (.int p0), .val (.int p1), .val (.int p2), .val (.int p3), .val (.int p4), .val (.int p5), .val (.int gw1), .val (.int gs1), .val (.int ge1), .val (.int gn1), .val (.int al), .val (.int gw2), .val (.int gs2), .val (.int ge2), .unset, .unset, .unset, .unset, .unset, .unset] [(.int (91 : Int32)), (.int (al / (13 : Int32)))])) (fun _ ks => XS.bipush X0.here hx rfl (hb hby at_128)  ks) ?_
          refine DnW.by (U' := s₁.setTop (mkF m 131 #[.val (.int p0), .val (.int p1), .val (.int p2), .val (.int p3), .val (.int p4), .val (.int p5), .val (.int gw1), .val (.int gs1), .val (.int ge1), .val (.int gn1), .val (.int al), .val (.int gw2), .val (.int gs2), .val (.int ge2), .unset, .unset, .unset, .unset, .unset, .unset] [(.int ((al / (13 : Int32)) % (91 : Int32)))])) (fun _ ks => iremM X0 hx rfl (hb hby at_130) rfl (by decide) ks) ?_
          refine DnW.by (U' := s₁.setTop (mkF m 136 #[.val (.int p0), .val (.int p1), .val (.int p2), .val (.int p3), .val (.int p4), .val (.int p5), .val (.int gw1), .val (.int gs1), .val (.int ge1), .val (.int gn1), .val (.int al), .val (.int gw2), .val (.int gs2), .val (.int ge2), .unset, .unset, .unset, .unset, .unset, .unset] [(.int ((al / (13 : Int32)) % (91 : Int32)))])) (fun _ ks => XS.goto X0.here hx rfl (pc0 := 131) (pc' := 136) rfl (hb hby at_131) (by decide) (by decide) ks) ?_
          refine Jgn _ ?_
          have u0 := rng32 al
          have u1 := (by decide : (13 : Int32).toInt = 13)
          have u2 := rng32 (al / (13 : Int32))
          have u3 := c_idiv al (13 : Int32) 13 (by decide) (by decide)
          have u4 := (by decide : (91 : Int32).toInt = 91)
          have u5 := rng32 ((al / (13 : Int32)) % (91 : Int32))
          have u6 := c_irem (al / (13 : Int32)) (91 : Int32) 91 (by decide)
          omega
      by_cases c96_32 : (p5 &&& (4 : Int32)) = (0 : Int32)
      ·
        refine DnW.by (U' := s₁.setTop (mkF m 111 #[.val (.int p0), .val (.int p1), .val (.int p2), .val (.int p3), .val (.int p4), .val (.int p5), .val (.int gw1), .val (.int gs1), .val (.int ge1), .val (.int gn1), .val (.int al), .val (.int gw2), .val (.int gs2), .unset, .unset, .unset, .unset, .unset, .unset, .unset] [])) (fun _ ks => XS.ifYes X0.here hx rfl (pc0 := 96) (pc' := 111) rfl (hb hby at_96) rfl ((if0 _ _).trans (teq c96_32).1) (by decide) (by decide) ks) ?_
        refine DnW.by (U' := s₁.setTop (mkF m 113 #[.val (.int p0), .val (.int p1), .val (.int p2), .val (.int p3), .val (.int p4), .val (.int p5), .val (.int gw1), .val (.int gs1), .val (.int ge1), .val (.int gn1), .val (.int al), .val (.int gw2), .val (.int gs2), .unset, .unset, .unset, .unset, .unset, .unset, .unset] [(.int ge1)])) (fun _ ks => XS.iload X0.here hx rfl (hb hby at_111) rfl ks) ?_
        exact Jge _ Hge1
      ·
        refine DnW.by (U' := s₁.setTop (mkF m 99 #[.val (.int p0), .val (.int p1), .val (.int p2), .val (.int p3), .val (.int p4), .val (.int p5), .val (.int gw1), .val (.int gs1), .val (.int ge1), .val (.int gn1), .val (.int al), .val (.int gw2), .val (.int gs2), .unset, .unset, .unset, .unset, .unset, .unset, .unset] [])) (fun _ ks => XS.ifNo X0.here hx rfl (hb hby at_96) rfl ((if0 _ _).trans (feq c96_32).1) ks) ?_
        refine DnW.by (U' := s₁.setTop (mkF m 101 #[.val (.int p0), .val (.int p1), .val (.int p2), .val (.int p3), .val (.int p4), .val (.int p5), .val (.int gw1), .val (.int gs1), .val (.int ge1), .val (.int gn1), .val (.int al), .val (.int gw2), .val (.int gs2), .unset, .unset, .unset, .unset, .unset, .unset, .unset] [(.int al)])) (fun _ ks => XS.iload X0.here hx rfl (hb hby at_99) rfl ks) ?_
        refine DnW.by (U' := s₁.setTop (mkF m 103 #[.val (.int p0), .val (.int p1), .val (.int p2), .val (.int p3), .val (.int p4), .val (.int p5), .val (.int gw1), .val (.int gs1), .val (.int ge1), .val (.int gn1), .val (.int al), .val (.int gw2), .val (.int gs2), .unset, .unset, .unset, .unset, .unset, .unset, .unset] [(.int (7 : Int32)), (.int al)])) (fun _ ks => XS.bipush X0.here hx rfl (hb hby at_101)  ks) ?_
        refine DnW.by (U' := s₁.setTop (mkF m 104 #[.val (.int p0), .val (.int p1), .val (.int p2), .val (.int p3), .val (.int p4), .val (.int p5), .val (.int gw1), .val (.int gs1), .val (.int ge1), .val (.int gn1), .val (.int al), .val (.int gw2), .val (.int gs2), .unset, .unset, .unset, .unset, .unset, .unset, .unset] [(.int (al / (7 : Int32)))])) (fun _ ks => XS.idiv X0.here hx rfl (hb hby at_103) rfl (by decide) ks) ?_
        refine DnW.by (U' := s₁.setTop (mkF m 107 #[.val (.int p0), .val (.int p1), .val (.int p2), .val (.int p3), .val (.int p4), .val (.int p5), .val (.int gw1), .val (.int gs1), .val (.int ge1), .val (.int gn1), .val (.int al), .val (.int gw2), .val (.int gs2), .unset, .unset, .unset, .unset, .unset, .unset, .unset] [(.int (181 : Int32)), (.int (al / (7 : Int32)))])) (fun _ ks => XS.sipush X0.here hx rfl (hb hby at_104)  ks) ?_
        refine DnW.by (U' := s₁.setTop (mkF m 108 #[.val (.int p0), .val (.int p1), .val (.int p2), .val (.int p3), .val (.int p4), .val (.int p5), .val (.int gw1), .val (.int gs1), .val (.int ge1), .val (.int gn1), .val (.int al), .val (.int gw2), .val (.int gs2), .unset, .unset, .unset, .unset, .unset, .unset, .unset] [(.int ((al / (7 : Int32)) % (181 : Int32)))])) (fun _ ks => iremM X0 hx rfl (hb hby at_107) rfl (by decide) ks) ?_
        refine DnW.by (U' := s₁.setTop (mkF m 113 #[.val (.int p0), .val (.int p1), .val (.int p2), .val (.int p3), .val (.int p4), .val (.int p5), .val (.int gw1), .val (.int gs1), .val (.int ge1), .val (.int gn1), .val (.int al), .val (.int gw2), .val (.int gs2), .unset, .unset, .unset, .unset, .unset, .unset, .unset] [(.int ((al / (7 : Int32)) % (181 : Int32)))])) (fun _ ks => XS.goto X0.here hx rfl (pc0 := 108) (pc' := 113) rfl (hb hby at_108) (by decide) (by decide) ks) ?_
        refine Jge _ ?_
        have u0 := rng32 al
        have u1 := (by decide : (7 : Int32).toInt = 7)
        have u2 := rng32 (al / (7 : Int32))
        have u3 := c_idiv al (7 : Int32) 7 (by decide) (by decide)
        have u4 := (by decide : (181 : Int32).toInt = 181)
        have u5 := rng32 ((al / (7 : Int32)) % (181 : Int32))
        have u6 := c_irem (al / (7 : Int32)) (181 : Int32) 181 (by decide)
        omega
    by_cases c72_33 : (p5 &&& (2 : Int32)) = (0 : Int32)
    ·
      refine DnW.by (U' := s₁.setTop (mkF m 88 #[.val (.int p0), .val (.int p1), .val (.int p2), .val (.int p3), .val (.int p4), .val (.int p5), .val (.int gw1), .val (.int gs1), .val (.int ge1), .val (.int gn1), .val (.int al), .val (.int gw2), .unset, .unset, .unset, .unset, .unset, .unset, .unset, .unset] [])) (fun _ ks => XS.ifYes X0.here hx rfl (pc0 := 72) (pc' := 88) rfl (hb hby at_72) rfl ((if0 _ _).trans (teq c72_33).1) (by decide) (by decide) ks) ?_
      refine DnW.by (U' := s₁.setTop (mkF m 90 #[.val (.int p0), .val (.int p1), .val (.int p2), .val (.int p3), .val (.int p4), .val (.int p5), .val (.int gw1), .val (.int gs1), .val (.int ge1), .val (.int gn1), .val (.int al), .val (.int gw2), .unset, .unset, .unset, .unset, .unset, .unset, .unset, .unset] [(.int gs1)])) (fun _ ks => XS.iload X0.here hx rfl (hb hby at_88) rfl ks) ?_
      exact Jgs _ Hgs1
    ·
      refine DnW.by (U' := s₁.setTop (mkF m 75 #[.val (.int p0), .val (.int p1), .val (.int p2), .val (.int p3), .val (.int p4), .val (.int p5), .val (.int gw1), .val (.int gs1), .val (.int ge1), .val (.int gn1), .val (.int al), .val (.int gw2), .unset, .unset, .unset, .unset, .unset, .unset, .unset, .unset] [])) (fun _ ks => XS.ifNo X0.here hx rfl (hb hby at_72) rfl ((if0 _ _).trans (feq c72_33).1) ks) ?_
      refine DnW.by (U' := s₁.setTop (mkF m 77 #[.val (.int p0), .val (.int p1), .val (.int p2), .val (.int p3), .val (.int p4), .val (.int p5), .val (.int gw1), .val (.int gs1), .val (.int ge1), .val (.int gn1), .val (.int al), .val (.int gw2), .unset, .unset, .unset, .unset, .unset, .unset, .unset, .unset] [(.int al)])) (fun _ ks => XS.iload X0.here hx rfl (hb hby at_75) rfl ks) ?_
      refine DnW.by (U' := s₁.setTop (mkF m 80 #[.val (.int p0), .val (.int p1), .val (.int p2), .val (.int p3), .val (.int p4), .val (.int p5), .val (.int gw1), .val (.int gs1), .val (.int ge1), .val (.int gn1), .val (.int al), .val (.int gw2), .unset, .unset, .unset, .unset, .unset, .unset, .unset, .unset] [(.int (181 : Int32)), (.int al)])) (fun _ ks => XS.sipush X0.here hx rfl (hb hby at_77)  ks) ?_
      refine DnW.by (U' := s₁.setTop (mkF m 81 #[.val (.int p0), .val (.int p1), .val (.int p2), .val (.int p3), .val (.int p4), .val (.int p5), .val (.int gw1), .val (.int gs1), .val (.int ge1), .val (.int gn1), .val (.int al), .val (.int gw2), .unset, .unset, .unset, .unset, .unset, .unset, .unset, .unset] [(.int (al / (181 : Int32)))])) (fun _ ks => XS.idiv X0.here hx rfl (hb hby at_80) rfl (by decide) ks) ?_
      refine DnW.by (U' := s₁.setTop (mkF m 83 #[.val (.int p0), .val (.int p1), .val (.int p2), .val (.int p3), .val (.int p4), .val (.int p5), .val (.int gw1), .val (.int gs1), .val (.int ge1), .val (.int gn1), .val (.int al), .val (.int gw2), .unset, .unset, .unset, .unset, .unset, .unset, .unset, .unset] [(.int (91 : Int32)), (.int (al / (181 : Int32)))])) (fun _ ks => XS.bipush X0.here hx rfl (hb hby at_81)  ks) ?_
      refine DnW.by (U' := s₁.setTop (mkF m 84 #[.val (.int p0), .val (.int p1), .val (.int p2), .val (.int p3), .val (.int p4), .val (.int p5), .val (.int gw1), .val (.int gs1), .val (.int ge1), .val (.int gn1), .val (.int al), .val (.int gw2), .unset, .unset, .unset, .unset, .unset, .unset, .unset, .unset] [(.int ((al / (181 : Int32)) % (91 : Int32)))])) (fun _ ks => iremM X0 hx rfl (hb hby at_83) rfl (by decide) ks) ?_
      refine DnW.by (U' := s₁.setTop (mkF m 85 #[.val (.int p0), .val (.int p1), .val (.int p2), .val (.int p3), .val (.int p4), .val (.int p5), .val (.int gw1), .val (.int gs1), .val (.int ge1), .val (.int gn1), .val (.int al), .val (.int gw2), .unset, .unset, .unset, .unset, .unset, .unset, .unset, .unset] [(.int (-((al / (181 : Int32)) % (91 : Int32))))])) (fun _ ks => XS.ineg X0.here hx rfl (hb hby at_84) rfl ks) ?_
      refine DnW.by (U' := s₁.setTop (mkF m 90 #[.val (.int p0), .val (.int p1), .val (.int p2), .val (.int p3), .val (.int p4), .val (.int p5), .val (.int gw1), .val (.int gs1), .val (.int ge1), .val (.int gn1), .val (.int al), .val (.int gw2), .unset, .unset, .unset, .unset, .unset, .unset, .unset, .unset] [(.int (-((al / (181 : Int32)) % (91 : Int32))))])) (fun _ ks => XS.goto X0.here hx rfl (pc0 := 85) (pc' := 90) rfl (hb hby at_85) (by decide) (by decide) ks) ?_
      refine Jgs _ ?_
      have u0 := rng32 al
      have u1 := (by decide : (181 : Int32).toInt = 181)
      have u2 := rng32 (al / (181 : Int32))
      have u3 := c_idiv al (181 : Int32) 181 (by decide) (by decide)
      have u4 := (by decide : (91 : Int32).toInt = 91)
      have u5 := rng32 ((al / (181 : Int32)) % (91 : Int32))
      have u6 := c_irem (al / (181 : Int32)) (91 : Int32) 91 (by decide)
      have u7 := rng32 (-((al / (181 : Int32)) % (91 : Int32)))
      have u8 := c_ineg ((al / (181 : Int32)) % (91 : Int32))
      omega
  by_cases c51_34 : (p5 &&& (1 : Int32)) = (0 : Int32)
  ·
    refine DnW.by (U' := s₁.setTop (mkF m 64 #[.val (.int p0), .val (.int p1), .val (.int p2), .val (.int p3), .val (.int p4), .val (.int p5), .val (.int gw1), .val (.int gs1), .val (.int ge1), .val (.int gn1), .val (.int al), .unset, .unset, .unset, .unset, .unset, .unset, .unset, .unset, .unset] [])) (fun _ ks => XS.ifYes X0.here hx rfl (pc0 := 51) (pc' := 64) rfl (hb hby at_51) rfl ((if0 _ _).trans (teq c51_34).1) (by decide) (by decide) ks) ?_
    refine DnW.by (U' := s₁.setTop (mkF m 66 #[.val (.int p0), .val (.int p1), .val (.int p2), .val (.int p3), .val (.int p4), .val (.int p5), .val (.int gw1), .val (.int gs1), .val (.int ge1), .val (.int gn1), .val (.int al), .unset, .unset, .unset, .unset, .unset, .unset, .unset, .unset, .unset] [(.int gw1)])) (fun _ ks => XS.iload X0.here hx rfl (hb hby at_64) rfl ks) ?_
    exact Jgw _ Hgw1
  ·
    refine DnW.by (U' := s₁.setTop (mkF m 54 #[.val (.int p0), .val (.int p1), .val (.int p2), .val (.int p3), .val (.int p4), .val (.int p5), .val (.int gw1), .val (.int gs1), .val (.int ge1), .val (.int gn1), .val (.int al), .unset, .unset, .unset, .unset, .unset, .unset, .unset, .unset, .unset] [])) (fun _ ks => XS.ifNo X0.here hx rfl (hb hby at_51) rfl ((if0 _ _).trans (feq c51_34).1) ks) ?_
    refine DnW.by (U' := s₁.setTop (mkF m 56 #[.val (.int p0), .val (.int p1), .val (.int p2), .val (.int p3), .val (.int p4), .val (.int p5), .val (.int gw1), .val (.int gs1), .val (.int ge1), .val (.int gn1), .val (.int al), .unset, .unset, .unset, .unset, .unset, .unset, .unset, .unset, .unset] [(.int al)])) (fun _ ks => XS.iload X0.here hx rfl (hb hby at_54) rfl ks) ?_
    refine DnW.by (U' := s₁.setTop (mkF m 59 #[.val (.int p0), .val (.int p1), .val (.int p2), .val (.int p3), .val (.int p4), .val (.int p5), .val (.int gw1), .val (.int gs1), .val (.int ge1), .val (.int gn1), .val (.int al), .unset, .unset, .unset, .unset, .unset, .unset, .unset, .unset, .unset] [(.int (181 : Int32)), (.int al)])) (fun _ ks => XS.sipush X0.here hx rfl (hb hby at_56)  ks) ?_
    refine DnW.by (U' := s₁.setTop (mkF m 60 #[.val (.int p0), .val (.int p1), .val (.int p2), .val (.int p3), .val (.int p4), .val (.int p5), .val (.int gw1), .val (.int gs1), .val (.int ge1), .val (.int gn1), .val (.int al), .unset, .unset, .unset, .unset, .unset, .unset, .unset, .unset, .unset] [(.int (al % (181 : Int32)))])) (fun _ ks => iremM X0 hx rfl (hb hby at_59) rfl (by decide) ks) ?_
    refine DnW.by (U' := s₁.setTop (mkF m 61 #[.val (.int p0), .val (.int p1), .val (.int p2), .val (.int p3), .val (.int p4), .val (.int p5), .val (.int gw1), .val (.int gs1), .val (.int ge1), .val (.int gn1), .val (.int al), .unset, .unset, .unset, .unset, .unset, .unset, .unset, .unset, .unset] [(.int (-(al % (181 : Int32))))])) (fun _ ks => XS.ineg X0.here hx rfl (hb hby at_60) rfl ks) ?_
    refine DnW.by (U' := s₁.setTop (mkF m 66 #[.val (.int p0), .val (.int p1), .val (.int p2), .val (.int p3), .val (.int p4), .val (.int p5), .val (.int gw1), .val (.int gs1), .val (.int ge1), .val (.int gn1), .val (.int al), .unset, .unset, .unset, .unset, .unset, .unset, .unset, .unset, .unset] [(.int (-(al % (181 : Int32))))])) (fun _ ks => XS.goto X0.here hx rfl (pc0 := 61) (pc' := 66) rfl (hb hby at_61) (by decide) (by decide) ks) ?_
    refine Jgw _ ?_
    have u0 := rng32 al
    have u1 := (by decide : (181 : Int32).toInt = 181)
    have u2 := rng32 (al % (181 : Int32))
    have u3 := c_irem al (181 : Int32) 181 (by decide)
    have u4 := rng32 (-(al % (181 : Int32)))
    have u5 := c_ineg (al % (181 : Int32))
    omega
set_option maxRecDepth 65536 in
set_option maxHeartbeats 40000000 in
theorem comes_1 {Post : Tables → Env → Array Value → State → Outcome → State → Prop} (hpost : ∀ tb e args s v u, (limb_1_1.after args s (.returned v) u = true ∧ limb_1_2.after args s (.returned v) u = true ∧ True) → FramedW s (.returned v) u (Jvm.fieldLocs frame_1_writes args s ++ Jvm.arrayLocs frame_1_arrays args s ++ Jvm.staticLocs frame_1_statics s) 24 4224 → Post tb e args s (.returned v) u) :
    ArmFor flags0 classFile x code maxLocals ret World_1 tables_1 room_1 Calls_1 rest_1 Pre_1 Post := by
  intro l hfl _ _ p e ha hc hk s m args below hf hA hF happ hP
  obtain ⟨hcalls, hrest, hpre⟩ := hP
  obtain ⟨-, -, -, hnamed, -, -, -, hat⟩ := (Spec.applies_iff hf).mp happ
  obtain ⟨hg, hn⟩ := and_e (Cond.before_iff.mp (show (Jvm.Cond.and given_1 narrow_1).before args s = true from hpre))
  obtain ⟨gg1, gg2⟩ := and_e hg
  obtain ⟨gg3, gg4⟩ := and_e gg2
  obtain ⟨gg5, gg6⟩ := and_e gg4
  obtain ⟨gg7, gg8⟩ := and_e gg6
  obtain ⟨gg9, gg10⟩ := and_e gg8
  obtain ⟨gg11, gg12⟩ := and_e gg10
  obtain ⟨w0, w1, w2, w3, w4, w5, rfl⟩ : ∃ w0 w1 w2 w3 w4 w5 : Value, args = #[w0, w1, w2, w3, w4, w5] := by
    have hs : args.size = 6 := by simpa [Cond.value, given_1] using gg1
    obtain ⟨L⟩ := args
    match L, hs with
    | [w0, w1, w2, w3, w4, w5], _ => exact ⟨w0, w1, w2, w3, w4, w5, rfl⟩
  have hw := fun d (hd : d ∈ tables_1) => atoms_spec (ws := Jvm.Cond.code x code maxLocals ret :: tables_1) hat d (List.mem_cons_of_mem _ hd)
  have hfit : Fit s := fun {y c} hc i hi => by
    obtain ⟨ha, rfl⟩ := Array.getElem?_eq_some_iff.mp hc
    have q := List.all_eq_true.mp ((Array.all_eq_true_iff_forall_mem.mp hF) _ (Array.getElem_mem ha)) i (List.mem_range.mpr hi)
    simpa [Array.getElem?_eq_getElem hi] using q
  obtain ⟨hsets, hown0⟩ := atoms_of _ (rest_1_c_eq ▸ (show rest_1_c.before _ s = true from hrest))
  have hr0 := Cond.before_iff.mp hown0
  obtain ⟨i0, ei0⟩ := is_v gg3
  obtain rfl : w0 = (.int i0) := Option.some.inj ei0
  obtain ⟨i1, ei1⟩ := is_v gg5
  obtain rfl : w1 = (.int i1) := Option.some.inj ei1
  obtain ⟨i2, ei2⟩ := is_v gg7
  obtain rfl : w2 = (.int i2) := Option.some.inj ei2
  obtain ⟨i3, ei3⟩ := is_v gg9
  obtain rfl : w3 = (.int i3) := Option.some.inj ei3
  obtain ⟨i4, ei4⟩ := is_v gg11
  obtain rfl : w4 = (.int i4) := Option.some.inj ei4
  obtain ⟨i5, ei5⟩ := is_v gg12
  obtain rfl : w5 = (.int i5) := Option.some.inj ei5
  have S_hi := Sta.start (eqv_i (Term.int_eval (127)) (Cond.before_iff.mp (hsets _ (List.mem_of_getElem? (i := 3) rfl)))) (Or.inl (hsets _ (List.mem_of_getElem? (i := 1) rfl)))
  obtain ⟨ca, ev⟩ := arr_v (Cond.before_iff.mp (hsets _ (List.mem_of_getElem? (i := 4) rfl)))
  have et : ∀ idx, (Jvm.Term.static "java/lang/Integer$IntegerCache" "cache" "[Ljava/lang/Integer;").eval #[.int i0, .int i1, .int i2, .int i3, .int i4, .int i5] s none idx s = some (.ref ca) := fun _ => ev
  obtain ⟨cc, Ar⟩ := Arr.start ev (Cond.before_iff.mp (hsets _ (List.mem_of_getElem? (i := 4) rfl)))
  have S_ca := Sta.start ev (Or.inr ⟨(hw _ (List.mem_of_getElem? (i := 44) rfl)), (hsets _ (List.mem_of_getElem? (i := 2) rfl))⟩)
  have hca := Ar.fin (Vm.Alike.refl _)
  have ll := eqv_i (Term.int_eval (256)) (Cond.before_iff.mp (hsets _ (List.mem_of_getElem? (i := 6) rfl)))
  obtain ⟨b', cl', eb, ec, hsz, hv⟩ := Jvm.Lib.length_spec ll
  obtain rfl : ca = b' := Value.ref.inj (Option.some.inj (ev.symm.trans eb))
  obtain rfl : cc = cl' := Option.some.inj (hca.symm.trans ec)
  have hsz2 : cc.slots.size.toInt32 = 256 := (Value.int.inj hv).symm
  have BX := Bxs.start (val := fun j => Value.int (j - (128 : Int32))) et Ar hsz hsz2 (by decide) (Cond.before_iff.mp (hsets _ (List.mem_of_getElem? (i := 7) rfl))) (fun X j nn q => eqv_i (own_subt nn) q)
  have CH : CHv s EL s.vm s.heap := fun p hp => by cases hp
  obtain ⟨n, o, h1, h2, h3, _, L, rfl, ⟨rfl, N⟩, -, hq⟩ := rm0 l s _ hw tables_1 i0 i1 i2 i3 i4 i5 ca cc _ s.heap s.heap.size (Nat.le_refl _) (Old.start s) S_hi S_ca BX p e ha hc hk s m _ below hf ((Spec.applies_iff_loose hf).mp happ).1 ⟨rfl, State.Warmed39.refl s, rfl, CH, fun x hx => by cases hx⟩ trivial
  refine ⟨n, _, h1, h2, h3, hpost _ _ _ _ _ _ ⟨Cond.after_iff.mpr rfl, Cond.after_iff.mpr (eq_i res_at (Term.int_eval (1)) rfl), trivial⟩ ⟨hq.1, hq.2.1, hq.2.2.1, (hq.2.2.2.sift fun y hy => Or.inr (N y hy)).mono (by decide) (by decide)⟩⟩
theorem main_1_1 : Claimed_1_1 := comes_1 fun _ _ _ _ _ _ h hF => ⟨h.1, hF⟩
theorem main_1_2 : Claimed_1_2 := comes_1 fun _ _ _ _ _ _ h hF => ⟨h.2.1, hF⟩
end Jvm.Pilot.@@N@@
namespace Jvm.Pilot.@@N@@
open Jvm Jvm.ClassFile Sem Op Lib Jvm.Free Jvm.Stand Jvm.Pilot.@@N@@.Jvm.D
/-! MADE BY PROGRAM (witnessworld.py) out of the Statement's table words and the real class files: 21 classes; the members and pool entries that the words name. The judged class is class 1, her method 1. -/
namespace start1
open Jvm.ClassFile
def u (s : String) : CpInfo := .utf8 (stringToUtf16 s)
/-- a pool by its gaps: so many unusable entries, then the entry; so many at the end -/
def gap : Nat → List CpInfo → List CpInfo
  | 0, r => r
  | n + 1, r => .unusable :: gap n r
def poolList (es : List (Nat × CpInfo)) (last : Nat) : List CpInfo := es.foldr (fun e r => gap e.1 (e.2 :: r)) (gap last [])
def pool (es : List (Nat × CpInfo)) (last : Nat) : Array CpInfo := ⟨poolList es last⟩
def fileOf (pool : Array CpInfo) (this : Nat) (attrs : Array Attribute := #[]) (ms : Array MethodInfo := #[]) (fl : Nat := 33) (sup : Nat := 0) (ifs : Array Nat := #[]) (fds : Array FieldInfo := #[]) : ClassFile where
  minorVersion := 0
  majorVersion := 65
  constantPool := pool
  accessFlags := fl
  thisClass := this
  superClass := sup
  interfaces := ifs
  fields := fds
  methods := ms
  attributes := attrs
def plain (name : String) (sup : Option ClassId) : Class where
  name := name
  kind := .ordinary
  loader := none
  accessFlags := 33
  super := sup
  interfaces := #[]
  cf := none
  fields := #[]
  methods := #[]
  instanceTypes := #[]
  staticTypes := #[]
  resolved := #[]
  callSites := []
  init := .initialized
  statics := none
  mirror := none

def pool0 : Array CpInfo := pool [(5, u "<init>"), (0, u "()V"), (1, .class_ 10), (1, u "java/lang/Object")] 113

def k0c0 : Code := { maxStack := 0, maxLocals := 1, code := object_method_1_code, exceptionTable := #[], attributes := #[] }
def k0m0 : Method := { name := "<init>", desc := "()V", sig := { parameters := [], returnType := none }, accessFlags := 1, code := some k0c0 }
/-- java/lang/Object -/
def k0 : Class := { plain "java/lang/Object" none with
  accessFlags := 33
  interfaces := #[]
  cf := some (fileOf pool0 8 #[] #[{ accessFlags := 1, nameIndex := 5, descriptorIndex := 6, attributes := #[] }] 33 0 #[] #[])
  fields := #[]
  methods := #[k0m0]
  instanceTypes := #[]
  staticTypes := #[]
  resolved := Array.replicate 124 none
  statics := none }

def pool1 : Array CpInfo := pool [(2, .class_ 4), (1, u "java/lang/Object"), (0, u "<init>"), (0, u "()V"), (0, .integer 2147483647), (0, .class_ 9), (0, u "com/example/flok/flok/geo/Box"), (0, .methodref 8 11), (0, .nameAndType 5 12), (0, u "(DDDD)V"), (0, .methodref 14 15), (0, .class_ 16), (0, .nameAndType 17 18), (0, u "java/lang/Integer"), (0, u "valueOf"), (0, u "(I)Ljava/lang/Integer;"), (0, .methodref 8 20), (0, .nameAndType 21 22), (0, u "equals"), (0, u "(Ljava/lang/Object;)Z"), (0, .class_ 24), (0, u "com/example/flok/flok/geo/BoxEqualsPinLaw"), (2, u "law"), (0, u "(IIIIII)Z")] 3

def k1m0 : Method := { name := "<init>", desc := "()V", sig := { parameters := [], returnType := none }, accessFlags := 1, code := none }
def k1c1 : Code := { maxStack := 10, maxLocals := 20, code := code, exceptionTable := #[], attributes := #[] }
def k1m1 : Method := { name := "law", desc := "(IIIIII)Z", sig := { parameters := [.int, .int, .int, .int, .int, .int], returnType := some .boolean }, accessFlags := 9, code := some k1c1 }
/-- com/example/flok/flok/geo/BoxEqualsPinLaw -/
def k1 : Class := { plain "com/example/flok/flok/geo/BoxEqualsPinLaw" (some 0) with
  accessFlags := 49
  interfaces := #[]
  cf := some (fileOf pool1 23 #[] #[{ accessFlags := 1, nameIndex := 5, descriptorIndex := 6, attributes := #[] }, { accessFlags := 9, nameIndex := 27, descriptorIndex := 28, attributes := #[] }] 49 2 #[] #[])
  fields := #[]
  methods := #[k1m0, k1m1]
  instanceTypes := #[]
  staticTypes := #[]
  resolved := Array.replicate 32 none
  statics := none }

def pool2 : Array CpInfo := pool [(1, .class_ 2), (0, u "com/example/flok/flok/geo/Extent"), (0, .class_ 4), (0, u "java/lang/Object")] 6

/-- com/example/flok/flok/geo/Extent -/
def k2 : Class := { plain "com/example/flok/flok/geo/Extent" (some 0) with
  accessFlags := 1537
  interfaces := #[]
  cf := some (fileOf pool2 1 #[] #[] 1537 3 #[] #[])
  fields := #[]
  methods := #[]
  instanceTypes := #[]
  staticTypes := #[]
  resolved := Array.replicate 11 none
  statics := none }

def pool3 : Array CpInfo := pool [(1, .class_ 2), (0, u "com/example/flok/flok/geo/Region"), (0, .class_ 4), (0, u "java/lang/Object"), (0, .class_ 6), (0, u "com/example/flok/flok/geo/Extent")] 13

/-- com/example/flok/flok/geo/Region -/
def k3 : Class := { plain "com/example/flok/flok/geo/Region" (some 0) with
  accessFlags := 1537
  interfaces := #[2]
  cf := some (fileOf pool3 1 #[] #[] 1537 3 #[5] #[])
  fields := #[]
  methods := #[]
  instanceTypes := #[]
  staticTypes := #[]
  resolved := Array.replicate 20 none
  statics := none }

def pool4 : Array CpInfo := pool [(1, .methodref 2 3), (0, .class_ 4), (0, .nameAndType 5 6), (0, u "java/lang/Object"), (0, u "<init>"), (0, u "()V"), (0, .string 8), (0, u "west"), (0, .methodref 10 11), (0, .class_ 12), (0, .nameAndType 13 14), (0, u "com/example/flok/flok/geo/Coordinates"), (0, u "checkLongitude"), (0, u "(Ljava/lang/String;D)V"), (0, .string 16), (0, u "south"), (0, .methodref 10 18), (0, .nameAndType 19 14), (0, u "checkLatitude"), (0, .string 21), (0, u "east"), (0, .string 23), (0, u "north"), (10, .fieldref 35 36), (0, .class_ 37), (0, .nameAndType 8 38), (0, u "com/example/flok/flok/geo/Box"), (0, u "D"), (0, .fieldref 35 40), (0, .nameAndType 16 38), (0, .fieldref 35 42), (0, .nameAndType 21 38), (0, .fieldref 35 44), (0, .nameAndType 23 38), (99, u "(DDDD)V"), (20, .class_ 166), (0, u "com/example/flok/flok/geo/Region"), (3, u "equals"), (0, u "(Ljava/lang/Object;)Z")] 38

def k4c0 : Code := { maxStack := 6, maxLocals := 9, code := prog_20_method_1_code, exceptionTable := #[], attributes := #[] }
def k4m0 : Method := { name := "<init>", desc := "(DDDD)V", sig := { parameters := [.double, .double, .double, .double], returnType := none }, accessFlags := 1, code := some k4c0 }
def k4c1 : Code := { maxStack := 4, maxLocals := 3, code := prog_20_method_6_code, exceptionTable := #[], attributes := #[] }
def k4m1 : Method := { name := "equals", desc := "(Ljava/lang/Object;)Z", sig := { parameters := [(.object "java/lang/Object")], returnType := some .boolean }, accessFlags := 1, code := some k4c1 }
/-- com/example/flok/flok/geo/Box -/
def k4 : Class := { plain "com/example/flok/flok/geo/Box" (some 0) with
  accessFlags := 49
  interfaces := #[3]
  cf := some (fileOf pool4 35 #[] #[{ accessFlags := 1, nameIndex := 5, descriptorIndex := 144, attributes := #[] }, { accessFlags := 1, nameIndex := 170, descriptorIndex := 171, attributes := #[] }] 49 2 #[165] #[{ accessFlags := 18, nameIndex := 8, descriptorIndex := 38, attributes := #[] }, { accessFlags := 18, nameIndex := 16, descriptorIndex := 38, attributes := #[] }, { accessFlags := 18, nameIndex := 21, descriptorIndex := 38, attributes := #[] }, { accessFlags := 18, nameIndex := 23, descriptorIndex := 38, attributes := #[] }])
  fields := #[{ name := "west", type := .double, accessFlags := 18, slot := 0, constantValue := 0 }, { name := "south", type := .double, accessFlags := 18, slot := 1, constantValue := 0 }, { name := "east", type := .double, accessFlags := 18, slot := 2, constantValue := 0 }, { name := "north", type := .double, accessFlags := 18, slot := 3, constantValue := 0 }]
  methods := #[k4m0, k4m1]
  instanceTypes := #[.double, .double, .double, .double]
  staticTypes := #[]
  resolved := Array.replicate 210 none
  statics := none }

def pool5 : Array CpInfo := pool [(1, .class_ 2), (0, u "java/io/Serializable"), (0, .class_ 4), (0, u "java/lang/Object")] 2

/-- java/io/Serializable -/
def k5 : Class := { plain "java/io/Serializable" (some 0) with
  accessFlags := 1537
  interfaces := #[]
  cf := some (fileOf pool5 1 #[] #[] 1537 3 #[] #[])
  fields := #[]
  methods := #[]
  instanceTypes := #[]
  staticTypes := #[]
  resolved := Array.replicate 7 none
  statics := none }

def pool6 : Array CpInfo := pool [(1, .class_ 2), (0, u "java/lang/Comparable"), (0, .class_ 4), (0, u "java/lang/Object")] 7

/-- java/lang/Comparable -/
def k6 : Class := { plain "java/lang/Comparable" (some 0) with
  accessFlags := 1537
  interfaces := #[]
  cf := some (fileOf pool6 1 #[] #[] 1537 3 #[] #[])
  fields := #[]
  methods := #[]
  instanceTypes := #[]
  staticTypes := #[]
  resolved := Array.replicate 12 none
  statics := none }

def pool7 : Array CpInfo := pool [(2, .class_ 4), (1, u "java/lang/CharSequence"), (42, .class_ 48), (0, u "java/lang/CharSequence$1CodePointIterator"), (10, .class_ 60), (0, u "java/lang/CharSequence$1CharIterator"), (5, .class_ 67), (0, u "java/lang/Object")] 63

/-- java/lang/CharSequence -/
def k7 : Class := { plain "java/lang/CharSequence" (some 0) with
  accessFlags := 1537
  interfaces := #[]
  cf := some (fileOf pool7 2 #[.nestMembers #[47, 59]] #[] 1537 66 #[] #[])
  fields := #[]
  methods := #[]
  instanceTypes := #[]
  staticTypes := #[]
  resolved := Array.replicate 131 none
  statics := none }

def pool8 : Array CpInfo := pool [(1, .class_ 2), (0, u "java/lang/constant/Constable"), (0, .class_ 4), (0, u "java/lang/Object")] 6

/-- java/lang/constant/Constable -/
def k8 : Class := { plain "java/lang/constant/Constable" (some 0) with
  accessFlags := 1537
  interfaces := #[]
  cf := some (fileOf pool8 1 #[] #[] 1537 3 #[] #[])
  fields := #[]
  methods := #[]
  instanceTypes := #[]
  staticTypes := #[]
  resolved := Array.replicate 11 none
  statics := none }

def pool9 : Array CpInfo := pool [(1, .class_ 2), (0, u "java/lang/constant/ConstantDesc"), (0, .class_ 4), (0, u "java/lang/Object")] 32

/-- java/lang/constant/ConstantDesc -/
def k9 : Class := { plain "java/lang/constant/ConstantDesc" (some 0) with
  accessFlags := 1537
  interfaces := #[]
  cf := some (fileOf pool9 1 #[] #[] 1537 3 #[] #[])
  fields := #[]
  methods := #[]
  instanceTypes := #[]
  staticTypes := #[]
  resolved := Array.replicate 37 none
  statics := none }

def pool10 : Array CpInfo := pool [(2, .class_ 4), (1, u "java/lang/Object"), (0, u "<init>"), (0, u "()V"), (3, .class_ 12), (1, u "java/lang/String"), (0, u "value"), (0, u "[B"), (2, u "coder"), (0, u "B"), (2, u "hash"), (0, u "I"), (2, u "hashIsZero"), (0, u "Z"), (13, u "COMPACT_STRINGS"), (534, .class_ 576), (0, u "java/lang/CharSequence"), (22, u "CASE_INSENSITIVE_ORDER"), (0, u "Ljava/util/Comparator;"), (500, u "serialPersistentFields"), (0, u "[Ljava/io/ObjectStreamField;"), (0, .class_ 1104), (0, u "java/lang/String$CaseInsensitiveComparator"), (1, .class_ 1107), (0, u "java/io/Serializable"), (0, .class_ 1109), (0, u "java/lang/Comparable"), (0, .class_ 1111), (0, u "java/lang/constant/Constable"), (0, .class_ 1113), (0, u "java/lang/constant/ConstantDesc"), (2, u "serialVersionUID"), (0, u "J"), (3, u "REPL"), (0, u "C"), (2, u "LATIN1"), (1, u "UTF16")] 323

def k10m0 : Method := { name := "<init>", desc := "()V", sig := { parameters := [], returnType := none }, accessFlags := 1, code := none }
/-- java/lang/String -/
def k10 : Class := { plain "java/lang/String" (some 0) with
  accessFlags := 49
  interfaces := #[5, 6, 7, 8, 9]
  cf := some (fileOf pool10 10 #[.nestMembers #[1103]] #[{ accessFlags := 1, nameIndex := 5, descriptorIndex := 6, attributes := #[] }] 49 2 #[1106, 1108, 575, 1110, 1112] #[{ accessFlags := 18, nameIndex := 13, descriptorIndex := 14, attributes := #[] }, { accessFlags := 18, nameIndex := 17, descriptorIndex := 18, attributes := #[] }, { accessFlags := 2, nameIndex := 21, descriptorIndex := 22, attributes := #[] }, { accessFlags := 2, nameIndex := 25, descriptorIndex := 26, attributes := #[] }, { accessFlags := 26, nameIndex := 1116, descriptorIndex := 1117, attributes := #[] }, { accessFlags := 24, nameIndex := 40, descriptorIndex := 26, attributes := #[] }, { accessFlags := 26, nameIndex := 1101, descriptorIndex := 1102, attributes := #[] }, { accessFlags := 26, nameIndex := 1121, descriptorIndex := 1122, attributes := #[] }, { accessFlags := 25, nameIndex := 599, descriptorIndex := 600, attributes := #[] }, { accessFlags := 24, nameIndex := 1125, descriptorIndex := 18, attributes := #[] }, { accessFlags := 24, nameIndex := 1127, descriptorIndex := 18, attributes := #[] }])
  fields := #[{ name := "value", type := (.array .byte), accessFlags := 18, slot := 0, constantValue := 0 }, { name := "coder", type := .byte, accessFlags := 18, slot := 1, constantValue := 0 }, { name := "hash", type := .int, accessFlags := 2, slot := 2, constantValue := 0 }, { name := "hashIsZero", type := .boolean, accessFlags := 2, slot := 3, constantValue := 0 }, { name := "serialVersionUID", type := .long, accessFlags := 26, slot := 0, constantValue := 0 }, { name := "COMPACT_STRINGS", type := .boolean, accessFlags := 24, slot := 1, constantValue := 0 }, { name := "serialPersistentFields", type := (.array (.object "java/io/ObjectStreamField")), accessFlags := 26, slot := 2, constantValue := 0 }, { name := "REPL", type := .char, accessFlags := 26, slot := 3, constantValue := 0 }, { name := "CASE_INSENSITIVE_ORDER", type := (.object "java/util/Comparator"), accessFlags := 25, slot := 4, constantValue := 0 }, { name := "LATIN1", type := .byte, accessFlags := 24, slot := 5, constantValue := 0 }, { name := "UTF16", type := .byte, accessFlags := 24, slot := 6, constantValue := 0 }]
  methods := #[k10m0]
  instanceTypes := #[(.array .byte), .byte, .int, .boolean]
  staticTypes := #[.long, .boolean, (.array (.object "java/io/ObjectStreamField")), .char, (.object "java/util/Comparator"), .byte, .byte]
  resolved := Array.replicate 1451 none
  statics := none }

def pool11 : Array CpInfo := pool [(2, .class_ 4), (1, u "java/lang/Object"), (0, u "<init>"), (0, u "()V"), (0, .methodref 8 9), (0, .class_ 10), (0, .nameAndType 11 12), (0, u "com/example/flok/flok/geo/Coordinates"), (0, u "checkRange"), (0, u "(Ljava/lang/String;DI)V"), (11, u "checkLongitude"), (0, u "(Ljava/lang/String;D)V"), (0, u "checkLatitude")] 18

def k11m0 : Method := { name := "<init>", desc := "()V", sig := { parameters := [], returnType := none }, accessFlags := 2, code := none }
def k11c1 : Code := { maxStack := 4, maxLocals := 3, code := prog_26_method_2_code, exceptionTable := #[], attributes := #[] }
def k11m1 : Method := { name := "checkLongitude", desc := "(Ljava/lang/String;D)V", sig := { parameters := [(.object "java/lang/String"), .double], returnType := none }, accessFlags := 9, code := some k11c1 }
def k11c2 : Code := { maxStack := 4, maxLocals := 3, code := prog_26_method_3_code, exceptionTable := #[], attributes := #[] }
def k11m2 : Method := { name := "checkLatitude", desc := "(Ljava/lang/String;D)V", sig := { parameters := [(.object "java/lang/String"), .double], returnType := none }, accessFlags := 9, code := some k11c2 }
def k11c3 : Code := { maxStack := 7, maxLocals := 4, code := prog_26_method_4_code, exceptionTable := #[], attributes := #[] }
def k11m3 : Method := { name := "checkRange", desc := "(Ljava/lang/String;DI)V", sig := { parameters := [(.object "java/lang/String"), .double, .int], returnType := none }, accessFlags := 10, code := some k11c3 }
/-- com/example/flok/flok/geo/Coordinates -/
def k11 : Class := { plain "com/example/flok/flok/geo/Coordinates" (some 0) with
  accessFlags := 49
  interfaces := #[]
  cf := some (fileOf pool11 8 #[] #[{ accessFlags := 2, nameIndex := 5, descriptorIndex := 6, attributes := #[] }, { accessFlags := 9, nameIndex := 24, descriptorIndex := 25, attributes := #[] }, { accessFlags := 9, nameIndex := 26, descriptorIndex := 25, attributes := #[] }, { accessFlags := 10, nameIndex := 11, descriptorIndex := 12, attributes := #[] }] 49 2 #[] #[])
  fields := #[]
  methods := #[k11m0, k11m1, k11m2, k11m3]
  instanceTypes := #[]
  staticTypes := #[]
  resolved := Array.replicate 45 none
  statics := none }

def pool12 : Array CpInfo := pool [(1, .methodref 2 3), (0, .class_ 4), (0, .nameAndType 5 6), (0, u "java/lang/Object"), (0, u "<init>"), (0, u "()V"), (1, .class_ 10), (1, u "java/lang/Number"), (2, .class_ 14), (0, u "java/io/Serializable"), (0, u "serialVersionUID"), (0, u "J")] 20

def k12c0 : Code := { maxStack := 1, maxLocals := 1, code := jdk_18_method_1_code, exceptionTable := #[], attributes := #[] }
def k12m0 : Method := { name := "<init>", desc := "()V", sig := { parameters := [], returnType := none }, accessFlags := 1, code := some k12c0 }
/-- java/lang/Number -/
def k12 : Class := { plain "java/lang/Number" (some 0) with
  accessFlags := 1057
  interfaces := #[5]
  cf := some (fileOf pool12 8 #[] #[{ accessFlags := 1, nameIndex := 5, descriptorIndex := 6, attributes := #[] }] 1057 2 #[13] #[{ accessFlags := 26, nameIndex := 15, descriptorIndex := 16, attributes := #[] }])
  fields := #[{ name := "serialVersionUID", type := .long, accessFlags := 26, slot := 0, constantValue := 0 }]
  methods := #[k12m0]
  instanceTypes := #[]
  staticTypes := #[.long]
  resolved := Array.replicate 37 none
  statics := none }

def pool13 : Array CpInfo := pool [(1, .class_ 2), (0, u "java/lang/Integer"), (16, u "digits"), (0, u "[C"), (46, u "<init>"), (17, u "DigitOnes"), (0, u "[B"), (2, u "DigitTens"), (10, .nameAndType 67 101), (0, u "()V"), (85, u "valueOf"), (0, u "(I)Ljava/lang/Integer;"), (0, .class_ 190), (0, u "java/lang/Integer$IntegerCache"), (0, .fieldref 189 192), (0, .nameAndType 193 194), (0, u "high"), (0, u "I"), (0, .fieldref 189 196), (0, .nameAndType 197 198), (0, u "cache"), (0, u "[Ljava/lang/Integer;"), (0, .methodref 1 200), (0, .nameAndType 67 201), (0, u "(I)V"), (0, .methodref 203 100), (0, .class_ 204), (0, u "java/lang/Number"), (0, .fieldref 1 206), (0, .nameAndType 207 194), (0, u "value"), (94, u "TYPE"), (0, u "Ljava/lang/Class;"), (0, .class_ 305), (0, u "java/lang/Comparable"), (0, .class_ 307), (0, u "java/lang/constant/Constable"), (0, .class_ 309), (0, u "java/lang/constant/ConstantDesc"), (0, u "MIN_VALUE"), (1, u "MAX_VALUE"), (3, u "SIZE"), (1, u "BYTES"), (1, u "serialVersionUID"), (0, u "J")] 131

def k13c0 : Code := { maxStack := 3, maxLocals := 1, code := jdk_33_method_22_code, exceptionTable := #[], attributes := #[] }
def k13m0 : Method := { name := "valueOf", desc := "(I)Ljava/lang/Integer;", sig := { parameters := [.int], returnType := some (.object "java/lang/Integer") }, accessFlags := 9, code := some k13c0 }
def k13c1 : Code := { maxStack := 2, maxLocals := 2, code := jdk_33_method_23_code, exceptionTable := #[], attributes := #[] }
def k13m1 : Method := { name := "<init>", desc := "(I)V", sig := { parameters := [.int], returnType := none }, accessFlags := 1, code := some k13c1 }
/-- java/lang/Integer -/
def k13 : Class := { plain "java/lang/Integer" (some 12) with
  accessFlags := 49
  interfaces := #[6, 8, 9]
  cf := some (fileOf pool13 1 #[.nestMembers #[189]] #[{ accessFlags := 9, nameIndex := 187, descriptorIndex := 188, attributes := #[] }, { accessFlags := 1, nameIndex := 67, descriptorIndex := 201, attributes := #[] }] 49 203 #[304, 306, 308] #[{ accessFlags := 25, nameIndex := 310, descriptorIndex := 194, attributes := #[] }, { accessFlags := 25, nameIndex := 312, descriptorIndex := 194, attributes := #[] }, { accessFlags := 25, nameIndex := 302, descriptorIndex := 303, attributes := #[] }, { accessFlags := 24, nameIndex := 19, descriptorIndex := 20, attributes := #[] }, { accessFlags := 24, nameIndex := 89, descriptorIndex := 86, attributes := #[] }, { accessFlags := 24, nameIndex := 85, descriptorIndex := 86, attributes := #[] }, { accessFlags := 18, nameIndex := 207, descriptorIndex := 194, attributes := #[] }, { accessFlags := 25, nameIndex := 316, descriptorIndex := 194, attributes := #[] }, { accessFlags := 25, nameIndex := 318, descriptorIndex := 194, attributes := #[] }, { accessFlags := 26, nameIndex := 320, descriptorIndex := 321, attributes := #[] }])
  fields := #[{ name := "MIN_VALUE", type := .int, accessFlags := 25, slot := 0, constantValue := 0 }, { name := "MAX_VALUE", type := .int, accessFlags := 25, slot := 1, constantValue := 0 }, { name := "TYPE", type := (.object "java/lang/Class"), accessFlags := 25, slot := 2, constantValue := 0 }, { name := "digits", type := (.array .char), accessFlags := 24, slot := 3, constantValue := 0 }, { name := "DigitTens", type := (.array .byte), accessFlags := 24, slot := 4, constantValue := 0 }, { name := "DigitOnes", type := (.array .byte), accessFlags := 24, slot := 5, constantValue := 0 }, { name := "value", type := .int, accessFlags := 18, slot := 0, constantValue := 0 }, { name := "SIZE", type := .int, accessFlags := 25, slot := 6, constantValue := 0 }, { name := "BYTES", type := .int, accessFlags := 25, slot := 7, constantValue := 0 }, { name := "serialVersionUID", type := .long, accessFlags := 26, slot := 8, constantValue := 0 }]
  methods := #[k13m0, k13m1]
  instanceTypes := #[.int]
  staticTypes := #[.int, .int, (.object "java/lang/Class"), (.array .char), (.array .byte), (.array .byte), .int, .int, .long]
  resolved := Array.replicate 453 none
  statics := none }

def pool14 : Array CpInfo := pool [(2, .class_ 4), (1, u "java/lang/Object"), (0, u "<init>"), (0, u "()V"), (0, .class_ 8), (0, u "java/lang/Integer"), (7, .class_ 18), (1, u "java/lang/Integer$IntegerCache"), (0, u "$assertionsDisabled"), (0, u "Z"), (26, u "high"), (0, u "I"), (8, u "archivedCache"), (0, u "[Ljava/lang/Integer;"), (12, u "cache"), (0, u "low")] 27

def k14m0 : Method := { name := "<init>", desc := "()V", sig := { parameters := [], returnType := none }, accessFlags := 2, code := none }
/-- java/lang/Integer$IntegerCache -/
def k14 : Class := { plain "java/lang/Integer$IntegerCache" (some 0) with
  accessFlags := 48
  interfaces := #[]
  cf := some (fileOf pool14 16 #[.nestHost 7] #[{ accessFlags := 2, nameIndex := 5, descriptorIndex := 6, attributes := #[] }] 48 2 #[] #[{ accessFlags := 24, nameIndex := 72, descriptorIndex := 48, attributes := #[] }, { accessFlags := 24, nameIndex := 47, descriptorIndex := 48, attributes := #[] }, { accessFlags := 24, nameIndex := 71, descriptorIndex := 58, attributes := #[] }, { accessFlags := 8, nameIndex := 57, descriptorIndex := 58, attributes := #[] }, { accessFlags := 4120, nameIndex := 19, descriptorIndex := 20, attributes := #[] }])
  fields := #[{ name := "low", type := .int, accessFlags := 24, slot := 0, constantValue := 0 }, { name := "high", type := .int, accessFlags := 24, slot := 1, constantValue := 0 }, { name := "cache", type := (.array (.object "java/lang/Integer")), accessFlags := 24, slot := 2, constantValue := 0 }, { name := "archivedCache", type := (.array (.object "java/lang/Integer")), accessFlags := 8, slot := 3, constantValue := 0 }, { name := "$assertionsDisabled", type := .boolean, accessFlags := 4120, slot := 4, constantValue := 0 }]
  methods := #[k14m0]
  instanceTypes := #[]
  staticTypes := #[.int, .int, (.array (.object "java/lang/Integer")), (.array (.object "java/lang/Integer")), .boolean]
  resolved := Array.replicate 100 none
  statics := some 0 }

def pool15 : Array CpInfo := pool [(1, u "java/lang/Cloneable"), (0, .class_ 1), (0, u "java/lang/Object"), (0, .class_ 3)] 3

/-- java/lang/Cloneable -/
def k15 : Class := { plain "java/lang/Cloneable" (some 0) with
  accessFlags := 1537
  interfaces := #[]
  cf := some (fileOf pool15 2 #[] #[] 1537 4 #[] #[])
  fields := #[]
  methods := #[]
  instanceTypes := #[]
  staticTypes := #[]
  resolved := Array.replicate 8 none
  statics := none }

/-- the primitive byte -/
def k16 : Class := { plain "byte" none with kind := .primitive 'B', accessFlags := 0x411 }
/-- [B -/
def k17 : Class := { plain "[B" (some 0) with kind := .array 16 .byte, interfaces := #[15, 5], accessFlags := 1041 }

/-- the primitive int -/
def k18 : Class := { plain "int" none with kind := .primitive 'I', accessFlags := 0x411 }
/-- [I -/
def k19 : Class := { plain "[I" (some 0) with kind := .array 18 .int, interfaces := #[15, 5], accessFlags := 1041 }

/-- [Ljava/lang/Integer; -/
def k20 : Class := { plain "[Ljava/lang/Integer;" (some 0) with kind := .array 13 (.object "java/lang/Integer"), interfaces := #[15, 5], accessFlags := 1041 }

def heap : Heap := #[{ cls := 14, slots := #[.int 0, .int 127, .ref 1, .null, .int 0], vm := .statics 14 },
  { cls := 20, slots := #[.ref 2, .ref 3, .ref 4, .ref 5, .ref 6, .ref 7, .ref 8, .ref 9, .ref 10, .ref 11, .ref 12, .ref 13, .ref 14, .ref 15, .ref 16, .ref 17, .ref 18, .ref 19, .ref 20, .ref 21, .ref 22, .ref 23, .ref 24, .ref 25, .ref 26, .ref 27, .ref 28, .ref 29, .ref 30, .ref 31, .ref 32, .ref 33, .ref 34, .ref 35, .ref 36, .ref 37, .ref 38, .ref 39, .ref 40, .ref 41, .ref 42, .ref 43, .ref 44, .ref 45, .ref 46, .ref 47, .ref 48, .ref 49, .ref 50, .ref 51, .ref 52, .ref 53, .ref 54, .ref 55, .ref 56, .ref 57, .ref 58, .ref 59, .ref 60, .ref 61, .ref 62, .ref 63, .ref 64, .ref 65, .ref 66, .ref 67, .ref 68, .ref 69, .ref 70, .ref 71, .ref 72, .ref 73, .ref 74, .ref 75, .ref 76, .ref 77, .ref 78, .ref 79, .ref 80, .ref 81, .ref 82, .ref 83, .ref 84, .ref 85, .ref 86, .ref 87, .ref 88, .ref 89, .ref 90, .ref 91, .ref 92, .ref 93, .ref 94, .ref 95, .ref 96, .ref 97, .ref 98, .ref 99, .ref 100, .ref 101, .ref 102, .ref 103, .ref 104, .ref 105, .ref 106, .ref 107, .ref 108, .ref 109, .ref 110, .ref 111, .ref 112, .ref 113, .ref 114, .ref 115, .ref 116, .ref 117, .ref 118, .ref 119, .ref 120, .ref 121, .ref 122, .ref 123, .ref 124, .ref 125, .ref 126, .ref 127, .ref 128, .ref 129, .ref 130, .ref 131, .ref 132, .ref 133, .ref 134, .ref 135, .ref 136, .ref 137, .ref 138, .ref 139, .ref 140, .ref 141, .ref 142, .ref 143, .ref 144, .ref 145, .ref 146, .ref 147, .ref 148, .ref 149, .ref 150, .ref 151, .ref 152, .ref 153, .ref 154, .ref 155, .ref 156, .ref 157, .ref 158, .ref 159, .ref 160, .ref 161, .ref 162, .ref 163, .ref 164, .ref 165, .ref 166, .ref 167, .ref 168, .ref 169, .ref 170, .ref 171, .ref 172, .ref 173, .ref 174, .ref 175, .ref 176, .ref 177, .ref 178, .ref 179, .ref 180, .ref 181, .ref 182, .ref 183, .ref 184, .ref 185, .ref 186, .ref 187, .ref 188, .ref 189, .ref 190, .ref 191, .ref 192, .ref 193, .ref 194, .ref 195, .ref 196, .ref 197, .ref 198, .ref 199, .ref 200, .ref 201, .ref 202, .ref 203, .ref 204, .ref 205, .ref 206, .ref 207, .ref 208, .ref 209, .ref 210, .ref 211, .ref 212, .ref 213, .ref 214, .ref 215, .ref 216, .ref 217, .ref 218, .ref 219, .ref 220, .ref 221, .ref 222, .ref 223, .ref 224, .ref 225, .ref 226, .ref 227, .ref 228, .ref 229, .ref 230, .ref 231, .ref 232, .ref 233, .ref 234, .ref 235, .ref 236, .ref 237, .ref 238, .ref 239, .ref 240, .ref 241, .ref 242, .ref 243, .ref 244, .ref 245, .ref 246, .ref 247, .ref 248, .ref 249, .ref 250, .ref 251, .ref 252, .ref 253, .ref 254, .ref 255, .ref 256, .ref 257], vm := .none },
  { cls := 13, slots := #[.int (-128)], vm := .none },
  { cls := 13, slots := #[.int (-127)], vm := .none },
  { cls := 13, slots := #[.int (-126)], vm := .none },
  { cls := 13, slots := #[.int (-125)], vm := .none },
  { cls := 13, slots := #[.int (-124)], vm := .none },
  { cls := 13, slots := #[.int (-123)], vm := .none },
  { cls := 13, slots := #[.int (-122)], vm := .none },
  { cls := 13, slots := #[.int (-121)], vm := .none },
  { cls := 13, slots := #[.int (-120)], vm := .none },
  { cls := 13, slots := #[.int (-119)], vm := .none },
  { cls := 13, slots := #[.int (-118)], vm := .none },
  { cls := 13, slots := #[.int (-117)], vm := .none },
  { cls := 13, slots := #[.int (-116)], vm := .none },
  { cls := 13, slots := #[.int (-115)], vm := .none },
  { cls := 13, slots := #[.int (-114)], vm := .none },
  { cls := 13, slots := #[.int (-113)], vm := .none },
  { cls := 13, slots := #[.int (-112)], vm := .none },
  { cls := 13, slots := #[.int (-111)], vm := .none },
  { cls := 13, slots := #[.int (-110)], vm := .none },
  { cls := 13, slots := #[.int (-109)], vm := .none },
  { cls := 13, slots := #[.int (-108)], vm := .none },
  { cls := 13, slots := #[.int (-107)], vm := .none },
  { cls := 13, slots := #[.int (-106)], vm := .none },
  { cls := 13, slots := #[.int (-105)], vm := .none },
  { cls := 13, slots := #[.int (-104)], vm := .none },
  { cls := 13, slots := #[.int (-103)], vm := .none },
  { cls := 13, slots := #[.int (-102)], vm := .none },
  { cls := 13, slots := #[.int (-101)], vm := .none },
  { cls := 13, slots := #[.int (-100)], vm := .none },
  { cls := 13, slots := #[.int (-99)], vm := .none },
  { cls := 13, slots := #[.int (-98)], vm := .none },
  { cls := 13, slots := #[.int (-97)], vm := .none },
  { cls := 13, slots := #[.int (-96)], vm := .none },
  { cls := 13, slots := #[.int (-95)], vm := .none },
  { cls := 13, slots := #[.int (-94)], vm := .none },
  { cls := 13, slots := #[.int (-93)], vm := .none },
  { cls := 13, slots := #[.int (-92)], vm := .none },
  { cls := 13, slots := #[.int (-91)], vm := .none },
  { cls := 13, slots := #[.int (-90)], vm := .none },
  { cls := 13, slots := #[.int (-89)], vm := .none },
  { cls := 13, slots := #[.int (-88)], vm := .none },
  { cls := 13, slots := #[.int (-87)], vm := .none },
  { cls := 13, slots := #[.int (-86)], vm := .none },
  { cls := 13, slots := #[.int (-85)], vm := .none },
  { cls := 13, slots := #[.int (-84)], vm := .none },
  { cls := 13, slots := #[.int (-83)], vm := .none },
  { cls := 13, slots := #[.int (-82)], vm := .none },
  { cls := 13, slots := #[.int (-81)], vm := .none },
  { cls := 13, slots := #[.int (-80)], vm := .none },
  { cls := 13, slots := #[.int (-79)], vm := .none },
  { cls := 13, slots := #[.int (-78)], vm := .none },
  { cls := 13, slots := #[.int (-77)], vm := .none },
  { cls := 13, slots := #[.int (-76)], vm := .none },
  { cls := 13, slots := #[.int (-75)], vm := .none },
  { cls := 13, slots := #[.int (-74)], vm := .none },
  { cls := 13, slots := #[.int (-73)], vm := .none },
  { cls := 13, slots := #[.int (-72)], vm := .none },
  { cls := 13, slots := #[.int (-71)], vm := .none },
  { cls := 13, slots := #[.int (-70)], vm := .none },
  { cls := 13, slots := #[.int (-69)], vm := .none },
  { cls := 13, slots := #[.int (-68)], vm := .none },
  { cls := 13, slots := #[.int (-67)], vm := .none },
  { cls := 13, slots := #[.int (-66)], vm := .none },
  { cls := 13, slots := #[.int (-65)], vm := .none },
  { cls := 13, slots := #[.int (-64)], vm := .none },
  { cls := 13, slots := #[.int (-63)], vm := .none },
  { cls := 13, slots := #[.int (-62)], vm := .none },
  { cls := 13, slots := #[.int (-61)], vm := .none },
  { cls := 13, slots := #[.int (-60)], vm := .none },
  { cls := 13, slots := #[.int (-59)], vm := .none },
  { cls := 13, slots := #[.int (-58)], vm := .none },
  { cls := 13, slots := #[.int (-57)], vm := .none },
  { cls := 13, slots := #[.int (-56)], vm := .none },
  { cls := 13, slots := #[.int (-55)], vm := .none },
  { cls := 13, slots := #[.int (-54)], vm := .none },
  { cls := 13, slots := #[.int (-53)], vm := .none },
  { cls := 13, slots := #[.int (-52)], vm := .none },
  { cls := 13, slots := #[.int (-51)], vm := .none },
  { cls := 13, slots := #[.int (-50)], vm := .none },
  { cls := 13, slots := #[.int (-49)], vm := .none },
  { cls := 13, slots := #[.int (-48)], vm := .none },
  { cls := 13, slots := #[.int (-47)], vm := .none },
  { cls := 13, slots := #[.int (-46)], vm := .none },
  { cls := 13, slots := #[.int (-45)], vm := .none },
  { cls := 13, slots := #[.int (-44)], vm := .none },
  { cls := 13, slots := #[.int (-43)], vm := .none },
  { cls := 13, slots := #[.int (-42)], vm := .none },
  { cls := 13, slots := #[.int (-41)], vm := .none },
  { cls := 13, slots := #[.int (-40)], vm := .none },
  { cls := 13, slots := #[.int (-39)], vm := .none },
  { cls := 13, slots := #[.int (-38)], vm := .none },
  { cls := 13, slots := #[.int (-37)], vm := .none },
  { cls := 13, slots := #[.int (-36)], vm := .none },
  { cls := 13, slots := #[.int (-35)], vm := .none },
  { cls := 13, slots := #[.int (-34)], vm := .none },
  { cls := 13, slots := #[.int (-33)], vm := .none },
  { cls := 13, slots := #[.int (-32)], vm := .none },
  { cls := 13, slots := #[.int (-31)], vm := .none },
  { cls := 13, slots := #[.int (-30)], vm := .none },
  { cls := 13, slots := #[.int (-29)], vm := .none },
  { cls := 13, slots := #[.int (-28)], vm := .none },
  { cls := 13, slots := #[.int (-27)], vm := .none },
  { cls := 13, slots := #[.int (-26)], vm := .none },
  { cls := 13, slots := #[.int (-25)], vm := .none },
  { cls := 13, slots := #[.int (-24)], vm := .none },
  { cls := 13, slots := #[.int (-23)], vm := .none },
  { cls := 13, slots := #[.int (-22)], vm := .none },
  { cls := 13, slots := #[.int (-21)], vm := .none },
  { cls := 13, slots := #[.int (-20)], vm := .none },
  { cls := 13, slots := #[.int (-19)], vm := .none },
  { cls := 13, slots := #[.int (-18)], vm := .none },
  { cls := 13, slots := #[.int (-17)], vm := .none },
  { cls := 13, slots := #[.int (-16)], vm := .none },
  { cls := 13, slots := #[.int (-15)], vm := .none },
  { cls := 13, slots := #[.int (-14)], vm := .none },
  { cls := 13, slots := #[.int (-13)], vm := .none },
  { cls := 13, slots := #[.int (-12)], vm := .none },
  { cls := 13, slots := #[.int (-11)], vm := .none },
  { cls := 13, slots := #[.int (-10)], vm := .none },
  { cls := 13, slots := #[.int (-9)], vm := .none },
  { cls := 13, slots := #[.int (-8)], vm := .none },
  { cls := 13, slots := #[.int (-7)], vm := .none },
  { cls := 13, slots := #[.int (-6)], vm := .none },
  { cls := 13, slots := #[.int (-5)], vm := .none },
  { cls := 13, slots := #[.int (-4)], vm := .none },
  { cls := 13, slots := #[.int (-3)], vm := .none },
  { cls := 13, slots := #[.int (-2)], vm := .none },
  { cls := 13, slots := #[.int (-1)], vm := .none },
  { cls := 13, slots := #[.int (0)], vm := .none },
  { cls := 13, slots := #[.int (1)], vm := .none },
  { cls := 13, slots := #[.int (2)], vm := .none },
  { cls := 13, slots := #[.int (3)], vm := .none },
  { cls := 13, slots := #[.int (4)], vm := .none },
  { cls := 13, slots := #[.int (5)], vm := .none },
  { cls := 13, slots := #[.int (6)], vm := .none },
  { cls := 13, slots := #[.int (7)], vm := .none },
  { cls := 13, slots := #[.int (8)], vm := .none },
  { cls := 13, slots := #[.int (9)], vm := .none },
  { cls := 13, slots := #[.int (10)], vm := .none },
  { cls := 13, slots := #[.int (11)], vm := .none },
  { cls := 13, slots := #[.int (12)], vm := .none },
  { cls := 13, slots := #[.int (13)], vm := .none },
  { cls := 13, slots := #[.int (14)], vm := .none },
  { cls := 13, slots := #[.int (15)], vm := .none },
  { cls := 13, slots := #[.int (16)], vm := .none },
  { cls := 13, slots := #[.int (17)], vm := .none },
  { cls := 13, slots := #[.int (18)], vm := .none },
  { cls := 13, slots := #[.int (19)], vm := .none },
  { cls := 13, slots := #[.int (20)], vm := .none },
  { cls := 13, slots := #[.int (21)], vm := .none },
  { cls := 13, slots := #[.int (22)], vm := .none },
  { cls := 13, slots := #[.int (23)], vm := .none },
  { cls := 13, slots := #[.int (24)], vm := .none },
  { cls := 13, slots := #[.int (25)], vm := .none },
  { cls := 13, slots := #[.int (26)], vm := .none },
  { cls := 13, slots := #[.int (27)], vm := .none },
  { cls := 13, slots := #[.int (28)], vm := .none },
  { cls := 13, slots := #[.int (29)], vm := .none },
  { cls := 13, slots := #[.int (30)], vm := .none },
  { cls := 13, slots := #[.int (31)], vm := .none },
  { cls := 13, slots := #[.int (32)], vm := .none },
  { cls := 13, slots := #[.int (33)], vm := .none },
  { cls := 13, slots := #[.int (34)], vm := .none },
  { cls := 13, slots := #[.int (35)], vm := .none },
  { cls := 13, slots := #[.int (36)], vm := .none },
  { cls := 13, slots := #[.int (37)], vm := .none },
  { cls := 13, slots := #[.int (38)], vm := .none },
  { cls := 13, slots := #[.int (39)], vm := .none },
  { cls := 13, slots := #[.int (40)], vm := .none },
  { cls := 13, slots := #[.int (41)], vm := .none },
  { cls := 13, slots := #[.int (42)], vm := .none },
  { cls := 13, slots := #[.int (43)], vm := .none },
  { cls := 13, slots := #[.int (44)], vm := .none },
  { cls := 13, slots := #[.int (45)], vm := .none },
  { cls := 13, slots := #[.int (46)], vm := .none },
  { cls := 13, slots := #[.int (47)], vm := .none },
  { cls := 13, slots := #[.int (48)], vm := .none },
  { cls := 13, slots := #[.int (49)], vm := .none },
  { cls := 13, slots := #[.int (50)], vm := .none },
  { cls := 13, slots := #[.int (51)], vm := .none },
  { cls := 13, slots := #[.int (52)], vm := .none },
  { cls := 13, slots := #[.int (53)], vm := .none },
  { cls := 13, slots := #[.int (54)], vm := .none },
  { cls := 13, slots := #[.int (55)], vm := .none },
  { cls := 13, slots := #[.int (56)], vm := .none },
  { cls := 13, slots := #[.int (57)], vm := .none },
  { cls := 13, slots := #[.int (58)], vm := .none },
  { cls := 13, slots := #[.int (59)], vm := .none },
  { cls := 13, slots := #[.int (60)], vm := .none },
  { cls := 13, slots := #[.int (61)], vm := .none },
  { cls := 13, slots := #[.int (62)], vm := .none },
  { cls := 13, slots := #[.int (63)], vm := .none },
  { cls := 13, slots := #[.int (64)], vm := .none },
  { cls := 13, slots := #[.int (65)], vm := .none },
  { cls := 13, slots := #[.int (66)], vm := .none },
  { cls := 13, slots := #[.int (67)], vm := .none },
  { cls := 13, slots := #[.int (68)], vm := .none },
  { cls := 13, slots := #[.int (69)], vm := .none },
  { cls := 13, slots := #[.int (70)], vm := .none },
  { cls := 13, slots := #[.int (71)], vm := .none },
  { cls := 13, slots := #[.int (72)], vm := .none },
  { cls := 13, slots := #[.int (73)], vm := .none },
  { cls := 13, slots := #[.int (74)], vm := .none },
  { cls := 13, slots := #[.int (75)], vm := .none },
  { cls := 13, slots := #[.int (76)], vm := .none },
  { cls := 13, slots := #[.int (77)], vm := .none },
  { cls := 13, slots := #[.int (78)], vm := .none },
  { cls := 13, slots := #[.int (79)], vm := .none },
  { cls := 13, slots := #[.int (80)], vm := .none },
  { cls := 13, slots := #[.int (81)], vm := .none },
  { cls := 13, slots := #[.int (82)], vm := .none },
  { cls := 13, slots := #[.int (83)], vm := .none },
  { cls := 13, slots := #[.int (84)], vm := .none },
  { cls := 13, slots := #[.int (85)], vm := .none },
  { cls := 13, slots := #[.int (86)], vm := .none },
  { cls := 13, slots := #[.int (87)], vm := .none },
  { cls := 13, slots := #[.int (88)], vm := .none },
  { cls := 13, slots := #[.int (89)], vm := .none },
  { cls := 13, slots := #[.int (90)], vm := .none },
  { cls := 13, slots := #[.int (91)], vm := .none },
  { cls := 13, slots := #[.int (92)], vm := .none },
  { cls := 13, slots := #[.int (93)], vm := .none },
  { cls := 13, slots := #[.int (94)], vm := .none },
  { cls := 13, slots := #[.int (95)], vm := .none },
  { cls := 13, slots := #[.int (96)], vm := .none },
  { cls := 13, slots := #[.int (97)], vm := .none },
  { cls := 13, slots := #[.int (98)], vm := .none },
  { cls := 13, slots := #[.int (99)], vm := .none },
  { cls := 13, slots := #[.int (100)], vm := .none },
  { cls := 13, slots := #[.int (101)], vm := .none },
  { cls := 13, slots := #[.int (102)], vm := .none },
  { cls := 13, slots := #[.int (103)], vm := .none },
  { cls := 13, slots := #[.int (104)], vm := .none },
  { cls := 13, slots := #[.int (105)], vm := .none },
  { cls := 13, slots := #[.int (106)], vm := .none },
  { cls := 13, slots := #[.int (107)], vm := .none },
  { cls := 13, slots := #[.int (108)], vm := .none },
  { cls := 13, slots := #[.int (109)], vm := .none },
  { cls := 13, slots := #[.int (110)], vm := .none },
  { cls := 13, slots := #[.int (111)], vm := .none },
  { cls := 13, slots := #[.int (112)], vm := .none },
  { cls := 13, slots := #[.int (113)], vm := .none },
  { cls := 13, slots := #[.int (114)], vm := .none },
  { cls := 13, slots := #[.int (115)], vm := .none },
  { cls := 13, slots := #[.int (116)], vm := .none },
  { cls := 13, slots := #[.int (117)], vm := .none },
  { cls := 13, slots := #[.int (118)], vm := .none },
  { cls := 13, slots := #[.int (119)], vm := .none },
  { cls := 13, slots := #[.int (120)], vm := .none },
  { cls := 13, slots := #[.int (121)], vm := .none },
  { cls := 13, slots := #[.int (122)], vm := .none },
  { cls := 13, slots := #[.int (123)], vm := .none },
  { cls := 13, slots := #[.int (124)], vm := .none },
  { cls := 13, slots := #[.int (125)], vm := .none },
  { cls := 13, slots := #[.int (126)], vm := .none },
  { cls := 13, slots := #[.int (127)], vm := .none }]
def classes : Array Class := #[k0, k1, k2, k3, k4, k5, k6, k7, k8, k9, k10, k11, k12, k13, k14, k15, k16, k17, k18, k19, k20]
def interned : List (Array UInt16 × Addr) := []
def slotsUsed : Nat := 517
def theMethod : MethodId := ⟨1, 1⟩
def args0 : Array Value := #[.int 0, .int 1, .int 2, .int 3, .int 4, .int 5]
def aboutOver (below : List Frame) : State where
  vm := { classes := classes, interned := interned.toArray }
  heap := heap
  slotsUsed := slotsUsed
  threads := #[{ frames := .invoking theMethod args0 :: below }]
def below0 : List Frame := [.native { method := ⟨0, 0⟩, args := #[] }]
def about1 : State := aboutOver below0
def p0 : Program := .bare "" "" ""
def e0 : Env := launch0.env 0 0 0
theorem w_frames : about1.frames = Frame.invoking theMethod args0 :: below0 := rfl
set_option maxRecDepth 65536 in
theorem w_args : argsFit about1.vm theMethod args0 = true := by decide +kernel
set_option maxRecDepth 65536 in
theorem w_heap : heapFits about1 = true := by decide +kernel
set_option maxRecDepth 65536 in
theorem w_runnable : about1.curStatus? = some .runnable := by decide +kernel
set_option maxRecDepth 65536 in
theorem w_alone : about1.alone = true := by decide +kernel
set_option maxRecDepth 65536 in
theorem w_named : about1.methodNamed? x = some theMethod := by decide +kernel
set_option maxRecDepth 65536 in
theorem w_hears : about1.hears theMethod below0 = true := by decide +kernel
set_option maxRecDepth 65536 in
theorem w_ripe : about1.ripe theMethod args0 below0 = true := by decide +kernel
theorem w_running : about1.status = .running := rfl
set_option maxRecDepth 65536 in
theorem w_room : about1.hasRoom e0.platform room_1 = true :=
  launch0.hasRoom_least _ room_1 (by decide +kernel) (by decide +kernel) (by decide +kernel) (by decide +kernel) (by decide +kernel) (by decide +kernel)
theorem allAtoms_all (ts : List Jvm.Cond) (a : Array Jvm.Value) (st : Jvm.State) : (allAtoms ts).before a st = ts.all (fun c => c.before a st) := by
  induction ts with
  | nil => rfl
  | cons c t ih =>
    show (Jvm.Cond.and c (allAtoms t)).before a st = _
    rw [Jvm.Cond.before_and, ih, List.all_cons]
def words1 : List Jvm.Cond := Jvm.Cond.code x code maxLocals ret :: tables_1
/-- a 'code' word, met by the world's own term for the bytes: nothing is compared byte by byte -/
theorem code_word {y : MethodName} {bytes : ByteArray} {mx : Nat} {rt : Option FieldType} {a : Array Value} {s : State} {m : MethodId} {meth : Method} {c : Code} (h1 : s.methodNamed? y = some m) (h2 : s.vm.method? m = some meth) (h3 : meth.code = some c) (h4 : c.code = bytes)
    (h5 : (c.maxLocals == mx && c.exceptionTable.isEmpty && decide (c.maxStack ≤ mostOperands) && decide (meth.sig.returnType = rt) && !meth.locks && decide (parseMethodDescriptor y.desc = some meth.sig)) = true) : (Jvm.Cond.code y bytes mx rt).before a s = true := by
  simp only [Bool.and_eq_true, beq_iff_eq, Bool.not_eq_true', decide_eq_true_eq] at h5
  obtain ⟨⟨⟨⟨⟨g1, g2⟩, g3⟩, g4⟩, g5⟩, g6⟩ := h5
  simp [Cond.before, Cond.holds, Cond.value, h1, h2, h3, h4, g1, g2, g3, g4, g5, g6]
def isCode : Jvm.Cond → Bool
  | .code _ _ _ _ => true
  | _ => false
theorem all_split {L : List Jvm.Cond} {P : Jvm.Cond → Bool} (h1 : L.all (fun c => isCode c || P c) = true) (h2 : ∀ c ∈ L.filter isCode, P c = true) : L.all P = true := by
  refine List.all_eq_true.mpr fun c hc => ?_
  have h := List.all_eq_true.mp h1 c hc
  rcases Bool.eq_false_or_eq_true (isCode c) with hi | hi
  · exact h2 c (List.mem_filter.mpr ⟨hc, hi⟩)
  · simpa [hi] using h
set_option maxRecDepth 65536 in
theorem w_c0 : (Jvm.Cond.code x code maxLocals ret).before args0 about1 = true := code_word (m := ⟨1, 1⟩) (meth := k1m1) (c := k1c1) (by decide +kernel) rfl rfl rfl (by decide +kernel)
set_option maxRecDepth 65536 in
theorem w_c1 : (Jvm.Cond.code ({ cls := "com/example/flok/flok/geo/Box", name := "<init>", desc := "(DDDD)V" } : Jvm.MethodName) prog_20_method_1_code (9 : Nat) (Option.none : Option Jvm.ClassFile.FieldType)).before args0 about1 = true := code_word (m := ⟨4, 0⟩) (meth := k4m0) (c := k4c0) (by decide +kernel) rfl rfl rfl (by decide +kernel)
set_option maxRecDepth 65536 in
theorem w_c2 : (Jvm.Cond.code ({ cls := "java/lang/Object", name := "<init>", desc := "()V" } : Jvm.MethodName) object_method_1_code (1 : Nat) (Option.none : Option Jvm.ClassFile.FieldType)).before args0 about1 = true := code_word (m := ⟨0, 0⟩) (meth := k0m0) (c := k0c0) (by decide +kernel) rfl rfl rfl (by decide +kernel)
set_option maxRecDepth 65536 in
theorem w_c3 : (Jvm.Cond.code ({ cls := "com/example/flok/flok/geo/Coordinates", name := "checkLongitude", desc := "(Ljava/lang/String;D)V" } : Jvm.MethodName) prog_26_method_2_code (3 : Nat) (Option.none : Option Jvm.ClassFile.FieldType)).before args0 about1 = true := code_word (m := ⟨11, 1⟩) (meth := k11m1) (c := k11c1) (by decide +kernel) rfl rfl rfl (by decide +kernel)
set_option maxRecDepth 65536 in
theorem w_c4 : (Jvm.Cond.code ({ cls := "com/example/flok/flok/geo/Coordinates", name := "checkRange", desc := "(Ljava/lang/String;DI)V" } : Jvm.MethodName) prog_26_method_4_code (4 : Nat) (Option.none : Option Jvm.ClassFile.FieldType)).before args0 about1 = true := code_word (m := ⟨11, 3⟩) (meth := k11m3) (c := k11c3) (by decide +kernel) rfl rfl rfl (by decide +kernel)
set_option maxRecDepth 65536 in
theorem w_c5 : (Jvm.Cond.code ({ cls := "com/example/flok/flok/geo/Coordinates", name := "checkLatitude", desc := "(Ljava/lang/String;D)V" } : Jvm.MethodName) prog_26_method_3_code (3 : Nat) (Option.none : Option Jvm.ClassFile.FieldType)).before args0 about1 = true := code_word (m := ⟨11, 2⟩) (meth := k11m2) (c := k11c2) (by decide +kernel) rfl rfl rfl (by decide +kernel)
set_option maxRecDepth 65536 in
theorem w_c6 : (Jvm.Cond.code ({ cls := "java/lang/Integer", name := "valueOf", desc := "(I)Ljava/lang/Integer;" } : Jvm.MethodName) jdk_33_method_22_code (1 : Nat) (Option.some (Jvm.ClassFile.FieldType.object "java/lang/Integer"))).before args0 about1 = true := code_word (m := ⟨13, 0⟩) (meth := k13m0) (c := k13c0) (by decide +kernel) rfl rfl rfl (by decide +kernel)
set_option maxRecDepth 65536 in
theorem w_c7 : (Jvm.Cond.code ({ cls := "com/example/flok/flok/geo/Box", name := "equals", desc := "(Ljava/lang/Object;)Z" } : Jvm.MethodName) prog_20_method_6_code (3 : Nat) (Option.some Jvm.ClassFile.FieldType.boolean)).before args0 about1 = true := code_word (m := ⟨4, 1⟩) (meth := k4m1) (c := k4c1) (by decide +kernel) rfl rfl rfl (by decide +kernel)
set_option maxRecDepth 65536 in
theorem w_c8 : (Jvm.Cond.code ({ cls := "java/lang/Integer", name := "<init>", desc := "(I)V" } : Jvm.MethodName) jdk_33_method_23_code (2 : Nat) (Option.none : Option Jvm.ClassFile.FieldType)).before args0 about1 = true := code_word (m := ⟨13, 1⟩) (meth := k13m1) (c := k13c1) (by decide +kernel) rfl rfl rfl (by decide +kernel)
set_option maxRecDepth 65536 in
theorem w_c9 : (Jvm.Cond.code ({ cls := "java/lang/Number", name := "<init>", desc := "()V" } : Jvm.MethodName) jdk_18_method_1_code (1 : Nat) (Option.none : Option Jvm.ClassFile.FieldType)).before args0 about1 = true := code_word (m := ⟨12, 0⟩) (meth := k12m0) (c := k12c0) (by decide +kernel) rfl rfl rfl (by decide +kernel)
def codes1 : List Jvm.Cond := [Jvm.Cond.code x code maxLocals ret, Jvm.Cond.code ({ cls := "com/example/flok/flok/geo/Box", name := "<init>", desc := "(DDDD)V" } : Jvm.MethodName) prog_20_method_1_code (9 : Nat) (Option.none : Option Jvm.ClassFile.FieldType), Jvm.Cond.code ({ cls := "java/lang/Object", name := "<init>", desc := "()V" } : Jvm.MethodName) object_method_1_code (1 : Nat) (Option.none : Option Jvm.ClassFile.FieldType), Jvm.Cond.code ({ cls := "com/example/flok/flok/geo/Coordinates", name := "checkLongitude", desc := "(Ljava/lang/String;D)V" } : Jvm.MethodName) prog_26_method_2_code (3 : Nat) (Option.none : Option Jvm.ClassFile.FieldType), Jvm.Cond.code ({ cls := "com/example/flok/flok/geo/Coordinates", name := "checkRange", desc := "(Ljava/lang/String;DI)V" } : Jvm.MethodName) prog_26_method_4_code (4 : Nat) (Option.none : Option Jvm.ClassFile.FieldType), Jvm.Cond.code ({ cls := "com/example/flok/flok/geo/Coordinates", name := "checkLatitude", desc := "(Ljava/lang/String;D)V" } : Jvm.MethodName) prog_26_method_3_code (3 : Nat) (Option.none : Option Jvm.ClassFile.FieldType), Jvm.Cond.code ({ cls := "java/lang/Integer", name := "valueOf", desc := "(I)Ljava/lang/Integer;" } : Jvm.MethodName) jdk_33_method_22_code (1 : Nat) (Option.some (Jvm.ClassFile.FieldType.object "java/lang/Integer")), Jvm.Cond.code ({ cls := "com/example/flok/flok/geo/Box", name := "equals", desc := "(Ljava/lang/Object;)Z" } : Jvm.MethodName) prog_20_method_6_code (3 : Nat) (Option.some Jvm.ClassFile.FieldType.boolean), Jvm.Cond.code ({ cls := "java/lang/Integer", name := "<init>", desc := "(I)V" } : Jvm.MethodName) jdk_33_method_23_code (2 : Nat) (Option.none : Option Jvm.ClassFile.FieldType), Jvm.Cond.code ({ cls := "java/lang/Number", name := "<init>", desc := "()V" } : Jvm.MethodName) jdk_18_method_1_code (1 : Nat) (Option.none : Option Jvm.ClassFile.FieldType)]
set_option maxRecDepth 65536 in
theorem codes_eq : words1.filter isCode = codes1 := rfl
theorem w_codes : ∀ c ∈ words1.filter isCode, c.before args0 about1 = true := by
  rw [codes_eq]
  intro c hc
  simp only [codes1, List.mem_cons, List.not_mem_nil, or_false] at hc
  rcases hc with rfl | rfl | rfl | rfl | rfl | rfl | rfl | rfl | rfl | rfl
  · exact w_c0
  · exact w_c1
  · exact w_c2
  · exact w_c3
  · exact w_c4
  · exact w_c5
  · exact w_c6
  · exact w_c7
  · exact w_c8
  · exact w_c9
set_option maxRecDepth 65536 in
theorem w_t1 : (words1.take 24).all (fun c => isCode c || c.before args0 about1) = true := by decide +kernel
set_option maxRecDepth 65536 in
theorem w_t2 : ((words1.drop 24).take 24).all (fun c => isCode c || c.before args0 about1) = true := by decide +kernel
set_option maxRecDepth 65536 in
theorem w_t3 : ((words1.drop 24).drop 24).all (fun c => isCode c || c.before args0 about1) = true := by decide +kernel
theorem w_tables : (allAtoms (Jvm.Cond.code x code maxLocals ret :: tables_1)).before args0 about1 = true := by
  rw [allAtoms_all]
  show words1.all (fun c => c.before args0 about1) = true
  refine all_split ?_ w_codes
  rw [← List.take_append_drop 24 words1, List.all_append, w_t1, ← List.take_append_drop 24 (words1.drop 24), List.all_append, w_t2, w_t3]
  rfl
set_option maxRecDepth 65536 in
theorem w_rest : rest_1_c.before args0 about1 = true := by decide +kernel
set_option maxRecDepth 65536 in
theorem w_case : (Jvm.Cond.and given_1 narrow_1).before args0 about1 = true := by decide +kernel
theorem w_applies : (headSpec (Jvm.Cond.code x code maxLocals ret :: tables_1) room_1).applies x e0.platform about1 = true :=
  (Spec.applies_iff w_frames).mpr ⟨w_running, w_runnable, w_alone, w_named, w_hears, w_ripe, w_room, w_tables⟩
theorem atStart : AtStart classFile x code maxLocals ret World_1 tables_1 room_1 Calls_1 rest_1 Pre_1 launch0 p0 e0 about1 theMethod args0 below0 :=
  ⟨lists_1, trivial, launch0.admits_env _ _ _, launch0.least_env, fairChoices_fair.cas, fairChoices_fair.clock, w_frames, w_args, w_heap, w_applies, trivial, w_rest, w_case⟩
end start1
theorem witness_1 : WitnessClaimed_1 := ⟨start1.p0, start1.e0, start1.about1, start1.theMethod, start1.args0, start1.below0, start1.atStart⟩
end Jvm.Pilot.@@N@@
