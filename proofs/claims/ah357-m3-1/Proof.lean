import JvmDerived
import JvmDerived.Pilot.@@N@@Statement
import JvmDerived.Pilot.@@N@@Code
set_option linter.unusedVariables false
set_option linter.unusedSimpArgs false
namespace Jvm.Pilot.@@N@@
open Jvm Jvm.ClassFile Sem Op Lib Jvm.Free Jvm.Stand Jvm.LawKit Jvm.RoadKit Bundle Jvm.Pilot.@@N@@.Jvm.D
/-- from the state U the run comes to the method's end, where Q holds of what it returns, of the heap and of the places written -/
def Dn (p : Program) (e : Env) (below : List Frame) (s : State) (k n : Nat) (Q : Option Value → Heap → List Loc → Prop) (U : State) : Prop :=
  ∃ t o, Steps p.tables e below U t ∧ t.status = .running ∧ Ended t below o ∧ ∃ v L, o = .returned v ∧ Q v t.heap L ∧ FrameEnd s o t L k n
theorem Dn.by {p : Program} {e : Env} {below : List Frame} {s : State} {k n : Nat} {Q : Option Value → Heap → List Loc → Prop} {U U' : State} (st : ∀ t, Steps p.tables e below U' t → Steps p.tables e below U t) (h : Dn p e below s k n Q U') : Dn p e below s k n Q U := by
  obtain ⟨t, o, h1, h2⟩ := h
  exact ⟨t, o, st t h1, h2⟩
theorem Dn.out {p : Program} {l : Launch} {e : Env} {R : Room} {s : State} {m : MethodId} {args : Array Value} {below : List Frame} {meth : Method} {c : Code} {T : State} {locs : List Loc} {cells slots k n : Nat} {Q : Option Value → Heap → List Loc → Prop} {U : State} (X : Stand p l e R s m args below meth c T locs cells slots) {v : Option Value} (hv : meth.sig.returnType = none → v = none) (hlk : meth.locks = false)
    (st : ∀ fs, (∀ (f : JFrame) (acts : List Action), f.method = m → f.locked = none → f.entered = [] → (doReturn e (T.setTop f) acts v).1 = T.setFrames fs) → Steps p.tables e below U (T.setFrames fs)) (hk : cells ≤ k) (hn : slots ≤ n) (hQ : Q v T.heap locs) : Dn p e below s k n Q U := by
  obtain ⟨fs, hr, hrun, hended, hW, hsame⟩ := X.leave (v := v) hv hlk
  exact ⟨_, _, st fs hr, hrun, hended, v, locs, rfl, hQ, ⟨_, rfl⟩, hW, hsame.mono hk hn⟩
theorem pn0 : plainName "com/example/nadir/nadir/RankedKey" = true := by first | (simp [plainName, overriddenIn]; done) | decide +kernel
theorem pn1 : plainName "java/util/BitSet" = true := by first | (simp [plainName, overriddenIn]; done) | decide +kernel
theorem pn2 : plainName "com/example/nadir/nadir/HeldKey" = true := by first | (simp [plainName, overriddenIn]; done) | decide +kernel
theorem pn3 : plainName "java/util/Arrays" = true := by first | (simp [plainName, overriddenIn]; done) | decide +kernel
theorem pn4 : plainName "com/example/nadir/nadir/HeldKeyIsSampledPinLaw" = true := by first | (simp [plainName, overriddenIn]; done) | decide +kernel
theorem pd0 : parseMethodDescriptor "(I)I" = some ⟨[.int], some .int⟩ := by decide +kernel
theorem pd1 : parseMethodDescriptor "(I)V" = some ⟨[.int], none⟩ := by decide +kernel
theorem pd2 : parseMethodDescriptor "()V" = some ⟨[], none⟩ := by decide +kernel
theorem pd3 : parseMethodDescriptor "(II)I" = some ⟨[.int, .int], some .int⟩ := by decide +kernel
theorem pd4 : parseMethodDescriptor "([JI)[J" = some ⟨[(.array .long), .int], some (.array .long)⟩ := by decide +kernel
theorem pd5 : parseMethodDescriptor "(DD)D" = some ⟨[.double, .double], some .double⟩ := by decide +kernel
theorem pd6 : parseMethodDescriptor "(Ljava/lang/String;[BDDD)V" = some ⟨[(.object "java/lang/String"), (.array .byte), .double, .double, .double], none⟩ := by decide +kernel
theorem pd7 : parseMethodDescriptor "(Lcom/example/nadir/nadir/RankedKey;)V" = some ⟨[(.object "com/example/nadir/nadir/RankedKey")], none⟩ := by decide +kernel
theorem pd8 : parseMethodDescriptor "()Z" = some ⟨[], some .boolean⟩ := by decide +kernel
theorem pd9 : parseMethodDescriptor "(ILcom/example/nadir/nadir/RankedKey;D)V" = some ⟨[.int, (.object "com/example/nadir/nadir/RankedKey"), .double], none⟩ := by decide +kernel
theorem d1_0 : decode prog_25_method_1_code 0 = .ok (.aload_n 0, 1) := by decide +kernel
theorem d1_1 : decode prog_25_method_1_code 1 = .ok (.invokespecial 3, 3) := by decide +kernel
theorem d1_4 : decode prog_25_method_1_code 4 = .ok (.aload_n 0, 1) := by decide +kernel
theorem d1_5 : decode prog_25_method_1_code 5 = .ok (.aload_n 1, 1) := by decide +kernel
theorem d1_6 : decode prog_25_method_1_code 6 = .ok (.putfield 9, 3) := by decide +kernel
theorem d1_9 : decode prog_25_method_1_code 9 = .ok (.aload_n 0, 1) := by decide +kernel
theorem d1_10 : decode prog_25_method_1_code 10 = .ok (.aload_n 2, 1) := by decide +kernel
theorem d1_11 : decode prog_25_method_1_code 11 = .ok (.putfield 13, 3) := by decide +kernel
theorem d1_14 : decode prog_25_method_1_code 14 = .ok (.aload_n 0, 1) := by decide +kernel
theorem d1_15 : decode prog_25_method_1_code 15 = .ok (.dload_n 3, 1) := by decide +kernel
theorem d1_16 : decode prog_25_method_1_code 16 = .ok (.putfield 17, 3) := by decide +kernel
theorem d1_19 : decode prog_25_method_1_code 19 = .ok (.aload_n 0, 1) := by decide +kernel
theorem d1_20 : decode prog_25_method_1_code 20 = .ok (.dload 5, 2) := by decide +kernel
theorem d1_22 : decode prog_25_method_1_code 22 = .ok (.putfield 21, 3) := by decide +kernel
theorem d1_25 : decode prog_25_method_1_code 25 = .ok (.aload_n 0, 1) := by decide +kernel
theorem d1_26 : decode prog_25_method_1_code 26 = .ok (.dload 7, 2) := by decide +kernel
theorem d1_28 : decode prog_25_method_1_code 28 = .ok (.putfield 24, 3) := by decide +kernel
theorem d1_31 : decode prog_25_method_1_code 31 = .ok (.return_, 1) := by decide +kernel
theorem d3_0 : decode prog_16_method_1_code 0 = .ok (.aload_n 0, 1) := by decide +kernel
theorem d3_1 : decode prog_16_method_1_code 1 = .ok (.invokespecial 1, 3) := by decide +kernel
theorem d3_4 : decode prog_16_method_1_code 4 = .ok (.aload_n 0, 1) := by decide +kernel
theorem d3_5 : decode prog_16_method_1_code 5 = .ok (.new 7, 3) := by decide +kernel
theorem d3_8 : decode prog_16_method_1_code 8 = .ok (.dup, 1) := by decide +kernel
theorem d3_9 : decode prog_16_method_1_code 9 = .ok (.invokespecial 9, 3) := by decide +kernel
theorem d3_12 : decode prog_16_method_1_code 12 = .ok (.putfield 10, 3) := by decide +kernel
theorem d3_15 : decode prog_16_method_1_code 15 = .ok (.aload_n 0, 1) := by decide +kernel
theorem d3_16 : decode prog_16_method_1_code 16 = .ok (.ldc2_w 18, 3) := by decide +kernel
theorem d3_19 : decode prog_16_method_1_code 19 = .ok (.putfield 20, 3) := by decide +kernel
theorem d3_22 : decode prog_16_method_1_code 22 = .ok (.aload_n 0, 1) := by decide +kernel
theorem d3_23 : decode prog_16_method_1_code 23 = .ok (.aload_n 1, 1) := by decide +kernel
theorem d3_24 : decode prog_16_method_1_code 24 = .ok (.putfield 24, 3) := by decide +kernel
theorem d3_27 : decode prog_16_method_1_code 27 = .ok (.aload_n 0, 1) := by decide +kernel
theorem d3_28 : decode prog_16_method_1_code 28 = .ok (.aconst_null, 1) := by decide +kernel
theorem d3_29 : decode prog_16_method_1_code 29 = .ok (.putfield 28, 3) := by decide +kernel
theorem d3_32 : decode prog_16_method_1_code 32 = .ok (.return_, 1) := by decide +kernel
theorem d4_0 : decode jdk_92_method_4_code 0 = .ok (.aload_n 0, 1) := by decide +kernel
theorem d4_1 : decode jdk_92_method_4_code 1 = .ok (.invokespecial 21, 3) := by decide +kernel
theorem d4_4 : decode jdk_92_method_4_code 4 = .ok (.aload_n 0, 1) := by decide +kernel
theorem d4_5 : decode jdk_92_method_4_code 5 = .ok (.iconst 0, 1) := by decide +kernel
theorem d4_6 : decode jdk_92_method_4_code 6 = .ok (.putfield 7, 3) := by decide +kernel
theorem d4_9 : decode jdk_92_method_4_code 9 = .ok (.aload_n 0, 1) := by decide +kernel
theorem d4_10 : decode jdk_92_method_4_code 10 = .ok (.iconst 0, 1) := by decide +kernel
theorem d4_11 : decode jdk_92_method_4_code 11 = .ok (.putfield 24, 3) := by decide +kernel
theorem d4_14 : decode jdk_92_method_4_code 14 = .ok (.aload_n 0, 1) := by decide +kernel
theorem d4_15 : decode jdk_92_method_4_code 15 = .ok (.bipush 64, 2) := by decide +kernel
theorem d4_17 : decode jdk_92_method_4_code 17 = .ok (.invokevirtual 27, 3) := by decide +kernel
theorem d4_20 : decode jdk_92_method_4_code 20 = .ok (.aload_n 0, 1) := by decide +kernel
theorem d4_21 : decode jdk_92_method_4_code 21 = .ok (.iconst 0, 1) := by decide +kernel
theorem d4_22 : decode jdk_92_method_4_code 22 = .ok (.putfield 24, 3) := by decide +kernel
theorem d4_25 : decode jdk_92_method_4_code 25 = .ok (.return_, 1) := by decide +kernel
theorem d5_0 : decode jdk_92_method_6_code 0 = .ok (.aload_n 0, 1) := by decide +kernel
theorem d5_1 : decode jdk_92_method_6_code 1 = .ok (.iload_n 1, 1) := by decide +kernel
theorem d5_2 : decode jdk_92_method_6_code 2 = .ok (.iconst 1, 1) := by decide +kernel
theorem d5_3 : decode jdk_92_method_6_code 3 = .ok (.isub, 1) := by decide +kernel
theorem d5_4 : decode jdk_92_method_6_code 4 = .ok (.invokestatic 52, 3) := by decide +kernel
theorem d5_7 : decode jdk_92_method_6_code 7 = .ok (.iconst 1, 1) := by decide +kernel
theorem d5_8 : decode jdk_92_method_6_code 8 = .ok (.iadd, 1) := by decide +kernel
theorem d5_9 : decode jdk_92_method_6_code 9 = .ok (.newarray .long, 2) := by decide +kernel
theorem d5_11 : decode jdk_92_method_6_code 11 = .ok (.putfield 11, 3) := by decide +kernel
theorem d5_14 : decode jdk_92_method_6_code 14 = .ok (.return_, 1) := by decide +kernel
theorem d6_0 : decode jdk_92_method_1_code 0 = .ok (.iload_n 0, 1) := by decide +kernel
theorem d6_1 : decode jdk_92_method_1_code 1 = .ok (.bipush 6, 2) := by decide +kernel
theorem d6_3 : decode jdk_92_method_1_code 3 = .ok (.ishr, 1) := by decide +kernel
theorem d6_4 : decode jdk_92_method_1_code 4 = .ok (.ireturn, 1) := by decide +kernel
theorem d7_0 : decode prog_16_method_3_code 0 = .ok (.aload_n 0, 1) := by decide +kernel
theorem d7_1 : decode prog_16_method_3_code 1 = .ok (.getfield 10, 3) := by decide +kernel
theorem d7_4 : decode prog_16_method_3_code 4 = .ok (.iload_n 1, 1) := by decide +kernel
theorem d7_5 : decode prog_16_method_3_code 5 = .ok (.invokevirtual 34, 3) := by decide +kernel
theorem d7_8 : decode prog_16_method_3_code 8 = .ok (.return_, 1) := by decide +kernel
theorem d8_0 : decode jdk_92_method_19_code 0 = .ok (.iload_n 1, 1) := by decide +kernel
theorem d8_1 : decode jdk_92_method_19_code 1 = .ok (.ifCond .ge 30, 3) := by decide +kernel
theorem d8_31 : decode jdk_92_method_19_code 31 = .ok (.iload_n 1, 1) := by decide +kernel
theorem d8_32 : decode jdk_92_method_19_code 32 = .ok (.invokestatic 52, 3) := by decide +kernel
theorem d8_35 : decode jdk_92_method_19_code 35 = .ok (.istore_n 2, 1) := by decide +kernel
theorem d8_36 : decode jdk_92_method_19_code 36 = .ok (.aload_n 0, 1) := by decide +kernel
theorem d8_37 : decode jdk_92_method_19_code 37 = .ok (.iload_n 2, 1) := by decide +kernel
theorem d8_38 : decode jdk_92_method_19_code 38 = .ok (.invokevirtual 155, 3) := by decide +kernel
theorem d8_41 : decode jdk_92_method_19_code 41 = .ok (.aload_n 0, 1) := by decide +kernel
theorem d8_42 : decode jdk_92_method_19_code 42 = .ok (.getfield 11, 3) := by decide +kernel
theorem d8_45 : decode jdk_92_method_19_code 45 = .ok (.iload_n 2, 1) := by decide +kernel
theorem d8_46 : decode jdk_92_method_19_code 46 = .ok (.dup2, 1) := by decide +kernel
theorem d8_47 : decode jdk_92_method_19_code 47 = .ok (.laload, 1) := by decide +kernel
theorem d8_48 : decode jdk_92_method_19_code 48 = .ok (.lconst 1, 1) := by decide +kernel
theorem d8_49 : decode jdk_92_method_19_code 49 = .ok (.iload_n 1, 1) := by decide +kernel
theorem d8_50 : decode jdk_92_method_19_code 50 = .ok (.lshl, 1) := by decide +kernel
theorem d8_51 : decode jdk_92_method_19_code 51 = .ok (.lor, 1) := by decide +kernel
theorem d8_52 : decode jdk_92_method_19_code 52 = .ok (.lastore, 1) := by decide +kernel
theorem d8_53 : decode jdk_92_method_19_code 53 = .ok (.aload_n 0, 1) := by decide +kernel
theorem d8_54 : decode jdk_92_method_19_code 54 = .ok (.invokevirtual 56, 3) := by decide +kernel
theorem d8_57 : decode jdk_92_method_19_code 57 = .ok (.return_, 1) := by decide +kernel
theorem d9_0 : decode jdk_92_method_15_code 0 = .ok (.iload_n 1, 1) := by decide +kernel
theorem d9_1 : decode jdk_92_method_15_code 1 = .ok (.iconst 1, 1) := by decide +kernel
theorem d9_2 : decode jdk_92_method_15_code 2 = .ok (.iadd, 1) := by decide +kernel
theorem d9_3 : decode jdk_92_method_15_code 3 = .ok (.istore_n 2, 1) := by decide +kernel
theorem d9_4 : decode jdk_92_method_15_code 4 = .ok (.aload_n 0, 1) := by decide +kernel
theorem d9_5 : decode jdk_92_method_15_code 5 = .ok (.getfield 7, 3) := by decide +kernel
theorem d9_8 : decode jdk_92_method_15_code 8 = .ok (.iload_n 2, 1) := by decide +kernel
theorem d9_9 : decode jdk_92_method_15_code 9 = .ok (.if_icmp .ge 13, 3) := by decide +kernel
theorem d9_12 : decode jdk_92_method_15_code 12 = .ok (.aload_n 0, 1) := by decide +kernel
theorem d9_13 : decode jdk_92_method_15_code 13 = .ok (.iload_n 2, 1) := by decide +kernel
theorem d9_14 : decode jdk_92_method_15_code 14 = .ok (.invokevirtual 139, 3) := by decide +kernel
theorem d9_17 : decode jdk_92_method_15_code 17 = .ok (.aload_n 0, 1) := by decide +kernel
theorem d9_18 : decode jdk_92_method_15_code 18 = .ok (.iload_n 2, 1) := by decide +kernel
theorem d9_19 : decode jdk_92_method_15_code 19 = .ok (.putfield 7, 3) := by decide +kernel
theorem d9_22 : decode jdk_92_method_15_code 22 = .ok (.return_, 1) := by decide +kernel
theorem d10_0 : decode jdk_92_method_14_code 0 = .ok (.aload_n 0, 1) := by decide +kernel
theorem d10_1 : decode jdk_92_method_14_code 1 = .ok (.getfield 11, 3) := by decide +kernel
theorem d10_4 : decode jdk_92_method_14_code 4 = .ok (.arraylength, 1) := by decide +kernel
theorem d10_5 : decode jdk_92_method_14_code 5 = .ok (.iload_n 1, 1) := by decide +kernel
theorem d10_6 : decode jdk_92_method_14_code 6 = .ok (.if_icmp .ge 32, 3) := by decide +kernel
theorem d10_9 : decode jdk_92_method_14_code 9 = .ok (.iconst 2, 1) := by decide +kernel
theorem d10_10 : decode jdk_92_method_14_code 10 = .ok (.aload_n 0, 1) := by decide +kernel
theorem d10_11 : decode jdk_92_method_14_code 11 = .ok (.getfield 11, 3) := by decide +kernel
theorem d10_14 : decode jdk_92_method_14_code 14 = .ok (.arraylength, 1) := by decide +kernel
theorem d10_15 : decode jdk_92_method_14_code 15 = .ok (.imul, 1) := by decide +kernel
theorem d10_16 : decode jdk_92_method_14_code 16 = .ok (.iload_n 1, 1) := by decide +kernel
theorem d10_17 : decode jdk_92_method_14_code 17 = .ok (.invokestatic 133, 3) := by decide +kernel
theorem d10_20 : decode jdk_92_method_14_code 20 = .ok (.istore_n 2, 1) := by decide +kernel
theorem d10_21 : decode jdk_92_method_14_code 21 = .ok (.aload_n 0, 1) := by decide +kernel
theorem d10_22 : decode jdk_92_method_14_code 22 = .ok (.aload_n 0, 1) := by decide +kernel
theorem d10_23 : decode jdk_92_method_14_code 23 = .ok (.getfield 11, 3) := by decide +kernel
theorem d10_26 : decode jdk_92_method_14_code 26 = .ok (.iload_n 2, 1) := by decide +kernel
theorem d10_27 : decode jdk_92_method_14_code 27 = .ok (.invokestatic 59, 3) := by decide +kernel
theorem d10_30 : decode jdk_92_method_14_code 30 = .ok (.putfield 11, 3) := by decide +kernel
theorem d10_33 : decode jdk_92_method_14_code 33 = .ok (.aload_n 0, 1) := by decide +kernel
theorem d10_34 : decode jdk_92_method_14_code 34 = .ok (.iconst 0, 1) := by decide +kernel
theorem d10_35 : decode jdk_92_method_14_code 35 = .ok (.putfield 24, 3) := by decide +kernel
theorem d10_38 : decode jdk_92_method_14_code 38 = .ok (.return_, 1) := by decide +kernel
theorem d11_0 : decode jdk_92_method_2_code 0 = .ok (.getstatic 3, 3) := by decide +kernel
theorem d11_3 : decode jdk_92_method_2_code 3 = .ok (.ifCond .ne 34, 3) := by decide +kernel
theorem d11_37 : decode jdk_92_method_2_code 37 = .ok (.getstatic 3, 3) := by decide +kernel
theorem d11_40 : decode jdk_92_method_2_code 40 = .ok (.ifCond .ne 30, 3) := by decide +kernel
theorem d11_70 : decode jdk_92_method_2_code 70 = .ok (.getstatic 3, 3) := by decide +kernel
theorem d11_73 : decode jdk_92_method_2_code 73 = .ok (.ifCond .ne 37, 3) := by decide +kernel
theorem d11_110 : decode jdk_92_method_2_code 110 = .ok (.return_, 1) := by decide +kernel
theorem d12_0 : decode prog_16_method_8_code 0 = .ok (.aload_n 0, 1) := by decide +kernel
theorem d12_1 : decode prog_16_method_8_code 1 = .ok (.getfield 20, 3) := by decide +kernel
theorem d12_4 : decode prog_16_method_8_code 4 = .ok (.ldc2_w 18, 3) := by decide +kernel
theorem d12_7 : decode prog_16_method_8_code 7 = .ok (.dcmp .l, 1) := by decide +kernel
theorem d12_8 : decode prog_16_method_8_code 8 = .ok (.ifCond .eq 7, 3) := by decide +kernel
theorem d12_11 : decode prog_16_method_8_code 11 = .ok (.iconst 1, 1) := by decide +kernel
theorem d12_12 : decode prog_16_method_8_code 12 = .ok (.goto 4, 3) := by decide +kernel
theorem d12_15 : decode prog_16_method_8_code 15 = .ok (.iconst 0, 1) := by decide +kernel
theorem d12_16 : decode prog_16_method_8_code 16 = .ok (.ireturn, 1) := by decide +kernel
theorem d13_0 : decode jdk_29_method_65_code 0 = .ok (.iload_n 0, 1) := by decide +kernel
theorem d13_1 : decode jdk_29_method_65_code 1 = .ok (.iload_n 1, 1) := by decide +kernel
theorem d13_2 : decode jdk_29_method_65_code 2 = .ok (.if_icmp .lt 7, 3) := by decide +kernel
theorem d13_5 : decode jdk_29_method_65_code 5 = .ok (.iload_n 0, 1) := by decide +kernel
theorem d13_6 : decode jdk_29_method_65_code 6 = .ok (.goto 4, 3) := by decide +kernel
theorem d13_9 : decode jdk_29_method_65_code 9 = .ok (.iload_n 1, 1) := by decide +kernel
theorem d13_10 : decode jdk_29_method_65_code 10 = .ok (.ireturn, 1) := by decide +kernel
theorem d14_0 : decode jdk_65_method_124_code 0 = .ok (.iload_n 1, 1) := by decide +kernel
theorem d14_1 : decode jdk_65_method_124_code 1 = .ok (.aload_n 0, 1) := by decide +kernel
theorem d14_2 : decode jdk_65_method_124_code 2 = .ok (.arraylength, 1) := by decide +kernel
theorem d14_3 : decode jdk_65_method_124_code 3 = .ok (.if_icmp .ne 11, 3) := by decide +kernel
theorem d14_14 : decode jdk_65_method_124_code 14 = .ok (.iload_n 1, 1) := by decide +kernel
theorem d14_15 : decode jdk_65_method_124_code 15 = .ok (.newarray .long, 2) := by decide +kernel
theorem d14_17 : decode jdk_65_method_124_code 17 = .ok (.astore_n 2, 1) := by decide +kernel
theorem d14_18 : decode jdk_65_method_124_code 18 = .ok (.aload_n 0, 1) := by decide +kernel
theorem d14_19 : decode jdk_65_method_124_code 19 = .ok (.iconst 0, 1) := by decide +kernel
theorem d14_20 : decode jdk_65_method_124_code 20 = .ok (.aload_n 2, 1) := by decide +kernel
theorem d14_21 : decode jdk_65_method_124_code 21 = .ok (.iconst 0, 1) := by decide +kernel
theorem d14_22 : decode jdk_65_method_124_code 22 = .ok (.aload_n 0, 1) := by decide +kernel
theorem d14_23 : decode jdk_65_method_124_code 23 = .ok (.arraylength, 1) := by decide +kernel
theorem d14_24 : decode jdk_65_method_124_code 24 = .ok (.iload_n 1, 1) := by decide +kernel
theorem d14_25 : decode jdk_65_method_124_code 25 = .ok (.invokestatic 304, 3) := by decide +kernel
theorem d14_28 : decode jdk_65_method_124_code 28 = .ok (.invokestatic 150, 3) := by decide +kernel
theorem d14_31 : decode jdk_65_method_124_code 31 = .ok (.aload_n 2, 1) := by decide +kernel
theorem d14_32 : decode jdk_65_method_124_code 32 = .ok (.areturn, 1) := by decide +kernel
theorem d15_0 : decode jdk_29_method_69_code 0 = .ok (.iload_n 0, 1) := by decide +kernel
theorem d15_1 : decode jdk_29_method_69_code 1 = .ok (.iload_n 1, 1) := by decide +kernel
theorem d15_2 : decode jdk_29_method_69_code 2 = .ok (.if_icmp .gt 7, 3) := by decide +kernel
theorem d15_5 : decode jdk_29_method_69_code 5 = .ok (.iload_n 0, 1) := by decide +kernel
theorem d15_6 : decode jdk_29_method_69_code 6 = .ok (.goto 4, 3) := by decide +kernel
theorem d15_9 : decode jdk_29_method_69_code 9 = .ok (.iload_n 1, 1) := by decide +kernel
theorem d15_10 : decode jdk_29_method_69_code 10 = .ok (.ireturn, 1) := by decide +kernel
theorem d16_0 : decode prog_16_method_4_code 0 = .ok (.aload_n 0, 1) := by decide +kernel
theorem d16_1 : decode prog_16_method_4_code 1 = .ok (.aload_n 0, 1) := by decide +kernel
theorem d16_2 : decode prog_16_method_4_code 2 = .ok (.getfield 20, 3) := by decide +kernel
theorem d16_5 : decode prog_16_method_4_code 5 = .ok (.dload_n 3, 1) := by decide +kernel
theorem d16_6 : decode prog_16_method_4_code 6 = .ok (.invokestatic 38, 3) := by decide +kernel
theorem d16_9 : decode prog_16_method_4_code 9 = .ok (.putfield 20, 3) := by decide +kernel
theorem d16_12 : decode prog_16_method_4_code 12 = .ok (.aload_n 0, 1) := by decide +kernel
theorem d16_13 : decode prog_16_method_4_code 13 = .ok (.getfield 28, 3) := by decide +kernel
theorem d16_16 : decode prog_16_method_4_code 16 = .ok (.ifnull 10, 3) := by decide +kernel
theorem d16_26 : decode prog_16_method_4_code 26 = .ok (.return_, 1) := by decide +kernel
/-- as Dn, for a body that may load a String constant for the first time: the wide end, and what becomes of the held constants -/
def DnW (p : Program) (e : Env) (below : List Frame) (s : State) (EL : List (String × Nat)) (Z : State) (k n : Nat) (Q : Option Value → Heap → List Loc → Prop) (U : State) : Prop :=
  ∃ t o, Steps p.tables e below U t ∧ t.status = .running ∧ Ended t below o ∧ ∃ v L, o = .returned v ∧ Q v t.heap L ∧ CHr Z EL s.vm s.heap t.vm t.heap ∧ ReturnedEndW s o t L k n
theorem DnW.by {p : Program} {e : Env} {below : List Frame} {s : State} {EL : List (String × Nat)} {Z : State} {k n : Nat} {Q : Option Value → Heap → List Loc → Prop} {U U' : State} (st : ∀ t, Steps p.tables e below U' t → Steps p.tables e below U t) (h : DnW p e below s EL Z k n Q U') : DnW p e below s EL Z k n Q U := by
  obtain ⟨t, o, h1, h2⟩ := h
  exact ⟨t, o, st t h1, h2⟩
theorem DnW.out {p : Program} {l : Launch} {e : Env} {R : Room} {s : State} {m : MethodId} {args : Array Value} {below : List Frame} {meth : Method} {c : Code} {T : State} {locs : List Loc} {cells slots k n : Nat} {EL : List (String × Nat)} {Z : State} {vm0 : Vm} {k0 : Nat} {Q : Option Value → Heap → List Loc → Prop} {U : State} (X : Stand p l e R (s.setVm vm0) m args below meth c T locs cells slots) (hS : s.Since vm0 k0) (hk0 : k0 ≤ T.heap.size) {v : Option Value} (hv : meth.sig.returnType = none → v = none) (hlk : meth.locks = false)
    (st : ∀ fs, (∀ (f : JFrame) (acts : List Action), f.method = m → f.locked = none → f.entered = [] → (doReturn e (T.setTop f) acts v).1 = T.setFrames fs) → Steps p.tables e below U (T.setFrames fs)) (hk : cells ≤ k) (hn : slots ≤ n) (hQ : Q v T.heap locs) (hC : CHr Z EL s.vm s.heap T.vm T.heap) : DnW p e below s EL Z k n Q U := by
  obtain ⟨fs, hr, hrun, hended, hR⟩ := X.leaveW hS hk0 (v := v) hv hlk
  exact ⟨_, _, st fs hr, hrun, hended, v, locs, rfl, hQ, hC, hR.1, hR.2.1, hR.2.2.1, hR.2.2.2.mono hk hn⟩
theorem own_safeV {Z : State} {EL : List (String × Nat)} {vm : Vm} {h : Heap} {a : Addr} {k : ClassId} {ty : FieldType} {z : Int32} {vs : List Value} {d : Value} (hal : Z.vm.Alike vm) (V : Arv Z h a k ty z vs d) (ht : ty ≠ .byte) : Safe Z EL vm h a := by
  obtain ⟨c, A, -⟩ := V
  exact Safe.arr hal A ht
/-- a callee that may load constants, whose contract asks besides that some objects are none of the held constants -/
theorem own_backSH {p : Program} {l : Launch} {e : Env} {R : Room} {s : State} {args : Array Value} {below : List Frame} {Z : State} {a0 : Array Value} {h : Heap} {vm0 : Vm} {EL : List (String × Nat)} {SL : List Addr} {y : MethodName} {bytes : ByteArray} {maxL : Nat} {ret : Option FieldType} {rm : Room} {len W : Nat} {as' : Array Value} {Q : Option Value → Heap → List Loc → Prop}
    (hM : MetFree l y (head1 [Jvm.Cond.code y bytes maxL ret] rm) (fun a U => a = as' ∧ Z.Warmed39 U.vm ∧ U.heap = h ∧ CHv Z EL U.vm h ∧ ∀ x ∈ SL, Safe Z EL U.vm h x) (fun _ _ _ _ _ => True) (fun _ U o U' => ∃ v L, o = .returned v ∧ Q v U'.heap L ∧ CHr Z EL U.vm U.heap U'.vm U'.heap ∧ ReturnedEndW U o U' L rm.cells rm.slots))
    (hZ : Z.Warmed39 vm0) (wc : (Jvm.Cond.code y bytes maxL ret).before a0 Z = true) (wz : (Jvm.Cond.initialized y.cls).before a0 Z = true) (hf : rm.frames + 1 ≤ R.frames) (hl : W + (maxL + 11) + rm.locals ≤ R.locals) (hEL : EW Z a0 EL) (H : CHv Z EL vm0 h) (hS : ∀ x ∈ SL, x < h.size ∧ Safe Z EL vm0 h x) :
    BackS l R p e below (s.setVm vm0) args y len W (fun A a => a = as' ∧ A.U.heap = h ∧ A.cells + rm.cells ≤ R.cells ∧ A.slots + rm.slots ≤ R.slots)
      (fun A _ v B => ∃ L, Q v B.U.heap L ∧ B.locs = A.locs ++ L ∧ B.cells = A.cells + rm.cells ∧ B.slots = A.slots + rm.slots ∧ CHr Z EL vm0 h B.U.vm B.U.heap) := by
  refine BackS.of_freeW (bytes := bytes) (maxL := maxL) (ret := ret) (E := fun _ first o t L k n => k = rm.cells ∧ n = rm.slots ∧ (∃ v, o = .returned v ∧ Q v t.heap L) ∧ CHr Z EL first.vm first.heap t.vm t.heap) hM hf hl ?_ ?_ (fun _ _ _ _ _ _ _ _ _ => trivial) ?_ ?_
  · intro m meth c A a Y hp
    have hU : Z.Warmed39 A.U.vm := wtrans (s := s.setVm vm0) hZ Y.warmed
    exact ⟨by show (Jvm.Cond.and _ .tt).before a A.U = true; rw [Cond.before_and, mv hU wc]; rfl, mv hU wc, mv hU wz, hp.2.2.1, hp.2.2.2⟩
  · intro m meth c A a g mk Y hp
    have CA := CHv.at Y hZ hEL H
    exact ⟨hp.1, wtrans (s := s.setVm vm0) hZ Y.warmed, hp.2.1, CA.1, fun x hx => CA.safe (hS x hx).1 (hS x hx).2⟩
  · rintro _ _ _ _ ⟨v, L, h1, h2, h3, h4⟩
    exact ⟨L, _, _, h4, rfl, rfl, ⟨v, h1, h2⟩, h3⟩
  · rintro m meth c A a g mk v t L k n Y hp _ _ ⟨e1, e2, ⟨v', e3, e4⟩, e5⟩
    cases e3; subst e1 e2
    refine ⟨L, e4, rfl, rfl, rfl, (CHv.at Y hZ hEL H).trans ?_⟩
    rw [← hp.2.1]; exact e5
def EL : List (String × Nat) := []
theorem own_EL {Z : State} {a0 : Array Value} (hw : ∀ d ∈ tables_1, d.before a0 Z = true) : EW Z a0 EL := EW.nil
theorem own_strW {Z : State} {a0 : Array Value} (hw : ∀ d ∈ tables_1, d.before a0 Z = true) : ∀ d ∈ Bundle.stringAtoms, d.before a0 Z = true := fun d hd => hw d ((by decide +kernel : ∀ d ∈ Bundle.stringAtoms, d ∈ tables_1) d hd)
section Own
open Jvm.FP Jvm.Free.Fl
abbrev FF (x : UInt64) : Prop := Fin64 x
abbrev NN (x : UInt64) : Prop := NoNaN64 x
theorem own_nn {x : UInt64} (h : FF x) : NN x := h.noNaN
theorem own_nni : NN 18442240474082181120 := by unfold NN NoNaN64; decide
theorem own_fi (x : Int32) : FF (FP.i2d x) := i2d_fin x
theorem own_f1 {x : UInt64} (h : FF x) : FF (Native.java_lang_Math.nans.pick64 true 18442240474082181120 x) := by
  have e : FP.dcmp 18442240474082181120 x = some .lt := (Core.fin_lt_inf (fin64_core.mp h)).2.2.2
  unfold Native.java_lang_Math.nans.pick64
  rw [e]; exact h
theorem own_f2 {a x : UInt64} (ha : FF a) (h : FF x) : FF (Native.java_lang_Math.nans.pick64 true a x) := pick64_fin ha h
theorem own_c1 {x : UInt64} (h : FF x) : cmpValue (FP.dcmp x 18442240474082181120) .l = 1 := Jvm.RoadKit.dcmp_ninf h .l
end Own
theorem own_gd (j : Nat) : [Value.long (0 : Int64)].getD j (.long (0 : Int64)) = .long (0 : Int64) := pad_rep [] (.long (0 : Int64)) 1 j
theorem own_wi {x : Int32} (h : 0 ≤ x.toInt ∧ x.toInt ≤ 1023) : 0 ≤ (x >>> ((6 : Int32) &&& 31)).toInt ∧ (x >>> ((6 : Int32) &&& 31)).toInt ≤ 15 := by
  have a := c_ishr x (6 : Int32) 6 (by decide)
  omega
theorem own_add1 {x : Int32} (h : 0 ≤ x.toInt ∧ x.toInt ≤ 15) : (x + (1 : Int32)).toInt = x.toInt + 1 := by
  have a := c_iadd x (1 : Int32)
  have r := rng32 (x + (1 : Int32))
  have l : (1 : Int32).toInt = 1 := by decide
  omega
theorem own_ncn {x : Int32} (h : 2 ≤ x.toInt ∧ x.toInt ≤ 16) : ¬ x < 0 ∧ x.toNatClampNeg ≤ 16 := by
  have l : (0 : Int32).toInt = 0 := by decide
  refine ⟨fun q => ?_, ?_⟩
  · have := Int32.lt_iff_toInt_lt.mp q; omega
  · simp only [Int32.toNatClampNeg]; omega
theorem own_1023 (x : Int32) : 0 ≤ (x &&& (1023 : Int32)).toInt ∧ (x &&& (1023 : Int32)).toInt ≤ 1023 := by
  have m := c_mask x (1023 : Int32) 10 (by decide) (by decide)
  omega
abbrev Rm1 : Room := { frames := 1, cells := 0, slots := 0, locals := 12 }
theorem ef_1 (m : MethodId) (o0 : Addr) (o1 : Addr) (o2 : Addr) (x3 : UInt64) (x4 : UInt64) (x5 : UInt64) : entryFrame m #[(.ref o0), (.ref o1), (.ref o2), (.double x3), (.double x4), (.double x5)] 9 = mkF m 0 #[.val (.ref o0), .val (.ref o1), .val (.ref o2), .val (.double x3), .second, .val (.double x4), .second, .val (.double x5), .second] [] := by first | (simp [entryFrame, mkF, argsToLocals, Value.category]; done) | rfl
def Q1 (Z : State) (o0 : Addr) (o1 : Addr) (o2 : Addr) (x3 : UInt64) (x4 : UInt64) (x5 : UInt64) (u_key_o0 : Value) (u_bytes_o0 : Value) (u_weight_o0 : Value) (u_u_o0 : Value) (u_rank_o0 : Value) (h0 : Heap) (n0 : Nat) (v : Option Value) (h : Heap) (L : List Loc) : Prop := v = none ∧ Fr n0 L ∧ Keep h0 h [o0] ∧ Exa Z h o0 "com/example/nadir/nadir/RankedKey" ∧ Fld Z h o0 "com/example/nadir/nadir/RankedKey" "key" "Ljava/lang/String;" (.ref o1) ∧ Fld Z h o0 "com/example/nadir/nadir/RankedKey" "bytes" "[B" (.ref o2) ∧ Fld Z h o0 "com/example/nadir/nadir/RankedKey" "weight" "D" (.double x3) ∧ Fld Z h o0 "com/example/nadir/nadir/RankedKey" "u" "D" (.double x4) ∧ Fld Z h o0 "com/example/nadir/nadir/RankedKey" "rank" "D" (.double x5)
set_option maxRecDepth 65536 in
set_option maxHeartbeats 40000000 in
theorem rm1 (l : Launch) (Z : State) (a0 : Array Value) (hw : ∀ d ∈ tables_1, d.before a0 Z = true) (ws : List Jvm.Cond) (o0 : Addr) (o1 : Addr) (o2 : Addr) (x3 : UInt64) (x4 : UInt64) (x5 : UInt64) (u_key_o0 : Value) (u_bytes_o0 : Value) (u_weight_o0 : Value) (u_u_o0 : Value) (u_rank_o0 : Value) (h0 : Heap) (n0 : Nat) (Z0 : n0 ≤ h0.size) (g_o0 : n0 ≤ o0) (E_o0 : Exa Z h0 o0 "com/example/nadir/nadir/RankedKey") (F_u_key_o0 : Fld Z h0 o0 "com/example/nadir/nadir/RankedKey" "key" "Ljava/lang/String;" u_key_o0) (F_u_bytes_o0 : Fld Z h0 o0 "com/example/nadir/nadir/RankedKey" "bytes" "[B" u_bytes_o0) (F_u_weight_o0 : Fld Z h0 o0 "com/example/nadir/nadir/RankedKey" "weight" "D" u_weight_o0) (F_u_u_o0 : Fld Z h0 o0 "com/example/nadir/nadir/RankedKey" "u" "D" u_u_o0) (F_u_rank_o0 : Fld Z h0 o0 "com/example/nadir/nadir/RankedKey" "rank" "D" u_rank_o0) :
    MetFree l (⟨"com/example/nadir/nadir/RankedKey", "<init>", "(Ljava/lang/String;[BDDD)V"⟩ : MethodName) (head1 (Jvm.Cond.code (⟨"com/example/nadir/nadir/RankedKey", "<init>", "(Ljava/lang/String;[BDDD)V"⟩ : MethodName) prog_25_method_1_code 9 none :: ws) Rm1) (fun a U => a = #[(.ref o0), (.ref o1), (.ref o2), (.double x3), (.double x4), (.double x5)] ∧ Z.Warmed39 U.vm ∧ U.heap = h0) (fun _ _ _ _ _ => True) (fun _ U o U' => ∃ v L, o = .returned v ∧ Q1 Z o0 o1 o2 x3 x4 x5 u_key_o0 u_bytes_o0 u_weight_o0 u_u_o0 u_rank_o0 h0 n0 v U'.heap L ∧ FrameEnd U o U' L Rm1.cells Rm1.slots) := by
  refine MetFree.of_bodySF (plainFor_of_name pn0) hisR ?_
  intro p e s m args below meth c s₁ Bd hml0 hP hK
  obtain ⟨rfl, hZ, hh⟩ := hP
  have hx := Bd.exec
  have hby := Bd.bytes
  have hml : c.maxLocals = 9 := hml0
  have hown : s.vm.findClass "com/example/nadir/nadir/RankedKey" = some m.cls := findClass_of_methodNamed Bd.named
  have hnm := (name_of_methodNamed Bd.named Bd.method).1
  have X0 : Stand p l e Rm1 s m #[(.ref o0), (.ref o1), (.ref o2), (.double x3), (.double x4), (.double x5)] below meth c s₁ [] 0 0 := Stand.of_body Bd
  have e0 : s₁.heap = h0 := by rw [← hh, Bd.state]; rfl
  have N0 := Fr.nil n0
  show Dn p e below s Rm1.cells Rm1.slots (Q1 Z o0 o1 o2 x3 x4 x5 u_key_o0 u_bytes_o0 u_weight_o0 u_u_o0 u_rank_o0 h0 n0) (s₁.setTop (entryFrame m #[(.ref o0), (.ref o1), (.ref o2), (.double x3), (.double x4), (.double x5)] 9))
  rw [ef_1]
  refine Dn.by (U' := s₁.setTop (mkF m 1 #[.val (.ref o0), .val (.ref o1), .val (.ref o2), .val (.double x3), .second, .val (.double x4), .second, .val (.double x5), .second] [(.ref o0)])) (fun _ ks => XS.aloadN X0.here hx rfl (hb hby d1_0) rfl rfl ks) ?_
  obtain ⟨T1, X1, e1, st1⟩ := initO X0 hx hZ hown (hw _ (List.mem_of_getElem? (i := 15) rfl)) (hw _ (List.mem_of_getElem? (i := 16) rfl)) (hw _ (List.mem_of_getElem? (i := 17) rfl)) e0 (g := (mkF m 1 #[.val (.ref o0), .val (.ref o1), .val (.ref o2), .val (.double x3), .second, .val (.double x4), .second, .val (.double x5), .second] [(.ref o0)])) rfl (by rw [hml]; rfl) rfl (hb hby d1_1) (by decide) (W := 0) (by show 2 * 0 + _ ≤ _; exact Nat.le_of_eq rfl) (by decide)
  refine Dn.by (U' := T1.setTop (mkF m 4 #[.val (.ref o0), .val (.ref o1), .val (.ref o2), .val (.double x3), .second, .val (.double x4), .second, .val (.double x5), .second] [])) st1 ?_
  refine Dn.by (U' := T1.setTop (mkF m 5 #[.val (.ref o0), .val (.ref o1), .val (.ref o2), .val (.double x3), .second, .val (.double x4), .second, .val (.double x5), .second] [(.ref o0)])) (fun _ ks => XS.aloadN X1.here hx rfl (hb hby d1_4) rfl rfl ks) ?_
  refine Dn.by (U' := T1.setTop (mkF m 6 #[.val (.ref o0), .val (.ref o1), .val (.ref o2), .val (.double x3), .second, .val (.double x4), .second, .val (.double x5), .second] [(.ref o1), (.ref o0)])) (fun _ ks => XS.aloadN X1.here hx rfl (hb hby d1_5) rfl rfl ks) ?_
  obtain ⟨T2, h2, X2, e2, W2, st2⟩ := putF X1 hx hZ hown (host := "") (Or.inl (hw _ (List.mem_of_getElem? (i := 18) rfl))) Via.refl e1 F_u_key_o0 E_o0 (Or.inr ⟨(hw _ (List.mem_of_getElem? (i := 19) rfl)), rfl, hnm⟩) (hw _ (List.mem_of_getElem? (i := 1) rfl)) (ty := (.object "java/lang/String")) (by decide) rfl rfl (g := (mkF m 6 #[.val (.ref o0), .val (.ref o1), .val (.ref o2), .val (.double x3), .second, .val (.double x4), .second, .val (.double x5), .second] [(.ref o1), (.ref o0)])) rfl rfl (hb hby d1_6)
  have F2 := F_u_key_o0.same W2
  have K3 : Keep h0 h2 [o0] := ((Keep.refl h0 [o0]).wr W2 (Or.inl (List.mem_of_getElem? (i := 0) rfl)))
  have z3 : n0 ≤ h2.size := (Nat.le_trans Z0 (Keep.of_wr W2).1)
  have N2 := Fr.snoc X2 N0 g_o0
  refine Dn.by (U' := T2.setTop (mkF m 9 #[.val (.ref o0), .val (.ref o1), .val (.ref o2), .val (.double x3), .second, .val (.double x4), .second, .val (.double x5), .second] [])) st2 ?_
  refine Dn.by (U' := T2.setTop (mkF m 10 #[.val (.ref o0), .val (.ref o1), .val (.ref o2), .val (.double x3), .second, .val (.double x4), .second, .val (.double x5), .second] [(.ref o0)])) (fun _ ks => XS.aloadN X2.here hx rfl (hb hby d1_9) rfl rfl ks) ?_
  refine Dn.by (U' := T2.setTop (mkF m 11 #[.val (.ref o0), .val (.ref o1), .val (.ref o2), .val (.double x3), .second, .val (.double x4), .second, .val (.double x5), .second] [(.ref o2), (.ref o0)])) (fun _ ks => XS.aloadN X2.here hx rfl (hb hby d1_10) rfl rfl ks) ?_
  obtain ⟨T4, h4, X4, e4, W4, st4⟩ := putF X2 hx hZ hown (host := "") (Or.inl (hw _ (List.mem_of_getElem? (i := 20) rfl))) Via.refl e2 (F_u_bytes_o0.other W2 (Or.inr (slot_ne (Or.inr (hw _ (List.mem_of_getElem? (i := 21) rfl))) (Or.inr (hw _ (List.mem_of_getElem? (i := 19) rfl))) (by decide) (t := (.array .byte)) (t' := (.object "java/lang/String")) (by decide) (by decide)))) (E_o0.wr W2) (Or.inr ⟨(hw _ (List.mem_of_getElem? (i := 21) rfl)), rfl, hnm⟩) (hw _ (List.mem_of_getElem? (i := 1) rfl)) (ty := (.array .byte)) (by decide) rfl rfl (g := (mkF m 11 #[.val (.ref o0), .val (.ref o1), .val (.ref o2), .val (.double x3), .second, .val (.double x4), .second, .val (.double x5), .second] [(.ref o2), (.ref o0)])) rfl rfl (hb hby d1_11)
  have F4 := (F_u_bytes_o0.other W2 (Or.inr (slot_ne (Or.inr (hw _ (List.mem_of_getElem? (i := 21) rfl))) (Or.inr (hw _ (List.mem_of_getElem? (i := 19) rfl))) (by decide) (t := (.array .byte)) (t' := (.object "java/lang/String")) (by decide) (by decide)))).same W4
  have K5 : Keep h0 h4 [o0] := (K3.wr W4 (Or.inl (List.mem_of_getElem? (i := 0) rfl)))
  have z5 : n0 ≤ h4.size := (Nat.le_trans z3 (Keep.of_wr W4).1)
  have N4 := Fr.snoc X4 N2 g_o0
  refine Dn.by (U' := T4.setTop (mkF m 14 #[.val (.ref o0), .val (.ref o1), .val (.ref o2), .val (.double x3), .second, .val (.double x4), .second, .val (.double x5), .second] [])) st4 ?_
  refine Dn.by (U' := T4.setTop (mkF m 15 #[.val (.ref o0), .val (.ref o1), .val (.ref o2), .val (.double x3), .second, .val (.double x4), .second, .val (.double x5), .second] [(.ref o0)])) (fun _ ks => XS.aloadN X4.here hx rfl (hb hby d1_14) rfl rfl ks) ?_
  refine Dn.by (U' := T4.setTop (mkF m 16 #[.val (.ref o0), .val (.ref o1), .val (.ref o2), .val (.double x3), .second, .val (.double x4), .second, .val (.double x5), .second] [(.double x3), (.ref o0)])) (fun _ ks => XS.dloadN X4.here hx rfl (hb hby d1_15) rfl ks) ?_
  obtain ⟨T6, h6, X6, e6, W6, st6⟩ := putF X4 hx hZ hown (host := "") (Or.inl (hw _ (List.mem_of_getElem? (i := 22) rfl))) Via.refl e4 ((F_u_weight_o0.other W2 (Or.inr (slot_ne (Or.inr (hw _ (List.mem_of_getElem? (i := 23) rfl))) (Or.inr (hw _ (List.mem_of_getElem? (i := 19) rfl))) (by decide) (t := .double) (t' := (.object "java/lang/String")) (by decide) (by decide)))).other W4 (Or.inr (slot_ne (Or.inr (hw _ (List.mem_of_getElem? (i := 23) rfl))) (Or.inr (hw _ (List.mem_of_getElem? (i := 21) rfl))) (by decide) (t := .double) (t' := (.array .byte)) (by decide) (by decide)))) ((E_o0.wr W2).wr W4) (Or.inr ⟨(hw _ (List.mem_of_getElem? (i := 23) rfl)), rfl, hnm⟩) (hw _ (List.mem_of_getElem? (i := 1) rfl)) (ty := .double) (by decide) rfl rfl (g := (mkF m 16 #[.val (.ref o0), .val (.ref o1), .val (.ref o2), .val (.double x3), .second, .val (.double x4), .second, .val (.double x5), .second] [(.double x3), (.ref o0)])) rfl rfl (hb hby d1_16)
  have F6 := ((F_u_weight_o0.other W2 (Or.inr (slot_ne (Or.inr (hw _ (List.mem_of_getElem? (i := 23) rfl))) (Or.inr (hw _ (List.mem_of_getElem? (i := 19) rfl))) (by decide) (t := .double) (t' := (.object "java/lang/String")) (by decide) (by decide)))).other W4 (Or.inr (slot_ne (Or.inr (hw _ (List.mem_of_getElem? (i := 23) rfl))) (Or.inr (hw _ (List.mem_of_getElem? (i := 21) rfl))) (by decide) (t := .double) (t' := (.array .byte)) (by decide) (by decide)))).same W6
  have K7 : Keep h0 h6 [o0] := (K5.wr W6 (Or.inl (List.mem_of_getElem? (i := 0) rfl)))
  have z7 : n0 ≤ h6.size := (Nat.le_trans z5 (Keep.of_wr W6).1)
  have N6 := Fr.snoc X6 N4 g_o0
  refine Dn.by (U' := T6.setTop (mkF m 19 #[.val (.ref o0), .val (.ref o1), .val (.ref o2), .val (.double x3), .second, .val (.double x4), .second, .val (.double x5), .second] [])) st6 ?_
  refine Dn.by (U' := T6.setTop (mkF m 20 #[.val (.ref o0), .val (.ref o1), .val (.ref o2), .val (.double x3), .second, .val (.double x4), .second, .val (.double x5), .second] [(.ref o0)])) (fun _ ks => XS.aloadN X6.here hx rfl (hb hby d1_19) rfl rfl ks) ?_
  refine Dn.by (U' := T6.setTop (mkF m 22 #[.val (.ref o0), .val (.ref o1), .val (.ref o2), .val (.double x3), .second, .val (.double x4), .second, .val (.double x5), .second] [(.double x4), (.ref o0)])) (fun _ ks => XS.dload X6.here hx rfl (hb hby d1_20) rfl ks) ?_
  obtain ⟨T8, h8, X8, e8, W8, st8⟩ := putF X6 hx hZ hown (host := "") (Or.inl (hw _ (List.mem_of_getElem? (i := 24) rfl))) Via.refl e6 (((F_u_u_o0.other W2 (Or.inr (slot_ne (Or.inr (hw _ (List.mem_of_getElem? (i := 25) rfl))) (Or.inr (hw _ (List.mem_of_getElem? (i := 19) rfl))) (by decide) (t := .double) (t' := (.object "java/lang/String")) (by decide) (by decide)))).other W4 (Or.inr (slot_ne (Or.inr (hw _ (List.mem_of_getElem? (i := 25) rfl))) (Or.inr (hw _ (List.mem_of_getElem? (i := 21) rfl))) (by decide) (t := .double) (t' := (.array .byte)) (by decide) (by decide)))).other W6 (Or.inr (slot_ne (Or.inr (hw _ (List.mem_of_getElem? (i := 25) rfl))) (Or.inr (hw _ (List.mem_of_getElem? (i := 23) rfl))) (by decide) (t := .double) (t' := .double) (by decide) (by decide)))) (((E_o0.wr W2).wr W4).wr W6) (Or.inr ⟨(hw _ (List.mem_of_getElem? (i := 25) rfl)), rfl, hnm⟩) (hw _ (List.mem_of_getElem? (i := 1) rfl)) (ty := .double) (by decide) rfl rfl (g := (mkF m 22 #[.val (.ref o0), .val (.ref o1), .val (.ref o2), .val (.double x3), .second, .val (.double x4), .second, .val (.double x5), .second] [(.double x4), (.ref o0)])) rfl rfl (hb hby d1_22)
  have F8 := (((F_u_u_o0.other W2 (Or.inr (slot_ne (Or.inr (hw _ (List.mem_of_getElem? (i := 25) rfl))) (Or.inr (hw _ (List.mem_of_getElem? (i := 19) rfl))) (by decide) (t := .double) (t' := (.object "java/lang/String")) (by decide) (by decide)))).other W4 (Or.inr (slot_ne (Or.inr (hw _ (List.mem_of_getElem? (i := 25) rfl))) (Or.inr (hw _ (List.mem_of_getElem? (i := 21) rfl))) (by decide) (t := .double) (t' := (.array .byte)) (by decide) (by decide)))).other W6 (Or.inr (slot_ne (Or.inr (hw _ (List.mem_of_getElem? (i := 25) rfl))) (Or.inr (hw _ (List.mem_of_getElem? (i := 23) rfl))) (by decide) (t := .double) (t' := .double) (by decide) (by decide)))).same W8
  have K9 : Keep h0 h8 [o0] := (K7.wr W8 (Or.inl (List.mem_of_getElem? (i := 0) rfl)))
  have z9 : n0 ≤ h8.size := (Nat.le_trans z7 (Keep.of_wr W8).1)
  have N8 := Fr.snoc X8 N6 g_o0
  refine Dn.by (U' := T8.setTop (mkF m 25 #[.val (.ref o0), .val (.ref o1), .val (.ref o2), .val (.double x3), .second, .val (.double x4), .second, .val (.double x5), .second] [])) st8 ?_
  refine Dn.by (U' := T8.setTop (mkF m 26 #[.val (.ref o0), .val (.ref o1), .val (.ref o2), .val (.double x3), .second, .val (.double x4), .second, .val (.double x5), .second] [(.ref o0)])) (fun _ ks => XS.aloadN X8.here hx rfl (hb hby d1_25) rfl rfl ks) ?_
  refine Dn.by (U' := T8.setTop (mkF m 28 #[.val (.ref o0), .val (.ref o1), .val (.ref o2), .val (.double x3), .second, .val (.double x4), .second, .val (.double x5), .second] [(.double x5), (.ref o0)])) (fun _ ks => XS.dload X8.here hx rfl (hb hby d1_26) rfl ks) ?_
  obtain ⟨T10, h10, X10, e10, W10, st10⟩ := putF X8 hx hZ hown (host := "") (Or.inl (hw _ (List.mem_of_getElem? (i := 26) rfl))) Via.refl e8 ((((F_u_rank_o0.other W2 (Or.inr (slot_ne (Or.inr (hw _ (List.mem_of_getElem? (i := 27) rfl))) (Or.inr (hw _ (List.mem_of_getElem? (i := 19) rfl))) (by decide) (t := .double) (t' := (.object "java/lang/String")) (by decide) (by decide)))).other W4 (Or.inr (slot_ne (Or.inr (hw _ (List.mem_of_getElem? (i := 27) rfl))) (Or.inr (hw _ (List.mem_of_getElem? (i := 21) rfl))) (by decide) (t := .double) (t' := (.array .byte)) (by decide) (by decide)))).other W6 (Or.inr (slot_ne (Or.inr (hw _ (List.mem_of_getElem? (i := 27) rfl))) (Or.inr (hw _ (List.mem_of_getElem? (i := 23) rfl))) (by decide) (t := .double) (t' := .double) (by decide) (by decide)))).other W8 (Or.inr (slot_ne (Or.inr (hw _ (List.mem_of_getElem? (i := 27) rfl))) (Or.inr (hw _ (List.mem_of_getElem? (i := 25) rfl))) (by decide) (t := .double) (t' := .double) (by decide) (by decide)))) ((((E_o0.wr W2).wr W4).wr W6).wr W8) (Or.inr ⟨(hw _ (List.mem_of_getElem? (i := 27) rfl)), rfl, hnm⟩) (hw _ (List.mem_of_getElem? (i := 1) rfl)) (ty := .double) (by decide) rfl rfl (g := (mkF m 28 #[.val (.ref o0), .val (.ref o1), .val (.ref o2), .val (.double x3), .second, .val (.double x4), .second, .val (.double x5), .second] [(.double x5), (.ref o0)])) rfl rfl (hb hby d1_28)
  have F10 := ((((F_u_rank_o0.other W2 (Or.inr (slot_ne (Or.inr (hw _ (List.mem_of_getElem? (i := 27) rfl))) (Or.inr (hw _ (List.mem_of_getElem? (i := 19) rfl))) (by decide) (t := .double) (t' := (.object "java/lang/String")) (by decide) (by decide)))).other W4 (Or.inr (slot_ne (Or.inr (hw _ (List.mem_of_getElem? (i := 27) rfl))) (Or.inr (hw _ (List.mem_of_getElem? (i := 21) rfl))) (by decide) (t := .double) (t' := (.array .byte)) (by decide) (by decide)))).other W6 (Or.inr (slot_ne (Or.inr (hw _ (List.mem_of_getElem? (i := 27) rfl))) (Or.inr (hw _ (List.mem_of_getElem? (i := 23) rfl))) (by decide) (t := .double) (t' := .double) (by decide) (by decide)))).other W8 (Or.inr (slot_ne (Or.inr (hw _ (List.mem_of_getElem? (i := 27) rfl))) (Or.inr (hw _ (List.mem_of_getElem? (i := 25) rfl))) (by decide) (t := .double) (t' := .double) (by decide) (by decide)))).same W10
  have K11 : Keep h0 h10 [o0] := (K9.wr W10 (Or.inl (List.mem_of_getElem? (i := 0) rfl)))
  have z11 : n0 ≤ h10.size := (Nat.le_trans z9 (Keep.of_wr W10).1)
  have N10 := Fr.snoc X10 N8 g_o0
  refine Dn.by (U' := T10.setTop (mkF m 31 #[.val (.ref o0), .val (.ref o1), .val (.ref o2), .val (.double x3), .second, .val (.double x4), .second, .val (.double x5), .second] [])) st10 ?_
  refine Dn.out X10 (v := none) (fun _ => rfl) (BodyLoose.notSynchronized Bd) (fun _ hr => X10.returnOut hx Bd.returns (hb hby d1_31) hr) (by decide) (by decide) ?_
  rw [e10]
  exact ⟨rfl, N10, K11, (((((E_o0.wr W2).wr W4).wr W6).wr W8).wr W10), ((((F2.other W4 (Or.inr (slot_ne (Or.inr (hw _ (List.mem_of_getElem? (i := 19) rfl))) (Or.inr (hw _ (List.mem_of_getElem? (i := 21) rfl))) (by decide) (t := (.object "java/lang/String")) (t' := (.array .byte)) (by decide) (by decide)))).other W6 (Or.inr (slot_ne (Or.inr (hw _ (List.mem_of_getElem? (i := 19) rfl))) (Or.inr (hw _ (List.mem_of_getElem? (i := 23) rfl))) (by decide) (t := (.object "java/lang/String")) (t' := .double) (by decide) (by decide)))).other W8 (Or.inr (slot_ne (Or.inr (hw _ (List.mem_of_getElem? (i := 19) rfl))) (Or.inr (hw _ (List.mem_of_getElem? (i := 25) rfl))) (by decide) (t := (.object "java/lang/String")) (t' := .double) (by decide) (by decide)))).other W10 (Or.inr (slot_ne (Or.inr (hw _ (List.mem_of_getElem? (i := 19) rfl))) (Or.inr (hw _ (List.mem_of_getElem? (i := 27) rfl))) (by decide) (t := (.object "java/lang/String")) (t' := .double) (by decide) (by decide)))), (((F4.other W6 (Or.inr (slot_ne (Or.inr (hw _ (List.mem_of_getElem? (i := 21) rfl))) (Or.inr (hw _ (List.mem_of_getElem? (i := 23) rfl))) (by decide) (t := (.array .byte)) (t' := .double) (by decide) (by decide)))).other W8 (Or.inr (slot_ne (Or.inr (hw _ (List.mem_of_getElem? (i := 21) rfl))) (Or.inr (hw _ (List.mem_of_getElem? (i := 25) rfl))) (by decide) (t := (.array .byte)) (t' := .double) (by decide) (by decide)))).other W10 (Or.inr (slot_ne (Or.inr (hw _ (List.mem_of_getElem? (i := 21) rfl))) (Or.inr (hw _ (List.mem_of_getElem? (i := 27) rfl))) (by decide) (t := (.array .byte)) (t' := .double) (by decide) (by decide)))), ((F6.other W8 (Or.inr (slot_ne (Or.inr (hw _ (List.mem_of_getElem? (i := 23) rfl))) (Or.inr (hw _ (List.mem_of_getElem? (i := 25) rfl))) (by decide) (t := .double) (t' := .double) (by decide) (by decide)))).other W10 (Or.inr (slot_ne (Or.inr (hw _ (List.mem_of_getElem? (i := 23) rfl))) (Or.inr (hw _ (List.mem_of_getElem? (i := 27) rfl))) (by decide) (t := .double) (t' := .double) (by decide) (by decide)))), (F8.other W10 (Or.inr (slot_ne (Or.inr (hw _ (List.mem_of_getElem? (i := 25) rfl))) (Or.inr (hw _ (List.mem_of_getElem? (i := 27) rfl))) (by decide) (t := .double) (t' := .double) (by decide) (by decide)))), F10⟩
abbrev Rm6 : Room := { frames := 0, cells := 0, slots := 0, locals := 0 }
theorem ef_6 (m : MethodId) (p0 : Int32) : entryFrame m #[(.int p0)] 1 = mkF m 0 #[.val (.int p0)] [] := by first | (simp [entryFrame, mkF, argsToLocals, Value.category]; done) | rfl
def Q6 (Z : State) (p0 : Int32) (h0 : Heap) (n0 : Nat) (v : Option Value) (h : Heap) (L : List Loc) : Prop := v = some (.int (p0 >>> ((6 : Int32) &&& 31))) ∧ Fr n0 L ∧ h = h0
set_option maxRecDepth 65536 in
set_option maxHeartbeats 40000000 in
theorem rm6 (l : Launch) (Z : State) (a0 : Array Value) (hw : ∀ d ∈ tables_1, d.before a0 Z = true) (ws : List Jvm.Cond) (p0 : Int32) (h0 : Heap) (n0 : Nat) (Z0 : n0 ≤ h0.size)  :
    MetFree l (⟨"java/util/BitSet", "wordIndex", "(I)I"⟩ : MethodName) (head1 (Jvm.Cond.code (⟨"java/util/BitSet", "wordIndex", "(I)I"⟩ : MethodName) jdk_92_method_1_code 1 (some .int) :: ws) Rm6) (fun a U => a = #[(.int p0)] ∧ Z.Warmed39 U.vm ∧ U.heap = h0) (fun _ _ _ _ _ => True) (fun _ U o U' => ∃ v L, o = .returned v ∧ Q6 Z p0 h0 n0 v U'.heap L ∧ FrameEnd U o U' L Rm6.cells Rm6.slots) := by
  refine MetFree.of_bodySF (plainFor_of_name pn1) hisR ?_
  intro p e s m args below meth c s₁ Bd hml0 hP hK
  obtain ⟨rfl, hZ, hh⟩ := hP
  have hx := Bd.exec
  have hby := Bd.bytes
  have hml : c.maxLocals = 1 := hml0
  have hown : s.vm.findClass "java/util/BitSet" = some m.cls := findClass_of_methodNamed Bd.named
  have hnm := (name_of_methodNamed Bd.named Bd.method).1
  have X0 : Stand p l e Rm6 s m #[(.int p0)] below meth c s₁ [] 0 0 := Stand.of_body Bd
  have e0 : s₁.heap = h0 := by rw [← hh, Bd.state]; rfl
  have N0 := Fr.nil n0
  show Dn p e below s Rm6.cells Rm6.slots (Q6 Z p0 h0 n0) (s₁.setTop (entryFrame m #[(.int p0)] 1))
  rw [ef_6]
  refine Dn.by (U' := s₁.setTop (mkF m 1 #[.val (.int p0)] [(.int p0)])) (fun _ ks => XS.iloadN X0.here hx rfl (hb hby d6_0) rfl ks) ?_
  refine Dn.by (U' := s₁.setTop (mkF m 3 #[.val (.int p0)] [(.int (6 : Int32)), (.int p0)])) (fun _ ks => XS.bipush X0.here hx rfl (hb hby d6_1)  ks) ?_
  refine Dn.by (U' := s₁.setTop (mkF m 4 #[.val (.int p0)] [(.int (p0 >>> ((6 : Int32) &&& 31)))])) (fun _ ks => XS.ishr X0.here hx rfl (hb hby d6_3) rfl ks) ?_
  refine Dn.out X0 (v := (some (.int (p0 >>> ((6 : Int32) &&& 31))))) (fun h => by rw [Bd.returns] at h; cases h) (BodyLoose.notSynchronized Bd) (fun _ hr => retOut X0 hx Bd.returns rfl (Or.inl ⟨rfl, Or.inl rfl, _, rfl⟩) (hb hby d6_4) hr) (by decide) (by decide) ?_
  rw [e0]
  exact ⟨rfl, N0, rfl⟩
def maxI (p0 : Int32) (p1 : Int32) : Int32 := (if p0 < p1 then p1 else p0)
abbrev Rm13 : Room := { frames := 0, cells := 0, slots := 0, locals := 0 }
theorem ef_13 (m : MethodId) (p0 : Int32) (p1 : Int32) : entryFrame m #[(.int p0), (.int p1)] 2 = mkF m 0 #[.val (.int p0), .val (.int p1)] [] := by first | (simp [entryFrame, mkF, argsToLocals, Value.category]; done) | rfl
def Q13 (Z : State) (p0 : Int32) (p1 : Int32) (h0 : Heap) (n0 : Nat) (v : Option Value) (h : Heap) (L : List Loc) : Prop := v = some (.int (maxI p0 p1)) ∧ Fr n0 L ∧ h = h0
set_option maxRecDepth 65536 in
set_option maxHeartbeats 40000000 in
theorem rm13 (l : Launch) (Z : State) (a0 : Array Value) (hw : ∀ d ∈ tables_1, d.before a0 Z = true) (ws : List Jvm.Cond) (p0 : Int32) (p1 : Int32) (h0 : Heap) (n0 : Nat) (Z0 : n0 ≤ h0.size)  :
    MetFree l (⟨"java/lang/Math", "max", "(II)I"⟩ : MethodName) (head1 (Jvm.Cond.code (⟨"java/lang/Math", "max", "(II)I"⟩ : MethodName) jdk_29_method_65_code 2 (some .int) :: ws) Rm13) (fun a U => a = #[(.int p0), (.int p1)] ∧ Z.Warmed39 U.vm ∧ U.heap = h0) (fun _ _ _ _ _ => True) (fun _ U o U' => ∃ v L, o = .returned v ∧ Q13 Z p0 p1 h0 n0 v U'.heap L ∧ FrameEnd U o U' L Rm13.cells Rm13.slots) := by
  refine MetFree.of_bodySF (Jvm.Free.JP.mathPlain rfl (by decide +kernel)) hisR ?_
  intro p e s m args below meth c s₁ Bd hml0 hP hK
  obtain ⟨rfl, hZ, hh⟩ := hP
  have hx := Bd.exec
  have hby := Bd.bytes
  have hml : c.maxLocals = 2 := hml0
  have hown : s.vm.findClass "java/lang/Math" = some m.cls := findClass_of_methodNamed Bd.named
  have hnm := (name_of_methodNamed Bd.named Bd.method).1
  have X0 : Stand p l e Rm13 s m #[(.int p0), (.int p1)] below meth c s₁ [] 0 0 := Stand.of_body Bd
  have e0 : s₁.heap = h0 := by rw [← hh, Bd.state]; rfl
  have N0 := Fr.nil n0
  show Dn p e below s Rm13.cells Rm13.slots (Q13 Z p0 p1 h0 n0) (s₁.setTop (entryFrame m #[(.int p0), (.int p1)] 2))
  rw [ef_13]
  refine Dn.by (U' := s₁.setTop (mkF m 1 #[.val (.int p0), .val (.int p1)] [(.int p0)])) (fun _ ks => XS.iloadN X0.here hx rfl (hb hby d13_0) rfl ks) ?_
  refine Dn.by (U' := s₁.setTop (mkF m 2 #[.val (.int p0), .val (.int p1)] [(.int p1), (.int p0)])) (fun _ ks => XS.iloadN X0.here hx rfl (hb hby d13_1) rfl ks) ?_
  by_cases c2_1 : p0 < p1
  ·
    refine Dn.by (U' := s₁.setTop (mkF m 9 #[.val (.int p0), .val (.int p1)] [])) (fun _ ks => XS.icmpYes X0.here hx rfl (pc0 := 2) (pc' := 9) rfl (hb hby d13_2) rfl (tlt c2_1).1 (by decide) (by decide) ks) ?_
    refine Dn.by (U' := s₁.setTop (mkF m 10 #[.val (.int p0), .val (.int p1)] [(.int p1)])) (fun _ ks => XS.iloadN X0.here hx rfl (hb hby d13_9) rfl ks) ?_
    refine Dn.out X0 (v := (some (.int p1))) (fun h => by rw [Bd.returns] at h; cases h) (BodyLoose.notSynchronized Bd) (fun _ hr => retOut X0 hx Bd.returns rfl (Or.inl ⟨rfl, Or.inl rfl, _, rfl⟩) (hb hby d13_10) hr) (by decide) (by decide) ?_
    rw [e0]
    exact ⟨by simp only [maxI, if_pos c2_1], N0, rfl⟩
  ·
    refine Dn.by (U' := s₁.setTop (mkF m 5 #[.val (.int p0), .val (.int p1)] [])) (fun _ ks => XS.icmpNo X0.here hx rfl (hb hby d13_2) rfl (flt c2_1).1 ks) ?_
    refine Dn.by (U' := s₁.setTop (mkF m 6 #[.val (.int p0), .val (.int p1)] [(.int p0)])) (fun _ ks => XS.iloadN X0.here hx rfl (hb hby d13_5) rfl ks) ?_
    refine Dn.by (U' := s₁.setTop (mkF m 10 #[.val (.int p0), .val (.int p1)] [(.int p0)])) (fun _ ks => XS.goto X0.here hx rfl (pc0 := 6) (pc' := 10) rfl (hb hby d13_6) (by decide) (by decide) ks) ?_
    refine Dn.out X0 (v := (some (.int p0))) (fun h => by rw [Bd.returns] at h; cases h) (BodyLoose.notSynchronized Bd) (fun _ hr => retOut X0 hx Bd.returns rfl (Or.inl ⟨rfl, Or.inl rfl, _, rfl⟩) (hb hby d13_10) hr) (by decide) (by decide) ?_
    rw [e0]
    exact ⟨by simp only [maxI, if_neg c2_1], N0, rfl⟩
def minI (p0 : Int32) (p1 : Int32) : Int32 := (if p1 < p0 then p1 else p0)
abbrev Rm15 : Room := { frames := 0, cells := 0, slots := 0, locals := 0 }
theorem ef_15 (m : MethodId) (p0 : Int32) (p1 : Int32) : entryFrame m #[(.int p0), (.int p1)] 2 = mkF m 0 #[.val (.int p0), .val (.int p1)] [] := by first | (simp [entryFrame, mkF, argsToLocals, Value.category]; done) | rfl
def Q15 (Z : State) (p0 : Int32) (p1 : Int32) (h0 : Heap) (n0 : Nat) (v : Option Value) (h : Heap) (L : List Loc) : Prop := v = some (.int (minI p0 p1)) ∧ Fr n0 L ∧ h = h0
set_option maxRecDepth 65536 in
set_option maxHeartbeats 40000000 in
theorem rm15 (l : Launch) (Z : State) (a0 : Array Value) (hw : ∀ d ∈ tables_1, d.before a0 Z = true) (ws : List Jvm.Cond) (p0 : Int32) (p1 : Int32) (h0 : Heap) (n0 : Nat) (Z0 : n0 ≤ h0.size)  :
    MetFree l (⟨"java/lang/Math", "min", "(II)I"⟩ : MethodName) (head1 (Jvm.Cond.code (⟨"java/lang/Math", "min", "(II)I"⟩ : MethodName) jdk_29_method_69_code 2 (some .int) :: ws) Rm15) (fun a U => a = #[(.int p0), (.int p1)] ∧ Z.Warmed39 U.vm ∧ U.heap = h0) (fun _ _ _ _ _ => True) (fun _ U o U' => ∃ v L, o = .returned v ∧ Q15 Z p0 p1 h0 n0 v U'.heap L ∧ FrameEnd U o U' L Rm15.cells Rm15.slots) := by
  refine MetFree.of_bodySF (Jvm.Free.JP.mathPlain rfl (by decide +kernel)) hisR ?_
  intro p e s m args below meth c s₁ Bd hml0 hP hK
  obtain ⟨rfl, hZ, hh⟩ := hP
  have hx := Bd.exec
  have hby := Bd.bytes
  have hml : c.maxLocals = 2 := hml0
  have hown : s.vm.findClass "java/lang/Math" = some m.cls := findClass_of_methodNamed Bd.named
  have hnm := (name_of_methodNamed Bd.named Bd.method).1
  have X0 : Stand p l e Rm15 s m #[(.int p0), (.int p1)] below meth c s₁ [] 0 0 := Stand.of_body Bd
  have e0 : s₁.heap = h0 := by rw [← hh, Bd.state]; rfl
  have N0 := Fr.nil n0
  show Dn p e below s Rm15.cells Rm15.slots (Q15 Z p0 p1 h0 n0) (s₁.setTop (entryFrame m #[(.int p0), (.int p1)] 2))
  rw [ef_15]
  refine Dn.by (U' := s₁.setTop (mkF m 1 #[.val (.int p0), .val (.int p1)] [(.int p0)])) (fun _ ks => XS.iloadN X0.here hx rfl (hb hby d15_0) rfl ks) ?_
  refine Dn.by (U' := s₁.setTop (mkF m 2 #[.val (.int p0), .val (.int p1)] [(.int p1), (.int p0)])) (fun _ ks => XS.iloadN X0.here hx rfl (hb hby d15_1) rfl ks) ?_
  by_cases c2_1 : p1 < p0
  ·
    refine Dn.by (U' := s₁.setTop (mkF m 9 #[.val (.int p0), .val (.int p1)] [])) (fun _ ks => XS.icmpYes X0.here hx rfl (pc0 := 2) (pc' := 9) rfl (hb hby d15_2) rfl (tlt c2_1).2.2.1 (by decide) (by decide) ks) ?_
    refine Dn.by (U' := s₁.setTop (mkF m 10 #[.val (.int p0), .val (.int p1)] [(.int p1)])) (fun _ ks => XS.iloadN X0.here hx rfl (hb hby d15_9) rfl ks) ?_
    refine Dn.out X0 (v := (some (.int p1))) (fun h => by rw [Bd.returns] at h; cases h) (BodyLoose.notSynchronized Bd) (fun _ hr => retOut X0 hx Bd.returns rfl (Or.inl ⟨rfl, Or.inl rfl, _, rfl⟩) (hb hby d15_10) hr) (by decide) (by decide) ?_
    rw [e0]
    exact ⟨by simp only [minI, if_pos c2_1], N0, rfl⟩
  ·
    refine Dn.by (U' := s₁.setTop (mkF m 5 #[.val (.int p0), .val (.int p1)] [])) (fun _ ks => XS.icmpNo X0.here hx rfl (hb hby d15_2) rfl (flt c2_1).2.2.1 ks) ?_
    refine Dn.by (U' := s₁.setTop (mkF m 6 #[.val (.int p0), .val (.int p1)] [(.int p0)])) (fun _ ks => XS.iloadN X0.here hx rfl (hb hby d15_5) rfl ks) ?_
    refine Dn.by (U' := s₁.setTop (mkF m 10 #[.val (.int p0), .val (.int p1)] [(.int p0)])) (fun _ ks => XS.goto X0.here hx rfl (pc0 := 6) (pc' := 10) rfl (hb hby d15_6) (by decide) (by decide) ks) ?_
    refine Dn.out X0 (v := (some (.int p0))) (fun h => by rw [Bd.returns] at h; cases h) (BodyLoose.notSynchronized Bd) (fun _ hr => retOut X0 hx Bd.returns rfl (Or.inl ⟨rfl, Or.inl rfl, _, rfl⟩) (hb hby d15_10) hr) (by decide) (by decide) ?_
    rw [e0]
    exact ⟨by simp only [minI, if_neg c2_1], N0, rfl⟩
abbrev Rm11 : Room := { frames := 0, cells := 0, slots := 0, locals := 0 }
theorem ef_11 (m : MethodId) (o0 : Addr) : entryFrame m #[(.ref o0)] 1 = mkF m 0 #[.val (.ref o0)] [] := by first | (simp [entryFrame, mkF, argsToLocals, Value.category]; done) | rfl
def Q11 (Z : State) (o0 : Addr) (h0 : Heap) (n0 : Nat) (v : Option Value) (h : Heap) (L : List Loc) : Prop := v = none ∧ Fr n0 L ∧ h = h0
set_option maxRecDepth 65536 in
set_option maxHeartbeats 40000000 in
theorem rm11 (l : Launch) (Z : State) (a0 : Array Value) (hw : ∀ d ∈ tables_1, d.before a0 Z = true) (ws : List Jvm.Cond) (o0 : Addr) (h0 : Heap) (n0 : Nat) (Z0 : n0 ≤ h0.size) (S__assertionsDisabled : Sta Z h0 "java/util/BitSet" "$assertionsDisabled" "Z" (.int (1 : Int32))) :
    MetFree l (⟨"java/util/BitSet", "checkInvariants", "()V"⟩ : MethodName) (head1 (Jvm.Cond.code (⟨"java/util/BitSet", "checkInvariants", "()V"⟩ : MethodName) jdk_92_method_2_code 1 none :: ws) Rm11) (fun a U => a = #[(.ref o0)] ∧ Z.Warmed39 U.vm ∧ U.heap = h0) (fun _ _ _ _ _ => True) (fun _ U o U' => ∃ v L, o = .returned v ∧ Q11 Z o0 h0 n0 v U'.heap L ∧ FrameEnd U o U' L Rm11.cells Rm11.slots) := by
  refine MetFree.of_bodySF (plainFor_of_name pn1) hisR ?_
  intro p e s m args below meth c s₁ Bd hml0 hP hK
  obtain ⟨rfl, hZ, hh⟩ := hP
  have hx := Bd.exec
  have hby := Bd.bytes
  have hml : c.maxLocals = 1 := hml0
  have hown : s.vm.findClass "java/util/BitSet" = some m.cls := findClass_of_methodNamed Bd.named
  have hnm := (name_of_methodNamed Bd.named Bd.method).1
  have X0 : Stand p l e Rm11 s m #[(.ref o0)] below meth c s₁ [] 0 0 := Stand.of_body Bd
  have e0 : s₁.heap = h0 := by rw [← hh, Bd.state]; rfl
  have N0 := Fr.nil n0
  show Dn p e below s Rm11.cells Rm11.slots (Q11 Z o0 h0 n0) (s₁.setTop (entryFrame m #[(.ref o0)] 1))
  rw [ef_11]
  obtain ⟨T1, X1, e1, st1⟩ := getS2 X0 hx hZ (a0 := a0) hown (host := "") (Or.inl (hw _ (List.mem_of_getElem? (i := 91) rfl))) Via.refl e0 S__assertionsDisabled (g := (mkF m 0 #[.val (.ref o0)] [])) rfl (hb hby d11_0)
  refine Dn.by (U' := T1.setTop (mkF m 3 #[.val (.ref o0)] [(.int (1 : Int32))])) st1 ?_
  refine Dn.by (U' := T1.setTop (mkF m 37 #[.val (.ref o0)] [])) (fun _ ks => XS.ifYes X1.here hx rfl (pc0 := 3) (pc' := 37) rfl (hb hby d11_3) rfl (by decide) (by decide) (by decide) ks) ?_
  obtain ⟨T2, X2, e2, st2⟩ := getS2 X1 hx hZ (a0 := a0) hown (host := "") (Or.inl (hw _ (List.mem_of_getElem? (i := 91) rfl))) Via.refl e1 S__assertionsDisabled (g := (mkF m 37 #[.val (.ref o0)] [])) rfl (hb hby d11_37)
  refine Dn.by (U' := T2.setTop (mkF m 40 #[.val (.ref o0)] [(.int (1 : Int32))])) st2 ?_
  refine Dn.by (U' := T2.setTop (mkF m 70 #[.val (.ref o0)] [])) (fun _ ks => XS.ifYes X2.here hx rfl (pc0 := 40) (pc' := 70) rfl (hb hby d11_40) rfl (by decide) (by decide) (by decide) ks) ?_
  obtain ⟨T3, X3, e3, st3⟩ := getS2 X2 hx hZ (a0 := a0) hown (host := "") (Or.inl (hw _ (List.mem_of_getElem? (i := 91) rfl))) Via.refl e2 S__assertionsDisabled (g := (mkF m 70 #[.val (.ref o0)] [])) rfl (hb hby d11_70)
  refine Dn.by (U' := T3.setTop (mkF m 73 #[.val (.ref o0)] [(.int (1 : Int32))])) st3 ?_
  refine Dn.by (U' := T3.setTop (mkF m 110 #[.val (.ref o0)] [])) (fun _ ks => XS.ifYes X3.here hx rfl (pc0 := 73) (pc' := 110) rfl (hb hby d11_73) rfl (by decide) (by decide) (by decide) ks) ?_
  refine Dn.out X3 (v := none) (fun _ => rfl) (BodyLoose.notSynchronized Bd) (fun _ hr => X3.returnOut hx Bd.returns (hb hby d11_110) hr) (by decide) (by decide) ?_
  rw [e3]
  exact ⟨rfl, N0, rfl⟩
theorem own_h5 {x : Int32} (h : 2 ≤ x.toInt ∧ x.toInt ≤ 16) : (0 : Int32).toNatClampNeg + (1 : Int32).toNatClampNeg ≤ x.toNatClampNeg := by
  show 0 + 1 ≤ x.toNatClampNeg
  simp only [Int32.toNatClampNeg]; omega
theorem own_min {x : Int32} (h : 2 ≤ x.toInt ∧ x.toInt ≤ 16) : minI (1 : Int32) x = (1 : Int32) := by
  have l : (1 : Int32).toInt = 1 := by decide
  unfold minI; exact if_neg fun q => by have := Int32.lt_iff_toInt_lt.mp q; omega
theorem own_ne1 {x : Int32} (h : 2 ≤ x.toInt ∧ x.toInt ≤ 16) : ¬ x = (1 : Int32) := fun q => by
  have l : (1 : Int32).toInt = 1 := by decide
  rw [q] at h; omega
theorem own_gt1 {x : Int32} (h : 2 ≤ x.toInt ∧ x.toInt ≤ 16) : (1 : Int32) < x := by
  have l : (1 : Int32).toInt = 1 := by decide
  rw [Int32.lt_iff_toInt_lt]; omega
theorem own_max {x : Int32} (h : 2 ≤ x.toInt ∧ x.toInt ≤ 16) : (2 ≤ (maxI (2 : Int32) x).toInt ∧ (maxI (2 : Int32) x).toInt ≤ 16) ∧ x.toInt ≤ (maxI (2 : Int32) x).toInt := by
  have l : (2 : Int32).toInt = 2 := by decide
  unfold maxI
  by_cases q : (2 : Int32) < x
  · rw [if_pos q]; omega
  · rw [if_neg q]; rw [Int32.lt_iff_toInt_lt] at q; omega
theorem own_pos {x : Int32} (h : 1 ≤ x.toInt ∧ x.toInt ≤ 15) : (0 : Int32) < x + (1 : Int32) := by
  have l : (0 : Int32).toInt = 0 := by decide
  have a := own_add1 (x := x) (by omega)
  rw [Int32.lt_iff_toInt_lt]; omega
theorem own_h2 {x : Int32} (h : 1 ≤ x.toInt ∧ x.toInt ≤ 15) : 2 ≤ (x + (1 : Int32)).toInt ∧ (x + (1 : Int32)).toInt ≤ 16 := by
  have a := own_add1 (x := x) (by omega)
  omega
theorem own_h3 {x z : Int32} (h : 1 ≤ x.toInt ∧ x.toInt ≤ 15) (q : (x + (1 : Int32)).toInt ≤ z.toInt) : x.toInt < z.toInt := by
  have a := own_add1 (x := x) (by omega)
  omega
theorem own_in {x z : Int32} (h : 1 ≤ x.toInt ∧ x.toInt ≤ 15) (q : x.toInt < z.toInt) : ¬ x < (0 : Int32) ∧ x < z := by
  have l : (0 : Int32).toInt = 0 := by decide
  rw [Int32.lt_iff_toInt_lt, Int32.lt_iff_toInt_lt]; omega
theorem own_nz {x : Int32} (h : 0 ≤ x.toInt ∧ x.toInt ≤ 15) (q : ¬ x = (0 : Int32)) : 1 ≤ x.toInt ∧ x.toInt ≤ 15 := by
  have l : (0 : Int32).toInt = 0 := by decide
  have a : ¬ x.toInt = (0 : Int32).toInt := fun r => q (Int32.toInt_inj.mp r)
  omega
abbrev Rm5 : Room := { frames := 1, cells := 1, slots := 1, locals := 13 }
theorem ef_5 (m : MethodId) (o0 : Addr) : entryFrame m #[(.ref o0), (.int (64 : Int32))] 2 = mkF m 0 #[.val (.ref o0), .val (.int (64 : Int32))] [] := by first | (simp [entryFrame, mkF, argsToLocals, Value.category]; done) | rfl
def Q5 (Z : State) (o0 : Addr) (u_words_o0 : Value) (u_wordsInUse_o0 : Value) (u_sizeIsSticky_o0 : Value) (h0 : Heap) (n0 : Nat) (v : Option Value) (h : Heap) (L : List Loc) : Prop := ∃ t k, v = none ∧ Fr n0 L ∧ Keep h0 h [o0] ∧ Exa Z h o0 "java/util/BitSet" ∧ h0.size ≤ t ∧ Fld Z h o0 "java/util/BitSet" "words" "[J" (.ref t) ∧ Arv Z h t k .long (1 : Int32) [.long (0 : Int64)] (.long (0 : Int64)) ∧ Fld Z h o0 "java/util/BitSet" "wordsInUse" "I" u_wordsInUse_o0 ∧ Fld Z h o0 "java/util/BitSet" "sizeIsSticky" "Z" u_sizeIsSticky_o0
set_option maxRecDepth 65536 in
set_option maxHeartbeats 40000000 in
theorem rm5 (l : Launch) (Z : State) (a0 : Array Value) (hw : ∀ d ∈ tables_1, d.before a0 Z = true) (ws : List Jvm.Cond) (o0 : Addr) (u_words_o0 : Value) (u_wordsInUse_o0 : Value) (u_sizeIsSticky_o0 : Value) (h0 : Heap) (n0 : Nat) (Z0 : n0 ≤ h0.size) (g_o0 : n0 ≤ o0) (E_o0 : Exa Z h0 o0 "java/util/BitSet") (F_u_words_o0 : Fld Z h0 o0 "java/util/BitSet" "words" "[J" u_words_o0) (F_u_wordsInUse_o0 : Fld Z h0 o0 "java/util/BitSet" "wordsInUse" "I" u_wordsInUse_o0) (F_u_sizeIsSticky_o0 : Fld Z h0 o0 "java/util/BitSet" "sizeIsSticky" "Z" u_sizeIsSticky_o0) :
    MetFree l (⟨"java/util/BitSet", "initWords", "(I)V"⟩ : MethodName) (head1 (Jvm.Cond.code (⟨"java/util/BitSet", "initWords", "(I)V"⟩ : MethodName) jdk_92_method_6_code 2 none :: ws) Rm5) (fun a U => a = #[(.ref o0), (.int (64 : Int32))] ∧ Z.Warmed39 U.vm ∧ U.heap = h0) (fun _ _ _ _ _ => True) (fun _ U o U' => ∃ v L, o = .returned v ∧ Q5 Z o0 u_words_o0 u_wordsInUse_o0 u_sizeIsSticky_o0 h0 n0 v U'.heap L ∧ FrameEnd U o U' L Rm5.cells Rm5.slots) := by
  refine MetFree.of_bodySF (plainFor_of_name pn1) hisR ?_
  intro p e s m args below meth c s₁ Bd hml0 hP hK
  obtain ⟨rfl, hZ, hh⟩ := hP
  have hx := Bd.exec
  have hby := Bd.bytes
  have hml : c.maxLocals = 2 := hml0
  have hown : s.vm.findClass "java/util/BitSet" = some m.cls := findClass_of_methodNamed Bd.named
  have hnm := (name_of_methodNamed Bd.named Bd.method).1
  have X0 : Stand p l e Rm5 s m #[(.ref o0), (.int (64 : Int32))] below meth c s₁ [] 0 0 := Stand.of_body Bd
  have e0 : s₁.heap = h0 := by rw [← hh, Bd.state]; rfl
  have N0 := Fr.nil n0
  show Dn p e below s Rm5.cells Rm5.slots (Q5 Z o0 u_words_o0 u_wordsInUse_o0 u_sizeIsSticky_o0 h0 n0) (s₁.setTop (entryFrame m #[(.ref o0), (.int (64 : Int32))] 2))
  rw [ef_5]
  refine Dn.by (U' := s₁.setTop (mkF m 1 #[.val (.ref o0), .val (.int (64 : Int32))] [(.ref o0)])) (fun _ ks => XS.aloadN X0.here hx rfl (hb hby d5_0) rfl rfl ks) ?_
  refine Dn.by (U' := s₁.setTop (mkF m 2 #[.val (.ref o0), .val (.int (64 : Int32))] [(.int (64 : Int32)), (.ref o0)])) (fun _ ks => XS.iloadN X0.here hx rfl (hb hby d5_1) rfl ks) ?_
  refine Dn.by (U' := s₁.setTop (mkF m 3 #[.val (.ref o0), .val (.int (64 : Int32))] [(.int (1 : Int32)), (.int (64 : Int32)), (.ref o0)])) (fun _ ks => XS.iconst X0.here hx rfl (hb hby d5_2)  ks) ?_
  refine Dn.by (U' := s₁.setTop (mkF m 4 #[.val (.ref o0), .val (.int (64 : Int32))] [(.int ((64 : Int32) - (1 : Int32))), (.ref o0)])) (fun _ ks => XS.isub X0.here hx rfl (hb hby d5_3) rfl ks) ?_
  rw [show ((64 : Int32) - (1 : Int32)) = (63 : Int32) from by decide]
  obtain ⟨_, _, ⟨T1, L1, k1, n1⟩, -, X1, ⟨Lc1, hQ1, l1, y1, z1⟩, st1⟩ := Jvm.LawKit.callS X0 hx (y := (⟨"java/util/BitSet", "wordIndex", "(I)I"⟩ : MethodName)) hown (mvT hZ (hw _ (List.mem_of_getElem? (i := 51) rfl))) (mvT hZ (hw _ (List.mem_of_getElem? (i := 52) rfl))) (mvT hZ (hw _ (List.mem_of_getElem? (i := 37) rfl))) (mvT hZ (hw _ (List.mem_of_getElem? (i := 53) rfl))) (by decide) (backOf (W := 1) (rm6 l Z a0 hw [] (63 : Int32)  h0 n0 Z0 ) hZ (hw _ (List.mem_of_getElem? (i := 53) rfl)) (hw _ (List.mem_of_getElem? (i := 37) rfl)) (by decide) (by decide)) (g := (mkF m 4 #[.val (.ref o0), .val (.int (64 : Int32))] [(.int (63 : Int32)), (.ref o0)])) rfl (by rw [hml]; rfl) (argsL := [(.int (63 : Int32))]) (rest := [(.ref o0)]) (lenOf pd0 rfl) rfl (by show 2 * 0 + _ ≤ _; exact Nat.le_of_eq rfl) (hb hby d5_4) (fun _ _ => ⟨rfl, e0, (by decide : 0 + 0 ≤ _), (by decide : 0 + 0 ≤ _)⟩)
  dsimp only [Pt.U, Pt.locs, Pt.cells, Pt.slots] at X1 l1 y1 z1 st1 hQ1
  rw [l1, y1, z1] at X1
  obtain ⟨rfl, N1q, e1⟩ := hQ1
  have N1 := Fr.app N0 N1q
  refine Dn.by (U' := T1.setTop (mkF m 7 #[.val (.ref o0), .val (.int (64 : Int32))] [(.int ((63 : Int32) >>> ((6 : Int32) &&& 31))), (.ref o0)])) st1 ?_
  rw [show ((63 : Int32) >>> ((6 : Int32) &&& 31)) = (0 : Int32) from by decide]
  refine Dn.by (U' := T1.setTop (mkF m 8 #[.val (.ref o0), .val (.int (64 : Int32))] [(.int (1 : Int32)), (.int (0 : Int32)), (.ref o0)])) (fun _ ks => XS.iconst X1.here hx rfl (hb hby d5_7)  ks) ?_
  refine Dn.by (U' := T1.setTop (mkF m 9 #[.val (.ref o0), .val (.int (64 : Int32))] [(.int ((0 : Int32) + (1 : Int32))), (.ref o0)])) (fun _ ks => XS.iadd X1.here hx rfl (hb hby d5_8) rfl ks) ?_
  rw [show ((0 : Int32) + (1 : Int32)) = (1 : Int32) from by decide]
  obtain ⟨T2, h2, k2, X2, e2, E2, A2, st2⟩ := newP X1 hx hZ (hw _ (List.mem_of_getElem? (i := 54) rfl)) e1 (g := (mkF m 9 #[.val (.ref o0), .val (.int (64 : Int32))] [(.int (1 : Int32)), (.ref o0)])) rfl (hb hby d5_9) rfl (by decide) (cap := 1) (by decide) (by decide) (by decide) (by decide)
  obtain ⟨b2, g2⟩ : ∃ z, z = h0.size := ⟨_, rfl⟩
  rw [← g2] at A2 st2
  have g_b2 : n0 ≤ b2 := Nat.le_trans Z0 (Nat.le_of_eq g2.symm)
  have sz_b2 : h0.size ≤ b2 := Nat.le_trans (Keep.refl h0 [o0]).1 (Nat.le_of_eq g2.symm)
  have ne_o0_b2 : o0 ≠ b2 := Nat.ne_of_lt (Nat.lt_of_lt_of_le E_o0.lt (Nat.le_of_eq g2.symm))
  have K3 : Keep h0 h2 [o0] := ((Keep.refl h0 [o0]).ext E2)
  have z3 : n0 ≤ h2.size := (Nat.le_trans Z0 E2.1)
  have V2 : Arv Z h2 b2 k2 .long (1 : Int32) [(.long (0 : Int64))] (.long (0 : Int64)) := (Arv.new A2 (by decide)).pad (pad_rep [] (.long (0 : Int64)) 1)
  refine Dn.by (U' := T2.setTop (mkF m 11 #[.val (.ref o0), .val (.int (64 : Int32))] [(.ref b2), (.ref o0)])) st2 ?_
  obtain ⟨T4, h4, X4, e4, W4, st4⟩ := putF X2 hx hZ hown (host := "") (Or.inl (hw _ (List.mem_of_getElem? (i := 55) rfl))) Via.refl e2 (F_u_words_o0.ext E2) (E_o0.ext E2) (Or.inl (hw _ (List.mem_of_getElem? (i := 56) rfl))) (hw _ (List.mem_of_getElem? (i := 36) rfl)) (ty := (.array .long)) (by decide) rfl rfl (g := (mkF m 11 #[.val (.ref o0), .val (.int (64 : Int32))] [(.ref b2), (.ref o0)])) rfl rfl (hb hby d5_11)
  have F4 := (F_u_words_o0.ext E2).same W4
  have K5 : Keep h0 h4 [o0] := (K3.wr W4 (Or.inl (List.mem_of_getElem? (i := 0) rfl)))
  have z5 : n0 ≤ h4.size := (Nat.le_trans z3 (Keep.of_wr W4).1)
  have N4 := Fr.snoc X4 N1 g_o0
  refine Dn.by (U' := T4.setTop (mkF m 14 #[.val (.ref o0), .val (.int (64 : Int32))] [])) st4 ?_
  refine Dn.out X4 (v := none) (fun _ => rfl) (BodyLoose.notSynchronized Bd) (fun _ hr => X4.returnOut hx Bd.returns (hb hby d5_14) hr) (by decide) (by decide) ?_
  rw [e4]
  exact ⟨b2, k2, rfl, N4, K5, ((E_o0.ext E2).wr W4), sz_b2, F4, (V2.other W4 (Ne.symm ne_o0_b2)), ((F_u_wordsInUse_o0.ext E2).other W4 (Or.inr (slot_ne (Or.inl (hw _ (List.mem_of_getElem? (i := 43) rfl))) (Or.inl (hw _ (List.mem_of_getElem? (i := 56) rfl))) (by decide) (t := .int) (t' := (.array .long)) (by decide) (by decide)))), ((F_u_sizeIsSticky_o0.ext E2).other W4 (Or.inr (slot_ne (Or.inl (hw _ (List.mem_of_getElem? (i := 45) rfl))) (Or.inl (hw _ (List.mem_of_getElem? (i := 56) rfl))) (by decide) (t := .boolean) (t' := (.array .long)) (by decide) (by decide))))⟩
abbrev Rm4 : Room := { frames := 2, cells := 1, slots := 1, locals := 26 }
theorem ef_4 (m : MethodId) (o0 : Addr) : entryFrame m #[(.ref o0)] 1 = mkF m 0 #[.val (.ref o0)] [] := by first | (simp [entryFrame, mkF, argsToLocals, Value.category]; done) | rfl
def Q4 (Z : State) (o0 : Addr) (u_words_o0 : Value) (u_wordsInUse_o0 : Value) (u_sizeIsSticky_o0 : Value) (h0 : Heap) (n0 : Nat) (v : Option Value) (h : Heap) (L : List Loc) : Prop := ∃ t k, v = none ∧ Fr n0 L ∧ Keep h0 h [o0] ∧ Exa Z h o0 "java/util/BitSet" ∧ h0.size ≤ t ∧ Fld Z h o0 "java/util/BitSet" "words" "[J" (.ref t) ∧ Arv Z h t k .long (1 : Int32) [.long (0 : Int64)] (.long (0 : Int64)) ∧ Fld Z h o0 "java/util/BitSet" "wordsInUse" "I" (.int (0 : Int32)) ∧ Fld Z h o0 "java/util/BitSet" "sizeIsSticky" "Z" (.int (nar .boolean (0 : Int32)))
set_option maxRecDepth 65536 in
set_option maxHeartbeats 40000000 in
theorem rm4 (l : Launch) (Z : State) (a0 : Array Value) (hw : ∀ d ∈ tables_1, d.before a0 Z = true) (ws : List Jvm.Cond) (o0 : Addr) (u_words_o0 : Value) (u_wordsInUse_o0 : Value) (u_sizeIsSticky_o0 : Value) (h0 : Heap) (n0 : Nat) (Z0 : n0 ≤ h0.size) (g_o0 : n0 ≤ o0) (E_o0 : Exa Z h0 o0 "java/util/BitSet") (F_u_words_o0 : Fld Z h0 o0 "java/util/BitSet" "words" "[J" u_words_o0) (F_u_wordsInUse_o0 : Fld Z h0 o0 "java/util/BitSet" "wordsInUse" "I" u_wordsInUse_o0) (F_u_sizeIsSticky_o0 : Fld Z h0 o0 "java/util/BitSet" "sizeIsSticky" "Z" u_sizeIsSticky_o0) :
    MetFree l (⟨"java/util/BitSet", "<init>", "()V"⟩ : MethodName) (head1 (Jvm.Cond.code (⟨"java/util/BitSet", "<init>", "()V"⟩ : MethodName) jdk_92_method_4_code 1 none :: ws) Rm4) (fun a U => a = #[(.ref o0)] ∧ Z.Warmed39 U.vm ∧ U.heap = h0) (fun _ _ _ _ _ => True) (fun _ U o U' => ∃ v L, o = .returned v ∧ Q4 Z o0 u_words_o0 u_wordsInUse_o0 u_sizeIsSticky_o0 h0 n0 v U'.heap L ∧ FrameEnd U o U' L Rm4.cells Rm4.slots) := by
  refine MetFree.of_bodySF (plainFor_of_name pn1) hisR ?_
  intro p e s m args below meth c s₁ Bd hml0 hP hK
  obtain ⟨rfl, hZ, hh⟩ := hP
  have hx := Bd.exec
  have hby := Bd.bytes
  have hml : c.maxLocals = 1 := hml0
  have hown : s.vm.findClass "java/util/BitSet" = some m.cls := findClass_of_methodNamed Bd.named
  have hnm := (name_of_methodNamed Bd.named Bd.method).1
  have X0 : Stand p l e Rm4 s m #[(.ref o0)] below meth c s₁ [] 0 0 := Stand.of_body Bd
  have e0 : s₁.heap = h0 := by rw [← hh, Bd.state]; rfl
  have N0 := Fr.nil n0
  show Dn p e below s Rm4.cells Rm4.slots (Q4 Z o0 u_words_o0 u_wordsInUse_o0 u_sizeIsSticky_o0 h0 n0) (s₁.setTop (entryFrame m #[(.ref o0)] 1))
  rw [ef_4]
  refine Dn.by (U' := s₁.setTop (mkF m 1 #[.val (.ref o0)] [(.ref o0)])) (fun _ ks => XS.aloadN X0.here hx rfl (hb hby d4_0) rfl rfl ks) ?_
  obtain ⟨T1, X1, e1, st1⟩ := initO X0 hx hZ hown (hw _ (List.mem_of_getElem? (i := 41) rfl)) (hw _ (List.mem_of_getElem? (i := 16) rfl)) (hw _ (List.mem_of_getElem? (i := 17) rfl)) e0 (g := (mkF m 1 #[.val (.ref o0)] [(.ref o0)])) rfl (by rw [hml]; rfl) rfl (hb hby d4_1) (by decide) (W := 0) (by show 2 * 0 + _ ≤ _; exact Nat.le_of_eq rfl) (by decide)
  refine Dn.by (U' := T1.setTop (mkF m 4 #[.val (.ref o0)] [])) st1 ?_
  refine Dn.by (U' := T1.setTop (mkF m 5 #[.val (.ref o0)] [(.ref o0)])) (fun _ ks => XS.aloadN X1.here hx rfl (hb hby d4_4) rfl rfl ks) ?_
  refine Dn.by (U' := T1.setTop (mkF m 6 #[.val (.ref o0)] [(.int (0 : Int32)), (.ref o0)])) (fun _ ks => XS.iconst X1.here hx rfl (hb hby d4_5)  ks) ?_
  obtain ⟨T2, h2, X2, e2, W2, st2⟩ := putF X1 hx hZ hown (host := "") (Or.inl (hw _ (List.mem_of_getElem? (i := 42) rfl))) Via.refl e1 F_u_wordsInUse_o0 E_o0 (Or.inl (hw _ (List.mem_of_getElem? (i := 43) rfl))) (hw _ (List.mem_of_getElem? (i := 36) rfl)) (ty := .int) (by decide) rfl rfl (g := (mkF m 6 #[.val (.ref o0)] [(.int (0 : Int32)), (.ref o0)])) rfl rfl (hb hby d4_6)
  have F2 := F_u_wordsInUse_o0.same W2
  have K3 : Keep h0 h2 [o0] := ((Keep.refl h0 [o0]).wr W2 (Or.inl (List.mem_of_getElem? (i := 0) rfl)))
  have z3 : n0 ≤ h2.size := (Nat.le_trans Z0 (Keep.of_wr W2).1)
  have N2 := Fr.snoc X2 N0 g_o0
  refine Dn.by (U' := T2.setTop (mkF m 9 #[.val (.ref o0)] [])) st2 ?_
  refine Dn.by (U' := T2.setTop (mkF m 10 #[.val (.ref o0)] [(.ref o0)])) (fun _ ks => XS.aloadN X2.here hx rfl (hb hby d4_9) rfl rfl ks) ?_
  refine Dn.by (U' := T2.setTop (mkF m 11 #[.val (.ref o0)] [(.int (0 : Int32)), (.ref o0)])) (fun _ ks => XS.iconst X2.here hx rfl (hb hby d4_10)  ks) ?_
  obtain ⟨T4, h4, X4, e4, W4, st4⟩ := putFN X2 hx hZ hown (hw _ (List.mem_of_getElem? (i := 44) rfl)) Via.refl e2 (F_u_sizeIsSticky_o0.other W2 (Or.inr (slot_ne (Or.inl (hw _ (List.mem_of_getElem? (i := 45) rfl))) (Or.inl (hw _ (List.mem_of_getElem? (i := 43) rfl))) (by decide) (t := .boolean) (t' := .int) (by decide) (by decide)))) (E_o0.wr W2) (Or.inl (hw _ (List.mem_of_getElem? (i := 45) rfl))) (hw _ (List.mem_of_getElem? (i := 36) rfl)) (ty := .boolean) (v' := (.int (nar .boolean (0 : Int32)))) (by decide) rfl (fits_nar_bool _) (g := (mkF m 11 #[.val (.ref o0)] [(.int (0 : Int32)), (.ref o0)])) rfl rfl (hb hby d4_11)
  have F4 := (F_u_sizeIsSticky_o0.other W2 (Or.inr (slot_ne (Or.inl (hw _ (List.mem_of_getElem? (i := 45) rfl))) (Or.inl (hw _ (List.mem_of_getElem? (i := 43) rfl))) (by decide) (t := .boolean) (t' := .int) (by decide) (by decide)))).same W4
  have K5 : Keep h0 h4 [o0] := (K3.wr W4 (Or.inl (List.mem_of_getElem? (i := 0) rfl)))
  have z5 : n0 ≤ h4.size := (Nat.le_trans z3 (Keep.of_wr W4).1)
  have N4 := Fr.snoc X4 N2 g_o0
  refine Dn.by (U' := T4.setTop (mkF m 14 #[.val (.ref o0)] [])) st4 ?_
  refine Dn.by (U' := T4.setTop (mkF m 15 #[.val (.ref o0)] [(.ref o0)])) (fun _ ks => XS.aloadN X4.here hx rfl (hb hby d4_14) rfl rfl ks) ?_
  refine Dn.by (U' := T4.setTop (mkF m 17 #[.val (.ref o0)] [(.int (64 : Int32)), (.ref o0)])) (fun _ ks => XS.bipush X4.here hx rfl (hb hby d4_15)  ks) ?_
  obtain ⟨cq6, qa6, qb6⟩ := ((E_o0.wr W2).wr W4).cell
  obtain ⟨_, _, ⟨T6, L6, k6, n6⟩, -, X6, ⟨Lc6, hQ6, l6, y6, z6⟩, st6⟩ := X4.privateBack hx (y := (⟨"java/util/BitSet", "initWords", "(I)V"⟩ : MethodName)) hown (mvT hZ (hw _ (List.mem_of_getElem? (i := 46) rfl))) (mvT hZ (hw _ (List.mem_of_getElem? (i := 47) rfl))) (mvT hZ (hw _ (List.mem_of_getElem? (i := 49) rfl))) (Cond.privateMethod_at (mvP hZ (hw _ (List.mem_of_getElem? (i := 48) rfl)) (args := #[]))) (mvT hZ (hw _ (List.mem_of_getElem? (i := 50) rfl))) (by decide) (backOf (W := 0) (rm5 l Z a0 hw [] o0 u_words_o0 ((.int (0 : Int32)) : Value) ((.int (nar .boolean (0 : Int32))) : Value) h4 n0 z5 g_o0 ((E_o0.wr W2).wr W4) ((F_u_words_o0.other W2 (Or.inr (slot_ne (Or.inl (hw _ (List.mem_of_getElem? (i := 56) rfl))) (Or.inl (hw _ (List.mem_of_getElem? (i := 43) rfl))) (by decide) (t := (.array .long)) (t' := .int) (by decide) (by decide)))).other W4 (Or.inr (slot_ne (Or.inl (hw _ (List.mem_of_getElem? (i := 56) rfl))) (Or.inl (hw _ (List.mem_of_getElem? (i := 45) rfl))) (by decide) (t := (.array .long)) (t' := .boolean) (by decide) (by decide)))) (F2.other W4 (Or.inr (slot_ne (Or.inl (hw _ (List.mem_of_getElem? (i := 43) rfl))) (Or.inl (hw _ (List.mem_of_getElem? (i := 45) rfl))) (by decide) (t := .int) (t' := .boolean) (by decide) (by decide)))) F4) hZ (hw _ (List.mem_of_getElem? (i := 50) rfl)) (hw _ (List.mem_of_getElem? (i := 37) rfl)) (by decide) (by decide)) (g := (mkF m 17 #[.val (.ref o0)] [(.int (64 : Int32)), (.ref o0)])) rfl (by rw [hml]; rfl) (Steps.refl _) (a := o0) (by rw [e4]; exact qa6) qb6 (argsL := [(.int (64 : Int32))]) (rest := []) (lenOf pd1 rfl) rfl (by show 2 * 0 + _ ≤ _; exact Nat.le_of_eq rfl) (hb hby d4_17) (fun _ _ => ⟨rfl, e4, (by decide : 0 + 1 ≤ _), (by decide : 0 + 1 ≤ _)⟩)
  dsimp only [Pt.U, Pt.locs, Pt.cells, Pt.slots] at X6 l6 y6 z6 st6 hQ6
  rw [l6, y6, z6] at X6
  obtain ⟨t6, kt6, rfl, N6q, KK6, EE6, zt6, FW6, VW6, FU6, FS6⟩ := hQ6
  have N6 := Fr.app N4 N6q
  have g_t6 : n0 ≤ t6 := Nat.le_trans z5 zt6
  have sz_t6 : h0.size ≤ t6 := Nat.le_trans K5.1 zt6
  have ne_o0_t6 : o0 ≠ t6 := Nat.ne_of_lt (Nat.lt_of_lt_of_le ((E_o0.wr W2).wr W4).lt zt6)
  have K7 : Keep h0 T6.heap [o0] := (K5.trans KK6 (allS (Or.inl (List.mem_of_getElem? (i := 0) rfl)) all0))
  have z7 : n0 ≤ T6.heap.size := (Nat.le_trans z5 KK6.1)
  refine Dn.by (U' := T6.setTop (mkF m 20 #[.val (.ref o0)] [])) (fun _ ks => st6.trans ks) ?_
  refine Dn.by (U' := T6.setTop (mkF m 21 #[.val (.ref o0)] [(.ref o0)])) (fun _ ks => XS.aloadN X6.here hx rfl (hb hby d4_20) rfl rfl ks) ?_
  refine Dn.by (U' := T6.setTop (mkF m 22 #[.val (.ref o0)] [(.int (0 : Int32)), (.ref o0)])) (fun _ ks => XS.iconst X6.here hx rfl (hb hby d4_21)  ks) ?_
  obtain ⟨T8, h8, X8, e8, W8, st8⟩ := putFN X6 hx hZ hown (hw _ (List.mem_of_getElem? (i := 44) rfl)) Via.refl rfl FS6 EE6 (Or.inl (hw _ (List.mem_of_getElem? (i := 45) rfl))) (hw _ (List.mem_of_getElem? (i := 36) rfl)) (ty := .boolean) (v' := (.int (nar .boolean (0 : Int32)))) (by decide) rfl (fits_nar_bool _) (g := (mkF m 22 #[.val (.ref o0)] [(.int (0 : Int32)), (.ref o0)])) rfl rfl (hb hby d4_22)
  have F8 := FS6.same W8
  have K9 : Keep h0 h8 [o0] := (K7.wr W8 (Or.inl (List.mem_of_getElem? (i := 0) rfl)))
  have z9 : n0 ≤ h8.size := (Nat.le_trans z7 (Keep.of_wr W8).1)
  have N8 := Fr.snoc X8 N6 g_o0
  refine Dn.by (U' := T8.setTop (mkF m 25 #[.val (.ref o0)] [])) st8 ?_
  refine Dn.out X8 (v := none) (fun _ => rfl) (BodyLoose.notSynchronized Bd) (fun _ hr => X8.returnOut hx Bd.returns (hb hby d4_25) hr) (by decide) (by decide) ?_
  rw [e8]
  exact ⟨t6, kt6, rfl, N8, K9, (EE6.wr W8), sz_t6, (FW6.other W8 (Or.inr (slot_ne (Or.inl (hw _ (List.mem_of_getElem? (i := 56) rfl))) (Or.inl (hw _ (List.mem_of_getElem? (i := 45) rfl))) (by decide) (t := (.array .long)) (t' := .boolean) (by decide) (by decide)))), (VW6.other W8 (Ne.symm ne_o0_t6)), (FU6.other W8 (Or.inr (slot_ne (Or.inl (hw _ (List.mem_of_getElem? (i := 43) rfl))) (Or.inl (hw _ (List.mem_of_getElem? (i := 45) rfl))) (by decide) (t := .int) (t' := .boolean) (by decide) (by decide)))), F8⟩
abbrev Rm3 : Room := { frames := 3, cells := 2, slots := 4, locals := 40 }
theorem ef_3 (m : MethodId) (o0 : Addr) (o1 : Addr) : entryFrame m #[(.ref o0), (.ref o1)] 2 = mkF m 0 #[.val (.ref o0), .val (.ref o1)] [] := by first | (simp [entryFrame, mkF, argsToLocals, Value.category]; done) | rfl
def Q3 (Z : State) (o0 : Addr) (o1 : Addr) (u_holders_o0 : Value) (u_largestThreshold_o0 : Value) (u_record_o0 : Value) (u_sampled_o0 : Value) (h0 : Heap) (n0 : Nat) (v : Option Value) (h : Heap) (L : List Loc) : Prop := ∃ b t k, v = none ∧ Fr n0 L ∧ Keep h0 h [o0] ∧ Exa Z h o0 "com/example/nadir/nadir/HeldKey" ∧ h0.size ≤ b ∧ h0.size ≤ t ∧ t ≠ b ∧ Fld Z h o0 "com/example/nadir/nadir/HeldKey" "holders" "Ljava/util/BitSet;" (.ref b) ∧ Fld Z h o0 "com/example/nadir/nadir/HeldKey" "largestThreshold" "D" (.double (18442240474082181120 : UInt64)) ∧ Fld Z h o0 "com/example/nadir/nadir/HeldKey" "sampled" "[Lcom/example/nadir/nadir/RankedKey;" .null ∧ Exa Z h b "java/util/BitSet" ∧ Fld Z h b "java/util/BitSet" "words" "[J" (.ref t) ∧ Fld Z h b "java/util/BitSet" "wordsInUse" "I" (.int (0 : Int32)) ∧ Fld Z h b "java/util/BitSet" "sizeIsSticky" "Z" (.int (nar .boolean (0 : Int32))) ∧ Arv Z h t k .long (1 : Int32) [.long (0 : Int64)] (.long (0 : Int64))
set_option maxRecDepth 65536 in
set_option maxHeartbeats 40000000 in
theorem rm3 (l : Launch) (Z : State) (a0 : Array Value) (hw : ∀ d ∈ tables_1, d.before a0 Z = true) (ws : List Jvm.Cond) (o0 : Addr) (o1 : Addr) (u_holders_o0 : Value) (u_largestThreshold_o0 : Value) (u_record_o0 : Value) (u_sampled_o0 : Value) (h0 : Heap) (n0 : Nat) (Z0 : n0 ≤ h0.size) (g_o0 : n0 ≤ o0) (E_o0 : Exa Z h0 o0 "com/example/nadir/nadir/HeldKey") (F_u_holders_o0 : Fld Z h0 o0 "com/example/nadir/nadir/HeldKey" "holders" "Ljava/util/BitSet;" u_holders_o0) (F_u_largestThreshold_o0 : Fld Z h0 o0 "com/example/nadir/nadir/HeldKey" "largestThreshold" "D" u_largestThreshold_o0) (F_u_record_o0 : Fld Z h0 o0 "com/example/nadir/nadir/HeldKey" "record" "Lcom/example/nadir/nadir/RankedKey;" u_record_o0) (F_u_sampled_o0 : Fld Z h0 o0 "com/example/nadir/nadir/HeldKey" "sampled" "[Lcom/example/nadir/nadir/RankedKey;" u_sampled_o0) :
    MetFree l (⟨"com/example/nadir/nadir/HeldKey", "<init>", "(Lcom/example/nadir/nadir/RankedKey;)V"⟩ : MethodName) (head1 (Jvm.Cond.code (⟨"com/example/nadir/nadir/HeldKey", "<init>", "(Lcom/example/nadir/nadir/RankedKey;)V"⟩ : MethodName) prog_16_method_1_code 2 none :: ws) Rm3) (fun a U => a = #[(.ref o0), (.ref o1)] ∧ Z.Warmed39 U.vm ∧ U.heap = h0) (fun _ _ _ _ _ => True) (fun _ U o U' => ∃ v L, o = .returned v ∧ Q3 Z o0 o1 u_holders_o0 u_largestThreshold_o0 u_record_o0 u_sampled_o0 h0 n0 v U'.heap L ∧ FrameEnd U o U' L Rm3.cells Rm3.slots) := by
  refine MetFree.of_bodySF (plainFor_of_name pn2) hisR ?_
  intro p e s m args below meth c s₁ Bd hml0 hP hK
  obtain ⟨rfl, hZ, hh⟩ := hP
  have hx := Bd.exec
  have hby := Bd.bytes
  have hml : c.maxLocals = 2 := hml0
  have hown : s.vm.findClass "com/example/nadir/nadir/HeldKey" = some m.cls := findClass_of_methodNamed Bd.named
  have hnm := (name_of_methodNamed Bd.named Bd.method).1
  have X0 : Stand p l e Rm3 s m #[(.ref o0), (.ref o1)] below meth c s₁ [] 0 0 := Stand.of_body Bd
  have e0 : s₁.heap = h0 := by rw [← hh, Bd.state]; rfl
  have N0 := Fr.nil n0
  show Dn p e below s Rm3.cells Rm3.slots (Q3 Z o0 o1 u_holders_o0 u_largestThreshold_o0 u_record_o0 u_sampled_o0 h0 n0) (s₁.setTop (entryFrame m #[(.ref o0), (.ref o1)] 2))
  rw [ef_3]
  refine Dn.by (U' := s₁.setTop (mkF m 1 #[.val (.ref o0), .val (.ref o1)] [(.ref o0)])) (fun _ ks => XS.aloadN X0.here hx rfl (hb hby d3_0) rfl rfl ks) ?_
  obtain ⟨T1, X1, e1, st1⟩ := initO X0 hx hZ hown (hw _ (List.mem_of_getElem? (i := 34) rfl)) (hw _ (List.mem_of_getElem? (i := 16) rfl)) (hw _ (List.mem_of_getElem? (i := 17) rfl)) e0 (g := (mkF m 1 #[.val (.ref o0), .val (.ref o1)] [(.ref o0)])) rfl (by rw [hml]; rfl) rfl (hb hby d3_1) (by decide) (W := 0) (by show 2 * 0 + _ ≤ _; exact Nat.le_of_eq rfl) (by decide)
  refine Dn.by (U' := T1.setTop (mkF m 4 #[.val (.ref o0), .val (.ref o1)] [])) st1 ?_
  refine Dn.by (U' := T1.setTop (mkF m 5 #[.val (.ref o0), .val (.ref o1)] [(.ref o0)])) (fun _ ks => XS.aloadN X1.here hx rfl (hb hby d3_4) rfl rfl ks) ?_
  obtain ⟨T2, h2, X2, e2, E2, A2, D2, -, st2⟩ := newO X1 hx hZ hown (hw _ (List.mem_of_getElem? (i := 35) rfl)) (hw _ (List.mem_of_getElem? (i := 36) rfl)) (hw _ (List.mem_of_getElem? (i := 37) rfl)) e1 (g := (mkF m 5 #[.val (.ref o0), .val (.ref o1)] [(.ref o0)])) rfl (hb hby d3_5) (by decide) (by decide)
  obtain ⟨b2, g2⟩ : ∃ z, z = h0.size := ⟨_, rfl⟩
  rw [← g2] at A2 D2 st2
  have g_b2 : n0 ≤ b2 := Nat.le_trans Z0 (Nat.le_of_eq g2.symm)
  have sz_b2 : h0.size ≤ b2 := Nat.le_trans (Keep.refl h0 [o0]).1 (Nat.le_of_eq g2.symm)
  have ne_o0_b2 : o0 ≠ b2 := Nat.ne_of_lt (Nat.lt_of_lt_of_le E_o0.lt (Nat.le_of_eq g2.symm))
  have K3 : Keep h0 h2 [o0] := ((Keep.refl h0 [o0]).ext E2)
  have z3 : n0 ≤ h2.size := (Nat.le_trans Z0 E2.1)
  have F_wordsInUse_b2 : Fld Z h2 b2 "java/util/BitSet" "wordsInUse" "I" (.int (0 : Int32)) := D2 (Or.inl (hw _ (List.mem_of_getElem? (i := 43) rfl))) (ty := .int) (by decide)
  have F_sizeIsSticky_b2 : Fld Z h2 b2 "java/util/BitSet" "sizeIsSticky" "Z" (.int (0 : Int32)) := D2 (Or.inl (hw _ (List.mem_of_getElem? (i := 45) rfl))) (ty := .boolean) (by decide)
  have F_words_b2 : Fld Z h2 b2 "java/util/BitSet" "words" "[J" .null := D2 (Or.inl (hw _ (List.mem_of_getElem? (i := 56) rfl))) (ty := (.array .long)) (by decide)
  refine Dn.by (U' := T2.setTop (mkF m 8 #[.val (.ref o0), .val (.ref o1)] [(.ref b2), (.ref o0)])) st2 ?_
  refine Dn.by (U' := T2.setTop (mkF m 9 #[.val (.ref o0), .val (.ref o1)] [(.ref b2), (.ref b2), (.ref o0)])) (fun _ ks => XS.dup X2.here hx rfl (hb hby d3_8) rfl rfl ks) ?_
  obtain ⟨_, _, ⟨T4, L4, k4, n4⟩, -, X4, ⟨Lc4, hQ4, l4, y4, z4⟩, st4⟩ := X2.specialBack hx (y := (⟨"java/util/BitSet", "<init>", "()V"⟩ : MethodName)) rfl hown (mvT hZ (hw _ (List.mem_of_getElem? (i := 38) rfl))) (mvT hZ (hw _ (List.mem_of_getElem? (i := 39) rfl))) (mvT hZ (hw _ (List.mem_of_getElem? (i := 40) rfl))) (by decide) (backOf (W := 2) (rm4 l Z a0 hw [] b2 (.null : Value) ((.int (0 : Int32)) : Value) ((.int (0 : Int32)) : Value) h2 n0 z3 g_b2 A2 F_words_b2 F_wordsInUse_b2 F_sizeIsSticky_b2) hZ (hw _ (List.mem_of_getElem? (i := 40) rfl)) (hw _ (List.mem_of_getElem? (i := 37) rfl)) (by decide) (by decide)) (g := (mkF m 9 #[.val (.ref o0), .val (.ref o1)] [(.ref b2), (.ref b2), (.ref o0)])) rfl (by rw [hml]; rfl) (Steps.refl _) (a := b2) (argsL := []) (rest := [(.ref b2), (.ref o0)]) (lenOf pd2 rfl) rfl (by show 2 * 0 + _ ≤ _; exact Nat.le_of_eq rfl) (hb hby d3_9) (fun _ _ => ⟨rfl, e2, (by decide : 1 + 1 ≤ _), (by decide : 3 + 1 ≤ _)⟩)
  dsimp only [Pt.U, Pt.locs, Pt.cells, Pt.slots] at X4 l4 y4 z4 st4 hQ4
  rw [l4, y4, z4] at X4
  obtain ⟨t4, kt4, rfl, N4q, KK4, EE4, zt4, FW4, VW4, FU4, FS4⟩ := hQ4
  have N4 := Fr.app N0 N4q
  have g_t4 : n0 ≤ t4 := Nat.le_trans z3 zt4
  have sz_t4 : h0.size ≤ t4 := Nat.le_trans K3.1 zt4
  have ne_o0_t4 : o0 ≠ t4 := Nat.ne_of_lt (Nat.lt_of_lt_of_le (E_o0.ext E2).lt zt4)
  have ne_b2_t4 : b2 ≠ t4 := Nat.ne_of_lt (Nat.lt_of_lt_of_le A2.lt zt4)
  have K5 : Keep h0 T4.heap [o0] := (K3.trans KK4 (allS (Or.inr sz_b2) all0))
  have z5 : n0 ≤ T4.heap.size := (Nat.le_trans z3 KK4.1)
  refine Dn.by (U' := T4.setTop (mkF m 12 #[.val (.ref o0), .val (.ref o1)] [(.ref b2), (.ref o0)])) (fun _ ks => st4.trans ks) ?_
  obtain ⟨T6, h6, X6, e6, W6, st6⟩ := putF X4 hx hZ hown (host := "") (Or.inl (hw _ (List.mem_of_getElem? (i := 57) rfl))) Via.refl rfl ((F_u_holders_o0.ext E2).keep KK4 (ninS ne_o0_b2 nin0)) ((E_o0.ext E2).keep KK4) (Or.inr ⟨(hw _ (List.mem_of_getElem? (i := 58) rfl)), rfl, hnm⟩) (hw _ (List.mem_of_getElem? (i := 29) rfl)) (ty := (.object "java/util/BitSet")) (by decide) rfl rfl (g := (mkF m 12 #[.val (.ref o0), .val (.ref o1)] [(.ref b2), (.ref o0)])) rfl rfl (hb hby d3_12)
  have F6 := ((F_u_holders_o0.ext E2).keep KK4 (ninS ne_o0_b2 nin0)).same W6
  have K7 : Keep h0 h6 [o0] := (K5.wr W6 (Or.inl (List.mem_of_getElem? (i := 0) rfl)))
  have z7 : n0 ≤ h6.size := (Nat.le_trans z5 (Keep.of_wr W6).1)
  have N6 := Fr.snoc X6 N4 g_o0
  refine Dn.by (U' := T6.setTop (mkF m 15 #[.val (.ref o0), .val (.ref o1)] [])) st6 ?_
  refine Dn.by (U' := T6.setTop (mkF m 16 #[.val (.ref o0), .val (.ref o1)] [(.ref o0)])) (fun _ ks => XS.aloadN X6.here hx rfl (hb hby d3_15) rfl rfl ks) ?_
  refine Dn.by (U' := T6.setTop (mkF m 19 #[.val (.ref o0), .val (.ref o1)] [(.double (18442240474082181120 : UInt64)), (.ref o0)])) (X6.ldc2DoubleC hx hown (mvT hZ (hw _ (List.mem_of_getElem? (i := 59) rfl))) (g := (mkF m 16 #[.val (.ref o0), .val (.ref o1)] [(.ref o0)])) rfl (hb hby d3_16)) ?_
  obtain ⟨T8, h8, X8, e8, W8, st8⟩ := putF X6 hx hZ hown (host := "") (Or.inl (hw _ (List.mem_of_getElem? (i := 60) rfl))) Via.refl e6 (((F_u_largestThreshold_o0.ext E2).keep KK4 (ninS ne_o0_b2 nin0)).other W6 (Or.inr (slot_ne (Or.inl (hw _ (List.mem_of_getElem? (i := 61) rfl))) (Or.inr (hw _ (List.mem_of_getElem? (i := 58) rfl))) (by decide) (t := .double) (t' := (.object "java/util/BitSet")) (by decide) (by decide)))) (((E_o0.ext E2).keep KK4).wr W6) (Or.inl (hw _ (List.mem_of_getElem? (i := 61) rfl))) (hw _ (List.mem_of_getElem? (i := 29) rfl)) (ty := .double) (by decide) rfl rfl (g := (mkF m 19 #[.val (.ref o0), .val (.ref o1)] [(.double (18442240474082181120 : UInt64)), (.ref o0)])) rfl rfl (hb hby d3_19)
  have F8 := (((F_u_largestThreshold_o0.ext E2).keep KK4 (ninS ne_o0_b2 nin0)).other W6 (Or.inr (slot_ne (Or.inl (hw _ (List.mem_of_getElem? (i := 61) rfl))) (Or.inr (hw _ (List.mem_of_getElem? (i := 58) rfl))) (by decide) (t := .double) (t' := (.object "java/util/BitSet")) (by decide) (by decide)))).same W8
  have K9 : Keep h0 h8 [o0] := (K7.wr W8 (Or.inl (List.mem_of_getElem? (i := 0) rfl)))
  have z9 : n0 ≤ h8.size := (Nat.le_trans z7 (Keep.of_wr W8).1)
  have N8 := Fr.snoc X8 N6 g_o0
  refine Dn.by (U' := T8.setTop (mkF m 22 #[.val (.ref o0), .val (.ref o1)] [])) st8 ?_
  refine Dn.by (U' := T8.setTop (mkF m 23 #[.val (.ref o0), .val (.ref o1)] [(.ref o0)])) (fun _ ks => XS.aloadN X8.here hx rfl (hb hby d3_22) rfl rfl ks) ?_
  refine Dn.by (U' := T8.setTop (mkF m 24 #[.val (.ref o0), .val (.ref o1)] [(.ref o1), (.ref o0)])) (fun _ ks => XS.aloadN X8.here hx rfl (hb hby d3_23) rfl rfl ks) ?_
  obtain ⟨T10, h10, X10, e10, W10, st10⟩ := putF X8 hx hZ hown (host := "") (Or.inl (hw _ (List.mem_of_getElem? (i := 62) rfl))) Via.refl e8 ((((F_u_record_o0.ext E2).keep KK4 (ninS ne_o0_b2 nin0)).other W6 (Or.inr (slot_ne (Or.inr (hw _ (List.mem_of_getElem? (i := 63) rfl))) (Or.inr (hw _ (List.mem_of_getElem? (i := 58) rfl))) (by decide) (t := (.object "com/example/nadir/nadir/RankedKey")) (t' := (.object "java/util/BitSet")) (by decide) (by decide)))).other W8 (Or.inr (slot_ne (Or.inr (hw _ (List.mem_of_getElem? (i := 63) rfl))) (Or.inl (hw _ (List.mem_of_getElem? (i := 61) rfl))) (by decide) (t := (.object "com/example/nadir/nadir/RankedKey")) (t' := .double) (by decide) (by decide)))) ((((E_o0.ext E2).keep KK4).wr W6).wr W8) (Or.inr ⟨(hw _ (List.mem_of_getElem? (i := 63) rfl)), rfl, hnm⟩) (hw _ (List.mem_of_getElem? (i := 29) rfl)) (ty := (.object "com/example/nadir/nadir/RankedKey")) (by decide) rfl rfl (g := (mkF m 24 #[.val (.ref o0), .val (.ref o1)] [(.ref o1), (.ref o0)])) rfl rfl (hb hby d3_24)
  have F10 := ((((F_u_record_o0.ext E2).keep KK4 (ninS ne_o0_b2 nin0)).other W6 (Or.inr (slot_ne (Or.inr (hw _ (List.mem_of_getElem? (i := 63) rfl))) (Or.inr (hw _ (List.mem_of_getElem? (i := 58) rfl))) (by decide) (t := (.object "com/example/nadir/nadir/RankedKey")) (t' := (.object "java/util/BitSet")) (by decide) (by decide)))).other W8 (Or.inr (slot_ne (Or.inr (hw _ (List.mem_of_getElem? (i := 63) rfl))) (Or.inl (hw _ (List.mem_of_getElem? (i := 61) rfl))) (by decide) (t := (.object "com/example/nadir/nadir/RankedKey")) (t' := .double) (by decide) (by decide)))).same W10
  have K11 : Keep h0 h10 [o0] := (K9.wr W10 (Or.inl (List.mem_of_getElem? (i := 0) rfl)))
  have z11 : n0 ≤ h10.size := (Nat.le_trans z9 (Keep.of_wr W10).1)
  have N10 := Fr.snoc X10 N8 g_o0
  refine Dn.by (U' := T10.setTop (mkF m 27 #[.val (.ref o0), .val (.ref o1)] [])) st10 ?_
  refine Dn.by (U' := T10.setTop (mkF m 28 #[.val (.ref o0), .val (.ref o1)] [(.ref o0)])) (fun _ ks => XS.aloadN X10.here hx rfl (hb hby d3_27) rfl rfl ks) ?_
  refine Dn.by (U' := T10.setTop (mkF m 29 #[.val (.ref o0), .val (.ref o1)] [.null, (.ref o0)])) (fun _ ks => XS.aconstNull X10.here hx rfl (hb hby d3_28)  ks) ?_
  obtain ⟨T12, h12, X12, e12, W12, st12⟩ := putF X10 hx hZ hown (host := "") (Or.inl (hw _ (List.mem_of_getElem? (i := 64) rfl))) Via.refl e10 (((((F_u_sampled_o0.ext E2).keep KK4 (ninS ne_o0_b2 nin0)).other W6 (Or.inr (slot_ne (Or.inr (hw _ (List.mem_of_getElem? (i := 65) rfl))) (Or.inr (hw _ (List.mem_of_getElem? (i := 58) rfl))) (by decide) (t := (.array (.object "com/example/nadir/nadir/RankedKey"))) (t' := (.object "java/util/BitSet")) (by decide) (by decide)))).other W8 (Or.inr (slot_ne (Or.inr (hw _ (List.mem_of_getElem? (i := 65) rfl))) (Or.inl (hw _ (List.mem_of_getElem? (i := 61) rfl))) (by decide) (t := (.array (.object "com/example/nadir/nadir/RankedKey"))) (t' := .double) (by decide) (by decide)))).other W10 (Or.inr (slot_ne (Or.inr (hw _ (List.mem_of_getElem? (i := 65) rfl))) (Or.inr (hw _ (List.mem_of_getElem? (i := 63) rfl))) (by decide) (t := (.array (.object "com/example/nadir/nadir/RankedKey"))) (t' := (.object "com/example/nadir/nadir/RankedKey")) (by decide) (by decide)))) (((((E_o0.ext E2).keep KK4).wr W6).wr W8).wr W10) (Or.inr ⟨(hw _ (List.mem_of_getElem? (i := 65) rfl)), rfl, hnm⟩) (hw _ (List.mem_of_getElem? (i := 29) rfl)) (ty := (.array (.object "com/example/nadir/nadir/RankedKey"))) (by decide) rfl rfl (g := (mkF m 29 #[.val (.ref o0), .val (.ref o1)] [.null, (.ref o0)])) rfl rfl (hb hby d3_29)
  have F12 := (((((F_u_sampled_o0.ext E2).keep KK4 (ninS ne_o0_b2 nin0)).other W6 (Or.inr (slot_ne (Or.inr (hw _ (List.mem_of_getElem? (i := 65) rfl))) (Or.inr (hw _ (List.mem_of_getElem? (i := 58) rfl))) (by decide) (t := (.array (.object "com/example/nadir/nadir/RankedKey"))) (t' := (.object "java/util/BitSet")) (by decide) (by decide)))).other W8 (Or.inr (slot_ne (Or.inr (hw _ (List.mem_of_getElem? (i := 65) rfl))) (Or.inl (hw _ (List.mem_of_getElem? (i := 61) rfl))) (by decide) (t := (.array (.object "com/example/nadir/nadir/RankedKey"))) (t' := .double) (by decide) (by decide)))).other W10 (Or.inr (slot_ne (Or.inr (hw _ (List.mem_of_getElem? (i := 65) rfl))) (Or.inr (hw _ (List.mem_of_getElem? (i := 63) rfl))) (by decide) (t := (.array (.object "com/example/nadir/nadir/RankedKey"))) (t' := (.object "com/example/nadir/nadir/RankedKey")) (by decide) (by decide)))).same W12
  have K13 : Keep h0 h12 [o0] := (K11.wr W12 (Or.inl (List.mem_of_getElem? (i := 0) rfl)))
  have z13 : n0 ≤ h12.size := (Nat.le_trans z11 (Keep.of_wr W12).1)
  have N12 := Fr.snoc X12 N10 g_o0
  refine Dn.by (U' := T12.setTop (mkF m 32 #[.val (.ref o0), .val (.ref o1)] [])) st12 ?_
  refine Dn.out X12 (v := none) (fun _ => rfl) (BodyLoose.notSynchronized Bd) (fun _ hr => X12.returnOut hx Bd.returns (hb hby d3_32) hr) (by decide) (by decide) ?_
  rw [e12]
  exact ⟨b2, t4, kt4, rfl, N12, K13, ((((((E_o0.ext E2).keep KK4).wr W6).wr W8).wr W10).wr W12), sz_b2, sz_t4, (Ne.symm ne_b2_t4), (((F6.other W8 (Or.inr (slot_ne (Or.inr (hw _ (List.mem_of_getElem? (i := 58) rfl))) (Or.inl (hw _ (List.mem_of_getElem? (i := 61) rfl))) (by decide) (t := (.object "java/util/BitSet")) (t' := .double) (by decide) (by decide)))).other W10 (Or.inr (slot_ne (Or.inr (hw _ (List.mem_of_getElem? (i := 58) rfl))) (Or.inr (hw _ (List.mem_of_getElem? (i := 63) rfl))) (by decide) (t := (.object "java/util/BitSet")) (t' := (.object "com/example/nadir/nadir/RankedKey")) (by decide) (by decide)))).other W12 (Or.inr (slot_ne (Or.inr (hw _ (List.mem_of_getElem? (i := 58) rfl))) (Or.inr (hw _ (List.mem_of_getElem? (i := 65) rfl))) (by decide) (t := (.object "java/util/BitSet")) (t' := (.array (.object "com/example/nadir/nadir/RankedKey"))) (by decide) (by decide)))), ((F8.other W10 (Or.inr (slot_ne (Or.inl (hw _ (List.mem_of_getElem? (i := 61) rfl))) (Or.inr (hw _ (List.mem_of_getElem? (i := 63) rfl))) (by decide) (t := .double) (t' := (.object "com/example/nadir/nadir/RankedKey")) (by decide) (by decide)))).other W12 (Or.inr (slot_ne (Or.inl (hw _ (List.mem_of_getElem? (i := 61) rfl))) (Or.inr (hw _ (List.mem_of_getElem? (i := 65) rfl))) (by decide) (t := .double) (t' := (.array (.object "com/example/nadir/nadir/RankedKey"))) (by decide) (by decide)))), F12, ((((EE4.wr W6).wr W8).wr W10).wr W12), ((((FW4.other W6 (Or.inl (Ne.symm ne_o0_b2))).other W8 (Or.inl (Ne.symm ne_o0_b2))).other W10 (Or.inl (Ne.symm ne_o0_b2))).other W12 (Or.inl (Ne.symm ne_o0_b2))), ((((FU4.other W6 (Or.inl (Ne.symm ne_o0_b2))).other W8 (Or.inl (Ne.symm ne_o0_b2))).other W10 (Or.inl (Ne.symm ne_o0_b2))).other W12 (Or.inl (Ne.symm ne_o0_b2))), ((((FS4.other W6 (Or.inl (Ne.symm ne_o0_b2))).other W8 (Or.inl (Ne.symm ne_o0_b2))).other W10 (Or.inl (Ne.symm ne_o0_b2))).other W12 (Or.inl (Ne.symm ne_o0_b2))), ((((VW4.other W6 (Ne.symm ne_o0_t4)).other W8 (Ne.symm ne_o0_t4)).other W10 (Ne.symm ne_o0_t4)).other W12 (Ne.symm ne_o0_t4))⟩
abbrev Rm14 : Room := { frames := 1, cells := 1, slots := 16, locals := 18 }
theorem ef_14 (m : MethodId) (o0 : Addr) (p1 : Int32) : entryFrame m #[(.ref o0), (.int p1)] 3 = mkF m 0 #[.val (.ref o0), .val (.int p1), .unset] [] := by first | (simp [entryFrame, mkF, argsToLocals, Value.category]; done) | rfl
def Q14 (Z : State) (o0 : Addr) (p1 : Int32) (k_o0 : ClassId) (h0 : Heap) (n0 : Nat) (v : Option Value) (h : Heap) (L : List Loc) : Prop := ∃ b k, v = some (.ref b) ∧ Fr n0 L ∧ h0.size ≤ b ∧ Keep h0 h [] ∧ Arv Z h b k .long p1 [.long (0 : Int64)] (.long (0 : Int64))
set_option maxRecDepth 65536 in
set_option maxHeartbeats 40000000 in
theorem rm14 (l : Launch) (Z : State) (a0 : Array Value) (hw : ∀ d ∈ tables_1, d.before a0 Z = true) (ws : List Jvm.Cond) (o0 : Addr) (p1 : Int32) (k_o0 : ClassId) (h0 : Heap) (n0 : Nat) (Z0 : n0 ≤ h0.size) (V_o0 : Arv Z h0 o0 k_o0 .long (1 : Int32) [.long (0 : Int64)] (.long (0 : Int64))) (hp : 2 ≤ p1.toInt ∧ p1.toInt ≤ 16) :
    MetFree l (⟨"java/util/Arrays", "copyOf", "([JI)[J"⟩ : MethodName) (head1 (Jvm.Cond.code (⟨"java/util/Arrays", "copyOf", "([JI)[J"⟩ : MethodName) jdk_65_method_124_code 3 (some (.array .long)) :: ws) Rm14) (fun a U => a = #[(.ref o0), (.int p1)] ∧ Z.Warmed39 U.vm ∧ U.heap = h0) (fun _ _ _ _ _ => True) (fun _ U o U' => ∃ v L, o = .returned v ∧ Q14 Z o0 p1 k_o0 h0 n0 v U'.heap L ∧ FrameEnd U o U' L Rm14.cells Rm14.slots) := by
  refine MetFree.of_bodySF (plainFor_of_name pn3) hisR ?_
  intro p e s m args below meth c s₁ Bd hml0 hP hK
  obtain ⟨rfl, hZ, hh⟩ := hP
  have hx := Bd.exec
  have hby := Bd.bytes
  have hml : c.maxLocals = 3 := hml0
  have hown : s.vm.findClass "java/util/Arrays" = some m.cls := findClass_of_methodNamed Bd.named
  have hnm := (name_of_methodNamed Bd.named Bd.method).1
  have X0 : Stand p l e Rm14 s m #[(.ref o0), (.int p1)] below meth c s₁ [] 0 0 := Stand.of_body Bd
  have e0 : s₁.heap = h0 := by rw [← hh, Bd.state]; rfl
  have N0 := Fr.nil n0
  show Dn p e below s Rm14.cells Rm14.slots (Q14 Z o0 p1 k_o0 h0 n0) (s₁.setTop (entryFrame m #[(.ref o0), (.int p1)] 3))
  rw [ef_14]
  refine Dn.by (U' := s₁.setTop (mkF m 1 #[.val (.ref o0), .val (.int p1), .unset] [(.int p1)])) (fun _ ks => XS.iloadN X0.here hx rfl (hb hby d14_0) rfl ks) ?_
  refine Dn.by (U' := s₁.setTop (mkF m 2 #[.val (.ref o0), .val (.int p1), .unset] [(.ref o0), (.int p1)])) (fun _ ks => XS.aloadN X0.here hx rfl (hb hby d14_1) rfl rfl ks) ?_
  obtain ⟨cl1, Ar1, q1, S1, M1, H1, G1⟩ := id V_o0
  refine Dn.by (U' := s₁.setTop (mkF m 3 #[.val (.ref o0), .val (.int p1), .unset] [(.int (1 : Int32)), (.int p1)])) (fun t k => X0.arraylength hx (by rw [e0]; exact Ar1.1) (State.isArrayOf_alike hZ.alike Ar1.2.1) (g := (mkF m 2 #[.val (.ref o0), .val (.int p1), .unset] [(.ref o0), (.int p1)])) rfl rfl (hb hby d14_2) t (by rw [len_of S1 M1]; exact k)) ?_
  refine Dn.by (U' := s₁.setTop (mkF m 14 #[.val (.ref o0), .val (.int p1), .unset] [])) (fun _ ks => XS.icmpYes X0.here hx rfl (pc0 := 3) (pc' := 14) rfl (hb hby d14_3) rfl (feq (own_ne1 hp)).2 (by decide) (by decide) ks) ?_
  refine Dn.by (U' := s₁.setTop (mkF m 15 #[.val (.ref o0), .val (.int p1), .unset] [(.int p1)])) (fun _ ks => XS.iloadN X0.here hx rfl (hb hby d14_14) rfl ks) ?_
  obtain ⟨T2, h2, k2, X2, e2, E2, A2, st2⟩ := newP X0 hx hZ (hw _ (List.mem_of_getElem? (i := 54) rfl)) e0 (g := (mkF m 15 #[.val (.ref o0), .val (.int p1), .unset] [(.int p1)])) rfl (hb hby d14_15) rfl (own_ncn hp).1 (cap := 16) (own_ncn hp).2 (by decide) (by decide) (by decide)
  obtain ⟨b2, g2⟩ : ∃ z, z = h0.size := ⟨_, rfl⟩
  rw [← g2] at A2 st2
  have g_b2 : n0 ≤ b2 := Nat.le_trans Z0 (Nat.le_of_eq g2.symm)
  have sz_b2 : h0.size ≤ b2 := Nat.le_trans (Keep.refl h0 []).1 (Nat.le_of_eq g2.symm)
  have ne_o0_b2 : o0 ≠ b2 := Nat.ne_of_lt (Nat.lt_of_lt_of_le V_o0.lt (Nat.le_of_eq g2.symm))
  have K3 : Keep h0 h2 [] := ((Keep.refl h0 []).ext E2)
  have z3 : n0 ≤ h2.size := (Nat.le_trans Z0 E2.1)
  have V2 : Arv Z h2 b2 k2 .long p1 [(.long (0 : Int64))] (.long (0 : Int64)) := (Arv.new A2 (own_ncn hp).1).pad (pad_rep [] (.long (0 : Int64)) 1)
  refine Dn.by (U' := T2.setTop (mkF m 17 #[.val (.ref o0), .val (.int p1), .unset] [(.ref b2)])) st2 ?_
  refine Dn.by (U' := T2.setTop (mkF m 18 #[.val (.ref o0), .val (.int p1), .val (.ref b2)] [])) (fun _ ks => XS.astoreN X2.here hx rfl (hb hby d14_17) rfl rfl (l' := #[.val (.ref o0), .val (.int p1), .val (.ref b2)]) rfl ks) ?_
  refine Dn.by (U' := T2.setTop (mkF m 19 #[.val (.ref o0), .val (.int p1), .val (.ref b2)] [(.ref o0)])) (fun _ ks => XS.aloadN X2.here hx rfl (hb hby d14_18) rfl rfl ks) ?_
  refine Dn.by (U' := T2.setTop (mkF m 20 #[.val (.ref o0), .val (.int p1), .val (.ref b2)] [(.int (0 : Int32)), (.ref o0)])) (fun _ ks => XS.iconst X2.here hx rfl (hb hby d14_19)  ks) ?_
  refine Dn.by (U' := T2.setTop (mkF m 21 #[.val (.ref o0), .val (.int p1), .val (.ref b2)] [(.ref b2), (.int (0 : Int32)), (.ref o0)])) (fun _ ks => XS.aloadN X2.here hx rfl (hb hby d14_20) rfl rfl ks) ?_
  refine Dn.by (U' := T2.setTop (mkF m 22 #[.val (.ref o0), .val (.int p1), .val (.ref b2)] [(.int (0 : Int32)), (.ref b2), (.int (0 : Int32)), (.ref o0)])) (fun _ ks => XS.iconst X2.here hx rfl (hb hby d14_21)  ks) ?_
  refine Dn.by (U' := T2.setTop (mkF m 23 #[.val (.ref o0), .val (.int p1), .val (.ref b2)] [(.ref o0), (.int (0 : Int32)), (.ref b2), (.int (0 : Int32)), (.ref o0)])) (fun _ ks => XS.aloadN X2.here hx rfl (hb hby d14_22) rfl rfl ks) ?_
  obtain ⟨cl4, Ar4, q4, S4, M4, H4, G4⟩ := id (V_o0.ext E2)
  refine Dn.by (U' := T2.setTop (mkF m 24 #[.val (.ref o0), .val (.int p1), .val (.ref b2)] [(.int (1 : Int32)), (.int (0 : Int32)), (.ref b2), (.int (0 : Int32)), (.ref o0)])) (fun t k => X2.arraylength hx (by rw [e2]; exact Ar4.1) (State.isArrayOf_alike hZ.alike Ar4.2.1) (g := (mkF m 23 #[.val (.ref o0), .val (.int p1), .val (.ref b2)] [(.ref o0), (.int (0 : Int32)), (.ref b2), (.int (0 : Int32)), (.ref o0)])) rfl rfl (hb hby d14_23) t (by rw [len_of S4 M4]; exact k)) ?_
  refine Dn.by (U' := T2.setTop (mkF m 25 #[.val (.ref o0), .val (.int p1), .val (.ref b2)] [(.int p1), (.int (1 : Int32)), (.int (0 : Int32)), (.ref b2), (.int (0 : Int32)), (.ref o0)])) (fun _ ks => XS.iloadN X2.here hx rfl (hb hby d14_24) rfl ks) ?_
  obtain ⟨_, _, ⟨T5, L5, k5, n5⟩, -, X5, ⟨Lc5, hQ5, l5, y5, z5⟩, st5⟩ := Jvm.LawKit.callS X2 hx (y := (⟨"java/lang/Math", "min", "(II)I"⟩ : MethodName)) hown (mvT hZ (hw _ (List.mem_of_getElem? (i := 105) rfl))) (mvT hZ (hw _ (List.mem_of_getElem? (i := 106) rfl))) (mvT hZ (hw _ (List.mem_of_getElem? (i := 99) rfl))) (mvT hZ (hw _ (List.mem_of_getElem? (i := 107) rfl))) (by decide) (backOf (W := 4) (rm15 l Z a0 hw [] (1 : Int32) p1  h2 n0 z3 ) hZ (hw _ (List.mem_of_getElem? (i := 107) rfl)) (hw _ (List.mem_of_getElem? (i := 99) rfl)) (by decide) (by decide)) (g := (mkF m 25 #[.val (.ref o0), .val (.int p1), .val (.ref b2)] [(.int p1), (.int (1 : Int32)), (.int (0 : Int32)), (.ref b2), (.int (0 : Int32)), (.ref o0)])) rfl (by rw [hml]; rfl) (argsL := [(.int (1 : Int32)), (.int p1)]) (rest := [(.int (0 : Int32)), (.ref b2), (.int (0 : Int32)), (.ref o0)]) (lenOf pd3 rfl) rfl (by show 2 * 0 + _ ≤ _; exact Nat.le_of_eq rfl) (hb hby d14_25) (fun _ _ => ⟨rfl, e2, (by decide : 1 + 0 ≤ _), (by decide : 16 + 0 ≤ _)⟩)
  dsimp only [Pt.U, Pt.locs, Pt.cells, Pt.slots] at X5 l5 y5 z5 st5 hQ5
  rw [l5, y5, z5] at X5
  obtain ⟨rfl, N5q, e5⟩ := hQ5
  have N5 := Fr.app N0 N5q
  refine Dn.by (U' := T5.setTop (mkF m 28 #[.val (.ref o0), .val (.int p1), .val (.ref b2)] [(.int (minI (1 : Int32) p1)), (.int (0 : Int32)), (.ref b2), (.int (0 : Int32)), (.ref o0)])) st5 ?_
  rw [show (minI (1 : Int32) p1) = (1 : Int32) from own_min hp]
  obtain ⟨T6, h6, L6, X6, e6, N6, KK6, V6, st6⟩ := cpA X5 hx hZ hown (hw _ (List.mem_of_getElem? (i := 108) rfl)) (hw _ (List.mem_of_getElem? (i := 111) rfl)) (hw _ (List.mem_of_getElem? (i := 109) rfl)) (hw _ (List.mem_of_getElem? (i := 110) rfl)) e5 (us := [.long (0 : Int64)]) (V_o0.ext E2) V2 (Or.inl ⟨rfl, rfl⟩) (by decide) (by decide) (by decide) (by decide) (own_h5 hp) rfl (by decide) N5 g_b2 (g := (mkF m 28 #[.val (.ref o0), .val (.int p1), .val (.ref b2)] [(.int (1 : Int32)), (.int (0 : Int32)), (.ref b2), (.int (0 : Int32)), (.ref o0)])) rfl (by rw [hml]; rfl) rfl (hb hby d14_28) (by decide) (W := 0) (by show 2 * 0 + _ ≤ _; exact Nat.le_of_eq rfl) (by decide)
  have VV6 : Arv Z h6 b2 k2 .long p1 [.long (0 : Int64)] (.long (0 : Int64)) := V6
  have K7 : Keep h0 h6 [] := (K3.trans KK6 (allS (Or.inr sz_b2) all0))
  have z7 : n0 ≤ h6.size := (Nat.le_trans z3 KK6.1)
  refine Dn.by (U' := T6.setTop (mkF m 31 #[.val (.ref o0), .val (.int p1), .val (.ref b2)] [])) st6 ?_
  refine Dn.by (U' := T6.setTop (mkF m 32 #[.val (.ref o0), .val (.int p1), .val (.ref b2)] [(.ref b2)])) (fun _ ks => XS.aloadN X6.here hx rfl (hb hby d14_31) rfl rfl ks) ?_
  refine Dn.out X6 (v := (some (.ref b2))) (fun h => by rw [Bd.returns] at h; cases h) (BodyLoose.notSynchronized Bd) (fun _ hr => retOut X6 hx Bd.returns rfl (Or.inr (Or.inr (Or.inr (Or.inr ⟨rfl, rfl, rfl⟩)))) (hb hby d14_32) hr) (by decide) (by decide) ?_
  rw [e6]
  exact ⟨b2, k2, rfl, N6, sz_b2, K7, VV6⟩
abbrev Rm10a : Room := { frames := 0, cells := 0, slots := 0, locals := 0 }
theorem ef_10a (m : MethodId) (o0 : Addr) : entryFrame m #[(.ref o0), (.int (1 : Int32))] 3 = mkF m 0 #[.val (.ref o0), .val (.int (1 : Int32)), .unset] [] := by first | (simp [entryFrame, mkF, argsToLocals, Value.category]; done) | rfl
def Q10a (Z : State) (o0 : Addr) (u_words_o0 : Addr) (k_t : ClassId) (h0 : Heap) (n0 : Nat) (v : Option Value) (h : Heap) (L : List Loc) : Prop := v = none ∧ Fr n0 L ∧ h = h0
set_option maxRecDepth 65536 in
set_option maxHeartbeats 40000000 in
theorem rm10a (l : Launch) (Z : State) (a0 : Array Value) (hw : ∀ d ∈ tables_1, d.before a0 Z = true) (ws : List Jvm.Cond) (o0 : Addr) (u_words_o0 : Addr) (k_t : ClassId) (h0 : Heap) (n0 : Nat) (Z0 : n0 ≤ h0.size) (F_u_words_o0 : Fld Z h0 o0 "java/util/BitSet" "words" "[J" (.ref u_words_o0)) (V_t : Arv Z h0 u_words_o0 k_t .long (1 : Int32) [.long (0 : Int64)] (.long (0 : Int64))) (hne : u_words_o0 ≠ o0) :
    MetFree l (⟨"java/util/BitSet", "ensureCapacity", "(I)V"⟩ : MethodName) (head1 (Jvm.Cond.code (⟨"java/util/BitSet", "ensureCapacity", "(I)V"⟩ : MethodName) jdk_92_method_14_code 3 none :: ws) Rm10a) (fun a U => a = #[(.ref o0), (.int (1 : Int32))] ∧ Z.Warmed39 U.vm ∧ U.heap = h0) (fun _ _ _ _ _ => True) (fun _ U o U' => ∃ v L, o = .returned v ∧ Q10a Z o0 u_words_o0 k_t h0 n0 v U'.heap L ∧ FrameEnd U o U' L Rm10a.cells Rm10a.slots) := by
  refine MetFree.of_bodySF (plainFor_of_name pn1) hisR ?_
  intro p e s m args below meth c s₁ Bd hml0 hP hK
  obtain ⟨rfl, hZ, hh⟩ := hP
  have hx := Bd.exec
  have hby := Bd.bytes
  have hml : c.maxLocals = 3 := hml0
  have hown : s.vm.findClass "java/util/BitSet" = some m.cls := findClass_of_methodNamed Bd.named
  have hnm := (name_of_methodNamed Bd.named Bd.method).1
  have X0 : Stand p l e Rm10a s m #[(.ref o0), (.int (1 : Int32))] below meth c s₁ [] 0 0 := Stand.of_body Bd
  have e0 : s₁.heap = h0 := by rw [← hh, Bd.state]; rfl
  have N0 := Fr.nil n0
  show Dn p e below s Rm10a.cells Rm10a.slots (Q10a Z o0 u_words_o0 k_t h0 n0) (s₁.setTop (entryFrame m #[(.ref o0), (.int (1 : Int32))] 3))
  rw [ef_10a]
  refine Dn.by (U' := s₁.setTop (mkF m 1 #[.val (.ref o0), .val (.int (1 : Int32)), .unset] [(.ref o0)])) (fun _ ks => XS.aloadN X0.here hx rfl (hb hby d10_0) rfl rfl ks) ?_
  obtain ⟨T1, X1, e1, st1⟩ := getF X0 hx hZ hown (host := "") (Or.inl (hw _ (List.mem_of_getElem? (i := 55) rfl))) Via.refl e0 F_u_words_o0 (g := (mkF m 1 #[.val (.ref o0), .val (.int (1 : Int32)), .unset] [(.ref o0)])) rfl rfl (hb hby d10_1)
  refine Dn.by (U' := T1.setTop (mkF m 4 #[.val (.ref o0), .val (.int (1 : Int32)), .unset] [(.ref u_words_o0)])) st1 ?_
  obtain ⟨cl2, Ar2, q2, S2, M2, H2, G2⟩ := id V_t
  refine Dn.by (U' := T1.setTop (mkF m 5 #[.val (.ref o0), .val (.int (1 : Int32)), .unset] [(.int (1 : Int32))])) (fun t k => X1.arraylength hx (by rw [e1]; exact Ar2.1) (State.isArrayOf_alike hZ.alike Ar2.2.1) (g := (mkF m 4 #[.val (.ref o0), .val (.int (1 : Int32)), .unset] [(.ref u_words_o0)])) rfl rfl (hb hby d10_4) t (by rw [len_of S2 M2]; exact k)) ?_
  refine Dn.by (U' := T1.setTop (mkF m 6 #[.val (.ref o0), .val (.int (1 : Int32)), .unset] [(.int (1 : Int32)), (.int (1 : Int32))])) (fun _ ks => XS.iloadN X1.here hx rfl (hb hby d10_5) rfl ks) ?_
  refine Dn.by (U' := T1.setTop (mkF m 38 #[.val (.ref o0), .val (.int (1 : Int32)), .unset] [])) (fun _ ks => XS.icmpYes X1.here hx rfl (pc0 := 6) (pc' := 38) rfl (hb hby d10_6) rfl (by decide) (by decide) (by decide) ks) ?_
  refine Dn.out X1 (v := none) (fun _ => rfl) (BodyLoose.notSynchronized Bd) (fun _ hr => X1.returnOut hx Bd.returns (hb hby d10_38) hr) (by decide) (by decide) ?_
  rw [e1]
  exact ⟨rfl, N0, rfl⟩
abbrev Rm10 : Room := { frames := 2, cells := 1, slots := 16, locals := 33 }
theorem ef_10 (m : MethodId) (o0 : Addr) (p1 : Int32) : entryFrame m #[(.ref o0), (.int p1)] 3 = mkF m 0 #[.val (.ref o0), .val (.int p1), .unset] [] := by first | (simp [entryFrame, mkF, argsToLocals, Value.category]; done) | rfl
def Q10 (Z : State) (o0 : Addr) (p1 : Int32) (u_words_o0 : Addr) (k_t : ClassId) (u_sizeIsSticky_o0 : Value) (h0 : Heap) (n0 : Nat) (v : Option Value) (h : Heap) (L : List Loc) : Prop := ∃ t k z, v = none ∧ Fr n0 L ∧ Keep h0 h [o0] ∧ Exa Z h o0 "java/util/BitSet" ∧ h0.size ≤ t ∧ Fld Z h o0 "java/util/BitSet" "words" "[J" (.ref t) ∧ Arv Z h t k .long z [.long (0 : Int64)] (.long (0 : Int64)) ∧ p1.toInt ≤ z.toInt ∧ Fld Z h o0 "java/util/BitSet" "wordsInUse" "I" (.int (0 : Int32))
set_option maxRecDepth 65536 in
set_option maxHeartbeats 40000000 in
theorem rm10 (l : Launch) (Z : State) (a0 : Array Value) (hw : ∀ d ∈ tables_1, d.before a0 Z = true) (ws : List Jvm.Cond) (o0 : Addr) (p1 : Int32) (u_words_o0 : Addr) (k_t : ClassId) (u_sizeIsSticky_o0 : Value) (h0 : Heap) (n0 : Nat) (Z0 : n0 ≤ h0.size) (g_o0 : n0 ≤ o0) (E_o0 : Exa Z h0 o0 "java/util/BitSet") (F_u_words_o0 : Fld Z h0 o0 "java/util/BitSet" "words" "[J" (.ref u_words_o0)) (V_t : Arv Z h0 u_words_o0 k_t .long (1 : Int32) [.long (0 : Int64)] (.long (0 : Int64))) (hne : u_words_o0 ≠ o0) (F_wu : Fld Z h0 o0 "java/util/BitSet" "wordsInUse" "I" (.int (0 : Int32))) (F_u_sizeIsSticky_o0 : Fld Z h0 o0 "java/util/BitSet" "sizeIsSticky" "Z" u_sizeIsSticky_o0) (hp : 2 ≤ p1.toInt ∧ p1.toInt ≤ 16) :
    MetFree l (⟨"java/util/BitSet", "ensureCapacity", "(I)V"⟩ : MethodName) (head1 (Jvm.Cond.code (⟨"java/util/BitSet", "ensureCapacity", "(I)V"⟩ : MethodName) jdk_92_method_14_code 3 none :: ws) Rm10) (fun a U => a = #[(.ref o0), (.int p1)] ∧ Z.Warmed39 U.vm ∧ U.heap = h0) (fun _ _ _ _ _ => True) (fun _ U o U' => ∃ v L, o = .returned v ∧ Q10 Z o0 p1 u_words_o0 k_t u_sizeIsSticky_o0 h0 n0 v U'.heap L ∧ FrameEnd U o U' L Rm10.cells Rm10.slots) := by
  refine MetFree.of_bodySF (plainFor_of_name pn1) hisR ?_
  intro p e s m args below meth c s₁ Bd hml0 hP hK
  obtain ⟨rfl, hZ, hh⟩ := hP
  have hx := Bd.exec
  have hby := Bd.bytes
  have hml : c.maxLocals = 3 := hml0
  have hown : s.vm.findClass "java/util/BitSet" = some m.cls := findClass_of_methodNamed Bd.named
  have hnm := (name_of_methodNamed Bd.named Bd.method).1
  have X0 : Stand p l e Rm10 s m #[(.ref o0), (.int p1)] below meth c s₁ [] 0 0 := Stand.of_body Bd
  have e0 : s₁.heap = h0 := by rw [← hh, Bd.state]; rfl
  have N0 := Fr.nil n0
  show Dn p e below s Rm10.cells Rm10.slots (Q10 Z o0 p1 u_words_o0 k_t u_sizeIsSticky_o0 h0 n0) (s₁.setTop (entryFrame m #[(.ref o0), (.int p1)] 3))
  rw [ef_10]
  refine Dn.by (U' := s₁.setTop (mkF m 1 #[.val (.ref o0), .val (.int p1), .unset] [(.ref o0)])) (fun _ ks => XS.aloadN X0.here hx rfl (hb hby d10_0) rfl rfl ks) ?_
  obtain ⟨T1, X1, e1, st1⟩ := getF X0 hx hZ hown (host := "") (Or.inl (hw _ (List.mem_of_getElem? (i := 55) rfl))) Via.refl e0 F_u_words_o0 (g := (mkF m 1 #[.val (.ref o0), .val (.int p1), .unset] [(.ref o0)])) rfl rfl (hb hby d10_1)
  refine Dn.by (U' := T1.setTop (mkF m 4 #[.val (.ref o0), .val (.int p1), .unset] [(.ref u_words_o0)])) st1 ?_
  obtain ⟨cl2, Ar2, q2, S2, M2, H2, G2⟩ := id V_t
  refine Dn.by (U' := T1.setTop (mkF m 5 #[.val (.ref o0), .val (.int p1), .unset] [(.int (1 : Int32))])) (fun t k => X1.arraylength hx (by rw [e1]; exact Ar2.1) (State.isArrayOf_alike hZ.alike Ar2.2.1) (g := (mkF m 4 #[.val (.ref o0), .val (.int p1), .unset] [(.ref u_words_o0)])) rfl rfl (hb hby d10_4) t (by rw [len_of S2 M2]; exact k)) ?_
  refine Dn.by (U' := T1.setTop (mkF m 6 #[.val (.ref o0), .val (.int p1), .unset] [(.int p1), (.int (1 : Int32))])) (fun _ ks => XS.iloadN X1.here hx rfl (hb hby d10_5) rfl ks) ?_
  refine Dn.by (U' := T1.setTop (mkF m 9 #[.val (.ref o0), .val (.int p1), .unset] [])) (fun _ ks => XS.icmpNo X1.here hx rfl (hb hby d10_6) rfl (tlt (own_gt1 hp)).2.1 ks) ?_
  refine Dn.by (U' := T1.setTop (mkF m 10 #[.val (.ref o0), .val (.int p1), .unset] [(.int (2 : Int32))])) (fun _ ks => XS.iconst X1.here hx rfl (hb hby d10_9)  ks) ?_
  refine Dn.by (U' := T1.setTop (mkF m 11 #[.val (.ref o0), .val (.int p1), .unset] [(.ref o0), (.int (2 : Int32))])) (fun _ ks => XS.aloadN X1.here hx rfl (hb hby d10_10) rfl rfl ks) ?_
  obtain ⟨T3, X3, e3, st3⟩ := getF X1 hx hZ hown (host := "") (Or.inl (hw _ (List.mem_of_getElem? (i := 55) rfl))) Via.refl e1 F_u_words_o0 (g := (mkF m 11 #[.val (.ref o0), .val (.int p1), .unset] [(.ref o0), (.int (2 : Int32))])) rfl rfl (hb hby d10_11)
  refine Dn.by (U' := T3.setTop (mkF m 14 #[.val (.ref o0), .val (.int p1), .unset] [(.ref u_words_o0), (.int (2 : Int32))])) st3 ?_
  obtain ⟨cl4, Ar4, q4, S4, M4, H4, G4⟩ := id V_t
  refine Dn.by (U' := T3.setTop (mkF m 15 #[.val (.ref o0), .val (.int p1), .unset] [(.int (1 : Int32)), (.int (2 : Int32))])) (fun t k => X3.arraylength hx (by rw [e3]; exact Ar4.1) (State.isArrayOf_alike hZ.alike Ar4.2.1) (g := (mkF m 14 #[.val (.ref o0), .val (.int p1), .unset] [(.ref u_words_o0), (.int (2 : Int32))])) rfl rfl (hb hby d10_14) t (by rw [len_of S4 M4]; exact k)) ?_
  refine Dn.by (U' := T3.setTop (mkF m 16 #[.val (.ref o0), .val (.int p1), .unset] [(.int ((2 : Int32) * (1 : Int32)))])) (fun _ ks => XS.imul X3.here hx rfl (hb hby d10_15) rfl ks) ?_
  rw [show ((2 : Int32) * (1 : Int32)) = (2 : Int32) from by decide]
  refine Dn.by (U' := T3.setTop (mkF m 17 #[.val (.ref o0), .val (.int p1), .unset] [(.int p1), (.int (2 : Int32))])) (fun _ ks => XS.iloadN X3.here hx rfl (hb hby d10_16) rfl ks) ?_
  obtain ⟨_, _, ⟨T5, L5, k5, n5⟩, -, X5, ⟨Lc5, hQ5, l5, y5, z5⟩, st5⟩ := Jvm.LawKit.callS X3 hx (y := (⟨"java/lang/Math", "max", "(II)I"⟩ : MethodName)) hown (mvT hZ (hw _ (List.mem_of_getElem? (i := 97) rfl))) (mvT hZ (hw _ (List.mem_of_getElem? (i := 98) rfl))) (mvT hZ (hw _ (List.mem_of_getElem? (i := 99) rfl))) (mvT hZ (hw _ (List.mem_of_getElem? (i := 100) rfl))) (by decide) (backOf (W := 0) (rm13 l Z a0 hw [] (2 : Int32) p1  h0 n0 Z0 ) hZ (hw _ (List.mem_of_getElem? (i := 100) rfl)) (hw _ (List.mem_of_getElem? (i := 99) rfl)) (by decide) (by decide)) (g := (mkF m 17 #[.val (.ref o0), .val (.int p1), .unset] [(.int p1), (.int (2 : Int32))])) rfl (by rw [hml]; rfl) (argsL := [(.int (2 : Int32)), (.int p1)]) (rest := []) (lenOf pd3 rfl) rfl (by show 2 * 0 + _ ≤ _; exact Nat.le_of_eq rfl) (hb hby d10_17) (fun _ _ => ⟨rfl, e3, (by decide : 0 + 0 ≤ _), (by decide : 0 + 0 ≤ _)⟩)
  dsimp only [Pt.U, Pt.locs, Pt.cells, Pt.slots] at X5 l5 y5 z5 st5 hQ5
  rw [l5, y5, z5] at X5
  obtain ⟨rfl, N5q, e5⟩ := hQ5
  have N5 := Fr.app N0 N5q
  refine Dn.by (U' := T5.setTop (mkF m 20 #[.val (.ref o0), .val (.int p1), .unset] [(.int (maxI (2 : Int32) p1))])) st5 ?_
  have Hmx := own_max hp
  generalize (maxI (2 : Int32) p1) = mx at Hmx ⊢
  refine Dn.by (U' := T5.setTop (mkF m 21 #[.val (.ref o0), .val (.int p1), .val (.int mx)] [])) (fun _ ks => XS.istoreN X5.here hx rfl (hb hby d10_20) rfl (l' := #[.val (.ref o0), .val (.int p1), .val (.int mx)]) rfl ks) ?_
  refine Dn.by (U' := T5.setTop (mkF m 22 #[.val (.ref o0), .val (.int p1), .val (.int mx)] [(.ref o0)])) (fun _ ks => XS.aloadN X5.here hx rfl (hb hby d10_21) rfl rfl ks) ?_
  refine Dn.by (U' := T5.setTop (mkF m 23 #[.val (.ref o0), .val (.int p1), .val (.int mx)] [(.ref o0), (.ref o0)])) (fun _ ks => XS.aloadN X5.here hx rfl (hb hby d10_22) rfl rfl ks) ?_
  obtain ⟨T6, X6, e6, st6⟩ := getF X5 hx hZ hown (host := "") (Or.inl (hw _ (List.mem_of_getElem? (i := 55) rfl))) Via.refl e5 F_u_words_o0 (g := (mkF m 23 #[.val (.ref o0), .val (.int p1), .val (.int mx)] [(.ref o0), (.ref o0)])) rfl rfl (hb hby d10_23)
  refine Dn.by (U' := T6.setTop (mkF m 26 #[.val (.ref o0), .val (.int p1), .val (.int mx)] [(.ref u_words_o0), (.ref o0)])) st6 ?_
  refine Dn.by (U' := T6.setTop (mkF m 27 #[.val (.ref o0), .val (.int p1), .val (.int mx)] [(.int mx), (.ref u_words_o0), (.ref o0)])) (fun _ ks => XS.iloadN X6.here hx rfl (hb hby d10_26) rfl ks) ?_
  obtain ⟨_, _, ⟨T7, L7, k7, n7⟩, -, X7, ⟨Lc7, hQ7, l7, y7, z7⟩, st7⟩ := Jvm.LawKit.callS X6 hx (y := (⟨"java/util/Arrays", "copyOf", "([JI)[J"⟩ : MethodName)) hown (mvT hZ (hw _ (List.mem_of_getElem? (i := 101) rfl))) (mvT hZ (hw _ (List.mem_of_getElem? (i := 102) rfl))) (mvT hZ (hw _ (List.mem_of_getElem? (i := 103) rfl))) (mvT hZ (hw _ (List.mem_of_getElem? (i := 104) rfl))) (by decide) (backOf (W := 1) (rm14 l Z a0 hw [] u_words_o0 mx k_t h0 n0 Z0 V_t Hmx.1) hZ (hw _ (List.mem_of_getElem? (i := 104) rfl)) (hw _ (List.mem_of_getElem? (i := 103) rfl)) (by decide) (by decide)) (g := (mkF m 27 #[.val (.ref o0), .val (.int p1), .val (.int mx)] [(.int mx), (.ref u_words_o0), (.ref o0)])) rfl (by rw [hml]; rfl) (argsL := [(.ref u_words_o0), (.int mx)]) (rest := [(.ref o0)]) (lenOf pd4 rfl) rfl (by show 2 * 0 + _ ≤ _; exact Nat.le_of_eq rfl) (hb hby d10_27) (fun _ _ => ⟨rfl, e6, (by decide : 0 + 1 ≤ _), (by decide : 0 + 16 ≤ _)⟩)
  dsimp only [Pt.U, Pt.locs, Pt.cells, Pt.slots] at X7 l7 y7 z7 st7 hQ7
  rw [l7, y7, z7] at X7
  obtain ⟨b7, kb7, rfl, N7q, zz7, KK7, VV7⟩ := hQ7
  have N7 := Fr.app N5 N7q
  have g_b7 : n0 ≤ b7 := Nat.le_trans Z0 zz7
  have sz_b7 : h0.size ≤ b7 := Nat.le_trans (Keep.refl h0 [o0]).1 zz7
  have ne_o0_b7 : o0 ≠ b7 := Nat.ne_of_lt (Nat.lt_of_lt_of_le E_o0.lt zz7)
  have ne_u_words_o0_b7 : u_words_o0 ≠ b7 := Nat.ne_of_lt (Nat.lt_of_lt_of_le V_t.lt zz7)
  have K8 : Keep h0 T7.heap [o0] := ((Keep.refl h0 [o0]).trans KK7 all0)
  have z8 : n0 ≤ T7.heap.size := (Nat.le_trans Z0 KK7.1)
  refine Dn.by (U' := T7.setTop (mkF m 30 #[.val (.ref o0), .val (.int p1), .val (.int mx)] [(.ref b7), (.ref o0)])) st7 ?_
  obtain ⟨T9, h9, X9, e9, W9, st9⟩ := putF X7 hx hZ hown (host := "") (Or.inl (hw _ (List.mem_of_getElem? (i := 55) rfl))) Via.refl rfl (F_u_words_o0.keep KK7 nin0) (E_o0.keep KK7) (Or.inl (hw _ (List.mem_of_getElem? (i := 56) rfl))) (hw _ (List.mem_of_getElem? (i := 36) rfl)) (ty := (.array .long)) (by decide) rfl rfl (g := (mkF m 30 #[.val (.ref o0), .val (.int p1), .val (.int mx)] [(.ref b7), (.ref o0)])) rfl rfl (hb hby d10_30)
  have F9 := (F_u_words_o0.keep KK7 nin0).same W9
  have K10 : Keep h0 h9 [o0] := (K8.wr W9 (Or.inl (List.mem_of_getElem? (i := 0) rfl)))
  have z10 : n0 ≤ h9.size := (Nat.le_trans z8 (Keep.of_wr W9).1)
  have N9 := Fr.snoc X9 N7 g_o0
  refine Dn.by (U' := T9.setTop (mkF m 33 #[.val (.ref o0), .val (.int p1), .val (.int mx)] [])) st9 ?_
  refine Dn.by (U' := T9.setTop (mkF m 34 #[.val (.ref o0), .val (.int p1), .val (.int mx)] [(.ref o0)])) (fun _ ks => XS.aloadN X9.here hx rfl (hb hby d10_33) rfl rfl ks) ?_
  refine Dn.by (U' := T9.setTop (mkF m 35 #[.val (.ref o0), .val (.int p1), .val (.int mx)] [(.int (0 : Int32)), (.ref o0)])) (fun _ ks => XS.iconst X9.here hx rfl (hb hby d10_34)  ks) ?_
  obtain ⟨T11, h11, X11, e11, W11, st11⟩ := putFN X9 hx hZ hown (hw _ (List.mem_of_getElem? (i := 44) rfl)) Via.refl e9 ((F_u_sizeIsSticky_o0.keep KK7 nin0).other W9 (Or.inr (slot_ne (Or.inl (hw _ (List.mem_of_getElem? (i := 45) rfl))) (Or.inl (hw _ (List.mem_of_getElem? (i := 56) rfl))) (by decide) (t := .boolean) (t' := (.array .long)) (by decide) (by decide)))) ((E_o0.keep KK7).wr W9) (Or.inl (hw _ (List.mem_of_getElem? (i := 45) rfl))) (hw _ (List.mem_of_getElem? (i := 36) rfl)) (ty := .boolean) (v' := (.int (nar .boolean (0 : Int32)))) (by decide) rfl (fits_nar_bool _) (g := (mkF m 35 #[.val (.ref o0), .val (.int p1), .val (.int mx)] [(.int (0 : Int32)), (.ref o0)])) rfl rfl (hb hby d10_35)
  have F11 := ((F_u_sizeIsSticky_o0.keep KK7 nin0).other W9 (Or.inr (slot_ne (Or.inl (hw _ (List.mem_of_getElem? (i := 45) rfl))) (Or.inl (hw _ (List.mem_of_getElem? (i := 56) rfl))) (by decide) (t := .boolean) (t' := (.array .long)) (by decide) (by decide)))).same W11
  have K12 : Keep h0 h11 [o0] := (K10.wr W11 (Or.inl (List.mem_of_getElem? (i := 0) rfl)))
  have z12 : n0 ≤ h11.size := (Nat.le_trans z10 (Keep.of_wr W11).1)
  have N11 := Fr.snoc X11 N9 g_o0
  refine Dn.by (U' := T11.setTop (mkF m 38 #[.val (.ref o0), .val (.int p1), .val (.int mx)] [])) st11 ?_
  refine Dn.out X11 (v := none) (fun _ => rfl) (BodyLoose.notSynchronized Bd) (fun _ hr => X11.returnOut hx Bd.returns (hb hby d10_38) hr) (by decide) (by decide) ?_
  rw [e11]
  exact ⟨b7, kb7, mx, rfl, N11, K12, (((E_o0.keep KK7).wr W9).wr W11), sz_b7, (F9.other W11 (Or.inr (slot_ne (Or.inl (hw _ (List.mem_of_getElem? (i := 56) rfl))) (Or.inl (hw _ (List.mem_of_getElem? (i := 45) rfl))) (by decide) (t := (.array .long)) (t' := .boolean) (by decide) (by decide)))), ((VV7.other W9 (Ne.symm ne_o0_b7)).other W11 (Ne.symm ne_o0_b7)), Hmx.2, (((F_wu.keep KK7 nin0).other W9 (Or.inr (slot_ne (Or.inl (hw _ (List.mem_of_getElem? (i := 43) rfl))) (Or.inl (hw _ (List.mem_of_getElem? (i := 56) rfl))) (by decide) (t := .int) (t' := (.array .long)) (by decide) (by decide)))).other W11 (Or.inr (slot_ne (Or.inl (hw _ (List.mem_of_getElem? (i := 43) rfl))) (Or.inl (hw _ (List.mem_of_getElem? (i := 45) rfl))) (by decide) (t := .int) (t' := .boolean) (by decide) (by decide))))⟩
abbrev Rm9a : Room := { frames := 1, cells := 0, slots := 0, locals := 14 }
theorem ef_9a (m : MethodId) (o0 : Addr) : entryFrame m #[(.ref o0), (.int (0 : Int32))] 3 = mkF m 0 #[.val (.ref o0), .val (.int (0 : Int32)), .unset] [] := by first | (simp [entryFrame, mkF, argsToLocals, Value.category]; done) | rfl
def Q9a (Z : State) (o0 : Addr) (u_words_o0 : Addr) (k_t : ClassId) (h0 : Heap) (n0 : Nat) (v : Option Value) (h : Heap) (L : List Loc) : Prop := v = none ∧ Fr n0 L ∧ Keep h0 h [o0] ∧ Exa Z h o0 "java/util/BitSet" ∧ Fld Z h o0 "java/util/BitSet" "words" "[J" (.ref u_words_o0)
set_option maxRecDepth 65536 in
set_option maxHeartbeats 40000000 in
theorem rm9a (l : Launch) (Z : State) (a0 : Array Value) (hw : ∀ d ∈ tables_1, d.before a0 Z = true) (ws : List Jvm.Cond) (o0 : Addr) (u_words_o0 : Addr) (k_t : ClassId) (h0 : Heap) (n0 : Nat) (Z0 : n0 ≤ h0.size) (g_o0 : n0 ≤ o0) (E_o0 : Exa Z h0 o0 "java/util/BitSet") (F_u_words_o0 : Fld Z h0 o0 "java/util/BitSet" "words" "[J" (.ref u_words_o0)) (V_t : Arv Z h0 u_words_o0 k_t .long (1 : Int32) [.long (0 : Int64)] (.long (0 : Int64))) (hne : u_words_o0 ≠ o0) (F_wu : Fld Z h0 o0 "java/util/BitSet" "wordsInUse" "I" (.int (0 : Int32))) :
    MetFree l (⟨"java/util/BitSet", "expandTo", "(I)V"⟩ : MethodName) (head1 (Jvm.Cond.code (⟨"java/util/BitSet", "expandTo", "(I)V"⟩ : MethodName) jdk_92_method_15_code 3 none :: ws) Rm9a) (fun a U => a = #[(.ref o0), (.int (0 : Int32))] ∧ Z.Warmed39 U.vm ∧ U.heap = h0) (fun _ _ _ _ _ => True) (fun _ U o U' => ∃ v L, o = .returned v ∧ Q9a Z o0 u_words_o0 k_t h0 n0 v U'.heap L ∧ FrameEnd U o U' L Rm9a.cells Rm9a.slots) := by
  refine MetFree.of_bodySF (plainFor_of_name pn1) hisR ?_
  intro p e s m args below meth c s₁ Bd hml0 hP hK
  obtain ⟨rfl, hZ, hh⟩ := hP
  have hx := Bd.exec
  have hby := Bd.bytes
  have hml : c.maxLocals = 3 := hml0
  have hown : s.vm.findClass "java/util/BitSet" = some m.cls := findClass_of_methodNamed Bd.named
  have hnm := (name_of_methodNamed Bd.named Bd.method).1
  have X0 : Stand p l e Rm9a s m #[(.ref o0), (.int (0 : Int32))] below meth c s₁ [] 0 0 := Stand.of_body Bd
  have e0 : s₁.heap = h0 := by rw [← hh, Bd.state]; rfl
  have N0 := Fr.nil n0
  show Dn p e below s Rm9a.cells Rm9a.slots (Q9a Z o0 u_words_o0 k_t h0 n0) (s₁.setTop (entryFrame m #[(.ref o0), (.int (0 : Int32))] 3))
  rw [ef_9a]
  refine Dn.by (U' := s₁.setTop (mkF m 1 #[.val (.ref o0), .val (.int (0 : Int32)), .unset] [(.int (0 : Int32))])) (fun _ ks => XS.iloadN X0.here hx rfl (hb hby d9_0) rfl ks) ?_
  refine Dn.by (U' := s₁.setTop (mkF m 2 #[.val (.ref o0), .val (.int (0 : Int32)), .unset] [(.int (1 : Int32)), (.int (0 : Int32))])) (fun _ ks => XS.iconst X0.here hx rfl (hb hby d9_1)  ks) ?_
  refine Dn.by (U' := s₁.setTop (mkF m 3 #[.val (.ref o0), .val (.int (0 : Int32)), .unset] [(.int ((0 : Int32) + (1 : Int32)))])) (fun _ ks => XS.iadd X0.here hx rfl (hb hby d9_2) rfl ks) ?_
  rw [show ((0 : Int32) + (1 : Int32)) = (1 : Int32) from by decide]
  refine Dn.by (U' := s₁.setTop (mkF m 4 #[.val (.ref o0), .val (.int (0 : Int32)), .val (.int (1 : Int32))] [])) (fun _ ks => XS.istoreN X0.here hx rfl (hb hby d9_3) rfl (l' := #[.val (.ref o0), .val (.int (0 : Int32)), .val (.int (1 : Int32))]) rfl ks) ?_
  refine Dn.by (U' := s₁.setTop (mkF m 5 #[.val (.ref o0), .val (.int (0 : Int32)), .val (.int (1 : Int32))] [(.ref o0)])) (fun _ ks => XS.aloadN X0.here hx rfl (hb hby d9_4) rfl rfl ks) ?_
  obtain ⟨T1, X1, e1, st1⟩ := getF X0 hx hZ hown (host := "") (Or.inl (hw _ (List.mem_of_getElem? (i := 42) rfl))) Via.refl e0 F_wu (g := (mkF m 5 #[.val (.ref o0), .val (.int (0 : Int32)), .val (.int (1 : Int32))] [(.ref o0)])) rfl rfl (hb hby d9_5)
  refine Dn.by (U' := T1.setTop (mkF m 8 #[.val (.ref o0), .val (.int (0 : Int32)), .val (.int (1 : Int32))] [(.int (0 : Int32))])) st1 ?_
  refine Dn.by (U' := T1.setTop (mkF m 9 #[.val (.ref o0), .val (.int (0 : Int32)), .val (.int (1 : Int32))] [(.int (1 : Int32)), (.int (0 : Int32))])) (fun _ ks => XS.iloadN X1.here hx rfl (hb hby d9_8) rfl ks) ?_
  refine Dn.by (U' := T1.setTop (mkF m 12 #[.val (.ref o0), .val (.int (0 : Int32)), .val (.int (1 : Int32))] [])) (fun _ ks => XS.icmpNo X1.here hx rfl (hb hby d9_9) rfl (by decide) ks) ?_
  refine Dn.by (U' := T1.setTop (mkF m 13 #[.val (.ref o0), .val (.int (0 : Int32)), .val (.int (1 : Int32))] [(.ref o0)])) (fun _ ks => XS.aloadN X1.here hx rfl (hb hby d9_12) rfl rfl ks) ?_
  refine Dn.by (U' := T1.setTop (mkF m 14 #[.val (.ref o0), .val (.int (0 : Int32)), .val (.int (1 : Int32))] [(.int (1 : Int32)), (.ref o0)])) (fun _ ks => XS.iloadN X1.here hx rfl (hb hby d9_13) rfl ks) ?_
  obtain ⟨cq2, qa2, qb2⟩ := E_o0.cell
  obtain ⟨_, _, ⟨T2, L2, k2, n2⟩, -, X2, ⟨Lc2, hQ2, l2, y2, z2⟩, st2⟩ := X1.privateBack hx (y := (⟨"java/util/BitSet", "ensureCapacity", "(I)V"⟩ : MethodName)) hown (mvT hZ (hw _ (List.mem_of_getElem? (i := 81) rfl))) (mvT hZ (hw _ (List.mem_of_getElem? (i := 82) rfl))) (mvT hZ (hw _ (List.mem_of_getElem? (i := 84) rfl))) (Cond.privateMethod_at (mvP hZ (hw _ (List.mem_of_getElem? (i := 83) rfl)) (args := #[]))) (mvT hZ (hw _ (List.mem_of_getElem? (i := 85) rfl))) (by decide) (backOf (W := 0) (rm10a l Z a0 hw [] o0 u_words_o0 k_t h0 n0 Z0 F_u_words_o0 V_t hne) hZ (hw _ (List.mem_of_getElem? (i := 85) rfl)) (hw _ (List.mem_of_getElem? (i := 37) rfl)) (by decide) (by decide)) (g := (mkF m 14 #[.val (.ref o0), .val (.int (0 : Int32)), .val (.int (1 : Int32))] [(.int (1 : Int32)), (.ref o0)])) rfl (by rw [hml]; rfl) (Steps.refl _) (a := o0) (by rw [e1]; exact qa2) qb2 (argsL := [(.int (1 : Int32))]) (rest := []) (lenOf pd1 rfl) rfl (by show 2 * 0 + _ ≤ _; exact Nat.le_of_eq rfl) (hb hby d9_14) (fun _ _ => ⟨rfl, e1, (by decide : 0 + 0 ≤ _), (by decide : 0 + 0 ≤ _)⟩)
  dsimp only [Pt.U, Pt.locs, Pt.cells, Pt.slots] at X2 l2 y2 z2 st2 hQ2
  rw [l2, y2, z2] at X2
  obtain ⟨rfl, N2q, e2⟩ := hQ2
  have N2 := Fr.app N0 N2q
  refine Dn.by (U' := T2.setTop (mkF m 17 #[.val (.ref o0), .val (.int (0 : Int32)), .val (.int (1 : Int32))] [])) (fun _ ks => st2.trans ks) ?_
  refine Dn.by (U' := T2.setTop (mkF m 18 #[.val (.ref o0), .val (.int (0 : Int32)), .val (.int (1 : Int32))] [(.ref o0)])) (fun _ ks => XS.aloadN X2.here hx rfl (hb hby d9_17) rfl rfl ks) ?_
  refine Dn.by (U' := T2.setTop (mkF m 19 #[.val (.ref o0), .val (.int (0 : Int32)), .val (.int (1 : Int32))] [(.int (1 : Int32)), (.ref o0)])) (fun _ ks => XS.iloadN X2.here hx rfl (hb hby d9_18) rfl ks) ?_
  obtain ⟨T3, h3, X3, e3, W3, st3⟩ := putF X2 hx hZ hown (host := "") (Or.inl (hw _ (List.mem_of_getElem? (i := 42) rfl))) Via.refl e2 F_wu E_o0 (Or.inl (hw _ (List.mem_of_getElem? (i := 43) rfl))) (hw _ (List.mem_of_getElem? (i := 36) rfl)) (ty := .int) (by decide) rfl rfl (g := (mkF m 19 #[.val (.ref o0), .val (.int (0 : Int32)), .val (.int (1 : Int32))] [(.int (1 : Int32)), (.ref o0)])) rfl rfl (hb hby d9_19)
  have F3 := F_wu.same W3
  have K4 : Keep h0 h3 [o0] := ((Keep.refl h0 [o0]).wr W3 (Or.inl (List.mem_of_getElem? (i := 0) rfl)))
  have z4 : n0 ≤ h3.size := (Nat.le_trans Z0 (Keep.of_wr W3).1)
  have N3 := Fr.snoc X3 N2 g_o0
  refine Dn.by (U' := T3.setTop (mkF m 22 #[.val (.ref o0), .val (.int (0 : Int32)), .val (.int (1 : Int32))] [])) st3 ?_
  refine Dn.out X3 (v := none) (fun _ => rfl) (BodyLoose.notSynchronized Bd) (fun _ hr => X3.returnOut hx Bd.returns (hb hby d9_22) hr) (by decide) (by decide) ?_
  rw [e3]
  exact ⟨rfl, N3, K4, (E_o0.wr W3), (F_u_words_o0.other W3 (Or.inr (slot_ne (Or.inl (hw _ (List.mem_of_getElem? (i := 56) rfl))) (Or.inl (hw _ (List.mem_of_getElem? (i := 43) rfl))) (by decide) (t := (.array .long)) (t' := .int) (by decide) (by decide))))⟩
abbrev Rm9 : Room := { frames := 3, cells := 1, slots := 16, locals := 47 }
theorem ef_9 (m : MethodId) (o0 : Addr) (p1 : Int32) : entryFrame m #[(.ref o0), (.int p1)] 3 = mkF m 0 #[.val (.ref o0), .val (.int p1), .unset] [] := by first | (simp [entryFrame, mkF, argsToLocals, Value.category]; done) | rfl
def Q9 (Z : State) (o0 : Addr) (p1 : Int32) (u_words_o0 : Addr) (k_t : ClassId) (u_sizeIsSticky_o0 : Value) (h0 : Heap) (n0 : Nat) (v : Option Value) (h : Heap) (L : List Loc) : Prop := ∃ t k z, v = none ∧ Fr n0 L ∧ Keep h0 h [o0] ∧ Exa Z h o0 "java/util/BitSet" ∧ h0.size ≤ t ∧ Fld Z h o0 "java/util/BitSet" "words" "[J" (.ref t) ∧ Arv Z h t k .long z [.long (0 : Int64)] (.long (0 : Int64)) ∧ p1.toInt < z.toInt
set_option maxRecDepth 65536 in
set_option maxHeartbeats 40000000 in
theorem rm9 (l : Launch) (Z : State) (a0 : Array Value) (hw : ∀ d ∈ tables_1, d.before a0 Z = true) (ws : List Jvm.Cond) (o0 : Addr) (p1 : Int32) (u_words_o0 : Addr) (k_t : ClassId) (u_sizeIsSticky_o0 : Value) (h0 : Heap) (n0 : Nat) (Z0 : n0 ≤ h0.size) (g_o0 : n0 ≤ o0) (E_o0 : Exa Z h0 o0 "java/util/BitSet") (F_u_words_o0 : Fld Z h0 o0 "java/util/BitSet" "words" "[J" (.ref u_words_o0)) (V_t : Arv Z h0 u_words_o0 k_t .long (1 : Int32) [.long (0 : Int64)] (.long (0 : Int64))) (hne : u_words_o0 ≠ o0) (F_wu : Fld Z h0 o0 "java/util/BitSet" "wordsInUse" "I" (.int (0 : Int32))) (F_u_sizeIsSticky_o0 : Fld Z h0 o0 "java/util/BitSet" "sizeIsSticky" "Z" u_sizeIsSticky_o0) (hp : 1 ≤ p1.toInt ∧ p1.toInt ≤ 15) :
    MetFree l (⟨"java/util/BitSet", "expandTo", "(I)V"⟩ : MethodName) (head1 (Jvm.Cond.code (⟨"java/util/BitSet", "expandTo", "(I)V"⟩ : MethodName) jdk_92_method_15_code 3 none :: ws) Rm9) (fun a U => a = #[(.ref o0), (.int p1)] ∧ Z.Warmed39 U.vm ∧ U.heap = h0) (fun _ _ _ _ _ => True) (fun _ U o U' => ∃ v L, o = .returned v ∧ Q9 Z o0 p1 u_words_o0 k_t u_sizeIsSticky_o0 h0 n0 v U'.heap L ∧ FrameEnd U o U' L Rm9.cells Rm9.slots) := by
  refine MetFree.of_bodySF (plainFor_of_name pn1) hisR ?_
  intro p e s m args below meth c s₁ Bd hml0 hP hK
  obtain ⟨rfl, hZ, hh⟩ := hP
  have hx := Bd.exec
  have hby := Bd.bytes
  have hml : c.maxLocals = 3 := hml0
  have hown : s.vm.findClass "java/util/BitSet" = some m.cls := findClass_of_methodNamed Bd.named
  have hnm := (name_of_methodNamed Bd.named Bd.method).1
  have X0 : Stand p l e Rm9 s m #[(.ref o0), (.int p1)] below meth c s₁ [] 0 0 := Stand.of_body Bd
  have e0 : s₁.heap = h0 := by rw [← hh, Bd.state]; rfl
  have N0 := Fr.nil n0
  show Dn p e below s Rm9.cells Rm9.slots (Q9 Z o0 p1 u_words_o0 k_t u_sizeIsSticky_o0 h0 n0) (s₁.setTop (entryFrame m #[(.ref o0), (.int p1)] 3))
  rw [ef_9]
  refine Dn.by (U' := s₁.setTop (mkF m 1 #[.val (.ref o0), .val (.int p1), .unset] [(.int p1)])) (fun _ ks => XS.iloadN X0.here hx rfl (hb hby d9_0) rfl ks) ?_
  refine Dn.by (U' := s₁.setTop (mkF m 2 #[.val (.ref o0), .val (.int p1), .unset] [(.int (1 : Int32)), (.int p1)])) (fun _ ks => XS.iconst X0.here hx rfl (hb hby d9_1)  ks) ?_
  refine Dn.by (U' := s₁.setTop (mkF m 3 #[.val (.ref o0), .val (.int p1), .unset] [(.int (p1 + (1 : Int32)))])) (fun _ ks => XS.iadd X0.here hx rfl (hb hby d9_2) rfl ks) ?_
  refine Dn.by (U' := s₁.setTop (mkF m 4 #[.val (.ref o0), .val (.int p1), .val (.int (p1 + (1 : Int32)))] [])) (fun _ ks => XS.istoreN X0.here hx rfl (hb hby d9_3) rfl (l' := #[.val (.ref o0), .val (.int p1), .val (.int (p1 + (1 : Int32)))]) rfl ks) ?_
  refine Dn.by (U' := s₁.setTop (mkF m 5 #[.val (.ref o0), .val (.int p1), .val (.int (p1 + (1 : Int32)))] [(.ref o0)])) (fun _ ks => XS.aloadN X0.here hx rfl (hb hby d9_4) rfl rfl ks) ?_
  obtain ⟨T1, X1, e1, st1⟩ := getF X0 hx hZ hown (host := "") (Or.inl (hw _ (List.mem_of_getElem? (i := 42) rfl))) Via.refl e0 F_wu (g := (mkF m 5 #[.val (.ref o0), .val (.int p1), .val (.int (p1 + (1 : Int32)))] [(.ref o0)])) rfl rfl (hb hby d9_5)
  refine Dn.by (U' := T1.setTop (mkF m 8 #[.val (.ref o0), .val (.int p1), .val (.int (p1 + (1 : Int32)))] [(.int (0 : Int32))])) st1 ?_
  refine Dn.by (U' := T1.setTop (mkF m 9 #[.val (.ref o0), .val (.int p1), .val (.int (p1 + (1 : Int32)))] [(.int (p1 + (1 : Int32))), (.int (0 : Int32))])) (fun _ ks => XS.iloadN X1.here hx rfl (hb hby d9_8) rfl ks) ?_
  refine Dn.by (U' := T1.setTop (mkF m 12 #[.val (.ref o0), .val (.int p1), .val (.int (p1 + (1 : Int32)))] [])) (fun _ ks => XS.icmpNo X1.here hx rfl (hb hby d9_9) rfl (tlt (own_pos hp)).2.1 ks) ?_
  refine Dn.by (U' := T1.setTop (mkF m 13 #[.val (.ref o0), .val (.int p1), .val (.int (p1 + (1 : Int32)))] [(.ref o0)])) (fun _ ks => XS.aloadN X1.here hx rfl (hb hby d9_12) rfl rfl ks) ?_
  refine Dn.by (U' := T1.setTop (mkF m 14 #[.val (.ref o0), .val (.int p1), .val (.int (p1 + (1 : Int32)))] [(.int (p1 + (1 : Int32))), (.ref o0)])) (fun _ ks => XS.iloadN X1.here hx rfl (hb hby d9_13) rfl ks) ?_
  obtain ⟨cq2, qa2, qb2⟩ := E_o0.cell
  obtain ⟨_, _, ⟨T2, L2, k2, n2⟩, -, X2, ⟨Lc2, hQ2, l2, y2, z2⟩, st2⟩ := X1.privateBack hx (y := (⟨"java/util/BitSet", "ensureCapacity", "(I)V"⟩ : MethodName)) hown (mvT hZ (hw _ (List.mem_of_getElem? (i := 81) rfl))) (mvT hZ (hw _ (List.mem_of_getElem? (i := 82) rfl))) (mvT hZ (hw _ (List.mem_of_getElem? (i := 84) rfl))) (Cond.privateMethod_at (mvP hZ (hw _ (List.mem_of_getElem? (i := 83) rfl)) (args := #[]))) (mvT hZ (hw _ (List.mem_of_getElem? (i := 85) rfl))) (by decide) (backOf (W := 0) (rm10 l Z a0 hw [] o0 (p1 + (1 : Int32)) u_words_o0 k_t u_sizeIsSticky_o0 h0 n0 Z0 g_o0 E_o0 F_u_words_o0 V_t hne F_wu F_u_sizeIsSticky_o0 (own_h2 hp)) hZ (hw _ (List.mem_of_getElem? (i := 85) rfl)) (hw _ (List.mem_of_getElem? (i := 37) rfl)) (by decide) (by decide)) (g := (mkF m 14 #[.val (.ref o0), .val (.int p1), .val (.int (p1 + (1 : Int32)))] [(.int (p1 + (1 : Int32))), (.ref o0)])) rfl (by rw [hml]; rfl) (Steps.refl _) (a := o0) (by rw [e1]; exact qa2) qb2 (argsL := [(.int (p1 + (1 : Int32)))]) (rest := []) (lenOf pd1 rfl) rfl (by show 2 * 0 + _ ≤ _; exact Nat.le_of_eq rfl) (hb hby d9_14) (fun _ _ => ⟨rfl, e1, (by decide : 0 + 1 ≤ _), (by decide : 0 + 16 ≤ _)⟩)
  dsimp only [Pt.U, Pt.locs, Pt.cells, Pt.slots] at X2 l2 y2 z2 st2 hQ2
  rw [l2, y2, z2] at X2
  obtain ⟨t2, kt2, z_2, rfl, N2q, KK2, EE2, zt2, FW2, VW2, hz2, FU2⟩ := hQ2
  have N2 := Fr.app N0 N2q
  have g_t2 : n0 ≤ t2 := Nat.le_trans Z0 zt2
  have sz_t2 : h0.size ≤ t2 := Nat.le_trans (Keep.refl h0 [o0]).1 zt2
  have ne_o0_t2 : o0 ≠ t2 := Nat.ne_of_lt (Nat.lt_of_lt_of_le E_o0.lt zt2)
  have ne_u_words_o0_t2 : u_words_o0 ≠ t2 := Nat.ne_of_lt (Nat.lt_of_lt_of_le V_t.lt zt2)
  have K3 : Keep h0 T2.heap [o0] := ((Keep.refl h0 [o0]).trans KK2 (allS (Or.inl (List.mem_of_getElem? (i := 0) rfl)) all0))
  have z3 : n0 ≤ T2.heap.size := (Nat.le_trans Z0 KK2.1)
  refine Dn.by (U' := T2.setTop (mkF m 17 #[.val (.ref o0), .val (.int p1), .val (.int (p1 + (1 : Int32)))] [])) (fun _ ks => st2.trans ks) ?_
  refine Dn.by (U' := T2.setTop (mkF m 18 #[.val (.ref o0), .val (.int p1), .val (.int (p1 + (1 : Int32)))] [(.ref o0)])) (fun _ ks => XS.aloadN X2.here hx rfl (hb hby d9_17) rfl rfl ks) ?_
  refine Dn.by (U' := T2.setTop (mkF m 19 #[.val (.ref o0), .val (.int p1), .val (.int (p1 + (1 : Int32)))] [(.int (p1 + (1 : Int32))), (.ref o0)])) (fun _ ks => XS.iloadN X2.here hx rfl (hb hby d9_18) rfl ks) ?_
  obtain ⟨T4, h4, X4, e4, W4, st4⟩ := putF X2 hx hZ hown (host := "") (Or.inl (hw _ (List.mem_of_getElem? (i := 42) rfl))) Via.refl rfl FU2 EE2 (Or.inl (hw _ (List.mem_of_getElem? (i := 43) rfl))) (hw _ (List.mem_of_getElem? (i := 36) rfl)) (ty := .int) (by decide) rfl rfl (g := (mkF m 19 #[.val (.ref o0), .val (.int p1), .val (.int (p1 + (1 : Int32)))] [(.int (p1 + (1 : Int32))), (.ref o0)])) rfl rfl (hb hby d9_19)
  have F4 := FU2.same W4
  have K5 : Keep h0 h4 [o0] := (K3.wr W4 (Or.inl (List.mem_of_getElem? (i := 0) rfl)))
  have z5 : n0 ≤ h4.size := (Nat.le_trans z3 (Keep.of_wr W4).1)
  have N4 := Fr.snoc X4 N2 g_o0
  refine Dn.by (U' := T4.setTop (mkF m 22 #[.val (.ref o0), .val (.int p1), .val (.int (p1 + (1 : Int32)))] [])) st4 ?_
  refine Dn.out X4 (v := none) (fun _ => rfl) (BodyLoose.notSynchronized Bd) (fun _ hr => X4.returnOut hx Bd.returns (hb hby d9_22) hr) (by decide) (by decide) ?_
  rw [e4]
  exact ⟨t2, kt2, z_2, rfl, N4, K5, (EE2.wr W4), sz_t2, (FW2.other W4 (Or.inr (slot_ne (Or.inl (hw _ (List.mem_of_getElem? (i := 56) rfl))) (Or.inl (hw _ (List.mem_of_getElem? (i := 43) rfl))) (by decide) (t := (.array .long)) (t' := .int) (by decide) (by decide)))), (VW2.other W4 (Ne.symm ne_o0_t2)), own_h3 hp hz2⟩
theorem own_n0 {x : Int32} (h : 0 ≤ x.toInt ∧ x.toInt ≤ 1023) : ¬ x < (0 : Int32) := fun q => by
  have l : (0 : Int32).toInt = 0 := by decide
  have := Int32.lt_iff_toInt_lt.mp q; omega
abbrev Rm8 : Room := { frames := 4, cells := 1, slots := 16, locals := 61 }
theorem ef_8 (m : MethodId) (o0 : Addr) (p1 : Int32) : entryFrame m #[(.ref o0), (.int p1)] 3 = mkF m 0 #[.val (.ref o0), .val (.int p1), .unset] [] := by first | (simp [entryFrame, mkF, argsToLocals, Value.category]; done) | rfl
def Q8 (Z : State) (o0 : Addr) (p1 : Int32) (u_words_o0 : Addr) (k_t : ClassId) (u_sizeIsSticky_o0 : Value) (h0 : Heap) (n0 : Nat) (v : Option Value) (h : Heap) (L : List Loc) : Prop := v = none ∧ Fr n0 L ∧ Keep h0 h [o0, u_words_o0]
set_option maxRecDepth 65536 in
set_option maxHeartbeats 40000000 in
theorem rm8 (l : Launch) (Z : State) (a0 : Array Value) (hw : ∀ d ∈ tables_1, d.before a0 Z = true) (ws : List Jvm.Cond) (o0 : Addr) (p1 : Int32) (u_words_o0 : Addr) (k_t : ClassId) (u_sizeIsSticky_o0 : Value) (h0 : Heap) (n0 : Nat) (Z0 : n0 ≤ h0.size) (g_o0 : n0 ≤ o0) (E_o0 : Exa Z h0 o0 "java/util/BitSet") (F_u_words_o0 : Fld Z h0 o0 "java/util/BitSet" "words" "[J" (.ref u_words_o0)) (V_t : Arv Z h0 u_words_o0 k_t .long (1 : Int32) [.long (0 : Int64)] (.long (0 : Int64))) (hne : u_words_o0 ≠ o0) (g_u_words_o0 : n0 ≤ u_words_o0) (F_wu : Fld Z h0 o0 "java/util/BitSet" "wordsInUse" "I" (.int (0 : Int32))) (F_u_sizeIsSticky_o0 : Fld Z h0 o0 "java/util/BitSet" "sizeIsSticky" "Z" u_sizeIsSticky_o0) (hp : 0 ≤ p1.toInt ∧ p1.toInt ≤ 1023) (O0 : Old Z n0 h0) (S_ad : Sta Z Z.heap "java/util/BitSet" "$assertionsDisabled" "Z" (.int (1 : Int32))) :
    MetFree l (⟨"java/util/BitSet", "set", "(I)V"⟩ : MethodName) (head1 (Jvm.Cond.code (⟨"java/util/BitSet", "set", "(I)V"⟩ : MethodName) jdk_92_method_19_code 3 none :: ws) Rm8) (fun a U => a = #[(.ref o0), (.int p1)] ∧ Z.Warmed39 U.vm ∧ U.heap = h0) (fun _ _ _ _ _ => True) (fun _ U o U' => ∃ v L, o = .returned v ∧ Q8 Z o0 p1 u_words_o0 k_t u_sizeIsSticky_o0 h0 n0 v U'.heap L ∧ FrameEnd U o U' L Rm8.cells Rm8.slots) := by
  refine MetFree.of_bodySF (plainFor_of_name pn1) hisR ?_
  intro p e s m args below meth c s₁ Bd hml0 hP hK
  obtain ⟨rfl, hZ, hh⟩ := hP
  have hx := Bd.exec
  have hby := Bd.bytes
  have hml : c.maxLocals = 3 := hml0
  have hown : s.vm.findClass "java/util/BitSet" = some m.cls := findClass_of_methodNamed Bd.named
  have hnm := (name_of_methodNamed Bd.named Bd.method).1
  have X0 : Stand p l e Rm8 s m #[(.ref o0), (.int p1)] below meth c s₁ [] 0 0 := Stand.of_body Bd
  have e0 : s₁.heap = h0 := by rw [← hh, Bd.state]; rfl
  have N0 := Fr.nil n0
  show Dn p e below s Rm8.cells Rm8.slots (Q8 Z o0 p1 u_words_o0 k_t u_sizeIsSticky_o0 h0 n0) (s₁.setTop (entryFrame m #[(.ref o0), (.int p1)] 3))
  rw [ef_8]
  refine Dn.by (U' := s₁.setTop (mkF m 1 #[.val (.ref o0), .val (.int p1), .unset] [(.int p1)])) (fun _ ks => XS.iloadN X0.here hx rfl (hb hby d8_0) rfl ks) ?_
  refine Dn.by (U' := s₁.setTop (mkF m 31 #[.val (.ref o0), .val (.int p1), .unset] [])) (fun _ ks => XS.ifYes X0.here hx rfl (pc0 := 1) (pc' := 31) rfl (hb hby d8_1) rfl ((if0 _ _).trans (flt (own_n0 hp)).2.1) (by decide) (by decide) ks) ?_
  refine Dn.by (U' := s₁.setTop (mkF m 32 #[.val (.ref o0), .val (.int p1), .unset] [(.int p1)])) (fun _ ks => XS.iloadN X0.here hx rfl (hb hby d8_31) rfl ks) ?_
  obtain ⟨_, _, ⟨T1, L1, k1, n1⟩, -, X1, ⟨Lc1, hQ1, l1, y1, z1⟩, st1⟩ := Jvm.LawKit.callS X0 hx (y := (⟨"java/util/BitSet", "wordIndex", "(I)I"⟩ : MethodName)) hown (mvT hZ (hw _ (List.mem_of_getElem? (i := 51) rfl))) (mvT hZ (hw _ (List.mem_of_getElem? (i := 52) rfl))) (mvT hZ (hw _ (List.mem_of_getElem? (i := 37) rfl))) (mvT hZ (hw _ (List.mem_of_getElem? (i := 53) rfl))) (by decide) (backOf (W := 0) (rm6 l Z a0 hw [] p1  h0 n0 Z0 ) hZ (hw _ (List.mem_of_getElem? (i := 53) rfl)) (hw _ (List.mem_of_getElem? (i := 37) rfl)) (by decide) (by decide)) (g := (mkF m 32 #[.val (.ref o0), .val (.int p1), .unset] [(.int p1)])) rfl (by rw [hml]; rfl) (argsL := [(.int p1)]) (rest := []) (lenOf pd0 rfl) rfl (by show 2 * 0 + _ ≤ _; exact Nat.le_of_eq rfl) (hb hby d8_32) (fun _ _ => ⟨rfl, e0, (by decide : 0 + 0 ≤ _), (by decide : 0 + 0 ≤ _)⟩)
  dsimp only [Pt.U, Pt.locs, Pt.cells, Pt.slots] at X1 l1 y1 z1 st1 hQ1
  rw [l1, y1, z1] at X1
  obtain ⟨rfl, N1q, e1⟩ := hQ1
  have N1 := Fr.app N0 N1q
  refine Dn.by (U' := T1.setTop (mkF m 35 #[.val (.ref o0), .val (.int p1), .unset] [(.int (p1 >>> ((6 : Int32) &&& 31)))])) st1 ?_
  have hw0 := own_wi hp
  by_cases hz : (p1 >>> ((6 : Int32) &&& 31)) = (0 : Int32)
  ·
    rw [show (p1 >>> ((6 : Int32) &&& 31)) = (0 : Int32) from hz]
    refine Dn.by (U' := T1.setTop (mkF m 36 #[.val (.ref o0), .val (.int p1), .val (.int (0 : Int32))] [])) (fun _ ks => XS.istoreN X1.here hx rfl (hb hby d8_35) rfl (l' := #[.val (.ref o0), .val (.int p1), .val (.int (0 : Int32))]) rfl ks) ?_
    refine Dn.by (U' := T1.setTop (mkF m 37 #[.val (.ref o0), .val (.int p1), .val (.int (0 : Int32))] [(.ref o0)])) (fun _ ks => XS.aloadN X1.here hx rfl (hb hby d8_36) rfl rfl ks) ?_
    refine Dn.by (U' := T1.setTop (mkF m 38 #[.val (.ref o0), .val (.int p1), .val (.int (0 : Int32))] [(.int (0 : Int32)), (.ref o0)])) (fun _ ks => XS.iloadN X1.here hx rfl (hb hby d8_37) rfl ks) ?_
    obtain ⟨cq2, qa2, qb2⟩ := E_o0.cell
    obtain ⟨_, _, ⟨T2, L2, k2, n2⟩, -, X2, ⟨Lc2, hQ2, l2, y2, z2⟩, st2⟩ := X1.privateBack hx (y := (⟨"java/util/BitSet", "expandTo", "(I)V"⟩ : MethodName)) hown (mvT hZ (hw _ (List.mem_of_getElem? (i := 76) rfl))) (mvT hZ (hw _ (List.mem_of_getElem? (i := 77) rfl))) (mvT hZ (hw _ (List.mem_of_getElem? (i := 79) rfl))) (Cond.privateMethod_at (mvP hZ (hw _ (List.mem_of_getElem? (i := 78) rfl)) (args := #[]))) (mvT hZ (hw _ (List.mem_of_getElem? (i := 80) rfl))) (by decide) (backOf (W := 0) (rm9a l Z a0 hw [] o0 u_words_o0 k_t h0 n0 Z0 g_o0 E_o0 F_u_words_o0 V_t hne F_wu) hZ (hw _ (List.mem_of_getElem? (i := 80) rfl)) (hw _ (List.mem_of_getElem? (i := 37) rfl)) (by decide) (by decide)) (g := (mkF m 38 #[.val (.ref o0), .val (.int p1), .val (.int (0 : Int32))] [(.int (0 : Int32)), (.ref o0)])) rfl (by rw [hml]; rfl) (Steps.refl _) (a := o0) (by rw [e1]; exact qa2) qb2 (argsL := [(.int (0 : Int32))]) (rest := []) (lenOf pd1 rfl) rfl (by show 2 * 0 + _ ≤ _; exact Nat.le_of_eq rfl) (hb hby d8_38) (fun _ _ => ⟨rfl, e1, (by decide : 0 + 0 ≤ _), (by decide : 0 + 0 ≤ _)⟩)
    dsimp only [Pt.U, Pt.locs, Pt.cells, Pt.slots] at X2 l2 y2 z2 st2 hQ2
    rw [l2, y2, z2] at X2
    obtain ⟨rfl, N2q, KK2, EE2, FW2⟩ := hQ2
    have N2 := Fr.app N1 N2q
    have K3 : Keep h0 T2.heap [o0, u_words_o0] := ((Keep.refl h0 [o0, u_words_o0]).trans KK2 (allS (Or.inl (List.mem_of_getElem? (i := 0) rfl)) all0))
    have z3 : n0 ≤ T2.heap.size := (Nat.le_trans Z0 KK2.1)
    have O3 : Old Z n0 T2.heap := O0.keep KK2 (allS g_o0 all0)
    refine Dn.by (U' := T2.setTop (mkF m 41 #[.val (.ref o0), .val (.int p1), .val (.int (0 : Int32))] [])) (fun _ ks => st2.trans ks) ?_
    refine Dn.by (U' := T2.setTop (mkF m 42 #[.val (.ref o0), .val (.int p1), .val (.int (0 : Int32))] [(.ref o0)])) (fun _ ks => XS.aloadN X2.here hx rfl (hb hby d8_41) rfl rfl ks) ?_
    obtain ⟨T4, X4, e4, st4⟩ := getF X2 hx hZ hown (host := "") (Or.inl (hw _ (List.mem_of_getElem? (i := 55) rfl))) Via.refl rfl FW2 (g := (mkF m 42 #[.val (.ref o0), .val (.int p1), .val (.int (0 : Int32))] [(.ref o0)])) rfl rfl (hb hby d8_42)
    refine Dn.by (U' := T4.setTop (mkF m 45 #[.val (.ref o0), .val (.int p1), .val (.int (0 : Int32))] [(.ref u_words_o0)])) st4 ?_
    refine Dn.by (U' := T4.setTop (mkF m 46 #[.val (.ref o0), .val (.int p1), .val (.int (0 : Int32))] [(.int (0 : Int32)), (.ref u_words_o0)])) (fun _ ks => XS.iloadN X4.here hx rfl (hb hby d8_45) rfl ks) ?_
    refine Dn.by (U' := T4.setTop (mkF m 47 #[.val (.ref o0), .val (.int p1), .val (.int (0 : Int32))] [(.int (0 : Int32)), (.ref u_words_o0), (.int (0 : Int32)), (.ref u_words_o0)])) (fun _ ks => XT.dup2 X4.here hx rfl (hb hby d8_46) rfl rfl rfl ks) ?_
    obtain ⟨cl5, Ar5, q5, S5, M5, H5, G5⟩ := id (V_t.keep KK2 (ninS hne nin0))
    have in5 := inb_of (j := (0 : Int32)) S5 ⟨by decide, by decide⟩
    have at5 : cl5.slots[(0 : Int32).toNatClampNeg]? = some (.long (0 : Int64)) := H5.at in5 rfl
    refine Dn.by (U' := T4.setTop (mkF m 48 #[.val (.ref o0), .val (.int p1), .val (.int (0 : Int32))] [(.long (0 : Int64)), (.int (0 : Int32)), (.ref u_words_o0)])) (X4.laload hx (j := (0 : Int32)) (v := (.long (0 : Int64))) (by rw [e4]; exact Ar5.1) (State.isArrayOf_alike hZ.alike Ar5.2.1) Ar5.2.2 in5 at5 (g := (mkF m 47 #[.val (.ref o0), .val (.int p1), .val (.int (0 : Int32))] [(.int (0 : Int32)), (.ref u_words_o0), (.int (0 : Int32)), (.ref u_words_o0)])) rfl rfl (hb hby d8_47)) ?_
    refine Dn.by (U' := T4.setTop (mkF m 49 #[.val (.ref o0), .val (.int p1), .val (.int (0 : Int32))] [(.long (1 : Int64)), (.long (0 : Int64)), (.int (0 : Int32)), (.ref u_words_o0)])) (fun _ ks => XS.lconst X4.here hx rfl (hb hby d8_48)  ks) ?_
    refine Dn.by (U' := T4.setTop (mkF m 50 #[.val (.ref o0), .val (.int p1), .val (.int (0 : Int32))] [(.int p1), (.long (1 : Int64)), (.long (0 : Int64)), (.int (0 : Int32)), (.ref u_words_o0)])) (fun _ ks => XS.iloadN X4.here hx rfl (hb hby d8_49) rfl ks) ?_
    refine Dn.by (U' := T4.setTop (mkF m 51 #[.val (.ref o0), .val (.int p1), .val (.int (0 : Int32))] [(.long ((1 : Int64) <<< (p1 &&& 0x3f).toInt64)), (.long (0 : Int64)), (.int (0 : Int32)), (.ref u_words_o0)])) (fun _ ks => XS.lshl X4.here hx rfl (hb hby d8_50) rfl ks) ?_
    refine Dn.by (U' := T4.setTop (mkF m 52 #[.val (.ref o0), .val (.int p1), .val (.int (0 : Int32))] [(.long ((0 : Int64) ||| ((1 : Int64) <<< (p1 &&& 0x3f).toInt64))), (.int (0 : Int32)), (.ref u_words_o0)])) (fun _ ks => XS.lor X4.here hx rfl (hb hby d8_51) rfl ks) ?_
    obtain ⟨cl6, Ar6, q6, S6, M6, H6, G6⟩ := id (V_t.keep KK2 (ninS hne nin0))
    obtain ⟨T6, h6, X6, e6, W6, st6⟩ := stJ X4 hx hZ e4 Ar6 (j := (0 : Int32)) (inb_of S6 ⟨by decide, by decide⟩) (g := (mkF m 52 #[.val (.ref o0), .val (.int p1), .val (.int (0 : Int32))] [(.long ((0 : Int64) ||| ((1 : Int64) <<< (p1 &&& 0x3f).toInt64))), (.int (0 : Int32)), (.ref u_words_o0)])) rfl rfl (hb hby d8_52)
    have K7 : Keep h0 h6 [o0, u_words_o0] := (K3.wr W6 (Or.inl (List.mem_of_getElem? (i := 1) rfl)))
    have z7 : n0 ≤ h6.size := (Nat.le_trans z3 (Keep.of_wr W6).1)
    have O7 : Old Z n0 h6 := O3.wr W6 g_u_words_o0
    have N6 := Fr.snoc X6 N2 g_u_words_o0
    refine Dn.by (U' := T6.setTop (mkF m 53 #[.val (.ref o0), .val (.int p1), .val (.int (0 : Int32))] [])) st6 ?_
    refine Dn.by (U' := T6.setTop (mkF m 54 #[.val (.ref o0), .val (.int p1), .val (.int (0 : Int32))] [(.ref o0)])) (fun _ ks => XS.aloadN X6.here hx rfl (hb hby d8_53) rfl rfl ks) ?_
    obtain ⟨cq8, qa8, qb8⟩ := (EE2.wr W6).cell
    obtain ⟨_, _, ⟨T8, L8, k8, n8⟩, -, X8, ⟨Lc8, hQ8, l8, y8, z8⟩, st8⟩ := X6.privateBack hx (y := (⟨"java/util/BitSet", "checkInvariants", "()V"⟩ : MethodName)) hown (mvT hZ (hw _ (List.mem_of_getElem? (i := 86) rfl))) (mvT hZ (hw _ (List.mem_of_getElem? (i := 87) rfl))) (mvT hZ (hw _ (List.mem_of_getElem? (i := 89) rfl))) (Cond.privateMethod_at (mvP hZ (hw _ (List.mem_of_getElem? (i := 88) rfl)) (args := #[]))) (mvT hZ (hw _ (List.mem_of_getElem? (i := 90) rfl))) (by decide) (backOf (W := 0) (rm11 l Z a0 hw [] o0  h6 n0 z7 (S_ad.ext O7.2)) hZ (hw _ (List.mem_of_getElem? (i := 90) rfl)) (hw _ (List.mem_of_getElem? (i := 37) rfl)) (by decide) (by decide)) (g := (mkF m 54 #[.val (.ref o0), .val (.int p1), .val (.int (0 : Int32))] [(.ref o0)])) rfl (by rw [hml]; rfl) (Steps.refl _) (a := o0) (by rw [e6]; exact qa8) qb8 (argsL := []) (rest := []) (lenOf pd2 rfl) rfl (by show 2 * 0 + _ ≤ _; exact Nat.le_of_eq rfl) (hb hby d8_54) (fun _ _ => ⟨rfl, e6, (by decide : 0 + 0 ≤ _), (by decide : 0 + 0 ≤ _)⟩)
    dsimp only [Pt.U, Pt.locs, Pt.cells, Pt.slots] at X8 l8 y8 z8 st8 hQ8
    rw [l8, y8, z8] at X8
    obtain ⟨rfl, N8q, e8⟩ := hQ8
    have N8 := Fr.app N6 N8q
    refine Dn.by (U' := T8.setTop (mkF m 57 #[.val (.ref o0), .val (.int p1), .val (.int (0 : Int32))] [])) (fun _ ks => st8.trans ks) ?_
    refine Dn.out X8 (v := none) (fun _ => rfl) (BodyLoose.notSynchronized Bd) (fun _ hr => X8.returnOut hx Bd.returns (hb hby d8_57) hr) (by decide) (by decide) ?_
    rw [e8]
    exact ⟨rfl, N8, K7⟩
  ·
    have hw1 := own_nz hw0 hz
    generalize (p1 >>> ((6 : Int32) &&& 31)) = wi at hw1 ⊢
    refine Dn.by (U' := T1.setTop (mkF m 36 #[.val (.ref o0), .val (.int p1), .val (.int wi)] [])) (fun _ ks => XS.istoreN X1.here hx rfl (hb hby d8_35) rfl (l' := #[.val (.ref o0), .val (.int p1), .val (.int wi)]) rfl ks) ?_
    refine Dn.by (U' := T1.setTop (mkF m 37 #[.val (.ref o0), .val (.int p1), .val (.int wi)] [(.ref o0)])) (fun _ ks => XS.aloadN X1.here hx rfl (hb hby d8_36) rfl rfl ks) ?_
    refine Dn.by (U' := T1.setTop (mkF m 38 #[.val (.ref o0), .val (.int p1), .val (.int wi)] [(.int wi), (.ref o0)])) (fun _ ks => XS.iloadN X1.here hx rfl (hb hby d8_37) rfl ks) ?_
    obtain ⟨cq9, qa9, qb9⟩ := E_o0.cell
    obtain ⟨_, _, ⟨T9, L9, k9, n9⟩, -, X9, ⟨Lc9, hQ9, l9, y9, z9⟩, st9⟩ := X1.privateBack hx (y := (⟨"java/util/BitSet", "expandTo", "(I)V"⟩ : MethodName)) hown (mvT hZ (hw _ (List.mem_of_getElem? (i := 76) rfl))) (mvT hZ (hw _ (List.mem_of_getElem? (i := 77) rfl))) (mvT hZ (hw _ (List.mem_of_getElem? (i := 79) rfl))) (Cond.privateMethod_at (mvP hZ (hw _ (List.mem_of_getElem? (i := 78) rfl)) (args := #[]))) (mvT hZ (hw _ (List.mem_of_getElem? (i := 80) rfl))) (by decide) (backOf (W := 0) (rm9 l Z a0 hw [] o0 wi u_words_o0 k_t u_sizeIsSticky_o0 h0 n0 Z0 g_o0 E_o0 F_u_words_o0 V_t hne F_wu F_u_sizeIsSticky_o0 hw1) hZ (hw _ (List.mem_of_getElem? (i := 80) rfl)) (hw _ (List.mem_of_getElem? (i := 37) rfl)) (by decide) (by decide)) (g := (mkF m 38 #[.val (.ref o0), .val (.int p1), .val (.int wi)] [(.int wi), (.ref o0)])) rfl (by rw [hml]; rfl) (Steps.refl _) (a := o0) (by rw [e1]; exact qa9) qb9 (argsL := [(.int wi)]) (rest := []) (lenOf pd1 rfl) rfl (by show 2 * 0 + _ ≤ _; exact Nat.le_of_eq rfl) (hb hby d8_38) (fun _ _ => ⟨rfl, e1, (by decide : 0 + 1 ≤ _), (by decide : 0 + 16 ≤ _)⟩)
    dsimp only [Pt.U, Pt.locs, Pt.cells, Pt.slots] at X9 l9 y9 z9 st9 hQ9
    rw [l9, y9, z9] at X9
    obtain ⟨t9, kt9, z_9, rfl, N9q, KK9, EE9, zt9, FW9, VW9, hz9⟩ := hQ9
    have N9 := Fr.app N1 N9q
    have g_t9 : n0 ≤ t9 := Nat.le_trans Z0 zt9
    have sz_t9 : h0.size ≤ t9 := Nat.le_trans (Keep.refl h0 [o0, u_words_o0]).1 zt9
    have ne_o0_t9 : o0 ≠ t9 := Nat.ne_of_lt (Nat.lt_of_lt_of_le E_o0.lt zt9)
    have ne_u_words_o0_t9 : u_words_o0 ≠ t9 := Nat.ne_of_lt (Nat.lt_of_lt_of_le V_t.lt zt9)
    have K10 : Keep h0 T9.heap [o0, u_words_o0] := ((Keep.refl h0 [o0, u_words_o0]).trans KK9 (allS (Or.inl (List.mem_of_getElem? (i := 0) rfl)) all0))
    have z10 : n0 ≤ T9.heap.size := (Nat.le_trans Z0 KK9.1)
    have O10 : Old Z n0 T9.heap := O0.keep KK9 (allS g_o0 all0)
    refine Dn.by (U' := T9.setTop (mkF m 41 #[.val (.ref o0), .val (.int p1), .val (.int wi)] [])) (fun _ ks => st9.trans ks) ?_
    refine Dn.by (U' := T9.setTop (mkF m 42 #[.val (.ref o0), .val (.int p1), .val (.int wi)] [(.ref o0)])) (fun _ ks => XS.aloadN X9.here hx rfl (hb hby d8_41) rfl rfl ks) ?_
    obtain ⟨T11, X11, e11, st11⟩ := getF X9 hx hZ hown (host := "") (Or.inl (hw _ (List.mem_of_getElem? (i := 55) rfl))) Via.refl rfl FW9 (g := (mkF m 42 #[.val (.ref o0), .val (.int p1), .val (.int wi)] [(.ref o0)])) rfl rfl (hb hby d8_42)
    refine Dn.by (U' := T11.setTop (mkF m 45 #[.val (.ref o0), .val (.int p1), .val (.int wi)] [(.ref t9)])) st11 ?_
    refine Dn.by (U' := T11.setTop (mkF m 46 #[.val (.ref o0), .val (.int p1), .val (.int wi)] [(.int wi), (.ref t9)])) (fun _ ks => XS.iloadN X11.here hx rfl (hb hby d8_45) rfl ks) ?_
    refine Dn.by (U' := T11.setTop (mkF m 47 #[.val (.ref o0), .val (.int p1), .val (.int wi)] [(.int wi), (.ref t9), (.int wi), (.ref t9)])) (fun _ ks => XT.dup2 X11.here hx rfl (hb hby d8_46) rfl rfl rfl ks) ?_
    obtain ⟨cl12, Ar12, q12, S12, M12, H12, G12⟩ := id VW9
    have in12 := inb_of (j := wi) S12 (own_in hw1 hz9)
    have at12 : cl12.slots[wi.toNatClampNeg]? = some (.long (0 : Int64)) := H12.at in12 (own_gd _)
    refine Dn.by (U' := T11.setTop (mkF m 48 #[.val (.ref o0), .val (.int p1), .val (.int wi)] [(.long (0 : Int64)), (.int wi), (.ref t9)])) (X11.laload hx (j := wi) (v := (.long (0 : Int64))) (by rw [e11]; exact Ar12.1) (State.isArrayOf_alike hZ.alike Ar12.2.1) Ar12.2.2 in12 at12 (g := (mkF m 47 #[.val (.ref o0), .val (.int p1), .val (.int wi)] [(.int wi), (.ref t9), (.int wi), (.ref t9)])) rfl rfl (hb hby d8_47)) ?_
    refine Dn.by (U' := T11.setTop (mkF m 49 #[.val (.ref o0), .val (.int p1), .val (.int wi)] [(.long (1 : Int64)), (.long (0 : Int64)), (.int wi), (.ref t9)])) (fun _ ks => XS.lconst X11.here hx rfl (hb hby d8_48)  ks) ?_
    refine Dn.by (U' := T11.setTop (mkF m 50 #[.val (.ref o0), .val (.int p1), .val (.int wi)] [(.int p1), (.long (1 : Int64)), (.long (0 : Int64)), (.int wi), (.ref t9)])) (fun _ ks => XS.iloadN X11.here hx rfl (hb hby d8_49) rfl ks) ?_
    refine Dn.by (U' := T11.setTop (mkF m 51 #[.val (.ref o0), .val (.int p1), .val (.int wi)] [(.long ((1 : Int64) <<< (p1 &&& 0x3f).toInt64)), (.long (0 : Int64)), (.int wi), (.ref t9)])) (fun _ ks => XS.lshl X11.here hx rfl (hb hby d8_50) rfl ks) ?_
    refine Dn.by (U' := T11.setTop (mkF m 52 #[.val (.ref o0), .val (.int p1), .val (.int wi)] [(.long ((0 : Int64) ||| ((1 : Int64) <<< (p1 &&& 0x3f).toInt64))), (.int wi), (.ref t9)])) (fun _ ks => XS.lor X11.here hx rfl (hb hby d8_51) rfl ks) ?_
    obtain ⟨cl13, Ar13, q13, S13, M13, H13, G13⟩ := id VW9
    obtain ⟨T13, h13, X13, e13, W13, st13⟩ := stJ X11 hx hZ e11 Ar13 (j := wi) (inb_of S13 (own_in hw1 hz9)) (g := (mkF m 52 #[.val (.ref o0), .val (.int p1), .val (.int wi)] [(.long ((0 : Int64) ||| ((1 : Int64) <<< (p1 &&& 0x3f).toInt64))), (.int wi), (.ref t9)])) rfl rfl (hb hby d8_52)
    have K14 : Keep h0 h13 [o0, u_words_o0] := (K10.wr W13 (Or.inr sz_t9))
    have z14 : n0 ≤ h13.size := (Nat.le_trans z10 (Keep.of_wr W13).1)
    have O14 : Old Z n0 h13 := O10.wr W13 g_t9
    have N13 := Fr.snoc X13 N9 g_t9
    refine Dn.by (U' := T13.setTop (mkF m 53 #[.val (.ref o0), .val (.int p1), .val (.int wi)] [])) st13 ?_
    refine Dn.by (U' := T13.setTop (mkF m 54 #[.val (.ref o0), .val (.int p1), .val (.int wi)] [(.ref o0)])) (fun _ ks => XS.aloadN X13.here hx rfl (hb hby d8_53) rfl rfl ks) ?_
    obtain ⟨cq15, qa15, qb15⟩ := (EE9.wr W13).cell
    obtain ⟨_, _, ⟨T15, L15, k15, n15⟩, -, X15, ⟨Lc15, hQ15, l15, y15, z15⟩, st15⟩ := X13.privateBack hx (y := (⟨"java/util/BitSet", "checkInvariants", "()V"⟩ : MethodName)) hown (mvT hZ (hw _ (List.mem_of_getElem? (i := 86) rfl))) (mvT hZ (hw _ (List.mem_of_getElem? (i := 87) rfl))) (mvT hZ (hw _ (List.mem_of_getElem? (i := 89) rfl))) (Cond.privateMethod_at (mvP hZ (hw _ (List.mem_of_getElem? (i := 88) rfl)) (args := #[]))) (mvT hZ (hw _ (List.mem_of_getElem? (i := 90) rfl))) (by decide) (backOf (W := 0) (rm11 l Z a0 hw [] o0  h13 n0 z14 (S_ad.ext O14.2)) hZ (hw _ (List.mem_of_getElem? (i := 90) rfl)) (hw _ (List.mem_of_getElem? (i := 37) rfl)) (by decide) (by decide)) (g := (mkF m 54 #[.val (.ref o0), .val (.int p1), .val (.int wi)] [(.ref o0)])) rfl (by rw [hml]; rfl) (Steps.refl _) (a := o0) (by rw [e13]; exact qa15) qb15 (argsL := []) (rest := []) (lenOf pd2 rfl) rfl (by show 2 * 0 + _ ≤ _; exact Nat.le_of_eq rfl) (hb hby d8_54) (fun _ _ => ⟨rfl, e13, (by decide : 1 + 0 ≤ _), (by decide : 16 + 0 ≤ _)⟩)
    dsimp only [Pt.U, Pt.locs, Pt.cells, Pt.slots] at X15 l15 y15 z15 st15 hQ15
    rw [l15, y15, z15] at X15
    obtain ⟨rfl, N15q, e15⟩ := hQ15
    have N15 := Fr.app N13 N15q
    refine Dn.by (U' := T15.setTop (mkF m 57 #[.val (.ref o0), .val (.int p1), .val (.int wi)] [])) (fun _ ks => st15.trans ks) ?_
    refine Dn.out X15 (v := none) (fun _ => rfl) (BodyLoose.notSynchronized Bd) (fun _ hr => X15.returnOut hx Bd.returns (hb hby d8_57) hr) (by decide) (by decide) ?_
    rw [e15]
    exact ⟨rfl, N15, K14⟩
abbrev Rm7 : Room := { frames := 5, cells := 1, slots := 16, locals := 75 }
theorem ef_7 (m : MethodId) (o0 : Addr) (p1 : Int32) : entryFrame m #[(.ref o0), (.int p1)] 2 = mkF m 0 #[.val (.ref o0), .val (.int p1)] [] := by first | (simp [entryFrame, mkF, argsToLocals, Value.category]; done) | rfl
def Q7 (Z : State) (o0 : Addr) (p1 : Int32) (u_holders_o0 : Addr) (tw : Addr) (kw : ClassId) (sv : Value) (h0 : Heap) (n0 : Nat) (v : Option Value) (h : Heap) (L : List Loc) : Prop := v = none ∧ Fr n0 L ∧ Keep h0 h [u_holders_o0, tw]
set_option maxRecDepth 65536 in
set_option maxHeartbeats 40000000 in
theorem rm7 (l : Launch) (Z : State) (a0 : Array Value) (hw : ∀ d ∈ tables_1, d.before a0 Z = true) (ws : List Jvm.Cond) (o0 : Addr) (p1 : Int32) (u_holders_o0 : Addr) (tw : Addr) (kw : ClassId) (sv : Value) (h0 : Heap) (n0 : Nat) (Z0 : n0 ≤ h0.size) (F_u_holders_o0 : Fld Z h0 o0 "com/example/nadir/nadir/HeldKey" "holders" "Ljava/util/BitSet;" (.ref u_holders_o0)) (g_u_holders_o0 : n0 ≤ u_holders_o0) (g_tw : n0 ≤ tw) (hne : tw ≠ u_holders_o0) (E_b : Exa Z h0 u_holders_o0 "java/util/BitSet") (F_words : Fld Z h0 u_holders_o0 "java/util/BitSet" "words" "[J" (.ref tw)) (F_wordsInUse : Fld Z h0 u_holders_o0 "java/util/BitSet" "wordsInUse" "I" (.int (0 : Int32))) (F_sizeIsSticky : Fld Z h0 u_holders_o0 "java/util/BitSet" "sizeIsSticky" "Z" sv) (V_t : Arv Z h0 tw kw .long (1 : Int32) [.long (0 : Int64)] (.long (0 : Int64))) (hp : 0 ≤ p1.toInt ∧ p1.toInt ≤ 1023) (O0 : Old Z n0 h0) (S_ad : Sta Z Z.heap "java/util/BitSet" "$assertionsDisabled" "Z" (.int (1 : Int32))) :
    MetFree l (⟨"com/example/nadir/nadir/HeldKey", "heldBy", "(I)V"⟩ : MethodName) (head1 (Jvm.Cond.code (⟨"com/example/nadir/nadir/HeldKey", "heldBy", "(I)V"⟩ : MethodName) prog_16_method_3_code 2 none :: ws) Rm7) (fun a U => a = #[(.ref o0), (.int p1)] ∧ Z.Warmed39 U.vm ∧ U.heap = h0) (fun _ _ _ _ _ => True) (fun _ U o U' => ∃ v L, o = .returned v ∧ Q7 Z o0 p1 u_holders_o0 tw kw sv h0 n0 v U'.heap L ∧ FrameEnd U o U' L Rm7.cells Rm7.slots) := by
  refine MetFree.of_bodySF (plainFor_of_name pn2) hisR ?_
  intro p e s m args below meth c s₁ Bd hml0 hP hK
  obtain ⟨rfl, hZ, hh⟩ := hP
  have hx := Bd.exec
  have hby := Bd.bytes
  have hml : c.maxLocals = 2 := hml0
  have hown : s.vm.findClass "com/example/nadir/nadir/HeldKey" = some m.cls := findClass_of_methodNamed Bd.named
  have hnm := (name_of_methodNamed Bd.named Bd.method).1
  have X0 : Stand p l e Rm7 s m #[(.ref o0), (.int p1)] below meth c s₁ [] 0 0 := Stand.of_body Bd
  have e0 : s₁.heap = h0 := by rw [← hh, Bd.state]; rfl
  have N0 := Fr.nil n0
  show Dn p e below s Rm7.cells Rm7.slots (Q7 Z o0 p1 u_holders_o0 tw kw sv h0 n0) (s₁.setTop (entryFrame m #[(.ref o0), (.int p1)] 2))
  rw [ef_7]
  refine Dn.by (U' := s₁.setTop (mkF m 1 #[.val (.ref o0), .val (.int p1)] [(.ref o0)])) (fun _ ks => XS.aloadN X0.here hx rfl (hb hby d7_0) rfl rfl ks) ?_
  obtain ⟨T1, X1, e1, st1⟩ := getF X0 hx hZ hown (host := "") (Or.inl (hw _ (List.mem_of_getElem? (i := 57) rfl))) Via.refl e0 F_u_holders_o0 (g := (mkF m 1 #[.val (.ref o0), .val (.int p1)] [(.ref o0)])) rfl rfl (hb hby d7_1)
  refine Dn.by (U' := T1.setTop (mkF m 4 #[.val (.ref o0), .val (.int p1)] [(.ref u_holders_o0)])) st1 ?_
  refine Dn.by (U' := T1.setTop (mkF m 5 #[.val (.ref o0), .val (.int p1)] [(.int p1), (.ref u_holders_o0)])) (fun _ ks => XS.iloadN X1.here hx rfl (hb hby d7_4) rfl ks) ?_
  obtain ⟨cq2, kq2, qa2, qb2, qc2⟩ := isOf hZ e1 E_b
  obtain ⟨_, _, ⟨T2, L2, k2, n2⟩, -, X2, ⟨Lc2, hQ2, l2, y2, z2⟩, st2⟩ := X1.virtualBack hx (y := (⟨"java/util/BitSet", "set", "(I)V"⟩ : MethodName)) (z := (⟨"java/util/BitSet", "set", "(I)V"⟩ : MethodName)) hown (mvT hZ (hw _ (List.mem_of_getElem? (i := 71) rfl))) (mvT hZ (hw _ (List.mem_of_getElem? (i := 72) rfl))) (notFace_of_selects (args := #[]) (mvT hZ (hw _ (List.mem_of_getElem? (i := 74) rfl)))) (mvT hZ (hw _ (List.mem_of_getElem? (i := 74) rfl))) (mvT hZ (hw _ (List.mem_of_getElem? (i := 73) rfl))) (by decide) (backOf (W := 0) (rm8 l Z a0 hw [] u_holders_o0 p1 tw kw sv h0 n0 Z0 g_u_holders_o0 E_b F_words V_t hne g_tw F_wordsInUse F_sizeIsSticky hp O0 S_ad) hZ (hw _ (List.mem_of_getElem? (i := 75) rfl)) (hw _ (List.mem_of_getElem? (i := 37) rfl)) (by decide) (by decide)) qa2 qc2 (g := (mkF m 5 #[.val (.ref o0), .val (.int p1)] [(.int p1), (.ref u_holders_o0)])) rfl (by rw [hml]; rfl) (Steps.refl _) (argsL := [(.int p1)]) (rest := []) (lenOf pd1 rfl) rfl (by show 2 * 0 + _ ≤ _; exact Nat.le_of_eq rfl) (hb hby d7_5) (fun _ _ => ⟨rfl, e1, (by decide : 0 + 1 ≤ _), (by decide : 0 + 16 ≤ _)⟩)
  dsimp only [Pt.U, Pt.locs, Pt.cells, Pt.slots] at X2 l2 y2 z2 st2 hQ2
  rw [l2, y2, z2] at X2
  obtain ⟨rfl, N2q, KK2⟩ := hQ2
  have N2 := Fr.app N0 N2q
  have K3 : Keep h0 T2.heap [u_holders_o0, tw] := ((Keep.refl h0 [u_holders_o0, tw]).trans KK2 (allS (Or.inl (List.mem_of_getElem? (i := 0) rfl)) (allS (Or.inl (List.mem_of_getElem? (i := 1) rfl)) all0)))
  have z3 : n0 ≤ T2.heap.size := (Nat.le_trans Z0 KK2.1)
  have O3 : Old Z n0 T2.heap := O0.keep KK2 (allS g_u_holders_o0 (allS g_tw all0))
  refine Dn.by (U' := T2.setTop (mkF m 8 #[.val (.ref o0), .val (.int p1)] [])) (fun _ ks => st2.trans ks) ?_
  refine Dn.out X2 (v := none) (fun _ => rfl) (BodyLoose.notSynchronized Bd) (fun _ hr => X2.returnOut hx Bd.returns (hb hby d7_8) hr) (by decide) (by decide) ?_
  exact ⟨rfl, N2, K3⟩
def isS (o0 : Addr) (u_largestThreshold_o0 : UInt64) : Int32 := (if (cmpValue (FP.dcmp u_largestThreshold_o0 (18442240474082181120 : UInt64)) .l) = (0 : Int32) then (0 : Int32) else (1 : Int32))
abbrev Rm12 : Room := { frames := 0, cells := 0, slots := 0, locals := 0 }
theorem ef_12 (m : MethodId) (o0 : Addr) : entryFrame m #[(.ref o0)] 1 = mkF m 0 #[.val (.ref o0)] [] := by first | (simp [entryFrame, mkF, argsToLocals, Value.category]; done) | rfl
def Q12 (Z : State) (o0 : Addr) (u_largestThreshold_o0 : UInt64) (h0 : Heap) (n0 : Nat) (v : Option Value) (h : Heap) (L : List Loc) : Prop := v = some (.int (isS o0 u_largestThreshold_o0)) ∧ Fr n0 L ∧ h = h0
set_option maxRecDepth 65536 in
set_option maxHeartbeats 40000000 in
theorem rm12 (l : Launch) (Z : State) (a0 : Array Value) (hw : ∀ d ∈ tables_1, d.before a0 Z = true) (ws : List Jvm.Cond) (o0 : Addr) (u_largestThreshold_o0 : UInt64) (h0 : Heap) (n0 : Nat) (Z0 : n0 ≤ h0.size) (F_u_largestThreshold_o0 : Fld Z h0 o0 "com/example/nadir/nadir/HeldKey" "largestThreshold" "D" (.double u_largestThreshold_o0)) :
    MetFree l (⟨"com/example/nadir/nadir/HeldKey", "isSampled", "()Z"⟩ : MethodName) (head1 (Jvm.Cond.code (⟨"com/example/nadir/nadir/HeldKey", "isSampled", "()Z"⟩ : MethodName) prog_16_method_8_code 1 (some .boolean) :: ws) Rm12) (fun a U => a = #[(.ref o0)] ∧ Z.Warmed39 U.vm ∧ U.heap = h0) (fun _ _ _ _ _ => True) (fun _ U o U' => ∃ v L, o = .returned v ∧ Q12 Z o0 u_largestThreshold_o0 h0 n0 v U'.heap L ∧ FrameEnd U o U' L Rm12.cells Rm12.slots) := by
  refine MetFree.of_bodySF (plainFor_of_name pn2) hisR ?_
  intro p e s m args below meth c s₁ Bd hml0 hP hK
  obtain ⟨rfl, hZ, hh⟩ := hP
  have hx := Bd.exec
  have hby := Bd.bytes
  have hml : c.maxLocals = 1 := hml0
  have hown : s.vm.findClass "com/example/nadir/nadir/HeldKey" = some m.cls := findClass_of_methodNamed Bd.named
  have hnm := (name_of_methodNamed Bd.named Bd.method).1
  have X0 : Stand p l e Rm12 s m #[(.ref o0)] below meth c s₁ [] 0 0 := Stand.of_body Bd
  have e0 : s₁.heap = h0 := by rw [← hh, Bd.state]; rfl
  have N0 := Fr.nil n0
  show Dn p e below s Rm12.cells Rm12.slots (Q12 Z o0 u_largestThreshold_o0 h0 n0) (s₁.setTop (entryFrame m #[(.ref o0)] 1))
  rw [ef_12]
  refine Dn.by (U' := s₁.setTop (mkF m 1 #[.val (.ref o0)] [(.ref o0)])) (fun _ ks => XS.aloadN X0.here hx rfl (hb hby d12_0) rfl rfl ks) ?_
  obtain ⟨T1, X1, e1, st1⟩ := getF X0 hx hZ hown (host := "") (Or.inl (hw _ (List.mem_of_getElem? (i := 60) rfl))) Via.refl e0 F_u_largestThreshold_o0 (g := (mkF m 1 #[.val (.ref o0)] [(.ref o0)])) rfl rfl (hb hby d12_1)
  refine Dn.by (U' := T1.setTop (mkF m 4 #[.val (.ref o0)] [(.double u_largestThreshold_o0)])) st1 ?_
  refine Dn.by (U' := T1.setTop (mkF m 7 #[.val (.ref o0)] [(.double (18442240474082181120 : UInt64)), (.double u_largestThreshold_o0)])) (X1.ldc2DoubleC hx hown (mvT hZ (hw _ (List.mem_of_getElem? (i := 59) rfl))) (g := (mkF m 4 #[.val (.ref o0)] [(.double u_largestThreshold_o0)])) rfl (hb hby d12_4)) ?_
  refine Dn.by (U' := T1.setTop (mkF m 8 #[.val (.ref o0)] [(.int (cmpValue (FP.dcmp u_largestThreshold_o0 (18442240474082181120 : UInt64)) .l))])) (fun _ ks => XS.dcmpS X1.here hx rfl (hb hby d12_7) rfl rfl ks) ?_
  by_cases c8_2 : (cmpValue (FP.dcmp u_largestThreshold_o0 (18442240474082181120 : UInt64)) .l) = (0 : Int32)
  ·
    refine Dn.by (U' := T1.setTop (mkF m 15 #[.val (.ref o0)] [])) (fun _ ks => XS.ifYes X1.here hx rfl (pc0 := 8) (pc' := 15) rfl (hb hby d12_8) rfl ((if0 _ _).trans (teq c8_2).1) (by decide) (by decide) ks) ?_
    refine Dn.by (U' := T1.setTop (mkF m 16 #[.val (.ref o0)] [(.int (0 : Int32))])) (fun _ ks => XS.iconst X1.here hx rfl (hb hby d12_15)  ks) ?_
    refine Dn.out X1 (v := (some (.int (0 : Int32)))) (fun h => by rw [Bd.returns] at h; cases h) (BodyLoose.notSynchronized Bd) (fun _ hr => retN X1 hx (t := .boolean) Bd.returns (by simp) (hb hby d12_16) hr) (by decide) (by decide) ?_
    rw [e1]
    exact ⟨by simp only [isS, if_pos c8_2], N0, rfl⟩
  ·
    refine Dn.by (U' := T1.setTop (mkF m 11 #[.val (.ref o0)] [])) (fun _ ks => XS.ifNo X1.here hx rfl (hb hby d12_8) rfl ((if0 _ _).trans (feq c8_2).1) ks) ?_
    refine Dn.by (U' := T1.setTop (mkF m 12 #[.val (.ref o0)] [(.int (1 : Int32))])) (fun _ ks => XS.iconst X1.here hx rfl (hb hby d12_11)  ks) ?_
    refine Dn.by (U' := T1.setTop (mkF m 16 #[.val (.ref o0)] [(.int (1 : Int32))])) (fun _ ks => XS.goto X1.here hx rfl (pc0 := 12) (pc' := 16) rfl (hb hby d12_12) (by decide) (by decide) ks) ?_
    refine Dn.out X1 (v := (some (.int (1 : Int32)))) (fun h => by rw [Bd.returns] at h; cases h) (BodyLoose.notSynchronized Bd) (fun _ hr => retN X1 hx (t := .boolean) Bd.returns (by simp) (hb hby d12_16) hr) (by decide) (by decide) ?_
    rw [e1]
    exact ⟨by simp only [isS, if_neg c8_2], N0, rfl⟩
theorem own_is0 (o : Addr) : isS o (18442240474082181120 : UInt64) = 0 := by
  unfold isS
  exact if_pos (by decide +kernel)
theorem own_is1 (o : Addr) {u : UInt64} (h : FF u) : isS o u = 1 := by
  unfold isS
  rw [own_c1 h]; exact if_neg (by decide)
abbrev Rm16 : Room := { frames := 1, cells := 0, slots := 0, locals := 16 }
theorem ef_16 (m : MethodId) (o0 : Addr) (p1 : Int32) (o2 : Addr) (x3 : UInt64) : entryFrame m #[(.ref o0), (.int p1), (.ref o2), (.double x3)] 5 = mkF m 0 #[.val (.ref o0), .val (.int p1), .val (.ref o2), .val (.double x3), .second] [] := by first | (simp [entryFrame, mkF, argsToLocals, Value.category]; done) | rfl
def Q16 (Z : State) (o0 : Addr) (p1 : Int32) (o2 : Addr) (x3 : UInt64) (u_largestThreshold_o0 : UInt64) (h0 : Heap) (n0 : Nat) (v : Option Value) (h : Heap) (L : List Loc) : Prop := v = none ∧ Fr n0 L ∧ Keep h0 h [o0] ∧ Exa Z h o0 "com/example/nadir/nadir/HeldKey" ∧ Fld Z h o0 "com/example/nadir/nadir/HeldKey" "largestThreshold" "D" (.double (Native.java_lang_Math.nans.pick64 true u_largestThreshold_o0 x3)) ∧ Fld Z h o0 "com/example/nadir/nadir/HeldKey" "sampled" "[Lcom/example/nadir/nadir/RankedKey;" .null
set_option maxRecDepth 65536 in
set_option maxHeartbeats 40000000 in
theorem rm16 (l : Launch) (Z : State) (a0 : Array Value) (hw : ∀ d ∈ tables_1, d.before a0 Z = true) (ws : List Jvm.Cond) (o0 : Addr) (p1 : Int32) (o2 : Addr) (x3 : UInt64) (u_largestThreshold_o0 : UInt64) (h0 : Heap) (n0 : Nat) (Z0 : n0 ≤ h0.size) (g_o0 : n0 ≤ o0) (E_o0 : Exa Z h0 o0 "com/example/nadir/nadir/HeldKey") (F_u_largestThreshold_o0 : Fld Z h0 o0 "com/example/nadir/nadir/HeldKey" "largestThreshold" "D" (.double u_largestThreshold_o0)) (F_n_sampled_o0 : Fld Z h0 o0 "com/example/nadir/nadir/HeldKey" "sampled" "[Lcom/example/nadir/nadir/RankedKey;" .null) (na : NN u_largestThreshold_o0) (nb : NN x3) :
    MetFree l (⟨"com/example/nadir/nadir/HeldKey", "sampledBy", "(ILcom/example/nadir/nadir/RankedKey;D)V"⟩ : MethodName) (head1 (Jvm.Cond.code (⟨"com/example/nadir/nadir/HeldKey", "sampledBy", "(ILcom/example/nadir/nadir/RankedKey;D)V"⟩ : MethodName) prog_16_method_4_code 5 none :: ws) Rm16) (fun a U => a = #[(.ref o0), (.int p1), (.ref o2), (.double x3)] ∧ Z.Warmed39 U.vm ∧ U.heap = h0) (fun _ _ _ _ _ => True) (fun _ U o U' => ∃ v L, o = .returned v ∧ Q16 Z o0 p1 o2 x3 u_largestThreshold_o0 h0 n0 v U'.heap L ∧ FrameEnd U o U' L Rm16.cells Rm16.slots) := by
  refine MetFree.of_bodySF (plainFor_of_name pn2) hisR ?_
  intro p e s m args below meth c s₁ Bd hml0 hP hK
  obtain ⟨rfl, hZ, hh⟩ := hP
  have hx := Bd.exec
  have hby := Bd.bytes
  have hml : c.maxLocals = 5 := hml0
  have hown : s.vm.findClass "com/example/nadir/nadir/HeldKey" = some m.cls := findClass_of_methodNamed Bd.named
  have hnm := (name_of_methodNamed Bd.named Bd.method).1
  have X0 : Stand p l e Rm16 s m #[(.ref o0), (.int p1), (.ref o2), (.double x3)] below meth c s₁ [] 0 0 := Stand.of_body Bd
  have e0 : s₁.heap = h0 := by rw [← hh, Bd.state]; rfl
  have N0 := Fr.nil n0
  show Dn p e below s Rm16.cells Rm16.slots (Q16 Z o0 p1 o2 x3 u_largestThreshold_o0 h0 n0) (s₁.setTop (entryFrame m #[(.ref o0), (.int p1), (.ref o2), (.double x3)] 5))
  rw [ef_16]
  refine Dn.by (U' := s₁.setTop (mkF m 1 #[.val (.ref o0), .val (.int p1), .val (.ref o2), .val (.double x3), .second] [(.ref o0)])) (fun _ ks => XS.aloadN X0.here hx rfl (hb hby d16_0) rfl rfl ks) ?_
  refine Dn.by (U' := s₁.setTop (mkF m 2 #[.val (.ref o0), .val (.int p1), .val (.ref o2), .val (.double x3), .second] [(.ref o0), (.ref o0)])) (fun _ ks => XS.aloadN X0.here hx rfl (hb hby d16_1) rfl rfl ks) ?_
  obtain ⟨T1, X1, e1, st1⟩ := getF X0 hx hZ hown (host := "") (Or.inl (hw _ (List.mem_of_getElem? (i := 60) rfl))) Via.refl e0 F_u_largestThreshold_o0 (g := (mkF m 2 #[.val (.ref o0), .val (.int p1), .val (.ref o2), .val (.double x3), .second] [(.ref o0), (.ref o0)])) rfl rfl (hb hby d16_2)
  refine Dn.by (U' := T1.setTop (mkF m 5 #[.val (.ref o0), .val (.int p1), .val (.ref o2), .val (.double x3), .second] [(.double u_largestThreshold_o0), (.ref o0)])) st1 ?_
  refine Dn.by (U' := T1.setTop (mkF m 6 #[.val (.ref o0), .val (.int p1), .val (.ref o2), .val (.double x3), .second] [(.double x3), (.double u_largestThreshold_o0), (.ref o0)])) (fun _ ks => XS.dloadN X1.here hx rfl (hb hby d16_5) rfl ks) ?_
  obtain ⟨T2, X2, e2, st2⟩ := natS X1 hx hZ (a0 := a0) hown (hw _ (List.mem_of_getElem? (i := 117) rfl)) (hw _ (List.mem_of_getElem? (i := 118) rfl)) (hw _ (List.mem_of_getElem? (i := 99) rfl)) (hw _ (List.mem_of_getElem? (i := 119) rfl)) (by decide) e1 (fun hc => Jvm.Free.Fl.Abs.maxD_pays (W := 1) u_largestThreshold_o0 x3 hc (by decide) (by decide)) (g := (mkF m 6 #[.val (.ref o0), .val (.int p1), .val (.ref o2), .val (.double x3), .second] [(.double x3), (.double u_largestThreshold_o0), (.ref o0)])) rfl (by rw [hml]; rfl) (argsL := [(.double u_largestThreshold_o0), (.double x3)]) (rest := [(.ref o0)]) (lenOf pd5 rfl) rfl (by show 2 * 0 + _ ≤ _; exact Nat.le_of_eq rfl) (hb hby d16_6) (by decide) (by decide) ⟨rfl, na, nb⟩ rfl
  refine Dn.by (U' := T2.setTop (mkF m 9 #[.val (.ref o0), .val (.int p1), .val (.ref o2), .val (.double x3), .second] [(.double (Native.java_lang_Math.nans.pick64 true u_largestThreshold_o0 x3)), (.ref o0)])) st2 ?_
  obtain ⟨T3, h3, X3, e3, W3, st3⟩ := putF X2 hx hZ hown (host := "") (Or.inl (hw _ (List.mem_of_getElem? (i := 60) rfl))) Via.refl e2 F_u_largestThreshold_o0 E_o0 (Or.inl (hw _ (List.mem_of_getElem? (i := 61) rfl))) (hw _ (List.mem_of_getElem? (i := 29) rfl)) (ty := .double) (by decide) rfl rfl (g := (mkF m 9 #[.val (.ref o0), .val (.int p1), .val (.ref o2), .val (.double x3), .second] [(.double (Native.java_lang_Math.nans.pick64 true u_largestThreshold_o0 x3)), (.ref o0)])) rfl rfl (hb hby d16_9)
  have F3 := F_u_largestThreshold_o0.same W3
  have K4 : Keep h0 h3 [o0] := ((Keep.refl h0 [o0]).wr W3 (Or.inl (List.mem_of_getElem? (i := 0) rfl)))
  have z4 : n0 ≤ h3.size := (Nat.le_trans Z0 (Keep.of_wr W3).1)
  have N3 := Fr.snoc X3 N0 g_o0
  refine Dn.by (U' := T3.setTop (mkF m 12 #[.val (.ref o0), .val (.int p1), .val (.ref o2), .val (.double x3), .second] [])) st3 ?_
  refine Dn.by (U' := T3.setTop (mkF m 13 #[.val (.ref o0), .val (.int p1), .val (.ref o2), .val (.double x3), .second] [(.ref o0)])) (fun _ ks => XS.aloadN X3.here hx rfl (hb hby d16_12) rfl rfl ks) ?_
  obtain ⟨T5, X5, e5, st5⟩ := getF X3 hx hZ hown (host := "") (Or.inl (hw _ (List.mem_of_getElem? (i := 64) rfl))) Via.refl e3 (F_n_sampled_o0.other W3 (Or.inr (slot_ne (Or.inr (hw _ (List.mem_of_getElem? (i := 65) rfl))) (Or.inl (hw _ (List.mem_of_getElem? (i := 61) rfl))) (by decide) (t := (.array (.object "com/example/nadir/nadir/RankedKey"))) (t' := .double) (by decide) (by decide)))) (g := (mkF m 13 #[.val (.ref o0), .val (.int p1), .val (.ref o2), .val (.double x3), .second] [(.ref o0)])) rfl rfl (hb hby d16_13)
  refine Dn.by (U' := T5.setTop (mkF m 16 #[.val (.ref o0), .val (.int p1), .val (.ref o2), .val (.double x3), .second] [.null])) st5 ?_
  refine Dn.by (U' := T5.setTop (mkF m 26 #[.val (.ref o0), .val (.int p1), .val (.ref o2), .val (.double x3), .second] [])) (fun _ ks => XS.ifnullYes X5.here hx rfl (pc0 := 16) (pc' := 26) rfl (hb hby d16_16) rfl (by decide) (by decide) ks) ?_
  refine Dn.out X5 (v := none) (fun _ => rfl) (BodyLoose.notSynchronized Bd) (fun _ hr => X5.returnOut hx Bd.returns (hb hby d16_26) hr) (by decide) (by decide) ?_
  rw [e5]
  exact ⟨rfl, N3, K4, (E_o0.wr W3), F3, (F_n_sampled_o0.other W3 (Or.inr (slot_ne (Or.inr (hw _ (List.mem_of_getElem? (i := 65) rfl))) (Or.inl (hw _ (List.mem_of_getElem? (i := 61) rfl))) (by decide) (t := (.array (.object "com/example/nadir/nadir/RankedKey"))) (t' := .double) (by decide) (by decide))))⟩
theorem ef_0 (m : MethodId) (p0 : Int32) (p1 : Int32) (p2 : Int32) (p3 : Int32) (p4 : Int32) (p5 : Int32) : entryFrame m #[(.int p0), (.int p1), (.int p2), (.int p3), (.int p4), (.int p5)] maxLocals = mkF m 0 #[.val (.int p0), .val (.int p1), .val (.int p2), .val (.int p3), .val (.int p4), .val (.int p5), .unset, .unset, .unset, .unset] [] := by first | (simp [entryFrame, mkF, argsToLocals, Value.category, maxLocals]; done) | rfl
def Q0 (Z : State) (p0 : Int32) (p1 : Int32) (p2 : Int32) (p3 : Int32) (p4 : Int32) (p5 : Int32) (h0 : Heap) (n0 : Nat) (v : Option Value) (h : Heap) (L : List Loc) : Prop := v = some (.int 1) ∧ Fr n0 L
set_option maxRecDepth 65536 in
set_option maxHeartbeats 40000000 in
theorem rm0 (l : Launch) (Z : State) (a0 : Array Value) (hw : ∀ d ∈ tables_1, d.before a0 Z = true) (ws : List Jvm.Cond) (p0 : Int32) (p1 : Int32) (p2 : Int32) (p3 : Int32) (p4 : Int32) (p5 : Int32) (h0 : Heap) (n0 : Nat) (Z0 : n0 ≤ h0.size) (O0 : Old Z n0 h0) (S_ad : Sta Z Z.heap "java/util/BitSet" "$assertionsDisabled" "Z" (.int (1 : Int32))) :
    MetFree l x (head1 (Jvm.Cond.code x code maxLocals ret :: ws) room_1) (fun a U => a = #[(.int p0), (.int p1), (.int p2), (.int p3), (.int p4), (.int p5)] ∧ Z.Warmed39 U.vm ∧ U.heap = h0 ∧ CHv Z EL U.vm h0 ∧ ∀ x ∈ ([] : List Addr), Safe Z EL U.vm h0 x) (fun _ _ _ _ _ => True) (fun _ U o U' => ∃ v L, o = .returned v ∧ Q0 Z p0 p1 p2 p3 p4 p5 h0 n0 v U'.heap L ∧ CHr Z EL U.vm U.heap U'.vm U'.heap ∧ ReturnedEndW U o U' L 24 1152) := by
  refine MetFree.of_bodySF (plainFor_of_name pn4) hisR ?_
  intro p e s m args below meth c s₁ Bd hml0 hP hK
  obtain ⟨rfl, hZ, hh, hCH, hSL⟩ := hP
  have hx := Bd.exec
  have hby := Bd.bytes
  have hml : c.maxLocals = 10 := hml0
  have hown : s.vm.findClass "com/example/nadir/nadir/HeldKeyIsSampledPinLaw" = some m.cls := findClass_of_methodNamed Bd.named
  have hnm := (name_of_methodNamed Bd.named Bd.method).1
  have X0 : Stand p l e room_1 (s.setVm s.vm) m #[(.int p0), (.int p1), (.int p2), (.int p3), (.int p4), (.int p5)] below meth c s₁ [] 0 0 := Stand.of_body Bd
  have hS0 : s.Since s.vm 0 := (State.WarmedH.refl s).since 0
  have hk0 : 0 ≤ h0.size := Nat.zero_le _
  have C0 : CHr Z EL s.vm h0 s.vm h0 := CHr.refl hCH
  have hEL : EW Z a0 EL := own_EL hw
  have e0 : s₁.heap = h0 := by rw [← hh, Bd.state]; rfl
  have N0 := Fr.nil n0
  show DnW p e below s EL Z 24 1152 (Q0 Z p0 p1 p2 p3 p4 p5 h0 n0) (s₁.setTop (entryFrame m #[(.int p0), (.int p1), (.int p2), (.int p3), (.int p4), (.int p5)] maxLocals))
  rw [ef_0]
  obtain ⟨T1, h1, X1, e1, E1, A1, D1, -, st1⟩ := newO X0 hx hZ hown (hw _ (List.mem_of_getElem? (i := 0) rfl)) (hw _ (List.mem_of_getElem? (i := 1) rfl)) (hw _ (List.mem_of_getElem? (i := 2) rfl)) e0 (g := (mkF m 0 #[.val (.int p0), .val (.int p1), .val (.int p2), .val (.int p3), .val (.int p4), .val (.int p5), .unset, .unset, .unset, .unset] [])) rfl (hb hby at_0) (by decide) (by decide)
  obtain ⟨b1, g1⟩ : ∃ z, z = h0.size := ⟨_, rfl⟩
  rw [← g1] at A1 D1 st1
  have g_b1 : n0 ≤ b1 := Nat.le_trans Z0 (Nat.le_of_eq g1.symm)
  have sz_b1 : h0.size ≤ b1 := Nat.le_trans (Keep.refl h0 []).1 (Nat.le_of_eq g1.symm)
  have K2 : Keep h0 h1 [] := ((Keep.refl h0 []).ext E1)
  have z2 : n0 ≤ h1.size := (Nat.le_trans Z0 E1.1)
  have O2 : Old Z n0 h1 := O0.ext E1
  have C2 : CHr Z EL s.vm h0 s.vm h1 := C0.trans (CHr.ext E1 C0.1)
  have hk2 : _ ≤ h1.size := Nat.le_trans hk0 E1.1
  have F_key_b1 : Fld Z h1 b1 "com/example/nadir/nadir/RankedKey" "key" "Ljava/lang/String;" .null := D1 (Or.inr (hw _ (List.mem_of_getElem? (i := 19) rfl))) (ty := (.object "java/lang/String")) (by decide)
  have F_bytes_b1 : Fld Z h1 b1 "com/example/nadir/nadir/RankedKey" "bytes" "[B" .null := D1 (Or.inr (hw _ (List.mem_of_getElem? (i := 21) rfl))) (ty := (.array .byte)) (by decide)
  have F_weight_b1 : Fld Z h1 b1 "com/example/nadir/nadir/RankedKey" "weight" "D" (.double (0 : UInt64)) := D1 (Or.inr (hw _ (List.mem_of_getElem? (i := 23) rfl))) (ty := .double) (by decide)
  have F_u_b1 : Fld Z h1 b1 "com/example/nadir/nadir/RankedKey" "u" "D" (.double (0 : UInt64)) := D1 (Or.inr (hw _ (List.mem_of_getElem? (i := 25) rfl))) (ty := .double) (by decide)
  have F_rank_b1 : Fld Z h1 b1 "com/example/nadir/nadir/RankedKey" "rank" "D" (.double (0 : UInt64)) := D1 (Or.inr (hw _ (List.mem_of_getElem? (i := 27) rfl))) (ty := .double) (by decide)
  refine DnW.by (U' := T1.setTop (mkF m 3 #[.val (.int p0), .val (.int p1), .val (.int p2), .val (.int p3), .val (.int p4), .val (.int p5), .unset, .unset, .unset, .unset] [(.ref b1)])) st1 ?_
  refine DnW.by (U' := T1.setTop (mkF m 4 #[.val (.int p0), .val (.int p1), .val (.int p2), .val (.int p3), .val (.int p4), .val (.int p5), .unset, .unset, .unset, .unset] [(.ref b1), (.ref b1)])) (fun _ ks => XS.dup X1.here hx rfl (hb hby at_3) rfl rfl ks) ?_
  obtain ⟨b3, T3, h3, kS3, X3, e3, E3, hS3, hk3, hZ, hown, CC3, Lt3, st3⟩ := ldcOH X1 hx hZ hown (hw _ (List.mem_of_getElem? (i := 3) rfl)) (own_strW hw) e1 hS0 hk2 hEL C2.1 (g := (mkF m 4 #[.val (.int p0), .val (.int p1), .val (.int p2), .val (.int p3), .val (.int p4), .val (.int p5), .unset, .unset, .unset, .unset] [(.ref b1), (.ref b1)])) rfl (hb hby at_4) (n := 4) (by decide) (by decide) (by decide) (by decide)
  have K4 : Keep h0 h3 [] := (K2.ext E3)
  have z4 : n0 ≤ h3.size := (Nat.le_trans z2 E3.1)
  have O4 : Old Z n0 h3 := O2.ext E3
  have C4 : CHr Z EL s.vm h0 T3.vm h3 := C2.trans CC3
  refine DnW.by (U' := T3.setTop (mkF m 6 #[.val (.int p0), .val (.int p1), .val (.int p2), .val (.int p3), .val (.int p4), .val (.int p5), .unset, .unset, .unset, .unset] [(.ref b3), (.ref b1), (.ref b1)])) st3 ?_
  refine DnW.by (U' := T3.setTop (mkF m 7 #[.val (.int p0), .val (.int p1), .val (.int p2), .val (.int p3), .val (.int p4), .val (.int p5), .unset, .unset, .unset, .unset] [(.int (1 : Int32)), (.ref b3), (.ref b1), (.ref b1)])) (fun _ ks => XS.iconst X3.here hx rfl (hb hby at_6)  ks) ?_
  obtain ⟨T5, h5, k5, X5, e5, E5, A5, st5⟩ := newP X3 hx hZ (hw _ (List.mem_of_getElem? (i := 6) rfl)) e3 (g := (mkF m 7 #[.val (.int p0), .val (.int p1), .val (.int p2), .val (.int p3), .val (.int p4), .val (.int p5), .unset, .unset, .unset, .unset] [(.int (1 : Int32)), (.ref b3), (.ref b1), (.ref b1)])) rfl (hb hby at_7) rfl (by decide) (cap := 1) (by decide) (by decide) (by decide) (by decide)
  obtain ⟨b5, g5⟩ : ∃ z, z = h3.size := ⟨_, rfl⟩
  rw [← g5] at A5 st5
  have g_b5 : n0 ≤ b5 := Nat.le_trans z4 (Nat.le_of_eq g5.symm)
  have sz_b5 : h0.size ≤ b5 := Nat.le_trans K4.1 (Nat.le_of_eq g5.symm)
  have ne_b1_b5 : b1 ≠ b5 := Nat.ne_of_lt (Nat.lt_of_lt_of_le (A1.ext E3).lt (Nat.le_of_eq g5.symm))
  have K6 : Keep h0 h5 [] := (K4.ext E5)
  have z6 : n0 ≤ h5.size := (Nat.le_trans z4 E5.1)
  have O6 : Old Z n0 h5 := O4.ext E5
  have C6 : CHr Z EL s.vm h0 T3.vm h5 := C4.trans (CHr.ext E5 C4.1)
  have hk6 : _ ≤ h5.size := Nat.le_trans hk3 E5.1
  have V5 : Arv Z h5 b5 k5 .byte (1 : Int32) [(.int (0 : Int32))] (.int (0 : Int32)) := (Arv.new A5 (by decide)).pad (pad_rep [] (.int (0 : Int32)) 1)
  refine DnW.by (U' := T5.setTop (mkF m 9 #[.val (.int p0), .val (.int p1), .val (.int p2), .val (.int p3), .val (.int p4), .val (.int p5), .unset, .unset, .unset, .unset] [(.ref b5), (.ref b3), (.ref b1), (.ref b1)])) st5 ?_
  refine DnW.by (U' := T5.setTop (mkF m 10 #[.val (.int p0), .val (.int p1), .val (.int p2), .val (.int p3), .val (.int p4), .val (.int p5), .unset, .unset, .unset, .unset] [(.ref b5), (.ref b5), (.ref b3), (.ref b1), (.ref b1)])) (fun _ ks => XS.dup X5.here hx rfl (hb hby at_9) rfl rfl ks) ?_
  refine DnW.by (U' := T5.setTop (mkF m 11 #[.val (.int p0), .val (.int p1), .val (.int p2), .val (.int p3), .val (.int p4), .val (.int p5), .unset, .unset, .unset, .unset] [(.int (0 : Int32)), (.ref b5), (.ref b5), (.ref b3), (.ref b1), (.ref b1)])) (fun _ ks => XS.iconst X5.here hx rfl (hb hby at_10)  ks) ?_
  refine DnW.by (U' := T5.setTop (mkF m 13 #[.val (.int p0), .val (.int p1), .val (.int p2), .val (.int p3), .val (.int p4), .val (.int p5), .unset, .unset, .unset, .unset] [(.int (107 : Int32)), (.int (0 : Int32)), (.ref b5), (.ref b5), (.ref b3), (.ref b1), (.ref b1)])) (fun _ ks => XS.bipush X5.here hx rfl (hb hby at_11)  ks) ?_
  obtain ⟨cl7, Ar7, q7, S7, M7, H7, G7⟩ := id V5
  obtain ⟨T7, h7, X7, e7, W7, st7⟩ := stB X5 hx hZ e5 Ar7 (j := (0 : Int32)) (inb_of S7 ⟨by decide, by decide⟩) (g := (mkF m 13 #[.val (.int p0), .val (.int p1), .val (.int p2), .val (.int p3), .val (.int p4), .val (.int p5), .unset, .unset, .unset, .unset] [(.int (107 : Int32)), (.int (0 : Int32)), (.ref b5), (.ref b5), (.ref b3), (.ref b1), (.ref b1)])) rfl rfl (hb hby at_13)
  have V7 := Arv.set Ar7 q7 S7 M7 H7 G7 (fits_nar_byte _) W7 0 rfl (Nat.le_of_ble_eq_true rfl)
  have K8 : Keep h0 h7 [] := (K6.wr W7 (Or.inr sz_b5))
  have z8 : n0 ≤ h7.size := (Nat.le_trans z6 (Keep.of_wr W7).1)
  have O8 : Old Z n0 h7 := O6.wr W7 g_b5
  have C8 : CHr Z EL s.vm h0 T3.vm h7 := C6.trans (CHr.wr W7 (Safe.ext E5 C4.1 (Safe.new (Nat.le_of_eq g5.symm))) C6.1)
  have hk8 : _ ≤ h7.size := Nat.le_trans hk6 (Keep.of_wr W7).1
  have V7b : Arv Z h7 b5 k5 .byte (1 : Int32) [(.int (nar .byte (107 : Int32)))] (.int (0 : Int32)) := V7
  have N7 := Fr.snoc X7 N0 g_b5
  refine DnW.by (U' := T7.setTop (mkF m 14 #[.val (.int p0), .val (.int p1), .val (.int p2), .val (.int p3), .val (.int p4), .val (.int p5), .unset, .unset, .unset, .unset] [(.ref b5), (.ref b3), (.ref b1), (.ref b1)])) st7 ?_
  refine DnW.by (U' := T7.setTop (mkF m 15 #[.val (.int p0), .val (.int p1), .val (.int p2), .val (.int p3), .val (.int p4), .val (.int p5), .unset, .unset, .unset, .unset] [(.double FP.dconst1), (.ref b5), (.ref b3), (.ref b1), (.ref b1)])) (fun _ ks => XS.dconst1 X7.here hx rfl (hb hby at_14) rfl ks) ?_
  refine DnW.by (U' := T7.setTop (mkF m 18 #[.val (.int p0), .val (.int p1), .val (.int p2), .val (.int p3), .val (.int p4), .val (.int p5), .unset, .unset, .unset, .unset] [(.double (4602678819172646912 : UInt64)), (.double FP.dconst1), (.ref b5), (.ref b3), (.ref b1), (.ref b1)])) (X7.ldc2DoubleC hx hown (mvT hZ (hw _ (List.mem_of_getElem? (i := 11) rfl))) (g := (mkF m 15 #[.val (.int p0), .val (.int p1), .val (.int p2), .val (.int p3), .val (.int p4), .val (.int p5), .unset, .unset, .unset, .unset] [(.double FP.dconst1), (.ref b5), (.ref b3), (.ref b1), (.ref b1)])) rfl (hb hby at_15)) ?_
  refine DnW.by (U' := T7.setTop (mkF m 21 #[.val (.int p0), .val (.int p1), .val (.int p2), .val (.int p3), .val (.int p4), .val (.int p5), .unset, .unset, .unset, .unset] [(.double (4602678819172646912 : UInt64)), (.double (4602678819172646912 : UInt64)), (.double FP.dconst1), (.ref b5), (.ref b3), (.ref b1), (.ref b1)])) (X7.ldc2DoubleC hx hown (mvT hZ (hw _ (List.mem_of_getElem? (i := 11) rfl))) (g := (mkF m 18 #[.val (.int p0), .val (.int p1), .val (.int p2), .val (.int p3), .val (.int p4), .val (.int p5), .unset, .unset, .unset, .unset] [(.double (4602678819172646912 : UInt64)), (.double FP.dconst1), (.ref b5), (.ref b3), (.ref b1), (.ref b1)])) rfl (hb hby at_18)) ?_
  obtain ⟨_, _, ⟨T9, L9, k9, n9⟩, -, X9, ⟨Lc9, hQ9, l9, y9, z9⟩, st9⟩ := X7.specialBack hx (y := (⟨"com/example/nadir/nadir/RankedKey", "<init>", "(Ljava/lang/String;[BDDD)V"⟩ : MethodName)) rfl hown (mvT hZ (hw _ (List.mem_of_getElem? (i := 12) rfl))) (mvT hZ (hw _ (List.mem_of_getElem? (i := 13) rfl))) (mvT hZ (hw _ (List.mem_of_getElem? (i := 14) rfl))) (by decide) (backOf (W := 1) (rm1 l Z a0 hw [] b1 b3 b5 FP.dconst1 (4602678819172646912 : UInt64) (4602678819172646912 : UInt64) (.null : Value) (.null : Value) ((.double (0 : UInt64)) : Value) ((.double (0 : UInt64)) : Value) ((.double (0 : UInt64)) : Value) h7 n0 z8 g_b1 (((A1.ext E3).ext E5).wr W7) (((F_key_b1.ext E3).ext E5).other W7 (Or.inl ne_b1_b5)) (((F_bytes_b1.ext E3).ext E5).other W7 (Or.inl ne_b1_b5)) (((F_weight_b1.ext E3).ext E5).other W7 (Or.inl ne_b1_b5)) (((F_u_b1.ext E3).ext E5).other W7 (Or.inl ne_b1_b5)) (((F_rank_b1.ext E3).ext E5).other W7 (Or.inl ne_b1_b5))) hZ (hw _ (List.mem_of_getElem? (i := 14) rfl)) (hw _ (List.mem_of_getElem? (i := 2) rfl)) (by decide) (by decide)) (g := (mkF m 21 #[.val (.int p0), .val (.int p1), .val (.int p2), .val (.int p3), .val (.int p4), .val (.int p5), .unset, .unset, .unset, .unset] [(.double (4602678819172646912 : UInt64)), (.double (4602678819172646912 : UInt64)), (.double FP.dconst1), (.ref b5), (.ref b3), (.ref b1), (.ref b1)])) rfl (by rw [hml]; rfl) (Steps.refl _) (a := b1) (argsL := [(.ref b3), (.ref b5), (.double FP.dconst1), (.double (4602678819172646912 : UInt64)), (.double (4602678819172646912 : UInt64))]) (rest := [(.ref b1)]) (lenOf pd6 rfl) rfl (by show 2 * 0 + _ ≤ _; exact Nat.le_of_eq rfl) (hb hby at_21) (fun _ _ => ⟨rfl, e7, (by decide : 4 + 0 ≤ _), (by decide : 14 + 0 ≤ _)⟩)
  dsimp only [Pt.U, Pt.locs, Pt.cells, Pt.slots] at X9 l9 y9 z9 st9 hQ9
  rw [l9, y9, z9] at X9
  obtain ⟨rfl, N9q, KK9, EE9, FF9_0, FF9_1, FF9_2, FF9_3, FF9_4⟩ := hQ9
  have N9 := Fr.app N7 N9q
  have K10 : Keep h0 T9.heap [] := (K8.trans KK9 (allS (Or.inr sz_b1) all0))
  have z10 : n0 ≤ T9.heap.size := (Nat.le_trans z8 KK9.1)
  have O10 : Old Z n0 T9.heap := O8.keep KK9 (allS g_b1 all0)
  have C10 : CHr Z EL s.vm h0 T3.vm T9.heap := C8.trans (CHr.keep KK9 (allS (Safe.exa hZ.alike (((A1.ext E3).ext E5).wr W7) (by decide) (by decide)) all0) C8.1)
  have hk10 : _ ≤ T9.heap.size := Nat.le_trans hk8 KK9.1
  refine DnW.by (U' := T9.setTop (mkF m 24 #[.val (.int p0), .val (.int p1), .val (.int p2), .val (.int p3), .val (.int p4), .val (.int p5), .unset, .unset, .unset, .unset] [(.ref b1)])) (fun _ ks => st9.trans ks) ?_
  refine DnW.by (U' := T9.setTop (mkF m 26 #[.val (.int p0), .val (.int p1), .val (.int p2), .val (.int p3), .val (.int p4), .val (.int p5), .val (.ref b1), .unset, .unset, .unset] [])) (fun _ ks => XS.astore X9.here hx rfl (hb hby at_24) rfl rfl (l' := #[.val (.int p0), .val (.int p1), .val (.int p2), .val (.int p3), .val (.int p4), .val (.int p5), .val (.ref b1), .unset, .unset, .unset]) rfl ks) ?_
  obtain ⟨T11, h11, X11, e11, E11, A11, D11, -, st11⟩ := newO X9 hx hZ hown (hw _ (List.mem_of_getElem? (i := 28) rfl)) (hw _ (List.mem_of_getElem? (i := 29) rfl)) (hw _ (List.mem_of_getElem? (i := 30) rfl)) rfl (g := (mkF m 26 #[.val (.int p0), .val (.int p1), .val (.int p2), .val (.int p3), .val (.int p4), .val (.int p5), .val (.ref b1), .unset, .unset, .unset] [])) rfl (hb hby at_26) (by decide) (by decide)
  obtain ⟨b11, g11⟩ : ∃ z, z = T9.heap.size := ⟨_, rfl⟩
  rw [← g11] at A11 D11 st11
  have g_b11 : n0 ≤ b11 := Nat.le_trans z10 (Nat.le_of_eq g11.symm)
  have sz_b11 : h0.size ≤ b11 := Nat.le_trans K10.1 (Nat.le_of_eq g11.symm)
  have ne_b1_b11 : b1 ≠ b11 := Nat.ne_of_lt (Nat.lt_of_lt_of_le ((((A1.ext E3).ext E5).wr W7).keep KK9).lt (Nat.le_of_eq g11.symm))
  have ne_b5_b11 : b5 ≠ b11 := Nat.ne_of_lt (Nat.lt_of_lt_of_le (V7b.keep KK9 (ninS (Ne.symm ne_b1_b5) nin0)).lt (Nat.le_of_eq g11.symm))
  have K12 : Keep h0 h11 [] := (K10.ext E11)
  have z12 : n0 ≤ h11.size := (Nat.le_trans z10 E11.1)
  have O12 : Old Z n0 h11 := O10.ext E11
  have C12 : CHr Z EL s.vm h0 T3.vm h11 := C10.trans (CHr.ext E11 C10.1)
  have hk12 : _ ≤ h11.size := Nat.le_trans hk10 E11.1
  have F_holders_b11 : Fld Z h11 b11 "com/example/nadir/nadir/HeldKey" "holders" "Ljava/util/BitSet;" .null := D11 (Or.inr (hw _ (List.mem_of_getElem? (i := 58) rfl))) (ty := (.object "java/util/BitSet")) (by decide)
  have F_largestThreshold_b11 : Fld Z h11 b11 "com/example/nadir/nadir/HeldKey" "largestThreshold" "D" (.double (0 : UInt64)) := D11 (Or.inl (hw _ (List.mem_of_getElem? (i := 61) rfl))) (ty := .double) (by decide)
  have F_record_b11 : Fld Z h11 b11 "com/example/nadir/nadir/HeldKey" "record" "Lcom/example/nadir/nadir/RankedKey;" .null := D11 (Or.inr (hw _ (List.mem_of_getElem? (i := 63) rfl))) (ty := (.object "com/example/nadir/nadir/RankedKey")) (by decide)
  have F_sampled_b11 : Fld Z h11 b11 "com/example/nadir/nadir/HeldKey" "sampled" "[Lcom/example/nadir/nadir/RankedKey;" .null := D11 (Or.inr (hw _ (List.mem_of_getElem? (i := 65) rfl))) (ty := (.array (.object "com/example/nadir/nadir/RankedKey"))) (by decide)
  refine DnW.by (U' := T11.setTop (mkF m 29 #[.val (.int p0), .val (.int p1), .val (.int p2), .val (.int p3), .val (.int p4), .val (.int p5), .val (.ref b1), .unset, .unset, .unset] [(.ref b11)])) st11 ?_
  refine DnW.by (U' := T11.setTop (mkF m 30 #[.val (.int p0), .val (.int p1), .val (.int p2), .val (.int p3), .val (.int p4), .val (.int p5), .val (.ref b1), .unset, .unset, .unset] [(.ref b11), (.ref b11)])) (fun _ ks => XS.dup X11.here hx rfl (hb hby at_29) rfl rfl ks) ?_
  refine DnW.by (U' := T11.setTop (mkF m 32 #[.val (.int p0), .val (.int p1), .val (.int p2), .val (.int p3), .val (.int p4), .val (.int p5), .val (.ref b1), .unset, .unset, .unset] [(.ref b1), (.ref b11), (.ref b11)])) (fun _ ks => XS.aload X11.here hx rfl (hb hby at_30) rfl rfl ks) ?_
  obtain ⟨_, _, ⟨T13, L13, k13, n13⟩, -, X13, ⟨Lc13, hQ13, l13, y13, z13⟩, st13⟩ := X11.specialBack hx (y := (⟨"com/example/nadir/nadir/HeldKey", "<init>", "(Lcom/example/nadir/nadir/RankedKey;)V"⟩ : MethodName)) rfl hown (mvT hZ (hw _ (List.mem_of_getElem? (i := 31) rfl))) (mvT hZ (hw _ (List.mem_of_getElem? (i := 32) rfl))) (mvT hZ (hw _ (List.mem_of_getElem? (i := 33) rfl))) (by decide) (backOf (W := 1) (rm3 l Z a0 hw [] b11 b1 (.null : Value) ((.double (0 : UInt64)) : Value) (.null : Value) (.null : Value) h11 n0 z12 g_b11 A11 F_holders_b11 F_largestThreshold_b11 F_record_b11 F_sampled_b11) hZ (hw _ (List.mem_of_getElem? (i := 33) rfl)) (hw _ (List.mem_of_getElem? (i := 30) rfl)) (by decide) (by decide)) (g := (mkF m 32 #[.val (.int p0), .val (.int p1), .val (.int p2), .val (.int p3), .val (.int p4), .val (.int p5), .val (.ref b1), .unset, .unset, .unset] [(.ref b1), (.ref b11), (.ref b11)])) rfl (by rw [hml]; rfl) (Steps.refl _) (a := b11) (argsL := [(.ref b1)]) (rest := [(.ref b11)]) (lenOf pd7 rfl) rfl (by show 2 * 0 + _ ≤ _; exact Nat.le_of_eq rfl) (hb hby at_32) (fun _ _ => ⟨rfl, e11, (by decide : 5 + 2 ≤ _), (by decide : 18 + 4 ≤ _)⟩)
  dsimp only [Pt.U, Pt.locs, Pt.cells, Pt.slots] at X13 l13 y13 z13 st13 hQ13
  rw [l13, y13, z13] at X13
  obtain ⟨bs13, ts13, kt13, rfl, N13q, KK13, EE13, zb13, zt13, ne_ts13_bs13, FH13, FL13, FN13, EB13, FW13, FU13, FS13, VW13⟩ := hQ13
  have N13 := Fr.app N9 N13q
  have g_bs13 : n0 ≤ bs13 := Nat.le_trans z12 zb13
  have sz_bs13 : h0.size ≤ bs13 := Nat.le_trans K12.1 zb13
  have ne_b1_bs13 : b1 ≠ bs13 := Nat.ne_of_lt (Nat.lt_of_lt_of_le (((((A1.ext E3).ext E5).wr W7).keep KK9).ext E11).lt zb13)
  have ne_b5_bs13 : b5 ≠ bs13 := Nat.ne_of_lt (Nat.lt_of_lt_of_le ((V7b.keep KK9 (ninS (Ne.symm ne_b1_b5) nin0)).ext E11).lt zb13)
  have ne_b11_bs13 : b11 ≠ bs13 := Nat.ne_of_lt (Nat.lt_of_lt_of_le A11.lt zb13)
  have g_ts13 : n0 ≤ ts13 := Nat.le_trans z12 zt13
  have sz_ts13 : h0.size ≤ ts13 := Nat.le_trans K12.1 zt13
  have ne_b1_ts13 : b1 ≠ ts13 := Nat.ne_of_lt (Nat.lt_of_lt_of_le (((((A1.ext E3).ext E5).wr W7).keep KK9).ext E11).lt zt13)
  have ne_b5_ts13 : b5 ≠ ts13 := Nat.ne_of_lt (Nat.lt_of_lt_of_le ((V7b.keep KK9 (ninS (Ne.symm ne_b1_b5) nin0)).ext E11).lt zt13)
  have ne_b11_ts13 : b11 ≠ ts13 := Nat.ne_of_lt (Nat.lt_of_lt_of_le A11.lt zt13)
  have K14 : Keep h0 T13.heap [] := (K12.trans KK13 (allS (Or.inr sz_b11) all0))
  have z14 : n0 ≤ T13.heap.size := (Nat.le_trans z12 KK13.1)
  have O14 : Old Z n0 T13.heap := O12.keep KK13 (allS g_b11 all0)
  have C14 : CHr Z EL s.vm h0 T3.vm T13.heap := C12.trans (CHr.keep KK13 (allS (Safe.exa hZ.alike A11 (by decide) (by decide)) all0) C12.1)
  have hk14 : _ ≤ T13.heap.size := Nat.le_trans hk12 KK13.1
  refine DnW.by (U' := T13.setTop (mkF m 35 #[.val (.int p0), .val (.int p1), .val (.int p2), .val (.int p3), .val (.int p4), .val (.int p5), .val (.ref b1), .unset, .unset, .unset] [(.ref b11)])) (fun _ ks => st13.trans ks) ?_
  refine DnW.by (U' := T13.setTop (mkF m 37 #[.val (.int p0), .val (.int p1), .val (.int p2), .val (.int p3), .val (.int p4), .val (.int p5), .val (.ref b1), .val (.ref b11), .unset, .unset] [])) (fun _ ks => XS.astore X13.here hx rfl (hb hby at_35) rfl rfl (l' := #[.val (.int p0), .val (.int p1), .val (.int p2), .val (.int p3), .val (.int p4), .val (.int p5), .val (.ref b1), .val (.ref b11), .unset, .unset]) rfl ks) ?_
  refine DnW.by (U' := T13.setTop (mkF m 38 #[.val (.int p0), .val (.int p1), .val (.int p2), .val (.int p3), .val (.int p4), .val (.int p5), .val (.ref b1), .val (.ref b11), .unset, .unset] [(.int p0)])) (fun _ ks => XS.iloadN X13.here hx rfl (hb hby at_37) rfl ks) ?_
  refine DnW.by (U' := T13.setTop (mkF m 39 #[.val (.int p0), .val (.int p1), .val (.int p2), .val (.int p3), .val (.int p4), .val (.int p5), .val (.ref b1), .val (.ref b11), .unset, .unset] [(.int (3 : Int32)), (.int p0)])) (fun _ ks => XS.iconst X13.here hx rfl (hb hby at_38)  ks) ?_
  refine DnW.by (U' := T13.setTop (mkF m 40 #[.val (.int p0), .val (.int p1), .val (.int p2), .val (.int p3), .val (.int p4), .val (.int p5), .val (.ref b1), .val (.ref b11), .unset, .unset] [(.int (p0 &&& (3 : Int32)))])) (fun _ ks => XS.iand X13.here hx rfl (hb hby at_39) rfl ks) ?_
  refine DnW.by (U' := T13.setTop (mkF m 42 #[.val (.int p0), .val (.int p1), .val (.int p2), .val (.int p3), .val (.int p4), .val (.int p5), .val (.ref b1), .val (.ref b11), .val (.int (p0 &&& (3 : Int32))), .unset] [])) (fun _ ks => XS.istore X13.here hx rfl (hb hby at_40) rfl (l' := #[.val (.int p0), .val (.int p1), .val (.int p2), .val (.int p3), .val (.int p4), .val (.int p5), .val (.ref b1), .val (.ref b11), .val (.int (p0 &&& (3 : Int32))), .unset]) rfl ks) ?_
  refine DnW.by (U' := T13.setTop (mkF m 44 #[.val (.int p0), .val (.int p1), .val (.int p2), .val (.int p3), .val (.int p4), .val (.int p5), .val (.ref b1), .val (.ref b11), .val (.int (p0 &&& (3 : Int32))), .unset] [(.int p5)])) (fun _ ks => XS.iload X13.here hx rfl (hb hby at_42) rfl ks) ?_
  refine DnW.by (U' := T13.setTop (mkF m 45 #[.val (.int p0), .val (.int p1), .val (.int p2), .val (.int p3), .val (.int p4), .val (.int p5), .val (.ref b1), .val (.ref b11), .val (.int (p0 &&& (3 : Int32))), .unset] [(.int (1 : Int32)), (.int p5)])) (fun _ ks => XS.iconst X13.here hx rfl (hb hby at_44)  ks) ?_
  refine DnW.by (U' := T13.setTop (mkF m 46 #[.val (.int p0), .val (.int p1), .val (.int p2), .val (.int p3), .val (.int p4), .val (.int p5), .val (.ref b1), .val (.ref b11), .val (.int (p0 &&& (3 : Int32))), .unset] [(.int (p5 &&& (1 : Int32)))])) (fun _ ks => XS.iand X13.here hx rfl (hb hby at_45) rfl ks) ?_
  by_cases c46_15 : (p5 &&& (1 : Int32)) = (0 : Int32)
  ·
    refine DnW.by (U' := T13.setTop (mkF m 60 #[.val (.int p0), .val (.int p1), .val (.int p2), .val (.int p3), .val (.int p4), .val (.int p5), .val (.ref b1), .val (.ref b11), .val (.int (p0 &&& (3 : Int32))), .unset] [])) (fun _ ks => XS.ifYes X13.here hx rfl (pc0 := 46) (pc' := 60) rfl (hb hby at_46) rfl ((if0 _ _).trans (teq c46_15).1) (by decide) (by decide) ks) ?_
    refine DnW.by (U' := T13.setTop (mkF m 62 #[.val (.int p0), .val (.int p1), .val (.int p2), .val (.int p3), .val (.int p4), .val (.int p5), .val (.ref b1), .val (.ref b11), .val (.int (p0 &&& (3 : Int32))), .unset] [(.ref b11)])) (fun _ ks => XS.aload X13.here hx rfl (hb hby at_60) rfl rfl ks) ?_
    obtain ⟨cq16, kq16, qa16, qb16, qc16⟩ := isOf hZ rfl EE13
    obtain ⟨_, _, ⟨T16, L16, k16, n16⟩, -, X16, ⟨Lc16, hQ16, l16, y16, z16⟩, st16⟩ := X13.virtualBack hx (y := (⟨"com/example/nadir/nadir/HeldKey", "isSampled", "()Z"⟩ : MethodName)) (z := (⟨"com/example/nadir/nadir/HeldKey", "isSampled", "()Z"⟩ : MethodName)) hown (mvT hZ (hw _ (List.mem_of_getElem? (i := 92) rfl))) (mvT hZ (hw _ (List.mem_of_getElem? (i := 93) rfl))) (notFace_of_selects (args := #[]) (mvT hZ (hw _ (List.mem_of_getElem? (i := 95) rfl)))) (mvT hZ (hw _ (List.mem_of_getElem? (i := 95) rfl))) (mvT hZ (hw _ (List.mem_of_getElem? (i := 94) rfl))) (by decide) (backOf (W := 0) (rm12 l Z a0 hw [] b11 (18442240474082181120 : UInt64) T13.heap n0 z14 FL13) hZ (hw _ (List.mem_of_getElem? (i := 96) rfl)) (hw _ (List.mem_of_getElem? (i := 30) rfl)) (by decide) (by decide)) qa16 qc16 (g := (mkF m 62 #[.val (.int p0), .val (.int p1), .val (.int p2), .val (.int p3), .val (.int p4), .val (.int p5), .val (.ref b1), .val (.ref b11), .val (.int (p0 &&& (3 : Int32))), .unset] [(.ref b11)])) rfl (by rw [hml]; rfl) (Steps.refl _) (argsL := []) (rest := []) (lenOf pd8 rfl) rfl (by show 2 * 0 + _ ≤ _; exact Nat.le_of_eq rfl) (hb hby at_62) (fun _ _ => ⟨rfl, rfl, (by decide : 7 + 0 ≤ _), (by decide : 22 + 0 ≤ _)⟩)
    dsimp only [Pt.U, Pt.locs, Pt.cells, Pt.slots] at X16 l16 y16 z16 st16 hQ16
    rw [l16, y16, z16] at X16
    obtain ⟨rfl, N16q, e16⟩ := hQ16
    have N16 := Fr.app N13 N16q
    refine DnW.by (U' := T16.setTop (mkF m 65 #[.val (.int p0), .val (.int p1), .val (.int p2), .val (.int p3), .val (.int p4), .val (.int p5), .val (.ref b1), .val (.ref b11), .val (.int (p0 &&& (3 : Int32))), .unset] [(.int (isS b11 (18442240474082181120 : UInt64)))])) (fun _ ks => st16.trans ks) ?_
    rw [show (isS b11 (18442240474082181120 : UInt64)) = (0 : Int32) from own_is0 _]
    refine DnW.by (U' := T16.setTop (mkF m 68 #[.val (.int p0), .val (.int p1), .val (.int p2), .val (.int p3), .val (.int p4), .val (.int p5), .val (.ref b1), .val (.ref b11), .val (.int (p0 &&& (3 : Int32))), .unset] [])) (fun _ ks => XS.ifNo X16.here hx rfl (hb hby at_65) rfl (by decide) ks) ?_
    refine DnW.by (U' := T16.setTop (mkF m 69 #[.val (.int p0), .val (.int p1), .val (.int p2), .val (.int p3), .val (.int p4), .val (.int p5), .val (.ref b1), .val (.ref b11), .val (.int (p0 &&& (3 : Int32))), .unset] [(.int (1 : Int32))])) (fun _ ks => XS.iconst X16.here hx rfl (hb hby at_68)  ks) ?_
    refine DnW.by (U' := T16.setTop (mkF m 73 #[.val (.int p0), .val (.int p1), .val (.int p2), .val (.int p3), .val (.int p4), .val (.int p5), .val (.ref b1), .val (.ref b11), .val (.int (p0 &&& (3 : Int32))), .unset] [(.int (1 : Int32))])) (fun _ ks => XS.goto X16.here hx rfl (pc0 := 69) (pc' := 73) rfl (hb hby at_69) (by decide) (by decide) ks) ?_
    refine DnW.by (U' := T16.setTop (mkF m 75 #[.val (.int p0), .val (.int p1), .val (.int p2), .val (.int p3), .val (.int p4), .val (.int p5), .val (.ref b1), .val (.ref b11), .val (.int (p0 &&& (3 : Int32))), .val (.int (1 : Int32))] [])) (fun _ ks => XS.istore X16.here hx rfl (hb hby at_73) rfl (l' := #[.val (.int p0), .val (.int p1), .val (.int p2), .val (.int p3), .val (.int p4), .val (.int p5), .val (.ref b1), .val (.ref b11), .val (.int (p0 &&& (3 : Int32))), .val (.int (1 : Int32))]) rfl ks) ?_
    refine DnW.by (U' := T16.setTop (mkF m 77 #[.val (.int p0), .val (.int p1), .val (.int p2), .val (.int p3), .val (.int p4), .val (.int p5), .val (.ref b1), .val (.ref b11), .val (.int (p0 &&& (3 : Int32))), .val (.int (1 : Int32))] [(.int (p0 &&& (3 : Int32)))])) (fun _ ks => XS.iload X16.here hx rfl (hb hby at_75) rfl ks) ?_
    refine DnW.by (U' := T16.setTop (mkF m 78 #[.val (.int p0), .val (.int p1), .val (.int p2), .val (.int p3), .val (.int p4), .val (.int p5), .val (.ref b1), .val (.ref b11), .val (.int (p0 &&& (3 : Int32))), .val (.int (1 : Int32))] [(.int (1 : Int32)), (.int (p0 &&& (3 : Int32)))])) (fun _ ks => XS.iconst X16.here hx rfl (hb hby at_77)  ks) ?_
    by_cases c78_17 : (p0 &&& (3 : Int32)) < (1 : Int32)
    ·
      refine DnW.by (U' := T16.setTop (mkF m 111 #[.val (.int p0), .val (.int p1), .val (.int p2), .val (.int p3), .val (.int p4), .val (.int p5), .val (.ref b1), .val (.ref b11), .val (.int (p0 &&& (3 : Int32))), .val (.int (1 : Int32))] [])) (fun _ ks => XS.icmpYes X16.here hx rfl (pc0 := 78) (pc' := 111) rfl (hb hby at_78) rfl (tlt c78_17).1 (by decide) (by decide) ks) ?_
      refine DnW.by (U' := T16.setTop (mkF m 113 #[.val (.int p0), .val (.int p1), .val (.int p2), .val (.int p3), .val (.int p4), .val (.int p5), .val (.ref b1), .val (.ref b11), .val (.int (p0 &&& (3 : Int32))), .val (.int (1 : Int32))] [(.int (p0 &&& (3 : Int32)))])) (fun _ ks => XS.iload X16.here hx rfl (hb hby at_111) rfl ks) ?_
      refine DnW.by (U' := T16.setTop (mkF m 114 #[.val (.int p0), .val (.int p1), .val (.int p2), .val (.int p3), .val (.int p4), .val (.int p5), .val (.ref b1), .val (.ref b11), .val (.int (p0 &&& (3 : Int32))), .val (.int (1 : Int32))] [(.int (2 : Int32)), (.int (p0 &&& (3 : Int32)))])) (fun _ ks => XS.iconst X16.here hx rfl (hb hby at_113)  ks) ?_
      refine DnW.by (U' := T16.setTop (mkF m 127 #[.val (.int p0), .val (.int p1), .val (.int p2), .val (.int p3), .val (.int p4), .val (.int p5), .val (.ref b1), .val (.ref b11), .val (.int (p0 &&& (3 : Int32))), .val (.int (1 : Int32))] [])) (fun _ ks => XS.icmpYes X16.here hx rfl (pc0 := 114) (pc' := 127) rfl (hb hby at_114) rfl (tlt (Int32.lt_trans c78_17 (by decide))).1 (by decide) (by decide) ks) ?_
      refine DnW.by (U' := T16.setTop (mkF m 129 #[.val (.int p0), .val (.int p1), .val (.int p2), .val (.int p3), .val (.int p4), .val (.int p5), .val (.ref b1), .val (.ref b11), .val (.int (p0 &&& (3 : Int32))), .val (.int (1 : Int32))] [(.int (p0 &&& (3 : Int32)))])) (fun _ ks => XS.iload X16.here hx rfl (hb hby at_127) rfl ks) ?_
      refine DnW.by (U' := T16.setTop (mkF m 130 #[.val (.int p0), .val (.int p1), .val (.int p2), .val (.int p3), .val (.int p4), .val (.int p5), .val (.ref b1), .val (.ref b11), .val (.int (p0 &&& (3 : Int32))), .val (.int (1 : Int32))] [(.int (3 : Int32)), (.int (p0 &&& (3 : Int32)))])) (fun _ ks => XS.iconst X16.here hx rfl (hb hby at_129)  ks) ?_
      refine DnW.by (U' := T16.setTop (mkF m 143 #[.val (.int p0), .val (.int p1), .val (.int p2), .val (.int p3), .val (.int p4), .val (.int p5), .val (.ref b1), .val (.ref b11), .val (.int (p0 &&& (3 : Int32))), .val (.int (1 : Int32))] [])) (fun _ ks => XS.icmpYes X16.here hx rfl (pc0 := 130) (pc' := 143) rfl (hb hby at_130) rfl (tlt (Int32.lt_trans c78_17 (by decide))).1 (by decide) (by decide) ks) ?_
      refine DnW.by (U' := T16.setTop (mkF m 145 #[.val (.int p0), .val (.int p1), .val (.int p2), .val (.int p3), .val (.int p4), .val (.int p5), .val (.ref b1), .val (.ref b11), .val (.int (p0 &&& (3 : Int32))), .val (.int (1 : Int32))] [(.int (1 : Int32))])) (fun _ ks => XS.iload X16.here hx rfl (hb hby at_143) rfl ks) ?_
      refine DnW.by (U' := T16.setTop (mkF m 148 #[.val (.int p0), .val (.int p1), .val (.int p2), .val (.int p3), .val (.int p4), .val (.int p5), .val (.ref b1), .val (.ref b11), .val (.int (p0 &&& (3 : Int32))), .val (.int (1 : Int32))] [])) (fun _ ks => XS.ifNo X16.here hx rfl (hb hby at_145) rfl (by decide) ks) ?_
      refine DnW.by (U' := T16.setTop (mkF m 150 #[.val (.int p0), .val (.int p1), .val (.int p2), .val (.int p3), .val (.int p4), .val (.int p5), .val (.ref b1), .val (.ref b11), .val (.int (p0 &&& (3 : Int32))), .val (.int (1 : Int32))] [(.ref b11)])) (fun _ ks => XS.aload X16.here hx rfl (hb hby at_148) rfl rfl ks) ?_
      obtain ⟨cq18, kq18, qa18, qb18, qc18⟩ := isOf hZ e16 EE13
      obtain ⟨_, _, ⟨T18, L18, k18, n18⟩, -, X18, ⟨Lc18, hQ18, l18, y18, z18⟩, st18⟩ := X16.virtualBack hx (y := (⟨"com/example/nadir/nadir/HeldKey", "isSampled", "()Z"⟩ : MethodName)) (z := (⟨"com/example/nadir/nadir/HeldKey", "isSampled", "()Z"⟩ : MethodName)) hown (mvT hZ (hw _ (List.mem_of_getElem? (i := 92) rfl))) (mvT hZ (hw _ (List.mem_of_getElem? (i := 93) rfl))) (notFace_of_selects (args := #[]) (mvT hZ (hw _ (List.mem_of_getElem? (i := 95) rfl)))) (mvT hZ (hw _ (List.mem_of_getElem? (i := 95) rfl))) (mvT hZ (hw _ (List.mem_of_getElem? (i := 94) rfl))) (by decide) (backOf (W := 0) (rm12 l Z a0 hw [] b11 (18442240474082181120 : UInt64) T13.heap n0 z14 FL13) hZ (hw _ (List.mem_of_getElem? (i := 96) rfl)) (hw _ (List.mem_of_getElem? (i := 30) rfl)) (by decide) (by decide)) qa18 qc18 (g := (mkF m 150 #[.val (.int p0), .val (.int p1), .val (.int p2), .val (.int p3), .val (.int p4), .val (.int p5), .val (.ref b1), .val (.ref b11), .val (.int (p0 &&& (3 : Int32))), .val (.int (1 : Int32))] [(.ref b11)])) rfl (by rw [hml]; rfl) (Steps.refl _) (argsL := []) (rest := []) (lenOf pd8 rfl) rfl (by show 2 * 0 + _ ≤ _; exact Nat.le_of_eq rfl) (hb hby at_150) (fun _ _ => ⟨rfl, e16, (by decide : 7 + 0 ≤ _), (by decide : 22 + 0 ≤ _)⟩)
      dsimp only [Pt.U, Pt.locs, Pt.cells, Pt.slots] at X18 l18 y18 z18 st18 hQ18
      rw [l18, y18, z18] at X18
      obtain ⟨rfl, N18q, e18⟩ := hQ18
      have N18 := Fr.app N16 N18q
      refine DnW.by (U' := T18.setTop (mkF m 153 #[.val (.int p0), .val (.int p1), .val (.int p2), .val (.int p3), .val (.int p4), .val (.int p5), .val (.ref b1), .val (.ref b11), .val (.int (p0 &&& (3 : Int32))), .val (.int (1 : Int32))] [(.int (isS b11 (18442240474082181120 : UInt64)))])) (fun _ ks => st18.trans ks) ?_
      rw [show (isS b11 (18442240474082181120 : UInt64)) = (0 : Int32) from own_is0 _]
      refine DnW.by (U' := T18.setTop (mkF m 155 #[.val (.int p0), .val (.int p1), .val (.int p2), .val (.int p3), .val (.int p4), .val (.int p5), .val (.ref b1), .val (.ref b11), .val (.int (p0 &&& (3 : Int32))), .val (.int (1 : Int32))] [(.int (p0 &&& (3 : Int32))), (.int (0 : Int32))])) (fun _ ks => XS.iload X18.here hx rfl (hb hby at_153) rfl ks) ?_
      refine DnW.by (U' := T18.setTop (mkF m 156 #[.val (.int p0), .val (.int p1), .val (.int p2), .val (.int p3), .val (.int p4), .val (.int p5), .val (.ref b1), .val (.ref b11), .val (.int (p0 &&& (3 : Int32))), .val (.int (1 : Int32))] [(.int (1 : Int32)), (.int (p0 &&& (3 : Int32))), (.int (0 : Int32))])) (fun _ ks => XS.iconst X18.here hx rfl (hb hby at_155)  ks) ?_
      refine DnW.by (U' := T18.setTop (mkF m 163 #[.val (.int p0), .val (.int p1), .val (.int p2), .val (.int p3), .val (.int p4), .val (.int p5), .val (.ref b1), .val (.ref b11), .val (.int (p0 &&& (3 : Int32))), .val (.int (1 : Int32))] [(.int (0 : Int32))])) (fun _ ks => XS.icmpYes X18.here hx rfl (pc0 := 156) (pc' := 163) rfl (hb hby at_156) rfl (tlt c78_17).1 (by decide) (by decide) ks) ?_
      refine DnW.by (U' := T18.setTop (mkF m 164 #[.val (.int p0), .val (.int p1), .val (.int p2), .val (.int p3), .val (.int p4), .val (.int p5), .val (.ref b1), .val (.ref b11), .val (.int (p0 &&& (3 : Int32))), .val (.int (1 : Int32))] [(.int (0 : Int32)), (.int (0 : Int32))])) (fun _ ks => XS.iconst X18.here hx rfl (hb hby at_163)  ks) ?_
      refine DnW.by (U' := T18.setTop (mkF m 167 #[.val (.int p0), .val (.int p1), .val (.int p2), .val (.int p3), .val (.int p4), .val (.int p5), .val (.ref b1), .val (.ref b11), .val (.int (p0 &&& (3 : Int32))), .val (.int (1 : Int32))] [])) (fun _ ks => XS.icmpNo X18.here hx rfl (hb hby at_164) rfl (by decide) ks) ?_
      refine DnW.by (U' := T18.setTop (mkF m 168 #[.val (.int p0), .val (.int p1), .val (.int p2), .val (.int p3), .val (.int p4), .val (.int p5), .val (.ref b1), .val (.ref b11), .val (.int (p0 &&& (3 : Int32))), .val (.int (1 : Int32))] [(.int (1 : Int32))])) (fun _ ks => XS.iconst X18.here hx rfl (hb hby at_167)  ks) ?_
      refine DnW.by (U' := T18.setTop (mkF m 172 #[.val (.int p0), .val (.int p1), .val (.int p2), .val (.int p3), .val (.int p4), .val (.int p5), .val (.ref b1), .val (.ref b11), .val (.int (p0 &&& (3 : Int32))), .val (.int (1 : Int32))] [(.int (1 : Int32))])) (fun _ ks => XS.goto X18.here hx rfl (pc0 := 168) (pc' := 172) rfl (hb hby at_168) (by decide) (by decide) ks) ?_
      refine DnW.by (U' := T18.setTop (mkF m 174 #[.val (.int p0), .val (.int p1), .val (.int p2), .val (.int p3), .val (.int p4), .val (.int p5), .val (.ref b1), .val (.ref b11), .val (.int (p0 &&& (3 : Int32))), .val (.int (1 : Int32))] [])) (fun _ ks => XS.istore X18.here hx rfl (hb hby at_172) rfl (l' := #[.val (.int p0), .val (.int p1), .val (.int p2), .val (.int p3), .val (.int p4), .val (.int p5), .val (.ref b1), .val (.ref b11), .val (.int (p0 &&& (3 : Int32))), .val (.int (1 : Int32))]) rfl ks) ?_
      refine DnW.by (U' := T18.setTop (mkF m 176 #[.val (.int p0), .val (.int p1), .val (.int p2), .val (.int p3), .val (.int p4), .val (.int p5), .val (.ref b1), .val (.ref b11), .val (.int (p0 &&& (3 : Int32))), .val (.int (1 : Int32))] [(.int (1 : Int32))])) (fun _ ks => XS.iload X18.here hx rfl (hb hby at_174) rfl ks) ?_
      refine DnW.out X18 hS3 (by rw [e18]; exact hk14) (v := (some (.int (1 : Int32)))) (fun h => by rw [Bd.returns] at h; cases h) (BodyLoose.notSynchronized Bd) (fun _ hr => retN X18 hx (t := .boolean) Bd.returns (by simp) (hb hby at_176) hr) (by decide) (by decide) ?_ ?_
      · rw [e18]; exact ⟨rfl, N18⟩
      · rw [hh, e18]; exact C14.trans (CHv.at X18 hZ hEL C14.1)
    ·
      refine DnW.by (U' := T16.setTop (mkF m 81 #[.val (.int p0), .val (.int p1), .val (.int p2), .val (.int p3), .val (.int p4), .val (.int p5), .val (.ref b1), .val (.ref b11), .val (.int (p0 &&& (3 : Int32))), .val (.int (1 : Int32))] [])) (fun _ ks => XS.icmpNo X16.here hx rfl (hb hby at_78) rfl (flt c78_17).1 ks) ?_
      refine DnW.by (U' := T16.setTop (mkF m 83 #[.val (.int p0), .val (.int p1), .val (.int p2), .val (.int p3), .val (.int p4), .val (.int p5), .val (.ref b1), .val (.ref b11), .val (.int (p0 &&& (3 : Int32))), .val (.int (1 : Int32))] [(.ref b11)])) (fun _ ks => XS.aload X16.here hx rfl (hb hby at_81) rfl rfl ks) ?_
      refine DnW.by (U' := T16.setTop (mkF m 84 #[.val (.int p0), .val (.int p1), .val (.int p2), .val (.int p3), .val (.int p4), .val (.int p5), .val (.ref b1), .val (.ref b11), .val (.int (p0 &&& (3 : Int32))), .val (.int (1 : Int32))] [(.int (0 : Int32)), (.ref b11)])) (fun _ ks => XS.iconst X16.here hx rfl (hb hby at_83)  ks) ?_
      refine DnW.by (U' := T16.setTop (mkF m 86 #[.val (.int p0), .val (.int p1), .val (.int p2), .val (.int p3), .val (.int p4), .val (.int p5), .val (.ref b1), .val (.ref b11), .val (.int (p0 &&& (3 : Int32))), .val (.int (1 : Int32))] [(.ref b1), (.int (0 : Int32)), (.ref b11)])) (fun _ ks => XS.aload X16.here hx rfl (hb hby at_84) rfl rfl ks) ?_
      refine DnW.by (U' := T16.setTop (mkF m 87 #[.val (.int p0), .val (.int p1), .val (.int p2), .val (.int p3), .val (.int p4), .val (.int p5), .val (.ref b1), .val (.ref b11), .val (.int (p0 &&& (3 : Int32))), .val (.int (1 : Int32))] [(.int p1), (.ref b1), (.int (0 : Int32)), (.ref b11)])) (fun _ ks => XS.iloadN X16.here hx rfl (hb hby at_86) rfl ks) ?_
      refine DnW.by (U' := T16.setTop (mkF m 88 #[.val (.int p0), .val (.int p1), .val (.int p2), .val (.int p3), .val (.int p4), .val (.int p5), .val (.ref b1), .val (.ref b11), .val (.int (p0 &&& (3 : Int32))), .val (.int (1 : Int32))] [(.double (FP.i2d p1)), (.ref b1), (.int (0 : Int32)), (.ref b11)])) (fun _ ks => XS.i2dS X16.here hx rfl (hb hby at_87) rfl rfl ks) ?_
      obtain ⟨cq19, kq19, qa19, qb19, qc19⟩ := isOf hZ e16 EE13
      obtain ⟨_, _, ⟨T19, L19, k19, n19⟩, -, X19, ⟨Lc19, hQ19, l19, y19, z19⟩, st19⟩ := X16.virtualBack hx (y := (⟨"com/example/nadir/nadir/HeldKey", "sampledBy", "(ILcom/example/nadir/nadir/RankedKey;D)V"⟩ : MethodName)) (z := (⟨"com/example/nadir/nadir/HeldKey", "sampledBy", "(ILcom/example/nadir/nadir/RankedKey;D)V"⟩ : MethodName)) hown (mvT hZ (hw _ (List.mem_of_getElem? (i := 112) rfl))) (mvT hZ (hw _ (List.mem_of_getElem? (i := 113) rfl))) (notFace_of_selects (args := #[]) (mvT hZ (hw _ (List.mem_of_getElem? (i := 115) rfl)))) (mvT hZ (hw _ (List.mem_of_getElem? (i := 115) rfl))) (mvT hZ (hw _ (List.mem_of_getElem? (i := 114) rfl))) (by decide) (backOf (W := 0) (rm16 l Z a0 hw [] b11 (0 : Int32) b1 (FP.i2d p1) (18442240474082181120 : UInt64) T13.heap n0 z14 g_b11 EE13 FL13 FN13 own_nni (own_nn (own_fi _))) hZ (hw _ (List.mem_of_getElem? (i := 116) rfl)) (hw _ (List.mem_of_getElem? (i := 30) rfl)) (by decide) (by decide)) qa19 qc19 (g := (mkF m 88 #[.val (.int p0), .val (.int p1), .val (.int p2), .val (.int p3), .val (.int p4), .val (.int p5), .val (.ref b1), .val (.ref b11), .val (.int (p0 &&& (3 : Int32))), .val (.int (1 : Int32))] [(.double (FP.i2d p1)), (.ref b1), (.int (0 : Int32)), (.ref b11)])) rfl (by rw [hml]; rfl) (Steps.refl _) (argsL := [(.int (0 : Int32)), (.ref b1), (.double (FP.i2d p1))]) (rest := []) (lenOf pd9 rfl) rfl (by show 2 * 0 + _ ≤ _; exact Nat.le_of_eq rfl) (hb hby at_88) (fun _ _ => ⟨rfl, e16, (by decide : 7 + 0 ≤ _), (by decide : 22 + 0 ≤ _)⟩)
      dsimp only [Pt.U, Pt.locs, Pt.cells, Pt.slots] at X19 l19 y19 z19 st19 hQ19
      rw [l19, y19, z19] at X19
      obtain ⟨rfl, N19q, KK19, EE19, FL19, FN19⟩ := hQ19
      have N19 := Fr.app N16 N19q
      have K20 : Keep h0 T19.heap [] := (K14.trans KK19 (allS (Or.inr sz_b11) all0))
      have z20 : n0 ≤ T19.heap.size := (Nat.le_trans z14 KK19.1)
      have O20 : Old Z n0 T19.heap := O14.keep KK19 (allS g_b11 all0)
      have C20 : CHr Z EL s.vm h0 T3.vm T19.heap := C14.trans (CHr.keep KK19 (allS (Safe.exa hZ.alike EE13 (by decide) (by decide)) all0) C14.1)
      have hk20 : _ ≤ T19.heap.size := Nat.le_trans hk14 KK19.1
      have fin19 : FF (Native.java_lang_Math.nans.pick64 true (18442240474082181120 : UInt64) (FP.i2d p1)) := own_f1 (own_fi _)
      refine DnW.by (U' := T19.setTop (mkF m 91 #[.val (.int p0), .val (.int p1), .val (.int p2), .val (.int p3), .val (.int p4), .val (.int p5), .val (.ref b1), .val (.ref b11), .val (.int (p0 &&& (3 : Int32))), .val (.int (1 : Int32))] [])) (fun _ ks => st19.trans ks) ?_
      refine DnW.by (U' := T19.setTop (mkF m 93 #[.val (.int p0), .val (.int p1), .val (.int p2), .val (.int p3), .val (.int p4), .val (.int p5), .val (.ref b1), .val (.ref b11), .val (.int (p0 &&& (3 : Int32))), .val (.int (1 : Int32))] [(.int (1 : Int32))])) (fun _ ks => XS.iload X19.here hx rfl (hb hby at_91) rfl ks) ?_
      refine DnW.by (U' := T19.setTop (mkF m 96 #[.val (.int p0), .val (.int p1), .val (.int p2), .val (.int p3), .val (.int p4), .val (.int p5), .val (.ref b1), .val (.ref b11), .val (.int (p0 &&& (3 : Int32))), .val (.int (1 : Int32))] [])) (fun _ ks => XS.ifNo X19.here hx rfl (hb hby at_93) rfl (by decide) ks) ?_
      refine DnW.by (U' := T19.setTop (mkF m 98 #[.val (.int p0), .val (.int p1), .val (.int p2), .val (.int p3), .val (.int p4), .val (.int p5), .val (.ref b1), .val (.ref b11), .val (.int (p0 &&& (3 : Int32))), .val (.int (1 : Int32))] [(.ref b11)])) (fun _ ks => XS.aload X19.here hx rfl (hb hby at_96) rfl rfl ks) ?_
      obtain ⟨cq21, kq21, qa21, qb21, qc21⟩ := isOf hZ rfl EE19
      obtain ⟨_, _, ⟨T21, L21, k21, n21⟩, -, X21, ⟨Lc21, hQ21, l21, y21, z21⟩, st21⟩ := X19.virtualBack hx (y := (⟨"com/example/nadir/nadir/HeldKey", "isSampled", "()Z"⟩ : MethodName)) (z := (⟨"com/example/nadir/nadir/HeldKey", "isSampled", "()Z"⟩ : MethodName)) hown (mvT hZ (hw _ (List.mem_of_getElem? (i := 92) rfl))) (mvT hZ (hw _ (List.mem_of_getElem? (i := 93) rfl))) (notFace_of_selects (args := #[]) (mvT hZ (hw _ (List.mem_of_getElem? (i := 95) rfl)))) (mvT hZ (hw _ (List.mem_of_getElem? (i := 95) rfl))) (mvT hZ (hw _ (List.mem_of_getElem? (i := 94) rfl))) (by decide) (backOf (W := 0) (rm12 l Z a0 hw [] b11 (Native.java_lang_Math.nans.pick64 true (18442240474082181120 : UInt64) (FP.i2d p1)) T19.heap n0 z20 FL19) hZ (hw _ (List.mem_of_getElem? (i := 96) rfl)) (hw _ (List.mem_of_getElem? (i := 30) rfl)) (by decide) (by decide)) qa21 qc21 (g := (mkF m 98 #[.val (.int p0), .val (.int p1), .val (.int p2), .val (.int p3), .val (.int p4), .val (.int p5), .val (.ref b1), .val (.ref b11), .val (.int (p0 &&& (3 : Int32))), .val (.int (1 : Int32))] [(.ref b11)])) rfl (by rw [hml]; rfl) (Steps.refl _) (argsL := []) (rest := []) (lenOf pd8 rfl) rfl (by show 2 * 0 + _ ≤ _; exact Nat.le_of_eq rfl) (hb hby at_98) (fun _ _ => ⟨rfl, rfl, (by decide : 7 + 0 ≤ _), (by decide : 22 + 0 ≤ _)⟩)
      dsimp only [Pt.U, Pt.locs, Pt.cells, Pt.slots] at X21 l21 y21 z21 st21 hQ21
      rw [l21, y21, z21] at X21
      obtain ⟨rfl, N21q, e21⟩ := hQ21
      have N21 := Fr.app N19 N21q
      refine DnW.by (U' := T21.setTop (mkF m 101 #[.val (.int p0), .val (.int p1), .val (.int p2), .val (.int p3), .val (.int p4), .val (.int p5), .val (.ref b1), .val (.ref b11), .val (.int (p0 &&& (3 : Int32))), .val (.int (1 : Int32))] [(.int (isS b11 (Native.java_lang_Math.nans.pick64 true (18442240474082181120 : UInt64) (FP.i2d p1))))])) (fun _ ks => st21.trans ks) ?_
      rw [show (isS b11 (Native.java_lang_Math.nans.pick64 true (18442240474082181120 : UInt64) (FP.i2d p1))) = (1 : Int32) from own_is1 _ fin19]
      refine DnW.by (U' := T21.setTop (mkF m 104 #[.val (.int p0), .val (.int p1), .val (.int p2), .val (.int p3), .val (.int p4), .val (.int p5), .val (.ref b1), .val (.ref b11), .val (.int (p0 &&& (3 : Int32))), .val (.int (1 : Int32))] [])) (fun _ ks => XS.ifNo X21.here hx rfl (hb hby at_101) rfl (by decide) ks) ?_
      refine DnW.by (U' := T21.setTop (mkF m 105 #[.val (.int p0), .val (.int p1), .val (.int p2), .val (.int p3), .val (.int p4), .val (.int p5), .val (.ref b1), .val (.ref b11), .val (.int (p0 &&& (3 : Int32))), .val (.int (1 : Int32))] [(.int (1 : Int32))])) (fun _ ks => XS.iconst X21.here hx rfl (hb hby at_104)  ks) ?_
      refine DnW.by (U' := T21.setTop (mkF m 109 #[.val (.int p0), .val (.int p1), .val (.int p2), .val (.int p3), .val (.int p4), .val (.int p5), .val (.ref b1), .val (.ref b11), .val (.int (p0 &&& (3 : Int32))), .val (.int (1 : Int32))] [(.int (1 : Int32))])) (fun _ ks => XS.goto X21.here hx rfl (pc0 := 105) (pc' := 109) rfl (hb hby at_105) (by decide) (by decide) ks) ?_
      refine DnW.by (U' := T21.setTop (mkF m 111 #[.val (.int p0), .val (.int p1), .val (.int p2), .val (.int p3), .val (.int p4), .val (.int p5), .val (.ref b1), .val (.ref b11), .val (.int (p0 &&& (3 : Int32))), .val (.int (1 : Int32))] [])) (fun _ ks => XS.istore X21.here hx rfl (hb hby at_109) rfl (l' := #[.val (.int p0), .val (.int p1), .val (.int p2), .val (.int p3), .val (.int p4), .val (.int p5), .val (.ref b1), .val (.ref b11), .val (.int (p0 &&& (3 : Int32))), .val (.int (1 : Int32))]) rfl ks) ?_
      refine DnW.by (U' := T21.setTop (mkF m 113 #[.val (.int p0), .val (.int p1), .val (.int p2), .val (.int p3), .val (.int p4), .val (.int p5), .val (.ref b1), .val (.ref b11), .val (.int (p0 &&& (3 : Int32))), .val (.int (1 : Int32))] [(.int (p0 &&& (3 : Int32)))])) (fun _ ks => XS.iload X21.here hx rfl (hb hby at_111) rfl ks) ?_
      refine DnW.by (U' := T21.setTop (mkF m 114 #[.val (.int p0), .val (.int p1), .val (.int p2), .val (.int p3), .val (.int p4), .val (.int p5), .val (.ref b1), .val (.ref b11), .val (.int (p0 &&& (3 : Int32))), .val (.int (1 : Int32))] [(.int (2 : Int32)), (.int (p0 &&& (3 : Int32)))])) (fun _ ks => XS.iconst X21.here hx rfl (hb hby at_113)  ks) ?_
      by_cases c114_22 : (p0 &&& (3 : Int32)) < (2 : Int32)
      ·
        refine DnW.by (U' := T21.setTop (mkF m 127 #[.val (.int p0), .val (.int p1), .val (.int p2), .val (.int p3), .val (.int p4), .val (.int p5), .val (.ref b1), .val (.ref b11), .val (.int (p0 &&& (3 : Int32))), .val (.int (1 : Int32))] [])) (fun _ ks => XS.icmpYes X21.here hx rfl (pc0 := 114) (pc' := 127) rfl (hb hby at_114) rfl (tlt c114_22).1 (by decide) (by decide) ks) ?_
        refine DnW.by (U' := T21.setTop (mkF m 129 #[.val (.int p0), .val (.int p1), .val (.int p2), .val (.int p3), .val (.int p4), .val (.int p5), .val (.ref b1), .val (.ref b11), .val (.int (p0 &&& (3 : Int32))), .val (.int (1 : Int32))] [(.int (p0 &&& (3 : Int32)))])) (fun _ ks => XS.iload X21.here hx rfl (hb hby at_127) rfl ks) ?_
        refine DnW.by (U' := T21.setTop (mkF m 130 #[.val (.int p0), .val (.int p1), .val (.int p2), .val (.int p3), .val (.int p4), .val (.int p5), .val (.ref b1), .val (.ref b11), .val (.int (p0 &&& (3 : Int32))), .val (.int (1 : Int32))] [(.int (3 : Int32)), (.int (p0 &&& (3 : Int32)))])) (fun _ ks => XS.iconst X21.here hx rfl (hb hby at_129)  ks) ?_
        refine DnW.by (U' := T21.setTop (mkF m 143 #[.val (.int p0), .val (.int p1), .val (.int p2), .val (.int p3), .val (.int p4), .val (.int p5), .val (.ref b1), .val (.ref b11), .val (.int (p0 &&& (3 : Int32))), .val (.int (1 : Int32))] [])) (fun _ ks => XS.icmpYes X21.here hx rfl (pc0 := 130) (pc' := 143) rfl (hb hby at_130) rfl (tlt (Int32.lt_trans c114_22 (by decide))).1 (by decide) (by decide) ks) ?_
        refine DnW.by (U' := T21.setTop (mkF m 145 #[.val (.int p0), .val (.int p1), .val (.int p2), .val (.int p3), .val (.int p4), .val (.int p5), .val (.ref b1), .val (.ref b11), .val (.int (p0 &&& (3 : Int32))), .val (.int (1 : Int32))] [(.int (1 : Int32))])) (fun _ ks => XS.iload X21.here hx rfl (hb hby at_143) rfl ks) ?_
        refine DnW.by (U' := T21.setTop (mkF m 148 #[.val (.int p0), .val (.int p1), .val (.int p2), .val (.int p3), .val (.int p4), .val (.int p5), .val (.ref b1), .val (.ref b11), .val (.int (p0 &&& (3 : Int32))), .val (.int (1 : Int32))] [])) (fun _ ks => XS.ifNo X21.here hx rfl (hb hby at_145) rfl (by decide) ks) ?_
        refine DnW.by (U' := T21.setTop (mkF m 150 #[.val (.int p0), .val (.int p1), .val (.int p2), .val (.int p3), .val (.int p4), .val (.int p5), .val (.ref b1), .val (.ref b11), .val (.int (p0 &&& (3 : Int32))), .val (.int (1 : Int32))] [(.ref b11)])) (fun _ ks => XS.aload X21.here hx rfl (hb hby at_148) rfl rfl ks) ?_
        obtain ⟨cq23, kq23, qa23, qb23, qc23⟩ := isOf hZ e21 EE19
        obtain ⟨_, _, ⟨T23, L23, k23, n23⟩, -, X23, ⟨Lc23, hQ23, l23, y23, z23⟩, st23⟩ := X21.virtualBack hx (y := (⟨"com/example/nadir/nadir/HeldKey", "isSampled", "()Z"⟩ : MethodName)) (z := (⟨"com/example/nadir/nadir/HeldKey", "isSampled", "()Z"⟩ : MethodName)) hown (mvT hZ (hw _ (List.mem_of_getElem? (i := 92) rfl))) (mvT hZ (hw _ (List.mem_of_getElem? (i := 93) rfl))) (notFace_of_selects (args := #[]) (mvT hZ (hw _ (List.mem_of_getElem? (i := 95) rfl)))) (mvT hZ (hw _ (List.mem_of_getElem? (i := 95) rfl))) (mvT hZ (hw _ (List.mem_of_getElem? (i := 94) rfl))) (by decide) (backOf (W := 0) (rm12 l Z a0 hw [] b11 (Native.java_lang_Math.nans.pick64 true (18442240474082181120 : UInt64) (FP.i2d p1)) T19.heap n0 z20 FL19) hZ (hw _ (List.mem_of_getElem? (i := 96) rfl)) (hw _ (List.mem_of_getElem? (i := 30) rfl)) (by decide) (by decide)) qa23 qc23 (g := (mkF m 150 #[.val (.int p0), .val (.int p1), .val (.int p2), .val (.int p3), .val (.int p4), .val (.int p5), .val (.ref b1), .val (.ref b11), .val (.int (p0 &&& (3 : Int32))), .val (.int (1 : Int32))] [(.ref b11)])) rfl (by rw [hml]; rfl) (Steps.refl _) (argsL := []) (rest := []) (lenOf pd8 rfl) rfl (by show 2 * 0 + _ ≤ _; exact Nat.le_of_eq rfl) (hb hby at_150) (fun _ _ => ⟨rfl, e21, (by decide : 7 + 0 ≤ _), (by decide : 22 + 0 ≤ _)⟩)
        dsimp only [Pt.U, Pt.locs, Pt.cells, Pt.slots] at X23 l23 y23 z23 st23 hQ23
        rw [l23, y23, z23] at X23
        obtain ⟨rfl, N23q, e23⟩ := hQ23
        have N23 := Fr.app N21 N23q
        refine DnW.by (U' := T23.setTop (mkF m 153 #[.val (.int p0), .val (.int p1), .val (.int p2), .val (.int p3), .val (.int p4), .val (.int p5), .val (.ref b1), .val (.ref b11), .val (.int (p0 &&& (3 : Int32))), .val (.int (1 : Int32))] [(.int (isS b11 (Native.java_lang_Math.nans.pick64 true (18442240474082181120 : UInt64) (FP.i2d p1))))])) (fun _ ks => st23.trans ks) ?_
        rw [show (isS b11 (Native.java_lang_Math.nans.pick64 true (18442240474082181120 : UInt64) (FP.i2d p1))) = (1 : Int32) from own_is1 _ fin19]
        refine DnW.by (U' := T23.setTop (mkF m 155 #[.val (.int p0), .val (.int p1), .val (.int p2), .val (.int p3), .val (.int p4), .val (.int p5), .val (.ref b1), .val (.ref b11), .val (.int (p0 &&& (3 : Int32))), .val (.int (1 : Int32))] [(.int (p0 &&& (3 : Int32))), (.int (1 : Int32))])) (fun _ ks => XS.iload X23.here hx rfl (hb hby at_153) rfl ks) ?_
        refine DnW.by (U' := T23.setTop (mkF m 156 #[.val (.int p0), .val (.int p1), .val (.int p2), .val (.int p3), .val (.int p4), .val (.int p5), .val (.ref b1), .val (.ref b11), .val (.int (p0 &&& (3 : Int32))), .val (.int (1 : Int32))] [(.int (1 : Int32)), (.int (p0 &&& (3 : Int32))), (.int (1 : Int32))])) (fun _ ks => XS.iconst X23.here hx rfl (hb hby at_155)  ks) ?_
        refine DnW.by (U' := T23.setTop (mkF m 159 #[.val (.int p0), .val (.int p1), .val (.int p2), .val (.int p3), .val (.int p4), .val (.int p5), .val (.ref b1), .val (.ref b11), .val (.int (p0 &&& (3 : Int32))), .val (.int (1 : Int32))] [(.int (1 : Int32))])) (fun _ ks => XS.icmpNo X23.here hx rfl (hb hby at_156) rfl (flt c78_17).1 ks) ?_
        refine DnW.by (U' := T23.setTop (mkF m 160 #[.val (.int p0), .val (.int p1), .val (.int p2), .val (.int p3), .val (.int p4), .val (.int p5), .val (.ref b1), .val (.ref b11), .val (.int (p0 &&& (3 : Int32))), .val (.int (1 : Int32))] [(.int (1 : Int32)), (.int (1 : Int32))])) (fun _ ks => XS.iconst X23.here hx rfl (hb hby at_159)  ks) ?_
        refine DnW.by (U' := T23.setTop (mkF m 164 #[.val (.int p0), .val (.int p1), .val (.int p2), .val (.int p3), .val (.int p4), .val (.int p5), .val (.ref b1), .val (.ref b11), .val (.int (p0 &&& (3 : Int32))), .val (.int (1 : Int32))] [(.int (1 : Int32)), (.int (1 : Int32))])) (fun _ ks => XS.goto X23.here hx rfl (pc0 := 160) (pc' := 164) rfl (hb hby at_160) (by decide) (by decide) ks) ?_
        refine DnW.by (U' := T23.setTop (mkF m 167 #[.val (.int p0), .val (.int p1), .val (.int p2), .val (.int p3), .val (.int p4), .val (.int p5), .val (.ref b1), .val (.ref b11), .val (.int (p0 &&& (3 : Int32))), .val (.int (1 : Int32))] [])) (fun _ ks => XS.icmpNo X23.here hx rfl (hb hby at_164) rfl (by decide) ks) ?_
        refine DnW.by (U' := T23.setTop (mkF m 168 #[.val (.int p0), .val (.int p1), .val (.int p2), .val (.int p3), .val (.int p4), .val (.int p5), .val (.ref b1), .val (.ref b11), .val (.int (p0 &&& (3 : Int32))), .val (.int (1 : Int32))] [(.int (1 : Int32))])) (fun _ ks => XS.iconst X23.here hx rfl (hb hby at_167)  ks) ?_
        refine DnW.by (U' := T23.setTop (mkF m 172 #[.val (.int p0), .val (.int p1), .val (.int p2), .val (.int p3), .val (.int p4), .val (.int p5), .val (.ref b1), .val (.ref b11), .val (.int (p0 &&& (3 : Int32))), .val (.int (1 : Int32))] [(.int (1 : Int32))])) (fun _ ks => XS.goto X23.here hx rfl (pc0 := 168) (pc' := 172) rfl (hb hby at_168) (by decide) (by decide) ks) ?_
        refine DnW.by (U' := T23.setTop (mkF m 174 #[.val (.int p0), .val (.int p1), .val (.int p2), .val (.int p3), .val (.int p4), .val (.int p5), .val (.ref b1), .val (.ref b11), .val (.int (p0 &&& (3 : Int32))), .val (.int (1 : Int32))] [])) (fun _ ks => XS.istore X23.here hx rfl (hb hby at_172) rfl (l' := #[.val (.int p0), .val (.int p1), .val (.int p2), .val (.int p3), .val (.int p4), .val (.int p5), .val (.ref b1), .val (.ref b11), .val (.int (p0 &&& (3 : Int32))), .val (.int (1 : Int32))]) rfl ks) ?_
        refine DnW.by (U' := T23.setTop (mkF m 176 #[.val (.int p0), .val (.int p1), .val (.int p2), .val (.int p3), .val (.int p4), .val (.int p5), .val (.ref b1), .val (.ref b11), .val (.int (p0 &&& (3 : Int32))), .val (.int (1 : Int32))] [(.int (1 : Int32))])) (fun _ ks => XS.iload X23.here hx rfl (hb hby at_174) rfl ks) ?_
        refine DnW.out X23 hS3 (by rw [e23]; exact hk20) (v := (some (.int (1 : Int32)))) (fun h => by rw [Bd.returns] at h; cases h) (BodyLoose.notSynchronized Bd) (fun _ hr => retN X23 hx (t := .boolean) Bd.returns (by simp) (hb hby at_176) hr) (by decide) (by decide) ?_ ?_
        · rw [e23]; exact ⟨rfl, N23⟩
        · rw [hh, e23]; exact C20.trans (CHv.at X23 hZ hEL C20.1)
      ·
        refine DnW.by (U' := T21.setTop (mkF m 117 #[.val (.int p0), .val (.int p1), .val (.int p2), .val (.int p3), .val (.int p4), .val (.int p5), .val (.ref b1), .val (.ref b11), .val (.int (p0 &&& (3 : Int32))), .val (.int (1 : Int32))] [])) (fun _ ks => XS.icmpNo X21.here hx rfl (hb hby at_114) rfl (flt c114_22).1 ks) ?_
        refine DnW.by (U' := T21.setTop (mkF m 119 #[.val (.int p0), .val (.int p1), .val (.int p2), .val (.int p3), .val (.int p4), .val (.int p5), .val (.ref b1), .val (.ref b11), .val (.int (p0 &&& (3 : Int32))), .val (.int (1 : Int32))] [(.ref b11)])) (fun _ ks => XS.aload X21.here hx rfl (hb hby at_117) rfl rfl ks) ?_
        refine DnW.by (U' := T21.setTop (mkF m 120 #[.val (.int p0), .val (.int p1), .val (.int p2), .val (.int p3), .val (.int p4), .val (.int p5), .val (.ref b1), .val (.ref b11), .val (.int (p0 &&& (3 : Int32))), .val (.int (1 : Int32))] [(.int (1 : Int32)), (.ref b11)])) (fun _ ks => XS.iconst X21.here hx rfl (hb hby at_119)  ks) ?_
        refine DnW.by (U' := T21.setTop (mkF m 122 #[.val (.int p0), .val (.int p1), .val (.int p2), .val (.int p3), .val (.int p4), .val (.int p5), .val (.ref b1), .val (.ref b11), .val (.int (p0 &&& (3 : Int32))), .val (.int (1 : Int32))] [(.ref b1), (.int (1 : Int32)), (.ref b11)])) (fun _ ks => XS.aload X21.here hx rfl (hb hby at_120) rfl rfl ks) ?_
        refine DnW.by (U' := T21.setTop (mkF m 123 #[.val (.int p0), .val (.int p1), .val (.int p2), .val (.int p3), .val (.int p4), .val (.int p5), .val (.ref b1), .val (.ref b11), .val (.int (p0 &&& (3 : Int32))), .val (.int (1 : Int32))] [(.int p2), (.ref b1), (.int (1 : Int32)), (.ref b11)])) (fun _ ks => XS.iloadN X21.here hx rfl (hb hby at_122) rfl ks) ?_
        refine DnW.by (U' := T21.setTop (mkF m 124 #[.val (.int p0), .val (.int p1), .val (.int p2), .val (.int p3), .val (.int p4), .val (.int p5), .val (.ref b1), .val (.ref b11), .val (.int (p0 &&& (3 : Int32))), .val (.int (1 : Int32))] [(.double (FP.i2d p2)), (.ref b1), (.int (1 : Int32)), (.ref b11)])) (fun _ ks => XS.i2dS X21.here hx rfl (hb hby at_123) rfl rfl ks) ?_
        obtain ⟨cq24, kq24, qa24, qb24, qc24⟩ := isOf hZ e21 EE19
        obtain ⟨_, _, ⟨T24, L24, k24, n24⟩, -, X24, ⟨Lc24, hQ24, l24, y24, z24⟩, st24⟩ := X21.virtualBack hx (y := (⟨"com/example/nadir/nadir/HeldKey", "sampledBy", "(ILcom/example/nadir/nadir/RankedKey;D)V"⟩ : MethodName)) (z := (⟨"com/example/nadir/nadir/HeldKey", "sampledBy", "(ILcom/example/nadir/nadir/RankedKey;D)V"⟩ : MethodName)) hown (mvT hZ (hw _ (List.mem_of_getElem? (i := 112) rfl))) (mvT hZ (hw _ (List.mem_of_getElem? (i := 113) rfl))) (notFace_of_selects (args := #[]) (mvT hZ (hw _ (List.mem_of_getElem? (i := 115) rfl)))) (mvT hZ (hw _ (List.mem_of_getElem? (i := 115) rfl))) (mvT hZ (hw _ (List.mem_of_getElem? (i := 114) rfl))) (by decide) (backOf (W := 0) (rm16 l Z a0 hw [] b11 (1 : Int32) b1 (FP.i2d p2) (Native.java_lang_Math.nans.pick64 true (18442240474082181120 : UInt64) (FP.i2d p1)) T19.heap n0 z20 g_b11 EE19 FL19 FN19 (own_nn fin19) (own_nn (own_fi _))) hZ (hw _ (List.mem_of_getElem? (i := 116) rfl)) (hw _ (List.mem_of_getElem? (i := 30) rfl)) (by decide) (by decide)) qa24 qc24 (g := (mkF m 124 #[.val (.int p0), .val (.int p1), .val (.int p2), .val (.int p3), .val (.int p4), .val (.int p5), .val (.ref b1), .val (.ref b11), .val (.int (p0 &&& (3 : Int32))), .val (.int (1 : Int32))] [(.double (FP.i2d p2)), (.ref b1), (.int (1 : Int32)), (.ref b11)])) rfl (by rw [hml]; rfl) (Steps.refl _) (argsL := [(.int (1 : Int32)), (.ref b1), (.double (FP.i2d p2))]) (rest := []) (lenOf pd9 rfl) rfl (by show 2 * 0 + _ ≤ _; exact Nat.le_of_eq rfl) (hb hby at_124) (fun _ _ => ⟨rfl, e21, (by decide : 7 + 0 ≤ _), (by decide : 22 + 0 ≤ _)⟩)
        dsimp only [Pt.U, Pt.locs, Pt.cells, Pt.slots] at X24 l24 y24 z24 st24 hQ24
        rw [l24, y24, z24] at X24
        obtain ⟨rfl, N24q, KK24, EE24, FL24, FN24⟩ := hQ24
        have N24 := Fr.app N21 N24q
        have K25 : Keep h0 T24.heap [] := (K20.trans KK24 (allS (Or.inr sz_b11) all0))
        have z25 : n0 ≤ T24.heap.size := (Nat.le_trans z20 KK24.1)
        have O25 : Old Z n0 T24.heap := O20.keep KK24 (allS g_b11 all0)
        have C25 : CHr Z EL s.vm h0 T3.vm T24.heap := C20.trans (CHr.keep KK24 (allS (Safe.exa hZ.alike EE19 (by decide) (by decide)) all0) C20.1)
        have hk25 : _ ≤ T24.heap.size := Nat.le_trans hk20 KK24.1
        have fin24 : FF (Native.java_lang_Math.nans.pick64 true (Native.java_lang_Math.nans.pick64 true (18442240474082181120 : UInt64) (FP.i2d p1)) (FP.i2d p2)) := own_f2 fin19 (own_fi _)
        refine DnW.by (U' := T24.setTop (mkF m 127 #[.val (.int p0), .val (.int p1), .val (.int p2), .val (.int p3), .val (.int p4), .val (.int p5), .val (.ref b1), .val (.ref b11), .val (.int (p0 &&& (3 : Int32))), .val (.int (1 : Int32))] [])) (fun _ ks => st24.trans ks) ?_
        refine DnW.by (U' := T24.setTop (mkF m 129 #[.val (.int p0), .val (.int p1), .val (.int p2), .val (.int p3), .val (.int p4), .val (.int p5), .val (.ref b1), .val (.ref b11), .val (.int (p0 &&& (3 : Int32))), .val (.int (1 : Int32))] [(.int (p0 &&& (3 : Int32)))])) (fun _ ks => XS.iload X24.here hx rfl (hb hby at_127) rfl ks) ?_
        refine DnW.by (U' := T24.setTop (mkF m 130 #[.val (.int p0), .val (.int p1), .val (.int p2), .val (.int p3), .val (.int p4), .val (.int p5), .val (.ref b1), .val (.ref b11), .val (.int (p0 &&& (3 : Int32))), .val (.int (1 : Int32))] [(.int (3 : Int32)), (.int (p0 &&& (3 : Int32)))])) (fun _ ks => XS.iconst X24.here hx rfl (hb hby at_129)  ks) ?_
        by_cases c130_26 : (p0 &&& (3 : Int32)) < (3 : Int32)
        ·
          refine DnW.by (U' := T24.setTop (mkF m 143 #[.val (.int p0), .val (.int p1), .val (.int p2), .val (.int p3), .val (.int p4), .val (.int p5), .val (.ref b1), .val (.ref b11), .val (.int (p0 &&& (3 : Int32))), .val (.int (1 : Int32))] [])) (fun _ ks => XS.icmpYes X24.here hx rfl (pc0 := 130) (pc' := 143) rfl (hb hby at_130) rfl (tlt c130_26).1 (by decide) (by decide) ks) ?_
          refine DnW.by (U' := T24.setTop (mkF m 145 #[.val (.int p0), .val (.int p1), .val (.int p2), .val (.int p3), .val (.int p4), .val (.int p5), .val (.ref b1), .val (.ref b11), .val (.int (p0 &&& (3 : Int32))), .val (.int (1 : Int32))] [(.int (1 : Int32))])) (fun _ ks => XS.iload X24.here hx rfl (hb hby at_143) rfl ks) ?_
          refine DnW.by (U' := T24.setTop (mkF m 148 #[.val (.int p0), .val (.int p1), .val (.int p2), .val (.int p3), .val (.int p4), .val (.int p5), .val (.ref b1), .val (.ref b11), .val (.int (p0 &&& (3 : Int32))), .val (.int (1 : Int32))] [])) (fun _ ks => XS.ifNo X24.here hx rfl (hb hby at_145) rfl (by decide) ks) ?_
          refine DnW.by (U' := T24.setTop (mkF m 150 #[.val (.int p0), .val (.int p1), .val (.int p2), .val (.int p3), .val (.int p4), .val (.int p5), .val (.ref b1), .val (.ref b11), .val (.int (p0 &&& (3 : Int32))), .val (.int (1 : Int32))] [(.ref b11)])) (fun _ ks => XS.aload X24.here hx rfl (hb hby at_148) rfl rfl ks) ?_
          obtain ⟨cq27, kq27, qa27, qb27, qc27⟩ := isOf hZ rfl EE24
          obtain ⟨_, _, ⟨T27, L27, k27, n27⟩, -, X27, ⟨Lc27, hQ27, l27, y27, z27⟩, st27⟩ := X24.virtualBack hx (y := (⟨"com/example/nadir/nadir/HeldKey", "isSampled", "()Z"⟩ : MethodName)) (z := (⟨"com/example/nadir/nadir/HeldKey", "isSampled", "()Z"⟩ : MethodName)) hown (mvT hZ (hw _ (List.mem_of_getElem? (i := 92) rfl))) (mvT hZ (hw _ (List.mem_of_getElem? (i := 93) rfl))) (notFace_of_selects (args := #[]) (mvT hZ (hw _ (List.mem_of_getElem? (i := 95) rfl)))) (mvT hZ (hw _ (List.mem_of_getElem? (i := 95) rfl))) (mvT hZ (hw _ (List.mem_of_getElem? (i := 94) rfl))) (by decide) (backOf (W := 0) (rm12 l Z a0 hw [] b11 (Native.java_lang_Math.nans.pick64 true (Native.java_lang_Math.nans.pick64 true (18442240474082181120 : UInt64) (FP.i2d p1)) (FP.i2d p2)) T24.heap n0 z25 FL24) hZ (hw _ (List.mem_of_getElem? (i := 96) rfl)) (hw _ (List.mem_of_getElem? (i := 30) rfl)) (by decide) (by decide)) qa27 qc27 (g := (mkF m 150 #[.val (.int p0), .val (.int p1), .val (.int p2), .val (.int p3), .val (.int p4), .val (.int p5), .val (.ref b1), .val (.ref b11), .val (.int (p0 &&& (3 : Int32))), .val (.int (1 : Int32))] [(.ref b11)])) rfl (by rw [hml]; rfl) (Steps.refl _) (argsL := []) (rest := []) (lenOf pd8 rfl) rfl (by show 2 * 0 + _ ≤ _; exact Nat.le_of_eq rfl) (hb hby at_150) (fun _ _ => ⟨rfl, rfl, (by decide : 7 + 0 ≤ _), (by decide : 22 + 0 ≤ _)⟩)
          dsimp only [Pt.U, Pt.locs, Pt.cells, Pt.slots] at X27 l27 y27 z27 st27 hQ27
          rw [l27, y27, z27] at X27
          obtain ⟨rfl, N27q, e27⟩ := hQ27
          have N27 := Fr.app N24 N27q
          refine DnW.by (U' := T27.setTop (mkF m 153 #[.val (.int p0), .val (.int p1), .val (.int p2), .val (.int p3), .val (.int p4), .val (.int p5), .val (.ref b1), .val (.ref b11), .val (.int (p0 &&& (3 : Int32))), .val (.int (1 : Int32))] [(.int (isS b11 (Native.java_lang_Math.nans.pick64 true (Native.java_lang_Math.nans.pick64 true (18442240474082181120 : UInt64) (FP.i2d p1)) (FP.i2d p2))))])) (fun _ ks => st27.trans ks) ?_
          rw [show (isS b11 (Native.java_lang_Math.nans.pick64 true (Native.java_lang_Math.nans.pick64 true (18442240474082181120 : UInt64) (FP.i2d p1)) (FP.i2d p2))) = (1 : Int32) from own_is1 _ fin24]
          refine DnW.by (U' := T27.setTop (mkF m 155 #[.val (.int p0), .val (.int p1), .val (.int p2), .val (.int p3), .val (.int p4), .val (.int p5), .val (.ref b1), .val (.ref b11), .val (.int (p0 &&& (3 : Int32))), .val (.int (1 : Int32))] [(.int (p0 &&& (3 : Int32))), (.int (1 : Int32))])) (fun _ ks => XS.iload X27.here hx rfl (hb hby at_153) rfl ks) ?_
          refine DnW.by (U' := T27.setTop (mkF m 156 #[.val (.int p0), .val (.int p1), .val (.int p2), .val (.int p3), .val (.int p4), .val (.int p5), .val (.ref b1), .val (.ref b11), .val (.int (p0 &&& (3 : Int32))), .val (.int (1 : Int32))] [(.int (1 : Int32)), (.int (p0 &&& (3 : Int32))), (.int (1 : Int32))])) (fun _ ks => XS.iconst X27.here hx rfl (hb hby at_155)  ks) ?_
          refine DnW.by (U' := T27.setTop (mkF m 159 #[.val (.int p0), .val (.int p1), .val (.int p2), .val (.int p3), .val (.int p4), .val (.int p5), .val (.ref b1), .val (.ref b11), .val (.int (p0 &&& (3 : Int32))), .val (.int (1 : Int32))] [(.int (1 : Int32))])) (fun _ ks => XS.icmpNo X27.here hx rfl (hb hby at_156) rfl (flt c78_17).1 ks) ?_
          refine DnW.by (U' := T27.setTop (mkF m 160 #[.val (.int p0), .val (.int p1), .val (.int p2), .val (.int p3), .val (.int p4), .val (.int p5), .val (.ref b1), .val (.ref b11), .val (.int (p0 &&& (3 : Int32))), .val (.int (1 : Int32))] [(.int (1 : Int32)), (.int (1 : Int32))])) (fun _ ks => XS.iconst X27.here hx rfl (hb hby at_159)  ks) ?_
          refine DnW.by (U' := T27.setTop (mkF m 164 #[.val (.int p0), .val (.int p1), .val (.int p2), .val (.int p3), .val (.int p4), .val (.int p5), .val (.ref b1), .val (.ref b11), .val (.int (p0 &&& (3 : Int32))), .val (.int (1 : Int32))] [(.int (1 : Int32)), (.int (1 : Int32))])) (fun _ ks => XS.goto X27.here hx rfl (pc0 := 160) (pc' := 164) rfl (hb hby at_160) (by decide) (by decide) ks) ?_
          refine DnW.by (U' := T27.setTop (mkF m 167 #[.val (.int p0), .val (.int p1), .val (.int p2), .val (.int p3), .val (.int p4), .val (.int p5), .val (.ref b1), .val (.ref b11), .val (.int (p0 &&& (3 : Int32))), .val (.int (1 : Int32))] [])) (fun _ ks => XS.icmpNo X27.here hx rfl (hb hby at_164) rfl (by decide) ks) ?_
          refine DnW.by (U' := T27.setTop (mkF m 168 #[.val (.int p0), .val (.int p1), .val (.int p2), .val (.int p3), .val (.int p4), .val (.int p5), .val (.ref b1), .val (.ref b11), .val (.int (p0 &&& (3 : Int32))), .val (.int (1 : Int32))] [(.int (1 : Int32))])) (fun _ ks => XS.iconst X27.here hx rfl (hb hby at_167)  ks) ?_
          refine DnW.by (U' := T27.setTop (mkF m 172 #[.val (.int p0), .val (.int p1), .val (.int p2), .val (.int p3), .val (.int p4), .val (.int p5), .val (.ref b1), .val (.ref b11), .val (.int (p0 &&& (3 : Int32))), .val (.int (1 : Int32))] [(.int (1 : Int32))])) (fun _ ks => XS.goto X27.here hx rfl (pc0 := 168) (pc' := 172) rfl (hb hby at_168) (by decide) (by decide) ks) ?_
          refine DnW.by (U' := T27.setTop (mkF m 174 #[.val (.int p0), .val (.int p1), .val (.int p2), .val (.int p3), .val (.int p4), .val (.int p5), .val (.ref b1), .val (.ref b11), .val (.int (p0 &&& (3 : Int32))), .val (.int (1 : Int32))] [])) (fun _ ks => XS.istore X27.here hx rfl (hb hby at_172) rfl (l' := #[.val (.int p0), .val (.int p1), .val (.int p2), .val (.int p3), .val (.int p4), .val (.int p5), .val (.ref b1), .val (.ref b11), .val (.int (p0 &&& (3 : Int32))), .val (.int (1 : Int32))]) rfl ks) ?_
          refine DnW.by (U' := T27.setTop (mkF m 176 #[.val (.int p0), .val (.int p1), .val (.int p2), .val (.int p3), .val (.int p4), .val (.int p5), .val (.ref b1), .val (.ref b11), .val (.int (p0 &&& (3 : Int32))), .val (.int (1 : Int32))] [(.int (1 : Int32))])) (fun _ ks => XS.iload X27.here hx rfl (hb hby at_174) rfl ks) ?_
          refine DnW.out X27 hS3 (by rw [e27]; exact hk25) (v := (some (.int (1 : Int32)))) (fun h => by rw [Bd.returns] at h; cases h) (BodyLoose.notSynchronized Bd) (fun _ hr => retN X27 hx (t := .boolean) Bd.returns (by simp) (hb hby at_176) hr) (by decide) (by decide) ?_ ?_
          · rw [e27]; exact ⟨rfl, N27⟩
          · rw [hh, e27]; exact C25.trans (CHv.at X27 hZ hEL C25.1)
        ·
          refine DnW.by (U' := T24.setTop (mkF m 133 #[.val (.int p0), .val (.int p1), .val (.int p2), .val (.int p3), .val (.int p4), .val (.int p5), .val (.ref b1), .val (.ref b11), .val (.int (p0 &&& (3 : Int32))), .val (.int (1 : Int32))] [])) (fun _ ks => XS.icmpNo X24.here hx rfl (hb hby at_130) rfl (flt c130_26).1 ks) ?_
          refine DnW.by (U' := T24.setTop (mkF m 135 #[.val (.int p0), .val (.int p1), .val (.int p2), .val (.int p3), .val (.int p4), .val (.int p5), .val (.ref b1), .val (.ref b11), .val (.int (p0 &&& (3 : Int32))), .val (.int (1 : Int32))] [(.ref b11)])) (fun _ ks => XS.aload X24.here hx rfl (hb hby at_133) rfl rfl ks) ?_
          refine DnW.by (U' := T24.setTop (mkF m 136 #[.val (.int p0), .val (.int p1), .val (.int p2), .val (.int p3), .val (.int p4), .val (.int p5), .val (.ref b1), .val (.ref b11), .val (.int (p0 &&& (3 : Int32))), .val (.int (1 : Int32))] [(.int (2 : Int32)), (.ref b11)])) (fun _ ks => XS.iconst X24.here hx rfl (hb hby at_135)  ks) ?_
          refine DnW.by (U' := T24.setTop (mkF m 138 #[.val (.int p0), .val (.int p1), .val (.int p2), .val (.int p3), .val (.int p4), .val (.int p5), .val (.ref b1), .val (.ref b11), .val (.int (p0 &&& (3 : Int32))), .val (.int (1 : Int32))] [(.ref b1), (.int (2 : Int32)), (.ref b11)])) (fun _ ks => XS.aload X24.here hx rfl (hb hby at_136) rfl rfl ks) ?_
          refine DnW.by (U' := T24.setTop (mkF m 139 #[.val (.int p0), .val (.int p1), .val (.int p2), .val (.int p3), .val (.int p4), .val (.int p5), .val (.ref b1), .val (.ref b11), .val (.int (p0 &&& (3 : Int32))), .val (.int (1 : Int32))] [(.int p3), (.ref b1), (.int (2 : Int32)), (.ref b11)])) (fun _ ks => XS.iloadN X24.here hx rfl (hb hby at_138) rfl ks) ?_
          refine DnW.by (U' := T24.setTop (mkF m 140 #[.val (.int p0), .val (.int p1), .val (.int p2), .val (.int p3), .val (.int p4), .val (.int p5), .val (.ref b1), .val (.ref b11), .val (.int (p0 &&& (3 : Int32))), .val (.int (1 : Int32))] [(.double (FP.i2d p3)), (.ref b1), (.int (2 : Int32)), (.ref b11)])) (fun _ ks => XS.i2dS X24.here hx rfl (hb hby at_139) rfl rfl ks) ?_
          obtain ⟨cq28, kq28, qa28, qb28, qc28⟩ := isOf hZ rfl EE24
          obtain ⟨_, _, ⟨T28, L28, k28, n28⟩, -, X28, ⟨Lc28, hQ28, l28, y28, z28⟩, st28⟩ := X24.virtualBack hx (y := (⟨"com/example/nadir/nadir/HeldKey", "sampledBy", "(ILcom/example/nadir/nadir/RankedKey;D)V"⟩ : MethodName)) (z := (⟨"com/example/nadir/nadir/HeldKey", "sampledBy", "(ILcom/example/nadir/nadir/RankedKey;D)V"⟩ : MethodName)) hown (mvT hZ (hw _ (List.mem_of_getElem? (i := 112) rfl))) (mvT hZ (hw _ (List.mem_of_getElem? (i := 113) rfl))) (notFace_of_selects (args := #[]) (mvT hZ (hw _ (List.mem_of_getElem? (i := 115) rfl)))) (mvT hZ (hw _ (List.mem_of_getElem? (i := 115) rfl))) (mvT hZ (hw _ (List.mem_of_getElem? (i := 114) rfl))) (by decide) (backOf (W := 0) (rm16 l Z a0 hw [] b11 (2 : Int32) b1 (FP.i2d p3) (Native.java_lang_Math.nans.pick64 true (Native.java_lang_Math.nans.pick64 true (18442240474082181120 : UInt64) (FP.i2d p1)) (FP.i2d p2)) T24.heap n0 z25 g_b11 EE24 FL24 FN24 (own_nn fin24) (own_nn (own_fi _))) hZ (hw _ (List.mem_of_getElem? (i := 116) rfl)) (hw _ (List.mem_of_getElem? (i := 30) rfl)) (by decide) (by decide)) qa28 qc28 (g := (mkF m 140 #[.val (.int p0), .val (.int p1), .val (.int p2), .val (.int p3), .val (.int p4), .val (.int p5), .val (.ref b1), .val (.ref b11), .val (.int (p0 &&& (3 : Int32))), .val (.int (1 : Int32))] [(.double (FP.i2d p3)), (.ref b1), (.int (2 : Int32)), (.ref b11)])) rfl (by rw [hml]; rfl) (Steps.refl _) (argsL := [(.int (2 : Int32)), (.ref b1), (.double (FP.i2d p3))]) (rest := []) (lenOf pd9 rfl) rfl (by show 2 * 0 + _ ≤ _; exact Nat.le_of_eq rfl) (hb hby at_140) (fun _ _ => ⟨rfl, rfl, (by decide : 7 + 0 ≤ _), (by decide : 22 + 0 ≤ _)⟩)
          dsimp only [Pt.U, Pt.locs, Pt.cells, Pt.slots] at X28 l28 y28 z28 st28 hQ28
          rw [l28, y28, z28] at X28
          obtain ⟨rfl, N28q, KK28, EE28, FL28, FN28⟩ := hQ28
          have N28 := Fr.app N24 N28q
          have K29 : Keep h0 T28.heap [] := (K25.trans KK28 (allS (Or.inr sz_b11) all0))
          have z29 : n0 ≤ T28.heap.size := (Nat.le_trans z25 KK28.1)
          have O29 : Old Z n0 T28.heap := O25.keep KK28 (allS g_b11 all0)
          have C29 : CHr Z EL s.vm h0 T3.vm T28.heap := C25.trans (CHr.keep KK28 (allS (Safe.exa hZ.alike EE24 (by decide) (by decide)) all0) C25.1)
          have hk29 : _ ≤ T28.heap.size := Nat.le_trans hk25 KK28.1
          have fin28 : FF (Native.java_lang_Math.nans.pick64 true (Native.java_lang_Math.nans.pick64 true (Native.java_lang_Math.nans.pick64 true (18442240474082181120 : UInt64) (FP.i2d p1)) (FP.i2d p2)) (FP.i2d p3)) := own_f2 fin24 (own_fi _)
          refine DnW.by (U' := T28.setTop (mkF m 143 #[.val (.int p0), .val (.int p1), .val (.int p2), .val (.int p3), .val (.int p4), .val (.int p5), .val (.ref b1), .val (.ref b11), .val (.int (p0 &&& (3 : Int32))), .val (.int (1 : Int32))] [])) (fun _ ks => st28.trans ks) ?_
          refine DnW.by (U' := T28.setTop (mkF m 145 #[.val (.int p0), .val (.int p1), .val (.int p2), .val (.int p3), .val (.int p4), .val (.int p5), .val (.ref b1), .val (.ref b11), .val (.int (p0 &&& (3 : Int32))), .val (.int (1 : Int32))] [(.int (1 : Int32))])) (fun _ ks => XS.iload X28.here hx rfl (hb hby at_143) rfl ks) ?_
          refine DnW.by (U' := T28.setTop (mkF m 148 #[.val (.int p0), .val (.int p1), .val (.int p2), .val (.int p3), .val (.int p4), .val (.int p5), .val (.ref b1), .val (.ref b11), .val (.int (p0 &&& (3 : Int32))), .val (.int (1 : Int32))] [])) (fun _ ks => XS.ifNo X28.here hx rfl (hb hby at_145) rfl (by decide) ks) ?_
          refine DnW.by (U' := T28.setTop (mkF m 150 #[.val (.int p0), .val (.int p1), .val (.int p2), .val (.int p3), .val (.int p4), .val (.int p5), .val (.ref b1), .val (.ref b11), .val (.int (p0 &&& (3 : Int32))), .val (.int (1 : Int32))] [(.ref b11)])) (fun _ ks => XS.aload X28.here hx rfl (hb hby at_148) rfl rfl ks) ?_
          obtain ⟨cq30, kq30, qa30, qb30, qc30⟩ := isOf hZ rfl EE28
          obtain ⟨_, _, ⟨T30, L30, k30, n30⟩, -, X30, ⟨Lc30, hQ30, l30, y30, z30⟩, st30⟩ := X28.virtualBack hx (y := (⟨"com/example/nadir/nadir/HeldKey", "isSampled", "()Z"⟩ : MethodName)) (z := (⟨"com/example/nadir/nadir/HeldKey", "isSampled", "()Z"⟩ : MethodName)) hown (mvT hZ (hw _ (List.mem_of_getElem? (i := 92) rfl))) (mvT hZ (hw _ (List.mem_of_getElem? (i := 93) rfl))) (notFace_of_selects (args := #[]) (mvT hZ (hw _ (List.mem_of_getElem? (i := 95) rfl)))) (mvT hZ (hw _ (List.mem_of_getElem? (i := 95) rfl))) (mvT hZ (hw _ (List.mem_of_getElem? (i := 94) rfl))) (by decide) (backOf (W := 0) (rm12 l Z a0 hw [] b11 (Native.java_lang_Math.nans.pick64 true (Native.java_lang_Math.nans.pick64 true (Native.java_lang_Math.nans.pick64 true (18442240474082181120 : UInt64) (FP.i2d p1)) (FP.i2d p2)) (FP.i2d p3)) T28.heap n0 z29 FL28) hZ (hw _ (List.mem_of_getElem? (i := 96) rfl)) (hw _ (List.mem_of_getElem? (i := 30) rfl)) (by decide) (by decide)) qa30 qc30 (g := (mkF m 150 #[.val (.int p0), .val (.int p1), .val (.int p2), .val (.int p3), .val (.int p4), .val (.int p5), .val (.ref b1), .val (.ref b11), .val (.int (p0 &&& (3 : Int32))), .val (.int (1 : Int32))] [(.ref b11)])) rfl (by rw [hml]; rfl) (Steps.refl _) (argsL := []) (rest := []) (lenOf pd8 rfl) rfl (by show 2 * 0 + _ ≤ _; exact Nat.le_of_eq rfl) (hb hby at_150) (fun _ _ => ⟨rfl, rfl, (by decide : 7 + 0 ≤ _), (by decide : 22 + 0 ≤ _)⟩)
          dsimp only [Pt.U, Pt.locs, Pt.cells, Pt.slots] at X30 l30 y30 z30 st30 hQ30
          rw [l30, y30, z30] at X30
          obtain ⟨rfl, N30q, e30⟩ := hQ30
          have N30 := Fr.app N28 N30q
          refine DnW.by (U' := T30.setTop (mkF m 153 #[.val (.int p0), .val (.int p1), .val (.int p2), .val (.int p3), .val (.int p4), .val (.int p5), .val (.ref b1), .val (.ref b11), .val (.int (p0 &&& (3 : Int32))), .val (.int (1 : Int32))] [(.int (isS b11 (Native.java_lang_Math.nans.pick64 true (Native.java_lang_Math.nans.pick64 true (Native.java_lang_Math.nans.pick64 true (18442240474082181120 : UInt64) (FP.i2d p1)) (FP.i2d p2)) (FP.i2d p3))))])) (fun _ ks => st30.trans ks) ?_
          rw [show (isS b11 (Native.java_lang_Math.nans.pick64 true (Native.java_lang_Math.nans.pick64 true (Native.java_lang_Math.nans.pick64 true (18442240474082181120 : UInt64) (FP.i2d p1)) (FP.i2d p2)) (FP.i2d p3))) = (1 : Int32) from own_is1 _ fin28]
          refine DnW.by (U' := T30.setTop (mkF m 155 #[.val (.int p0), .val (.int p1), .val (.int p2), .val (.int p3), .val (.int p4), .val (.int p5), .val (.ref b1), .val (.ref b11), .val (.int (p0 &&& (3 : Int32))), .val (.int (1 : Int32))] [(.int (p0 &&& (3 : Int32))), (.int (1 : Int32))])) (fun _ ks => XS.iload X30.here hx rfl (hb hby at_153) rfl ks) ?_
          refine DnW.by (U' := T30.setTop (mkF m 156 #[.val (.int p0), .val (.int p1), .val (.int p2), .val (.int p3), .val (.int p4), .val (.int p5), .val (.ref b1), .val (.ref b11), .val (.int (p0 &&& (3 : Int32))), .val (.int (1 : Int32))] [(.int (1 : Int32)), (.int (p0 &&& (3 : Int32))), (.int (1 : Int32))])) (fun _ ks => XS.iconst X30.here hx rfl (hb hby at_155)  ks) ?_
          refine DnW.by (U' := T30.setTop (mkF m 159 #[.val (.int p0), .val (.int p1), .val (.int p2), .val (.int p3), .val (.int p4), .val (.int p5), .val (.ref b1), .val (.ref b11), .val (.int (p0 &&& (3 : Int32))), .val (.int (1 : Int32))] [(.int (1 : Int32))])) (fun _ ks => XS.icmpNo X30.here hx rfl (hb hby at_156) rfl (flt c78_17).1 ks) ?_
          refine DnW.by (U' := T30.setTop (mkF m 160 #[.val (.int p0), .val (.int p1), .val (.int p2), .val (.int p3), .val (.int p4), .val (.int p5), .val (.ref b1), .val (.ref b11), .val (.int (p0 &&& (3 : Int32))), .val (.int (1 : Int32))] [(.int (1 : Int32)), (.int (1 : Int32))])) (fun _ ks => XS.iconst X30.here hx rfl (hb hby at_159)  ks) ?_
          refine DnW.by (U' := T30.setTop (mkF m 164 #[.val (.int p0), .val (.int p1), .val (.int p2), .val (.int p3), .val (.int p4), .val (.int p5), .val (.ref b1), .val (.ref b11), .val (.int (p0 &&& (3 : Int32))), .val (.int (1 : Int32))] [(.int (1 : Int32)), (.int (1 : Int32))])) (fun _ ks => XS.goto X30.here hx rfl (pc0 := 160) (pc' := 164) rfl (hb hby at_160) (by decide) (by decide) ks) ?_
          refine DnW.by (U' := T30.setTop (mkF m 167 #[.val (.int p0), .val (.int p1), .val (.int p2), .val (.int p3), .val (.int p4), .val (.int p5), .val (.ref b1), .val (.ref b11), .val (.int (p0 &&& (3 : Int32))), .val (.int (1 : Int32))] [])) (fun _ ks => XS.icmpNo X30.here hx rfl (hb hby at_164) rfl (by decide) ks) ?_
          refine DnW.by (U' := T30.setTop (mkF m 168 #[.val (.int p0), .val (.int p1), .val (.int p2), .val (.int p3), .val (.int p4), .val (.int p5), .val (.ref b1), .val (.ref b11), .val (.int (p0 &&& (3 : Int32))), .val (.int (1 : Int32))] [(.int (1 : Int32))])) (fun _ ks => XS.iconst X30.here hx rfl (hb hby at_167)  ks) ?_
          refine DnW.by (U' := T30.setTop (mkF m 172 #[.val (.int p0), .val (.int p1), .val (.int p2), .val (.int p3), .val (.int p4), .val (.int p5), .val (.ref b1), .val (.ref b11), .val (.int (p0 &&& (3 : Int32))), .val (.int (1 : Int32))] [(.int (1 : Int32))])) (fun _ ks => XS.goto X30.here hx rfl (pc0 := 168) (pc' := 172) rfl (hb hby at_168) (by decide) (by decide) ks) ?_
          refine DnW.by (U' := T30.setTop (mkF m 174 #[.val (.int p0), .val (.int p1), .val (.int p2), .val (.int p3), .val (.int p4), .val (.int p5), .val (.ref b1), .val (.ref b11), .val (.int (p0 &&& (3 : Int32))), .val (.int (1 : Int32))] [])) (fun _ ks => XS.istore X30.here hx rfl (hb hby at_172) rfl (l' := #[.val (.int p0), .val (.int p1), .val (.int p2), .val (.int p3), .val (.int p4), .val (.int p5), .val (.ref b1), .val (.ref b11), .val (.int (p0 &&& (3 : Int32))), .val (.int (1 : Int32))]) rfl ks) ?_
          refine DnW.by (U' := T30.setTop (mkF m 176 #[.val (.int p0), .val (.int p1), .val (.int p2), .val (.int p3), .val (.int p4), .val (.int p5), .val (.ref b1), .val (.ref b11), .val (.int (p0 &&& (3 : Int32))), .val (.int (1 : Int32))] [(.int (1 : Int32))])) (fun _ ks => XS.iload X30.here hx rfl (hb hby at_174) rfl ks) ?_
          refine DnW.out X30 hS3 (by rw [e30]; exact hk29) (v := (some (.int (1 : Int32)))) (fun h => by rw [Bd.returns] at h; cases h) (BodyLoose.notSynchronized Bd) (fun _ hr => retN X30 hx (t := .boolean) Bd.returns (by simp) (hb hby at_176) hr) (by decide) (by decide) ?_ ?_
          · rw [e30]; exact ⟨rfl, N30⟩
          · rw [hh, e30]; exact C29.trans (CHv.at X30 hZ hEL C29.1)
  ·
    refine DnW.by (U' := T13.setTop (mkF m 49 #[.val (.int p0), .val (.int p1), .val (.int p2), .val (.int p3), .val (.int p4), .val (.int p5), .val (.ref b1), .val (.ref b11), .val (.int (p0 &&& (3 : Int32))), .unset] [])) (fun _ ks => XS.ifNo X13.here hx rfl (hb hby at_46) rfl ((if0 _ _).trans (feq c46_15).1) ks) ?_
    refine DnW.by (U' := T13.setTop (mkF m 51 #[.val (.int p0), .val (.int p1), .val (.int p2), .val (.int p3), .val (.int p4), .val (.int p5), .val (.ref b1), .val (.ref b11), .val (.int (p0 &&& (3 : Int32))), .unset] [(.ref b11)])) (fun _ ks => XS.aload X13.here hx rfl (hb hby at_49) rfl rfl ks) ?_
    refine DnW.by (U' := T13.setTop (mkF m 53 #[.val (.int p0), .val (.int p1), .val (.int p2), .val (.int p3), .val (.int p4), .val (.int p5), .val (.ref b1), .val (.ref b11), .val (.int (p0 &&& (3 : Int32))), .unset] [(.int p4), (.ref b11)])) (fun _ ks => XS.iload X13.here hx rfl (hb hby at_51) rfl ks) ?_
    refine DnW.by (U' := T13.setTop (mkF m 56 #[.val (.int p0), .val (.int p1), .val (.int p2), .val (.int p3), .val (.int p4), .val (.int p5), .val (.ref b1), .val (.ref b11), .val (.int (p0 &&& (3 : Int32))), .unset] [(.int (1023 : Int32)), (.int p4), (.ref b11)])) (fun _ ks => XS.sipush X13.here hx rfl (hb hby at_53)  ks) ?_
    refine DnW.by (U' := T13.setTop (mkF m 57 #[.val (.int p0), .val (.int p1), .val (.int p2), .val (.int p3), .val (.int p4), .val (.int p5), .val (.ref b1), .val (.ref b11), .val (.int (p0 &&& (3 : Int32))), .unset] [(.int (p4 &&& (1023 : Int32))), (.ref b11)])) (fun _ ks => XS.iand X13.here hx rfl (hb hby at_56) rfl ks) ?_
    obtain ⟨cq31, kq31, qa31, qb31, qc31⟩ := isOf hZ rfl EE13
    obtain ⟨_, _, ⟨T31, L31, k31, n31⟩, -, X31, ⟨Lc31, hQ31, l31, y31, z31⟩, st31⟩ := X13.virtualBack hx (y := (⟨"com/example/nadir/nadir/HeldKey", "heldBy", "(I)V"⟩ : MethodName)) (z := (⟨"com/example/nadir/nadir/HeldKey", "heldBy", "(I)V"⟩ : MethodName)) hown (mvT hZ (hw _ (List.mem_of_getElem? (i := 66) rfl))) (mvT hZ (hw _ (List.mem_of_getElem? (i := 67) rfl))) (notFace_of_selects (args := #[]) (mvT hZ (hw _ (List.mem_of_getElem? (i := 69) rfl)))) (mvT hZ (hw _ (List.mem_of_getElem? (i := 69) rfl))) (mvT hZ (hw _ (List.mem_of_getElem? (i := 68) rfl))) (by decide) (backOf (W := 0) (rm7 l Z a0 hw [] b11 (p4 &&& (1023 : Int32)) bs13 ts13 kt13 ((.int (nar .boolean (0 : Int32))) : Value) T13.heap n0 z14 FH13 g_bs13 g_ts13 ne_ts13_bs13 EB13 FW13 FU13 FS13 VW13 (own_1023 _) O14 S_ad) hZ (hw _ (List.mem_of_getElem? (i := 70) rfl)) (hw _ (List.mem_of_getElem? (i := 30) rfl)) (by decide) (by decide)) qa31 qc31 (g := (mkF m 57 #[.val (.int p0), .val (.int p1), .val (.int p2), .val (.int p3), .val (.int p4), .val (.int p5), .val (.ref b1), .val (.ref b11), .val (.int (p0 &&& (3 : Int32))), .unset] [(.int (p4 &&& (1023 : Int32))), (.ref b11)])) rfl (by rw [hml]; rfl) (Steps.refl _) (argsL := [(.int (p4 &&& (1023 : Int32)))]) (rest := []) (lenOf pd1 rfl) rfl (by show 2 * 0 + _ ≤ _; exact Nat.le_of_eq rfl) (hb hby at_57) (fun _ _ => ⟨rfl, rfl, (by decide : 7 + 1 ≤ _), (by decide : 22 + 16 ≤ _)⟩)
    dsimp only [Pt.U, Pt.locs, Pt.cells, Pt.slots] at X31 l31 y31 z31 st31 hQ31
    rw [l31, y31, z31] at X31
    obtain ⟨rfl, N31q, KK31⟩ := hQ31
    have N31 := Fr.app N13 N31q
    have K32 : Keep h0 T31.heap [] := (K14.trans KK31 (allS (Or.inr sz_bs13) (allS (Or.inr sz_ts13) all0)))
    have z32 : n0 ≤ T31.heap.size := (Nat.le_trans z14 KK31.1)
    have O32 : Old Z n0 T31.heap := O14.keep KK31 (allS g_bs13 (allS g_ts13 all0))
    have C32 : CHr Z EL s.vm h0 T3.vm T31.heap := C14.trans (CHr.keep KK31 (allS (Safe.exa hZ.alike EB13 (by decide) (by decide)) (allS (own_safeV hZ.alike VW13 (by decide)) all0)) C14.1)
    have hk32 : _ ≤ T31.heap.size := Nat.le_trans hk14 KK31.1
    refine DnW.by (U' := T31.setTop (mkF m 60 #[.val (.int p0), .val (.int p1), .val (.int p2), .val (.int p3), .val (.int p4), .val (.int p5), .val (.ref b1), .val (.ref b11), .val (.int (p0 &&& (3 : Int32))), .unset] [])) (fun _ ks => st31.trans ks) ?_
    refine DnW.by (U' := T31.setTop (mkF m 62 #[.val (.int p0), .val (.int p1), .val (.int p2), .val (.int p3), .val (.int p4), .val (.int p5), .val (.ref b1), .val (.ref b11), .val (.int (p0 &&& (3 : Int32))), .unset] [(.ref b11)])) (fun _ ks => XS.aload X31.here hx rfl (hb hby at_60) rfl rfl ks) ?_
    obtain ⟨cq33, kq33, qa33, qb33, qc33⟩ := isOf hZ rfl (EE13.keep KK31)
    obtain ⟨_, _, ⟨T33, L33, k33, n33⟩, -, X33, ⟨Lc33, hQ33, l33, y33, z33⟩, st33⟩ := X31.virtualBack hx (y := (⟨"com/example/nadir/nadir/HeldKey", "isSampled", "()Z"⟩ : MethodName)) (z := (⟨"com/example/nadir/nadir/HeldKey", "isSampled", "()Z"⟩ : MethodName)) hown (mvT hZ (hw _ (List.mem_of_getElem? (i := 92) rfl))) (mvT hZ (hw _ (List.mem_of_getElem? (i := 93) rfl))) (notFace_of_selects (args := #[]) (mvT hZ (hw _ (List.mem_of_getElem? (i := 95) rfl)))) (mvT hZ (hw _ (List.mem_of_getElem? (i := 95) rfl))) (mvT hZ (hw _ (List.mem_of_getElem? (i := 94) rfl))) (by decide) (backOf (W := 0) (rm12 l Z a0 hw [] b11 (18442240474082181120 : UInt64) T31.heap n0 z32 (FL13.keep KK31 (ninS ne_b11_bs13 (ninS ne_b11_ts13 nin0)))) hZ (hw _ (List.mem_of_getElem? (i := 96) rfl)) (hw _ (List.mem_of_getElem? (i := 30) rfl)) (by decide) (by decide)) qa33 qc33 (g := (mkF m 62 #[.val (.int p0), .val (.int p1), .val (.int p2), .val (.int p3), .val (.int p4), .val (.int p5), .val (.ref b1), .val (.ref b11), .val (.int (p0 &&& (3 : Int32))), .unset] [(.ref b11)])) rfl (by rw [hml]; rfl) (Steps.refl _) (argsL := []) (rest := []) (lenOf pd8 rfl) rfl (by show 2 * 0 + _ ≤ _; exact Nat.le_of_eq rfl) (hb hby at_62) (fun _ _ => ⟨rfl, rfl, (by decide : 8 + 0 ≤ _), (by decide : 38 + 0 ≤ _)⟩)
    dsimp only [Pt.U, Pt.locs, Pt.cells, Pt.slots] at X33 l33 y33 z33 st33 hQ33
    rw [l33, y33, z33] at X33
    obtain ⟨rfl, N33q, e33⟩ := hQ33
    have N33 := Fr.app N31 N33q
    refine DnW.by (U' := T33.setTop (mkF m 65 #[.val (.int p0), .val (.int p1), .val (.int p2), .val (.int p3), .val (.int p4), .val (.int p5), .val (.ref b1), .val (.ref b11), .val (.int (p0 &&& (3 : Int32))), .unset] [(.int (isS b11 (18442240474082181120 : UInt64)))])) (fun _ ks => st33.trans ks) ?_
    rw [show (isS b11 (18442240474082181120 : UInt64)) = (0 : Int32) from own_is0 _]
    refine DnW.by (U' := T33.setTop (mkF m 68 #[.val (.int p0), .val (.int p1), .val (.int p2), .val (.int p3), .val (.int p4), .val (.int p5), .val (.ref b1), .val (.ref b11), .val (.int (p0 &&& (3 : Int32))), .unset] [])) (fun _ ks => XS.ifNo X33.here hx rfl (hb hby at_65) rfl (by decide) ks) ?_
    refine DnW.by (U' := T33.setTop (mkF m 69 #[.val (.int p0), .val (.int p1), .val (.int p2), .val (.int p3), .val (.int p4), .val (.int p5), .val (.ref b1), .val (.ref b11), .val (.int (p0 &&& (3 : Int32))), .unset] [(.int (1 : Int32))])) (fun _ ks => XS.iconst X33.here hx rfl (hb hby at_68)  ks) ?_
    refine DnW.by (U' := T33.setTop (mkF m 73 #[.val (.int p0), .val (.int p1), .val (.int p2), .val (.int p3), .val (.int p4), .val (.int p5), .val (.ref b1), .val (.ref b11), .val (.int (p0 &&& (3 : Int32))), .unset] [(.int (1 : Int32))])) (fun _ ks => XS.goto X33.here hx rfl (pc0 := 69) (pc' := 73) rfl (hb hby at_69) (by decide) (by decide) ks) ?_
    refine DnW.by (U' := T33.setTop (mkF m 75 #[.val (.int p0), .val (.int p1), .val (.int p2), .val (.int p3), .val (.int p4), .val (.int p5), .val (.ref b1), .val (.ref b11), .val (.int (p0 &&& (3 : Int32))), .val (.int (1 : Int32))] [])) (fun _ ks => XS.istore X33.here hx rfl (hb hby at_73) rfl (l' := #[.val (.int p0), .val (.int p1), .val (.int p2), .val (.int p3), .val (.int p4), .val (.int p5), .val (.ref b1), .val (.ref b11), .val (.int (p0 &&& (3 : Int32))), .val (.int (1 : Int32))]) rfl ks) ?_
    refine DnW.by (U' := T33.setTop (mkF m 77 #[.val (.int p0), .val (.int p1), .val (.int p2), .val (.int p3), .val (.int p4), .val (.int p5), .val (.ref b1), .val (.ref b11), .val (.int (p0 &&& (3 : Int32))), .val (.int (1 : Int32))] [(.int (p0 &&& (3 : Int32)))])) (fun _ ks => XS.iload X33.here hx rfl (hb hby at_75) rfl ks) ?_
    refine DnW.by (U' := T33.setTop (mkF m 78 #[.val (.int p0), .val (.int p1), .val (.int p2), .val (.int p3), .val (.int p4), .val (.int p5), .val (.ref b1), .val (.ref b11), .val (.int (p0 &&& (3 : Int32))), .val (.int (1 : Int32))] [(.int (1 : Int32)), (.int (p0 &&& (3 : Int32)))])) (fun _ ks => XS.iconst X33.here hx rfl (hb hby at_77)  ks) ?_
    by_cases c78_34 : (p0 &&& (3 : Int32)) < (1 : Int32)
    ·
      refine DnW.by (U' := T33.setTop (mkF m 111 #[.val (.int p0), .val (.int p1), .val (.int p2), .val (.int p3), .val (.int p4), .val (.int p5), .val (.ref b1), .val (.ref b11), .val (.int (p0 &&& (3 : Int32))), .val (.int (1 : Int32))] [])) (fun _ ks => XS.icmpYes X33.here hx rfl (pc0 := 78) (pc' := 111) rfl (hb hby at_78) rfl (tlt c78_34).1 (by decide) (by decide) ks) ?_
      refine DnW.by (U' := T33.setTop (mkF m 113 #[.val (.int p0), .val (.int p1), .val (.int p2), .val (.int p3), .val (.int p4), .val (.int p5), .val (.ref b1), .val (.ref b11), .val (.int (p0 &&& (3 : Int32))), .val (.int (1 : Int32))] [(.int (p0 &&& (3 : Int32)))])) (fun _ ks => XS.iload X33.here hx rfl (hb hby at_111) rfl ks) ?_
      refine DnW.by (U' := T33.setTop (mkF m 114 #[.val (.int p0), .val (.int p1), .val (.int p2), .val (.int p3), .val (.int p4), .val (.int p5), .val (.ref b1), .val (.ref b11), .val (.int (p0 &&& (3 : Int32))), .val (.int (1 : Int32))] [(.int (2 : Int32)), (.int (p0 &&& (3 : Int32)))])) (fun _ ks => XS.iconst X33.here hx rfl (hb hby at_113)  ks) ?_
      refine DnW.by (U' := T33.setTop (mkF m 127 #[.val (.int p0), .val (.int p1), .val (.int p2), .val (.int p3), .val (.int p4), .val (.int p5), .val (.ref b1), .val (.ref b11), .val (.int (p0 &&& (3 : Int32))), .val (.int (1 : Int32))] [])) (fun _ ks => XS.icmpYes X33.here hx rfl (pc0 := 114) (pc' := 127) rfl (hb hby at_114) rfl (tlt (Int32.lt_trans c78_34 (by decide))).1 (by decide) (by decide) ks) ?_
      refine DnW.by (U' := T33.setTop (mkF m 129 #[.val (.int p0), .val (.int p1), .val (.int p2), .val (.int p3), .val (.int p4), .val (.int p5), .val (.ref b1), .val (.ref b11), .val (.int (p0 &&& (3 : Int32))), .val (.int (1 : Int32))] [(.int (p0 &&& (3 : Int32)))])) (fun _ ks => XS.iload X33.here hx rfl (hb hby at_127) rfl ks) ?_
      refine DnW.by (U' := T33.setTop (mkF m 130 #[.val (.int p0), .val (.int p1), .val (.int p2), .val (.int p3), .val (.int p4), .val (.int p5), .val (.ref b1), .val (.ref b11), .val (.int (p0 &&& (3 : Int32))), .val (.int (1 : Int32))] [(.int (3 : Int32)), (.int (p0 &&& (3 : Int32)))])) (fun _ ks => XS.iconst X33.here hx rfl (hb hby at_129)  ks) ?_
      refine DnW.by (U' := T33.setTop (mkF m 143 #[.val (.int p0), .val (.int p1), .val (.int p2), .val (.int p3), .val (.int p4), .val (.int p5), .val (.ref b1), .val (.ref b11), .val (.int (p0 &&& (3 : Int32))), .val (.int (1 : Int32))] [])) (fun _ ks => XS.icmpYes X33.here hx rfl (pc0 := 130) (pc' := 143) rfl (hb hby at_130) rfl (tlt (Int32.lt_trans c78_34 (by decide))).1 (by decide) (by decide) ks) ?_
      refine DnW.by (U' := T33.setTop (mkF m 145 #[.val (.int p0), .val (.int p1), .val (.int p2), .val (.int p3), .val (.int p4), .val (.int p5), .val (.ref b1), .val (.ref b11), .val (.int (p0 &&& (3 : Int32))), .val (.int (1 : Int32))] [(.int (1 : Int32))])) (fun _ ks => XS.iload X33.here hx rfl (hb hby at_143) rfl ks) ?_
      refine DnW.by (U' := T33.setTop (mkF m 148 #[.val (.int p0), .val (.int p1), .val (.int p2), .val (.int p3), .val (.int p4), .val (.int p5), .val (.ref b1), .val (.ref b11), .val (.int (p0 &&& (3 : Int32))), .val (.int (1 : Int32))] [])) (fun _ ks => XS.ifNo X33.here hx rfl (hb hby at_145) rfl (by decide) ks) ?_
      refine DnW.by (U' := T33.setTop (mkF m 150 #[.val (.int p0), .val (.int p1), .val (.int p2), .val (.int p3), .val (.int p4), .val (.int p5), .val (.ref b1), .val (.ref b11), .val (.int (p0 &&& (3 : Int32))), .val (.int (1 : Int32))] [(.ref b11)])) (fun _ ks => XS.aload X33.here hx rfl (hb hby at_148) rfl rfl ks) ?_
      obtain ⟨cq35, kq35, qa35, qb35, qc35⟩ := isOf hZ e33 (EE13.keep KK31)
      obtain ⟨_, _, ⟨T35, L35, k35, n35⟩, -, X35, ⟨Lc35, hQ35, l35, y35, z35⟩, st35⟩ := X33.virtualBack hx (y := (⟨"com/example/nadir/nadir/HeldKey", "isSampled", "()Z"⟩ : MethodName)) (z := (⟨"com/example/nadir/nadir/HeldKey", "isSampled", "()Z"⟩ : MethodName)) hown (mvT hZ (hw _ (List.mem_of_getElem? (i := 92) rfl))) (mvT hZ (hw _ (List.mem_of_getElem? (i := 93) rfl))) (notFace_of_selects (args := #[]) (mvT hZ (hw _ (List.mem_of_getElem? (i := 95) rfl)))) (mvT hZ (hw _ (List.mem_of_getElem? (i := 95) rfl))) (mvT hZ (hw _ (List.mem_of_getElem? (i := 94) rfl))) (by decide) (backOf (W := 0) (rm12 l Z a0 hw [] b11 (18442240474082181120 : UInt64) T31.heap n0 z32 (FL13.keep KK31 (ninS ne_b11_bs13 (ninS ne_b11_ts13 nin0)))) hZ (hw _ (List.mem_of_getElem? (i := 96) rfl)) (hw _ (List.mem_of_getElem? (i := 30) rfl)) (by decide) (by decide)) qa35 qc35 (g := (mkF m 150 #[.val (.int p0), .val (.int p1), .val (.int p2), .val (.int p3), .val (.int p4), .val (.int p5), .val (.ref b1), .val (.ref b11), .val (.int (p0 &&& (3 : Int32))), .val (.int (1 : Int32))] [(.ref b11)])) rfl (by rw [hml]; rfl) (Steps.refl _) (argsL := []) (rest := []) (lenOf pd8 rfl) rfl (by show 2 * 0 + _ ≤ _; exact Nat.le_of_eq rfl) (hb hby at_150) (fun _ _ => ⟨rfl, e33, (by decide : 8 + 0 ≤ _), (by decide : 38 + 0 ≤ _)⟩)
      dsimp only [Pt.U, Pt.locs, Pt.cells, Pt.slots] at X35 l35 y35 z35 st35 hQ35
      rw [l35, y35, z35] at X35
      obtain ⟨rfl, N35q, e35⟩ := hQ35
      have N35 := Fr.app N33 N35q
      refine DnW.by (U' := T35.setTop (mkF m 153 #[.val (.int p0), .val (.int p1), .val (.int p2), .val (.int p3), .val (.int p4), .val (.int p5), .val (.ref b1), .val (.ref b11), .val (.int (p0 &&& (3 : Int32))), .val (.int (1 : Int32))] [(.int (isS b11 (18442240474082181120 : UInt64)))])) (fun _ ks => st35.trans ks) ?_
      rw [show (isS b11 (18442240474082181120 : UInt64)) = (0 : Int32) from own_is0 _]
      refine DnW.by (U' := T35.setTop (mkF m 155 #[.val (.int p0), .val (.int p1), .val (.int p2), .val (.int p3), .val (.int p4), .val (.int p5), .val (.ref b1), .val (.ref b11), .val (.int (p0 &&& (3 : Int32))), .val (.int (1 : Int32))] [(.int (p0 &&& (3 : Int32))), (.int (0 : Int32))])) (fun _ ks => XS.iload X35.here hx rfl (hb hby at_153) rfl ks) ?_
      refine DnW.by (U' := T35.setTop (mkF m 156 #[.val (.int p0), .val (.int p1), .val (.int p2), .val (.int p3), .val (.int p4), .val (.int p5), .val (.ref b1), .val (.ref b11), .val (.int (p0 &&& (3 : Int32))), .val (.int (1 : Int32))] [(.int (1 : Int32)), (.int (p0 &&& (3 : Int32))), (.int (0 : Int32))])) (fun _ ks => XS.iconst X35.here hx rfl (hb hby at_155)  ks) ?_
      refine DnW.by (U' := T35.setTop (mkF m 163 #[.val (.int p0), .val (.int p1), .val (.int p2), .val (.int p3), .val (.int p4), .val (.int p5), .val (.ref b1), .val (.ref b11), .val (.int (p0 &&& (3 : Int32))), .val (.int (1 : Int32))] [(.int (0 : Int32))])) (fun _ ks => XS.icmpYes X35.here hx rfl (pc0 := 156) (pc' := 163) rfl (hb hby at_156) rfl (tlt c78_34).1 (by decide) (by decide) ks) ?_
      refine DnW.by (U' := T35.setTop (mkF m 164 #[.val (.int p0), .val (.int p1), .val (.int p2), .val (.int p3), .val (.int p4), .val (.int p5), .val (.ref b1), .val (.ref b11), .val (.int (p0 &&& (3 : Int32))), .val (.int (1 : Int32))] [(.int (0 : Int32)), (.int (0 : Int32))])) (fun _ ks => XS.iconst X35.here hx rfl (hb hby at_163)  ks) ?_
      refine DnW.by (U' := T35.setTop (mkF m 167 #[.val (.int p0), .val (.int p1), .val (.int p2), .val (.int p3), .val (.int p4), .val (.int p5), .val (.ref b1), .val (.ref b11), .val (.int (p0 &&& (3 : Int32))), .val (.int (1 : Int32))] [])) (fun _ ks => XS.icmpNo X35.here hx rfl (hb hby at_164) rfl (by decide) ks) ?_
      refine DnW.by (U' := T35.setTop (mkF m 168 #[.val (.int p0), .val (.int p1), .val (.int p2), .val (.int p3), .val (.int p4), .val (.int p5), .val (.ref b1), .val (.ref b11), .val (.int (p0 &&& (3 : Int32))), .val (.int (1 : Int32))] [(.int (1 : Int32))])) (fun _ ks => XS.iconst X35.here hx rfl (hb hby at_167)  ks) ?_
      refine DnW.by (U' := T35.setTop (mkF m 172 #[.val (.int p0), .val (.int p1), .val (.int p2), .val (.int p3), .val (.int p4), .val (.int p5), .val (.ref b1), .val (.ref b11), .val (.int (p0 &&& (3 : Int32))), .val (.int (1 : Int32))] [(.int (1 : Int32))])) (fun _ ks => XS.goto X35.here hx rfl (pc0 := 168) (pc' := 172) rfl (hb hby at_168) (by decide) (by decide) ks) ?_
      refine DnW.by (U' := T35.setTop (mkF m 174 #[.val (.int p0), .val (.int p1), .val (.int p2), .val (.int p3), .val (.int p4), .val (.int p5), .val (.ref b1), .val (.ref b11), .val (.int (p0 &&& (3 : Int32))), .val (.int (1 : Int32))] [])) (fun _ ks => XS.istore X35.here hx rfl (hb hby at_172) rfl (l' := #[.val (.int p0), .val (.int p1), .val (.int p2), .val (.int p3), .val (.int p4), .val (.int p5), .val (.ref b1), .val (.ref b11), .val (.int (p0 &&& (3 : Int32))), .val (.int (1 : Int32))]) rfl ks) ?_
      refine DnW.by (U' := T35.setTop (mkF m 176 #[.val (.int p0), .val (.int p1), .val (.int p2), .val (.int p3), .val (.int p4), .val (.int p5), .val (.ref b1), .val (.ref b11), .val (.int (p0 &&& (3 : Int32))), .val (.int (1 : Int32))] [(.int (1 : Int32))])) (fun _ ks => XS.iload X35.here hx rfl (hb hby at_174) rfl ks) ?_
      refine DnW.out X35 hS3 (by rw [e35]; exact hk32) (v := (some (.int (1 : Int32)))) (fun h => by rw [Bd.returns] at h; cases h) (BodyLoose.notSynchronized Bd) (fun _ hr => retN X35 hx (t := .boolean) Bd.returns (by simp) (hb hby at_176) hr) (by decide) (by decide) ?_ ?_
      · rw [e35]; exact ⟨rfl, N35⟩
      · rw [hh, e35]; exact C32.trans (CHv.at X35 hZ hEL C32.1)
    ·
      refine DnW.by (U' := T33.setTop (mkF m 81 #[.val (.int p0), .val (.int p1), .val (.int p2), .val (.int p3), .val (.int p4), .val (.int p5), .val (.ref b1), .val (.ref b11), .val (.int (p0 &&& (3 : Int32))), .val (.int (1 : Int32))] [])) (fun _ ks => XS.icmpNo X33.here hx rfl (hb hby at_78) rfl (flt c78_34).1 ks) ?_
      refine DnW.by (U' := T33.setTop (mkF m 83 #[.val (.int p0), .val (.int p1), .val (.int p2), .val (.int p3), .val (.int p4), .val (.int p5), .val (.ref b1), .val (.ref b11), .val (.int (p0 &&& (3 : Int32))), .val (.int (1 : Int32))] [(.ref b11)])) (fun _ ks => XS.aload X33.here hx rfl (hb hby at_81) rfl rfl ks) ?_
      refine DnW.by (U' := T33.setTop (mkF m 84 #[.val (.int p0), .val (.int p1), .val (.int p2), .val (.int p3), .val (.int p4), .val (.int p5), .val (.ref b1), .val (.ref b11), .val (.int (p0 &&& (3 : Int32))), .val (.int (1 : Int32))] [(.int (0 : Int32)), (.ref b11)])) (fun _ ks => XS.iconst X33.here hx rfl (hb hby at_83)  ks) ?_
      refine DnW.by (U' := T33.setTop (mkF m 86 #[.val (.int p0), .val (.int p1), .val (.int p2), .val (.int p3), .val (.int p4), .val (.int p5), .val (.ref b1), .val (.ref b11), .val (.int (p0 &&& (3 : Int32))), .val (.int (1 : Int32))] [(.ref b1), (.int (0 : Int32)), (.ref b11)])) (fun _ ks => XS.aload X33.here hx rfl (hb hby at_84) rfl rfl ks) ?_
      refine DnW.by (U' := T33.setTop (mkF m 87 #[.val (.int p0), .val (.int p1), .val (.int p2), .val (.int p3), .val (.int p4), .val (.int p5), .val (.ref b1), .val (.ref b11), .val (.int (p0 &&& (3 : Int32))), .val (.int (1 : Int32))] [(.int p1), (.ref b1), (.int (0 : Int32)), (.ref b11)])) (fun _ ks => XS.iloadN X33.here hx rfl (hb hby at_86) rfl ks) ?_
      refine DnW.by (U' := T33.setTop (mkF m 88 #[.val (.int p0), .val (.int p1), .val (.int p2), .val (.int p3), .val (.int p4), .val (.int p5), .val (.ref b1), .val (.ref b11), .val (.int (p0 &&& (3 : Int32))), .val (.int (1 : Int32))] [(.double (FP.i2d p1)), (.ref b1), (.int (0 : Int32)), (.ref b11)])) (fun _ ks => XS.i2dS X33.here hx rfl (hb hby at_87) rfl rfl ks) ?_
      obtain ⟨cq36, kq36, qa36, qb36, qc36⟩ := isOf hZ e33 (EE13.keep KK31)
      obtain ⟨_, _, ⟨T36, L36, k36, n36⟩, -, X36, ⟨Lc36, hQ36, l36, y36, z36⟩, st36⟩ := X33.virtualBack hx (y := (⟨"com/example/nadir/nadir/HeldKey", "sampledBy", "(ILcom/example/nadir/nadir/RankedKey;D)V"⟩ : MethodName)) (z := (⟨"com/example/nadir/nadir/HeldKey", "sampledBy", "(ILcom/example/nadir/nadir/RankedKey;D)V"⟩ : MethodName)) hown (mvT hZ (hw _ (List.mem_of_getElem? (i := 112) rfl))) (mvT hZ (hw _ (List.mem_of_getElem? (i := 113) rfl))) (notFace_of_selects (args := #[]) (mvT hZ (hw _ (List.mem_of_getElem? (i := 115) rfl)))) (mvT hZ (hw _ (List.mem_of_getElem? (i := 115) rfl))) (mvT hZ (hw _ (List.mem_of_getElem? (i := 114) rfl))) (by decide) (backOf (W := 0) (rm16 l Z a0 hw [] b11 (0 : Int32) b1 (FP.i2d p1) (18442240474082181120 : UInt64) T31.heap n0 z32 g_b11 (EE13.keep KK31) (FL13.keep KK31 (ninS ne_b11_bs13 (ninS ne_b11_ts13 nin0))) (FN13.keep KK31 (ninS ne_b11_bs13 (ninS ne_b11_ts13 nin0))) own_nni (own_nn (own_fi _))) hZ (hw _ (List.mem_of_getElem? (i := 116) rfl)) (hw _ (List.mem_of_getElem? (i := 30) rfl)) (by decide) (by decide)) qa36 qc36 (g := (mkF m 88 #[.val (.int p0), .val (.int p1), .val (.int p2), .val (.int p3), .val (.int p4), .val (.int p5), .val (.ref b1), .val (.ref b11), .val (.int (p0 &&& (3 : Int32))), .val (.int (1 : Int32))] [(.double (FP.i2d p1)), (.ref b1), (.int (0 : Int32)), (.ref b11)])) rfl (by rw [hml]; rfl) (Steps.refl _) (argsL := [(.int (0 : Int32)), (.ref b1), (.double (FP.i2d p1))]) (rest := []) (lenOf pd9 rfl) rfl (by show 2 * 0 + _ ≤ _; exact Nat.le_of_eq rfl) (hb hby at_88) (fun _ _ => ⟨rfl, e33, (by decide : 8 + 0 ≤ _), (by decide : 38 + 0 ≤ _)⟩)
      dsimp only [Pt.U, Pt.locs, Pt.cells, Pt.slots] at X36 l36 y36 z36 st36 hQ36
      rw [l36, y36, z36] at X36
      obtain ⟨rfl, N36q, KK36, EE36, FL36, FN36⟩ := hQ36
      have N36 := Fr.app N33 N36q
      have K37 : Keep h0 T36.heap [] := (K32.trans KK36 (allS (Or.inr sz_b11) all0))
      have z37 : n0 ≤ T36.heap.size := (Nat.le_trans z32 KK36.1)
      have O37 : Old Z n0 T36.heap := O32.keep KK36 (allS g_b11 all0)
      have C37 : CHr Z EL s.vm h0 T3.vm T36.heap := C32.trans (CHr.keep KK36 (allS (Safe.exa hZ.alike (EE13.keep KK31) (by decide) (by decide)) all0) C32.1)
      have hk37 : _ ≤ T36.heap.size := Nat.le_trans hk32 KK36.1
      have fin36 : FF (Native.java_lang_Math.nans.pick64 true (18442240474082181120 : UInt64) (FP.i2d p1)) := own_f1 (own_fi _)
      refine DnW.by (U' := T36.setTop (mkF m 91 #[.val (.int p0), .val (.int p1), .val (.int p2), .val (.int p3), .val (.int p4), .val (.int p5), .val (.ref b1), .val (.ref b11), .val (.int (p0 &&& (3 : Int32))), .val (.int (1 : Int32))] [])) (fun _ ks => st36.trans ks) ?_
      refine DnW.by (U' := T36.setTop (mkF m 93 #[.val (.int p0), .val (.int p1), .val (.int p2), .val (.int p3), .val (.int p4), .val (.int p5), .val (.ref b1), .val (.ref b11), .val (.int (p0 &&& (3 : Int32))), .val (.int (1 : Int32))] [(.int (1 : Int32))])) (fun _ ks => XS.iload X36.here hx rfl (hb hby at_91) rfl ks) ?_
      refine DnW.by (U' := T36.setTop (mkF m 96 #[.val (.int p0), .val (.int p1), .val (.int p2), .val (.int p3), .val (.int p4), .val (.int p5), .val (.ref b1), .val (.ref b11), .val (.int (p0 &&& (3 : Int32))), .val (.int (1 : Int32))] [])) (fun _ ks => XS.ifNo X36.here hx rfl (hb hby at_93) rfl (by decide) ks) ?_
      refine DnW.by (U' := T36.setTop (mkF m 98 #[.val (.int p0), .val (.int p1), .val (.int p2), .val (.int p3), .val (.int p4), .val (.int p5), .val (.ref b1), .val (.ref b11), .val (.int (p0 &&& (3 : Int32))), .val (.int (1 : Int32))] [(.ref b11)])) (fun _ ks => XS.aload X36.here hx rfl (hb hby at_96) rfl rfl ks) ?_
      obtain ⟨cq38, kq38, qa38, qb38, qc38⟩ := isOf hZ rfl EE36
      obtain ⟨_, _, ⟨T38, L38, k38, n38⟩, -, X38, ⟨Lc38, hQ38, l38, y38, z38⟩, st38⟩ := X36.virtualBack hx (y := (⟨"com/example/nadir/nadir/HeldKey", "isSampled", "()Z"⟩ : MethodName)) (z := (⟨"com/example/nadir/nadir/HeldKey", "isSampled", "()Z"⟩ : MethodName)) hown (mvT hZ (hw _ (List.mem_of_getElem? (i := 92) rfl))) (mvT hZ (hw _ (List.mem_of_getElem? (i := 93) rfl))) (notFace_of_selects (args := #[]) (mvT hZ (hw _ (List.mem_of_getElem? (i := 95) rfl)))) (mvT hZ (hw _ (List.mem_of_getElem? (i := 95) rfl))) (mvT hZ (hw _ (List.mem_of_getElem? (i := 94) rfl))) (by decide) (backOf (W := 0) (rm12 l Z a0 hw [] b11 (Native.java_lang_Math.nans.pick64 true (18442240474082181120 : UInt64) (FP.i2d p1)) T36.heap n0 z37 FL36) hZ (hw _ (List.mem_of_getElem? (i := 96) rfl)) (hw _ (List.mem_of_getElem? (i := 30) rfl)) (by decide) (by decide)) qa38 qc38 (g := (mkF m 98 #[.val (.int p0), .val (.int p1), .val (.int p2), .val (.int p3), .val (.int p4), .val (.int p5), .val (.ref b1), .val (.ref b11), .val (.int (p0 &&& (3 : Int32))), .val (.int (1 : Int32))] [(.ref b11)])) rfl (by rw [hml]; rfl) (Steps.refl _) (argsL := []) (rest := []) (lenOf pd8 rfl) rfl (by show 2 * 0 + _ ≤ _; exact Nat.le_of_eq rfl) (hb hby at_98) (fun _ _ => ⟨rfl, rfl, (by decide : 8 + 0 ≤ _), (by decide : 38 + 0 ≤ _)⟩)
      dsimp only [Pt.U, Pt.locs, Pt.cells, Pt.slots] at X38 l38 y38 z38 st38 hQ38
      rw [l38, y38, z38] at X38
      obtain ⟨rfl, N38q, e38⟩ := hQ38
      have N38 := Fr.app N36 N38q
      refine DnW.by (U' := T38.setTop (mkF m 101 #[.val (.int p0), .val (.int p1), .val (.int p2), .val (.int p3), .val (.int p4), .val (.int p5), .val (.ref b1), .val (.ref b11), .val (.int (p0 &&& (3 : Int32))), .val (.int (1 : Int32))] [(.int (isS b11 (Native.java_lang_Math.nans.pick64 true (18442240474082181120 : UInt64) (FP.i2d p1))))])) (fun _ ks => st38.trans ks) ?_
      rw [show (isS b11 (Native.java_lang_Math.nans.pick64 true (18442240474082181120 : UInt64) (FP.i2d p1))) = (1 : Int32) from own_is1 _ fin36]
      refine DnW.by (U' := T38.setTop (mkF m 104 #[.val (.int p0), .val (.int p1), .val (.int p2), .val (.int p3), .val (.int p4), .val (.int p5), .val (.ref b1), .val (.ref b11), .val (.int (p0 &&& (3 : Int32))), .val (.int (1 : Int32))] [])) (fun _ ks => XS.ifNo X38.here hx rfl (hb hby at_101) rfl (by decide) ks) ?_
      refine DnW.by (U' := T38.setTop (mkF m 105 #[.val (.int p0), .val (.int p1), .val (.int p2), .val (.int p3), .val (.int p4), .val (.int p5), .val (.ref b1), .val (.ref b11), .val (.int (p0 &&& (3 : Int32))), .val (.int (1 : Int32))] [(.int (1 : Int32))])) (fun _ ks => XS.iconst X38.here hx rfl (hb hby at_104)  ks) ?_
      refine DnW.by (U' := T38.setTop (mkF m 109 #[.val (.int p0), .val (.int p1), .val (.int p2), .val (.int p3), .val (.int p4), .val (.int p5), .val (.ref b1), .val (.ref b11), .val (.int (p0 &&& (3 : Int32))), .val (.int (1 : Int32))] [(.int (1 : Int32))])) (fun _ ks => XS.goto X38.here hx rfl (pc0 := 105) (pc' := 109) rfl (hb hby at_105) (by decide) (by decide) ks) ?_
      refine DnW.by (U' := T38.setTop (mkF m 111 #[.val (.int p0), .val (.int p1), .val (.int p2), .val (.int p3), .val (.int p4), .val (.int p5), .val (.ref b1), .val (.ref b11), .val (.int (p0 &&& (3 : Int32))), .val (.int (1 : Int32))] [])) (fun _ ks => XS.istore X38.here hx rfl (hb hby at_109) rfl (l' := #[.val (.int p0), .val (.int p1), .val (.int p2), .val (.int p3), .val (.int p4), .val (.int p5), .val (.ref b1), .val (.ref b11), .val (.int (p0 &&& (3 : Int32))), .val (.int (1 : Int32))]) rfl ks) ?_
      refine DnW.by (U' := T38.setTop (mkF m 113 #[.val (.int p0), .val (.int p1), .val (.int p2), .val (.int p3), .val (.int p4), .val (.int p5), .val (.ref b1), .val (.ref b11), .val (.int (p0 &&& (3 : Int32))), .val (.int (1 : Int32))] [(.int (p0 &&& (3 : Int32)))])) (fun _ ks => XS.iload X38.here hx rfl (hb hby at_111) rfl ks) ?_
      refine DnW.by (U' := T38.setTop (mkF m 114 #[.val (.int p0), .val (.int p1), .val (.int p2), .val (.int p3), .val (.int p4), .val (.int p5), .val (.ref b1), .val (.ref b11), .val (.int (p0 &&& (3 : Int32))), .val (.int (1 : Int32))] [(.int (2 : Int32)), (.int (p0 &&& (3 : Int32)))])) (fun _ ks => XS.iconst X38.here hx rfl (hb hby at_113)  ks) ?_
      by_cases c114_39 : (p0 &&& (3 : Int32)) < (2 : Int32)
      ·
        refine DnW.by (U' := T38.setTop (mkF m 127 #[.val (.int p0), .val (.int p1), .val (.int p2), .val (.int p3), .val (.int p4), .val (.int p5), .val (.ref b1), .val (.ref b11), .val (.int (p0 &&& (3 : Int32))), .val (.int (1 : Int32))] [])) (fun _ ks => XS.icmpYes X38.here hx rfl (pc0 := 114) (pc' := 127) rfl (hb hby at_114) rfl (tlt c114_39).1 (by decide) (by decide) ks) ?_
        refine DnW.by (U' := T38.setTop (mkF m 129 #[.val (.int p0), .val (.int p1), .val (.int p2), .val (.int p3), .val (.int p4), .val (.int p5), .val (.ref b1), .val (.ref b11), .val (.int (p0 &&& (3 : Int32))), .val (.int (1 : Int32))] [(.int (p0 &&& (3 : Int32)))])) (fun _ ks => XS.iload X38.here hx rfl (hb hby at_127) rfl ks) ?_
        refine DnW.by (U' := T38.setTop (mkF m 130 #[.val (.int p0), .val (.int p1), .val (.int p2), .val (.int p3), .val (.int p4), .val (.int p5), .val (.ref b1), .val (.ref b11), .val (.int (p0 &&& (3 : Int32))), .val (.int (1 : Int32))] [(.int (3 : Int32)), (.int (p0 &&& (3 : Int32)))])) (fun _ ks => XS.iconst X38.here hx rfl (hb hby at_129)  ks) ?_
        refine DnW.by (U' := T38.setTop (mkF m 143 #[.val (.int p0), .val (.int p1), .val (.int p2), .val (.int p3), .val (.int p4), .val (.int p5), .val (.ref b1), .val (.ref b11), .val (.int (p0 &&& (3 : Int32))), .val (.int (1 : Int32))] [])) (fun _ ks => XS.icmpYes X38.here hx rfl (pc0 := 130) (pc' := 143) rfl (hb hby at_130) rfl (tlt (Int32.lt_trans c114_39 (by decide))).1 (by decide) (by decide) ks) ?_
        refine DnW.by (U' := T38.setTop (mkF m 145 #[.val (.int p0), .val (.int p1), .val (.int p2), .val (.int p3), .val (.int p4), .val (.int p5), .val (.ref b1), .val (.ref b11), .val (.int (p0 &&& (3 : Int32))), .val (.int (1 : Int32))] [(.int (1 : Int32))])) (fun _ ks => XS.iload X38.here hx rfl (hb hby at_143) rfl ks) ?_
        refine DnW.by (U' := T38.setTop (mkF m 148 #[.val (.int p0), .val (.int p1), .val (.int p2), .val (.int p3), .val (.int p4), .val (.int p5), .val (.ref b1), .val (.ref b11), .val (.int (p0 &&& (3 : Int32))), .val (.int (1 : Int32))] [])) (fun _ ks => XS.ifNo X38.here hx rfl (hb hby at_145) rfl (by decide) ks) ?_
        refine DnW.by (U' := T38.setTop (mkF m 150 #[.val (.int p0), .val (.int p1), .val (.int p2), .val (.int p3), .val (.int p4), .val (.int p5), .val (.ref b1), .val (.ref b11), .val (.int (p0 &&& (3 : Int32))), .val (.int (1 : Int32))] [(.ref b11)])) (fun _ ks => XS.aload X38.here hx rfl (hb hby at_148) rfl rfl ks) ?_
        obtain ⟨cq40, kq40, qa40, qb40, qc40⟩ := isOf hZ e38 EE36
        obtain ⟨_, _, ⟨T40, L40, k40, n40⟩, -, X40, ⟨Lc40, hQ40, l40, y40, z40⟩, st40⟩ := X38.virtualBack hx (y := (⟨"com/example/nadir/nadir/HeldKey", "isSampled", "()Z"⟩ : MethodName)) (z := (⟨"com/example/nadir/nadir/HeldKey", "isSampled", "()Z"⟩ : MethodName)) hown (mvT hZ (hw _ (List.mem_of_getElem? (i := 92) rfl))) (mvT hZ (hw _ (List.mem_of_getElem? (i := 93) rfl))) (notFace_of_selects (args := #[]) (mvT hZ (hw _ (List.mem_of_getElem? (i := 95) rfl)))) (mvT hZ (hw _ (List.mem_of_getElem? (i := 95) rfl))) (mvT hZ (hw _ (List.mem_of_getElem? (i := 94) rfl))) (by decide) (backOf (W := 0) (rm12 l Z a0 hw [] b11 (Native.java_lang_Math.nans.pick64 true (18442240474082181120 : UInt64) (FP.i2d p1)) T36.heap n0 z37 FL36) hZ (hw _ (List.mem_of_getElem? (i := 96) rfl)) (hw _ (List.mem_of_getElem? (i := 30) rfl)) (by decide) (by decide)) qa40 qc40 (g := (mkF m 150 #[.val (.int p0), .val (.int p1), .val (.int p2), .val (.int p3), .val (.int p4), .val (.int p5), .val (.ref b1), .val (.ref b11), .val (.int (p0 &&& (3 : Int32))), .val (.int (1 : Int32))] [(.ref b11)])) rfl (by rw [hml]; rfl) (Steps.refl _) (argsL := []) (rest := []) (lenOf pd8 rfl) rfl (by show 2 * 0 + _ ≤ _; exact Nat.le_of_eq rfl) (hb hby at_150) (fun _ _ => ⟨rfl, e38, (by decide : 8 + 0 ≤ _), (by decide : 38 + 0 ≤ _)⟩)
        dsimp only [Pt.U, Pt.locs, Pt.cells, Pt.slots] at X40 l40 y40 z40 st40 hQ40
        rw [l40, y40, z40] at X40
        obtain ⟨rfl, N40q, e40⟩ := hQ40
        have N40 := Fr.app N38 N40q
        refine DnW.by (U' := T40.setTop (mkF m 153 #[.val (.int p0), .val (.int p1), .val (.int p2), .val (.int p3), .val (.int p4), .val (.int p5), .val (.ref b1), .val (.ref b11), .val (.int (p0 &&& (3 : Int32))), .val (.int (1 : Int32))] [(.int (isS b11 (Native.java_lang_Math.nans.pick64 true (18442240474082181120 : UInt64) (FP.i2d p1))))])) (fun _ ks => st40.trans ks) ?_
        rw [show (isS b11 (Native.java_lang_Math.nans.pick64 true (18442240474082181120 : UInt64) (FP.i2d p1))) = (1 : Int32) from own_is1 _ fin36]
        refine DnW.by (U' := T40.setTop (mkF m 155 #[.val (.int p0), .val (.int p1), .val (.int p2), .val (.int p3), .val (.int p4), .val (.int p5), .val (.ref b1), .val (.ref b11), .val (.int (p0 &&& (3 : Int32))), .val (.int (1 : Int32))] [(.int (p0 &&& (3 : Int32))), (.int (1 : Int32))])) (fun _ ks => XS.iload X40.here hx rfl (hb hby at_153) rfl ks) ?_
        refine DnW.by (U' := T40.setTop (mkF m 156 #[.val (.int p0), .val (.int p1), .val (.int p2), .val (.int p3), .val (.int p4), .val (.int p5), .val (.ref b1), .val (.ref b11), .val (.int (p0 &&& (3 : Int32))), .val (.int (1 : Int32))] [(.int (1 : Int32)), (.int (p0 &&& (3 : Int32))), (.int (1 : Int32))])) (fun _ ks => XS.iconst X40.here hx rfl (hb hby at_155)  ks) ?_
        refine DnW.by (U' := T40.setTop (mkF m 159 #[.val (.int p0), .val (.int p1), .val (.int p2), .val (.int p3), .val (.int p4), .val (.int p5), .val (.ref b1), .val (.ref b11), .val (.int (p0 &&& (3 : Int32))), .val (.int (1 : Int32))] [(.int (1 : Int32))])) (fun _ ks => XS.icmpNo X40.here hx rfl (hb hby at_156) rfl (flt c78_34).1 ks) ?_
        refine DnW.by (U' := T40.setTop (mkF m 160 #[.val (.int p0), .val (.int p1), .val (.int p2), .val (.int p3), .val (.int p4), .val (.int p5), .val (.ref b1), .val (.ref b11), .val (.int (p0 &&& (3 : Int32))), .val (.int (1 : Int32))] [(.int (1 : Int32)), (.int (1 : Int32))])) (fun _ ks => XS.iconst X40.here hx rfl (hb hby at_159)  ks) ?_
        refine DnW.by (U' := T40.setTop (mkF m 164 #[.val (.int p0), .val (.int p1), .val (.int p2), .val (.int p3), .val (.int p4), .val (.int p5), .val (.ref b1), .val (.ref b11), .val (.int (p0 &&& (3 : Int32))), .val (.int (1 : Int32))] [(.int (1 : Int32)), (.int (1 : Int32))])) (fun _ ks => XS.goto X40.here hx rfl (pc0 := 160) (pc' := 164) rfl (hb hby at_160) (by decide) (by decide) ks) ?_
        refine DnW.by (U' := T40.setTop (mkF m 167 #[.val (.int p0), .val (.int p1), .val (.int p2), .val (.int p3), .val (.int p4), .val (.int p5), .val (.ref b1), .val (.ref b11), .val (.int (p0 &&& (3 : Int32))), .val (.int (1 : Int32))] [])) (fun _ ks => XS.icmpNo X40.here hx rfl (hb hby at_164) rfl (by decide) ks) ?_
        refine DnW.by (U' := T40.setTop (mkF m 168 #[.val (.int p0), .val (.int p1), .val (.int p2), .val (.int p3), .val (.int p4), .val (.int p5), .val (.ref b1), .val (.ref b11), .val (.int (p0 &&& (3 : Int32))), .val (.int (1 : Int32))] [(.int (1 : Int32))])) (fun _ ks => XS.iconst X40.here hx rfl (hb hby at_167)  ks) ?_
        refine DnW.by (U' := T40.setTop (mkF m 172 #[.val (.int p0), .val (.int p1), .val (.int p2), .val (.int p3), .val (.int p4), .val (.int p5), .val (.ref b1), .val (.ref b11), .val (.int (p0 &&& (3 : Int32))), .val (.int (1 : Int32))] [(.int (1 : Int32))])) (fun _ ks => XS.goto X40.here hx rfl (pc0 := 168) (pc' := 172) rfl (hb hby at_168) (by decide) (by decide) ks) ?_
        refine DnW.by (U' := T40.setTop (mkF m 174 #[.val (.int p0), .val (.int p1), .val (.int p2), .val (.int p3), .val (.int p4), .val (.int p5), .val (.ref b1), .val (.ref b11), .val (.int (p0 &&& (3 : Int32))), .val (.int (1 : Int32))] [])) (fun _ ks => XS.istore X40.here hx rfl (hb hby at_172) rfl (l' := #[.val (.int p0), .val (.int p1), .val (.int p2), .val (.int p3), .val (.int p4), .val (.int p5), .val (.ref b1), .val (.ref b11), .val (.int (p0 &&& (3 : Int32))), .val (.int (1 : Int32))]) rfl ks) ?_
        refine DnW.by (U' := T40.setTop (mkF m 176 #[.val (.int p0), .val (.int p1), .val (.int p2), .val (.int p3), .val (.int p4), .val (.int p5), .val (.ref b1), .val (.ref b11), .val (.int (p0 &&& (3 : Int32))), .val (.int (1 : Int32))] [(.int (1 : Int32))])) (fun _ ks => XS.iload X40.here hx rfl (hb hby at_174) rfl ks) ?_
        refine DnW.out X40 hS3 (by rw [e40]; exact hk37) (v := (some (.int (1 : Int32)))) (fun h => by rw [Bd.returns] at h; cases h) (BodyLoose.notSynchronized Bd) (fun _ hr => retN X40 hx (t := .boolean) Bd.returns (by simp) (hb hby at_176) hr) (by decide) (by decide) ?_ ?_
        · rw [e40]; exact ⟨rfl, N40⟩
        · rw [hh, e40]; exact C37.trans (CHv.at X40 hZ hEL C37.1)
      ·
        refine DnW.by (U' := T38.setTop (mkF m 117 #[.val (.int p0), .val (.int p1), .val (.int p2), .val (.int p3), .val (.int p4), .val (.int p5), .val (.ref b1), .val (.ref b11), .val (.int (p0 &&& (3 : Int32))), .val (.int (1 : Int32))] [])) (fun _ ks => XS.icmpNo X38.here hx rfl (hb hby at_114) rfl (flt c114_39).1 ks) ?_
        refine DnW.by (U' := T38.setTop (mkF m 119 #[.val (.int p0), .val (.int p1), .val (.int p2), .val (.int p3), .val (.int p4), .val (.int p5), .val (.ref b1), .val (.ref b11), .val (.int (p0 &&& (3 : Int32))), .val (.int (1 : Int32))] [(.ref b11)])) (fun _ ks => XS.aload X38.here hx rfl (hb hby at_117) rfl rfl ks) ?_
        refine DnW.by (U' := T38.setTop (mkF m 120 #[.val (.int p0), .val (.int p1), .val (.int p2), .val (.int p3), .val (.int p4), .val (.int p5), .val (.ref b1), .val (.ref b11), .val (.int (p0 &&& (3 : Int32))), .val (.int (1 : Int32))] [(.int (1 : Int32)), (.ref b11)])) (fun _ ks => XS.iconst X38.here hx rfl (hb hby at_119)  ks) ?_
        refine DnW.by (U' := T38.setTop (mkF m 122 #[.val (.int p0), .val (.int p1), .val (.int p2), .val (.int p3), .val (.int p4), .val (.int p5), .val (.ref b1), .val (.ref b11), .val (.int (p0 &&& (3 : Int32))), .val (.int (1 : Int32))] [(.ref b1), (.int (1 : Int32)), (.ref b11)])) (fun _ ks => XS.aload X38.here hx rfl (hb hby at_120) rfl rfl ks) ?_
        refine DnW.by (U' := T38.setTop (mkF m 123 #[.val (.int p0), .val (.int p1), .val (.int p2), .val (.int p3), .val (.int p4), .val (.int p5), .val (.ref b1), .val (.ref b11), .val (.int (p0 &&& (3 : Int32))), .val (.int (1 : Int32))] [(.int p2), (.ref b1), (.int (1 : Int32)), (.ref b11)])) (fun _ ks => XS.iloadN X38.here hx rfl (hb hby at_122) rfl ks) ?_
        refine DnW.by (U' := T38.setTop (mkF m 124 #[.val (.int p0), .val (.int p1), .val (.int p2), .val (.int p3), .val (.int p4), .val (.int p5), .val (.ref b1), .val (.ref b11), .val (.int (p0 &&& (3 : Int32))), .val (.int (1 : Int32))] [(.double (FP.i2d p2)), (.ref b1), (.int (1 : Int32)), (.ref b11)])) (fun _ ks => XS.i2dS X38.here hx rfl (hb hby at_123) rfl rfl ks) ?_
        obtain ⟨cq41, kq41, qa41, qb41, qc41⟩ := isOf hZ e38 EE36
        obtain ⟨_, _, ⟨T41, L41, k41, n41⟩, -, X41, ⟨Lc41, hQ41, l41, y41, z41⟩, st41⟩ := X38.virtualBack hx (y := (⟨"com/example/nadir/nadir/HeldKey", "sampledBy", "(ILcom/example/nadir/nadir/RankedKey;D)V"⟩ : MethodName)) (z := (⟨"com/example/nadir/nadir/HeldKey", "sampledBy", "(ILcom/example/nadir/nadir/RankedKey;D)V"⟩ : MethodName)) hown (mvT hZ (hw _ (List.mem_of_getElem? (i := 112) rfl))) (mvT hZ (hw _ (List.mem_of_getElem? (i := 113) rfl))) (notFace_of_selects (args := #[]) (mvT hZ (hw _ (List.mem_of_getElem? (i := 115) rfl)))) (mvT hZ (hw _ (List.mem_of_getElem? (i := 115) rfl))) (mvT hZ (hw _ (List.mem_of_getElem? (i := 114) rfl))) (by decide) (backOf (W := 0) (rm16 l Z a0 hw [] b11 (1 : Int32) b1 (FP.i2d p2) (Native.java_lang_Math.nans.pick64 true (18442240474082181120 : UInt64) (FP.i2d p1)) T36.heap n0 z37 g_b11 EE36 FL36 FN36 (own_nn fin36) (own_nn (own_fi _))) hZ (hw _ (List.mem_of_getElem? (i := 116) rfl)) (hw _ (List.mem_of_getElem? (i := 30) rfl)) (by decide) (by decide)) qa41 qc41 (g := (mkF m 124 #[.val (.int p0), .val (.int p1), .val (.int p2), .val (.int p3), .val (.int p4), .val (.int p5), .val (.ref b1), .val (.ref b11), .val (.int (p0 &&& (3 : Int32))), .val (.int (1 : Int32))] [(.double (FP.i2d p2)), (.ref b1), (.int (1 : Int32)), (.ref b11)])) rfl (by rw [hml]; rfl) (Steps.refl _) (argsL := [(.int (1 : Int32)), (.ref b1), (.double (FP.i2d p2))]) (rest := []) (lenOf pd9 rfl) rfl (by show 2 * 0 + _ ≤ _; exact Nat.le_of_eq rfl) (hb hby at_124) (fun _ _ => ⟨rfl, e38, (by decide : 8 + 0 ≤ _), (by decide : 38 + 0 ≤ _)⟩)
        dsimp only [Pt.U, Pt.locs, Pt.cells, Pt.slots] at X41 l41 y41 z41 st41 hQ41
        rw [l41, y41, z41] at X41
        obtain ⟨rfl, N41q, KK41, EE41, FL41, FN41⟩ := hQ41
        have N41 := Fr.app N38 N41q
        have K42 : Keep h0 T41.heap [] := (K37.trans KK41 (allS (Or.inr sz_b11) all0))
        have z42 : n0 ≤ T41.heap.size := (Nat.le_trans z37 KK41.1)
        have O42 : Old Z n0 T41.heap := O37.keep KK41 (allS g_b11 all0)
        have C42 : CHr Z EL s.vm h0 T3.vm T41.heap := C37.trans (CHr.keep KK41 (allS (Safe.exa hZ.alike EE36 (by decide) (by decide)) all0) C37.1)
        have hk42 : _ ≤ T41.heap.size := Nat.le_trans hk37 KK41.1
        have fin41 : FF (Native.java_lang_Math.nans.pick64 true (Native.java_lang_Math.nans.pick64 true (18442240474082181120 : UInt64) (FP.i2d p1)) (FP.i2d p2)) := own_f2 fin36 (own_fi _)
        refine DnW.by (U' := T41.setTop (mkF m 127 #[.val (.int p0), .val (.int p1), .val (.int p2), .val (.int p3), .val (.int p4), .val (.int p5), .val (.ref b1), .val (.ref b11), .val (.int (p0 &&& (3 : Int32))), .val (.int (1 : Int32))] [])) (fun _ ks => st41.trans ks) ?_
        refine DnW.by (U' := T41.setTop (mkF m 129 #[.val (.int p0), .val (.int p1), .val (.int p2), .val (.int p3), .val (.int p4), .val (.int p5), .val (.ref b1), .val (.ref b11), .val (.int (p0 &&& (3 : Int32))), .val (.int (1 : Int32))] [(.int (p0 &&& (3 : Int32)))])) (fun _ ks => XS.iload X41.here hx rfl (hb hby at_127) rfl ks) ?_
        refine DnW.by (U' := T41.setTop (mkF m 130 #[.val (.int p0), .val (.int p1), .val (.int p2), .val (.int p3), .val (.int p4), .val (.int p5), .val (.ref b1), .val (.ref b11), .val (.int (p0 &&& (3 : Int32))), .val (.int (1 : Int32))] [(.int (3 : Int32)), (.int (p0 &&& (3 : Int32)))])) (fun _ ks => XS.iconst X41.here hx rfl (hb hby at_129)  ks) ?_
        by_cases c130_43 : (p0 &&& (3 : Int32)) < (3 : Int32)
        ·
          refine DnW.by (U' := T41.setTop (mkF m 143 #[.val (.int p0), .val (.int p1), .val (.int p2), .val (.int p3), .val (.int p4), .val (.int p5), .val (.ref b1), .val (.ref b11), .val (.int (p0 &&& (3 : Int32))), .val (.int (1 : Int32))] [])) (fun _ ks => XS.icmpYes X41.here hx rfl (pc0 := 130) (pc' := 143) rfl (hb hby at_130) rfl (tlt c130_43).1 (by decide) (by decide) ks) ?_
          refine DnW.by (U' := T41.setTop (mkF m 145 #[.val (.int p0), .val (.int p1), .val (.int p2), .val (.int p3), .val (.int p4), .val (.int p5), .val (.ref b1), .val (.ref b11), .val (.int (p0 &&& (3 : Int32))), .val (.int (1 : Int32))] [(.int (1 : Int32))])) (fun _ ks => XS.iload X41.here hx rfl (hb hby at_143) rfl ks) ?_
          refine DnW.by (U' := T41.setTop (mkF m 148 #[.val (.int p0), .val (.int p1), .val (.int p2), .val (.int p3), .val (.int p4), .val (.int p5), .val (.ref b1), .val (.ref b11), .val (.int (p0 &&& (3 : Int32))), .val (.int (1 : Int32))] [])) (fun _ ks => XS.ifNo X41.here hx rfl (hb hby at_145) rfl (by decide) ks) ?_
          refine DnW.by (U' := T41.setTop (mkF m 150 #[.val (.int p0), .val (.int p1), .val (.int p2), .val (.int p3), .val (.int p4), .val (.int p5), .val (.ref b1), .val (.ref b11), .val (.int (p0 &&& (3 : Int32))), .val (.int (1 : Int32))] [(.ref b11)])) (fun _ ks => XS.aload X41.here hx rfl (hb hby at_148) rfl rfl ks) ?_
          obtain ⟨cq44, kq44, qa44, qb44, qc44⟩ := isOf hZ rfl EE41
          obtain ⟨_, _, ⟨T44, L44, k44, n44⟩, -, X44, ⟨Lc44, hQ44, l44, y44, z44⟩, st44⟩ := X41.virtualBack hx (y := (⟨"com/example/nadir/nadir/HeldKey", "isSampled", "()Z"⟩ : MethodName)) (z := (⟨"com/example/nadir/nadir/HeldKey", "isSampled", "()Z"⟩ : MethodName)) hown (mvT hZ (hw _ (List.mem_of_getElem? (i := 92) rfl))) (mvT hZ (hw _ (List.mem_of_getElem? (i := 93) rfl))) (notFace_of_selects (args := #[]) (mvT hZ (hw _ (List.mem_of_getElem? (i := 95) rfl)))) (mvT hZ (hw _ (List.mem_of_getElem? (i := 95) rfl))) (mvT hZ (hw _ (List.mem_of_getElem? (i := 94) rfl))) (by decide) (backOf (W := 0) (rm12 l Z a0 hw [] b11 (Native.java_lang_Math.nans.pick64 true (Native.java_lang_Math.nans.pick64 true (18442240474082181120 : UInt64) (FP.i2d p1)) (FP.i2d p2)) T41.heap n0 z42 FL41) hZ (hw _ (List.mem_of_getElem? (i := 96) rfl)) (hw _ (List.mem_of_getElem? (i := 30) rfl)) (by decide) (by decide)) qa44 qc44 (g := (mkF m 150 #[.val (.int p0), .val (.int p1), .val (.int p2), .val (.int p3), .val (.int p4), .val (.int p5), .val (.ref b1), .val (.ref b11), .val (.int (p0 &&& (3 : Int32))), .val (.int (1 : Int32))] [(.ref b11)])) rfl (by rw [hml]; rfl) (Steps.refl _) (argsL := []) (rest := []) (lenOf pd8 rfl) rfl (by show 2 * 0 + _ ≤ _; exact Nat.le_of_eq rfl) (hb hby at_150) (fun _ _ => ⟨rfl, rfl, (by decide : 8 + 0 ≤ _), (by decide : 38 + 0 ≤ _)⟩)
          dsimp only [Pt.U, Pt.locs, Pt.cells, Pt.slots] at X44 l44 y44 z44 st44 hQ44
          rw [l44, y44, z44] at X44
          obtain ⟨rfl, N44q, e44⟩ := hQ44
          have N44 := Fr.app N41 N44q
          refine DnW.by (U' := T44.setTop (mkF m 153 #[.val (.int p0), .val (.int p1), .val (.int p2), .val (.int p3), .val (.int p4), .val (.int p5), .val (.ref b1), .val (.ref b11), .val (.int (p0 &&& (3 : Int32))), .val (.int (1 : Int32))] [(.int (isS b11 (Native.java_lang_Math.nans.pick64 true (Native.java_lang_Math.nans.pick64 true (18442240474082181120 : UInt64) (FP.i2d p1)) (FP.i2d p2))))])) (fun _ ks => st44.trans ks) ?_
          rw [show (isS b11 (Native.java_lang_Math.nans.pick64 true (Native.java_lang_Math.nans.pick64 true (18442240474082181120 : UInt64) (FP.i2d p1)) (FP.i2d p2))) = (1 : Int32) from own_is1 _ fin41]
          refine DnW.by (U' := T44.setTop (mkF m 155 #[.val (.int p0), .val (.int p1), .val (.int p2), .val (.int p3), .val (.int p4), .val (.int p5), .val (.ref b1), .val (.ref b11), .val (.int (p0 &&& (3 : Int32))), .val (.int (1 : Int32))] [(.int (p0 &&& (3 : Int32))), (.int (1 : Int32))])) (fun _ ks => XS.iload X44.here hx rfl (hb hby at_153) rfl ks) ?_
          refine DnW.by (U' := T44.setTop (mkF m 156 #[.val (.int p0), .val (.int p1), .val (.int p2), .val (.int p3), .val (.int p4), .val (.int p5), .val (.ref b1), .val (.ref b11), .val (.int (p0 &&& (3 : Int32))), .val (.int (1 : Int32))] [(.int (1 : Int32)), (.int (p0 &&& (3 : Int32))), (.int (1 : Int32))])) (fun _ ks => XS.iconst X44.here hx rfl (hb hby at_155)  ks) ?_
          refine DnW.by (U' := T44.setTop (mkF m 159 #[.val (.int p0), .val (.int p1), .val (.int p2), .val (.int p3), .val (.int p4), .val (.int p5), .val (.ref b1), .val (.ref b11), .val (.int (p0 &&& (3 : Int32))), .val (.int (1 : Int32))] [(.int (1 : Int32))])) (fun _ ks => XS.icmpNo X44.here hx rfl (hb hby at_156) rfl (flt c78_34).1 ks) ?_
          refine DnW.by (U' := T44.setTop (mkF m 160 #[.val (.int p0), .val (.int p1), .val (.int p2), .val (.int p3), .val (.int p4), .val (.int p5), .val (.ref b1), .val (.ref b11), .val (.int (p0 &&& (3 : Int32))), .val (.int (1 : Int32))] [(.int (1 : Int32)), (.int (1 : Int32))])) (fun _ ks => XS.iconst X44.here hx rfl (hb hby at_159)  ks) ?_
          refine DnW.by (U' := T44.setTop (mkF m 164 #[.val (.int p0), .val (.int p1), .val (.int p2), .val (.int p3), .val (.int p4), .val (.int p5), .val (.ref b1), .val (.ref b11), .val (.int (p0 &&& (3 : Int32))), .val (.int (1 : Int32))] [(.int (1 : Int32)), (.int (1 : Int32))])) (fun _ ks => XS.goto X44.here hx rfl (pc0 := 160) (pc' := 164) rfl (hb hby at_160) (by decide) (by decide) ks) ?_
          refine DnW.by (U' := T44.setTop (mkF m 167 #[.val (.int p0), .val (.int p1), .val (.int p2), .val (.int p3), .val (.int p4), .val (.int p5), .val (.ref b1), .val (.ref b11), .val (.int (p0 &&& (3 : Int32))), .val (.int (1 : Int32))] [])) (fun _ ks => XS.icmpNo X44.here hx rfl (hb hby at_164) rfl (by decide) ks) ?_
          refine DnW.by (U' := T44.setTop (mkF m 168 #[.val (.int p0), .val (.int p1), .val (.int p2), .val (.int p3), .val (.int p4), .val (.int p5), .val (.ref b1), .val (.ref b11), .val (.int (p0 &&& (3 : Int32))), .val (.int (1 : Int32))] [(.int (1 : Int32))])) (fun _ ks => XS.iconst X44.here hx rfl (hb hby at_167)  ks) ?_
          refine DnW.by (U' := T44.setTop (mkF m 172 #[.val (.int p0), .val (.int p1), .val (.int p2), .val (.int p3), .val (.int p4), .val (.int p5), .val (.ref b1), .val (.ref b11), .val (.int (p0 &&& (3 : Int32))), .val (.int (1 : Int32))] [(.int (1 : Int32))])) (fun _ ks => XS.goto X44.here hx rfl (pc0 := 168) (pc' := 172) rfl (hb hby at_168) (by decide) (by decide) ks) ?_
          refine DnW.by (U' := T44.setTop (mkF m 174 #[.val (.int p0), .val (.int p1), .val (.int p2), .val (.int p3), .val (.int p4), .val (.int p5), .val (.ref b1), .val (.ref b11), .val (.int (p0 &&& (3 : Int32))), .val (.int (1 : Int32))] [])) (fun _ ks => XS.istore X44.here hx rfl (hb hby at_172) rfl (l' := #[.val (.int p0), .val (.int p1), .val (.int p2), .val (.int p3), .val (.int p4), .val (.int p5), .val (.ref b1), .val (.ref b11), .val (.int (p0 &&& (3 : Int32))), .val (.int (1 : Int32))]) rfl ks) ?_
          refine DnW.by (U' := T44.setTop (mkF m 176 #[.val (.int p0), .val (.int p1), .val (.int p2), .val (.int p3), .val (.int p4), .val (.int p5), .val (.ref b1), .val (.ref b11), .val (.int (p0 &&& (3 : Int32))), .val (.int (1 : Int32))] [(.int (1 : Int32))])) (fun _ ks => XS.iload X44.here hx rfl (hb hby at_174) rfl ks) ?_
          refine DnW.out X44 hS3 (by rw [e44]; exact hk42) (v := (some (.int (1 : Int32)))) (fun h => by rw [Bd.returns] at h; cases h) (BodyLoose.notSynchronized Bd) (fun _ hr => retN X44 hx (t := .boolean) Bd.returns (by simp) (hb hby at_176) hr) (by decide) (by decide) ?_ ?_
          · rw [e44]; exact ⟨rfl, N44⟩
          · rw [hh, e44]; exact C42.trans (CHv.at X44 hZ hEL C42.1)
        ·
          refine DnW.by (U' := T41.setTop (mkF m 133 #[.val (.int p0), .val (.int p1), .val (.int p2), .val (.int p3), .val (.int p4), .val (.int p5), .val (.ref b1), .val (.ref b11), .val (.int (p0 &&& (3 : Int32))), .val (.int (1 : Int32))] [])) (fun _ ks => XS.icmpNo X41.here hx rfl (hb hby at_130) rfl (flt c130_43).1 ks) ?_
          refine DnW.by (U' := T41.setTop (mkF m 135 #[.val (.int p0), .val (.int p1), .val (.int p2), .val (.int p3), .val (.int p4), .val (.int p5), .val (.ref b1), .val (.ref b11), .val (.int (p0 &&& (3 : Int32))), .val (.int (1 : Int32))] [(.ref b11)])) (fun _ ks => XS.aload X41.here hx rfl (hb hby at_133) rfl rfl ks) ?_
          refine DnW.by (U' := T41.setTop (mkF m 136 #[.val (.int p0), .val (.int p1), .val (.int p2), .val (.int p3), .val (.int p4), .val (.int p5), .val (.ref b1), .val (.ref b11), .val (.int (p0 &&& (3 : Int32))), .val (.int (1 : Int32))] [(.int (2 : Int32)), (.ref b11)])) (fun _ ks => XS.iconst X41.here hx rfl (hb hby at_135)  ks) ?_
          refine DnW.by (U' := T41.setTop (mkF m 138 #[.val (.int p0), .val (.int p1), .val (.int p2), .val (.int p3), .val (.int p4), .val (.int p5), .val (.ref b1), .val (.ref b11), .val (.int (p0 &&& (3 : Int32))), .val (.int (1 : Int32))] [(.ref b1), (.int (2 : Int32)), (.ref b11)])) (fun _ ks => XS.aload X41.here hx rfl (hb hby at_136) rfl rfl ks) ?_
          refine DnW.by (U' := T41.setTop (mkF m 139 #[.val (.int p0), .val (.int p1), .val (.int p2), .val (.int p3), .val (.int p4), .val (.int p5), .val (.ref b1), .val (.ref b11), .val (.int (p0 &&& (3 : Int32))), .val (.int (1 : Int32))] [(.int p3), (.ref b1), (.int (2 : Int32)), (.ref b11)])) (fun _ ks => XS.iloadN X41.here hx rfl (hb hby at_138) rfl ks) ?_
          refine DnW.by (U' := T41.setTop (mkF m 140 #[.val (.int p0), .val (.int p1), .val (.int p2), .val (.int p3), .val (.int p4), .val (.int p5), .val (.ref b1), .val (.ref b11), .val (.int (p0 &&& (3 : Int32))), .val (.int (1 : Int32))] [(.double (FP.i2d p3)), (.ref b1), (.int (2 : Int32)), (.ref b11)])) (fun _ ks => XS.i2dS X41.here hx rfl (hb hby at_139) rfl rfl ks) ?_
          obtain ⟨cq45, kq45, qa45, qb45, qc45⟩ := isOf hZ rfl EE41
          obtain ⟨_, _, ⟨T45, L45, k45, n45⟩, -, X45, ⟨Lc45, hQ45, l45, y45, z45⟩, st45⟩ := X41.virtualBack hx (y := (⟨"com/example/nadir/nadir/HeldKey", "sampledBy", "(ILcom/example/nadir/nadir/RankedKey;D)V"⟩ : MethodName)) (z := (⟨"com/example/nadir/nadir/HeldKey", "sampledBy", "(ILcom/example/nadir/nadir/RankedKey;D)V"⟩ : MethodName)) hown (mvT hZ (hw _ (List.mem_of_getElem? (i := 112) rfl))) (mvT hZ (hw _ (List.mem_of_getElem? (i := 113) rfl))) (notFace_of_selects (args := #[]) (mvT hZ (hw _ (List.mem_of_getElem? (i := 115) rfl)))) (mvT hZ (hw _ (List.mem_of_getElem? (i := 115) rfl))) (mvT hZ (hw _ (List.mem_of_getElem? (i := 114) rfl))) (by decide) (backOf (W := 0) (rm16 l Z a0 hw [] b11 (2 : Int32) b1 (FP.i2d p3) (Native.java_lang_Math.nans.pick64 true (Native.java_lang_Math.nans.pick64 true (18442240474082181120 : UInt64) (FP.i2d p1)) (FP.i2d p2)) T41.heap n0 z42 g_b11 EE41 FL41 FN41 (own_nn fin41) (own_nn (own_fi _))) hZ (hw _ (List.mem_of_getElem? (i := 116) rfl)) (hw _ (List.mem_of_getElem? (i := 30) rfl)) (by decide) (by decide)) qa45 qc45 (g := (mkF m 140 #[.val (.int p0), .val (.int p1), .val (.int p2), .val (.int p3), .val (.int p4), .val (.int p5), .val (.ref b1), .val (.ref b11), .val (.int (p0 &&& (3 : Int32))), .val (.int (1 : Int32))] [(.double (FP.i2d p3)), (.ref b1), (.int (2 : Int32)), (.ref b11)])) rfl (by rw [hml]; rfl) (Steps.refl _) (argsL := [(.int (2 : Int32)), (.ref b1), (.double (FP.i2d p3))]) (rest := []) (lenOf pd9 rfl) rfl (by show 2 * 0 + _ ≤ _; exact Nat.le_of_eq rfl) (hb hby at_140) (fun _ _ => ⟨rfl, rfl, (by decide : 8 + 0 ≤ _), (by decide : 38 + 0 ≤ _)⟩)
          dsimp only [Pt.U, Pt.locs, Pt.cells, Pt.slots] at X45 l45 y45 z45 st45 hQ45
          rw [l45, y45, z45] at X45
          obtain ⟨rfl, N45q, KK45, EE45, FL45, FN45⟩ := hQ45
          have N45 := Fr.app N41 N45q
          have K46 : Keep h0 T45.heap [] := (K42.trans KK45 (allS (Or.inr sz_b11) all0))
          have z46 : n0 ≤ T45.heap.size := (Nat.le_trans z42 KK45.1)
          have O46 : Old Z n0 T45.heap := O42.keep KK45 (allS g_b11 all0)
          have C46 : CHr Z EL s.vm h0 T3.vm T45.heap := C42.trans (CHr.keep KK45 (allS (Safe.exa hZ.alike EE41 (by decide) (by decide)) all0) C42.1)
          have hk46 : _ ≤ T45.heap.size := Nat.le_trans hk42 KK45.1
          have fin45 : FF (Native.java_lang_Math.nans.pick64 true (Native.java_lang_Math.nans.pick64 true (Native.java_lang_Math.nans.pick64 true (18442240474082181120 : UInt64) (FP.i2d p1)) (FP.i2d p2)) (FP.i2d p3)) := own_f2 fin41 (own_fi _)
          refine DnW.by (U' := T45.setTop (mkF m 143 #[.val (.int p0), .val (.int p1), .val (.int p2), .val (.int p3), .val (.int p4), .val (.int p5), .val (.ref b1), .val (.ref b11), .val (.int (p0 &&& (3 : Int32))), .val (.int (1 : Int32))] [])) (fun _ ks => st45.trans ks) ?_
          refine DnW.by (U' := T45.setTop (mkF m 145 #[.val (.int p0), .val (.int p1), .val (.int p2), .val (.int p3), .val (.int p4), .val (.int p5), .val (.ref b1), .val (.ref b11), .val (.int (p0 &&& (3 : Int32))), .val (.int (1 : Int32))] [(.int (1 : Int32))])) (fun _ ks => XS.iload X45.here hx rfl (hb hby at_143) rfl ks) ?_
          refine DnW.by (U' := T45.setTop (mkF m 148 #[.val (.int p0), .val (.int p1), .val (.int p2), .val (.int p3), .val (.int p4), .val (.int p5), .val (.ref b1), .val (.ref b11), .val (.int (p0 &&& (3 : Int32))), .val (.int (1 : Int32))] [])) (fun _ ks => XS.ifNo X45.here hx rfl (hb hby at_145) rfl (by decide) ks) ?_
          refine DnW.by (U' := T45.setTop (mkF m 150 #[.val (.int p0), .val (.int p1), .val (.int p2), .val (.int p3), .val (.int p4), .val (.int p5), .val (.ref b1), .val (.ref b11), .val (.int (p0 &&& (3 : Int32))), .val (.int (1 : Int32))] [(.ref b11)])) (fun _ ks => XS.aload X45.here hx rfl (hb hby at_148) rfl rfl ks) ?_
          obtain ⟨cq47, kq47, qa47, qb47, qc47⟩ := isOf hZ rfl EE45
          obtain ⟨_, _, ⟨T47, L47, k47, n47⟩, -, X47, ⟨Lc47, hQ47, l47, y47, z47⟩, st47⟩ := X45.virtualBack hx (y := (⟨"com/example/nadir/nadir/HeldKey", "isSampled", "()Z"⟩ : MethodName)) (z := (⟨"com/example/nadir/nadir/HeldKey", "isSampled", "()Z"⟩ : MethodName)) hown (mvT hZ (hw _ (List.mem_of_getElem? (i := 92) rfl))) (mvT hZ (hw _ (List.mem_of_getElem? (i := 93) rfl))) (notFace_of_selects (args := #[]) (mvT hZ (hw _ (List.mem_of_getElem? (i := 95) rfl)))) (mvT hZ (hw _ (List.mem_of_getElem? (i := 95) rfl))) (mvT hZ (hw _ (List.mem_of_getElem? (i := 94) rfl))) (by decide) (backOf (W := 0) (rm12 l Z a0 hw [] b11 (Native.java_lang_Math.nans.pick64 true (Native.java_lang_Math.nans.pick64 true (Native.java_lang_Math.nans.pick64 true (18442240474082181120 : UInt64) (FP.i2d p1)) (FP.i2d p2)) (FP.i2d p3)) T45.heap n0 z46 FL45) hZ (hw _ (List.mem_of_getElem? (i := 96) rfl)) (hw _ (List.mem_of_getElem? (i := 30) rfl)) (by decide) (by decide)) qa47 qc47 (g := (mkF m 150 #[.val (.int p0), .val (.int p1), .val (.int p2), .val (.int p3), .val (.int p4), .val (.int p5), .val (.ref b1), .val (.ref b11), .val (.int (p0 &&& (3 : Int32))), .val (.int (1 : Int32))] [(.ref b11)])) rfl (by rw [hml]; rfl) (Steps.refl _) (argsL := []) (rest := []) (lenOf pd8 rfl) rfl (by show 2 * 0 + _ ≤ _; exact Nat.le_of_eq rfl) (hb hby at_150) (fun _ _ => ⟨rfl, rfl, (by decide : 8 + 0 ≤ _), (by decide : 38 + 0 ≤ _)⟩)
          dsimp only [Pt.U, Pt.locs, Pt.cells, Pt.slots] at X47 l47 y47 z47 st47 hQ47
          rw [l47, y47, z47] at X47
          obtain ⟨rfl, N47q, e47⟩ := hQ47
          have N47 := Fr.app N45 N47q
          refine DnW.by (U' := T47.setTop (mkF m 153 #[.val (.int p0), .val (.int p1), .val (.int p2), .val (.int p3), .val (.int p4), .val (.int p5), .val (.ref b1), .val (.ref b11), .val (.int (p0 &&& (3 : Int32))), .val (.int (1 : Int32))] [(.int (isS b11 (Native.java_lang_Math.nans.pick64 true (Native.java_lang_Math.nans.pick64 true (Native.java_lang_Math.nans.pick64 true (18442240474082181120 : UInt64) (FP.i2d p1)) (FP.i2d p2)) (FP.i2d p3))))])) (fun _ ks => st47.trans ks) ?_
          rw [show (isS b11 (Native.java_lang_Math.nans.pick64 true (Native.java_lang_Math.nans.pick64 true (Native.java_lang_Math.nans.pick64 true (18442240474082181120 : UInt64) (FP.i2d p1)) (FP.i2d p2)) (FP.i2d p3))) = (1 : Int32) from own_is1 _ fin45]
          refine DnW.by (U' := T47.setTop (mkF m 155 #[.val (.int p0), .val (.int p1), .val (.int p2), .val (.int p3), .val (.int p4), .val (.int p5), .val (.ref b1), .val (.ref b11), .val (.int (p0 &&& (3 : Int32))), .val (.int (1 : Int32))] [(.int (p0 &&& (3 : Int32))), (.int (1 : Int32))])) (fun _ ks => XS.iload X47.here hx rfl (hb hby at_153) rfl ks) ?_
          refine DnW.by (U' := T47.setTop (mkF m 156 #[.val (.int p0), .val (.int p1), .val (.int p2), .val (.int p3), .val (.int p4), .val (.int p5), .val (.ref b1), .val (.ref b11), .val (.int (p0 &&& (3 : Int32))), .val (.int (1 : Int32))] [(.int (1 : Int32)), (.int (p0 &&& (3 : Int32))), (.int (1 : Int32))])) (fun _ ks => XS.iconst X47.here hx rfl (hb hby at_155)  ks) ?_
          refine DnW.by (U' := T47.setTop (mkF m 159 #[.val (.int p0), .val (.int p1), .val (.int p2), .val (.int p3), .val (.int p4), .val (.int p5), .val (.ref b1), .val (.ref b11), .val (.int (p0 &&& (3 : Int32))), .val (.int (1 : Int32))] [(.int (1 : Int32))])) (fun _ ks => XS.icmpNo X47.here hx rfl (hb hby at_156) rfl (flt c78_34).1 ks) ?_
          refine DnW.by (U' := T47.setTop (mkF m 160 #[.val (.int p0), .val (.int p1), .val (.int p2), .val (.int p3), .val (.int p4), .val (.int p5), .val (.ref b1), .val (.ref b11), .val (.int (p0 &&& (3 : Int32))), .val (.int (1 : Int32))] [(.int (1 : Int32)), (.int (1 : Int32))])) (fun _ ks => XS.iconst X47.here hx rfl (hb hby at_159)  ks) ?_
          refine DnW.by (U' := T47.setTop (mkF m 164 #[.val (.int p0), .val (.int p1), .val (.int p2), .val (.int p3), .val (.int p4), .val (.int p5), .val (.ref b1), .val (.ref b11), .val (.int (p0 &&& (3 : Int32))), .val (.int (1 : Int32))] [(.int (1 : Int32)), (.int (1 : Int32))])) (fun _ ks => XS.goto X47.here hx rfl (pc0 := 160) (pc' := 164) rfl (hb hby at_160) (by decide) (by decide) ks) ?_
          refine DnW.by (U' := T47.setTop (mkF m 167 #[.val (.int p0), .val (.int p1), .val (.int p2), .val (.int p3), .val (.int p4), .val (.int p5), .val (.ref b1), .val (.ref b11), .val (.int (p0 &&& (3 : Int32))), .val (.int (1 : Int32))] [])) (fun _ ks => XS.icmpNo X47.here hx rfl (hb hby at_164) rfl (by decide) ks) ?_
          refine DnW.by (U' := T47.setTop (mkF m 168 #[.val (.int p0), .val (.int p1), .val (.int p2), .val (.int p3), .val (.int p4), .val (.int p5), .val (.ref b1), .val (.ref b11), .val (.int (p0 &&& (3 : Int32))), .val (.int (1 : Int32))] [(.int (1 : Int32))])) (fun _ ks => XS.iconst X47.here hx rfl (hb hby at_167)  ks) ?_
          refine DnW.by (U' := T47.setTop (mkF m 172 #[.val (.int p0), .val (.int p1), .val (.int p2), .val (.int p3), .val (.int p4), .val (.int p5), .val (.ref b1), .val (.ref b11), .val (.int (p0 &&& (3 : Int32))), .val (.int (1 : Int32))] [(.int (1 : Int32))])) (fun _ ks => XS.goto X47.here hx rfl (pc0 := 168) (pc' := 172) rfl (hb hby at_168) (by decide) (by decide) ks) ?_
          refine DnW.by (U' := T47.setTop (mkF m 174 #[.val (.int p0), .val (.int p1), .val (.int p2), .val (.int p3), .val (.int p4), .val (.int p5), .val (.ref b1), .val (.ref b11), .val (.int (p0 &&& (3 : Int32))), .val (.int (1 : Int32))] [])) (fun _ ks => XS.istore X47.here hx rfl (hb hby at_172) rfl (l' := #[.val (.int p0), .val (.int p1), .val (.int p2), .val (.int p3), .val (.int p4), .val (.int p5), .val (.ref b1), .val (.ref b11), .val (.int (p0 &&& (3 : Int32))), .val (.int (1 : Int32))]) rfl ks) ?_
          refine DnW.by (U' := T47.setTop (mkF m 176 #[.val (.int p0), .val (.int p1), .val (.int p2), .val (.int p3), .val (.int p4), .val (.int p5), .val (.ref b1), .val (.ref b11), .val (.int (p0 &&& (3 : Int32))), .val (.int (1 : Int32))] [(.int (1 : Int32))])) (fun _ ks => XS.iload X47.here hx rfl (hb hby at_174) rfl ks) ?_
          refine DnW.out X47 hS3 (by rw [e47]; exact hk46) (v := (some (.int (1 : Int32)))) (fun h => by rw [Bd.returns] at h; cases h) (BodyLoose.notSynchronized Bd) (fun _ hr => retN X47 hx (t := .boolean) Bd.returns (by simp) (hb hby at_176) hr) (by decide) (by decide) ?_ ?_
          · rw [e47]; exact ⟨rfl, N47⟩
          · rw [hh, e47]; exact C46.trans (CHv.at X47 hZ hEL C46.1)
set_option maxRecDepth 65536 in
set_option maxHeartbeats 40000000 in
theorem comes_1 {Post : Tables → Env → Array Value → State → Outcome → State → Prop} (hpost : ∀ tb e args s v u, (limb_1_1.after args s (.returned v) u = true ∧ limb_1_2.after args s (.returned v) u = true ∧ True) → FramedW s (.returned v) u (Jvm.fieldLocs frame_1_writes args s ++ Jvm.arrayLocs frame_1_arrays args s ++ Jvm.staticLocs frame_1_statics s) 24 1152 → Post tb e args s (.returned v) u) :
    ArmFor flags0 classFile x code maxLocals ret World_1 tables_1 room_1 Calls_1 rest_1 Pre_1 Post := by
  intro l hfl _ _ p e ha hc hk s m args below hf hA hF happ hP
  obtain ⟨hcalls, hrest, hpre⟩ := hP
  obtain ⟨-, -, -, hnamed, -, -, -, hat⟩ := (Spec.applies_iff hf).mp happ
  obtain ⟨hg, hn⟩ := and_e (Cond.before_iff.mp (show (Jvm.Cond.and given_1 narrow_1).before args s = true from hpre))
  obtain ⟨gg1, gg2⟩ := and_e hg
  obtain ⟨gg3, gg4⟩ := and_e gg2
  obtain ⟨gg5, gg6⟩ := and_e gg4
  obtain ⟨gg7, gg8⟩ := and_e gg6
  obtain ⟨gg9, gg10⟩ := and_e gg8
  obtain ⟨gg11, gg12⟩ := and_e gg10
  obtain ⟨w0, w1, w2, w3, w4, w5, rfl⟩ : ∃ w0 w1 w2 w3 w4 w5 : Value, args = #[w0, w1, w2, w3, w4, w5] := by
    have hs : args.size = 6 := by simpa [Cond.value, given_1] using gg1
    obtain ⟨L⟩ := args
    match L, hs with
    | [w0, w1, w2, w3, w4, w5], _ => exact ⟨w0, w1, w2, w3, w4, w5, rfl⟩
  have hw := fun d (hd : d ∈ tables_1) => atoms_spec (ws := Jvm.Cond.code x code maxLocals ret :: tables_1) hat d (List.mem_cons_of_mem _ hd)
  have hfit : Fit s := fun {y c} hc i hi => by
    obtain ⟨ha, rfl⟩ := Array.getElem?_eq_some_iff.mp hc
    have q := List.all_eq_true.mp ((Array.all_eq_true_iff_forall_mem.mp hF) _ (Array.getElem_mem ha)) i (List.mem_range.mpr hi)
    simpa [Array.getElem?_eq_getElem hi] using q
  obtain ⟨hsets, hown0⟩ := atoms_of _ (rest_1_c_eq ▸ (show rest_1_c.before _ s = true from hrest))
  have hr0 := Cond.before_iff.mp hown0
  obtain ⟨i0, ei0⟩ := is_v gg3
  obtain rfl : w0 = (.int i0) := Option.some.inj ei0
  obtain ⟨i1, ei1⟩ := is_v gg5
  obtain rfl : w1 = (.int i1) := Option.some.inj ei1
  obtain ⟨i2, ei2⟩ := is_v gg7
  obtain rfl : w2 = (.int i2) := Option.some.inj ei2
  obtain ⟨i3, ei3⟩ := is_v gg9
  obtain rfl : w3 = (.int i3) := Option.some.inj ei3
  obtain ⟨i4, ei4⟩ := is_v gg11
  obtain rfl : w4 = (.int i4) := Option.some.inj ei4
  obtain ⟨i5, ei5⟩ := is_v gg12
  obtain rfl : w5 = (.int i5) := Option.some.inj ei5
  have S_ad := Sta.start (eqv_i (Term.int_eval (1)) (Cond.before_iff.mp (hsets _ (List.mem_of_getElem? (i := 2) rfl)))) (Or.inl (hsets _ (List.mem_of_getElem? (i := 1) rfl)))
  have CH : CHv s EL s.vm s.heap := fun p hp => by cases hp
  obtain ⟨n, o, h1, h2, h3, _, L, rfl, ⟨rfl, N⟩, -, hq⟩ := rm0 l s _ hw tables_1 i0 i1 i2 i3 i4 i5  s.heap s.heap.size (Nat.le_refl _) (Old.start s) S_ad p e ha hc hk s m _ below hf ((Spec.applies_iff_loose hf).mp happ).1 ⟨rfl, State.Warmed39.refl s, rfl, CH, fun x hx => by cases hx⟩ trivial
  refine ⟨n, _, h1, h2, h3, hpost _ _ _ _ _ _ ⟨Cond.after_iff.mpr rfl, Cond.after_iff.mpr (eq_i res_at (Term.int_eval (1)) rfl), trivial⟩ ⟨hq.1, hq.2.1, hq.2.2.1, (hq.2.2.2.sift fun y hy => Or.inr (N y hy)).mono (by decide) (by decide)⟩⟩
theorem main_1_1 : Claimed_1_1 := comes_1 fun _ _ _ _ _ _ h hF => ⟨h.1, hF⟩
theorem main_1_2 : Claimed_1_2 := comes_1 fun _ _ _ _ _ _ h hF => ⟨h.2.1, hF⟩
end Jvm.Pilot.@@N@@
namespace Jvm.Pilot.@@N@@
open Jvm Jvm.ClassFile Sem Op Lib Jvm.Free Jvm.Stand Jvm.Pilot.@@N@@.Jvm.D
/-! MADE BY PROGRAM (witnessworld.py) out of the Statement's table words and the real class files: 21 classes; the members and pool entries that the words name. The judged class is class 1, her method 1. -/
namespace start1
open Jvm.ClassFile
def u (s : String) : CpInfo := .utf8 (stringToUtf16 s)
/-- a pool by its gaps: so many unusable entries, then the entry; so many at the end -/
def gap : Nat → List CpInfo → List CpInfo
  | 0, r => r
  | n + 1, r => .unusable :: gap n r
def poolList (es : List (Nat × CpInfo)) (last : Nat) : List CpInfo := es.foldr (fun e r => gap e.1 (e.2 :: r)) (gap last [])
def pool (es : List (Nat × CpInfo)) (last : Nat) : Array CpInfo := ⟨poolList es last⟩
def fileOf (pool : Array CpInfo) (this : Nat) (attrs : Array Attribute := #[]) (ms : Array MethodInfo := #[]) (fl : Nat := 33) (sup : Nat := 0) (ifs : Array Nat := #[]) (fds : Array FieldInfo := #[]) : ClassFile where
  minorVersion := 0
  majorVersion := 65
  constantPool := pool
  accessFlags := fl
  thisClass := this
  superClass := sup
  interfaces := ifs
  fields := fds
  methods := ms
  attributes := attrs
def plain (name : String) (sup : Option ClassId) : Class where
  name := name
  kind := .ordinary
  loader := none
  accessFlags := 33
  super := sup
  interfaces := #[]
  cf := none
  fields := #[]
  methods := #[]
  instanceTypes := #[]
  staticTypes := #[]
  resolved := #[]
  callSites := []
  init := .initialized
  statics := none
  mirror := none

def pool0 : Array CpInfo := pool [(5, u "<init>"), (0, u "()V"), (1, .class_ 10), (1, u "java/lang/Object")] 113

def k0c0 : Code := { maxStack := 0, maxLocals := 1, code := object_method_1_code, exceptionTable := #[], attributes := #[] }
def k0m0 : Method := { name := "<init>", desc := "()V", sig := { parameters := [], returnType := none }, accessFlags := 1, code := some k0c0 }
/-- java/lang/Object -/
def k0 : Class := { plain "java/lang/Object" none with
  accessFlags := 33
  interfaces := #[]
  cf := some (fileOf pool0 8 #[] #[{ accessFlags := 1, nameIndex := 5, descriptorIndex := 6, attributes := #[] }] 33 0 #[] #[])
  fields := #[]
  methods := #[k0m0]
  instanceTypes := #[]
  staticTypes := #[]
  resolved := Array.replicate 124 none
  statics := none }

def pool1 : Array CpInfo := pool [(2, .class_ 4), (1, u "java/lang/Object"), (0, u "<init>"), (0, u "()V"), (0, .class_ 8), (0, u "com/example/nadir/nadir/RankedKey"), (0, .string 10), (0, u "k"), (0, .double 4602678819172646912), (1, .methodref 7 14), (0, .nameAndType 5 15), (0, u "(Ljava/lang/String;[BDDD)V"), (0, .class_ 17), (0, u "com/example/nadir/nadir/HeldKey"), (0, .methodref 16 19), (0, .nameAndType 5 20), (0, u "(Lcom/example/nadir/nadir/RankedKey;)V"), (0, .methodref 16 22), (0, .nameAndType 23 24), (0, u "heldBy"), (0, u "(I)V"), (0, .methodref 16 26), (0, .nameAndType 27 28), (0, u "isSampled"), (0, u "()Z"), (0, .methodref 16 30), (0, .nameAndType 31 32), (0, u "sampledBy"), (0, u "(ILcom/example/nadir/nadir/RankedKey;D)V"), (0, .class_ 34), (0, u "com/example/nadir/nadir/HeldKeyIsSampledPinLaw"), (2, u "law"), (0, u "(IIIIII)Z")] 3

def k1m0 : Method := { name := "<init>", desc := "()V", sig := { parameters := [], returnType := none }, accessFlags := 1, code := none }
def k1c1 : Code := { maxStack := 10, maxLocals := 10, code := code, exceptionTable := #[], attributes := #[] }
def k1m1 : Method := { name := "law", desc := "(IIIIII)Z", sig := { parameters := [.int, .int, .int, .int, .int, .int], returnType := some .boolean }, accessFlags := 9, code := some k1c1 }
/-- com/example/nadir/nadir/HeldKeyIsSampledPinLaw -/
def k1 : Class := { plain "com/example/nadir/nadir/HeldKeyIsSampledPinLaw" (some 0) with
  accessFlags := 49
  interfaces := #[]
  cf := some (fileOf pool1 33 #[] #[{ accessFlags := 1, nameIndex := 5, descriptorIndex := 6, attributes := #[] }, { accessFlags := 9, nameIndex := 37, descriptorIndex := 38, attributes := #[] }] 49 2 #[] #[])
  fields := #[]
  methods := #[k1m0, k1m1]
  instanceTypes := #[]
  staticTypes := #[]
  resolved := Array.replicate 42 none
  statics := none }

def pool2 : Array CpInfo := pool [(1, .class_ 2), (0, u "java/lang/Comparable"), (0, .class_ 4), (0, u "java/lang/Object")] 7

/-- java/lang/Comparable -/
def k2 : Class := { plain "java/lang/Comparable" (some 0) with
  accessFlags := 1537
  interfaces := #[]
  cf := some (fileOf pool2 1 #[] #[] 1537 3 #[] #[])
  fields := #[]
  methods := #[]
  instanceTypes := #[]
  staticTypes := #[]
  resolved := Array.replicate 12 none
  statics := none }

def pool3 : Array CpInfo := pool [(1, .class_ 2), (0, u "com/example/nadir/nadir/RankedKey"), (0, .methodref 4 5), (0, .class_ 6), (0, .nameAndType 7 8), (0, u "java/lang/Object"), (0, u "<init>"), (0, u "()V"), (0, .fieldref 1 10), (0, .nameAndType 11 12), (0, u "key"), (0, u "Ljava/lang/String;"), (0, .fieldref 1 14), (0, .nameAndType 15 16), (0, u "bytes"), (0, u "[B"), (0, .fieldref 1 18), (0, .nameAndType 19 20), (0, u "weight"), (0, u "D"), (0, .fieldref 1 22), (0, .nameAndType 23 20), (0, u "u"), (0, .fieldref 1 25), (0, .nameAndType 26 20), (0, u "rank"), (42, u "LANES"), (0, u "Ljava/lang/invoke/VarHandle;"), (22, u "REFUSED_ASCII"), (0, u "[Z"), (31, u "ABOVE_REFUSED"), (0, u "J"), (4, u "REFUSED_LANES"), (0, u "[J"), (102, .class_ 237), (0, u "java/lang/Comparable"), (0, u "MAX_KEY_BYTES"), (0, u "I"), (1, u "REFUSED"), (0, u "ONES"), (0, u "HIGH_BITS"), (0, u "(Ljava/lang/String;[BDDD)V")] 68

def k3c0 : Code := { maxStack := 3, maxLocals := 9, code := prog_25_method_1_code, exceptionTable := #[], attributes := #[] }
def k3m0 : Method := { name := "<init>", desc := "(Ljava/lang/String;[BDDD)V", sig := { parameters := [(.object "java/lang/String"), (.array .byte), .double, .double, .double], returnType := none }, accessFlags := 0, code := some k3c0 }
/-- com/example/nadir/nadir/RankedKey -/
def k3 : Class := { plain "com/example/nadir/nadir/RankedKey" (some 0) with
  accessFlags := 48
  interfaces := #[2]
  cf := some (fileOf pool3 1 #[] #[{ accessFlags := 0, nameIndex := 7, descriptorIndex := 244, attributes := #[] }] 48 4 #[236] #[{ accessFlags := 24, nameIndex := 238, descriptorIndex := 239, attributes := #[] }, { accessFlags := 26, nameIndex := 241, descriptorIndex := 12, attributes := #[] }, { accessFlags := 26, nameIndex := 93, descriptorIndex := 94, attributes := #[] }, { accessFlags := 26, nameIndex := 242, descriptorIndex := 127, attributes := #[] }, { accessFlags := 26, nameIndex := 243, descriptorIndex := 127, attributes := #[] }, { accessFlags := 26, nameIndex := 69, descriptorIndex := 70, attributes := #[] }, { accessFlags := 26, nameIndex := 132, descriptorIndex := 133, attributes := #[] }, { accessFlags := 26, nameIndex := 126, descriptorIndex := 127, attributes := #[] }, { accessFlags := 18, nameIndex := 11, descriptorIndex := 12, attributes := #[] }, { accessFlags := 18, nameIndex := 15, descriptorIndex := 16, attributes := #[] }, { accessFlags := 18, nameIndex := 19, descriptorIndex := 20, attributes := #[] }, { accessFlags := 18, nameIndex := 23, descriptorIndex := 20, attributes := #[] }, { accessFlags := 18, nameIndex := 26, descriptorIndex := 20, attributes := #[] }])
  fields := #[{ name := "MAX_KEY_BYTES", type := .int, accessFlags := 24, slot := 0, constantValue := 0 }, { name := "REFUSED", type := (.object "java/lang/String"), accessFlags := 26, slot := 1, constantValue := 0 }, { name := "REFUSED_ASCII", type := (.array .boolean), accessFlags := 26, slot := 2, constantValue := 0 }, { name := "ONES", type := .long, accessFlags := 26, slot := 3, constantValue := 0 }, { name := "HIGH_BITS", type := .long, accessFlags := 26, slot := 4, constantValue := 0 }, { name := "LANES", type := (.object "java/lang/invoke/VarHandle"), accessFlags := 26, slot := 5, constantValue := 0 }, { name := "REFUSED_LANES", type := (.array .long), accessFlags := 26, slot := 6, constantValue := 0 }, { name := "ABOVE_REFUSED", type := .long, accessFlags := 26, slot := 7, constantValue := 0 }, { name := "key", type := (.object "java/lang/String"), accessFlags := 18, slot := 0, constantValue := 0 }, { name := "bytes", type := (.array .byte), accessFlags := 18, slot := 1, constantValue := 0 }, { name := "weight", type := .double, accessFlags := 18, slot := 2, constantValue := 0 }, { name := "u", type := .double, accessFlags := 18, slot := 3, constantValue := 0 }, { name := "rank", type := .double, accessFlags := 18, slot := 4, constantValue := 0 }]
  methods := #[k3m0]
  instanceTypes := #[(.object "java/lang/String"), (.array .byte), .double, .double, .double]
  staticTypes := #[.int, (.object "java/lang/String"), (.array .boolean), .long, .long, (.object "java/lang/invoke/VarHandle"), (.array .long), .long]
  resolved := Array.replicate 313 none
  statics := none }

def pool4 : Array CpInfo := pool [(1, .class_ 2), (0, u "java/io/Serializable"), (0, .class_ 4), (0, u "java/lang/Object")] 2

/-- java/io/Serializable -/
def k4 : Class := { plain "java/io/Serializable" (some 0) with
  accessFlags := 1537
  interfaces := #[]
  cf := some (fileOf pool4 1 #[] #[] 1537 3 #[] #[])
  fields := #[]
  methods := #[]
  instanceTypes := #[]
  staticTypes := #[]
  resolved := Array.replicate 7 none
  statics := none }

def pool5 : Array CpInfo := pool [(2, .class_ 4), (1, u "java/lang/CharSequence"), (42, .class_ 48), (0, u "java/lang/CharSequence$1CodePointIterator"), (10, .class_ 60), (0, u "java/lang/CharSequence$1CharIterator"), (5, .class_ 67), (0, u "java/lang/Object")] 63

/-- java/lang/CharSequence -/
def k5 : Class := { plain "java/lang/CharSequence" (some 0) with
  accessFlags := 1537
  interfaces := #[]
  cf := some (fileOf pool5 2 #[.nestMembers #[47, 59]] #[] 1537 66 #[] #[])
  fields := #[]
  methods := #[]
  instanceTypes := #[]
  staticTypes := #[]
  resolved := Array.replicate 131 none
  statics := none }

def pool6 : Array CpInfo := pool [(1, .class_ 2), (0, u "java/lang/constant/Constable"), (0, .class_ 4), (0, u "java/lang/Object")] 6

/-- java/lang/constant/Constable -/
def k6 : Class := { plain "java/lang/constant/Constable" (some 0) with
  accessFlags := 1537
  interfaces := #[]
  cf := some (fileOf pool6 1 #[] #[] 1537 3 #[] #[])
  fields := #[]
  methods := #[]
  instanceTypes := #[]
  staticTypes := #[]
  resolved := Array.replicate 11 none
  statics := none }

def pool7 : Array CpInfo := pool [(1, .class_ 2), (0, u "java/lang/constant/ConstantDesc"), (0, .class_ 4), (0, u "java/lang/Object")] 32

/-- java/lang/constant/ConstantDesc -/
def k7 : Class := { plain "java/lang/constant/ConstantDesc" (some 0) with
  accessFlags := 1537
  interfaces := #[]
  cf := some (fileOf pool7 1 #[] #[] 1537 3 #[] #[])
  fields := #[]
  methods := #[]
  instanceTypes := #[]
  staticTypes := #[]
  resolved := Array.replicate 37 none
  statics := none }

def pool8 : Array CpInfo := pool [(2, .class_ 4), (1, u "java/lang/Object"), (0, u "<init>"), (0, u "()V"), (3, .class_ 12), (1, u "java/lang/String"), (0, u "value"), (0, u "[B"), (2, u "coder"), (0, u "B"), (2, u "hash"), (0, u "I"), (2, u "hashIsZero"), (0, u "Z"), (13, u "COMPACT_STRINGS"), (534, .class_ 576), (0, u "java/lang/CharSequence"), (22, u "CASE_INSENSITIVE_ORDER"), (0, u "Ljava/util/Comparator;"), (500, u "serialPersistentFields"), (0, u "[Ljava/io/ObjectStreamField;"), (0, .class_ 1104), (0, u "java/lang/String$CaseInsensitiveComparator"), (1, .class_ 1107), (0, u "java/io/Serializable"), (0, .class_ 1109), (0, u "java/lang/Comparable"), (0, .class_ 1111), (0, u "java/lang/constant/Constable"), (0, .class_ 1113), (0, u "java/lang/constant/ConstantDesc"), (2, u "serialVersionUID"), (0, u "J"), (3, u "REPL"), (0, u "C"), (2, u "LATIN1"), (1, u "UTF16")] 323

def k8m0 : Method := { name := "<init>", desc := "()V", sig := { parameters := [], returnType := none }, accessFlags := 1, code := none }
/-- java/lang/String -/
def k8 : Class := { plain "java/lang/String" (some 0) with
  accessFlags := 49
  interfaces := #[4, 2, 5, 6, 7]
  cf := some (fileOf pool8 10 #[.nestMembers #[1103]] #[{ accessFlags := 1, nameIndex := 5, descriptorIndex := 6, attributes := #[] }] 49 2 #[1106, 1108, 575, 1110, 1112] #[{ accessFlags := 18, nameIndex := 13, descriptorIndex := 14, attributes := #[] }, { accessFlags := 18, nameIndex := 17, descriptorIndex := 18, attributes := #[] }, { accessFlags := 2, nameIndex := 21, descriptorIndex := 22, attributes := #[] }, { accessFlags := 2, nameIndex := 25, descriptorIndex := 26, attributes := #[] }, { accessFlags := 26, nameIndex := 1116, descriptorIndex := 1117, attributes := #[] }, { accessFlags := 24, nameIndex := 40, descriptorIndex := 26, attributes := #[] }, { accessFlags := 26, nameIndex := 1101, descriptorIndex := 1102, attributes := #[] }, { accessFlags := 26, nameIndex := 1121, descriptorIndex := 1122, attributes := #[] }, { accessFlags := 25, nameIndex := 599, descriptorIndex := 600, attributes := #[] }, { accessFlags := 24, nameIndex := 1125, descriptorIndex := 18, attributes := #[] }, { accessFlags := 24, nameIndex := 1127, descriptorIndex := 18, attributes := #[] }])
  fields := #[{ name := "value", type := (.array .byte), accessFlags := 18, slot := 0, constantValue := 0 }, { name := "coder", type := .byte, accessFlags := 18, slot := 1, constantValue := 0 }, { name := "hash", type := .int, accessFlags := 2, slot := 2, constantValue := 0 }, { name := "hashIsZero", type := .boolean, accessFlags := 2, slot := 3, constantValue := 0 }, { name := "serialVersionUID", type := .long, accessFlags := 26, slot := 0, constantValue := 0 }, { name := "COMPACT_STRINGS", type := .boolean, accessFlags := 24, slot := 1, constantValue := 0 }, { name := "serialPersistentFields", type := (.array (.object "java/io/ObjectStreamField")), accessFlags := 26, slot := 2, constantValue := 0 }, { name := "REPL", type := .char, accessFlags := 26, slot := 3, constantValue := 0 }, { name := "CASE_INSENSITIVE_ORDER", type := (.object "java/util/Comparator"), accessFlags := 25, slot := 4, constantValue := 0 }, { name := "LATIN1", type := .byte, accessFlags := 24, slot := 5, constantValue := 0 }, { name := "UTF16", type := .byte, accessFlags := 24, slot := 6, constantValue := 0 }]
  methods := #[k8m0]
  instanceTypes := #[(.array .byte), .byte, .int, .boolean]
  staticTypes := #[.long, .boolean, (.array (.object "java/io/ObjectStreamField")), .char, (.object "java/util/Comparator"), .byte, .byte]
  resolved := Array.replicate 1451 none
  statics := none }

def pool9 : Array CpInfo := pool [(1, .methodref 2 3), (0, .class_ 4), (0, .nameAndType 5 6), (0, u "java/lang/Object"), (0, u "<init>"), (0, u "()V"), (0, .class_ 8), (0, u "java/util/BitSet"), (0, .methodref 7 3), (0, .fieldref 11 12), (0, .class_ 13), (0, .nameAndType 14 15), (0, u "com/example/nadir/nadir/HeldKey"), (0, u "holders"), (0, u "Ljava/util/BitSet;"), (2, .double 18442240474082181120), (1, .fieldref 11 21), (0, .nameAndType 22 23), (0, u "largestThreshold"), (0, u "D"), (0, .fieldref 11 25), (0, .nameAndType 26 27), (0, u "record"), (0, u "Lcom/example/nadir/nadir/RankedKey;"), (0, .fieldref 11 29), (0, .nameAndType 30 31), (0, u "sampled"), (0, u "[Lcom/example/nadir/nadir/RankedKey;"), (2, .methodref 7 35), (0, .nameAndType 36 37), (0, u "set"), (0, u "(I)V"), (0, .methodref 39 40), (0, .class_ 41), (0, .nameAndType 42 43), (0, u "java/lang/Math"), (0, u "max"), (0, u "(DD)D"), (13, u "(Lcom/example/nadir/nadir/RankedKey;)V"), (3, u "heldBy"), (0, u "sampledBy"), (0, u "(ILcom/example/nadir/nadir/RankedKey;D)V"), (5, u "isSampled"), (0, u "()Z")] 18

def k9c0 : Code := { maxStack := 3, maxLocals := 2, code := prog_16_method_1_code, exceptionTable := #[], attributes := #[] }
def k9m0 : Method := { name := "<init>", desc := "(Lcom/example/nadir/nadir/RankedKey;)V", sig := { parameters := [(.object "com/example/nadir/nadir/RankedKey")], returnType := none }, accessFlags := 0, code := some k9c0 }
def k9c1 : Code := { maxStack := 2, maxLocals := 2, code := prog_16_method_3_code, exceptionTable := #[], attributes := #[] }
def k9m1 : Method := { name := "heldBy", desc := "(I)V", sig := { parameters := [.int], returnType := none }, accessFlags := 0, code := some k9c1 }
def k9c2 : Code := { maxStack := 5, maxLocals := 5, code := prog_16_method_4_code, exceptionTable := #[], attributes := #[] }
def k9m2 : Method := { name := "sampledBy", desc := "(ILcom/example/nadir/nadir/RankedKey;D)V", sig := { parameters := [.int, (.object "com/example/nadir/nadir/RankedKey"), .double], returnType := none }, accessFlags := 0, code := some k9c2 }
def k9c3 : Code := { maxStack := 4, maxLocals := 1, code := prog_16_method_8_code, exceptionTable := #[], attributes := #[] }
def k9m3 : Method := { name := "isSampled", desc := "()Z", sig := { parameters := [], returnType := some .boolean }, accessFlags := 0, code := some k9c3 }
/-- com/example/nadir/nadir/HeldKey -/
def k9 : Class := { plain "com/example/nadir/nadir/HeldKey" (some 0) with
  accessFlags := 48
  interfaces := #[]
  cf := some (fileOf pool9 11 #[] #[{ accessFlags := 0, nameIndex := 5, descriptorIndex := 57, attributes := #[] }, { accessFlags := 0, nameIndex := 61, descriptorIndex := 37, attributes := #[] }, { accessFlags := 0, nameIndex := 62, descriptorIndex := 63, attributes := #[] }, { accessFlags := 0, nameIndex := 69, descriptorIndex := 70, attributes := #[] }] 48 2 #[] #[{ accessFlags := 18, nameIndex := 26, descriptorIndex := 27, attributes := #[] }, { accessFlags := 18, nameIndex := 30, descriptorIndex := 31, attributes := #[] }, { accessFlags := 18, nameIndex := 14, descriptorIndex := 15, attributes := #[] }, { accessFlags := 2, nameIndex := 22, descriptorIndex := 23, attributes := #[] }])
  fields := #[{ name := "record", type := (.object "com/example/nadir/nadir/RankedKey"), accessFlags := 18, slot := 0, constantValue := 0 }, { name := "sampled", type := (.array (.object "com/example/nadir/nadir/RankedKey")), accessFlags := 18, slot := 1, constantValue := 0 }, { name := "holders", type := (.object "java/util/BitSet"), accessFlags := 18, slot := 2, constantValue := 0 }, { name := "largestThreshold", type := .double, accessFlags := 2, slot := 3, constantValue := 0 }]
  methods := #[k9m0, k9m1, k9m2, k9m3]
  instanceTypes := #[(.object "com/example/nadir/nadir/RankedKey"), (.array (.object "com/example/nadir/nadir/RankedKey")), (.object "java/util/BitSet"), .double]
  staticTypes := #[]
  resolved := Array.replicate 89 none
  statics := none }

def pool10 : Array CpInfo := pool [(1, .class_ 2), (0, u "java/lang/Cloneable"), (0, .class_ 4), (0, u "java/lang/Object")] 2

/-- java/lang/Cloneable -/
def k10 : Class := { plain "java/lang/Cloneable" (some 0) with
  accessFlags := 1537
  interfaces := #[]
  cf := some (fileOf pool10 1 #[] #[] 1537 3 #[] #[])
  fields := #[]
  methods := #[]
  instanceTypes := #[]
  staticTypes := #[]
  resolved := Array.replicate 7 none
  statics := none }

def pool11 : Array CpInfo := pool [(1, .class_ 2), (0, u "java/util/BitSet"), (0, .fieldref 1 4), (0, .nameAndType 5 6), (0, u "$assertionsDisabled"), (0, u "Z"), (0, .fieldref 1 8), (0, .nameAndType 9 10), (0, u "wordsInUse"), (0, u "I"), (0, .fieldref 1 12), (0, .nameAndType 13 14), (0, u "words"), (0, u "[J"), (3, .nameAndType 19 20), (0, u "<init>"), (0, u "()V"), (0, .methodref 22 18), (0, .class_ 23), (0, u "java/lang/Object"), (0, .fieldref 1 25), (0, .nameAndType 26 6), (0, u "sizeIsSticky"), (0, .methodref 1 28), (0, .nameAndType 29 30), (0, u "initWords"), (0, u "(I)V"), (21, .methodref 1 53), (0, .nameAndType 54 55), (0, u "wordIndex"), (0, u "(I)I"), (0, .methodref 1 57), (0, .nameAndType 58 20), (0, u "checkInvariants"), (0, .methodref 60 61), (0, .class_ 62), (0, .nameAndType 63 64), (0, u "java/util/Arrays"), (0, u "copyOf"), (0, u "([JI)[J"), (68, .methodref 134 135), (0, .class_ 136), (0, .nameAndType 137 138), (0, u "java/lang/Math"), (0, u "max"), (0, u "(II)I"), (0, .methodref 1 140), (0, .nameAndType 141 30), (0, u "ensureCapacity"), (13, .methodref 1 156), (0, .nameAndType 157 30), (0, u "expandTo"), (11, u "set"), (99, .class_ 270), (0, u "java/util/BitSet$1BitSetSpliterator"), (22, u "serialPersistentFields"), (0, u "[Ljava/io/ObjectStreamField;"), (0, .class_ 296), (0, u "java/lang/Cloneable"), (0, .class_ 298), (0, u "java/io/Serializable"), (0, u "ADDRESS_BITS_PER_WORD"), (2, u "BITS_PER_WORD"), (1, u "BIT_INDEX_MASK"), (1, u "WORD_MASK"), (0, u "J"), (0, u "serialVersionUID")] 108

def k11c0 : Code := { maxStack := 2, maxLocals := 1, code := jdk_92_method_1_code, exceptionTable := #[], attributes := #[] }
def k11m0 : Method := { name := "wordIndex", desc := "(I)I", sig := { parameters := [.int], returnType := some .int }, accessFlags := 10, code := some k11c0 }
def k11c1 : Code := { maxStack := 4, maxLocals := 1, code := jdk_92_method_2_code, exceptionTable := #[], attributes := #[] }
def k11m1 : Method := { name := "checkInvariants", desc := "()V", sig := { parameters := [], returnType := none }, accessFlags := 2, code := some k11c1 }
def k11c2 : Code := { maxStack := 2, maxLocals := 1, code := jdk_92_method_4_code, exceptionTable := #[], attributes := #[] }
def k11m2 : Method := { name := "<init>", desc := "()V", sig := { parameters := [], returnType := none }, accessFlags := 1, code := some k11c2 }
def k11c3 : Code := { maxStack := 3, maxLocals := 2, code := jdk_92_method_6_code, exceptionTable := #[], attributes := #[] }
def k11m3 : Method := { name := "initWords", desc := "(I)V", sig := { parameters := [.int], returnType := none }, accessFlags := 2, code := some k11c3 }
def k11c4 : Code := { maxStack := 3, maxLocals := 3, code := jdk_92_method_14_code, exceptionTable := #[], attributes := #[] }
def k11m4 : Method := { name := "ensureCapacity", desc := "(I)V", sig := { parameters := [.int], returnType := none }, accessFlags := 2, code := some k11c4 }
def k11c5 : Code := { maxStack := 2, maxLocals := 3, code := jdk_92_method_15_code, exceptionTable := #[], attributes := #[] }
def k11m5 : Method := { name := "expandTo", desc := "(I)V", sig := { parameters := [.int], returnType := none }, accessFlags := 2, code := some k11c5 }
def k11c6 : Code := { maxStack := 7, maxLocals := 3, code := jdk_92_method_19_code, exceptionTable := #[], attributes := #[] }
def k11m6 : Method := { name := "set", desc := "(I)V", sig := { parameters := [.int], returnType := none }, accessFlags := 1, code := some k11c6 }
/-- java/util/BitSet -/
def k11 : Class := { plain "java/util/BitSet" (some 0) with
  accessFlags := 33
  interfaces := #[10, 4]
  cf := some (fileOf pool11 1 #[.nestMembers #[269]] #[{ accessFlags := 10, nameIndex := 54, descriptorIndex := 55, attributes := #[] }, { accessFlags := 2, nameIndex := 58, descriptorIndex := 20, attributes := #[] }, { accessFlags := 1, nameIndex := 19, descriptorIndex := 20, attributes := #[] }, { accessFlags := 2, nameIndex := 29, descriptorIndex := 30, attributes := #[] }, { accessFlags := 2, nameIndex := 141, descriptorIndex := 30, attributes := #[] }, { accessFlags := 2, nameIndex := 157, descriptorIndex := 30, attributes := #[] }, { accessFlags := 1, nameIndex := 169, descriptorIndex := 30, attributes := #[] }] 33 22 #[295, 297] #[{ accessFlags := 26, nameIndex := 299, descriptorIndex := 10, attributes := #[] }, { accessFlags := 26, nameIndex := 302, descriptorIndex := 10, attributes := #[] }, { accessFlags := 26, nameIndex := 304, descriptorIndex := 10, attributes := #[] }, { accessFlags := 26, nameIndex := 306, descriptorIndex := 307, attributes := #[] }, { accessFlags := 26, nameIndex := 293, descriptorIndex := 294, attributes := #[] }, { accessFlags := 2, nameIndex := 13, descriptorIndex := 14, attributes := #[] }, { accessFlags := 130, nameIndex := 9, descriptorIndex := 10, attributes := #[] }, { accessFlags := 130, nameIndex := 26, descriptorIndex := 6, attributes := #[] }, { accessFlags := 26, nameIndex := 308, descriptorIndex := 307, attributes := #[] }, { accessFlags := 4120, nameIndex := 5, descriptorIndex := 6, attributes := #[] }])
  fields := #[{ name := "ADDRESS_BITS_PER_WORD", type := .int, accessFlags := 26, slot := 0, constantValue := 0 }, { name := "BITS_PER_WORD", type := .int, accessFlags := 26, slot := 1, constantValue := 0 }, { name := "BIT_INDEX_MASK", type := .int, accessFlags := 26, slot := 2, constantValue := 0 }, { name := "WORD_MASK", type := .long, accessFlags := 26, slot := 3, constantValue := 0 }, { name := "serialPersistentFields", type := (.array (.object "java/io/ObjectStreamField")), accessFlags := 26, slot := 4, constantValue := 0 }, { name := "words", type := (.array .long), accessFlags := 2, slot := 0, constantValue := 0 }, { name := "wordsInUse", type := .int, accessFlags := 130, slot := 1, constantValue := 0 }, { name := "sizeIsSticky", type := .boolean, accessFlags := 130, slot := 2, constantValue := 0 }, { name := "serialVersionUID", type := .long, accessFlags := 26, slot := 5, constantValue := 0 }, { name := "$assertionsDisabled", type := .boolean, accessFlags := 4120, slot := 6, constantValue := 0 }]
  methods := #[k11m0, k11m1, k11m2, k11m3, k11m4, k11m5, k11m6]
  instanceTypes := #[(.array .long), .int, .boolean]
  staticTypes := #[.int, .int, .int, .long, (.array (.object "java/io/ObjectStreamField")), .long, .boolean]
  resolved := Array.replicate 417 none
  statics := some 0 }

def pool12 : Array CpInfo := pool [(1, .class_ 2), (0, u "java/lang/Math"), (1, .class_ 6), (1, u "java/lang/Object"), (0, u "<init>"), (0, u "()V"), (43, u "(DD)D"), (45, .class_ 100), (1, u "java/lang/Math$RandomNumberGeneratorHolder"), (71, u "negativeZeroFloatBits"), (0, u "J"), (2, u "negativeZeroDoubleBits"), (21, u "max"), (2, u "min"), (43, u "$assertionsDisabled"), (0, u "Z"), (88, u "(II)I"), (2, u "twoToTheDoubleScaleDown"), (0, u "D"), (4, u "twoToTheDoubleScaleUp"), (9, u "E"), (3, u "PI"), (2, u "TAU"), (2, u "DEGREES_TO_RADIANS"), (0, u "RADIANS_TO_DEGREES")] 94

def k12m0 : Method := { name := "<init>", desc := "()V", sig := { parameters := [], returnType := none }, accessFlags := 2, code := none }
def k12c1 : Code := { maxStack := 2, maxLocals := 2, code := jdk_29_method_65_code, exceptionTable := #[], attributes := #[] }
def k12m1 : Method := { name := "max", desc := "(II)I", sig := { parameters := [.int, .int], returnType := some .int }, accessFlags := 9, code := some k12c1 }
def k12c2 : Code := { maxStack := 4, maxLocals := 4, code := jdk_29_method_68_code, exceptionTable := #[], attributes := #[] }
def k12m2 : Method := { name := "max", desc := "(DD)D", sig := { parameters := [.double, .double], returnType := some .double }, accessFlags := 9, code := some k12c2 }
def k12c3 : Code := { maxStack := 2, maxLocals := 2, code := jdk_29_method_69_code, exceptionTable := #[], attributes := #[] }
def k12m3 : Method := { name := "min", desc := "(II)I", sig := { parameters := [.int, .int], returnType := some .int }, accessFlags := 9, code := some k12c3 }
/-- java/lang/Math -/
def k12 : Class := { plain "java/lang/Math" (some 0) with
  accessFlags := 49
  interfaces := #[]
  cf := some (fileOf pool12 1 #[.nestMembers #[98]] #[{ accessFlags := 2, nameIndex := 7, descriptorIndex := 8, attributes := #[] }, { accessFlags := 9, nameIndex := 198, descriptorIndex := 335, attributes := #[] }, { accessFlags := 9, nameIndex := 198, descriptorIndex := 52, attributes := #[] }, { accessFlags := 9, nameIndex := 201, descriptorIndex := 335, attributes := #[] }] 49 4 #[] #[{ accessFlags := 25, nameIndex := 354, descriptorIndex := 339, attributes := #[] }, { accessFlags := 25, nameIndex := 358, descriptorIndex := 339, attributes := #[] }, { accessFlags := 25, nameIndex := 361, descriptorIndex := 339, attributes := #[] }, { accessFlags := 26, nameIndex := 364, descriptorIndex := 339, attributes := #[] }, { accessFlags := 26, nameIndex := 365, descriptorIndex := 339, attributes := #[] }, { accessFlags := 26, nameIndex := 172, descriptorIndex := 173, attributes := #[] }, { accessFlags := 26, nameIndex := 176, descriptorIndex := 173, attributes := #[] }, { accessFlags := 8, nameIndex := 344, descriptorIndex := 339, attributes := #[] }, { accessFlags := 8, nameIndex := 338, descriptorIndex := 339, attributes := #[] }, { accessFlags := 4120, nameIndex := 245, descriptorIndex := 246, attributes := #[] }])
  fields := #[{ name := "E", type := .double, accessFlags := 25, slot := 0, constantValue := 0 }, { name := "PI", type := .double, accessFlags := 25, slot := 1, constantValue := 0 }, { name := "TAU", type := .double, accessFlags := 25, slot := 2, constantValue := 0 }, { name := "DEGREES_TO_RADIANS", type := .double, accessFlags := 26, slot := 3, constantValue := 0 }, { name := "RADIANS_TO_DEGREES", type := .double, accessFlags := 26, slot := 4, constantValue := 0 }, { name := "negativeZeroFloatBits", type := .long, accessFlags := 26, slot := 5, constantValue := 0 }, { name := "negativeZeroDoubleBits", type := .long, accessFlags := 26, slot := 6, constantValue := 0 }, { name := "twoToTheDoubleScaleUp", type := .double, accessFlags := 8, slot := 7, constantValue := 0 }, { name := "twoToTheDoubleScaleDown", type := .double, accessFlags := 8, slot := 8, constantValue := 0 }, { name := "$assertionsDisabled", type := .boolean, accessFlags := 4120, slot := 9, constantValue := 0 }]
  methods := #[k12m0, k12m1, k12m2, k12m3]
  instanceTypes := #[]
  staticTypes := #[.double, .double, .double, .double, .double, .long, .long, .double, .double, .boolean]
  resolved := Array.replicate 460 none
  statics := none }

def pool13 : Array CpInfo := pool [(2, .class_ 4), (1, u "java/lang/Object"), (0, u "<init>"), (0, u "()V"), (7, .class_ 16), (1, u "java/util/Arrays"), (57, .class_ 76), (1, u "java/util/Arrays$NaturalOrder"), (36, .class_ 115), (1, u "java/util/Arrays$LegacyMergeSort"), (1, u "Z"), (32, .methodref 151 152), (0, .class_ 153), (0, .nameAndType 154 155), (0, u "java/lang/System"), (0, u "arraycopy"), (0, u "(Ljava/lang/Object;ILjava/lang/Object;II)V"), (146, u "copyOf"), (1, .methodref 305 306), (0, .class_ 307), (0, .nameAndType 308 309), (0, u "java/lang/Math"), (0, u "min"), (0, u "(II)I"), (65, .class_ 376), (0, u "java/util/Arrays$ArrayList"), (68, u "$assertionsDisabled"), (269, u "MIN_ARRAY_SORT_GRAN"), (0, u "I"), (2, u "INSERTIONSORT_THRESHOLD"), (152, u "([JI)[J"), (102, .class_ 976), (0, u "java/util/Arrays$ArrayItr")] 52

def k13m0 : Method := { name := "<init>", desc := "()V", sig := { parameters := [], returnType := none }, accessFlags := 2, code := none }
def k13c1 : Code := { maxStack := 6, maxLocals := 3, code := jdk_65_method_124_code, exceptionTable := #[], attributes := #[] }
def k13m1 : Method := { name := "copyOf", desc := "([JI)[J", sig := { parameters := [(.array .long), .int], returnType := some (.array .long) }, accessFlags := 9, code := some k13c1 }
/-- java/util/Arrays -/
def k13 : Class := { plain "java/util/Arrays" (some 0) with
  accessFlags := 49
  interfaces := #[]
  cf := some (fileOf pool13 14 #[.nestMembers #[975, 375, 113, 74]] #[{ accessFlags := 2, nameIndex := 5, descriptorIndex := 6, attributes := #[] }, { accessFlags := 9, nameIndex := 302, descriptorIndex := 872, attributes := #[] }] 49 2 #[] #[{ accessFlags := 26, nameIndex := 715, descriptorIndex := 716, attributes := #[] }, { accessFlags := 26, nameIndex := 719, descriptorIndex := 716, attributes := #[] }, { accessFlags := 4120, nameIndex := 445, descriptorIndex := 117, attributes := #[] }])
  fields := #[{ name := "MIN_ARRAY_SORT_GRAN", type := .int, accessFlags := 26, slot := 0, constantValue := 0 }, { name := "INSERTIONSORT_THRESHOLD", type := .int, accessFlags := 26, slot := 1, constantValue := 0 }, { name := "$assertionsDisabled", type := .boolean, accessFlags := 4120, slot := 2, constantValue := 0 }]
  methods := #[k13m0, k13m1]
  instanceTypes := #[]
  staticTypes := #[.int, .int, .boolean]
  resolved := Array.replicate 1029 none
  statics := none }

def pool14 : Array CpInfo := pool [(2, .class_ 4), (1, u "java/lang/Object"), (0, u "<init>"), (0, u "()V"), (1, .class_ 10), (1, u "java/lang/System"), (0, u "allowSecurityManager"), (0, u "I"), (16, u "cons"), (0, u "Ljava/io/Console;"), (77, .class_ 110), (1, u "java/lang/System$CallersHolder"), (43, u "initialErrStream"), (0, u "Ljava/io/PrintStream;"), (19, u "security"), (0, u "Ljava/lang/SecurityManager;"), (31, .class_ 209), (0, u "java/lang/System$1"), (7, u "props"), (0, u "Ljava/util/Properties;"), (2, u "lineSeparator"), (0, u "Ljava/lang/String;"), (96, .class_ 321), (1, u "java/lang/System$LoggerFinder"), (5, .class_ 328), (0, u "java/lang/System$Logger"), (67, u "err"), (2, u "out"), (91, u "notSupportedJnuEncoding"), (15, u "in"), (17, u "initialIn"), (0, u "Ljava/io/InputStream;"), (35, u "bootLayer"), (0, u "Ljava/lang/ModuleLayer;"), (99, .class_ 664), (0, u "java/lang/System$2"), (9, u "NEVER"), (2, u "MAYBE"), (49, u "arraycopy"), (0, u "(Ljava/lang/Object;ILjava/lang/Object;II)V"), (72, .class_ 802), (0, u "java/lang/System$Logger$Level")] 31

def k14m0 : Method := { name := "<init>", desc := "()V", sig := { parameters := [], returnType := none }, accessFlags := 2, code := none }
def k14m1 : Method := { name := "arraycopy", desc := "(Ljava/lang/Object;ILjava/lang/Object;II)V", sig := { parameters := [(.object "java/lang/Object"), .int, (.object "java/lang/Object"), .int, .int], returnType := none }, accessFlags := 265, code := none }
/-- java/lang/System -/
def k14 : Class := { plain "java/lang/System" (some 0) with
  accessFlags := 49
  interfaces := #[]
  cf := some (fileOf pool14 8 #[.nestMembers #[319, 327, 801, 108, 663, 208]] #[{ accessFlags := 2, nameIndex := 5, descriptorIndex := 6, attributes := #[] }, { accessFlags := 265, nameIndex := 727, descriptorIndex := 728, attributes := #[] }] 49 2 #[] #[{ accessFlags := 25, nameIndex := 507, descriptorIndex := 526, attributes := #[] }, { accessFlags := 25, nameIndex := 399, descriptorIndex := 155, attributes := #[] }, { accessFlags := 25, nameIndex := 396, descriptorIndex := 155, attributes := #[] }, { accessFlags := 10, nameIndex := 525, descriptorIndex := 526, attributes := #[] }, { accessFlags := 26, nameIndex := 674, descriptorIndex := 12, attributes := #[] }, { accessFlags := 26, nameIndex := 677, descriptorIndex := 12, attributes := #[] }, { accessFlags := 10, nameIndex := 11, descriptorIndex := 12, attributes := #[] }, { accessFlags := 74, nameIndex := 175, descriptorIndex := 176, attributes := #[] }, { accessFlags := 10, nameIndex := 491, descriptorIndex := 222, attributes := #[] }, { accessFlags := 74, nameIndex := 29, descriptorIndex := 30, attributes := #[] }, { accessFlags := 74, nameIndex := 154, descriptorIndex := 155, attributes := #[] }, { accessFlags := 10, nameIndex := 217, descriptorIndex := 218, attributes := #[] }, { accessFlags := 10, nameIndex := 221, descriptorIndex := 222, attributes := #[] }, { accessFlags := 8, nameIndex := 562, descriptorIndex := 563, attributes := #[] }])
  fields := #[{ name := "in", type := (.object "java/io/InputStream"), accessFlags := 25, slot := 0, constantValue := 0 }, { name := "out", type := (.object "java/io/PrintStream"), accessFlags := 25, slot := 1, constantValue := 0 }, { name := "err", type := (.object "java/io/PrintStream"), accessFlags := 25, slot := 2, constantValue := 0 }, { name := "initialIn", type := (.object "java/io/InputStream"), accessFlags := 10, slot := 3, constantValue := 0 }, { name := "NEVER", type := .int, accessFlags := 26, slot := 4, constantValue := 0 }, { name := "MAYBE", type := .int, accessFlags := 26, slot := 5, constantValue := 0 }, { name := "allowSecurityManager", type := .int, accessFlags := 10, slot := 6, constantValue := 0 }, { name := "security", type := (.object "java/lang/SecurityManager"), accessFlags := 74, slot := 7, constantValue := 0 }, { name := "notSupportedJnuEncoding", type := (.object "java/lang/String"), accessFlags := 10, slot := 8, constantValue := 0 }, { name := "cons", type := (.object "java/io/Console"), accessFlags := 74, slot := 9, constantValue := 0 }, { name := "initialErrStream", type := (.object "java/io/PrintStream"), accessFlags := 74, slot := 10, constantValue := 0 }, { name := "props", type := (.object "java/util/Properties"), accessFlags := 10, slot := 11, constantValue := 0 }, { name := "lineSeparator", type := (.object "java/lang/String"), accessFlags := 10, slot := 12, constantValue := 0 }, { name := "bootLayer", type := (.object "java/lang/ModuleLayer"), accessFlags := 8, slot := 13, constantValue := 0 }]
  methods := #[k14m0, k14m1]
  instanceTypes := #[]
  staticTypes := #[(.object "java/io/InputStream"), (.object "java/io/PrintStream"), (.object "java/io/PrintStream"), (.object "java/io/InputStream"), .int, .int, .int, (.object "java/lang/SecurityManager"), (.object "java/lang/String"), (.object "java/io/Console"), (.object "java/io/PrintStream"), (.object "java/util/Properties"), (.object "java/lang/String"), (.object "java/lang/ModuleLayer")]
  resolved := Array.replicate 834 none
  statics := none }

/-- the primitive byte -/
def k15 : Class := { plain "byte" none with kind := .primitive 'B', accessFlags := 0x411 }
/-- [B -/
def k16 : Class := { plain "[B" (some 0) with kind := .array 15 .byte, interfaces := #[10, 4], accessFlags := 1041 }

/-- the primitive int -/
def k17 : Class := { plain "int" none with kind := .primitive 'I', accessFlags := 0x411 }
/-- [I -/
def k18 : Class := { plain "[I" (some 0) with kind := .array 17 .int, interfaces := #[10, 4], accessFlags := 1041 }

/-- the primitive long -/
def k19 : Class := { plain "long" none with kind := .primitive 'J', accessFlags := 0x411 }
/-- [J -/
def k20 : Class := { plain "[J" (some 0) with kind := .array 19 .long, interfaces := #[10, 4], accessFlags := 1041 }

def heap : Heap := #[{ cls := 11, slots := #[.int 0, .int 0, .int 0, .long 0, .null, .long 0, .int 1], vm := .statics 11 }]
def classes : Array Class := #[k0, k1, k2, k3, k4, k5, k6, k7, k8, k9, k10, k11, k12, k13, k14, k15, k16, k17, k18, k19, k20]
def interned : List (Array UInt16 × Addr) := []
def slotsUsed : Nat := 7
def theMethod : MethodId := ⟨1, 1⟩
def args0 : Array Value := #[.int 0, .int 1, .int 2, .int 3, .int 4, .int 5]
def aboutOver (below : List Frame) : State where
  vm := { classes := classes, interned := interned.toArray }
  heap := heap
  slotsUsed := slotsUsed
  threads := #[{ frames := .invoking theMethod args0 :: below }]
def below0 : List Frame := [.native { method := ⟨0, 0⟩, args := #[] }]
def about1 : State := aboutOver below0
def p0 : Program := .bare "" "" ""
def e0 : Env := launch0.env 0 0 0
theorem w_frames : about1.frames = Frame.invoking theMethod args0 :: below0 := rfl
set_option maxRecDepth 65536 in
theorem w_args : argsFit about1.vm theMethod args0 = true := by decide +kernel
set_option maxRecDepth 65536 in
theorem w_heap : heapFits about1 = true := by decide +kernel
set_option maxRecDepth 65536 in
theorem w_runnable : about1.curStatus? = some .runnable := by decide +kernel
set_option maxRecDepth 65536 in
theorem w_alone : about1.alone = true := by decide +kernel
set_option maxRecDepth 65536 in
theorem w_named : about1.methodNamed? x = some theMethod := by decide +kernel
set_option maxRecDepth 65536 in
theorem w_hears : about1.hears theMethod below0 = true := by decide +kernel
set_option maxRecDepth 65536 in
theorem w_ripe : about1.ripe theMethod args0 below0 = true := by decide +kernel
theorem w_running : about1.status = .running := rfl
set_option maxRecDepth 65536 in
theorem w_room : about1.hasRoom e0.platform room_1 = true :=
  launch0.hasRoom_least _ room_1 (by decide +kernel) (by decide +kernel) (by decide +kernel) (by decide +kernel) (by decide +kernel) (by decide +kernel)
theorem allAtoms_all (ts : List Jvm.Cond) (a : Array Jvm.Value) (st : Jvm.State) : (allAtoms ts).before a st = ts.all (fun c => c.before a st) := by
  induction ts with
  | nil => rfl
  | cons c t ih =>
    show (Jvm.Cond.and c (allAtoms t)).before a st = _
    rw [Jvm.Cond.before_and, ih, List.all_cons]
def words1 : List Jvm.Cond := Jvm.Cond.code x code maxLocals ret :: tables_1
/-- a 'code' word, met by the world's own term for the bytes: nothing is compared byte by byte -/
theorem code_word {y : MethodName} {bytes : ByteArray} {mx : Nat} {rt : Option FieldType} {a : Array Value} {s : State} {m : MethodId} {meth : Method} {c : Code} (h1 : s.methodNamed? y = some m) (h2 : s.vm.method? m = some meth) (h3 : meth.code = some c) (h4 : c.code = bytes)
    (h5 : (c.maxLocals == mx && c.exceptionTable.isEmpty && decide (c.maxStack ≤ mostOperands) && decide (meth.sig.returnType = rt) && !meth.locks && decide (parseMethodDescriptor y.desc = some meth.sig)) = true) : (Jvm.Cond.code y bytes mx rt).before a s = true := by
  simp only [Bool.and_eq_true, beq_iff_eq, Bool.not_eq_true', decide_eq_true_eq] at h5
  obtain ⟨⟨⟨⟨⟨g1, g2⟩, g3⟩, g4⟩, g5⟩, g6⟩ := h5
  simp [Cond.before, Cond.holds, Cond.value, h1, h2, h3, h4, g1, g2, g3, g4, g5, g6]
def isCode : Jvm.Cond → Bool
  | .code _ _ _ _ => true
  | _ => false
theorem all_split {L : List Jvm.Cond} {P : Jvm.Cond → Bool} (h1 : L.all (fun c => isCode c || P c) = true) (h2 : ∀ c ∈ L.filter isCode, P c = true) : L.all P = true := by
  refine List.all_eq_true.mpr fun c hc => ?_
  have h := List.all_eq_true.mp h1 c hc
  rcases Bool.eq_false_or_eq_true (isCode c) with hi | hi
  · exact h2 c (List.mem_filter.mpr ⟨hc, hi⟩)
  · simpa [hi] using h
set_option maxRecDepth 65536 in
theorem w_c0 : (Jvm.Cond.code x code maxLocals ret).before args0 about1 = true := code_word (m := ⟨1, 1⟩) (meth := k1m1) (c := k1c1) (by decide +kernel) rfl rfl rfl (by decide +kernel)
set_option maxRecDepth 65536 in
theorem w_c1 : (Jvm.Cond.code ({ cls := "com/example/nadir/nadir/RankedKey", name := "<init>", desc := "(Ljava/lang/String;[BDDD)V" } : Jvm.MethodName) prog_25_method_1_code (9 : Nat) (Option.none : Option Jvm.ClassFile.FieldType)).before args0 about1 = true := code_word (m := ⟨3, 0⟩) (meth := k3m0) (c := k3c0) (by decide +kernel) rfl rfl rfl (by decide +kernel)
set_option maxRecDepth 65536 in
theorem w_c2 : (Jvm.Cond.code ({ cls := "java/lang/Object", name := "<init>", desc := "()V" } : Jvm.MethodName) object_method_1_code (1 : Nat) (Option.none : Option Jvm.ClassFile.FieldType)).before args0 about1 = true := code_word (m := ⟨0, 0⟩) (meth := k0m0) (c := k0c0) (by decide +kernel) rfl rfl rfl (by decide +kernel)
set_option maxRecDepth 65536 in
theorem w_c3 : (Jvm.Cond.code ({ cls := "com/example/nadir/nadir/HeldKey", name := "<init>", desc := "(Lcom/example/nadir/nadir/RankedKey;)V" } : Jvm.MethodName) prog_16_method_1_code (2 : Nat) (Option.none : Option Jvm.ClassFile.FieldType)).before args0 about1 = true := code_word (m := ⟨9, 0⟩) (meth := k9m0) (c := k9c0) (by decide +kernel) rfl rfl rfl (by decide +kernel)
set_option maxRecDepth 65536 in
theorem w_c4 : (Jvm.Cond.code ({ cls := "java/util/BitSet", name := "<init>", desc := "()V" } : Jvm.MethodName) jdk_92_method_4_code (1 : Nat) (Option.none : Option Jvm.ClassFile.FieldType)).before args0 about1 = true := code_word (m := ⟨11, 2⟩) (meth := k11m2) (c := k11c2) (by decide +kernel) rfl rfl rfl (by decide +kernel)
set_option maxRecDepth 65536 in
theorem w_c5 : (Jvm.Cond.code ({ cls := "java/util/BitSet", name := "initWords", desc := "(I)V" } : Jvm.MethodName) jdk_92_method_6_code (2 : Nat) (Option.none : Option Jvm.ClassFile.FieldType)).before args0 about1 = true := code_word (m := ⟨11, 3⟩) (meth := k11m3) (c := k11c3) (by decide +kernel) rfl rfl rfl (by decide +kernel)
set_option maxRecDepth 65536 in
theorem w_c6 : (Jvm.Cond.code ({ cls := "java/util/BitSet", name := "wordIndex", desc := "(I)I" } : Jvm.MethodName) jdk_92_method_1_code (1 : Nat) (Option.some Jvm.ClassFile.FieldType.int)).before args0 about1 = true := code_word (m := ⟨11, 0⟩) (meth := k11m0) (c := k11c0) (by decide +kernel) rfl rfl rfl (by decide +kernel)
set_option maxRecDepth 65536 in
theorem w_c7 : (Jvm.Cond.code ({ cls := "com/example/nadir/nadir/HeldKey", name := "heldBy", desc := "(I)V" } : Jvm.MethodName) prog_16_method_3_code (2 : Nat) (Option.none : Option Jvm.ClassFile.FieldType)).before args0 about1 = true := code_word (m := ⟨9, 1⟩) (meth := k9m1) (c := k9c1) (by decide +kernel) rfl rfl rfl (by decide +kernel)
set_option maxRecDepth 65536 in
theorem w_c8 : (Jvm.Cond.code ({ cls := "java/util/BitSet", name := "set", desc := "(I)V" } : Jvm.MethodName) jdk_92_method_19_code (3 : Nat) (Option.none : Option Jvm.ClassFile.FieldType)).before args0 about1 = true := code_word (m := ⟨11, 6⟩) (meth := k11m6) (c := k11c6) (by decide +kernel) rfl rfl rfl (by decide +kernel)
set_option maxRecDepth 65536 in
theorem w_c9 : (Jvm.Cond.code ({ cls := "java/util/BitSet", name := "expandTo", desc := "(I)V" } : Jvm.MethodName) jdk_92_method_15_code (3 : Nat) (Option.none : Option Jvm.ClassFile.FieldType)).before args0 about1 = true := code_word (m := ⟨11, 5⟩) (meth := k11m5) (c := k11c5) (by decide +kernel) rfl rfl rfl (by decide +kernel)
set_option maxRecDepth 65536 in
theorem w_c10 : (Jvm.Cond.code ({ cls := "java/util/BitSet", name := "ensureCapacity", desc := "(I)V" } : Jvm.MethodName) jdk_92_method_14_code (3 : Nat) (Option.none : Option Jvm.ClassFile.FieldType)).before args0 about1 = true := code_word (m := ⟨11, 4⟩) (meth := k11m4) (c := k11c4) (by decide +kernel) rfl rfl rfl (by decide +kernel)
set_option maxRecDepth 65536 in
theorem w_c11 : (Jvm.Cond.code ({ cls := "java/util/BitSet", name := "checkInvariants", desc := "()V" } : Jvm.MethodName) jdk_92_method_2_code (1 : Nat) (Option.none : Option Jvm.ClassFile.FieldType)).before args0 about1 = true := code_word (m := ⟨11, 1⟩) (meth := k11m1) (c := k11c1) (by decide +kernel) rfl rfl rfl (by decide +kernel)
set_option maxRecDepth 65536 in
theorem w_c12 : (Jvm.Cond.code ({ cls := "com/example/nadir/nadir/HeldKey", name := "isSampled", desc := "()Z" } : Jvm.MethodName) prog_16_method_8_code (1 : Nat) (Option.some Jvm.ClassFile.FieldType.boolean)).before args0 about1 = true := code_word (m := ⟨9, 3⟩) (meth := k9m3) (c := k9c3) (by decide +kernel) rfl rfl rfl (by decide +kernel)
set_option maxRecDepth 65536 in
theorem w_c13 : (Jvm.Cond.code ({ cls := "java/lang/Math", name := "max", desc := "(II)I" } : Jvm.MethodName) jdk_29_method_65_code (2 : Nat) (Option.some Jvm.ClassFile.FieldType.int)).before args0 about1 = true := code_word (m := ⟨12, 1⟩) (meth := k12m1) (c := k12c1) (by decide +kernel) rfl rfl rfl (by decide +kernel)
set_option maxRecDepth 65536 in
theorem w_c14 : (Jvm.Cond.code ({ cls := "java/util/Arrays", name := "copyOf", desc := "([JI)[J" } : Jvm.MethodName) jdk_65_method_124_code (3 : Nat) (Option.some (Jvm.ClassFile.FieldType.array Jvm.ClassFile.FieldType.long))).before args0 about1 = true := code_word (m := ⟨13, 1⟩) (meth := k13m1) (c := k13c1) (by decide +kernel) rfl rfl rfl (by decide +kernel)
set_option maxRecDepth 65536 in
theorem w_c15 : (Jvm.Cond.code ({ cls := "java/lang/Math", name := "min", desc := "(II)I" } : Jvm.MethodName) jdk_29_method_69_code (2 : Nat) (Option.some Jvm.ClassFile.FieldType.int)).before args0 about1 = true := code_word (m := ⟨12, 3⟩) (meth := k12m3) (c := k12c3) (by decide +kernel) rfl rfl rfl (by decide +kernel)
set_option maxRecDepth 65536 in
theorem w_c16 : (Jvm.Cond.code ({ cls := "com/example/nadir/nadir/HeldKey", name := "sampledBy", desc := "(ILcom/example/nadir/nadir/RankedKey;D)V" } : Jvm.MethodName) prog_16_method_4_code (5 : Nat) (Option.none : Option Jvm.ClassFile.FieldType)).before args0 about1 = true := code_word (m := ⟨9, 2⟩) (meth := k9m2) (c := k9c2) (by decide +kernel) rfl rfl rfl (by decide +kernel)
set_option maxRecDepth 65536 in
theorem w_c17 : (Jvm.Cond.code ({ cls := "java/lang/Math", name := "max", desc := "(DD)D" } : Jvm.MethodName) jdk_29_method_68_code (4 : Nat) (Option.some Jvm.ClassFile.FieldType.double)).before args0 about1 = true := code_word (m := ⟨12, 2⟩) (meth := k12m2) (c := k12c2) (by decide +kernel) rfl rfl rfl (by decide +kernel)
def codes1 : List Jvm.Cond := [Jvm.Cond.code x code maxLocals ret, Jvm.Cond.code ({ cls := "com/example/nadir/nadir/RankedKey", name := "<init>", desc := "(Ljava/lang/String;[BDDD)V" } : Jvm.MethodName) prog_25_method_1_code (9 : Nat) (Option.none : Option Jvm.ClassFile.FieldType), Jvm.Cond.code ({ cls := "java/lang/Object", name := "<init>", desc := "()V" } : Jvm.MethodName) object_method_1_code (1 : Nat) (Option.none : Option Jvm.ClassFile.FieldType), Jvm.Cond.code ({ cls := "com/example/nadir/nadir/HeldKey", name := "<init>", desc := "(Lcom/example/nadir/nadir/RankedKey;)V" } : Jvm.MethodName) prog_16_method_1_code (2 : Nat) (Option.none : Option Jvm.ClassFile.FieldType), Jvm.Cond.code ({ cls := "java/util/BitSet", name := "<init>", desc := "()V" } : Jvm.MethodName) jdk_92_method_4_code (1 : Nat) (Option.none : Option Jvm.ClassFile.FieldType), Jvm.Cond.code ({ cls := "java/util/BitSet", name := "initWords", desc := "(I)V" } : Jvm.MethodName) jdk_92_method_6_code (2 : Nat) (Option.none : Option Jvm.ClassFile.FieldType), Jvm.Cond.code ({ cls := "java/util/BitSet", name := "wordIndex", desc := "(I)I" } : Jvm.MethodName) jdk_92_method_1_code (1 : Nat) (Option.some Jvm.ClassFile.FieldType.int), Jvm.Cond.code ({ cls := "com/example/nadir/nadir/HeldKey", name := "heldBy", desc := "(I)V" } : Jvm.MethodName) prog_16_method_3_code (2 : Nat) (Option.none : Option Jvm.ClassFile.FieldType), Jvm.Cond.code ({ cls := "java/util/BitSet", name := "set", desc := "(I)V" } : Jvm.MethodName) jdk_92_method_19_code (3 : Nat) (Option.none : Option Jvm.ClassFile.FieldType), Jvm.Cond.code ({ cls := "java/util/BitSet", name := "expandTo", desc := "(I)V" } : Jvm.MethodName) jdk_92_method_15_code (3 : Nat) (Option.none : Option Jvm.ClassFile.FieldType), Jvm.Cond.code ({ cls := "java/util/BitSet", name := "ensureCapacity", desc := "(I)V" } : Jvm.MethodName) jdk_92_method_14_code (3 : Nat) (Option.none : Option Jvm.ClassFile.FieldType), Jvm.Cond.code ({ cls := "java/util/BitSet", name := "checkInvariants", desc := "()V" } : Jvm.MethodName) jdk_92_method_2_code (1 : Nat) (Option.none : Option Jvm.ClassFile.FieldType), Jvm.Cond.code ({ cls := "com/example/nadir/nadir/HeldKey", name := "isSampled", desc := "()Z" } : Jvm.MethodName) prog_16_method_8_code (1 : Nat) (Option.some Jvm.ClassFile.FieldType.boolean), Jvm.Cond.code ({ cls := "java/lang/Math", name := "max", desc := "(II)I" } : Jvm.MethodName) jdk_29_method_65_code (2 : Nat) (Option.some Jvm.ClassFile.FieldType.int), Jvm.Cond.code ({ cls := "java/util/Arrays", name := "copyOf", desc := "([JI)[J" } : Jvm.MethodName) jdk_65_method_124_code (3 : Nat) (Option.some (Jvm.ClassFile.FieldType.array Jvm.ClassFile.FieldType.long)), Jvm.Cond.code ({ cls := "java/lang/Math", name := "min", desc := "(II)I" } : Jvm.MethodName) jdk_29_method_69_code (2 : Nat) (Option.some Jvm.ClassFile.FieldType.int), Jvm.Cond.code ({ cls := "com/example/nadir/nadir/HeldKey", name := "sampledBy", desc := "(ILcom/example/nadir/nadir/RankedKey;D)V" } : Jvm.MethodName) prog_16_method_4_code (5 : Nat) (Option.none : Option Jvm.ClassFile.FieldType), Jvm.Cond.code ({ cls := "java/lang/Math", name := "max", desc := "(DD)D" } : Jvm.MethodName) jdk_29_method_68_code (4 : Nat) (Option.some Jvm.ClassFile.FieldType.double)]
set_option maxRecDepth 65536 in
theorem codes_eq : words1.filter isCode = codes1 := rfl
theorem w_codes : ∀ c ∈ words1.filter isCode, c.before args0 about1 = true := by
  rw [codes_eq]
  intro c hc
  simp only [codes1, List.mem_cons, List.not_mem_nil, or_false] at hc
  rcases hc with rfl | rfl | rfl | rfl | rfl | rfl | rfl | rfl | rfl | rfl | rfl | rfl | rfl | rfl | rfl | rfl | rfl | rfl
  · exact w_c0
  · exact w_c1
  · exact w_c2
  · exact w_c3
  · exact w_c4
  · exact w_c5
  · exact w_c6
  · exact w_c7
  · exact w_c8
  · exact w_c9
  · exact w_c10
  · exact w_c11
  · exact w_c12
  · exact w_c13
  · exact w_c14
  · exact w_c15
  · exact w_c16
  · exact w_c17
set_option maxRecDepth 65536 in
theorem w_t1 : (words1.take 24).all (fun c => isCode c || c.before args0 about1) = true := by decide +kernel
set_option maxRecDepth 65536 in
theorem w_t2 : ((words1.drop 24).take 24).all (fun c => isCode c || c.before args0 about1) = true := by decide +kernel
set_option maxRecDepth 65536 in
theorem w_t3 : (((words1.drop 24).drop 24).take 24).all (fun c => isCode c || c.before args0 about1) = true := by decide +kernel
set_option maxRecDepth 65536 in
theorem w_t4 : ((((words1.drop 24).drop 24).drop 24).take 24).all (fun c => isCode c || c.before args0 about1) = true := by decide +kernel
set_option maxRecDepth 65536 in
theorem w_t5 : (((((words1.drop 24).drop 24).drop 24).drop 24).take 24).all (fun c => isCode c || c.before args0 about1) = true := by decide +kernel
set_option maxRecDepth 65536 in
theorem w_t6 : (((((words1.drop 24).drop 24).drop 24).drop 24).drop 24).all (fun c => isCode c || c.before args0 about1) = true := by decide +kernel
theorem w_tables : (allAtoms (Jvm.Cond.code x code maxLocals ret :: tables_1)).before args0 about1 = true := by
  rw [allAtoms_all]
  show words1.all (fun c => c.before args0 about1) = true
  refine all_split ?_ w_codes
  rw [← List.take_append_drop 24 words1, List.all_append, w_t1, ← List.take_append_drop 24 (words1.drop 24), List.all_append, w_t2, ← List.take_append_drop 24 ((words1.drop 24).drop 24), List.all_append, w_t3, ← List.take_append_drop 24 (((words1.drop 24).drop 24).drop 24), List.all_append, w_t4, ← List.take_append_drop 24 ((((words1.drop 24).drop 24).drop 24).drop 24), List.all_append, w_t5, w_t6]
  rfl
set_option maxRecDepth 65536 in
theorem w_rest : rest_1_c.before args0 about1 = true := by decide +kernel
set_option maxRecDepth 65536 in
theorem w_case : (Jvm.Cond.and given_1 narrow_1).before args0 about1 = true := by decide +kernel
theorem w_applies : (headSpec (Jvm.Cond.code x code maxLocals ret :: tables_1) room_1).applies x e0.platform about1 = true :=
  (Spec.applies_iff w_frames).mpr ⟨w_running, w_runnable, w_alone, w_named, w_hears, w_ripe, w_room, w_tables⟩
theorem atStart : AtStart classFile x code maxLocals ret World_1 tables_1 room_1 Calls_1 rest_1 Pre_1 launch0 p0 e0 about1 theMethod args0 below0 :=
  ⟨lists_1, trivial, launch0.admits_env _ _ _, launch0.least_env, fairChoices_fair.cas, fairChoices_fair.clock, w_frames, w_args, w_heap, w_applies, trivial, w_rest, w_case⟩
end start1
theorem witness_1 : WitnessClaimed_1 := ⟨start1.p0, start1.e0, start1.about1, start1.theMethod, start1.args0, start1.below0, start1.atStart⟩
end Jvm.Pilot.@@N@@
