import JvmDerived
import JvmDerived.Pilot.@@N@@Statement
import JvmDerived.Pilot.@@N@@Code
set_option linter.unusedVariables false
set_option linter.unusedSimpArgs false
/- laws to paste: Road.backV (cut by pick.py; bodies as the Statement names them) -/
namespace Jvm.Pilot.@@N@@
namespace StrChars
open Jvm Sem ClassFile Op Lib Jvm.Stand Jvm.Free.XT Jvm.Free.ALB Jvm.Free.JM Jvm.Free
open Jvm.Lib.Cold (StaticIs)
/-- a char array whose places are chars -/
def Ch (a : Addr) (A : Cell) (U : State) : Prop := Arr .char a A U ∧ Typed .char A
theorem Ch.mv {a : Addr} {A : Cell} {U U' : State} (h : Ch a A U) (hal : U.vm.Alike U'.vm) (hh : U'.heap = U.heap) : Ch a A U' := ⟨h.1.mv hal hh, h.2⟩
theorem Ch.keep {a : Addr} {A : Cell} {U U' : State} (h : Ch a A U) (hal : U.vm.Alike U'.vm) (hk : U'.heap[a]? = some A) : Ch a A U' := ⟨h.1.keep hal hk, h.2⟩
/-- what place i of a char[]'s cell holds -/
def cv (A : Cell) (i : Nat) : Int32 := match A.slots[i]? with | some (.int x) => x | _ => 0
theorem Ch.get {a : Addr} {A : Cell} {U : State} (h : Ch a A U) {i : Nat} (hi : i < A.slots.size) : A.slots[i]? = some (.int (cv A i)) := by
  have e := Array.getElem?_eq_getElem hi
  have f := h.2 i _ e
  unfold cv; rw [e]
  generalize A.slots[i] = v at f
  cases v <;> simp [fits] at f ⊢
/-- the byte that i2b leaves of a char -/
def lo8 (x : Int32) : Int32 := x.toInt8.toInt32
theorem fits_lo8 (y : Int32) : fits .byte (.int (lo8 y)) = true := by
  have h1 := y.toInt8.le_toInt
  have h2 := y.toInt8.toInt_lt
  simp only [lo8, fits, Bool.and_eq_true, decide_eq_true_eq, Int32.le_iff_toInt_le, Int8.toInt_toInt32, show (-128 : Int32).toInt = -128 from by decide, show (127 : Int32).toInt = 127 from by decide]
  omega
/-- A' is A but that each place j of lo .. hi - 1 holds f j -/
def Laid (A A' : Cell) (lo hi : Nat) (f : Nat → Value) : Prop := A'.cls = A.cls ∧ A'.vm = A.vm ∧ A'.slots.size = A.slots.size ∧ ∀ i, A'.slots[i]? = if lo ≤ i ∧ i < hi then some (f i) else A.slots[i]?
theorem Laid.zero (A : Cell) (lo : Nat) (f : Nat → Value) : Laid A A lo (lo + 0) f := ⟨rfl, rfl, rfl, fun i => by rw [if_neg (by omega)]⟩
theorem Laid.step {A Ak : Cell} {lo k : Nat} {f : Nat → Value} {v : Value} (h : Laid A Ak lo k f) (hlo : lo ≤ k) (hk : k < Ak.slots.size) (hv : v = f k) : Laid A (Ak.setSlot k v) lo (k + 1) f := by
  refine ⟨h.1, h.2.1, by simpa [Cell.setSlot] using h.2.2.1, fun i => ?_⟩
  by_cases e : k = i
  · subst e; rw [Cell.slots_setSlot_self v hk, if_pos (by omega), hv]
  · rw [Cell.slots_setSlot_ne v e, h.2.2.2 i]
    by_cases q : lo ≤ i ∧ i < k
    · rw [if_pos q, if_pos (by omega)]
    · rw [if_neg q, if_neg (by omega)]
def U16 : String := "java/lang/StringUTF16"
namespace Cmp5
def yN : MethodName := ⟨"java/lang/StringUTF16", "compress", "([CI[BII)I"⟩
abbrev yB : ByteArray := jdk_52_method_21_code
theorem d0 : decode yB 0 = .ok (.iconst 0, 1) := by decide +kernel
theorem d1 : decode yB 1 = .ok (.istore 5, 2) := by decide +kernel
theorem d3 : decode yB 3 = .ok (.iload 5, 2) := by decide +kernel
theorem d5 : decode yB 5 = .ok (.iload 4, 2) := by decide +kernel
theorem d7 : decode yB 7 = .ok (.if_icmp (.ge) 37, 3) := by decide +kernel
theorem d10 : decode yB 10 = .ok (.aload_n 0, 1) := by decide +kernel
theorem d11 : decode yB 11 = .ok (.iload_n 1, 1) := by decide +kernel
theorem d12 : decode yB 12 = .ok (.caload, 1) := by decide +kernel
theorem d13 : decode yB 13 = .ok (.istore 6, 2) := by decide +kernel
theorem d15 : decode yB 15 = .ok (.iload 6, 2) := by decide +kernel
theorem d17 : decode yB 17 = .ok (.sipush 255, 3) := by decide +kernel
theorem d20 : decode yB 20 = .ok (.if_icmp (.le) 6, 3) := by decide +kernel
theorem d26 : decode yB 26 = .ok (.aload_n 2, 1) := by decide +kernel
theorem d27 : decode yB 27 = .ok (.iload_n 3, 1) := by decide +kernel
theorem d28 : decode yB 28 = .ok (.iload 6, 2) := by decide +kernel
theorem d30 : decode yB 30 = .ok (.i2b, 1) := by decide +kernel
theorem d31 : decode yB 31 = .ok (.bastore, 1) := by decide +kernel
theorem d32 : decode yB 32 = .ok (.iinc 1 1, 3) := by decide +kernel
theorem d35 : decode yB 35 = .ok (.iinc 3 1, 3) := by decide +kernel
theorem d38 : decode yB 38 = .ok (.iinc 5 1, 3) := by decide +kernel
theorem d41 : decode yB 41 = .ok (.goto (-38), 3) := by decide +kernel
theorem d44 : decode yB 44 = .ok (.iload 4, 2) := by decide +kernel
theorem d46 : decode yB 46 = .ok (.ireturn, 1) := by decide +kernel
def site : List Cond := []
def tab : Cond := tabOf yN yB 7 (some .int) site
def P (b : Addr) (A : Cell) (d : Addr) (B : Cell) (o q len : Nat) (args : Array Value) (s : State) : Prop := args = #[.ref b, .int (Int32.ofNat o), .ref d, .int (Int32.ofNat q), .int (Int32.ofNat len)] ∧ Ch b A s ∧ Arr .byte d B s ∧ b ≠ d ∧ o + len ≤ A.slots.size ∧ q + len ≤ B.slots.size ∧ ∀ i, i < len → ¬ 255 < cv A (o + i)
def E (b : Addr) (A : Cell) (d : Addr) (B : Cell) (o q len : Nat) (r : Option Value) (s u : State) : Prop := r = some (.int (Int32.ofNat len)) ∧ ∃ B', Put d B' s u ∧ Laid B B' q (q + len) (fun j => Value.int (lo8 (cv A (o + (j - q)))))
/-- no char of the range above 255: len; the places written hold each char's low byte -/
theorem law (l : Launch) (b : Addr) (A : Cell) (d : Addr) (B : Cell) (o q len : Nat) : Law l yN 5 5 0 0 yB 7 (some .int) site (P b A d B o q len) (E b A d B o q len) (copyLocs d q len) 0 0 := by
  refine Law.of_walk (plainFor_of_name (by decide +kernel)) (by decide +kernel) (by decide +kernel) (by decide) (fun _ _ h => by rw [h.1]; rfl) (fun _ U U' hal hh h => ⟨h.1, h.2.1.mv hal hh, h.2.2.1.mv hal hh, h.2.2.2⟩) (fun r U U' V V' h1 hal h2 h => ⟨h.1, h.2.elim fun B' q => ⟨B', q.1.mv h1 h2, q.2⟩⟩) ?_
  intro p e s m args below meth c s₁ X0 hexec hbytes hml hret hlk hnm hown hh0 W hP
  obtain ⟨rfl, hA, hB, hne, l1, l2, hp⟩ := hP
  have c1 : Steps p.tables e below (s₁.setTop (entryFrame m #[.ref b, .int (Int32.ofNat o), .ref d, .int (Int32.ofNat q), .int (Int32.ofNat len)] 7)) (s₁.setTop (mkF m 0 #[.val (.ref b), .val (.int (Int32.ofNat o)), .val (.ref d), .val (.int (Int32.ofNat q)), .val (.int (Int32.ofNat len)), .unset, .unset] [])) := entry rfl
  have hA0 := hA.1.mv X0.warmed.alike hh0
  have hB0 := hB.mv X0.warmed.alike hh0
  have a31 := hA.1.2.2.2
  have c2 : Steps p.tables e below (s₁.setTop (entryFrame m #[.ref b, .int (Int32.ofNat o), .ref d, .int (Int32.ofNat q), .int (Int32.ofNat len)] 7)) (s₁.setTop (mkF m 3 #[.val (.ref b), .val (.int (Int32.ofNat o)), .val (.ref d), .val (.int (Int32.ofNat q)), .val (.int (Int32.ofNat len)), .val (.int 0), .unset] [])) := c1.trans (by
    refine iconstV X0.here hexec rfl 0 (hb hbytes d0) (by decide) ?_
    refine XS.istore X0.here hexec rfl (hb hbytes d1) rfl rfl ?_
    exact Steps.refl _)
  have loop : ∀ (r i : Nat), i + r = len → ∀ (z : Slot), (z = .unset ∨ ∃ w, z = .val w ∧ w.category = 1) → ∀ (Tl : State) (Bk : Cell), Stand p l e { frames := 0, locals := 0, cells := 0, slots := 0 } s m #[.ref b, .int (Int32.ofNat o), .ref d, .int (Int32.ofNat q), .int (Int32.ofNat len)] below meth c Tl ([] ++ copyLocs d q i) 0 0 → Put d Bk s₁ Tl → Laid B Bk q (q + i) (fun j => Value.int (lo8 (cv A (o + (j - q))))) →
      Steps p.tables e below (s₁.setTop (entryFrame m #[.ref b, .int (Int32.ofNat o), .ref d, .int (Int32.ofNat q), .int (Int32.ofNat len)] 7)) (Tl.setTop (mkF m 3 #[.val (.ref b), .val (.int (Int32.ofNat (o + i))), .val (.ref d), .val (.int (Int32.ofNat (q + i))), .val (.int (Int32.ofNat len)), .val (.int (Int32.ofNat i)), z] [])) → ∃ (T' : State) (B' : Cell) (z' : Slot), Stand p l e { frames := 0, locals := 0, cells := 0, slots := 0 } s m #[.ref b, .int (Int32.ofNat o), .ref d, .int (Int32.ofNat q), .int (Int32.ofNat len)] below meth c T' ([] ++ copyLocs d q len) 0 0 ∧ Put d B' s₁ T' ∧ Laid B B' q (q + len) (fun j => Value.int (lo8 (cv A (o + (j - q))))) ∧
      Steps p.tables e below (s₁.setTop (entryFrame m #[.ref b, .int (Int32.ofNat o), .ref d, .int (Int32.ofNat q), .int (Int32.ofNat len)] 7)) (T'.setTop (mkF m 3 #[.val (.ref b), .val (.int (Int32.ofNat (o + len))), .val (.ref d), .val (.int (Int32.ofNat (q + len))), .val (.int (Int32.ofNat len)), .val (.int (Int32.ofNat len)), z'] [])) := by
    intro r
    induction r with
    | zero =>
      intro i hi z hz Tl Bk Xl pl fl cl
      have hil : i = len := by omega
      rw [hil] at Xl fl cl
      exact ⟨Tl, Bk, z, Xl, pl, fl, cl⟩
    | succ r ih =>
      intro i hi z hz Tl Bk Xl pl fl cl
      have all := X0.warmed.alike.symm.trans Xl.warmed.alike
      have hAl := hA0.keep all (pl.other hne hA0.1)
      have hBk := hB0.like all pl.1 fl.1 fl.2.1 fl.2.2.1
      have hlt : q + i < Bk.slots.size := by rw [fl.2.2.1]; omega
      have c3 : Steps p.tables e below (s₁.setTop (entryFrame m #[.ref b, .int (Int32.ofNat o), .ref d, .int (Int32.ofNat q), .int (Int32.ofNat len)] 7)) (Tl.setTop (mkF m 12 #[.val (.ref b), .val (.int (Int32.ofNat (o + i))), .val (.ref d), .val (.int (Int32.ofNat (q + i))), .val (.int (Int32.ofNat len)), .val (.int (Int32.ofNat i)), z] [.int (Int32.ofNat (o + i)), .ref b])) := cl.trans (by
        refine XS.iload Xl.here hexec rfl (hb hbytes d3) rfl ?_
        refine XS.iload Xl.here hexec rfl (hb hbytes d5) rfl ?_
        refine XS.icmpNo Xl.here hexec rfl (hb hbytes d7) rfl (ii_ge_f (lt32 (by omega) (by omega))) ?_
        refine XS.aloadN Xl.here hexec rfl (hb hbytes d10) rfl rfl ?_
        refine XS.iloadN Xl.here hexec rfl (hb hbytes d11) rfl ?_
        exact Steps.refl _)
      have c4 : Steps p.tables e below (s₁.setTop (entryFrame m #[.ref b, .int (Int32.ofNat o), .ref d, .int (Int32.ofNat q), .int (Int32.ofNat len)] 7)) (Tl.setTop (mkF m 13 #[.val (.ref b), .val (.int (Int32.ofNat (o + i))), .val (.ref d), .val (.int (Int32.ofNat (q + i))), .val (.int (Int32.ofNat len)), .val (.int (Int32.ofNat i)), z] [.int (cv A (o + i))])) := c3.trans (by
        refine Xl.aget hexec hAl rfl (hA.get (i := o + i) (by omega)) rfl rfl (hb hbytes d12) ?_
        exact Steps.refl _)
      have c5 : Steps p.tables e below (s₁.setTop (entryFrame m #[.ref b, .int (Int32.ofNat o), .ref d, .int (Int32.ofNat q), .int (Int32.ofNat len)] 7)) (Tl.setTop (mkF m 15 #[.val (.ref b), .val (.int (Int32.ofNat (o + i))), .val (.ref d), .val (.int (Int32.ofNat (q + i))), .val (.int (Int32.ofNat len)), .val (.int (Int32.ofNat i)), .val (.int (cv A (o + i)))] [])) := c4.trans (by
        refine XS.istoreS Xl.here hexec rfl (hb hbytes d13) rfl rfl hz ?_
        exact Steps.refl _)
      have c6 : Steps p.tables e below (s₁.setTop (entryFrame m #[.ref b, .int (Int32.ofNat o), .ref d, .int (Int32.ofNat q), .int (Int32.ofNat len)] 7)) (Tl.setTop (mkF m 31 #[.val (.ref b), .val (.int (Int32.ofNat (o + i))), .val (.ref d), .val (.int (Int32.ofNat (q + i))), .val (.int (Int32.ofNat len)), .val (.int (Int32.ofNat i)), .val (.int (cv A (o + i)))] [.int (lo8 (cv A (o + i))), .int (Int32.ofNat (q + i)), .ref d])) := c5.trans (by
        refine XS.iload Xl.here hexec rfl (hb hbytes d15) rfl ?_
        refine sipushV Xl.here hexec rfl 255 (hb hbytes d17) (by decide) ?_
        refine XS.icmpYes Xl.here hexec rfl (pc0 := 20) rfl (hb hbytes d20) rfl (ii_le_t (hp i (by omega))) (by decide) rfl ?_
        refine XS.aloadN Xl.here hexec rfl (hb hbytes d26) rfl rfl ?_
        refine XS.iloadN Xl.here hexec rfl (hb hbytes d27) rfl ?_
        refine XS.iload Xl.here hexec rfl (hb hbytes d28) rfl ?_
        refine i2b Xl.here hexec rfl (hb hbytes d30) rfl ?_
        exact Steps.refl _)
      obtain ⟨T7, X7, p7, st7⟩ := Xl.aput hexec hBk rfl hlt rfl (fits_lo8 (cv A (o + i))) (g := (mkF m 31 #[.val (.ref b), .val (.int (Int32.ofNat (o + i))), .val (.ref d), .val (.int (Int32.ofNat (q + i))), .val (.int (Int32.ofNat len)), .val (.int (Int32.ofNat i)), .val (.int (cv A (o + i)))] [.int (lo8 (cv A (o + i))), .int (Int32.ofNat (q + i)), .ref d])) rfl (rest := []) rfl (hb hbytes d31)
      have c8 : Steps p.tables e below (s₁.setTop (entryFrame m #[.ref b, .int (Int32.ofNat o), .ref d, .int (Int32.ofNat q), .int (Int32.ofNat len)] 7)) (T7.setTop (mkF m 32 #[.val (.ref b), .val (.int (Int32.ofNat (o + i))), .val (.ref d), .val (.int (Int32.ofNat (q + i))), .val (.int (Int32.ofNat len)), .val (.int (Int32.ofNat i)), .val (.int (cv A (o + i)))] [])) := c6.trans (st7 _ (Steps.refl _))
      have c9 : Steps p.tables e below (s₁.setTop (entryFrame m #[.ref b, .int (Int32.ofNat o), .ref d, .int (Int32.ofNat q), .int (Int32.ofNat len)] 7)) (T7.setTop (mkF m 3 #[.val (.ref b), .val (.int (Int32.ofNat (o + i) + 1)), .val (.ref d), .val (.int (Int32.ofNat (q + i) + 1)), .val (.int (Int32.ofNat len)), .val (.int (Int32.ofNat i + 1)), .val (.int (cv A (o + i)))] [])) := c8.trans (by
        refine iincV X7.here hexec rfl 1 (hb hbytes d32) (by decide) rfl rfl ?_
        refine iincV X7.here hexec rfl 1 (hb hbytes d35) (by decide) rfl rfl ?_
        refine iincV X7.here hexec rfl 1 (hb hbytes d38) (by decide) rfl rfl ?_
        refine XS.goto X7.here hexec rfl (pc0 := 41) rfl (hb hbytes d41) (by decide) rfl ?_
        exact Steps.refl _)
      have c10 : Steps p.tables e below (s₁.setTop (entryFrame m #[.ref b, .int (Int32.ofNat o), .ref d, .int (Int32.ofNat q), .int (Int32.ofNat len)] 7)) (T7.setTop (mkF m 3 #[.val (.ref b), .val (.int (Int32.ofNat (o + (i + 1)))), .val (.ref d), .val (.int (Int32.ofNat (q + (i + 1)))), .val (.int (Int32.ofNat len)), .val (.int (Int32.ofNat (i + 1))), .val (.int (cv A (o + i)))] [])) := by
        have := c9
        rw [succ32, succ32, succ32] at this
        exact this
      exact ih (i + 1) (by omega) _ (Or.inr ⟨_, rfl, rfl⟩) T7 _ (by rw [copyLocs_step, ← List.append_assoc]; exact X7) (pl.trans p7) (fl.step (by omega) hlt (by simp)) c10
  obtain ⟨T9, B9, z9, X9, p9, f9, g9⟩ := loop len 0 (by omega) .unset (Or.inl rfl) s₁ B (by simpa [copyLocs] using X0) ⟨hB0.1, fun _ _ => rfl, rfl⟩ (Laid.zero _ _ _) c2
  have c11 : Steps p.tables e below (s₁.setTop (entryFrame m #[.ref b, .int (Int32.ofNat o), .ref d, .int (Int32.ofNat q), .int (Int32.ofNat len)] 7)) (T9.setTop (mkF m 46 #[.val (.ref b), .val (.int (Int32.ofNat (o + len))), .val (.ref d), .val (.int (Int32.ofNat (q + len))), .val (.int (Int32.ofNat len)), .val (.int (Int32.ofNat len)), z9] [.int (Int32.ofNat len)])) := g9.trans (by
    refine XS.iload X9.here hexec rfl (hb hbytes d3) rfl ?_
    refine XS.iload X9.here hexec rfl (hb hbytes d5) rfl ?_
    refine XS.icmpYes X9.here hexec rfl (pc0 := 7) rfl (hb hbytes d7) rfl (ii_ge_t (nlt32 (by omega) (Nat.le_refl _))) (by decide) rfl ?_
    refine XS.iload X9.here hexec rfl (hb hbytes d44) rfl ?_
    exact Steps.refl _)
  exact ⟨T9, some (.int (Int32.ofNat len)), _, _, _, X9, by simp, rfl, rfl, (fun h => by cases h), ⟨rfl, B9, p9.from hh0, f9⟩, fun fs hl => c11.trans (X9.ireturnOut hexec hret rfl (Or.inl rfl) (hb hbytes d46) hl)⟩
end Cmp5
namespace Cmp3
def yN : MethodName := ⟨"java/lang/StringUTF16", "compress", "([CII)[B"⟩
abbrev yB : ByteArray := jdk_52_method_16_code
theorem d0 : decode yB 0 = .ok (.iload_n 2, 1) := by decide +kernel
theorem d1 : decode yB 1 = .ok (.newarray .byte, 2) := by decide +kernel
theorem d3 : decode yB 3 = .ok (.astore_n 3, 1) := by decide +kernel
theorem d4 : decode yB 4 = .ok (.aload_n 0, 1) := by decide +kernel
theorem d5 : decode yB 5 = .ok (.iload_n 1, 1) := by decide +kernel
theorem d6 : decode yB 6 = .ok (.aload_n 3, 1) := by decide +kernel
theorem d7 : decode yB 7 = .ok (.iconst 0, 1) := by decide +kernel
theorem d8 : decode yB 8 = .ok (.iload_n 2, 1) := by decide +kernel
theorem d9 : decode yB 9 = .ok (.invokestatic 115, 3) := by decide +kernel
theorem d12 : decode yB 12 = .ok (.istore 4, 2) := by decide +kernel
theorem d14 : decode yB 14 = .ok (.iload 4, 2) := by decide +kernel
theorem d16 : decode yB 16 = .ok (.iload_n 2, 1) := by decide +kernel
theorem d17 : decode yB 17 = .ok (.if_icmp (.eq) 40, 3) := by decide +kernel
theorem d57 : decode yB 57 = .ok (.aload_n 3, 1) := by decide +kernel
theorem d58 : decode yB 58 = .ok (.areturn, 1) := by decide +kernel
def site : List Cond := [.arrayClass .byte, Cmp5.tab] ++ staticW U16 115 Cmp5.yN
def tab : Cond := tabOf yN yB 6 (some (.array .byte)) site
def P (b : Addr) (A : Cell) (o len : Nat) (args : Array Value) (s : State) : Prop := args = #[.ref b, .int (Int32.ofNat o), .int (Int32.ofNat len)] ∧ Ch b A s ∧ o + len ≤ A.slots.size ∧ len ≤ 536870912 ∧ ∀ i, i < len → ¬ 255 < cv A (o + i)
def E (b : Addr) (A : Cell) (o len : Nat) (r : Option Value) (s u : State) : Prop := NewArr .byte "[B" len (fun j => .int (lo8 (cv A (o + j)))) r s u ∧ u.heap.size = s.heap.size + 1
/-- no char of the range above 255: a new byte[] of their low bytes -/
theorem law (l : Launch) (b : Addr) (A : Cell) (o len : Nat) : Law l yN 3 3 1 18 yB 6 (some (.array .byte)) site (P b A o len) (E b A o len) [] 1 len := by
  refine Law.of_walk (plainFor_of_name (by decide +kernel)) (by decide +kernel) (by decide +kernel) (by decide) (fun _ _ h => by rw [h.1]; rfl) (fun _ U U' hal hh h => ⟨h.1, h.2.1.mv hal hh, h.2.2⟩) (fun r U U' V V' h1 hal h2 h => ⟨NewArr.mv r U U' V V' h1 hal h2 h.1, by rw [h1, h2]; exact h.2⟩) ?_
  intro p e s m args below meth c s₁ X0 hexec hbytes hml hret hlk hnm hown hh0 W hP
  obtain ⟨rfl, hA, l1, l2, hp⟩ := hP
  have a31 := hA.1.2.2.2
  have c1 : Steps p.tables e below (s₁.setTop (entryFrame m #[.ref b, .int (Int32.ofNat o), .int (Int32.ofNat len)] 6)) (s₁.setTop (mkF m 0 #[.val (.ref b), .val (.int (Int32.ofNat o)), .val (.int (Int32.ofNat len)), .unset, .unset, .unset] [])) := entry rfl
  have c2 : Steps p.tables e below (s₁.setTop (entryFrame m #[.ref b, .int (Int32.ofNat o), .int (Int32.ofNat len)] 6)) (s₁.setTop (mkF m 1 #[.val (.ref b), .val (.int (Int32.ofNat o)), .val (.int (Int32.ofNat len)), .unset, .unset, .unset] [.int (Int32.ofNat len)])) := c1.trans (by
    refine XS.iloadN X0.here hexec rfl (hb hbytes d0) rfl ?_
    exact Steps.refl _)
  obtain ⟨T3, B3, X3, ba3, bs3, bv3, bh3, bf3, st3⟩ := X0.anew hexec (atype := .byte) (wk W (.arrayClass .byte)) rfl (by show len * 1 ≤ _; omega) (by omega) (g := (mkF m 1 #[.val (.ref b), .val (.int (Int32.ofNat o)), .val (.int (Int32.ofNat len)), .unset, .unset, .unset] [.int (Int32.ofNat len)])) rfl (hb hbytes d1) (rest := []) rfl (Nat.le_refl _) (by show 0 + len ≤ len; omega)
  rw [hh0] at ba3 st3
  have kp3 : XT.Kept s T3 := (XT.Kept.of_eq hh0).push bh3
  have hA3 := hA.keep X3.warmed.alike (kp3 _ _ hA.1.1)
  have hne : b ≠ s.heap.size := hA.1.ne
  have c4 : Steps p.tables e below (s₁.setTop (entryFrame m #[.ref b, .int (Int32.ofNat o), .int (Int32.ofNat len)] 6)) (T3.setTop (mkF m 3 #[.val (.ref b), .val (.int (Int32.ofNat o)), .val (.int (Int32.ofNat len)), .unset, .unset, .unset] [.ref s.heap.size])) := c2.trans (st3 _ (Steps.refl _))
  have c5 : Steps p.tables e below (s₁.setTop (entryFrame m #[.ref b, .int (Int32.ofNat o), .int (Int32.ofNat len)] 6)) (T3.setTop (mkF m 9 #[.val (.ref b), .val (.int (Int32.ofNat o)), .val (.int (Int32.ofNat len)), .val (.ref s.heap.size), .unset, .unset] [.int (Int32.ofNat len), .int 0, .ref s.heap.size, .int (Int32.ofNat o), .ref b])) := c4.trans (by
    refine XS.astoreN X3.here hexec rfl (hb hbytes d3) rfl rfl rfl ?_
    refine XS.aloadN X3.here hexec rfl (hb hbytes d4) rfl rfl ?_
    refine XS.iloadN X3.here hexec rfl (hb hbytes d5) rfl ?_
    refine XS.aloadN X3.here hexec rfl (hb hbytes d6) rfl rfl ?_
    refine iconstV X3.here hexec rfl 0 (hb hbytes d7) (by decide) ?_
    refine XS.iloadN X3.here hexec rfl (hb hbytes d8) rfl ?_
    exact Steps.refl _)
  obtain ⟨v6, T6, X6, E6, g6⟩ := X3.callS hexec (Cmp5.law l b A s.heap.size B3 o 0 len) hown (wks W (staticW U16 115 Cmp5.yN)) (wk W Cmp5.tab) (W := 0) (Nat.le_of_ble_eq_true rfl) (Nat.le_of_ble_eq_true rfl) (Nat.le_refl _) (by show 0 + len + 0 ≤ len; omega) (g := (mkF m 9 #[.val (.ref b), .val (.int (Int32.ofNat o)), .val (.int (Int32.ofNat len)), .val (.ref s.heap.size), .unset, .unset] [.int (Int32.ofNat len), .int (Int32.ofNat 0), .ref s.heap.size, .int (Int32.ofNat o), .ref b])) rfl (by rw [hml]; rfl) c5 (argsL := [.ref b, .int (Int32.ofNat o), .ref s.heap.size, .int (Int32.ofNat 0), .int (Int32.ofNat len)]) (rest := []) rfl rfl (by show 2 * 0 + 0 ≤ _; decide) (hb hbytes d9) (⟨rfl, hA3, ba3, hne, l1, by rw [bs3]; simp, hp⟩)
  obtain ⟨rfl, B6, p6, f6⟩ := E6
  have c7 : Steps p.tables e below (s₁.setTop (entryFrame m #[.ref b, .int (Int32.ofNat o), .int (Int32.ofNat len)] 6)) (T6.setTop (mkF m 12 #[.val (.ref b), .val (.int (Int32.ofNat o)), .val (.int (Int32.ofNat len)), .val (.ref s.heap.size), .unset, .unset] [.int (Int32.ofNat len)])) := g6
  have c8 : Steps p.tables e below (s₁.setTop (entryFrame m #[.ref b, .int (Int32.ofNat o), .int (Int32.ofNat len)] 6)) (T6.setTop (mkF m 58 #[.val (.ref b), .val (.int (Int32.ofNat o)), .val (.int (Int32.ofNat len)), .val (.ref s.heap.size), .val (.int (Int32.ofNat len)), .unset] [.ref s.heap.size])) := c7.trans (by
    refine XS.istore X6.here hexec rfl (hb hbytes d12) rfl rfl ?_
    refine XS.iload X6.here hexec rfl (hb hbytes d14) rfl ?_
    refine XS.iloadN X6.here hexec rfl (hb hbytes d16) rfl ?_
    refine XS.icmpYes X6.here hexec rfl (pc0 := 17) rfl (hb hbytes d17) rfl (ii_eq_t rfl) (by decide) rfl ?_
    refine XS.aloadN X6.here hexec rfl (hb hbytes d57) rfl rfl ?_
    exact Steps.refl _)
  have X8 := X6.wide (L' := []) (cells' := 1) (slots' := len) (fun x hx hlt => by
    simp only [List.nil_append, copyLocs, List.mem_map, List.mem_range] at hx
    obtain ⟨i, -, rfl⟩ := hx
    exact absurd hlt (Nat.lt_irrefl _)) (Nat.le_refl _) (by omega)
  exact ⟨T6, some (.ref s.heap.size), _, _, _, X8, rfl, rfl, rfl, (fun h => by cases h), ⟨⟨rfl, B6, ba3.like (X3.warmed.alike.symm.trans X6.warmed.alike) p6.1 f6.1 f6.2.1 f6.2.2.1, f6.2.1.trans bv3, by rw [X6.warmed.alike.findClass, f6.1]; exact bf3, by rw [f6.2.2.1, bs3]; simp, fun j hj => by rw [f6.2.2.2 j, if_pos (by omega)]; rfl, kp3.put p6 (Nat.le_refl _)⟩, by rw [p6.2.2, bh3, hh0]; simp⟩, fun fs hl => c8.trans (X8.areturnOut hexec rfl hret rfl (hb hbytes d58) hl)⟩
end Cmp3
namespace CodL
def yN : MethodName := ⟨"java/lang/StringUTF16", "coderFromArrayLen", "([BI)B"⟩
abbrev yB : ByteArray := jdk_52_method_15_code
theorem d0 : decode yB 0 = .ok (.iload_n 1, 1) := by decide +kernel
theorem d1 : decode yB 1 = .ok (.aload_n 0, 1) := by decide +kernel
theorem d2 : decode yB 2 = .ok (.arraylength, 1) := by decide +kernel
theorem d3 : decode yB 3 = .ok (.isub, 1) := by decide +kernel
theorem d4 : decode yB 4 = .ok (.bipush 31, 2) := by decide +kernel
theorem d6 : decode yB 6 = .ok (.iushr, 1) := by decide +kernel
theorem d7 : decode yB 7 = .ok (.i2b, 1) := by decide +kernel
theorem d8 : decode yB 8 = .ok (.ireturn, 1) := by decide +kernel
def site : List Cond := []
def tab : Cond := tabOf yN yB 2 (some .byte) site
def P (d : Addr) (B : Cell) (args : Array Value) (s : State) : Prop := args = #[.ref d, .int (Int32.ofNat B.slots.size)] ∧ Arr .byte d B s
def E (r : Option Value) (s u : State) : Prop := XT.PureE (some (.int 0)) r s u
/-- an array as long as the number of chars: LATIN1 -/
theorem law (l : Launch) (d : Addr) (B : Cell) : Law l yN 2 2 0 0 yB 2 (some .byte) site (P d B) E [] 0 0 := by
  refine Law.of_walk (plainFor_of_name (by decide +kernel)) (by decide +kernel) (by decide +kernel) (by decide) (fun _ _ h => by rw [h.1]; rfl) (fun _ U U' hal hh h => ⟨h.1, h.2.mv hal hh⟩) (fun r U U' V V' h1 hal h2 h => XT.PureE.mv r U U' V V' h1 hal h2 h) ?_
  intro p e s m args below meth c s₁ X0 hexec hbytes hml hret hlk hnm hown hh0 W hP
  obtain ⟨rfl, hB⟩ := hP
  have hB0 := hB.mv X0.warmed.alike hh0
  have c1 : Steps p.tables e below (s₁.setTop (entryFrame m #[.ref d, .int (Int32.ofNat B.slots.size)] 2)) (s₁.setTop (mkF m 0 #[.val (.ref d), .val (.int (Int32.ofNat B.slots.size))] [])) := entry rfl
  have c2 : Steps p.tables e below (s₁.setTop (entryFrame m #[.ref d, .int (Int32.ofNat B.slots.size)] 2)) (s₁.setTop (mkF m 2 #[.val (.ref d), .val (.int (Int32.ofNat B.slots.size))] [.ref d, .int (Int32.ofNat B.slots.size)])) := c1.trans (by
    refine XS.iloadN X0.here hexec rfl (hb hbytes d0) rfl ?_
    refine XS.aloadN X0.here hexec rfl (hb hbytes d1) rfl rfl ?_
    exact Steps.refl _)
  have c3 : Steps p.tables e below (s₁.setTop (entryFrame m #[.ref d, .int (Int32.ofNat B.slots.size)] 2)) (s₁.setTop (mkF m 8 #[.val (.ref d), .val (.int (Int32.ofNat B.slots.size))] [.int (lo8 (ushr (Int32.ofNat B.slots.size - Int32.ofNat B.slots.size) 31))])) := c2.trans (by
    refine X0.alen hexec hB0 rfl rfl (hb hbytes d2) ?_
    refine XS.isub X0.here hexec rfl (hb hbytes d3) rfl ?_
    refine bipushV X0.here hexec rfl 31 (hb hbytes d4) (by decide) ?_
    refine iushr X0.here hexec rfl (hb hbytes d6) rfl ?_
    refine i2b X0.here hexec rfl (hb hbytes d7) rfl ?_
    exact Steps.refl _)
  have e0 : lo8 (ushr (Int32.ofNat B.slots.size - Int32.ofNat B.slots.size) 31) = 0 := by rw [Int32.sub_self]; decide
  rw [e0] at c3
  exact ⟨s₁, some (.int 0), _, _, _, X0, rfl, rfl, rfl, (fun h => by cases h), ⟨rfl, hh0⟩, fun fs hl => c3.trans (X0.ireturnOut hexec hret rfl (Or.inr (Or.inr (Or.inl rfl))) (hb hbytes d8) hl)⟩
end CodL
/-- the String at a is Latin-1 over a new byte[] (the heap's one new cell): the low bytes of the len chars of A from o on; every cell but a is kept -/
def Got (a : Addr) (D : Cell) (fV fC : Field) (A : Cell) (o len : Nat) (r : Option Value) (s u : State) : Prop := r = none ∧ ∃ D' V : Cell, Blank "java/lang/String" a D' u ∧ Same D D' [fV.slot, fC.slot] ∧ D'.slots[fV.slot]? = some (.ref s.heap.size) ∧ D'.slots[fC.slot]? = some (.int 0) ∧ Arr .byte s.heap.size V u ∧ V.vm = .none ∧ u.vm.findClass "[B" = some V.cls ∧ V.slots.size = len ∧ (∀ j, j < len → V.slots[j]? = some (.int (lo8 (cv A (o + j))))) ∧ (∀ (y : Addr) (c : Cell), y ≠ a → s.heap[y]? = some c → u.heap[y]? = some c) ∧ u.heap.size = s.heap.size + 1
theorem Got.mv {a : Addr} {D A : Cell} {fV fC : Field} {o len : Nat} : ∀ r (U U' V V' : State), U'.heap = U.heap → V.vm.Alike V'.vm → V'.heap = V.heap → Got a D fV fC A o len r U V → Got a D fV fC A o len r U' V' :=
  fun r U U' V V' h1 hal h2 ⟨e0, D', X, a1, a2, a3, a4, a5, a6, a7, a8, a9, a10, a11⟩ => ⟨e0, D', X, a1.mv hal h2, a2, by rw [h1]; exact a3, a4, by rw [h1]; exact a5.mv hal h2, a6, by rw [hal.findClass]; exact a7, a8, a9, by rw [h1, h2]; exact a10, by rw [h1, h2]; exact a11⟩
namespace New4
def yN : MethodName := ⟨"java/lang/String", "<init>", "([CIILjava/lang/Void;)V"⟩
abbrev yB : ByteArray := jdk_42_method_149_code
theorem d0 : decode yB 0 = .ok (.aload_n 0, 1) := by decide +kernel
theorem d1 : decode yB 1 = .ok (.invokespecial 1, 3) := by decide +kernel
theorem d4 : decode yB 4 = .ok (.iload_n 3, 1) := by decide +kernel
theorem d5 : decode yB 5 = .ok (.ifCond (.ne) 22, 3) := by decide +kernel
theorem d27 : decode yB 27 = .ok (.getstatic 38, 3) := by decide +kernel
theorem d30 : decode yB 30 = .ok (.ifCond (.eq) 28, 3) := by decide +kernel
theorem d33 : decode yB 33 = .ok (.aload_n 1, 1) := by decide +kernel
theorem d34 : decode yB 34 = .ok (.iload_n 2, 1) := by decide +kernel
theorem d35 : decode yB 35 = .ok (.iload_n 3, 1) := by decide +kernel
theorem d36 : decode yB 36 = .ok (.invokestatic 177, 3) := by decide +kernel
theorem d39 : decode yB 39 = .ok (.astore 5, 2) := by decide +kernel
theorem d41 : decode yB 41 = .ok (.aload_n 0, 1) := by decide +kernel
theorem d42 : decode yB 42 = .ok (.aload 5, 2) := by decide +kernel
theorem d44 : decode yB 44 = .ok (.iload_n 3, 1) := by decide +kernel
theorem d45 : decode yB 45 = .ok (.invokestatic 47, 3) := by decide +kernel
theorem d48 : decode yB 48 = .ok (.putfield 15, 3) := by decide +kernel
theorem d51 : decode yB 51 = .ok (.aload_n 0, 1) := by decide +kernel
theorem d52 : decode yB 52 = .ok (.aload 5, 2) := by decide +kernel
theorem d54 : decode yB 54 = .ok (.putfield 9, 3) := by decide +kernel
theorem d57 : decode yB 57 = .ok (.return_, 1) := by decide +kernel
def site : List Cond := [.fieldLink "java/lang/String" 38 "java/lang/String" "COMPACT_STRINGS" "Z", Cmp3.tab, CodL.tab, .laysFinal "java/lang/String" "java/lang/String" "value" "[B", .fieldLink "java/lang/String" 9 "java/lang/String" "value" "[B", .laysFinal "java/lang/String" "java/lang/String" "coder" "B", .fieldLink "java/lang/String" 15 "java/lang/String" "coder" "B"] ++ objW "java/lang/String" 1 ++ staticW "java/lang/String" 177 Cmp3.yN ++ staticW "java/lang/String" 47 CodL.yN
def tab : Cond := tabOf yN yB 6 none site
def P (a : Addr) (D : Cell) (fV fC : Field) (b : Addr) (A : Cell) (z : Int32) (o len : Nat) (args : Array Value) (s : State) : Prop := args = #[.ref a, .ref b, .int (Int32.ofNat o), .int (Int32.ofNat len), .null] ∧ Blank "java/lang/String" a D s ∧ Found "java/lang/String" "value" "[B" fV s ∧ Found "java/lang/String" "coder" "B" fC s ∧ Ch b A s ∧ StaticIs s "java/lang/String" "COMPACT_STRINGS" "Z" (.int z) ∧ ¬ z = 0 ∧ 0 < len ∧ o + len ≤ A.slots.size ∧ len ≤ 536870912 ∧ ∀ i, i < len → ¬ 255 < cv A (o + i)
def E (a : Addr) (D : Cell) (fV fC : Field) (A : Cell) (o len : Nat) (r : Option Value) (s u : State) : Prop := Got a D fV fC A o len r s u
/-- len > 0, no char of the range above 255: a Latin-1 String of their low bytes -/
theorem law (l : Launch) (a : Addr) (D : Cell) (fV fC : Field) (b : Addr) (A : Cell) (z : Int32) (o len : Nat) : Law l yN 5 4 2 35 yB 6 none site (P a D fV fC b A z o len) (E a D fV fC A o len) [⟨a, fC.slot⟩, ⟨a, fV.slot⟩] 1 len := by
  refine Law.of_walk (plainFor_of_name (by decide +kernel)) (by decide +kernel) (by decide +kernel) (by decide) (fun _ _ h => by rw [h.1]; rfl) (fun _ U U' hal hh h => ⟨h.1, h.2.1.mv hal hh, h.2.2.1.al hal, h.2.2.2.1.al hal, h.2.2.2.2.1.mv hal hh, h.2.2.2.2.2.1.there hal hh, h.2.2.2.2.2.2⟩) (fun r U U' V V' h1 hal h2 h => Got.mv r U U' V V' h1 hal h2 h) ?_
  intro p e s m args below meth c s₁ X0 hexec hbytes hml hret hlk hnm hown hh0 W hP
  obtain ⟨rfl, hB, f1, f2, hA, s1, hz, l0, l1, l2, hp⟩ := hP
  have a31 := hA.1.2.2.2
  have c1 : Steps p.tables e below (s₁.setTop (entryFrame m #[.ref a, .ref b, .int (Int32.ofNat o), .int (Int32.ofNat len), .null] 6)) (s₁.setTop (mkF m 0 #[.val (.ref a), .val (.ref b), .val (.int (Int32.ofNat o)), .val (.int (Int32.ofNat len)), .val .null, .unset] [])) := entry rfl
  have c2 : Steps p.tables e below (s₁.setTop (entryFrame m #[.ref a, .ref b, .int (Int32.ofNat o), .int (Int32.ofNat len), .null] 6)) (s₁.setTop (mkF m 1 #[.val (.ref a), .val (.ref b), .val (.int (Int32.ofNat o)), .val (.int (Int32.ofNat len)), .val .null, .unset] [.ref a])) := c1.trans (by
    refine XS.aloadN X0.here hexec rfl (hb hbytes d0) rfl rfl ?_
    exact Steps.refl _)
  obtain ⟨T3, X3, q3, st3⟩ := X0.oinit hexec hown (wks W (objW "java/lang/String" 1)) (g := (mkF m 1 #[.val (.ref a), .val (.ref b), .val (.int (Int32.ofNat o)), .val (.int (Int32.ofNat len)), .val .null, .unset] [.ref a])) rfl (by rw [hml]; rfl) (rest := []) rfl (hb hbytes d1) (W := 0) (by show 2 * 0 + 0 ≤ _; decide) (Nat.le_of_ble_eq_true rfl) (Nat.le_of_ble_eq_true rfl)
  have hh3 := q3.trans hh0
  have c4 : Steps p.tables e below (s₁.setTop (entryFrame m #[.ref a, .ref b, .int (Int32.ofNat o), .int (Int32.ofNat len), .null] 6)) (T3.setTop (mkF m 27 #[.val (.ref a), .val (.ref b), .val (.int (Int32.ofNat o)), .val (.int (Int32.ofNat len)), .val .null, .unset] [])) := (c2.trans (st3 _ (Steps.refl _))).trans (by
    refine XS.iloadN X3.here hexec rfl (hb hbytes d4) rfl ?_
    refine XS.ifYes X3.here hexec rfl (pc0 := 5) rfl (hb hbytes d5) rfl (i0_ne_t (nz32 (by omega) l0)) (by decide) rfl ?_
    exact Steps.refl _)
  obtain ⟨T5, X5, q5, st5⟩ := X3.sget hexec hown (wk W (.fieldLink "java/lang/String" 38 "java/lang/String" "COMPACT_STRINGS" "Z")) s1 (fun _ _ h => by rw [hh3]; exact h) (g := (mkF m 27 #[.val (.ref a), .val (.ref b), .val (.int (Int32.ofNat o)), .val (.int (Int32.ofNat len)), .val .null, .unset] [])) rfl (hb hbytes d27)
  have hh5 := q5.trans hh3
  have c6 : Steps p.tables e below (s₁.setTop (entryFrame m #[.ref a, .ref b, .int (Int32.ofNat o), .int (Int32.ofNat len), .null] 6)) (T5.setTop (mkF m 30 #[.val (.ref a), .val (.ref b), .val (.int (Int32.ofNat o)), .val (.int (Int32.ofNat len)), .val .null, .unset] [.int z])) := c4.trans (st5 _ (Steps.refl _))
  have c7 : Steps p.tables e below (s₁.setTop (entryFrame m #[.ref a, .ref b, .int (Int32.ofNat o), .int (Int32.ofNat len), .null] 6)) (T5.setTop (mkF m 36 #[.val (.ref a), .val (.ref b), .val (.int (Int32.ofNat o)), .val (.int (Int32.ofNat len)), .val .null, .unset] [.int (Int32.ofNat len), .int (Int32.ofNat o), .ref b])) := c6.trans (by
    refine XS.ifNo X5.here hexec rfl (hb hbytes d30) rfl (i0_eq_f hz) ?_
    refine XS.aloadN X5.here hexec rfl (hb hbytes d33) rfl rfl ?_
    refine XS.iloadN X5.here hexec rfl (hb hbytes d34) rfl ?_
    refine XS.iloadN X5.here hexec rfl (hb hbytes d35) rfl ?_
    exact Steps.refl _)
  obtain ⟨v8, T8, X8, E8, g8⟩ := X5.callS hexec (Cmp3.law l b A o len) hown (wks W (staticW "java/lang/String" 177 Cmp3.yN)) (wk W Cmp3.tab) (W := 0) (Nat.le_of_ble_eq_true rfl) (Nat.le_of_ble_eq_true rfl) (Nat.le_refl _) (by show 0 + len ≤ len; omega) (g := (mkF m 36 #[.val (.ref a), .val (.ref b), .val (.int (Int32.ofNat o)), .val (.int (Int32.ofNat len)), .val .null, .unset] [.int (Int32.ofNat len), .int (Int32.ofNat o), .ref b])) rfl (by rw [hml]; rfl) c7 (argsL := [.ref b, .int (Int32.ofNat o), .int (Int32.ofNat len)]) (rest := []) rfl rfl (by show 2 * 0 + 0 ≤ _; decide) (hb hbytes d36) (⟨rfl, hA.mv X5.warmed.alike hh5, l1, l2, hp⟩)
  obtain ⟨e8, z8⟩ := E8
  obtain ⟨rfl, N, n1, n2, n3, n4, n5, n6⟩ := NewArr.mv _ T5 s _ _ hh5.symm (Vm.Alike.refl _) rfl e8
  rw [hh5] at z8
  have hB1 := hB.keep X8.warmed.alike (n6 _ _ hB.1)
  have hne : s.heap.size ≠ a := (Nat.ne_of_lt (Array.getElem?_eq_some_iff.mp hB.1).1).symm
  have c9 : Steps p.tables e below (s₁.setTop (entryFrame m #[.ref a, .ref b, .int (Int32.ofNat o), .int (Int32.ofNat len), .null] 6)) (T8.setTop (mkF m 39 #[.val (.ref a), .val (.ref b), .val (.int (Int32.ofNat o)), .val (.int (Int32.ofNat len)), .val .null, .unset] [.ref s.heap.size])) := g8
  have c10 : Steps p.tables e below (s₁.setTop (entryFrame m #[.ref a, .ref b, .int (Int32.ofNat o), .int (Int32.ofNat len), .null] 6)) (T8.setTop (mkF m 45 #[.val (.ref a), .val (.ref b), .val (.int (Int32.ofNat o)), .val (.int (Int32.ofNat len)), .val .null, .val (.ref s.heap.size)] [.int (Int32.ofNat N.slots.size), .ref s.heap.size, .ref a])) := by
    have hc : Steps p.tables e below (s₁.setTop (entryFrame m #[.ref a, .ref b, .int (Int32.ofNat o), .int (Int32.ofNat len), .null] 6)) (T8.setTop (mkF m 45 #[.val (.ref a), .val (.ref b), .val (.int (Int32.ofNat o)), .val (.int (Int32.ofNat len)), .val .null, .val (.ref s.heap.size)] [.int (Int32.ofNat len), .ref s.heap.size, .ref a])) := c9.trans (by
      refine XS.astore X8.here hexec rfl (hb hbytes d39) rfl rfl rfl ?_
      refine XS.aloadN X8.here hexec rfl (hb hbytes d41) rfl rfl ?_
      refine XS.aload X8.here hexec rfl (hb hbytes d42) rfl rfl ?_
      refine XS.iloadN X8.here hexec rfl (hb hbytes d44) rfl ?_
      exact Steps.refl _)
    rw [n4]; exact hc
  obtain ⟨v11, T11, X11, E11, g11⟩ := X8.callS hexec (CodL.law l s.heap.size N) hown (wks W (staticW "java/lang/String" 47 CodL.yN)) (wk W CodL.tab) (W := 1) (Nat.le_of_ble_eq_true rfl) (Nat.le_of_ble_eq_true rfl) (Nat.le_refl _) (by show 0 + len + 0 ≤ len; omega) (g := (mkF m 45 #[.val (.ref a), .val (.ref b), .val (.int (Int32.ofNat o)), .val (.int (Int32.ofNat len)), .val .null, .val (.ref s.heap.size)] [.int (Int32.ofNat N.slots.size), .ref s.heap.size, .ref a])) rfl (by rw [hml]; rfl) c10 (argsL := [.ref s.heap.size, .int (Int32.ofNat N.slots.size)]) (rest := [.ref a]) rfl rfl (by show 2 * 0 + (1 + 0) ≤ _; decide) (hb hbytes d45) (⟨rfl, n1⟩)
  obtain ⟨rfl, q11⟩ := E11
  have hB11 := hB1.mv (X8.warmed.alike.symm.trans X11.warmed.alike) q11
  have c12 : Steps p.tables e below (s₁.setTop (entryFrame m #[.ref a, .ref b, .int (Int32.ofNat o), .int (Int32.ofNat len), .null] 6)) (T11.setTop (mkF m 48 #[.val (.ref a), .val (.ref b), .val (.int (Int32.ofNat o)), .val (.int (Int32.ofNat len)), .val .null, .val (.ref s.heap.size)] [.int 0, .ref a])) := g11
  obtain ⟨T13, X13, p13, bl13, sl13, st13⟩ := X11.finit hexec hown (wk W (.fieldLink "java/lang/String" 15 "java/lang/String" "coder" "B")) (Or.inr ⟨_, (wk W (.laysFinal "java/lang/String" "java/lang/String" "coder" "B"))⟩) (Or.inl ⟨rfl, hnm⟩) f2 (Or.inl rfl) hB11 (t := .byte) (by decide +kernel) rfl (g := (mkF m 48 #[.val (.ref a), .val (.ref b), .val (.int (Int32.ofNat o)), .val (.int (Int32.ofNat len)), .val .null, .val (.ref s.heap.size)] [.int 0, .ref a])) rfl (rest := []) rfl (hb hbytes d48)
  have c14 : Steps p.tables e below (s₁.setTop (entryFrame m #[.ref a, .ref b, .int (Int32.ofNat o), .int (Int32.ofNat len), .null] 6)) (T13.setTop (mkF m 54 #[.val (.ref a), .val (.ref b), .val (.int (Int32.ofNat o)), .val (.int (Int32.ofNat len)), .val .null, .val (.ref s.heap.size)] [.ref s.heap.size, .ref a])) := (c12.trans (st13 _ (Steps.refl _))).trans (by
    refine XS.aloadN X13.here hexec rfl (hb hbytes d51) rfl rfl ?_
    refine XS.aload X13.here hexec rfl (hb hbytes d52) rfl rfl ?_
    exact Steps.refl _)
  obtain ⟨T15, X15, p15, bl15, sl15, st15⟩ := X13.finit hexec hown (wk W (.fieldLink "java/lang/String" 9 "java/lang/String" "value" "[B")) (Or.inr ⟨_, (wk W (.laysFinal "java/lang/String" "java/lang/String" "value" "[B"))⟩) (Or.inl ⟨rfl, hnm⟩) f1 (Or.inl rfl) bl13 (t := (.array .byte)) (by decide +kernel) rfl (g := (mkF m 54 #[.val (.ref a), .val (.ref b), .val (.int (Int32.ofNat o)), .val (.int (Int32.ofNat len)), .val .null, .val (.ref s.heap.size)] [.ref s.heap.size, .ref a])) rfl (rest := []) rfl (hb hbytes d54)
  have c16 : Steps p.tables e below (s₁.setTop (entryFrame m #[.ref a, .ref b, .int (Int32.ofNat o), .int (Int32.ofNat len), .null] 6)) (T15.setTop (mkF m 57 #[.val (.ref a), .val (.ref b), .val (.int (Int32.ofNat o)), .val (.int (Int32.ofNat len)), .val .null, .val (.ref s.heap.size)] [])) := c14.trans (st15 _ (Steps.refl _))
  have ap := apart (Or.inr ⟨_, (wk W (.laysFinal "java/lang/String" "java/lang/String" "value" "[B"))⟩) (Or.inr ⟨_, (wk W (.laysFinal "java/lang/String" "java/lang/String" "coder" "B"))⟩) f1 f2 (t₁ := .array .byte) (t₂ := .byte) (by decide +kernel) (by decide +kernel) (by decide)
  have al := X8.warmed.alike.symm.trans X15.warmed.alike
  have n7 : T11.heap[s.heap.size]? = some N := by rw [q11]; exact n1.1
  exact ⟨T15, none, _, _, _, X15, by simp, rfl, by omega, (fun _ => rfl), ⟨rfl, _, N, bl15, ((Same.refl D _).set _ (by simp)).set _ (by simp), sl15, (Cell.slots_setSlot_ne _ ap).trans sl13, n1.keep al (p15.other hne (p13.other hne n7)), n2, by rw [al.findClass]; exact n3, n4, n5, fun y c h1 h2 => p15.other h1 (p13.other h1 (by rw [q11]; exact n6 y c h2)), by rw [p15.2.2, p13.2.2, q11]; exact z8⟩, fun fs hl => c16.trans (X15.returnOut hexec hret (hb hbytes d57) hl)⟩
end New4
namespace New1
def yN : MethodName := ⟨"java/lang/String", "<init>", "([C)V"⟩
abbrev yB : ByteArray := jdk_42_method_3_code
theorem d0 : decode yB 0 = .ok (.aload_n 0, 1) := by decide +kernel
theorem d1 : decode yB 1 = .ok (.aload_n 1, 1) := by decide +kernel
theorem d2 : decode yB 2 = .ok (.iconst 0, 1) := by decide +kernel
theorem d3 : decode yB 3 = .ok (.aload_n 1, 1) := by decide +kernel
theorem d4 : decode yB 4 = .ok (.arraylength, 1) := by decide +kernel
theorem d5 : decode yB 5 = .ok (.aconst_null, 1) := by decide +kernel
theorem d6 : decode yB 6 = .ok (.invokespecial 27, 3) := by decide +kernel
theorem d9 : decode yB 9 = .ok (.return_, 1) := by decide +kernel
def site : List Cond := [New4.tab] ++ initW "java/lang/String" 27 New4.yN
def tab : Cond := tabOf yN yB 2 none site
def P (a : Addr) (D : Cell) (fV fC : Field) (b : Addr) (A : Cell) (z : Int32) (args : Array Value) (s : State) : Prop := args = #[.ref a, .ref b] ∧ Blank "java/lang/String" a D s ∧ Found "java/lang/String" "value" "[B" fV s ∧ Found "java/lang/String" "coder" "B" fC s ∧ Ch b A s ∧ StaticIs s "java/lang/String" "COMPACT_STRINGS" "Z" (.int z) ∧ ¬ z = 0 ∧ 0 < A.slots.size ∧ A.slots.size ≤ 536870912 ∧ ∀ i, i < A.slots.size → ¬ 255 < cv A i
def E (a : Addr) (D : Cell) (fV fC : Field) (A : Cell) (r : Option Value) (s u : State) : Prop := Got a D fV fC A 0 A.slots.size r s u
/-- new String(chars), not empty, no char above 255: a Latin-1 String of their low bytes -/
theorem law (l : Launch) (a : Addr) (D : Cell) (fV fC : Field) (b : Addr) (A : Cell) (z : Int32) : Law l yN 2 1 3 52 yB 2 none site (P a D fV fC b A z) (E a D fV fC A) [⟨a, fC.slot⟩, ⟨a, fV.slot⟩] 1 A.slots.size := by
  refine Law.of_walk (plainFor_of_name (by decide +kernel)) (by decide +kernel) (by decide +kernel) (by decide) (fun _ _ h => by rw [h.1]; rfl) (fun _ U U' hal hh h => ⟨h.1, h.2.1.mv hal hh, h.2.2.1.al hal, h.2.2.2.1.al hal, h.2.2.2.2.1.mv hal hh, h.2.2.2.2.2.1.there hal hh, h.2.2.2.2.2.2⟩) (fun r U U' V V' h1 hal h2 h => Got.mv r U U' V V' h1 hal h2 h) ?_
  intro p e s m args below meth c s₁ X0 hexec hbytes hml hret hlk hnm hown hh0 W hP
  obtain ⟨rfl, hB, f1, f2, hA, s1, hz, l0, l2, hp⟩ := hP
  have c1 : Steps p.tables e below (s₁.setTop (entryFrame m #[.ref a, .ref b] 2)) (s₁.setTop (mkF m 0 #[.val (.ref a), .val (.ref b)] [])) := entry rfl
  have c2 : Steps p.tables e below (s₁.setTop (entryFrame m #[.ref a, .ref b] 2)) (s₁.setTop (mkF m 6 #[.val (.ref a), .val (.ref b)] [.null, .int (Int32.ofNat A.slots.size), .int 0, .ref b, .ref a])) := c1.trans (by
    refine XS.aloadN X0.here hexec rfl (hb hbytes d0) rfl rfl ?_
    refine XS.aloadN X0.here hexec rfl (hb hbytes d1) rfl rfl ?_
    refine iconstV X0.here hexec rfl 0 (hb hbytes d2) (by decide) ?_
    refine XS.aloadN X0.here hexec rfl (hb hbytes d3) rfl rfl ?_
    refine X0.alen hexec (hA.1.mv X0.warmed.alike hh0) rfl rfl (hb hbytes d4) ?_
    refine XS.aconstNull X0.here hexec rfl (hb hbytes d5) ?_
    exact Steps.refl _)
  obtain ⟨v3, T3, X3, E3, g3⟩ := X0.callN hexec (New4.law l a D fV fC b A z 0 A.slots.size) rfl hown (wks W (initW "java/lang/String" 27 New4.yN)) (W New4.tab (by simp only [site, List.mem_cons, List.mem_append, true_or, or_true])) (W := 0) (Nat.le_of_ble_eq_true rfl) (Nat.le_of_ble_eq_true rfl) (Nat.le_refl _) (by show 0 + A.slots.size ≤ A.slots.size; omega) (g := (mkF m 6 #[.val (.ref a), .val (.ref b)] [.null, .int (Int32.ofNat A.slots.size), .int (Int32.ofNat 0), .ref b, .ref a])) rfl (by rw [hml]; rfl) c2 (argsL := [.ref b, .int (Int32.ofNat 0), .int (Int32.ofNat A.slots.size), .null]) (rest := []) rfl rfl (by show 2 * 0 + 0 ≤ _; decide) (hb hbytes d6) (⟨rfl, hB.mv X0.warmed.alike hh0, f1.al X0.warmed.alike, f2.al X0.warmed.alike, hA.mv X0.warmed.alike hh0, s1.there X0.warmed.alike hh0, hz, l0, by omega, l2, fun i hi => by rw [Nat.zero_add]; exact hp i hi⟩)
  have e0 := Got.mv _ s₁ s _ _ hh0.symm (Vm.Alike.refl _) rfl E3
  obtain rfl := e0.1
  have c4 : Steps p.tables e below (s₁.setTop (entryFrame m #[.ref a, .ref b] 2)) (T3.setTop (mkF m 9 #[.val (.ref a), .val (.ref b)] [])) := g3
  exact ⟨T3, none, _, _, _, X3, by simp, rfl, by omega, (fun _ => rfl), e0, fun fs hl => c4.trans (X3.returnOut hexec hret (hb hbytes d9) hl)⟩
theorem pays {l : Launch} {R : Room} {p : Program} {e : Env} {below : List Frame} {s : State} {sargs : Array Value} {len W : Nat} (a : Addr) (D : Cell) (fV fC : Field) (b : Addr) (A : Cell) (z : Int32) (htab : tab.before sargs s = true) (hfr : 4 ≤ R.frames) (hlo : W + 65 ≤ R.locals) :
    Back l R p e below s sargs yN len W (fun A₁ a₁ => A₁.cells + 1 ≤ R.cells ∧ A₁.slots + A.slots.size ≤ R.slots ∧ P a D fV fC b A z a₁ A₁.U) (fun A₁ _ v₁ B₁ => E a D fV fC A v₁ A₁.U B₁.U ∧ B₁.locs = A₁.locs ++ [⟨a, fC.slot⟩, ⟨a, fV.slot⟩] ∧ B₁.cells = A₁.cells + 1 ∧ B₁.slots = A₁.slots + A.slots.size) :=
  (law l a D fV fC b A z).pays htab hfr (by omega)
end New1
end StrChars
namespace StrChars.Road
open Jvm Sem ClassFile Op Lib Jvm.Stand Jvm.Free Jvm.Free.XT
open Jvm.Lib.Cold (StaticIs)
abbrev ST : String := "java/lang/String"
/-- every table word that New1's law asks, flat -/
abbrev words : List Jvm.Cond := [.code New1.yN New1.yB 2 none, .initialized ST, .methodLink ST 27 New4.yN, .instanceMethod New4.yN,
  .code New4.yN New4.yB 6 none, .fieldLink ST 38 ST "COMPACT_STRINGS" "Z", .laysFinal ST ST "value" "[B", .fieldLink ST 9 ST "value" "[B", .laysFinal ST ST "coder" "B", .fieldLink ST 15 ST "coder" "B",
  .methodLink ST 1 Lib.objectInit, .instanceMethod Lib.objectInit, .code Lib.objectInit ⟨#[0xb1]⟩ 1 none, .methodLink ST 177 Cmp3.yN, .static Cmp3.yN, .methodLink ST 47 CodL.yN, .static CodL.yN,
  .code Cmp3.yN Cmp3.yB 6 (some (.array .byte)), .initialized U16, .arrayClass .byte, .methodLink U16 115 Cmp5.yN, .static Cmp5.yN, .code Cmp5.yN Cmp5.yB 7 (some .int), .code CodL.yN CodL.yB 2 (some .byte)]
theorem tab_of {a : Array Value} {s : State} (h : ∀ w ∈ words, w.before a s = true) : New1.tab.before a s = true := by
  have h5 : Cmp5.tab.before a s = true := unparts (wk h (.code Cmp5.yN Cmp5.yB 7 (some .int))) (wks h (.initialized Cmp5.yN.cls :: Cmp5.site))
  have hc : CodL.tab.before a s = true := unparts (wk h (.code CodL.yN CodL.yB 2 (some .byte))) (wks h (.initialized CodL.yN.cls :: CodL.site))
  have q5 : ∀ w ∈ Cmp5.tab :: words, w.before a s = true := fun w hw => (List.mem_cons.mp hw).elim (fun e => e ▸ h5) (h w)
  have h3 : Cmp3.tab.before a s = true := unparts (wk q5 (.code Cmp3.yN Cmp3.yB 6 (some (.array .byte)))) (wks q5 (.initialized Cmp3.yN.cls :: Cmp3.site))
  have q3 : ∀ w ∈ Cmp3.tab :: CodL.tab :: words, w.before a s = true := fun w hw => (List.mem_cons.mp hw).elim (fun e => e ▸ h3) fun hw => (List.mem_cons.mp hw).elim (fun e => e ▸ hc) (h w)
  have h4 : New4.tab.before a s = true := unparts (wk q3 (.code New4.yN New4.yB 6 none)) (wks q3 (.initialized New4.yN.cls :: New4.site))
  have q4 : ∀ w ∈ New4.tab :: words, w.before a s = true := fun w hw => (List.mem_cons.mp hw).elim (fun e => e ▸ h4) (h w)
  exact unparts (wk q4 (.code New1.yN New1.yB 2 none)) (wks q4 (.initialized New1.yN.cls :: New1.site))
/-- the words ride from the start Z to the walk's own state -/
theorem moved {Z s : State} {a0 args : Array Value} (hZ : Z.Warmed39 s.vm) (hw : ∀ d ∈ words, d.before a0 Z = true) : ∀ d ∈ words, d.before args s = true := fun d hd => by
  have q := hw d hd
  have t : ∀ d ∈ words, d = .arrayClass .byte ∨ (d.onTables && d.keepsFace) = true := by decide +kernel
  rcases t d hd with rfl | t
  · exact RoadKit.mvA hZ q
  · exact RoadKit.mv hZ q t
/-- WHAT COMES BACK, over the tables of the start Z: h the heap at the call, h' behind it -/
def Q (Z : State) (x : Addr) (A : Cell) (h : Heap) (v : Option Value) (h' : Heap) (L : List Loc) : Prop := v = none ∧ (∀ y ∈ L, y.base = x) ∧ RoadKit.Keep h h' [x] ∧ h'.size = h.size + 1 ∧ RoadKit.Exa Z h' x ST ∧ RoadKit.Fld Z h' x ST "value" "[B" (.ref h.size) ∧ RoadKit.Fld Z h' x ST "coder" "B" (.int 0) ∧
  (∃ V : Cell, RoadKit.Arr Z h' h.size V .byte ∧ V.vm = .none ∧ Z.vm.findClass "[B" = some V.cls ∧ V.slots.size = A.slots.size ∧ ∀ j, j < A.slots.size → V.slots[j]? = some (.int (lo8 (cv A j)))) ∧
  ∀ (O n d : String) (w : Value), RoadKit.Fld Z h x O n d w → RoadKit.slotOf Z O n d ≠ RoadKit.slotOf Z ST "value" "[B" → RoadKit.slotOf Z O n d ≠ RoadKit.slotOf Z ST "coder" "B" → RoadKit.Fld Z h' x O n d w
/-- **new String(chars) AT A CALL, IN THE ROAD'S FORM**: for specialBack behind newO: x the fresh String, b the char[] with the cell A -/
theorem back {p : Program} {l : Launch} {e : Env} {R : Room} {s : State} {args : Array Value} {below : List Frame} {len W : Nat} {Z : State} {a0 : Array Value} {h : Heap} (hZ : Z.Warmed39 s.vm) (hw : ∀ d ∈ words, d.before a0 Z = true) {kI : Nat} (wi : (Jvm.Cond.instantiable ST kI).before a0 Z = true)
    {x b : Addr} {A : Cell} {z : Int32} {v0 c0 : Value} (E : RoadKit.Exa Z h x ST) (V : RoadKit.Fld Z h x ST "value" "[B" v0) (C : RoadKit.Fld Z h x ST "coder" "B" c0) (K : RoadKit.Arr Z h b A .char) (hty : Typed .char A) (S : RoadKit.Sta Z h ST "COMPACT_STRINGS" "Z" (.int z)) (hz : ¬ z = 0)
    (l0 : 0 < A.slots.size) (l2 : A.slots.size ≤ 536870912) (hp : ∀ i, i < A.slots.size → ¬ 255 < cv A i) (hfr : 4 ≤ R.frames) (hlo : W + 65 ≤ R.locals) :
    Back l R p e below s args New1.yN len W (fun P a => a = #[.ref x, .ref b] ∧ P.U.heap = h ∧ P.cells + 1 ≤ R.cells ∧ P.slots + A.slots.size ≤ R.slots)
      (fun P _ v B => ∃ L, Q Z x A h v B.U.heap L ∧ B.locs = P.locs ++ L ∧ B.cells = P.cells + 1 ∧ B.slots = P.slots + A.slots.size) := by
  intro m meth c P g ig mk a X hg hsize hdg hW hn hp'
  obtain ⟨rfl, rfl, r1, r2⟩ := hp'
  have al : Z.vm.Alike P.U.vm := hZ.alike.trans X.warmed.alike
  obtain ⟨D, cfV, kV, iV, fV, hD, gV, stV, knV, obV, asV, slV⟩ := id V
  obtain ⟨D', cfC, kC, iC, fC, hD', gC, stC, -, -, asC, slC⟩ := id C
  cases hD.symm.trans hD'
  obtain ⟨D2, kD, e1, e2, e3, e4, e5⟩ := id E
  cases hD.symm.trans e1
  obtain ⟨c2, k2, i1, i2, i3, -⟩ := Cond.instantiable_spec wi
  cases e2.symm.trans i1
  cases e3.symm.trans i2
  obtain ⟨kU, u1, u2⟩ := al.2.2 _ _ e3
  have hB : Blank ST x D P.U := ⟨hD, ⟨knV, fun q hq => by rw [hq] at obV; cases obV⟩, by rw [al.findClass]; exact e2, kU, u1, by rw [u2]; exact i3, by rw [u2]; exact e5 i3⟩
  have F1 : Found ST "value" "[B" fV P.U := ⟨SBG.found_only al ⟨cfV, kV, iV, gV⟩, stV⟩
  have F2 : Found ST "coder" "B" fC P.U := ⟨SBG.found_only al ⟨cfC, kC, iC, gC⟩, stC⟩
  have hA : Ch b A P.U := ⟨⟨K.1, State.isArrayOf_alike al K.2.1, K.2.2, by omega⟩, hty⟩
  have hS : StaticIs P.U ST "COMPACT_STRINGS" "Z" (.int z) := by
    obtain ⟨cfS, iS, kS, fS, st, cS, t1, t2, t3, t4, t5, t6, t7⟩ := S
    exact StaticIs.there (s := { Z with heap := P.U.heap }) ⟨cfS, iS, kS, fS, st, cS, t1, t2, t3, t4, t5, (fun q => by rw [q] at t6; cases t6), t7⟩ al rfl
  obtain ⟨v, B, X', ⟨⟨hv, E', V', q1, q2, q3, q4, q5, q6, q7, q8, q9, q10, q11⟩, hl, hc, hs⟩, st⟩ := New1.pays x D fV fC b A z (tab_of (moved hZ hw)) hfr hlo m meth c P g ig mk _ X hg hsize hdg hW hn ⟨r1, r2, rfl, hB, F1, F2, hA, hS, hz, l0, l2, hp⟩
  have al' : Z.vm.Alike B.U.vm := hZ.alike.trans X'.warmed.alike
  have hsz : E'.slots.size = D.slots.size := by
    obtain ⟨-, -, -, kB, w1, w2, w3⟩ := q1
    obtain ⟨kB', y1, y2⟩ := al'.2.2 _ _ e3
    rw [q2.2.1] at w1
    cases w1.symm.trans y1
    rw [w3, e5 i3, y2]
  refine ⟨v, B, X', ⟨_, ⟨hv, ?_, ⟨by omega, fun y cy hy hn' => q10 y cy (by simpa using hn') hy, fun y cy hy => ?_⟩, q11, ⟨E', _, q1.1, by rw [q2.2.1]; exact e2, by rw [q2.2.1]; exact e3, by rw [q2.1]; exact obV, fun _ => by rw [hsz]; exact e5 i3⟩,
    ⟨E', cfV, kV, iV, fV, q1.1, gV, stV, by rw [q2.1]; exact knV, by rw [q2.1]; exact obV, by rw [q2.2.1]; exact asV, q3⟩, ⟨E', cfC, kC, iC, fC, q1.1, gC, stC, by rw [q2.1]; exact knV, by rw [q2.1]; exact obV, by rw [q2.2.1]; exact asC, q4⟩,
    ⟨V', ⟨q5.1, State.isArrayOf_alike al'.symm q5.2.1, q5.2.2.1⟩, q6, by rw [← al'.findClass]; exact q7, q8, fun j hj => by have := q9 j hj; rwa [Nat.zero_add] at this⟩, fun O n d w F n1 n2 => ?_⟩, hl, hc, hs⟩, st⟩
  · intro y hy
    simp only [List.mem_cons, List.not_mem_nil, or_false] at hy
    rcases hy with rfl | rfl <;> rfl
  · by_cases q : y = x
    · subst q
      cases hD.symm.trans hy
      exact ⟨E', q1.1, q2.2.1, q2.1, hsz⟩
    · exact ⟨cy, q10 y cy q hy, rfl, rfl, rfl⟩
  · obtain ⟨D3, cf, k, i, f, g1, g2, g3, g4, g5, g6, g7⟩ := F
    cases hD.symm.trans g1
    simp only [RoadKit.slotOf, g2, gV, gC, Option.map_some, Option.getD_some] at n1 n2
    exact ⟨E', cf, k, i, f, q1.1, g2, g3, by rw [q2.1]; exact g4, by rw [q2.1]; exact g5, by rw [q2.2.1]; exact g6, by rw [q2.2.2 f.slot (by simp [n1, n2])]; exact g7⟩
end StrChars.Road
namespace StrChars.Road
open Jvm Sem ClassFile Op Lib Jvm.Stand Jvm.Free Jvm.Free.XT
/-- WHAT COMES BACK, the byte[] as a list of values -/
def QA (Z : State) (x : Addr) (zn : Int32) (cs : List Int32) (h : Heap) (v : Option Value) (h' : Heap) (L : List Loc) : Prop := v = none ∧ (∀ y ∈ L, y.base = x) ∧ RoadKit.Keep h h' [x] ∧ h'.size = h.size + 1 ∧ RoadKit.Exa Z h' x ST ∧ RoadKit.Fld Z h' x ST "value" "[B" (.ref h.size) ∧ RoadKit.Fld Z h' x ST "coder" "B" (.int 0) ∧
  (∃ kb, Z.vm.findClass "[B" = some kb ∧ RoadKit.Arv Z h' h.size kb .byte zn (cs.map fun c => .int (lo8 c)) (.int 0)) ∧
  ∀ (O n d : String) (w : Value), RoadKit.Fld Z h x O n d w → RoadKit.slotOf Z O n d ≠ RoadKit.slotOf Z ST "value" "[B" → RoadKit.slotOf Z O n d ≠ RoadKit.slotOf Z ST "coder" "B" → RoadKit.Fld Z h' x O n d w
/-- **new String(chars) AT A CALL, THE ARRAYS AS LISTS**: the char[] at b holds cs, not empty, no char above 255 -/
theorem backArv {p : Program} {l : Launch} {e : Env} {R : Room} {s : State} {args : Array Value} {below : List Frame} {len W : Nat} {Z : State} {a0 : Array Value} {h : Heap} (hZ : Z.Warmed39 s.vm) (hw : ∀ d ∈ words, d.before a0 Z = true) {kI : Nat} (wi : (Jvm.Cond.instantiable ST kI).before a0 Z = true)
    {x b : Addr} {k : ClassId} {zn z : Int32} {cs : List Int32} {dv v0 c0 : Value} (E : RoadKit.Exa Z h x ST) (V : RoadKit.Fld Z h x ST "value" "[B" v0) (C : RoadKit.Fld Z h x ST "coder" "B" c0) (K : RoadKit.Arv Z h b k .char zn (cs.map Value.int) dv) (S : RoadKit.Sta Z h ST "COMPACT_STRINGS" "Z" (.int z)) (hz : ¬ z = 0)
    (hlen : zn.toNatClampNeg = cs.length) (h0 : 0 < cs.length) (hbig : cs.length ≤ 536870912) (hall : ∀ c ∈ cs, ¬ 255 < c) (hfr : 4 ≤ R.frames) (hlo : W + 65 ≤ R.locals) :
    Back l R p e below s args New1.yN len W (fun P a => a = #[.ref x, .ref b] ∧ P.U.heap = h ∧ P.cells + 1 ≤ R.cells ∧ P.slots + cs.length ≤ R.slots)
      (fun P _ v B => ∃ L, QA Z x zn cs h v B.U.heap L ∧ B.locs = P.locs ++ L ∧ B.cells = P.cells + 1 ∧ B.slots = P.slots + cs.length) := by
  obtain ⟨A, K1, K2, K3, K4, K5, K6⟩ := K
  have e : A.slots.size = cs.length := K3.trans hlen
  have hat : ∀ (i : Nat) (hi : i < cs.length), A.slots[i]? = some (.int cs[i]) := fun i hi => by rw [K5 i (by omega)]; simp [List.getD_eq_getElem?_getD, hi]
  have hcv : ∀ (i : Nat) (hi : i < cs.length), cv A i = cs[i] := fun i hi => by unfold cv; rw [hat i hi]
  have hty : Typed .char A := fun i v hv => by
    have hi : i < A.slots.size := (Array.getElem?_eq_some_iff.mp hv).1
    have q := K5 i hi
    rw [hv] at q
    rw [Option.some.inj q]
    exact K6 i hi
  refine Back.mono (back hZ hw wi E V C K1 hty S hz (by omega) (by omega) (fun i hi => by rw [hcv i (by omega)]; exact hall _ (List.getElem_mem _)) hfr hlo) (fun P a hp => ⟨hp.1, hp.2.1, hp.2.2.1, by rw [e]; exact hp.2.2.2⟩) (fun P a v B hp hq => ?_)
  obtain ⟨L, ⟨q1, q2, q3, q4, q5, q6, q7, ⟨V', v1, v2, v3, v4, v5⟩, q9⟩, hl, hc, hs⟩ := hq
  refine ⟨L, ⟨q1, q2, q3, q4, q5, q6, q7, ⟨V'.cls, v3, V', v1, rfl, by rw [v4, e, hlen], K4, fun i hi => ?_, fun i hi => ?_⟩, q9⟩, hl, hc, by rw [hs, e]⟩
  · have hi' : i < cs.length := by omega
    rw [v5 i (by omega), hcv i hi']; simp [List.getD_eq_getElem?_getD, hi']
  · have hi' : i < cs.length := by omega
    simp only [List.getD_eq_getElem?_getD, List.getElem?_map, List.getElem?_eq_getElem hi', Option.map_some, Option.getD_some]
    exact fits_lo8 _
end StrChars.Road
namespace StrChars.Road
open Jvm Sem ClassFile Op Lib Jvm.Stand Jvm.Free Jvm.Free.XT
/-- WHAT COMES BACK, in the writer's own shape -/
def QV (Z : State) (x : Addr) (N : Int32) (bs : List Int32) (h : Heap) (n0 : Nat) (v : Option Value) (h' : Heap) (L : List Loc) : Prop := v = none ∧ RoadKit.Fr n0 L ∧ RoadKit.Keep h h' [x] ∧ RoadKit.Exa Z h' x ST ∧ RoadKit.Fld Z h' x ST "coder" "B" (.int 0) ∧
  ∃ (t : Addr) (kb : ClassId), n0 ≤ t ∧ h.size ≤ t ∧ ¬ t = x ∧ RoadKit.Fld Z h' x ST "value" "[B" (.ref t) ∧ RoadKit.Arv Z h' t kb .byte N (bs.map Value.int) (.int 0)
/-- **new String(chars) AT A CALL, FOR THE WRITER**: a char[] of n known ints, each 0 to 255 -/
theorem backV {p : Program} {l : Launch} {e : Env} {R : Room} {s : State} {args : Array Value} {below : List Frame} {len W : Nat} {Z : State} {a0 : Array Value} {h : Heap} (hZ : Z.Warmed39 s.vm) (hw : ∀ d ∈ words, d.before a0 Z = true) {kI : Nat} (wi : (Jvm.Cond.instantiable ST kI).before a0 Z = true)
    {x b : Addr} {kC : ClassId} {cs bs : List Int32} {d v0 c0 : Value} {z N : Int32} {n n0 : Nat} (hx0 : n0 ≤ x) (hh0 : n0 ≤ h.size) (E : RoadKit.Exa Z h x ST) (V : RoadKit.Fld Z h x ST "value" "[B" v0) (C : RoadKit.Fld Z h x ST "coder" "B" c0) (K : RoadKit.Arv Z h b kC .char N (cs.map Value.int) d) (S : RoadKit.Sta Z h ST "COMPACT_STRINGS" "Z" (.int z)) (hz : ¬ z = 0)
    (hn : cs.length = n) (hN : N = Int32.ofNat n) (l0 : 0 < n) (l2 : n ≤ 4000) (hp : ∀ c ∈ cs, ¬ c < 0 ∧ ¬ (255 : Int32) < c) (hb : bs = cs.map (fun c => c.toInt8.toInt32)) (hfr : 4 ≤ R.frames) (hlo : W + 65 ≤ R.locals) :
    Back l R p e below s args (⟨"java/lang/String", "<init>", "([C)V"⟩ : MethodName) len W (fun P a => a = #[.ref x, .ref b] ∧ P.U.heap = h ∧ P.cells + 1 ≤ R.cells ∧ P.slots + n ≤ R.slots)
      (fun P _ v B => ∃ L, QV Z x N bs h n0 v B.U.heap L ∧ B.locs = P.locs ++ L ∧ B.cells = P.cells + 1 ∧ B.slots = P.slots + n) := by
  subst hn hN hb
  refine Back.mono (backArv hZ hw wi E V C K S hz (n32 (by omega)) l0 (by omega) (fun c hc => (hp c hc).2) hfr hlo) (fun P a hp => hp) (fun P a v B hp hq => ?_)
  obtain ⟨L, ⟨q1, q2, q3, q4, q5, q6, q7, ⟨kb, v1, v2⟩, q9⟩, hl, hc, hs⟩ := hq
  exact ⟨L, ⟨q1, fun y hy => by rw [q2 y hy]; exact hx0, q3, q5, q7, h.size, kb, hh0, Nat.le_refl _, Nat.ne_of_gt E.lt, q6, by rw [List.map_map]; exact v2⟩, hl, hc, hs⟩
end StrChars.Road
end Jvm.Pilot.@@N@@

namespace Jvm.Pilot.@@N@@
open Jvm Jvm.ClassFile Sem Op Lib Jvm.Free Jvm.Stand Jvm.LawKit Jvm.RoadKit Bundle Jvm.Pilot.@@N@@.Jvm.D
/-- from the state U the run comes to the method's end, where Q holds of what it returns, of the heap and of the places written -/
def Dn (p : Program) (e : Env) (below : List Frame) (s : State) (k n : Nat) (Q : Option Value → Heap → List Loc → Prop) (U : State) : Prop :=
  ∃ t o, Steps p.tables e below U t ∧ t.status = .running ∧ Ended t below o ∧ ∃ v L, o = .returned v ∧ Q v t.heap L ∧ FrameEnd s o t L k n
theorem Dn.by {p : Program} {e : Env} {below : List Frame} {s : State} {k n : Nat} {Q : Option Value → Heap → List Loc → Prop} {U U' : State} (st : ∀ t, Steps p.tables e below U' t → Steps p.tables e below U t) (h : Dn p e below s k n Q U') : Dn p e below s k n Q U := by
  obtain ⟨t, o, h1, h2⟩ := h
  exact ⟨t, o, st t h1, h2⟩
theorem Dn.out {p : Program} {l : Launch} {e : Env} {R : Room} {s : State} {m : MethodId} {args : Array Value} {below : List Frame} {meth : Method} {c : Code} {T : State} {locs : List Loc} {cells slots k n : Nat} {Q : Option Value → Heap → List Loc → Prop} {U : State} (X : Stand p l e R s m args below meth c T locs cells slots) {v : Option Value} (hv : meth.sig.returnType = none → v = none) (hlk : meth.locks = false)
    (st : ∀ fs, (∀ (f : JFrame) (acts : List Action), f.method = m → f.locked = none → f.entered = [] → (doReturn e (T.setTop f) acts v).1 = T.setFrames fs) → Steps p.tables e below U (T.setFrames fs)) (hk : cells ≤ k) (hn : slots ≤ n) (hQ : Q v T.heap locs) : Dn p e below s k n Q U := by
  obtain ⟨fs, hr, hrun, hended, hW, hsame⟩ := X.leave (v := v) hv hlk
  exact ⟨_, _, st fs hr, hrun, hended, v, locs, rfl, hQ, ⟨_, rfl⟩, hW, hsame.mono hk hn⟩
theorem pn0 : plainName "com/example/ferrywire/ferrywire/agent/AgentEventOfMessagePinLaw" = true := by first | (simp [plainName, overriddenIn]; done) | decide +kernel
theorem pn1 : plainName "com/example/ferrywire/ferrywire/agent/AgentEvent" = true := by first | (simp [plainName, overriddenIn]; done) | decide +kernel
theorem pn2 : plainName "java/lang/String" = true := by first | (simp [plainName, overriddenIn]; done) | decide +kernel
theorem pn3 : plainName "java/util/OptionalLong" = true := by first | (simp [plainName, overriddenIn]; done) | decide +kernel
theorem pn4 : plainName "java/util/Optional" = true := by first | (simp [plainName, overriddenIn]; done) | decide +kernel
theorem pd0 : parseMethodDescriptor "(JLcom/example/ferrywire/ferrywire/agent/AgentEvent$Kind;Ljava/lang/String;JLjava/lang/String;)V" = some ⟨[.long, (.object "com/example/ferrywire/ferrywire/agent/AgentEvent$Kind"), (.object "java/lang/String"), .long, (.object "java/lang/String")], none⟩ := by decide +kernel
theorem pd1 : parseMethodDescriptor "(J)V" = some ⟨[.long], none⟩ := by decide +kernel
theorem pd2 : parseMethodDescriptor "()Ljava/util/OptionalLong;" = some ⟨[], some (.object "java/util/OptionalLong")⟩ := by decide +kernel
theorem pd3 : parseMethodDescriptor "(J)Ljava/util/OptionalLong;" = some ⟨[.long], some (.object "java/util/OptionalLong")⟩ := by decide +kernel
theorem pd4 : parseMethodDescriptor "(Ljava/lang/Object;)V" = some ⟨[(.object "java/lang/Object")], none⟩ := by decide +kernel
theorem pd5 : parseMethodDescriptor "(Ljava/lang/Object;)Ljava/util/Optional;" = some ⟨[(.object "java/lang/Object")], some (.object "java/util/Optional")⟩ := by decide +kernel
theorem pd6 : parseMethodDescriptor "(I)Lcom/example/ferrywire/ferrywire/agent/AgentEvent$Kind;" = some ⟨[.int], some (.object "com/example/ferrywire/ferrywire/agent/AgentEvent$Kind")⟩ := by decide +kernel
theorem pd7 : parseMethodDescriptor "([C)V" = some ⟨[(.array .char)], none⟩ := by decide +kernel
theorem pd8 : parseMethodDescriptor "(Lcom/example/ferrywire/ferrywire/agent/AgentEvent$Kind;Ljava/lang/String;JLjava/lang/String;)Lcom/example/ferrywire/ferrywire/agent/AgentEvent;" = some ⟨[(.object "com/example/ferrywire/ferrywire/agent/AgentEvent$Kind"), (.object "java/lang/String"), .long, (.object "java/lang/String")], some (.object "com/example/ferrywire/ferrywire/agent/AgentEvent")⟩ := by decide +kernel
theorem pd9 : parseMethodDescriptor "()Lcom/example/ferrywire/ferrywire/agent/AgentEvent$Kind;" = some ⟨[], some (.object "com/example/ferrywire/ferrywire/agent/AgentEvent$Kind")⟩ := by decide +kernel
theorem pd10 : parseMethodDescriptor "()Ljava/lang/String;" = some ⟨[], some (.object "java/lang/String")⟩ := by decide +kernel
theorem pd11 : parseMethodDescriptor "(Ljava/lang/Object;)Z" = some ⟨[(.object "java/lang/Object")], some .boolean⟩ := by decide +kernel
theorem pd12 : parseMethodDescriptor "()J" = some ⟨[], some .long⟩ := by decide +kernel
theorem pd13 : parseMethodDescriptor "()Z" = some ⟨[], some .boolean⟩ := by decide +kernel
theorem pd14 : parseMethodDescriptor "()Ljava/util/Optional;" = some ⟨[], some (.object "java/util/Optional")⟩ := by decide +kernel
theorem pd15 : parseMethodDescriptor "()Ljava/lang/Object;" = some ⟨[], some (.object "java/lang/Object")⟩ := by decide +kernel
theorem d1_0 : decode method_2_code 0 = .ok (.iload_n 0, 1) := by decide +kernel
theorem d1_1 : decode method_2_code 1 = .ok (.ldc 7, 2) := by decide +kernel
theorem d1_3 : decode method_2_code 3 = .ok (.iand, 1) := by decide +kernel
theorem d1_4 : decode method_2_code 4 = .ok (.bipush 7, 2) := by decide +kernel
theorem d1_6 : decode method_2_code 6 = .ok (.irem, 1) := by decide +kernel
theorem d1_7 : decode method_2_code 7 = .ok (.istore_n 1, 1) := by decide +kernel
theorem d1_8 : decode method_2_code 8 = .ok (.iload_n 1, 1) := by decide +kernel
theorem d1_9 : decode method_2_code 9 = .ok (.ifCond .ne 7, 3) := by decide +kernel
theorem d1_12 : decode method_2_code 12 = .ok (.getstatic 8, 3) := by decide +kernel
theorem d1_15 : decode method_2_code 15 = .ok (.areturn, 1) := by decide +kernel
theorem d1_16 : decode method_2_code 16 = .ok (.iload_n 1, 1) := by decide +kernel
theorem d1_17 : decode method_2_code 17 = .ok (.iconst 1, 1) := by decide +kernel
theorem d1_18 : decode method_2_code 18 = .ok (.if_icmp .ne 7, 3) := by decide +kernel
theorem d1_21 : decode method_2_code 21 = .ok (.getstatic 14, 3) := by decide +kernel
theorem d1_24 : decode method_2_code 24 = .ok (.areturn, 1) := by decide +kernel
theorem d1_25 : decode method_2_code 25 = .ok (.iload_n 1, 1) := by decide +kernel
theorem d1_26 : decode method_2_code 26 = .ok (.iconst 2, 1) := by decide +kernel
theorem d1_27 : decode method_2_code 27 = .ok (.if_icmp .ne 7, 3) := by decide +kernel
theorem d1_30 : decode method_2_code 30 = .ok (.getstatic 17, 3) := by decide +kernel
theorem d1_33 : decode method_2_code 33 = .ok (.areturn, 1) := by decide +kernel
theorem d1_34 : decode method_2_code 34 = .ok (.iload_n 1, 1) := by decide +kernel
theorem d1_35 : decode method_2_code 35 = .ok (.iconst 3, 1) := by decide +kernel
theorem d1_36 : decode method_2_code 36 = .ok (.if_icmp .ne 7, 3) := by decide +kernel
theorem d1_39 : decode method_2_code 39 = .ok (.getstatic 20, 3) := by decide +kernel
theorem d1_42 : decode method_2_code 42 = .ok (.areturn, 1) := by decide +kernel
theorem d1_43 : decode method_2_code 43 = .ok (.iload_n 1, 1) := by decide +kernel
theorem d1_44 : decode method_2_code 44 = .ok (.iconst 4, 1) := by decide +kernel
theorem d1_45 : decode method_2_code 45 = .ok (.if_icmp .ne 7, 3) := by decide +kernel
theorem d1_48 : decode method_2_code 48 = .ok (.getstatic 23, 3) := by decide +kernel
theorem d1_51 : decode method_2_code 51 = .ok (.areturn, 1) := by decide +kernel
theorem d1_52 : decode method_2_code 52 = .ok (.iload_n 1, 1) := by decide +kernel
theorem d1_53 : decode method_2_code 53 = .ok (.iconst 5, 1) := by decide +kernel
theorem d1_54 : decode method_2_code 54 = .ok (.if_icmp .ne 7, 3) := by decide +kernel
theorem d1_57 : decode method_2_code 57 = .ok (.getstatic 26, 3) := by decide +kernel
theorem d1_60 : decode method_2_code 60 = .ok (.areturn, 1) := by decide +kernel
theorem d1_61 : decode method_2_code 61 = .ok (.getstatic 29, 3) := by decide +kernel
theorem d1_64 : decode method_2_code 64 = .ok (.areturn, 1) := by decide +kernel
theorem d8_0 : decode prog_1_method_3_code 0 = .ok (.new 8, 3) := by decide +kernel
theorem d8_3 : decode prog_1_method_3_code 3 = .ok (.dup, 1) := by decide +kernel
theorem d8_4 : decode prog_1_method_3_code 4 = .ok (.lconst 0, 1) := by decide +kernel
theorem d8_5 : decode prog_1_method_3_code 5 = .ok (.aload_n 0, 1) := by decide +kernel
theorem d8_6 : decode prog_1_method_3_code 6 = .ok (.aload_n 1, 1) := by decide +kernel
theorem d8_7 : decode prog_1_method_3_code 7 = .ok (.lload_n 2, 1) := by decide +kernel
theorem d8_8 : decode prog_1_method_3_code 8 = .ok (.aload 4, 2) := by decide +kernel
theorem d8_10 : decode prog_1_method_3_code 10 = .ok (.invokespecial 27, 3) := by decide +kernel
theorem d8_13 : decode prog_1_method_3_code 13 = .ok (.areturn, 1) := by decide +kernel
theorem d9_0 : decode prog_1_method_1_code 0 = .ok (.aload_n 0, 1) := by decide +kernel
theorem d9_1 : decode prog_1_method_1_code 1 = .ok (.invokespecial 1, 3) := by decide +kernel
theorem d9_4 : decode prog_1_method_1_code 4 = .ok (.aload_n 0, 1) := by decide +kernel
theorem d9_5 : decode prog_1_method_1_code 5 = .ok (.lload_n 1, 1) := by decide +kernel
theorem d9_6 : decode prog_1_method_1_code 6 = .ok (.putfield 7, 3) := by decide +kernel
theorem d9_9 : decode prog_1_method_1_code 9 = .ok (.aload_n 0, 1) := by decide +kernel
theorem d9_10 : decode prog_1_method_1_code 10 = .ok (.aload_n 3, 1) := by decide +kernel
theorem d9_11 : decode prog_1_method_1_code 11 = .ok (.putfield 13, 3) := by decide +kernel
theorem d9_14 : decode prog_1_method_1_code 14 = .ok (.aload_n 0, 1) := by decide +kernel
theorem d9_15 : decode prog_1_method_1_code 15 = .ok (.aload 4, 2) := by decide +kernel
theorem d9_17 : decode prog_1_method_1_code 17 = .ok (.putfield 17, 3) := by decide +kernel
theorem d9_20 : decode prog_1_method_1_code 20 = .ok (.aload_n 0, 1) := by decide +kernel
theorem d9_21 : decode prog_1_method_1_code 21 = .ok (.lload 5, 2) := by decide +kernel
theorem d9_23 : decode prog_1_method_1_code 23 = .ok (.putfield 21, 3) := by decide +kernel
theorem d9_26 : decode prog_1_method_1_code 26 = .ok (.aload_n 0, 1) := by decide +kernel
theorem d9_27 : decode prog_1_method_1_code 27 = .ok (.aload 7, 2) := by decide +kernel
theorem d9_29 : decode prog_1_method_1_code 29 = .ok (.putfield 24, 3) := by decide +kernel
theorem d9_32 : decode prog_1_method_1_code 32 = .ok (.return_, 1) := by decide +kernel
theorem d10_0 : decode prog_1_method_4_code 0 = .ok (.aload_n 0, 1) := by decide +kernel
theorem d10_1 : decode prog_1_method_4_code 1 = .ok (.getfield 13, 3) := by decide +kernel
theorem d10_4 : decode prog_1_method_4_code 4 = .ok (.areturn, 1) := by decide +kernel
theorem d11_0 : decode prog_1_method_5_code 0 = .ok (.aload_n 0, 1) := by decide +kernel
theorem d11_1 : decode prog_1_method_5_code 1 = .ok (.getfield 17, 3) := by decide +kernel
theorem d11_4 : decode prog_1_method_5_code 4 = .ok (.areturn, 1) := by decide +kernel
theorem d12_0 : decode jdk_42_method_66_code 0 = .ok (.aload_n 0, 1) := by decide +kernel
theorem d12_1 : decode jdk_42_method_66_code 1 = .ok (.aload_n 1, 1) := by decide +kernel
theorem d12_2 : decode jdk_42_method_66_code 2 = .ok (.if_acmp .ne 5, 3) := by decide +kernel
theorem d12_5 : decode jdk_42_method_66_code 5 = .ok (.iconst 1, 1) := by decide +kernel
theorem d12_6 : decode jdk_42_method_66_code 6 = .ok (.ireturn, 1) := by decide +kernel
theorem d13_0 : decode prog_1_method_8_code 0 = .ok (.aload_n 0, 1) := by decide +kernel
theorem d13_1 : decode prog_1_method_8_code 1 = .ok (.getfield 7, 3) := by decide +kernel
theorem d13_4 : decode prog_1_method_8_code 4 = .ok (.lreturn, 1) := by decide +kernel
theorem d14_0 : decode prog_1_method_6_code 0 = .ok (.aload_n 0, 1) := by decide +kernel
theorem d14_1 : decode prog_1_method_6_code 1 = .ok (.getfield 21, 3) := by decide +kernel
theorem d14_4 : decode prog_1_method_6_code 4 = .ok (.lconst 0, 1) := by decide +kernel
theorem d14_5 : decode prog_1_method_6_code 5 = .ok (.lcmp, 1) := by decide +kernel
theorem d14_6 : decode prog_1_method_6_code 6 = .ok (.ifCond .ne 9, 3) := by decide +kernel
theorem d14_9 : decode prog_1_method_6_code 9 = .ok (.invokestatic 30, 3) := by decide +kernel
theorem d14_12 : decode prog_1_method_6_code 12 = .ok (.goto 10, 3) := by decide +kernel
theorem d14_15 : decode prog_1_method_6_code 15 = .ok (.aload_n 0, 1) := by decide +kernel
theorem d14_16 : decode prog_1_method_6_code 16 = .ok (.getfield 21, 3) := by decide +kernel
theorem d14_19 : decode prog_1_method_6_code 19 = .ok (.invokestatic 36, 3) := by decide +kernel
theorem d14_22 : decode prog_1_method_6_code 22 = .ok (.areturn, 1) := by decide +kernel
theorem d15_0 : decode jdk_2650_method_4_code 0 = .ok (.new 8, 3) := by decide +kernel
theorem d15_3 : decode jdk_2650_method_4_code 3 = .ok (.dup, 1) := by decide +kernel
theorem d15_4 : decode jdk_2650_method_4_code 4 = .ok (.lload_n 0, 1) := by decide +kernel
theorem d15_5 : decode jdk_2650_method_4_code 5 = .ok (.invokespecial 21, 3) := by decide +kernel
theorem d15_8 : decode jdk_2650_method_4_code 8 = .ok (.areturn, 1) := by decide +kernel
theorem d16_0 : decode jdk_2650_method_3_code 0 = .ok (.aload_n 0, 1) := by decide +kernel
theorem d16_1 : decode jdk_2650_method_3_code 1 = .ok (.invokespecial 1, 3) := by decide +kernel
theorem d16_4 : decode jdk_2650_method_3_code 4 = .ok (.aload_n 0, 1) := by decide +kernel
theorem d16_5 : decode jdk_2650_method_3_code 5 = .ok (.iconst 1, 1) := by decide +kernel
theorem d16_6 : decode jdk_2650_method_3_code 6 = .ok (.putfield 7, 3) := by decide +kernel
theorem d16_9 : decode jdk_2650_method_3_code 9 = .ok (.aload_n 0, 1) := by decide +kernel
theorem d16_10 : decode jdk_2650_method_3_code 10 = .ok (.lload_n 1, 1) := by decide +kernel
theorem d16_11 : decode jdk_2650_method_3_code 11 = .ok (.putfield 13, 3) := by decide +kernel
theorem d16_14 : decode jdk_2650_method_3_code 14 = .ok (.return_, 1) := by decide +kernel
theorem d17_0 : decode jdk_2650_method_6_code 0 = .ok (.aload_n 0, 1) := by decide +kernel
theorem d17_1 : decode jdk_2650_method_6_code 1 = .ok (.getfield 7, 3) := by decide +kernel
theorem d17_4 : decode jdk_2650_method_6_code 4 = .ok (.ireturn, 1) := by decide +kernel
theorem d18_0 : decode jdk_2650_method_5_code 0 = .ok (.aload_n 0, 1) := by decide +kernel
theorem d18_1 : decode jdk_2650_method_5_code 1 = .ok (.getfield 7, 3) := by decide +kernel
theorem d18_4 : decode jdk_2650_method_5_code 4 = .ok (.ifCond .ne 13, 3) := by decide +kernel
theorem d18_17 : decode jdk_2650_method_5_code 17 = .ok (.aload_n 0, 1) := by decide +kernel
theorem d18_18 : decode jdk_2650_method_5_code 18 = .ok (.getfield 13, 3) := by decide +kernel
theorem d18_21 : decode jdk_2650_method_5_code 21 = .ok (.lreturn, 1) := by decide +kernel
theorem d19_0 : decode prog_1_method_7_code 0 = .ok (.aload_n 0, 1) := by decide +kernel
theorem d19_1 : decode prog_1_method_7_code 1 = .ok (.getfield 24, 3) := by decide +kernel
theorem d19_4 : decode prog_1_method_7_code 4 = .ok (.invokestatic 40, 3) := by decide +kernel
theorem d19_7 : decode prog_1_method_7_code 7 = .ok (.areturn, 1) := by decide +kernel
theorem d20_0 : decode jdk_32_method_4_code 0 = .ok (.aload_n 0, 1) := by decide +kernel
theorem d20_1 : decode jdk_32_method_4_code 1 = .ok (.ifnonnull 9, 3) := by decide +kernel
theorem d20_4 : decode jdk_32_method_4_code 4 = .ok (.getstatic 1, 3) := by decide +kernel
theorem d20_7 : decode jdk_32_method_4_code 7 = .ok (.goto 11, 3) := by decide +kernel
theorem d20_10 : decode jdk_32_method_4_code 10 = .ok (.new 2, 3) := by decide +kernel
theorem d20_13 : decode jdk_32_method_4_code 13 = .ok (.dup, 1) := by decide +kernel
theorem d20_14 : decode jdk_32_method_4_code 14 = .ok (.aload_n 0, 1) := by decide +kernel
theorem d20_15 : decode jdk_32_method_4_code 15 = .ok (.invokespecial 23, 3) := by decide +kernel
theorem d20_18 : decode jdk_32_method_4_code 18 = .ok (.areturn, 1) := by decide +kernel
theorem d21_0 : decode jdk_32_method_2_code 0 = .ok (.aload_n 0, 1) := by decide +kernel
theorem d21_1 : decode jdk_32_method_2_code 1 = .ok (.invokespecial 7, 3) := by decide +kernel
theorem d21_4 : decode jdk_32_method_2_code 4 = .ok (.aload_n 0, 1) := by decide +kernel
theorem d21_5 : decode jdk_32_method_2_code 5 = .ok (.aload_n 1, 1) := by decide +kernel
theorem d21_6 : decode jdk_32_method_2_code 6 = .ok (.putfield 13, 3) := by decide +kernel
theorem d21_9 : decode jdk_32_method_2_code 9 = .ok (.return_, 1) := by decide +kernel
theorem d22_0 : decode jdk_32_method_6_code 0 = .ok (.aload_n 0, 1) := by decide +kernel
theorem d22_1 : decode jdk_32_method_6_code 1 = .ok (.getfield 13, 3) := by decide +kernel
theorem d22_4 : decode jdk_32_method_6_code 4 = .ok (.ifnull 7, 3) := by decide +kernel
theorem d22_7 : decode jdk_32_method_6_code 7 = .ok (.iconst 1, 1) := by decide +kernel
theorem d22_8 : decode jdk_32_method_6_code 8 = .ok (.goto 4, 3) := by decide +kernel
theorem d22_11 : decode jdk_32_method_6_code 11 = .ok (.iconst 0, 1) := by decide +kernel
theorem d22_12 : decode jdk_32_method_6_code 12 = .ok (.ireturn, 1) := by decide +kernel
theorem d23_0 : decode jdk_32_method_5_code 0 = .ok (.aload_n 0, 1) := by decide +kernel
theorem d23_1 : decode jdk_32_method_5_code 1 = .ok (.getfield 13, 3) := by decide +kernel
theorem d23_4 : decode jdk_32_method_5_code 4 = .ok (.ifnonnull 13, 3) := by decide +kernel
theorem d23_17 : decode jdk_32_method_5_code 17 = .ok (.aload_n 0, 1) := by decide +kernel
theorem d23_18 : decode jdk_32_method_5_code 18 = .ok (.getfield 13, 3) := by decide +kernel
theorem d23_21 : decode jdk_32_method_5_code 21 = .ok (.areturn, 1) := by decide +kernel
theorem d24_0 : decode jdk_2650_method_2_code 0 = .ok (.getstatic 17, 3) := by decide +kernel
theorem d24_3 : decode jdk_2650_method_2_code 3 = .ok (.areturn, 1) := by decide +kernel
abbrev bytesOf (cs : List Int32) : List Value := (cs.map (fun c => c.toInt8.toInt32)).map Value.int
def eqT (cs ds : List Int32) : Int32 := if cs = ds then 1 else 0
theorem own_nar (x : Int32) (h : ¬ x < 0 ∧ ¬ (255 : Int32) < x) : nar .char x = x := by
  show x.toUInt32.toUInt16.toUInt32.toInt32 = x
  apply Int32.toInt_inj.mp
  have a := c_i2c x
  have b : ¬ x.toInt < (0 : Int32).toInt := fun q => h.1 (Int32.lt_iff_toInt_lt.mpr q)
  have c : ¬ (255 : Int32).toInt < x.toInt := fun q => h.2 (Int32.lt_iff_toInt_lt.mpr q)
  have l0 : (0 : Int32).toInt = 0 := by decide
  have l1 : (255 : Int32).toInt = 255 := by decide
  omega
theorem own_ch (x : Int32) : ¬ (x &&& (255 : Int32)).toUInt32.toUInt16.toUInt32.toInt32 < 0 ∧ ¬ (255 : Int32) < (x &&& (255 : Int32)).toUInt32.toUInt16.toUInt32.toInt32 := by
  have e := i2c_mask x
  have m := c_mask x (255 : Int32) 8 (by decide) (by decide)
  rw [e]
  have l0 : (0 : Int32).toInt = 0 := by decide
  have l : (255 : Int32).toInt = 255 := by decide
  rw [Int32.lt_iff_toInt_lt, Int32.lt_iff_toInt_lt]
  omega
theorem own_words : ∀ d ∈ StrChars.Road.words, d ∈ tables_1 := by decide +kernel
def pickK (p0 : Int32) (s_CONF : Addr) (s_INFO : Addr) (s_CON : Addr) (s_SENT : Addr) (s_MSG : Addr) (s_RCVD : Addr) (s_ERR : Addr) : Addr := (if ((p0 &&& (2147483647 : Int32)) % (7 : Int32)) = (0 : Int32) then s_CONF else (if ((p0 &&& (2147483647 : Int32)) % (7 : Int32)) = (1 : Int32) then s_INFO else (if ((p0 &&& (2147483647 : Int32)) % (7 : Int32)) = (2 : Int32) then s_CON else (if ((p0 &&& (2147483647 : Int32)) % (7 : Int32)) = (3 : Int32) then s_SENT else (if ((p0 &&& (2147483647 : Int32)) % (7 : Int32)) = (4 : Int32) then s_MSG else (if ((p0 &&& (2147483647 : Int32)) % (7 : Int32)) = (5 : Int32) then s_RCVD else s_ERR))))))
abbrev Rm1 : Room := { frames := 0, cells := 0, slots := 0, locals := 0 }
theorem ef_1 (m : MethodId) (p0 : Int32) : entryFrame m #[(.int p0)] 2 = mkF m 0 #[.val (.int p0), .unset] [] := by first | (simp [entryFrame, mkF, argsToLocals, Value.category]; done) | rfl
def Q1 (Z : State) (p0 : Int32) (s_CONF : Addr) (s_INFO : Addr) (s_CON : Addr) (s_SENT : Addr) (s_MSG : Addr) (s_RCVD : Addr) (s_ERR : Addr) (h0 : Heap) (n0 : Nat) (v : Option Value) (h : Heap) (L : List Loc) : Prop := v = some (.ref (pickK p0 s_CONF s_INFO s_CON s_SENT s_MSG s_RCVD s_ERR)) ∧ Fr n0 L ∧ h = h0
set_option maxRecDepth 65536 in
set_option maxHeartbeats 40000000 in
theorem rm1 (l : Launch) (Z : State) (a0 : Array Value) (hw : ∀ d ∈ tables_1, d.before a0 Z = true) (ws : List Jvm.Cond) (p0 : Int32) (s_CONF : Addr) (s_INFO : Addr) (s_CON : Addr) (s_SENT : Addr) (s_MSG : Addr) (s_RCVD : Addr) (s_ERR : Addr) (h0 : Heap) (n0 : Nat) (Z0 : n0 ≤ h0.size) (S_CONF : Sta Z h0 "com/example/ferrywire/ferrywire/agent/AgentEvent$Kind" "CONF" "Lcom/example/ferrywire/ferrywire/agent/AgentEvent$Kind;" (.ref s_CONF)) (S_INFO : Sta Z h0 "com/example/ferrywire/ferrywire/agent/AgentEvent$Kind" "INFO" "Lcom/example/ferrywire/ferrywire/agent/AgentEvent$Kind;" (.ref s_INFO)) (S_CON : Sta Z h0 "com/example/ferrywire/ferrywire/agent/AgentEvent$Kind" "CON" "Lcom/example/ferrywire/ferrywire/agent/AgentEvent$Kind;" (.ref s_CON)) (S_SENT : Sta Z h0 "com/example/ferrywire/ferrywire/agent/AgentEvent$Kind" "SENT" "Lcom/example/ferrywire/ferrywire/agent/AgentEvent$Kind;" (.ref s_SENT)) (S_MSG : Sta Z h0 "com/example/ferrywire/ferrywire/agent/AgentEvent$Kind" "MSG" "Lcom/example/ferrywire/ferrywire/agent/AgentEvent$Kind;" (.ref s_MSG)) (S_RCVD : Sta Z h0 "com/example/ferrywire/ferrywire/agent/AgentEvent$Kind" "RCVD" "Lcom/example/ferrywire/ferrywire/agent/AgentEvent$Kind;" (.ref s_RCVD)) (S_ERR : Sta Z h0 "com/example/ferrywire/ferrywire/agent/AgentEvent$Kind" "ERR" "Lcom/example/ferrywire/ferrywire/agent/AgentEvent$Kind;" (.ref s_ERR)) :
    MetFree l (⟨"com/example/ferrywire/ferrywire/agent/AgentEventOfMessagePinLaw", "pick", "(I)Lcom/example/ferrywire/ferrywire/agent/AgentEvent$Kind;"⟩ : MethodName) (head1 (Jvm.Cond.code (⟨"com/example/ferrywire/ferrywire/agent/AgentEventOfMessagePinLaw", "pick", "(I)Lcom/example/ferrywire/ferrywire/agent/AgentEvent$Kind;"⟩ : MethodName) method_2_code 2 (some (.object "com/example/ferrywire/ferrywire/agent/AgentEvent$Kind")) :: ws) Rm1) (fun a U => a = #[(.int p0)] ∧ Z.Warmed39 U.vm ∧ U.heap = h0) (fun _ _ _ _ _ => True) (fun _ U o U' => ∃ v L, o = .returned v ∧ Q1 Z p0 s_CONF s_INFO s_CON s_SENT s_MSG s_RCVD s_ERR h0 n0 v U'.heap L ∧ FrameEnd U o U' L Rm1.cells Rm1.slots) := by
  refine MetFree.of_bodySF (plainFor_of_name pn0) hisR ?_
  intro p e s m args below meth c s₁ Bd hml0 hP hK
  obtain ⟨rfl, hZ, hh⟩ := hP
  have hx := Bd.exec
  have hby := Bd.bytes
  have hml : c.maxLocals = 2 := hml0
  have hown : s.vm.findClass "com/example/ferrywire/ferrywire/agent/AgentEventOfMessagePinLaw" = some m.cls := findClass_of_methodNamed Bd.named
  have hnm := (name_of_methodNamed Bd.named Bd.method).1
  have X0 : Stand p l e Rm1 s m #[(.int p0)] below meth c s₁ [] 0 0 := Stand.of_body Bd
  have e0 : s₁.heap = h0 := by rw [← hh, Bd.state]; rfl
  have N0 := Fr.nil n0
  show Dn p e below s Rm1.cells Rm1.slots (Q1 Z p0 s_CONF s_INFO s_CON s_SENT s_MSG s_RCVD s_ERR h0 n0) (s₁.setTop (entryFrame m #[(.int p0)] 2))
  rw [ef_1]
  refine Dn.by (U' := s₁.setTop (mkF m 1 #[.val (.int p0), .unset] [(.int p0)])) (fun _ ks => XS.iloadN X0.here hx rfl (hb hby d1_0) rfl ks) ?_
  refine Dn.by (U' := s₁.setTop (mkF m 3 #[.val (.int p0), .unset] [(.int (2147483647 : Int32)), (.int p0)])) (X0.ldcInt hx hown (mvT hZ (hw _ (List.mem_of_getElem? (i := 4) rfl))) (g := (mkF m 1 #[.val (.int p0), .unset] [(.int p0)])) rfl (hb hby d1_1)) ?_
  refine Dn.by (U' := s₁.setTop (mkF m 4 #[.val (.int p0), .unset] [(.int (p0 &&& (2147483647 : Int32)))])) (fun _ ks => XS.iand X0.here hx rfl (hb hby d1_3) rfl ks) ?_
  refine Dn.by (U' := s₁.setTop (mkF m 6 #[.val (.int p0), .unset] [(.int (7 : Int32)), (.int (p0 &&& (2147483647 : Int32)))])) (fun _ ks => XS.bipush X0.here hx rfl (hb hby d1_4)  ks) ?_
  refine Dn.by (U' := s₁.setTop (mkF m 7 #[.val (.int p0), .unset] [(.int ((p0 &&& (2147483647 : Int32)) % (7 : Int32)))])) (fun _ ks => iremM X0 hx rfl (hb hby d1_6) rfl (by decide) ks) ?_
  refine Dn.by (U' := s₁.setTop (mkF m 8 #[.val (.int p0), .val (.int ((p0 &&& (2147483647 : Int32)) % (7 : Int32)))] [])) (fun _ ks => XS.istoreN X0.here hx rfl (hb hby d1_7) rfl (l' := #[.val (.int p0), .val (.int ((p0 &&& (2147483647 : Int32)) % (7 : Int32)))]) rfl ks) ?_
  refine Dn.by (U' := s₁.setTop (mkF m 9 #[.val (.int p0), .val (.int ((p0 &&& (2147483647 : Int32)) % (7 : Int32)))] [(.int ((p0 &&& (2147483647 : Int32)) % (7 : Int32)))])) (fun _ ks => XS.iloadN X0.here hx rfl (hb hby d1_8) rfl ks) ?_
  by_cases c9_1 : ((p0 &&& (2147483647 : Int32)) % (7 : Int32)) = (0 : Int32)
  ·
    refine Dn.by (U' := s₁.setTop (mkF m 12 #[.val (.int p0), .val (.int ((p0 &&& (2147483647 : Int32)) % (7 : Int32)))] [])) (fun _ ks => XS.ifNo X0.here hx rfl (hb hby d1_9) rfl ((if0 _ _).trans (teq c9_1).2) ks) ?_
    obtain ⟨T2, X2, e2, st2⟩ := getS2 X0 hx hZ (a0 := a0) hown (host := "") (Or.inl (hw _ (List.mem_of_getElem? (i := 5) rfl))) Via.refl e0 S_CONF (g := (mkF m 12 #[.val (.int p0), .val (.int ((p0 &&& (2147483647 : Int32)) % (7 : Int32)))] [])) rfl (hb hby d1_12)
    refine Dn.by (U' := T2.setTop (mkF m 15 #[.val (.int p0), .val (.int ((p0 &&& (2147483647 : Int32)) % (7 : Int32)))] [(.ref s_CONF)])) st2 ?_
    refine Dn.out X2 (v := (some (.ref s_CONF))) (fun h => by rw [Bd.returns] at h; cases h) (BodyLoose.notSynchronized Bd) (fun _ hr => retOut X2 hx Bd.returns rfl (Or.inr (Or.inr (Or.inr (Or.inr ⟨rfl, rfl, rfl⟩)))) (hb hby d1_15) hr) (by decide) (by decide) ?_
    rw [e2]
    exact ⟨by simp only [pickK, if_pos c9_1], N0, rfl⟩
  ·
    refine Dn.by (U' := s₁.setTop (mkF m 16 #[.val (.int p0), .val (.int ((p0 &&& (2147483647 : Int32)) % (7 : Int32)))] [])) (fun _ ks => XS.ifYes X0.here hx rfl (pc0 := 9) (pc' := 16) rfl (hb hby d1_9) rfl ((if0 _ _).trans (feq c9_1).2) (by decide) (by decide) ks) ?_
    refine Dn.by (U' := s₁.setTop (mkF m 17 #[.val (.int p0), .val (.int ((p0 &&& (2147483647 : Int32)) % (7 : Int32)))] [(.int ((p0 &&& (2147483647 : Int32)) % (7 : Int32)))])) (fun _ ks => XS.iloadN X0.here hx rfl (hb hby d1_16) rfl ks) ?_
    refine Dn.by (U' := s₁.setTop (mkF m 18 #[.val (.int p0), .val (.int ((p0 &&& (2147483647 : Int32)) % (7 : Int32)))] [(.int (1 : Int32)), (.int ((p0 &&& (2147483647 : Int32)) % (7 : Int32)))])) (fun _ ks => XS.iconst X0.here hx rfl (hb hby d1_17)  ks) ?_
    by_cases c18_3 : ((p0 &&& (2147483647 : Int32)) % (7 : Int32)) = (1 : Int32)
    ·
      refine Dn.by (U' := s₁.setTop (mkF m 21 #[.val (.int p0), .val (.int ((p0 &&& (2147483647 : Int32)) % (7 : Int32)))] [])) (fun _ ks => XS.icmpNo X0.here hx rfl (hb hby d1_18) rfl (teq c18_3).2 ks) ?_
      obtain ⟨T4, X4, e4, st4⟩ := getS2 X0 hx hZ (a0 := a0) hown (host := "") (Or.inl (hw _ (List.mem_of_getElem? (i := 141) rfl))) Via.refl e0 S_INFO (g := (mkF m 21 #[.val (.int p0), .val (.int ((p0 &&& (2147483647 : Int32)) % (7 : Int32)))] [])) rfl (hb hby d1_21)
      refine Dn.by (U' := T4.setTop (mkF m 24 #[.val (.int p0), .val (.int ((p0 &&& (2147483647 : Int32)) % (7 : Int32)))] [(.ref s_INFO)])) st4 ?_
      refine Dn.out X4 (v := (some (.ref s_INFO))) (fun h => by rw [Bd.returns] at h; cases h) (BodyLoose.notSynchronized Bd) (fun _ hr => retOut X4 hx Bd.returns rfl (Or.inr (Or.inr (Or.inr (Or.inr ⟨rfl, rfl, rfl⟩)))) (hb hby d1_24) hr) (by decide) (by decide) ?_
      rw [e4]
      exact ⟨by simp only [pickK, if_neg c9_1, if_pos c18_3], N0, rfl⟩
    ·
      refine Dn.by (U' := s₁.setTop (mkF m 25 #[.val (.int p0), .val (.int ((p0 &&& (2147483647 : Int32)) % (7 : Int32)))] [])) (fun _ ks => XS.icmpYes X0.here hx rfl (pc0 := 18) (pc' := 25) rfl (hb hby d1_18) rfl (feq c18_3).2 (by decide) (by decide) ks) ?_
      refine Dn.by (U' := s₁.setTop (mkF m 26 #[.val (.int p0), .val (.int ((p0 &&& (2147483647 : Int32)) % (7 : Int32)))] [(.int ((p0 &&& (2147483647 : Int32)) % (7 : Int32)))])) (fun _ ks => XS.iloadN X0.here hx rfl (hb hby d1_25) rfl ks) ?_
      refine Dn.by (U' := s₁.setTop (mkF m 27 #[.val (.int p0), .val (.int ((p0 &&& (2147483647 : Int32)) % (7 : Int32)))] [(.int (2 : Int32)), (.int ((p0 &&& (2147483647 : Int32)) % (7 : Int32)))])) (fun _ ks => XS.iconst X0.here hx rfl (hb hby d1_26)  ks) ?_
      by_cases c27_5 : ((p0 &&& (2147483647 : Int32)) % (7 : Int32)) = (2 : Int32)
      ·
        refine Dn.by (U' := s₁.setTop (mkF m 30 #[.val (.int p0), .val (.int ((p0 &&& (2147483647 : Int32)) % (7 : Int32)))] [])) (fun _ ks => XS.icmpNo X0.here hx rfl (hb hby d1_27) rfl (teq c27_5).2 ks) ?_
        obtain ⟨T6, X6, e6, st6⟩ := getS2 X0 hx hZ (a0 := a0) hown (host := "") (Or.inl (hw _ (List.mem_of_getElem? (i := 139) rfl))) Via.refl e0 S_CON (g := (mkF m 30 #[.val (.int p0), .val (.int ((p0 &&& (2147483647 : Int32)) % (7 : Int32)))] [])) rfl (hb hby d1_30)
        refine Dn.by (U' := T6.setTop (mkF m 33 #[.val (.int p0), .val (.int ((p0 &&& (2147483647 : Int32)) % (7 : Int32)))] [(.ref s_CON)])) st6 ?_
        refine Dn.out X6 (v := (some (.ref s_CON))) (fun h => by rw [Bd.returns] at h; cases h) (BodyLoose.notSynchronized Bd) (fun _ hr => retOut X6 hx Bd.returns rfl (Or.inr (Or.inr (Or.inr (Or.inr ⟨rfl, rfl, rfl⟩)))) (hb hby d1_33) hr) (by decide) (by decide) ?_
        rw [e6]
        exact ⟨by simp only [pickK, if_neg c9_1, if_neg c18_3, if_pos c27_5], N0, rfl⟩
      ·
        refine Dn.by (U' := s₁.setTop (mkF m 34 #[.val (.int p0), .val (.int ((p0 &&& (2147483647 : Int32)) % (7 : Int32)))] [])) (fun _ ks => XS.icmpYes X0.here hx rfl (pc0 := 27) (pc' := 34) rfl (hb hby d1_27) rfl (feq c27_5).2 (by decide) (by decide) ks) ?_
        refine Dn.by (U' := s₁.setTop (mkF m 35 #[.val (.int p0), .val (.int ((p0 &&& (2147483647 : Int32)) % (7 : Int32)))] [(.int ((p0 &&& (2147483647 : Int32)) % (7 : Int32)))])) (fun _ ks => XS.iloadN X0.here hx rfl (hb hby d1_34) rfl ks) ?_
        refine Dn.by (U' := s₁.setTop (mkF m 36 #[.val (.int p0), .val (.int ((p0 &&& (2147483647 : Int32)) % (7 : Int32)))] [(.int (3 : Int32)), (.int ((p0 &&& (2147483647 : Int32)) % (7 : Int32)))])) (fun _ ks => XS.iconst X0.here hx rfl (hb hby d1_35)  ks) ?_
        by_cases c36_7 : ((p0 &&& (2147483647 : Int32)) % (7 : Int32)) = (3 : Int32)
        ·
          refine Dn.by (U' := s₁.setTop (mkF m 39 #[.val (.int p0), .val (.int ((p0 &&& (2147483647 : Int32)) % (7 : Int32)))] [])) (fun _ ks => XS.icmpNo X0.here hx rfl (hb hby d1_36) rfl (teq c36_7).2 ks) ?_
          obtain ⟨T8, X8, e8, st8⟩ := getS2 X0 hx hZ (a0 := a0) hown (host := "") (Or.inl (hw _ (List.mem_of_getElem? (i := 143) rfl))) Via.refl e0 S_SENT (g := (mkF m 39 #[.val (.int p0), .val (.int ((p0 &&& (2147483647 : Int32)) % (7 : Int32)))] [])) rfl (hb hby d1_39)
          refine Dn.by (U' := T8.setTop (mkF m 42 #[.val (.int p0), .val (.int ((p0 &&& (2147483647 : Int32)) % (7 : Int32)))] [(.ref s_SENT)])) st8 ?_
          refine Dn.out X8 (v := (some (.ref s_SENT))) (fun h => by rw [Bd.returns] at h; cases h) (BodyLoose.notSynchronized Bd) (fun _ hr => retOut X8 hx Bd.returns rfl (Or.inr (Or.inr (Or.inr (Or.inr ⟨rfl, rfl, rfl⟩)))) (hb hby d1_42) hr) (by decide) (by decide) ?_
          rw [e8]
          exact ⟨by simp only [pickK, if_neg c9_1, if_neg c18_3, if_neg c27_5, if_pos c36_7], N0, rfl⟩
        ·
          refine Dn.by (U' := s₁.setTop (mkF m 43 #[.val (.int p0), .val (.int ((p0 &&& (2147483647 : Int32)) % (7 : Int32)))] [])) (fun _ ks => XS.icmpYes X0.here hx rfl (pc0 := 36) (pc' := 43) rfl (hb hby d1_36) rfl (feq c36_7).2 (by decide) (by decide) ks) ?_
          refine Dn.by (U' := s₁.setTop (mkF m 44 #[.val (.int p0), .val (.int ((p0 &&& (2147483647 : Int32)) % (7 : Int32)))] [(.int ((p0 &&& (2147483647 : Int32)) % (7 : Int32)))])) (fun _ ks => XS.iloadN X0.here hx rfl (hb hby d1_43) rfl ks) ?_
          refine Dn.by (U' := s₁.setTop (mkF m 45 #[.val (.int p0), .val (.int ((p0 &&& (2147483647 : Int32)) % (7 : Int32)))] [(.int (4 : Int32)), (.int ((p0 &&& (2147483647 : Int32)) % (7 : Int32)))])) (fun _ ks => XS.iconst X0.here hx rfl (hb hby d1_44)  ks) ?_
          by_cases c45_9 : ((p0 &&& (2147483647 : Int32)) % (7 : Int32)) = (4 : Int32)
          ·
            refine Dn.by (U' := s₁.setTop (mkF m 48 #[.val (.int p0), .val (.int ((p0 &&& (2147483647 : Int32)) % (7 : Int32)))] [])) (fun _ ks => XS.icmpNo X0.here hx rfl (hb hby d1_45) rfl (teq c45_9).2 ks) ?_
            obtain ⟨T10, X10, e10, st10⟩ := getS2 X0 hx hZ (a0 := a0) hown (host := "") (Or.inl (hw _ (List.mem_of_getElem? (i := 136) rfl))) Via.refl e0 S_MSG (g := (mkF m 48 #[.val (.int p0), .val (.int ((p0 &&& (2147483647 : Int32)) % (7 : Int32)))] [])) rfl (hb hby d1_48)
            refine Dn.by (U' := T10.setTop (mkF m 51 #[.val (.int p0), .val (.int ((p0 &&& (2147483647 : Int32)) % (7 : Int32)))] [(.ref s_MSG)])) st10 ?_
            refine Dn.out X10 (v := (some (.ref s_MSG))) (fun h => by rw [Bd.returns] at h; cases h) (BodyLoose.notSynchronized Bd) (fun _ hr => retOut X10 hx Bd.returns rfl (Or.inr (Or.inr (Or.inr (Or.inr ⟨rfl, rfl, rfl⟩)))) (hb hby d1_51) hr) (by decide) (by decide) ?_
            rw [e10]
            exact ⟨by simp only [pickK, if_neg c9_1, if_neg c18_3, if_neg c27_5, if_neg c36_7, if_pos c45_9], N0, rfl⟩
          ·
            refine Dn.by (U' := s₁.setTop (mkF m 52 #[.val (.int p0), .val (.int ((p0 &&& (2147483647 : Int32)) % (7 : Int32)))] [])) (fun _ ks => XS.icmpYes X0.here hx rfl (pc0 := 45) (pc' := 52) rfl (hb hby d1_45) rfl (feq c45_9).2 (by decide) (by decide) ks) ?_
            refine Dn.by (U' := s₁.setTop (mkF m 53 #[.val (.int p0), .val (.int ((p0 &&& (2147483647 : Int32)) % (7 : Int32)))] [(.int ((p0 &&& (2147483647 : Int32)) % (7 : Int32)))])) (fun _ ks => XS.iloadN X0.here hx rfl (hb hby d1_52) rfl ks) ?_
            refine Dn.by (U' := s₁.setTop (mkF m 54 #[.val (.int p0), .val (.int ((p0 &&& (2147483647 : Int32)) % (7 : Int32)))] [(.int (5 : Int32)), (.int ((p0 &&& (2147483647 : Int32)) % (7 : Int32)))])) (fun _ ks => XS.iconst X0.here hx rfl (hb hby d1_53)  ks) ?_
            by_cases c54_11 : ((p0 &&& (2147483647 : Int32)) % (7 : Int32)) = (5 : Int32)
            ·
              refine Dn.by (U' := s₁.setTop (mkF m 57 #[.val (.int p0), .val (.int ((p0 &&& (2147483647 : Int32)) % (7 : Int32)))] [])) (fun _ ks => XS.icmpNo X0.here hx rfl (hb hby d1_54) rfl (teq c54_11).2 ks) ?_
              obtain ⟨T12, X12, e12, st12⟩ := getS2 X0 hx hZ (a0 := a0) hown (host := "") (Or.inl (hw _ (List.mem_of_getElem? (i := 145) rfl))) Via.refl e0 S_RCVD (g := (mkF m 57 #[.val (.int p0), .val (.int ((p0 &&& (2147483647 : Int32)) % (7 : Int32)))] [])) rfl (hb hby d1_57)
              refine Dn.by (U' := T12.setTop (mkF m 60 #[.val (.int p0), .val (.int ((p0 &&& (2147483647 : Int32)) % (7 : Int32)))] [(.ref s_RCVD)])) st12 ?_
              refine Dn.out X12 (v := (some (.ref s_RCVD))) (fun h => by rw [Bd.returns] at h; cases h) (BodyLoose.notSynchronized Bd) (fun _ hr => retOut X12 hx Bd.returns rfl (Or.inr (Or.inr (Or.inr (Or.inr ⟨rfl, rfl, rfl⟩)))) (hb hby d1_60) hr) (by decide) (by decide) ?_
              rw [e12]
              exact ⟨by simp only [pickK, if_neg c9_1, if_neg c18_3, if_neg c27_5, if_neg c36_7, if_neg c45_9, if_pos c54_11], N0, rfl⟩
            ·
              refine Dn.by (U' := s₁.setTop (mkF m 61 #[.val (.int p0), .val (.int ((p0 &&& (2147483647 : Int32)) % (7 : Int32)))] [])) (fun _ ks => XS.icmpYes X0.here hx rfl (pc0 := 54) (pc' := 61) rfl (hb hby d1_54) rfl (feq c54_11).2 (by decide) (by decide) ks) ?_
              obtain ⟨T13, X13, e13, st13⟩ := getS2 X0 hx hZ (a0 := a0) hown (host := "") (Or.inl (hw _ (List.mem_of_getElem? (i := 151) rfl))) Via.refl e0 S_ERR (g := (mkF m 61 #[.val (.int p0), .val (.int ((p0 &&& (2147483647 : Int32)) % (7 : Int32)))] [])) rfl (hb hby d1_61)
              refine Dn.by (U' := T13.setTop (mkF m 64 #[.val (.int p0), .val (.int ((p0 &&& (2147483647 : Int32)) % (7 : Int32)))] [(.ref s_ERR)])) st13 ?_
              refine Dn.out X13 (v := (some (.ref s_ERR))) (fun h => by rw [Bd.returns] at h; cases h) (BodyLoose.notSynchronized Bd) (fun _ hr => retOut X13 hx Bd.returns rfl (Or.inr (Or.inr (Or.inr (Or.inr ⟨rfl, rfl, rfl⟩)))) (hb hby d1_64) hr) (by decide) (by decide) ?_
              rw [e13]
              exact ⟨by simp only [pickK, if_neg c9_1, if_neg c18_3, if_neg c27_5, if_neg c36_7, if_neg c45_9, if_neg c54_11], N0, rfl⟩
abbrev Rm9 : Room := { frames := 1, cells := 0, slots := 0, locals := 12 }
theorem ef_9 (m : MethodId) (o0 : Addr) (q1 : Int64) (o2 : Addr) (o3 : Addr) (q4 : Int64) (o5 : Addr) : entryFrame m #[(.ref o0), (.long q1), (.ref o2), (.ref o3), (.long q4), (.ref o5)] 8 = mkF m 0 #[.val (.ref o0), .val (.long q1), .second, .val (.ref o2), .val (.ref o3), .val (.long q4), .second, .val (.ref o5)] [] := by first | (simp [entryFrame, mkF, argsToLocals, Value.category]; done) | rfl
def Q9 (Z : State) (o0 : Addr) (q1 : Int64) (o2 : Addr) (o3 : Addr) (q4 : Int64) (o5 : Addr) (u_sequence_o0 : Value) (u_kind_o0 : Value) (u_connectionId_o0 : Value) (u_messageId_o0 : Value) (u_text_o0 : Value) (h0 : Heap) (n0 : Nat) (v : Option Value) (h : Heap) (L : List Loc) : Prop := v = none ∧ Fr n0 L ∧ Keep h0 h [o0] ∧ Exa Z h o0 "com/example/ferrywire/ferrywire/agent/AgentEvent" ∧ Fld Z h o0 "com/example/ferrywire/ferrywire/agent/AgentEvent" "sequence" "J" (.long q1) ∧ Fld Z h o0 "com/example/ferrywire/ferrywire/agent/AgentEvent" "kind" "Lcom/example/ferrywire/ferrywire/agent/AgentEvent$Kind;" (.ref o2) ∧ Fld Z h o0 "com/example/ferrywire/ferrywire/agent/AgentEvent" "connectionId" "Ljava/lang/String;" (.ref o3) ∧ Fld Z h o0 "com/example/ferrywire/ferrywire/agent/AgentEvent" "messageId" "J" (.long q4) ∧ Fld Z h o0 "com/example/ferrywire/ferrywire/agent/AgentEvent" "text" "Ljava/lang/String;" (.ref o5)
set_option maxRecDepth 65536 in
set_option maxHeartbeats 40000000 in
theorem rm9 (l : Launch) (Z : State) (a0 : Array Value) (hw : ∀ d ∈ tables_1, d.before a0 Z = true) (ws : List Jvm.Cond) (o0 : Addr) (q1 : Int64) (o2 : Addr) (o3 : Addr) (q4 : Int64) (o5 : Addr) (u_sequence_o0 : Value) (u_kind_o0 : Value) (u_connectionId_o0 : Value) (u_messageId_o0 : Value) (u_text_o0 : Value) (h0 : Heap) (n0 : Nat) (Z0 : n0 ≤ h0.size) (g_o0 : n0 ≤ o0) (E_o0 : Exa Z h0 o0 "com/example/ferrywire/ferrywire/agent/AgentEvent") (F_u_sequence_o0 : Fld Z h0 o0 "com/example/ferrywire/ferrywire/agent/AgentEvent" "sequence" "J" u_sequence_o0) (F_u_kind_o0 : Fld Z h0 o0 "com/example/ferrywire/ferrywire/agent/AgentEvent" "kind" "Lcom/example/ferrywire/ferrywire/agent/AgentEvent$Kind;" u_kind_o0) (F_u_connectionId_o0 : Fld Z h0 o0 "com/example/ferrywire/ferrywire/agent/AgentEvent" "connectionId" "Ljava/lang/String;" u_connectionId_o0) (F_u_messageId_o0 : Fld Z h0 o0 "com/example/ferrywire/ferrywire/agent/AgentEvent" "messageId" "J" u_messageId_o0) (F_u_text_o0 : Fld Z h0 o0 "com/example/ferrywire/ferrywire/agent/AgentEvent" "text" "Ljava/lang/String;" u_text_o0) :
    MetFree l (⟨"com/example/ferrywire/ferrywire/agent/AgentEvent", "<init>", "(JLcom/example/ferrywire/ferrywire/agent/AgentEvent$Kind;Ljava/lang/String;JLjava/lang/String;)V"⟩ : MethodName) (head1 (Jvm.Cond.code (⟨"com/example/ferrywire/ferrywire/agent/AgentEvent", "<init>", "(JLcom/example/ferrywire/ferrywire/agent/AgentEvent$Kind;Ljava/lang/String;JLjava/lang/String;)V"⟩ : MethodName) prog_1_method_1_code 8 none :: ws) Rm9) (fun a U => a = #[(.ref o0), (.long q1), (.ref o2), (.ref o3), (.long q4), (.ref o5)] ∧ Z.Warmed39 U.vm ∧ U.heap = h0) (fun _ _ _ _ _ => True) (fun _ U o U' => ∃ v L, o = .returned v ∧ Q9 Z o0 q1 o2 o3 q4 o5 u_sequence_o0 u_kind_o0 u_connectionId_o0 u_messageId_o0 u_text_o0 h0 n0 v U'.heap L ∧ FrameEnd U o U' L Rm9.cells Rm9.slots) := by
  refine MetFree.of_bodySF (plainFor_of_name pn1) hisR ?_
  intro p e s m args below meth c s₁ Bd hml0 hP hK
  obtain ⟨rfl, hZ, hh⟩ := hP
  have hx := Bd.exec
  have hby := Bd.bytes
  have hml : c.maxLocals = 8 := hml0
  have hown : s.vm.findClass "com/example/ferrywire/ferrywire/agent/AgentEvent" = some m.cls := findClass_of_methodNamed Bd.named
  have hnm := (name_of_methodNamed Bd.named Bd.method).1
  have X0 : Stand p l e Rm9 s m #[(.ref o0), (.long q1), (.ref o2), (.ref o3), (.long q4), (.ref o5)] below meth c s₁ [] 0 0 := Stand.of_body Bd
  have e0 : s₁.heap = h0 := by rw [← hh, Bd.state]; rfl
  have N0 := Fr.nil n0
  show Dn p e below s Rm9.cells Rm9.slots (Q9 Z o0 q1 o2 o3 q4 o5 u_sequence_o0 u_kind_o0 u_connectionId_o0 u_messageId_o0 u_text_o0 h0 n0) (s₁.setTop (entryFrame m #[(.ref o0), (.long q1), (.ref o2), (.ref o3), (.long q4), (.ref o5)] 8))
  rw [ef_9]
  refine Dn.by (U' := s₁.setTop (mkF m 1 #[.val (.ref o0), .val (.long q1), .second, .val (.ref o2), .val (.ref o3), .val (.long q4), .second, .val (.ref o5)] [(.ref o0)])) (fun _ ks => XS.aloadN X0.here hx rfl (hb hby d9_0) rfl rfl ks) ?_
  obtain ⟨T1, X1, e1, st1⟩ := initO X0 hx hZ hown (hw _ (List.mem_of_getElem? (i := 47) rfl)) (hw _ (List.mem_of_getElem? (i := 20) rfl)) (hw _ (List.mem_of_getElem? (i := 21) rfl)) e0 (g := (mkF m 1 #[.val (.ref o0), .val (.long q1), .second, .val (.ref o2), .val (.ref o3), .val (.long q4), .second, .val (.ref o5)] [(.ref o0)])) rfl (by rw [hml]; rfl) rfl (hb hby d9_1) (by decide) (W := 0) (by show 2 * 0 + _ ≤ _; exact Nat.le_of_eq rfl) (by decide)
  refine Dn.by (U' := T1.setTop (mkF m 4 #[.val (.ref o0), .val (.long q1), .second, .val (.ref o2), .val (.ref o3), .val (.long q4), .second, .val (.ref o5)] [])) st1 ?_
  refine Dn.by (U' := T1.setTop (mkF m 5 #[.val (.ref o0), .val (.long q1), .second, .val (.ref o2), .val (.ref o3), .val (.long q4), .second, .val (.ref o5)] [(.ref o0)])) (fun _ ks => XS.aloadN X1.here hx rfl (hb hby d9_4) rfl rfl ks) ?_
  refine Dn.by (U' := T1.setTop (mkF m 6 #[.val (.ref o0), .val (.long q1), .second, .val (.ref o2), .val (.ref o3), .val (.long q4), .second, .val (.ref o5)] [(.long q1), (.ref o0)])) (fun _ ks => XS.lloadN X1.here hx rfl (hb hby d9_5) rfl ks) ?_
  obtain ⟨T2, h2, X2, e2, W2, st2⟩ := putF X1 hx hZ hown (host := "") (Or.inl (hw _ (List.mem_of_getElem? (i := 48) rfl))) Via.refl e1 F_u_sequence_o0 E_o0 (Or.inr ⟨(hw _ (List.mem_of_getElem? (i := 49) rfl)), rfl, hnm⟩) (hw _ (List.mem_of_getElem? (i := 43) rfl)) (ty := .long) (by decide) rfl rfl (g := (mkF m 6 #[.val (.ref o0), .val (.long q1), .second, .val (.ref o2), .val (.ref o3), .val (.long q4), .second, .val (.ref o5)] [(.long q1), (.ref o0)])) rfl rfl (hb hby d9_6)
  have F2 := F_u_sequence_o0.same W2
  have K3 : Keep h0 h2 [o0] := ((Keep.refl h0 [o0]).wr W2 (Or.inl (List.mem_of_getElem? (i := 0) rfl)))
  have z3 : n0 ≤ h2.size := (Nat.le_trans Z0 (Keep.of_wr W2).1)
  have N2 := Fr.snoc X2 N0 g_o0
  refine Dn.by (U' := T2.setTop (mkF m 9 #[.val (.ref o0), .val (.long q1), .second, .val (.ref o2), .val (.ref o3), .val (.long q4), .second, .val (.ref o5)] [])) st2 ?_
  refine Dn.by (U' := T2.setTop (mkF m 10 #[.val (.ref o0), .val (.long q1), .second, .val (.ref o2), .val (.ref o3), .val (.long q4), .second, .val (.ref o5)] [(.ref o0)])) (fun _ ks => XS.aloadN X2.here hx rfl (hb hby d9_9) rfl rfl ks) ?_
  refine Dn.by (U' := T2.setTop (mkF m 11 #[.val (.ref o0), .val (.long q1), .second, .val (.ref o2), .val (.ref o3), .val (.long q4), .second, .val (.ref o5)] [(.ref o2), (.ref o0)])) (fun _ ks => XS.aloadN X2.here hx rfl (hb hby d9_10) rfl rfl ks) ?_
  obtain ⟨T4, h4, X4, e4, W4, st4⟩ := putF X2 hx hZ hown (host := "") (Or.inl (hw _ (List.mem_of_getElem? (i := 50) rfl))) Via.refl e2 (F_u_kind_o0.other W2 (Or.inr (slot_ne (Or.inr (hw _ (List.mem_of_getElem? (i := 51) rfl))) (Or.inr (hw _ (List.mem_of_getElem? (i := 49) rfl))) (by decide) (t := (.object "com/example/ferrywire/ferrywire/agent/AgentEvent$Kind")) (t' := .long) (by decide) (by decide)))) (E_o0.wr W2) (Or.inr ⟨(hw _ (List.mem_of_getElem? (i := 51) rfl)), rfl, hnm⟩) (hw _ (List.mem_of_getElem? (i := 43) rfl)) (ty := (.object "com/example/ferrywire/ferrywire/agent/AgentEvent$Kind")) (by decide) rfl rfl (g := (mkF m 11 #[.val (.ref o0), .val (.long q1), .second, .val (.ref o2), .val (.ref o3), .val (.long q4), .second, .val (.ref o5)] [(.ref o2), (.ref o0)])) rfl rfl (hb hby d9_11)
  have F4 := (F_u_kind_o0.other W2 (Or.inr (slot_ne (Or.inr (hw _ (List.mem_of_getElem? (i := 51) rfl))) (Or.inr (hw _ (List.mem_of_getElem? (i := 49) rfl))) (by decide) (t := (.object "com/example/ferrywire/ferrywire/agent/AgentEvent$Kind")) (t' := .long) (by decide) (by decide)))).same W4
  have K5 : Keep h0 h4 [o0] := (K3.wr W4 (Or.inl (List.mem_of_getElem? (i := 0) rfl)))
  have z5 : n0 ≤ h4.size := (Nat.le_trans z3 (Keep.of_wr W4).1)
  have N4 := Fr.snoc X4 N2 g_o0
  refine Dn.by (U' := T4.setTop (mkF m 14 #[.val (.ref o0), .val (.long q1), .second, .val (.ref o2), .val (.ref o3), .val (.long q4), .second, .val (.ref o5)] [])) st4 ?_
  refine Dn.by (U' := T4.setTop (mkF m 15 #[.val (.ref o0), .val (.long q1), .second, .val (.ref o2), .val (.ref o3), .val (.long q4), .second, .val (.ref o5)] [(.ref o0)])) (fun _ ks => XS.aloadN X4.here hx rfl (hb hby d9_14) rfl rfl ks) ?_
  refine Dn.by (U' := T4.setTop (mkF m 17 #[.val (.ref o0), .val (.long q1), .second, .val (.ref o2), .val (.ref o3), .val (.long q4), .second, .val (.ref o5)] [(.ref o3), (.ref o0)])) (fun _ ks => XS.aload X4.here hx rfl (hb hby d9_15) rfl rfl ks) ?_
  obtain ⟨T6, h6, X6, e6, W6, st6⟩ := putF X4 hx hZ hown (host := "") (Or.inl (hw _ (List.mem_of_getElem? (i := 52) rfl))) Via.refl e4 ((F_u_connectionId_o0.other W2 (Or.inr (slot_ne (Or.inr (hw _ (List.mem_of_getElem? (i := 53) rfl))) (Or.inr (hw _ (List.mem_of_getElem? (i := 49) rfl))) (by decide) (t := (.object "java/lang/String")) (t' := .long) (by decide) (by decide)))).other W4 (Or.inr (slot_ne (Or.inr (hw _ (List.mem_of_getElem? (i := 53) rfl))) (Or.inr (hw _ (List.mem_of_getElem? (i := 51) rfl))) (by decide) (t := (.object "java/lang/String")) (t' := (.object "com/example/ferrywire/ferrywire/agent/AgentEvent$Kind")) (by decide) (by decide)))) ((E_o0.wr W2).wr W4) (Or.inr ⟨(hw _ (List.mem_of_getElem? (i := 53) rfl)), rfl, hnm⟩) (hw _ (List.mem_of_getElem? (i := 43) rfl)) (ty := (.object "java/lang/String")) (by decide) rfl rfl (g := (mkF m 17 #[.val (.ref o0), .val (.long q1), .second, .val (.ref o2), .val (.ref o3), .val (.long q4), .second, .val (.ref o5)] [(.ref o3), (.ref o0)])) rfl rfl (hb hby d9_17)
  have F6 := ((F_u_connectionId_o0.other W2 (Or.inr (slot_ne (Or.inr (hw _ (List.mem_of_getElem? (i := 53) rfl))) (Or.inr (hw _ (List.mem_of_getElem? (i := 49) rfl))) (by decide) (t := (.object "java/lang/String")) (t' := .long) (by decide) (by decide)))).other W4 (Or.inr (slot_ne (Or.inr (hw _ (List.mem_of_getElem? (i := 53) rfl))) (Or.inr (hw _ (List.mem_of_getElem? (i := 51) rfl))) (by decide) (t := (.object "java/lang/String")) (t' := (.object "com/example/ferrywire/ferrywire/agent/AgentEvent$Kind")) (by decide) (by decide)))).same W6
  have K7 : Keep h0 h6 [o0] := (K5.wr W6 (Or.inl (List.mem_of_getElem? (i := 0) rfl)))
  have z7 : n0 ≤ h6.size := (Nat.le_trans z5 (Keep.of_wr W6).1)
  have N6 := Fr.snoc X6 N4 g_o0
  refine Dn.by (U' := T6.setTop (mkF m 20 #[.val (.ref o0), .val (.long q1), .second, .val (.ref o2), .val (.ref o3), .val (.long q4), .second, .val (.ref o5)] [])) st6 ?_
  refine Dn.by (U' := T6.setTop (mkF m 21 #[.val (.ref o0), .val (.long q1), .second, .val (.ref o2), .val (.ref o3), .val (.long q4), .second, .val (.ref o5)] [(.ref o0)])) (fun _ ks => XS.aloadN X6.here hx rfl (hb hby d9_20) rfl rfl ks) ?_
  refine Dn.by (U' := T6.setTop (mkF m 23 #[.val (.ref o0), .val (.long q1), .second, .val (.ref o2), .val (.ref o3), .val (.long q4), .second, .val (.ref o5)] [(.long q4), (.ref o0)])) (fun _ ks => XS.lload X6.here hx rfl (hb hby d9_21) rfl ks) ?_
  obtain ⟨T8, h8, X8, e8, W8, st8⟩ := putF X6 hx hZ hown (host := "") (Or.inl (hw _ (List.mem_of_getElem? (i := 54) rfl))) Via.refl e6 (((F_u_messageId_o0.other W2 (Or.inr (slot_ne (Or.inr (hw _ (List.mem_of_getElem? (i := 55) rfl))) (Or.inr (hw _ (List.mem_of_getElem? (i := 49) rfl))) (by decide) (t := .long) (t' := .long) (by decide) (by decide)))).other W4 (Or.inr (slot_ne (Or.inr (hw _ (List.mem_of_getElem? (i := 55) rfl))) (Or.inr (hw _ (List.mem_of_getElem? (i := 51) rfl))) (by decide) (t := .long) (t' := (.object "com/example/ferrywire/ferrywire/agent/AgentEvent$Kind")) (by decide) (by decide)))).other W6 (Or.inr (slot_ne (Or.inr (hw _ (List.mem_of_getElem? (i := 55) rfl))) (Or.inr (hw _ (List.mem_of_getElem? (i := 53) rfl))) (by decide) (t := .long) (t' := (.object "java/lang/String")) (by decide) (by decide)))) (((E_o0.wr W2).wr W4).wr W6) (Or.inr ⟨(hw _ (List.mem_of_getElem? (i := 55) rfl)), rfl, hnm⟩) (hw _ (List.mem_of_getElem? (i := 43) rfl)) (ty := .long) (by decide) rfl rfl (g := (mkF m 23 #[.val (.ref o0), .val (.long q1), .second, .val (.ref o2), .val (.ref o3), .val (.long q4), .second, .val (.ref o5)] [(.long q4), (.ref o0)])) rfl rfl (hb hby d9_23)
  have F8 := (((F_u_messageId_o0.other W2 (Or.inr (slot_ne (Or.inr (hw _ (List.mem_of_getElem? (i := 55) rfl))) (Or.inr (hw _ (List.mem_of_getElem? (i := 49) rfl))) (by decide) (t := .long) (t' := .long) (by decide) (by decide)))).other W4 (Or.inr (slot_ne (Or.inr (hw _ (List.mem_of_getElem? (i := 55) rfl))) (Or.inr (hw _ (List.mem_of_getElem? (i := 51) rfl))) (by decide) (t := .long) (t' := (.object "com/example/ferrywire/ferrywire/agent/AgentEvent$Kind")) (by decide) (by decide)))).other W6 (Or.inr (slot_ne (Or.inr (hw _ (List.mem_of_getElem? (i := 55) rfl))) (Or.inr (hw _ (List.mem_of_getElem? (i := 53) rfl))) (by decide) (t := .long) (t' := (.object "java/lang/String")) (by decide) (by decide)))).same W8
  have K9 : Keep h0 h8 [o0] := (K7.wr W8 (Or.inl (List.mem_of_getElem? (i := 0) rfl)))
  have z9 : n0 ≤ h8.size := (Nat.le_trans z7 (Keep.of_wr W8).1)
  have N8 := Fr.snoc X8 N6 g_o0
  refine Dn.by (U' := T8.setTop (mkF m 26 #[.val (.ref o0), .val (.long q1), .second, .val (.ref o2), .val (.ref o3), .val (.long q4), .second, .val (.ref o5)] [])) st8 ?_
  refine Dn.by (U' := T8.setTop (mkF m 27 #[.val (.ref o0), .val (.long q1), .second, .val (.ref o2), .val (.ref o3), .val (.long q4), .second, .val (.ref o5)] [(.ref o0)])) (fun _ ks => XS.aloadN X8.here hx rfl (hb hby d9_26) rfl rfl ks) ?_
  refine Dn.by (U' := T8.setTop (mkF m 29 #[.val (.ref o0), .val (.long q1), .second, .val (.ref o2), .val (.ref o3), .val (.long q4), .second, .val (.ref o5)] [(.ref o5), (.ref o0)])) (fun _ ks => XS.aload X8.here hx rfl (hb hby d9_27) rfl rfl ks) ?_
  obtain ⟨T10, h10, X10, e10, W10, st10⟩ := putF X8 hx hZ hown (host := "") (Or.inl (hw _ (List.mem_of_getElem? (i := 56) rfl))) Via.refl e8 ((((F_u_text_o0.other W2 (Or.inr (slot_ne (Or.inr (hw _ (List.mem_of_getElem? (i := 57) rfl))) (Or.inr (hw _ (List.mem_of_getElem? (i := 49) rfl))) (by decide) (t := (.object "java/lang/String")) (t' := .long) (by decide) (by decide)))).other W4 (Or.inr (slot_ne (Or.inr (hw _ (List.mem_of_getElem? (i := 57) rfl))) (Or.inr (hw _ (List.mem_of_getElem? (i := 51) rfl))) (by decide) (t := (.object "java/lang/String")) (t' := (.object "com/example/ferrywire/ferrywire/agent/AgentEvent$Kind")) (by decide) (by decide)))).other W6 (Or.inr (slot_ne (Or.inr (hw _ (List.mem_of_getElem? (i := 57) rfl))) (Or.inr (hw _ (List.mem_of_getElem? (i := 53) rfl))) (by decide) (t := (.object "java/lang/String")) (t' := (.object "java/lang/String")) (by decide) (by decide)))).other W8 (Or.inr (slot_ne (Or.inr (hw _ (List.mem_of_getElem? (i := 57) rfl))) (Or.inr (hw _ (List.mem_of_getElem? (i := 55) rfl))) (by decide) (t := (.object "java/lang/String")) (t' := .long) (by decide) (by decide)))) ((((E_o0.wr W2).wr W4).wr W6).wr W8) (Or.inr ⟨(hw _ (List.mem_of_getElem? (i := 57) rfl)), rfl, hnm⟩) (hw _ (List.mem_of_getElem? (i := 43) rfl)) (ty := (.object "java/lang/String")) (by decide) rfl rfl (g := (mkF m 29 #[.val (.ref o0), .val (.long q1), .second, .val (.ref o2), .val (.ref o3), .val (.long q4), .second, .val (.ref o5)] [(.ref o5), (.ref o0)])) rfl rfl (hb hby d9_29)
  have F10 := ((((F_u_text_o0.other W2 (Or.inr (slot_ne (Or.inr (hw _ (List.mem_of_getElem? (i := 57) rfl))) (Or.inr (hw _ (List.mem_of_getElem? (i := 49) rfl))) (by decide) (t := (.object "java/lang/String")) (t' := .long) (by decide) (by decide)))).other W4 (Or.inr (slot_ne (Or.inr (hw _ (List.mem_of_getElem? (i := 57) rfl))) (Or.inr (hw _ (List.mem_of_getElem? (i := 51) rfl))) (by decide) (t := (.object "java/lang/String")) (t' := (.object "com/example/ferrywire/ferrywire/agent/AgentEvent$Kind")) (by decide) (by decide)))).other W6 (Or.inr (slot_ne (Or.inr (hw _ (List.mem_of_getElem? (i := 57) rfl))) (Or.inr (hw _ (List.mem_of_getElem? (i := 53) rfl))) (by decide) (t := (.object "java/lang/String")) (t' := (.object "java/lang/String")) (by decide) (by decide)))).other W8 (Or.inr (slot_ne (Or.inr (hw _ (List.mem_of_getElem? (i := 57) rfl))) (Or.inr (hw _ (List.mem_of_getElem? (i := 55) rfl))) (by decide) (t := (.object "java/lang/String")) (t' := .long) (by decide) (by decide)))).same W10
  have K11 : Keep h0 h10 [o0] := (K9.wr W10 (Or.inl (List.mem_of_getElem? (i := 0) rfl)))
  have z11 : n0 ≤ h10.size := (Nat.le_trans z9 (Keep.of_wr W10).1)
  have N10 := Fr.snoc X10 N8 g_o0
  refine Dn.by (U' := T10.setTop (mkF m 32 #[.val (.ref o0), .val (.long q1), .second, .val (.ref o2), .val (.ref o3), .val (.long q4), .second, .val (.ref o5)] [])) st10 ?_
  refine Dn.out X10 (v := none) (fun _ => rfl) (BodyLoose.notSynchronized Bd) (fun _ hr => X10.returnOut hx Bd.returns (hb hby d9_32) hr) (by decide) (by decide) ?_
  rw [e10]
  exact ⟨rfl, N10, K11, (((((E_o0.wr W2).wr W4).wr W6).wr W8).wr W10), ((((F2.other W4 (Or.inr (slot_ne (Or.inr (hw _ (List.mem_of_getElem? (i := 49) rfl))) (Or.inr (hw _ (List.mem_of_getElem? (i := 51) rfl))) (by decide) (t := .long) (t' := (.object "com/example/ferrywire/ferrywire/agent/AgentEvent$Kind")) (by decide) (by decide)))).other W6 (Or.inr (slot_ne (Or.inr (hw _ (List.mem_of_getElem? (i := 49) rfl))) (Or.inr (hw _ (List.mem_of_getElem? (i := 53) rfl))) (by decide) (t := .long) (t' := (.object "java/lang/String")) (by decide) (by decide)))).other W8 (Or.inr (slot_ne (Or.inr (hw _ (List.mem_of_getElem? (i := 49) rfl))) (Or.inr (hw _ (List.mem_of_getElem? (i := 55) rfl))) (by decide) (t := .long) (t' := .long) (by decide) (by decide)))).other W10 (Or.inr (slot_ne (Or.inr (hw _ (List.mem_of_getElem? (i := 49) rfl))) (Or.inr (hw _ (List.mem_of_getElem? (i := 57) rfl))) (by decide) (t := .long) (t' := (.object "java/lang/String")) (by decide) (by decide)))), (((F4.other W6 (Or.inr (slot_ne (Or.inr (hw _ (List.mem_of_getElem? (i := 51) rfl))) (Or.inr (hw _ (List.mem_of_getElem? (i := 53) rfl))) (by decide) (t := (.object "com/example/ferrywire/ferrywire/agent/AgentEvent$Kind")) (t' := (.object "java/lang/String")) (by decide) (by decide)))).other W8 (Or.inr (slot_ne (Or.inr (hw _ (List.mem_of_getElem? (i := 51) rfl))) (Or.inr (hw _ (List.mem_of_getElem? (i := 55) rfl))) (by decide) (t := (.object "com/example/ferrywire/ferrywire/agent/AgentEvent$Kind")) (t' := .long) (by decide) (by decide)))).other W10 (Or.inr (slot_ne (Or.inr (hw _ (List.mem_of_getElem? (i := 51) rfl))) (Or.inr (hw _ (List.mem_of_getElem? (i := 57) rfl))) (by decide) (t := (.object "com/example/ferrywire/ferrywire/agent/AgentEvent$Kind")) (t' := (.object "java/lang/String")) (by decide) (by decide)))), ((F6.other W8 (Or.inr (slot_ne (Or.inr (hw _ (List.mem_of_getElem? (i := 53) rfl))) (Or.inr (hw _ (List.mem_of_getElem? (i := 55) rfl))) (by decide) (t := (.object "java/lang/String")) (t' := .long) (by decide) (by decide)))).other W10 (Or.inr (slot_ne (Or.inr (hw _ (List.mem_of_getElem? (i := 53) rfl))) (Or.inr (hw _ (List.mem_of_getElem? (i := 57) rfl))) (by decide) (t := (.object "java/lang/String")) (t' := (.object "java/lang/String")) (by decide) (by decide)))), (F8.other W10 (Or.inr (slot_ne (Or.inr (hw _ (List.mem_of_getElem? (i := 55) rfl))) (Or.inr (hw _ (List.mem_of_getElem? (i := 57) rfl))) (by decide) (t := .long) (t' := (.object "java/lang/String")) (by decide) (by decide)))), F10⟩
abbrev Rm9n : Room := { frames := 1, cells := 0, slots := 0, locals := 12 }
theorem ef_9n (m : MethodId) (o0 : Addr) (q1 : Int64) (o2 : Addr) (o3 : Addr) (q4 : Int64) : entryFrame m #[(.ref o0), (.long q1), (.ref o2), (.ref o3), (.long q4), .null] 8 = mkF m 0 #[.val (.ref o0), .val (.long q1), .second, .val (.ref o2), .val (.ref o3), .val (.long q4), .second, .val .null] [] := by first | (simp [entryFrame, mkF, argsToLocals, Value.category]; done) | rfl
def Q9n (Z : State) (o0 : Addr) (q1 : Int64) (o2 : Addr) (o3 : Addr) (q4 : Int64) (u_sequence_o0 : Value) (u_kind_o0 : Value) (u_connectionId_o0 : Value) (u_messageId_o0 : Value) (u_text_o0 : Value) (h0 : Heap) (n0 : Nat) (v : Option Value) (h : Heap) (L : List Loc) : Prop := v = none ∧ Fr n0 L ∧ Keep h0 h [o0] ∧ Exa Z h o0 "com/example/ferrywire/ferrywire/agent/AgentEvent" ∧ Fld Z h o0 "com/example/ferrywire/ferrywire/agent/AgentEvent" "sequence" "J" (.long q1) ∧ Fld Z h o0 "com/example/ferrywire/ferrywire/agent/AgentEvent" "kind" "Lcom/example/ferrywire/ferrywire/agent/AgentEvent$Kind;" (.ref o2) ∧ Fld Z h o0 "com/example/ferrywire/ferrywire/agent/AgentEvent" "connectionId" "Ljava/lang/String;" (.ref o3) ∧ Fld Z h o0 "com/example/ferrywire/ferrywire/agent/AgentEvent" "messageId" "J" (.long q4) ∧ Fld Z h o0 "com/example/ferrywire/ferrywire/agent/AgentEvent" "text" "Ljava/lang/String;" .null
set_option maxRecDepth 65536 in
set_option maxHeartbeats 40000000 in
theorem rm9n (l : Launch) (Z : State) (a0 : Array Value) (hw : ∀ d ∈ tables_1, d.before a0 Z = true) (ws : List Jvm.Cond) (o0 : Addr) (q1 : Int64) (o2 : Addr) (o3 : Addr) (q4 : Int64) (u_sequence_o0 : Value) (u_kind_o0 : Value) (u_connectionId_o0 : Value) (u_messageId_o0 : Value) (u_text_o0 : Value) (h0 : Heap) (n0 : Nat) (Z0 : n0 ≤ h0.size) (g_o0 : n0 ≤ o0) (E_o0 : Exa Z h0 o0 "com/example/ferrywire/ferrywire/agent/AgentEvent") (F_u_sequence_o0 : Fld Z h0 o0 "com/example/ferrywire/ferrywire/agent/AgentEvent" "sequence" "J" u_sequence_o0) (F_u_kind_o0 : Fld Z h0 o0 "com/example/ferrywire/ferrywire/agent/AgentEvent" "kind" "Lcom/example/ferrywire/ferrywire/agent/AgentEvent$Kind;" u_kind_o0) (F_u_connectionId_o0 : Fld Z h0 o0 "com/example/ferrywire/ferrywire/agent/AgentEvent" "connectionId" "Ljava/lang/String;" u_connectionId_o0) (F_u_messageId_o0 : Fld Z h0 o0 "com/example/ferrywire/ferrywire/agent/AgentEvent" "messageId" "J" u_messageId_o0) (F_u_text_o0 : Fld Z h0 o0 "com/example/ferrywire/ferrywire/agent/AgentEvent" "text" "Ljava/lang/String;" u_text_o0) :
    MetFree l (⟨"com/example/ferrywire/ferrywire/agent/AgentEvent", "<init>", "(JLcom/example/ferrywire/ferrywire/agent/AgentEvent$Kind;Ljava/lang/String;JLjava/lang/String;)V"⟩ : MethodName) (head1 (Jvm.Cond.code (⟨"com/example/ferrywire/ferrywire/agent/AgentEvent", "<init>", "(JLcom/example/ferrywire/ferrywire/agent/AgentEvent$Kind;Ljava/lang/String;JLjava/lang/String;)V"⟩ : MethodName) prog_1_method_1_code 8 none :: ws) Rm9n) (fun a U => a = #[(.ref o0), (.long q1), (.ref o2), (.ref o3), (.long q4), .null] ∧ Z.Warmed39 U.vm ∧ U.heap = h0) (fun _ _ _ _ _ => True) (fun _ U o U' => ∃ v L, o = .returned v ∧ Q9n Z o0 q1 o2 o3 q4 u_sequence_o0 u_kind_o0 u_connectionId_o0 u_messageId_o0 u_text_o0 h0 n0 v U'.heap L ∧ FrameEnd U o U' L Rm9n.cells Rm9n.slots) := by
  refine MetFree.of_bodySF (plainFor_of_name pn1) hisR ?_
  intro p e s m args below meth c s₁ Bd hml0 hP hK
  obtain ⟨rfl, hZ, hh⟩ := hP
  have hx := Bd.exec
  have hby := Bd.bytes
  have hml : c.maxLocals = 8 := hml0
  have hown : s.vm.findClass "com/example/ferrywire/ferrywire/agent/AgentEvent" = some m.cls := findClass_of_methodNamed Bd.named
  have hnm := (name_of_methodNamed Bd.named Bd.method).1
  have X0 : Stand p l e Rm9n s m #[(.ref o0), (.long q1), (.ref o2), (.ref o3), (.long q4), .null] below meth c s₁ [] 0 0 := Stand.of_body Bd
  have e0 : s₁.heap = h0 := by rw [← hh, Bd.state]; rfl
  have N0 := Fr.nil n0
  show Dn p e below s Rm9n.cells Rm9n.slots (Q9n Z o0 q1 o2 o3 q4 u_sequence_o0 u_kind_o0 u_connectionId_o0 u_messageId_o0 u_text_o0 h0 n0) (s₁.setTop (entryFrame m #[(.ref o0), (.long q1), (.ref o2), (.ref o3), (.long q4), .null] 8))
  rw [ef_9n]
  refine Dn.by (U' := s₁.setTop (mkF m 1 #[.val (.ref o0), .val (.long q1), .second, .val (.ref o2), .val (.ref o3), .val (.long q4), .second, .val .null] [(.ref o0)])) (fun _ ks => XS.aloadN X0.here hx rfl (hb hby d9_0) rfl rfl ks) ?_
  obtain ⟨T1, X1, e1, st1⟩ := initO X0 hx hZ hown (hw _ (List.mem_of_getElem? (i := 47) rfl)) (hw _ (List.mem_of_getElem? (i := 20) rfl)) (hw _ (List.mem_of_getElem? (i := 21) rfl)) e0 (g := (mkF m 1 #[.val (.ref o0), .val (.long q1), .second, .val (.ref o2), .val (.ref o3), .val (.long q4), .second, .val .null] [(.ref o0)])) rfl (by rw [hml]; rfl) rfl (hb hby d9_1) (by decide) (W := 0) (by show 2 * 0 + _ ≤ _; exact Nat.le_of_eq rfl) (by decide)
  refine Dn.by (U' := T1.setTop (mkF m 4 #[.val (.ref o0), .val (.long q1), .second, .val (.ref o2), .val (.ref o3), .val (.long q4), .second, .val .null] [])) st1 ?_
  refine Dn.by (U' := T1.setTop (mkF m 5 #[.val (.ref o0), .val (.long q1), .second, .val (.ref o2), .val (.ref o3), .val (.long q4), .second, .val .null] [(.ref o0)])) (fun _ ks => XS.aloadN X1.here hx rfl (hb hby d9_4) rfl rfl ks) ?_
  refine Dn.by (U' := T1.setTop (mkF m 6 #[.val (.ref o0), .val (.long q1), .second, .val (.ref o2), .val (.ref o3), .val (.long q4), .second, .val .null] [(.long q1), (.ref o0)])) (fun _ ks => XS.lloadN X1.here hx rfl (hb hby d9_5) rfl ks) ?_
  obtain ⟨T2, h2, X2, e2, W2, st2⟩ := putF X1 hx hZ hown (host := "") (Or.inl (hw _ (List.mem_of_getElem? (i := 48) rfl))) Via.refl e1 F_u_sequence_o0 E_o0 (Or.inr ⟨(hw _ (List.mem_of_getElem? (i := 49) rfl)), rfl, hnm⟩) (hw _ (List.mem_of_getElem? (i := 43) rfl)) (ty := .long) (by decide) rfl rfl (g := (mkF m 6 #[.val (.ref o0), .val (.long q1), .second, .val (.ref o2), .val (.ref o3), .val (.long q4), .second, .val .null] [(.long q1), (.ref o0)])) rfl rfl (hb hby d9_6)
  have F2 := F_u_sequence_o0.same W2
  have K3 : Keep h0 h2 [o0] := ((Keep.refl h0 [o0]).wr W2 (Or.inl (List.mem_of_getElem? (i := 0) rfl)))
  have z3 : n0 ≤ h2.size := (Nat.le_trans Z0 (Keep.of_wr W2).1)
  have N2 := Fr.snoc X2 N0 g_o0
  refine Dn.by (U' := T2.setTop (mkF m 9 #[.val (.ref o0), .val (.long q1), .second, .val (.ref o2), .val (.ref o3), .val (.long q4), .second, .val .null] [])) st2 ?_
  refine Dn.by (U' := T2.setTop (mkF m 10 #[.val (.ref o0), .val (.long q1), .second, .val (.ref o2), .val (.ref o3), .val (.long q4), .second, .val .null] [(.ref o0)])) (fun _ ks => XS.aloadN X2.here hx rfl (hb hby d9_9) rfl rfl ks) ?_
  refine Dn.by (U' := T2.setTop (mkF m 11 #[.val (.ref o0), .val (.long q1), .second, .val (.ref o2), .val (.ref o3), .val (.long q4), .second, .val .null] [(.ref o2), (.ref o0)])) (fun _ ks => XS.aloadN X2.here hx rfl (hb hby d9_10) rfl rfl ks) ?_
  obtain ⟨T4, h4, X4, e4, W4, st4⟩ := putF X2 hx hZ hown (host := "") (Or.inl (hw _ (List.mem_of_getElem? (i := 50) rfl))) Via.refl e2 (F_u_kind_o0.other W2 (Or.inr (slot_ne (Or.inr (hw _ (List.mem_of_getElem? (i := 51) rfl))) (Or.inr (hw _ (List.mem_of_getElem? (i := 49) rfl))) (by decide) (t := (.object "com/example/ferrywire/ferrywire/agent/AgentEvent$Kind")) (t' := .long) (by decide) (by decide)))) (E_o0.wr W2) (Or.inr ⟨(hw _ (List.mem_of_getElem? (i := 51) rfl)), rfl, hnm⟩) (hw _ (List.mem_of_getElem? (i := 43) rfl)) (ty := (.object "com/example/ferrywire/ferrywire/agent/AgentEvent$Kind")) (by decide) rfl rfl (g := (mkF m 11 #[.val (.ref o0), .val (.long q1), .second, .val (.ref o2), .val (.ref o3), .val (.long q4), .second, .val .null] [(.ref o2), (.ref o0)])) rfl rfl (hb hby d9_11)
  have F4 := (F_u_kind_o0.other W2 (Or.inr (slot_ne (Or.inr (hw _ (List.mem_of_getElem? (i := 51) rfl))) (Or.inr (hw _ (List.mem_of_getElem? (i := 49) rfl))) (by decide) (t := (.object "com/example/ferrywire/ferrywire/agent/AgentEvent$Kind")) (t' := .long) (by decide) (by decide)))).same W4
  have K5 : Keep h0 h4 [o0] := (K3.wr W4 (Or.inl (List.mem_of_getElem? (i := 0) rfl)))
  have z5 : n0 ≤ h4.size := (Nat.le_trans z3 (Keep.of_wr W4).1)
  have N4 := Fr.snoc X4 N2 g_o0
  refine Dn.by (U' := T4.setTop (mkF m 14 #[.val (.ref o0), .val (.long q1), .second, .val (.ref o2), .val (.ref o3), .val (.long q4), .second, .val .null] [])) st4 ?_
  refine Dn.by (U' := T4.setTop (mkF m 15 #[.val (.ref o0), .val (.long q1), .second, .val (.ref o2), .val (.ref o3), .val (.long q4), .second, .val .null] [(.ref o0)])) (fun _ ks => XS.aloadN X4.here hx rfl (hb hby d9_14) rfl rfl ks) ?_
  refine Dn.by (U' := T4.setTop (mkF m 17 #[.val (.ref o0), .val (.long q1), .second, .val (.ref o2), .val (.ref o3), .val (.long q4), .second, .val .null] [(.ref o3), (.ref o0)])) (fun _ ks => XS.aload X4.here hx rfl (hb hby d9_15) rfl rfl ks) ?_
  obtain ⟨T6, h6, X6, e6, W6, st6⟩ := putF X4 hx hZ hown (host := "") (Or.inl (hw _ (List.mem_of_getElem? (i := 52) rfl))) Via.refl e4 ((F_u_connectionId_o0.other W2 (Or.inr (slot_ne (Or.inr (hw _ (List.mem_of_getElem? (i := 53) rfl))) (Or.inr (hw _ (List.mem_of_getElem? (i := 49) rfl))) (by decide) (t := (.object "java/lang/String")) (t' := .long) (by decide) (by decide)))).other W4 (Or.inr (slot_ne (Or.inr (hw _ (List.mem_of_getElem? (i := 53) rfl))) (Or.inr (hw _ (List.mem_of_getElem? (i := 51) rfl))) (by decide) (t := (.object "java/lang/String")) (t' := (.object "com/example/ferrywire/ferrywire/agent/AgentEvent$Kind")) (by decide) (by decide)))) ((E_o0.wr W2).wr W4) (Or.inr ⟨(hw _ (List.mem_of_getElem? (i := 53) rfl)), rfl, hnm⟩) (hw _ (List.mem_of_getElem? (i := 43) rfl)) (ty := (.object "java/lang/String")) (by decide) rfl rfl (g := (mkF m 17 #[.val (.ref o0), .val (.long q1), .second, .val (.ref o2), .val (.ref o3), .val (.long q4), .second, .val .null] [(.ref o3), (.ref o0)])) rfl rfl (hb hby d9_17)
  have F6 := ((F_u_connectionId_o0.other W2 (Or.inr (slot_ne (Or.inr (hw _ (List.mem_of_getElem? (i := 53) rfl))) (Or.inr (hw _ (List.mem_of_getElem? (i := 49) rfl))) (by decide) (t := (.object "java/lang/String")) (t' := .long) (by decide) (by decide)))).other W4 (Or.inr (slot_ne (Or.inr (hw _ (List.mem_of_getElem? (i := 53) rfl))) (Or.inr (hw _ (List.mem_of_getElem? (i := 51) rfl))) (by decide) (t := (.object "java/lang/String")) (t' := (.object "com/example/ferrywire/ferrywire/agent/AgentEvent$Kind")) (by decide) (by decide)))).same W6
  have K7 : Keep h0 h6 [o0] := (K5.wr W6 (Or.inl (List.mem_of_getElem? (i := 0) rfl)))
  have z7 : n0 ≤ h6.size := (Nat.le_trans z5 (Keep.of_wr W6).1)
  have N6 := Fr.snoc X6 N4 g_o0
  refine Dn.by (U' := T6.setTop (mkF m 20 #[.val (.ref o0), .val (.long q1), .second, .val (.ref o2), .val (.ref o3), .val (.long q4), .second, .val .null] [])) st6 ?_
  refine Dn.by (U' := T6.setTop (mkF m 21 #[.val (.ref o0), .val (.long q1), .second, .val (.ref o2), .val (.ref o3), .val (.long q4), .second, .val .null] [(.ref o0)])) (fun _ ks => XS.aloadN X6.here hx rfl (hb hby d9_20) rfl rfl ks) ?_
  refine Dn.by (U' := T6.setTop (mkF m 23 #[.val (.ref o0), .val (.long q1), .second, .val (.ref o2), .val (.ref o3), .val (.long q4), .second, .val .null] [(.long q4), (.ref o0)])) (fun _ ks => XS.lload X6.here hx rfl (hb hby d9_21) rfl ks) ?_
  obtain ⟨T8, h8, X8, e8, W8, st8⟩ := putF X6 hx hZ hown (host := "") (Or.inl (hw _ (List.mem_of_getElem? (i := 54) rfl))) Via.refl e6 (((F_u_messageId_o0.other W2 (Or.inr (slot_ne (Or.inr (hw _ (List.mem_of_getElem? (i := 55) rfl))) (Or.inr (hw _ (List.mem_of_getElem? (i := 49) rfl))) (by decide) (t := .long) (t' := .long) (by decide) (by decide)))).other W4 (Or.inr (slot_ne (Or.inr (hw _ (List.mem_of_getElem? (i := 55) rfl))) (Or.inr (hw _ (List.mem_of_getElem? (i := 51) rfl))) (by decide) (t := .long) (t' := (.object "com/example/ferrywire/ferrywire/agent/AgentEvent$Kind")) (by decide) (by decide)))).other W6 (Or.inr (slot_ne (Or.inr (hw _ (List.mem_of_getElem? (i := 55) rfl))) (Or.inr (hw _ (List.mem_of_getElem? (i := 53) rfl))) (by decide) (t := .long) (t' := (.object "java/lang/String")) (by decide) (by decide)))) (((E_o0.wr W2).wr W4).wr W6) (Or.inr ⟨(hw _ (List.mem_of_getElem? (i := 55) rfl)), rfl, hnm⟩) (hw _ (List.mem_of_getElem? (i := 43) rfl)) (ty := .long) (by decide) rfl rfl (g := (mkF m 23 #[.val (.ref o0), .val (.long q1), .second, .val (.ref o2), .val (.ref o3), .val (.long q4), .second, .val .null] [(.long q4), (.ref o0)])) rfl rfl (hb hby d9_23)
  have F8 := (((F_u_messageId_o0.other W2 (Or.inr (slot_ne (Or.inr (hw _ (List.mem_of_getElem? (i := 55) rfl))) (Or.inr (hw _ (List.mem_of_getElem? (i := 49) rfl))) (by decide) (t := .long) (t' := .long) (by decide) (by decide)))).other W4 (Or.inr (slot_ne (Or.inr (hw _ (List.mem_of_getElem? (i := 55) rfl))) (Or.inr (hw _ (List.mem_of_getElem? (i := 51) rfl))) (by decide) (t := .long) (t' := (.object "com/example/ferrywire/ferrywire/agent/AgentEvent$Kind")) (by decide) (by decide)))).other W6 (Or.inr (slot_ne (Or.inr (hw _ (List.mem_of_getElem? (i := 55) rfl))) (Or.inr (hw _ (List.mem_of_getElem? (i := 53) rfl))) (by decide) (t := .long) (t' := (.object "java/lang/String")) (by decide) (by decide)))).same W8
  have K9 : Keep h0 h8 [o0] := (K7.wr W8 (Or.inl (List.mem_of_getElem? (i := 0) rfl)))
  have z9 : n0 ≤ h8.size := (Nat.le_trans z7 (Keep.of_wr W8).1)
  have N8 := Fr.snoc X8 N6 g_o0
  refine Dn.by (U' := T8.setTop (mkF m 26 #[.val (.ref o0), .val (.long q1), .second, .val (.ref o2), .val (.ref o3), .val (.long q4), .second, .val .null] [])) st8 ?_
  refine Dn.by (U' := T8.setTop (mkF m 27 #[.val (.ref o0), .val (.long q1), .second, .val (.ref o2), .val (.ref o3), .val (.long q4), .second, .val .null] [(.ref o0)])) (fun _ ks => XS.aloadN X8.here hx rfl (hb hby d9_26) rfl rfl ks) ?_
  refine Dn.by (U' := T8.setTop (mkF m 29 #[.val (.ref o0), .val (.long q1), .second, .val (.ref o2), .val (.ref o3), .val (.long q4), .second, .val .null] [.null, (.ref o0)])) (fun _ ks => XS.aload X8.here hx rfl (hb hby d9_27) rfl rfl ks) ?_
  obtain ⟨T10, h10, X10, e10, W10, st10⟩ := putF X8 hx hZ hown (host := "") (Or.inl (hw _ (List.mem_of_getElem? (i := 56) rfl))) Via.refl e8 ((((F_u_text_o0.other W2 (Or.inr (slot_ne (Or.inr (hw _ (List.mem_of_getElem? (i := 57) rfl))) (Or.inr (hw _ (List.mem_of_getElem? (i := 49) rfl))) (by decide) (t := (.object "java/lang/String")) (t' := .long) (by decide) (by decide)))).other W4 (Or.inr (slot_ne (Or.inr (hw _ (List.mem_of_getElem? (i := 57) rfl))) (Or.inr (hw _ (List.mem_of_getElem? (i := 51) rfl))) (by decide) (t := (.object "java/lang/String")) (t' := (.object "com/example/ferrywire/ferrywire/agent/AgentEvent$Kind")) (by decide) (by decide)))).other W6 (Or.inr (slot_ne (Or.inr (hw _ (List.mem_of_getElem? (i := 57) rfl))) (Or.inr (hw _ (List.mem_of_getElem? (i := 53) rfl))) (by decide) (t := (.object "java/lang/String")) (t' := (.object "java/lang/String")) (by decide) (by decide)))).other W8 (Or.inr (slot_ne (Or.inr (hw _ (List.mem_of_getElem? (i := 57) rfl))) (Or.inr (hw _ (List.mem_of_getElem? (i := 55) rfl))) (by decide) (t := (.object "java/lang/String")) (t' := .long) (by decide) (by decide)))) ((((E_o0.wr W2).wr W4).wr W6).wr W8) (Or.inr ⟨(hw _ (List.mem_of_getElem? (i := 57) rfl)), rfl, hnm⟩) (hw _ (List.mem_of_getElem? (i := 43) rfl)) (ty := (.object "java/lang/String")) (by decide) rfl rfl (g := (mkF m 29 #[.val (.ref o0), .val (.long q1), .second, .val (.ref o2), .val (.ref o3), .val (.long q4), .second, .val .null] [.null, (.ref o0)])) rfl rfl (hb hby d9_29)
  have F10 := ((((F_u_text_o0.other W2 (Or.inr (slot_ne (Or.inr (hw _ (List.mem_of_getElem? (i := 57) rfl))) (Or.inr (hw _ (List.mem_of_getElem? (i := 49) rfl))) (by decide) (t := (.object "java/lang/String")) (t' := .long) (by decide) (by decide)))).other W4 (Or.inr (slot_ne (Or.inr (hw _ (List.mem_of_getElem? (i := 57) rfl))) (Or.inr (hw _ (List.mem_of_getElem? (i := 51) rfl))) (by decide) (t := (.object "java/lang/String")) (t' := (.object "com/example/ferrywire/ferrywire/agent/AgentEvent$Kind")) (by decide) (by decide)))).other W6 (Or.inr (slot_ne (Or.inr (hw _ (List.mem_of_getElem? (i := 57) rfl))) (Or.inr (hw _ (List.mem_of_getElem? (i := 53) rfl))) (by decide) (t := (.object "java/lang/String")) (t' := (.object "java/lang/String")) (by decide) (by decide)))).other W8 (Or.inr (slot_ne (Or.inr (hw _ (List.mem_of_getElem? (i := 57) rfl))) (Or.inr (hw _ (List.mem_of_getElem? (i := 55) rfl))) (by decide) (t := (.object "java/lang/String")) (t' := .long) (by decide) (by decide)))).same W10
  have K11 : Keep h0 h10 [o0] := (K9.wr W10 (Or.inl (List.mem_of_getElem? (i := 0) rfl)))
  have z11 : n0 ≤ h10.size := (Nat.le_trans z9 (Keep.of_wr W10).1)
  have N10 := Fr.snoc X10 N8 g_o0
  refine Dn.by (U' := T10.setTop (mkF m 32 #[.val (.ref o0), .val (.long q1), .second, .val (.ref o2), .val (.ref o3), .val (.long q4), .second, .val .null] [])) st10 ?_
  refine Dn.out X10 (v := none) (fun _ => rfl) (BodyLoose.notSynchronized Bd) (fun _ hr => X10.returnOut hx Bd.returns (hb hby d9_32) hr) (by decide) (by decide) ?_
  rw [e10]
  exact ⟨rfl, N10, K11, (((((E_o0.wr W2).wr W4).wr W6).wr W8).wr W10), ((((F2.other W4 (Or.inr (slot_ne (Or.inr (hw _ (List.mem_of_getElem? (i := 49) rfl))) (Or.inr (hw _ (List.mem_of_getElem? (i := 51) rfl))) (by decide) (t := .long) (t' := (.object "com/example/ferrywire/ferrywire/agent/AgentEvent$Kind")) (by decide) (by decide)))).other W6 (Or.inr (slot_ne (Or.inr (hw _ (List.mem_of_getElem? (i := 49) rfl))) (Or.inr (hw _ (List.mem_of_getElem? (i := 53) rfl))) (by decide) (t := .long) (t' := (.object "java/lang/String")) (by decide) (by decide)))).other W8 (Or.inr (slot_ne (Or.inr (hw _ (List.mem_of_getElem? (i := 49) rfl))) (Or.inr (hw _ (List.mem_of_getElem? (i := 55) rfl))) (by decide) (t := .long) (t' := .long) (by decide) (by decide)))).other W10 (Or.inr (slot_ne (Or.inr (hw _ (List.mem_of_getElem? (i := 49) rfl))) (Or.inr (hw _ (List.mem_of_getElem? (i := 57) rfl))) (by decide) (t := .long) (t' := (.object "java/lang/String")) (by decide) (by decide)))), (((F4.other W6 (Or.inr (slot_ne (Or.inr (hw _ (List.mem_of_getElem? (i := 51) rfl))) (Or.inr (hw _ (List.mem_of_getElem? (i := 53) rfl))) (by decide) (t := (.object "com/example/ferrywire/ferrywire/agent/AgentEvent$Kind")) (t' := (.object "java/lang/String")) (by decide) (by decide)))).other W8 (Or.inr (slot_ne (Or.inr (hw _ (List.mem_of_getElem? (i := 51) rfl))) (Or.inr (hw _ (List.mem_of_getElem? (i := 55) rfl))) (by decide) (t := (.object "com/example/ferrywire/ferrywire/agent/AgentEvent$Kind")) (t' := .long) (by decide) (by decide)))).other W10 (Or.inr (slot_ne (Or.inr (hw _ (List.mem_of_getElem? (i := 51) rfl))) (Or.inr (hw _ (List.mem_of_getElem? (i := 57) rfl))) (by decide) (t := (.object "com/example/ferrywire/ferrywire/agent/AgentEvent$Kind")) (t' := (.object "java/lang/String")) (by decide) (by decide)))), ((F6.other W8 (Or.inr (slot_ne (Or.inr (hw _ (List.mem_of_getElem? (i := 53) rfl))) (Or.inr (hw _ (List.mem_of_getElem? (i := 55) rfl))) (by decide) (t := (.object "java/lang/String")) (t' := .long) (by decide) (by decide)))).other W10 (Or.inr (slot_ne (Or.inr (hw _ (List.mem_of_getElem? (i := 53) rfl))) (Or.inr (hw _ (List.mem_of_getElem? (i := 57) rfl))) (by decide) (t := (.object "java/lang/String")) (t' := (.object "java/lang/String")) (by decide) (by decide)))), (F8.other W10 (Or.inr (slot_ne (Or.inr (hw _ (List.mem_of_getElem? (i := 55) rfl))) (Or.inr (hw _ (List.mem_of_getElem? (i := 57) rfl))) (by decide) (t := .long) (t' := (.object "java/lang/String")) (by decide) (by decide)))), F10⟩
abbrev Rm8 : Room := { frames := 2, cells := 1, slots := 5, locals := 32 }
theorem ef_8 (m : MethodId) (o0 : Addr) (o1 : Addr) (q2 : Int64) (o3 : Addr) : entryFrame m #[(.ref o0), (.ref o1), (.long q2), (.ref o3)] 5 = mkF m 0 #[.val (.ref o0), .val (.ref o1), .val (.long q2), .second, .val (.ref o3)] [] := by first | (simp [entryFrame, mkF, argsToLocals, Value.category]; done) | rfl
def Q8 (Z : State) (o0 : Addr) (o1 : Addr) (q2 : Int64) (o3 : Addr) (h0 : Heap) (n0 : Nat) (v : Option Value) (h : Heap) (L : List Loc) : Prop := ∃ b, v = some (.ref b) ∧ Fr n0 L ∧ h0.size ≤ b ∧ Keep h0 h [] ∧ Exa Z h b "com/example/ferrywire/ferrywire/agent/AgentEvent" ∧ Fld Z h b "com/example/ferrywire/ferrywire/agent/AgentEvent" "sequence" "J" (.long (0 : Int64)) ∧ Fld Z h b "com/example/ferrywire/ferrywire/agent/AgentEvent" "kind" "Lcom/example/ferrywire/ferrywire/agent/AgentEvent$Kind;" (.ref o0) ∧ Fld Z h b "com/example/ferrywire/ferrywire/agent/AgentEvent" "connectionId" "Ljava/lang/String;" (.ref o1) ∧ Fld Z h b "com/example/ferrywire/ferrywire/agent/AgentEvent" "messageId" "J" (.long q2) ∧ Fld Z h b "com/example/ferrywire/ferrywire/agent/AgentEvent" "text" "Ljava/lang/String;" (.ref o3)
set_option maxRecDepth 65536 in
set_option maxHeartbeats 40000000 in
theorem rm8 (l : Launch) (Z : State) (a0 : Array Value) (hw : ∀ d ∈ tables_1, d.before a0 Z = true) (ws : List Jvm.Cond) (o0 : Addr) (o1 : Addr) (q2 : Int64) (o3 : Addr) (h0 : Heap) (n0 : Nat) (Z0 : n0 ≤ h0.size)  :
    MetFree l (⟨"com/example/ferrywire/ferrywire/agent/AgentEvent", "ofMessage", "(Lcom/example/ferrywire/ferrywire/agent/AgentEvent$Kind;Ljava/lang/String;JLjava/lang/String;)Lcom/example/ferrywire/ferrywire/agent/AgentEvent;"⟩ : MethodName) (head1 (Jvm.Cond.code (⟨"com/example/ferrywire/ferrywire/agent/AgentEvent", "ofMessage", "(Lcom/example/ferrywire/ferrywire/agent/AgentEvent$Kind;Ljava/lang/String;JLjava/lang/String;)Lcom/example/ferrywire/ferrywire/agent/AgentEvent;"⟩ : MethodName) prog_1_method_3_code 5 (some (.object "com/example/ferrywire/ferrywire/agent/AgentEvent")) :: ws) Rm8) (fun a U => a = #[(.ref o0), (.ref o1), (.long q2), (.ref o3)] ∧ Z.Warmed39 U.vm ∧ U.heap = h0) (fun _ _ _ _ _ => True) (fun _ U o U' => ∃ v L, o = .returned v ∧ Q8 Z o0 o1 q2 o3 h0 n0 v U'.heap L ∧ FrameEnd U o U' L Rm8.cells Rm8.slots) := by
  refine MetFree.of_bodySF (plainFor_of_name pn1) hisR ?_
  intro p e s m args below meth c s₁ Bd hml0 hP hK
  obtain ⟨rfl, hZ, hh⟩ := hP
  have hx := Bd.exec
  have hby := Bd.bytes
  have hml : c.maxLocals = 5 := hml0
  have hown : s.vm.findClass "com/example/ferrywire/ferrywire/agent/AgentEvent" = some m.cls := findClass_of_methodNamed Bd.named
  have hnm := (name_of_methodNamed Bd.named Bd.method).1
  have X0 : Stand p l e Rm8 s m #[(.ref o0), (.ref o1), (.long q2), (.ref o3)] below meth c s₁ [] 0 0 := Stand.of_body Bd
  have e0 : s₁.heap = h0 := by rw [← hh, Bd.state]; rfl
  have N0 := Fr.nil n0
  show Dn p e below s Rm8.cells Rm8.slots (Q8 Z o0 o1 q2 o3 h0 n0) (s₁.setTop (entryFrame m #[(.ref o0), (.ref o1), (.long q2), (.ref o3)] 5))
  rw [ef_8]
  obtain ⟨T1, h1, X1, e1, E1, A1, D1, -, st1⟩ := newO X0 hx hZ hown (hw _ (List.mem_of_getElem? (i := 42) rfl)) (hw _ (List.mem_of_getElem? (i := 43) rfl)) (hw _ (List.mem_of_getElem? (i := 40) rfl)) e0 (g := (mkF m 0 #[.val (.ref o0), .val (.ref o1), .val (.long q2), .second, .val (.ref o3)] [])) rfl (hb hby d8_0) (by decide) (by decide)
  obtain ⟨b1, g1⟩ : ∃ z, z = h0.size := ⟨_, rfl⟩
  rw [← g1] at A1 D1 st1
  have g_b1 : n0 ≤ b1 := Nat.le_trans Z0 (Nat.le_of_eq g1.symm)
  have sz_b1 : h0.size ≤ b1 := Nat.le_trans (Keep.refl h0 []).1 (Nat.le_of_eq g1.symm)
  have K2 : Keep h0 h1 [] := ((Keep.refl h0 []).ext E1)
  have z2 : n0 ≤ h1.size := (Nat.le_trans Z0 E1.1)
  have F_sequence_b1 : Fld Z h1 b1 "com/example/ferrywire/ferrywire/agent/AgentEvent" "sequence" "J" (.long (0 : Int64)) := D1 (Or.inr (hw _ (List.mem_of_getElem? (i := 49) rfl))) (ty := .long) (by decide)
  have F_kind_b1 : Fld Z h1 b1 "com/example/ferrywire/ferrywire/agent/AgentEvent" "kind" "Lcom/example/ferrywire/ferrywire/agent/AgentEvent$Kind;" .null := D1 (Or.inr (hw _ (List.mem_of_getElem? (i := 51) rfl))) (ty := (.object "com/example/ferrywire/ferrywire/agent/AgentEvent$Kind")) (by decide)
  have F_connectionId_b1 : Fld Z h1 b1 "com/example/ferrywire/ferrywire/agent/AgentEvent" "connectionId" "Ljava/lang/String;" .null := D1 (Or.inr (hw _ (List.mem_of_getElem? (i := 53) rfl))) (ty := (.object "java/lang/String")) (by decide)
  have F_messageId_b1 : Fld Z h1 b1 "com/example/ferrywire/ferrywire/agent/AgentEvent" "messageId" "J" (.long (0 : Int64)) := D1 (Or.inr (hw _ (List.mem_of_getElem? (i := 55) rfl))) (ty := .long) (by decide)
  have F_text_b1 : Fld Z h1 b1 "com/example/ferrywire/ferrywire/agent/AgentEvent" "text" "Ljava/lang/String;" .null := D1 (Or.inr (hw _ (List.mem_of_getElem? (i := 57) rfl))) (ty := (.object "java/lang/String")) (by decide)
  refine Dn.by (U' := T1.setTop (mkF m 3 #[.val (.ref o0), .val (.ref o1), .val (.long q2), .second, .val (.ref o3)] [(.ref b1)])) st1 ?_
  refine Dn.by (U' := T1.setTop (mkF m 4 #[.val (.ref o0), .val (.ref o1), .val (.long q2), .second, .val (.ref o3)] [(.ref b1), (.ref b1)])) (fun _ ks => XS.dup X1.here hx rfl (hb hby d8_3) rfl rfl ks) ?_
  refine Dn.by (U' := T1.setTop (mkF m 5 #[.val (.ref o0), .val (.ref o1), .val (.long q2), .second, .val (.ref o3)] [(.long (0 : Int64)), (.ref b1), (.ref b1)])) (fun _ ks => XS.lconst X1.here hx rfl (hb hby d8_4)  ks) ?_
  refine Dn.by (U' := T1.setTop (mkF m 6 #[.val (.ref o0), .val (.ref o1), .val (.long q2), .second, .val (.ref o3)] [(.ref o0), (.long (0 : Int64)), (.ref b1), (.ref b1)])) (fun _ ks => XS.aloadN X1.here hx rfl (hb hby d8_5) rfl rfl ks) ?_
  refine Dn.by (U' := T1.setTop (mkF m 7 #[.val (.ref o0), .val (.ref o1), .val (.long q2), .second, .val (.ref o3)] [(.ref o1), (.ref o0), (.long (0 : Int64)), (.ref b1), (.ref b1)])) (fun _ ks => XS.aloadN X1.here hx rfl (hb hby d8_6) rfl rfl ks) ?_
  refine Dn.by (U' := T1.setTop (mkF m 8 #[.val (.ref o0), .val (.ref o1), .val (.long q2), .second, .val (.ref o3)] [(.long q2), (.ref o1), (.ref o0), (.long (0 : Int64)), (.ref b1), (.ref b1)])) (fun _ ks => XS.lloadN X1.here hx rfl (hb hby d8_7) rfl ks) ?_
  refine Dn.by (U' := T1.setTop (mkF m 10 #[.val (.ref o0), .val (.ref o1), .val (.long q2), .second, .val (.ref o3)] [(.ref o3), (.long q2), (.ref o1), (.ref o0), (.long (0 : Int64)), (.ref b1), (.ref b1)])) (fun _ ks => XS.aload X1.here hx rfl (hb hby d8_8) rfl rfl ks) ?_
  obtain ⟨_, _, ⟨T3, L3, k3, n3⟩, -, X3, ⟨Lc3, hQ3, l3, y3, z3⟩, st3⟩ := X1.specialBack hx (y := (⟨"com/example/ferrywire/ferrywire/agent/AgentEvent", "<init>", "(JLcom/example/ferrywire/ferrywire/agent/AgentEvent$Kind;Ljava/lang/String;JLjava/lang/String;)V"⟩ : MethodName)) rfl hown (mvT hZ (hw _ (List.mem_of_getElem? (i := 44) rfl))) (mvT hZ (hw _ (List.mem_of_getElem? (i := 45) rfl))) (mvT hZ (hw _ (List.mem_of_getElem? (i := 46) rfl))) (by decide) (backOf (W := 1) (rm9 l Z a0 hw [] b1 (0 : Int64) o0 o1 q2 o3 ((.long (0 : Int64)) : Value) (.null : Value) (.null : Value) ((.long (0 : Int64)) : Value) (.null : Value) h1 n0 z2 g_b1 A1 F_sequence_b1 F_kind_b1 F_connectionId_b1 F_messageId_b1 F_text_b1) hZ (hw _ (List.mem_of_getElem? (i := 46) rfl)) (hw _ (List.mem_of_getElem? (i := 40) rfl)) (by decide) (by decide)) (g := (mkF m 10 #[.val (.ref o0), .val (.ref o1), .val (.long q2), .second, .val (.ref o3)] [(.ref o3), (.long q2), (.ref o1), (.ref o0), (.long (0 : Int64)), (.ref b1), (.ref b1)])) rfl (by rw [hml]; rfl) (Steps.refl _) (a := b1) (argsL := [(.long (0 : Int64)), (.ref o0), (.ref o1), (.long q2), (.ref o3)]) (rest := [(.ref b1)]) (lenOf pd0 rfl) rfl (by show 2 * 0 + _ ≤ _; exact Nat.le_of_eq rfl) (hb hby d8_10) (fun _ _ => ⟨rfl, e1, (by decide : 1 + 0 ≤ _), (by decide : 5 + 0 ≤ _)⟩)
  dsimp only [Pt.U, Pt.locs, Pt.cells, Pt.slots] at X3 l3 y3 z3 st3 hQ3
  rw [l3, y3, z3] at X3
  obtain ⟨rfl, N3q, KK3, EE3, FF3_0, FF3_1, FF3_2, FF3_3, FF3_4⟩ := hQ3
  have N3 := Fr.app N0 N3q
  have K4 : Keep h0 T3.heap [] := (K2.trans KK3 (allS (Or.inr sz_b1) all0))
  have z4 : n0 ≤ T3.heap.size := (Nat.le_trans z2 KK3.1)
  refine Dn.by (U' := T3.setTop (mkF m 13 #[.val (.ref o0), .val (.ref o1), .val (.long q2), .second, .val (.ref o3)] [(.ref b1)])) (fun _ ks => st3.trans ks) ?_
  refine Dn.out X3 (v := (some (.ref b1))) (fun h => by rw [Bd.returns] at h; cases h) (BodyLoose.notSynchronized Bd) (fun _ hr => retOut X3 hx Bd.returns rfl (Or.inr (Or.inr (Or.inr (Or.inr ⟨rfl, rfl, rfl⟩)))) (hb hby d8_13) hr) (by decide) (by decide) ?_
  exact ⟨b1, rfl, N3, sz_b1, K4, (A1.keep KK3), FF3_0, FF3_1, FF3_2, FF3_3, FF3_4⟩
abbrev Rm8n : Room := { frames := 2, cells := 1, slots := 5, locals := 32 }
theorem ef_8n (m : MethodId) (o0 : Addr) (o1 : Addr) (q2 : Int64) : entryFrame m #[(.ref o0), (.ref o1), (.long q2), .null] 5 = mkF m 0 #[.val (.ref o0), .val (.ref o1), .val (.long q2), .second, .val .null] [] := by first | (simp [entryFrame, mkF, argsToLocals, Value.category]; done) | rfl
def Q8n (Z : State) (o0 : Addr) (o1 : Addr) (q2 : Int64) (h0 : Heap) (n0 : Nat) (v : Option Value) (h : Heap) (L : List Loc) : Prop := ∃ b, v = some (.ref b) ∧ Fr n0 L ∧ h0.size ≤ b ∧ Keep h0 h [] ∧ Exa Z h b "com/example/ferrywire/ferrywire/agent/AgentEvent" ∧ Fld Z h b "com/example/ferrywire/ferrywire/agent/AgentEvent" "sequence" "J" (.long (0 : Int64)) ∧ Fld Z h b "com/example/ferrywire/ferrywire/agent/AgentEvent" "kind" "Lcom/example/ferrywire/ferrywire/agent/AgentEvent$Kind;" (.ref o0) ∧ Fld Z h b "com/example/ferrywire/ferrywire/agent/AgentEvent" "connectionId" "Ljava/lang/String;" (.ref o1) ∧ Fld Z h b "com/example/ferrywire/ferrywire/agent/AgentEvent" "messageId" "J" (.long q2) ∧ Fld Z h b "com/example/ferrywire/ferrywire/agent/AgentEvent" "text" "Ljava/lang/String;" .null
set_option maxRecDepth 65536 in
set_option maxHeartbeats 40000000 in
theorem rm8n (l : Launch) (Z : State) (a0 : Array Value) (hw : ∀ d ∈ tables_1, d.before a0 Z = true) (ws : List Jvm.Cond) (o0 : Addr) (o1 : Addr) (q2 : Int64) (h0 : Heap) (n0 : Nat) (Z0 : n0 ≤ h0.size)  :
    MetFree l (⟨"com/example/ferrywire/ferrywire/agent/AgentEvent", "ofMessage", "(Lcom/example/ferrywire/ferrywire/agent/AgentEvent$Kind;Ljava/lang/String;JLjava/lang/String;)Lcom/example/ferrywire/ferrywire/agent/AgentEvent;"⟩ : MethodName) (head1 (Jvm.Cond.code (⟨"com/example/ferrywire/ferrywire/agent/AgentEvent", "ofMessage", "(Lcom/example/ferrywire/ferrywire/agent/AgentEvent$Kind;Ljava/lang/String;JLjava/lang/String;)Lcom/example/ferrywire/ferrywire/agent/AgentEvent;"⟩ : MethodName) prog_1_method_3_code 5 (some (.object "com/example/ferrywire/ferrywire/agent/AgentEvent")) :: ws) Rm8n) (fun a U => a = #[(.ref o0), (.ref o1), (.long q2), .null] ∧ Z.Warmed39 U.vm ∧ U.heap = h0) (fun _ _ _ _ _ => True) (fun _ U o U' => ∃ v L, o = .returned v ∧ Q8n Z o0 o1 q2 h0 n0 v U'.heap L ∧ FrameEnd U o U' L Rm8n.cells Rm8n.slots) := by
  refine MetFree.of_bodySF (plainFor_of_name pn1) hisR ?_
  intro p e s m args below meth c s₁ Bd hml0 hP hK
  obtain ⟨rfl, hZ, hh⟩ := hP
  have hx := Bd.exec
  have hby := Bd.bytes
  have hml : c.maxLocals = 5 := hml0
  have hown : s.vm.findClass "com/example/ferrywire/ferrywire/agent/AgentEvent" = some m.cls := findClass_of_methodNamed Bd.named
  have hnm := (name_of_methodNamed Bd.named Bd.method).1
  have X0 : Stand p l e Rm8n s m #[(.ref o0), (.ref o1), (.long q2), .null] below meth c s₁ [] 0 0 := Stand.of_body Bd
  have e0 : s₁.heap = h0 := by rw [← hh, Bd.state]; rfl
  have N0 := Fr.nil n0
  show Dn p e below s Rm8n.cells Rm8n.slots (Q8n Z o0 o1 q2 h0 n0) (s₁.setTop (entryFrame m #[(.ref o0), (.ref o1), (.long q2), .null] 5))
  rw [ef_8n]
  obtain ⟨T1, h1, X1, e1, E1, A1, D1, -, st1⟩ := newO X0 hx hZ hown (hw _ (List.mem_of_getElem? (i := 42) rfl)) (hw _ (List.mem_of_getElem? (i := 43) rfl)) (hw _ (List.mem_of_getElem? (i := 40) rfl)) e0 (g := (mkF m 0 #[.val (.ref o0), .val (.ref o1), .val (.long q2), .second, .val .null] [])) rfl (hb hby d8_0) (by decide) (by decide)
  obtain ⟨b1, g1⟩ : ∃ z, z = h0.size := ⟨_, rfl⟩
  rw [← g1] at A1 D1 st1
  have g_b1 : n0 ≤ b1 := Nat.le_trans Z0 (Nat.le_of_eq g1.symm)
  have sz_b1 : h0.size ≤ b1 := Nat.le_trans (Keep.refl h0 []).1 (Nat.le_of_eq g1.symm)
  have K2 : Keep h0 h1 [] := ((Keep.refl h0 []).ext E1)
  have z2 : n0 ≤ h1.size := (Nat.le_trans Z0 E1.1)
  have F_sequence_b1 : Fld Z h1 b1 "com/example/ferrywire/ferrywire/agent/AgentEvent" "sequence" "J" (.long (0 : Int64)) := D1 (Or.inr (hw _ (List.mem_of_getElem? (i := 49) rfl))) (ty := .long) (by decide)
  have F_kind_b1 : Fld Z h1 b1 "com/example/ferrywire/ferrywire/agent/AgentEvent" "kind" "Lcom/example/ferrywire/ferrywire/agent/AgentEvent$Kind;" .null := D1 (Or.inr (hw _ (List.mem_of_getElem? (i := 51) rfl))) (ty := (.object "com/example/ferrywire/ferrywire/agent/AgentEvent$Kind")) (by decide)
  have F_connectionId_b1 : Fld Z h1 b1 "com/example/ferrywire/ferrywire/agent/AgentEvent" "connectionId" "Ljava/lang/String;" .null := D1 (Or.inr (hw _ (List.mem_of_getElem? (i := 53) rfl))) (ty := (.object "java/lang/String")) (by decide)
  have F_messageId_b1 : Fld Z h1 b1 "com/example/ferrywire/ferrywire/agent/AgentEvent" "messageId" "J" (.long (0 : Int64)) := D1 (Or.inr (hw _ (List.mem_of_getElem? (i := 55) rfl))) (ty := .long) (by decide)
  have F_text_b1 : Fld Z h1 b1 "com/example/ferrywire/ferrywire/agent/AgentEvent" "text" "Ljava/lang/String;" .null := D1 (Or.inr (hw _ (List.mem_of_getElem? (i := 57) rfl))) (ty := (.object "java/lang/String")) (by decide)
  refine Dn.by (U' := T1.setTop (mkF m 3 #[.val (.ref o0), .val (.ref o1), .val (.long q2), .second, .val .null] [(.ref b1)])) st1 ?_
  refine Dn.by (U' := T1.setTop (mkF m 4 #[.val (.ref o0), .val (.ref o1), .val (.long q2), .second, .val .null] [(.ref b1), (.ref b1)])) (fun _ ks => XS.dup X1.here hx rfl (hb hby d8_3) rfl rfl ks) ?_
  refine Dn.by (U' := T1.setTop (mkF m 5 #[.val (.ref o0), .val (.ref o1), .val (.long q2), .second, .val .null] [(.long (0 : Int64)), (.ref b1), (.ref b1)])) (fun _ ks => XS.lconst X1.here hx rfl (hb hby d8_4)  ks) ?_
  refine Dn.by (U' := T1.setTop (mkF m 6 #[.val (.ref o0), .val (.ref o1), .val (.long q2), .second, .val .null] [(.ref o0), (.long (0 : Int64)), (.ref b1), (.ref b1)])) (fun _ ks => XS.aloadN X1.here hx rfl (hb hby d8_5) rfl rfl ks) ?_
  refine Dn.by (U' := T1.setTop (mkF m 7 #[.val (.ref o0), .val (.ref o1), .val (.long q2), .second, .val .null] [(.ref o1), (.ref o0), (.long (0 : Int64)), (.ref b1), (.ref b1)])) (fun _ ks => XS.aloadN X1.here hx rfl (hb hby d8_6) rfl rfl ks) ?_
  refine Dn.by (U' := T1.setTop (mkF m 8 #[.val (.ref o0), .val (.ref o1), .val (.long q2), .second, .val .null] [(.long q2), (.ref o1), (.ref o0), (.long (0 : Int64)), (.ref b1), (.ref b1)])) (fun _ ks => XS.lloadN X1.here hx rfl (hb hby d8_7) rfl ks) ?_
  refine Dn.by (U' := T1.setTop (mkF m 10 #[.val (.ref o0), .val (.ref o1), .val (.long q2), .second, .val .null] [.null, (.long q2), (.ref o1), (.ref o0), (.long (0 : Int64)), (.ref b1), (.ref b1)])) (fun _ ks => XS.aload X1.here hx rfl (hb hby d8_8) rfl rfl ks) ?_
  obtain ⟨_, _, ⟨T3, L3, k3, n3⟩, -, X3, ⟨Lc3, hQ3, l3, y3, z3⟩, st3⟩ := X1.specialBack hx (y := (⟨"com/example/ferrywire/ferrywire/agent/AgentEvent", "<init>", "(JLcom/example/ferrywire/ferrywire/agent/AgentEvent$Kind;Ljava/lang/String;JLjava/lang/String;)V"⟩ : MethodName)) rfl hown (mvT hZ (hw _ (List.mem_of_getElem? (i := 44) rfl))) (mvT hZ (hw _ (List.mem_of_getElem? (i := 45) rfl))) (mvT hZ (hw _ (List.mem_of_getElem? (i := 46) rfl))) (by decide) (backOf (W := 1) (rm9n l Z a0 hw [] b1 (0 : Int64) o0 o1 q2 ((.long (0 : Int64)) : Value) (.null : Value) (.null : Value) ((.long (0 : Int64)) : Value) (.null : Value) h1 n0 z2 g_b1 A1 F_sequence_b1 F_kind_b1 F_connectionId_b1 F_messageId_b1 F_text_b1) hZ (hw _ (List.mem_of_getElem? (i := 46) rfl)) (hw _ (List.mem_of_getElem? (i := 40) rfl)) (by decide) (by decide)) (g := (mkF m 10 #[.val (.ref o0), .val (.ref o1), .val (.long q2), .second, .val .null] [.null, (.long q2), (.ref o1), (.ref o0), (.long (0 : Int64)), (.ref b1), (.ref b1)])) rfl (by rw [hml]; rfl) (Steps.refl _) (a := b1) (argsL := [(.long (0 : Int64)), (.ref o0), (.ref o1), (.long q2), .null]) (rest := [(.ref b1)]) (lenOf pd0 rfl) rfl (by show 2 * 0 + _ ≤ _; exact Nat.le_of_eq rfl) (hb hby d8_10) (fun _ _ => ⟨rfl, e1, (by decide : 1 + 0 ≤ _), (by decide : 5 + 0 ≤ _)⟩)
  dsimp only [Pt.U, Pt.locs, Pt.cells, Pt.slots] at X3 l3 y3 z3 st3 hQ3
  rw [l3, y3, z3] at X3
  obtain ⟨rfl, N3q, KK3, EE3, FF3_0, FF3_1, FF3_2, FF3_3, FF3_4⟩ := hQ3
  have N3 := Fr.app N0 N3q
  have K4 : Keep h0 T3.heap [] := (K2.trans KK3 (allS (Or.inr sz_b1) all0))
  have z4 : n0 ≤ T3.heap.size := (Nat.le_trans z2 KK3.1)
  refine Dn.by (U' := T3.setTop (mkF m 13 #[.val (.ref o0), .val (.ref o1), .val (.long q2), .second, .val .null] [(.ref b1)])) (fun _ ks => st3.trans ks) ?_
  refine Dn.out X3 (v := (some (.ref b1))) (fun h => by rw [Bd.returns] at h; cases h) (BodyLoose.notSynchronized Bd) (fun _ hr => retOut X3 hx Bd.returns rfl (Or.inr (Or.inr (Or.inr (Or.inr ⟨rfl, rfl, rfl⟩)))) (hb hby d8_13) hr) (by decide) (by decide) ?_
  exact ⟨b1, rfl, N3, sz_b1, K4, (A1.keep KK3), FF3_0, FF3_1, FF3_2, FF3_3, FF3_4⟩
abbrev Rm10 : Room := { frames := 0, cells := 0, slots := 0, locals := 0 }
theorem ef_10 (m : MethodId) (o0 : Addr) : entryFrame m #[(.ref o0)] 1 = mkF m 0 #[.val (.ref o0)] [] := by first | (simp [entryFrame, mkF, argsToLocals, Value.category]; done) | rfl
def Q10 (Z : State) (o0 : Addr) (u_kind_o0 : Addr) (h0 : Heap) (n0 : Nat) (v : Option Value) (h : Heap) (L : List Loc) : Prop := v = some (.ref u_kind_o0) ∧ Fr n0 L ∧ h = h0
set_option maxRecDepth 65536 in
set_option maxHeartbeats 40000000 in
theorem rm10 (l : Launch) (Z : State) (a0 : Array Value) (hw : ∀ d ∈ tables_1, d.before a0 Z = true) (ws : List Jvm.Cond) (o0 : Addr) (u_kind_o0 : Addr) (h0 : Heap) (n0 : Nat) (Z0 : n0 ≤ h0.size) (F_u_kind_o0 : Fld Z h0 o0 "com/example/ferrywire/ferrywire/agent/AgentEvent" "kind" "Lcom/example/ferrywire/ferrywire/agent/AgentEvent$Kind;" (.ref u_kind_o0)) :
    MetFree l (⟨"com/example/ferrywire/ferrywire/agent/AgentEvent", "kind", "()Lcom/example/ferrywire/ferrywire/agent/AgentEvent$Kind;"⟩ : MethodName) (head1 (Jvm.Cond.code (⟨"com/example/ferrywire/ferrywire/agent/AgentEvent", "kind", "()Lcom/example/ferrywire/ferrywire/agent/AgentEvent$Kind;"⟩ : MethodName) prog_1_method_4_code 1 (some (.object "com/example/ferrywire/ferrywire/agent/AgentEvent$Kind")) :: ws) Rm10) (fun a U => a = #[(.ref o0)] ∧ Z.Warmed39 U.vm ∧ U.heap = h0) (fun _ _ _ _ _ => True) (fun _ U o U' => ∃ v L, o = .returned v ∧ Q10 Z o0 u_kind_o0 h0 n0 v U'.heap L ∧ FrameEnd U o U' L Rm10.cells Rm10.slots) := by
  refine MetFree.of_bodySF (plainFor_of_name pn1) hisR ?_
  intro p e s m args below meth c s₁ Bd hml0 hP hK
  obtain ⟨rfl, hZ, hh⟩ := hP
  have hx := Bd.exec
  have hby := Bd.bytes
  have hml : c.maxLocals = 1 := hml0
  have hown : s.vm.findClass "com/example/ferrywire/ferrywire/agent/AgentEvent" = some m.cls := findClass_of_methodNamed Bd.named
  have hnm := (name_of_methodNamed Bd.named Bd.method).1
  have X0 : Stand p l e Rm10 s m #[(.ref o0)] below meth c s₁ [] 0 0 := Stand.of_body Bd
  have e0 : s₁.heap = h0 := by rw [← hh, Bd.state]; rfl
  have N0 := Fr.nil n0
  show Dn p e below s Rm10.cells Rm10.slots (Q10 Z o0 u_kind_o0 h0 n0) (s₁.setTop (entryFrame m #[(.ref o0)] 1))
  rw [ef_10]
  refine Dn.by (U' := s₁.setTop (mkF m 1 #[.val (.ref o0)] [(.ref o0)])) (fun _ ks => XS.aloadN X0.here hx rfl (hb hby d10_0) rfl rfl ks) ?_
  obtain ⟨T1, X1, e1, st1⟩ := getF X0 hx hZ hown (host := "") (Or.inl (hw _ (List.mem_of_getElem? (i := 50) rfl))) Via.refl e0 F_u_kind_o0 (g := (mkF m 1 #[.val (.ref o0)] [(.ref o0)])) rfl rfl (hb hby d10_1)
  refine Dn.by (U' := T1.setTop (mkF m 4 #[.val (.ref o0)] [(.ref u_kind_o0)])) st1 ?_
  refine Dn.out X1 (v := (some (.ref u_kind_o0))) (fun h => by rw [Bd.returns] at h; cases h) (BodyLoose.notSynchronized Bd) (fun _ hr => retOut X1 hx Bd.returns rfl (Or.inr (Or.inr (Or.inr (Or.inr ⟨rfl, rfl, rfl⟩)))) (hb hby d10_4) hr) (by decide) (by decide) ?_
  rw [e1]
  exact ⟨rfl, N0, rfl⟩
abbrev Rm11 : Room := { frames := 0, cells := 0, slots := 0, locals := 0 }
theorem ef_11 (m : MethodId) (o0 : Addr) : entryFrame m #[(.ref o0)] 1 = mkF m 0 #[.val (.ref o0)] [] := by first | (simp [entryFrame, mkF, argsToLocals, Value.category]; done) | rfl
def Q11 (Z : State) (o0 : Addr) (u_connectionId_o0 : Addr) (h0 : Heap) (n0 : Nat) (v : Option Value) (h : Heap) (L : List Loc) : Prop := v = some (.ref u_connectionId_o0) ∧ Fr n0 L ∧ h = h0
set_option maxRecDepth 65536 in
set_option maxHeartbeats 40000000 in
theorem rm11 (l : Launch) (Z : State) (a0 : Array Value) (hw : ∀ d ∈ tables_1, d.before a0 Z = true) (ws : List Jvm.Cond) (o0 : Addr) (u_connectionId_o0 : Addr) (h0 : Heap) (n0 : Nat) (Z0 : n0 ≤ h0.size) (F_u_connectionId_o0 : Fld Z h0 o0 "com/example/ferrywire/ferrywire/agent/AgentEvent" "connectionId" "Ljava/lang/String;" (.ref u_connectionId_o0)) :
    MetFree l (⟨"com/example/ferrywire/ferrywire/agent/AgentEvent", "connectionId", "()Ljava/lang/String;"⟩ : MethodName) (head1 (Jvm.Cond.code (⟨"com/example/ferrywire/ferrywire/agent/AgentEvent", "connectionId", "()Ljava/lang/String;"⟩ : MethodName) prog_1_method_5_code 1 (some (.object "java/lang/String")) :: ws) Rm11) (fun a U => a = #[(.ref o0)] ∧ Z.Warmed39 U.vm ∧ U.heap = h0) (fun _ _ _ _ _ => True) (fun _ U o U' => ∃ v L, o = .returned v ∧ Q11 Z o0 u_connectionId_o0 h0 n0 v U'.heap L ∧ FrameEnd U o U' L Rm11.cells Rm11.slots) := by
  refine MetFree.of_bodySF (plainFor_of_name pn1) hisR ?_
  intro p e s m args below meth c s₁ Bd hml0 hP hK
  obtain ⟨rfl, hZ, hh⟩ := hP
  have hx := Bd.exec
  have hby := Bd.bytes
  have hml : c.maxLocals = 1 := hml0
  have hown : s.vm.findClass "com/example/ferrywire/ferrywire/agent/AgentEvent" = some m.cls := findClass_of_methodNamed Bd.named
  have hnm := (name_of_methodNamed Bd.named Bd.method).1
  have X0 : Stand p l e Rm11 s m #[(.ref o0)] below meth c s₁ [] 0 0 := Stand.of_body Bd
  have e0 : s₁.heap = h0 := by rw [← hh, Bd.state]; rfl
  have N0 := Fr.nil n0
  show Dn p e below s Rm11.cells Rm11.slots (Q11 Z o0 u_connectionId_o0 h0 n0) (s₁.setTop (entryFrame m #[(.ref o0)] 1))
  rw [ef_11]
  refine Dn.by (U' := s₁.setTop (mkF m 1 #[.val (.ref o0)] [(.ref o0)])) (fun _ ks => XS.aloadN X0.here hx rfl (hb hby d11_0) rfl rfl ks) ?_
  obtain ⟨T1, X1, e1, st1⟩ := getF X0 hx hZ hown (host := "") (Or.inl (hw _ (List.mem_of_getElem? (i := 52) rfl))) Via.refl e0 F_u_connectionId_o0 (g := (mkF m 1 #[.val (.ref o0)] [(.ref o0)])) rfl rfl (hb hby d11_1)
  refine Dn.by (U' := T1.setTop (mkF m 4 #[.val (.ref o0)] [(.ref u_connectionId_o0)])) st1 ?_
  refine Dn.out X1 (v := (some (.ref u_connectionId_o0))) (fun h => by rw [Bd.returns] at h; cases h) (BodyLoose.notSynchronized Bd) (fun _ hr => retOut X1 hx Bd.returns rfl (Or.inr (Or.inr (Or.inr (Or.inr ⟨rfl, rfl, rfl⟩)))) (hb hby d11_4) hr) (by decide) (by decide) ?_
  rw [e1]
  exact ⟨rfl, N0, rfl⟩
abbrev Rm13 : Room := { frames := 0, cells := 0, slots := 0, locals := 0 }
theorem ef_13 (m : MethodId) (o0 : Addr) : entryFrame m #[(.ref o0)] 1 = mkF m 0 #[.val (.ref o0)] [] := by first | (simp [entryFrame, mkF, argsToLocals, Value.category]; done) | rfl
def Q13 (Z : State) (o0 : Addr) (u_sequence_o0 : Int64) (h0 : Heap) (n0 : Nat) (v : Option Value) (h : Heap) (L : List Loc) : Prop := v = some (.long u_sequence_o0) ∧ Fr n0 L ∧ h = h0
set_option maxRecDepth 65536 in
set_option maxHeartbeats 40000000 in
theorem rm13 (l : Launch) (Z : State) (a0 : Array Value) (hw : ∀ d ∈ tables_1, d.before a0 Z = true) (ws : List Jvm.Cond) (o0 : Addr) (u_sequence_o0 : Int64) (h0 : Heap) (n0 : Nat) (Z0 : n0 ≤ h0.size) (F_u_sequence_o0 : Fld Z h0 o0 "com/example/ferrywire/ferrywire/agent/AgentEvent" "sequence" "J" (.long u_sequence_o0)) :
    MetFree l (⟨"com/example/ferrywire/ferrywire/agent/AgentEvent", "sequence", "()J"⟩ : MethodName) (head1 (Jvm.Cond.code (⟨"com/example/ferrywire/ferrywire/agent/AgentEvent", "sequence", "()J"⟩ : MethodName) prog_1_method_8_code 1 (some .long) :: ws) Rm13) (fun a U => a = #[(.ref o0)] ∧ Z.Warmed39 U.vm ∧ U.heap = h0) (fun _ _ _ _ _ => True) (fun _ U o U' => ∃ v L, o = .returned v ∧ Q13 Z o0 u_sequence_o0 h0 n0 v U'.heap L ∧ FrameEnd U o U' L Rm13.cells Rm13.slots) := by
  refine MetFree.of_bodySF (plainFor_of_name pn1) hisR ?_
  intro p e s m args below meth c s₁ Bd hml0 hP hK
  obtain ⟨rfl, hZ, hh⟩ := hP
  have hx := Bd.exec
  have hby := Bd.bytes
  have hml : c.maxLocals = 1 := hml0
  have hown : s.vm.findClass "com/example/ferrywire/ferrywire/agent/AgentEvent" = some m.cls := findClass_of_methodNamed Bd.named
  have hnm := (name_of_methodNamed Bd.named Bd.method).1
  have X0 : Stand p l e Rm13 s m #[(.ref o0)] below meth c s₁ [] 0 0 := Stand.of_body Bd
  have e0 : s₁.heap = h0 := by rw [← hh, Bd.state]; rfl
  have N0 := Fr.nil n0
  show Dn p e below s Rm13.cells Rm13.slots (Q13 Z o0 u_sequence_o0 h0 n0) (s₁.setTop (entryFrame m #[(.ref o0)] 1))
  rw [ef_13]
  refine Dn.by (U' := s₁.setTop (mkF m 1 #[.val (.ref o0)] [(.ref o0)])) (fun _ ks => XS.aloadN X0.here hx rfl (hb hby d13_0) rfl rfl ks) ?_
  obtain ⟨T1, X1, e1, st1⟩ := getF X0 hx hZ hown (host := "") (Or.inl (hw _ (List.mem_of_getElem? (i := 48) rfl))) Via.refl e0 F_u_sequence_o0 (g := (mkF m 1 #[.val (.ref o0)] [(.ref o0)])) rfl rfl (hb hby d13_1)
  refine Dn.by (U' := T1.setTop (mkF m 4 #[.val (.ref o0)] [(.long u_sequence_o0)])) st1 ?_
  refine Dn.out X1 (v := (some (.long u_sequence_o0))) (fun h => by rw [Bd.returns] at h; cases h) (BodyLoose.notSynchronized Bd) (fun _ hr => retOut X1 hx Bd.returns rfl (Or.inr (Or.inl ⟨rfl, rfl, _, rfl⟩)) (hb hby d13_4) hr) (by decide) (by decide) ?_
  rw [e1]
  exact ⟨rfl, N0, rfl⟩
abbrev Rm12 : Room := { frames := 0, cells := 0, slots := 0, locals := 0 }
theorem ef_12 (m : MethodId) (o0 : Addr) : entryFrame m #[(.ref o0), (.ref o0)] 3 = mkF m 0 #[.val (.ref o0), .val (.ref o0), .unset] [] := by first | (simp [entryFrame, mkF, argsToLocals, Value.category]; done) | rfl
def Q12 (Z : State) (o0 : Addr) (h0 : Heap) (n0 : Nat) (v : Option Value) (h : Heap) (L : List Loc) : Prop := v = some (.int (1 : Int32)) ∧ Fr n0 L ∧ h = h0
set_option maxRecDepth 65536 in
set_option maxHeartbeats 40000000 in
theorem rm12 (l : Launch) (Z : State) (a0 : Array Value) (hw : ∀ d ∈ tables_1, d.before a0 Z = true) (ws : List Jvm.Cond) (o0 : Addr) (h0 : Heap) (n0 : Nat) (Z0 : n0 ≤ h0.size)  :
    MetFree l (⟨"java/lang/String", "equals", "(Ljava/lang/Object;)Z"⟩ : MethodName) (head1 (Jvm.Cond.code (⟨"java/lang/String", "equals", "(Ljava/lang/Object;)Z"⟩ : MethodName) jdk_42_method_66_code 3 (some .boolean) :: ws) Rm12) (fun a U => a = #[(.ref o0), (.ref o0)] ∧ Z.Warmed39 U.vm ∧ U.heap = h0) (fun _ _ _ _ _ => True) (fun _ U o U' => ∃ v L, o = .returned v ∧ Q12 Z o0 h0 n0 v U'.heap L ∧ FrameEnd U o U' L Rm12.cells Rm12.slots) := by
  refine MetFree.of_bodySF (plainFor_of_name pn2) hisR ?_
  intro p e s m args below meth c s₁ Bd hml0 hP hK
  obtain ⟨rfl, hZ, hh⟩ := hP
  have hx := Bd.exec
  have hby := Bd.bytes
  have hml : c.maxLocals = 3 := hml0
  have hown : s.vm.findClass "java/lang/String" = some m.cls := findClass_of_methodNamed Bd.named
  have hnm := (name_of_methodNamed Bd.named Bd.method).1
  have X0 : Stand p l e Rm12 s m #[(.ref o0), (.ref o0)] below meth c s₁ [] 0 0 := Stand.of_body Bd
  have e0 : s₁.heap = h0 := by rw [← hh, Bd.state]; rfl
  have N0 := Fr.nil n0
  show Dn p e below s Rm12.cells Rm12.slots (Q12 Z o0 h0 n0) (s₁.setTop (entryFrame m #[(.ref o0), (.ref o0)] 3))
  rw [ef_12]
  refine Dn.by (U' := s₁.setTop (mkF m 1 #[.val (.ref o0), .val (.ref o0), .unset] [(.ref o0)])) (fun _ ks => XS.aloadN X0.here hx rfl (hb hby d12_0) rfl rfl ks) ?_
  refine Dn.by (U' := s₁.setTop (mkF m 2 #[.val (.ref o0), .val (.ref o0), .unset] [(.ref o0), (.ref o0)])) (fun _ ks => XS.aloadN X0.here hx rfl (hb hby d12_1) rfl rfl ks) ?_
  refine Dn.by (U' := s₁.setTop (mkF m 5 #[.val (.ref o0), .val (.ref o0), .unset] [])) (fun _ ks => Jvm.RoadKit.acmp (g := (mkF m 2 #[.val (.ref o0), .val (.ref o0), .unset] [(.ref o0), (.ref o0)])) X0 hx rfl rfl rfl (pc0 := 2) (pc' := 5) (same := true) rfl (hb hby d12_2) rfl (decide_eq_true rfl) (by decide) (by decide) ks) ?_
  refine Dn.by (U' := s₁.setTop (mkF m 6 #[.val (.ref o0), .val (.ref o0), .unset] [(.int (1 : Int32))])) (fun _ ks => XS.iconst X0.here hx rfl (hb hby d12_5)  ks) ?_
  refine Dn.out X0 (v := (some (.int (1 : Int32)))) (fun h => by rw [Bd.returns] at h; cases h) (BodyLoose.notSynchronized Bd) (fun _ hr => retN X0 hx (t := .boolean) Bd.returns (by simp) (hb hby d12_6) hr) (by decide) (by decide) ?_
  rw [e0]
  exact ⟨rfl, N0, rfl⟩
abbrev Rm16 : Room := { frames := 1, cells := 0, slots := 0, locals := 12 }
theorem ef_16 (m : MethodId) (o0 : Addr) (q1 : Int64) : entryFrame m #[(.ref o0), (.long q1)] 3 = mkF m 0 #[.val (.ref o0), .val (.long q1), .second] [] := by first | (simp [entryFrame, mkF, argsToLocals, Value.category]; done) | rfl
def Q16 (Z : State) (o0 : Addr) (q1 : Int64) (u_isPresent_o0 : Value) (u_value_o0 : Value) (h0 : Heap) (n0 : Nat) (v : Option Value) (h : Heap) (L : List Loc) : Prop := v = none ∧ Fr n0 L ∧ Keep h0 h [o0] ∧ Exa Z h o0 "java/util/OptionalLong" ∧ Fld Z h o0 "java/util/OptionalLong" "isPresent" "Z" (.int (nar .boolean (1 : Int32))) ∧ Fld Z h o0 "java/util/OptionalLong" "value" "J" (.long q1)
set_option maxRecDepth 65536 in
set_option maxHeartbeats 40000000 in
theorem rm16 (l : Launch) (Z : State) (a0 : Array Value) (hw : ∀ d ∈ tables_1, d.before a0 Z = true) (ws : List Jvm.Cond) (o0 : Addr) (q1 : Int64) (u_isPresent_o0 : Value) (u_value_o0 : Value) (h0 : Heap) (n0 : Nat) (Z0 : n0 ≤ h0.size) (g_o0 : n0 ≤ o0) (E_o0 : Exa Z h0 o0 "java/util/OptionalLong") (F_u_isPresent_o0 : Fld Z h0 o0 "java/util/OptionalLong" "isPresent" "Z" u_isPresent_o0) (F_u_value_o0 : Fld Z h0 o0 "java/util/OptionalLong" "value" "J" u_value_o0) :
    MetFree l (⟨"java/util/OptionalLong", "<init>", "(J)V"⟩ : MethodName) (head1 (Jvm.Cond.code (⟨"java/util/OptionalLong", "<init>", "(J)V"⟩ : MethodName) jdk_2650_method_3_code 3 none :: ws) Rm16) (fun a U => a = #[(.ref o0), (.long q1)] ∧ Z.Warmed39 U.vm ∧ U.heap = h0) (fun _ _ _ _ _ => True) (fun _ U o U' => ∃ v L, o = .returned v ∧ Q16 Z o0 q1 u_isPresent_o0 u_value_o0 h0 n0 v U'.heap L ∧ FrameEnd U o U' L Rm16.cells Rm16.slots) := by
  refine MetFree.of_bodySF (plainFor_of_name pn3) hisR ?_
  intro p e s m args below meth c s₁ Bd hml0 hP hK
  obtain ⟨rfl, hZ, hh⟩ := hP
  have hx := Bd.exec
  have hby := Bd.bytes
  have hml : c.maxLocals = 3 := hml0
  have hown : s.vm.findClass "java/util/OptionalLong" = some m.cls := findClass_of_methodNamed Bd.named
  have hnm := (name_of_methodNamed Bd.named Bd.method).1
  have X0 : Stand p l e Rm16 s m #[(.ref o0), (.long q1)] below meth c s₁ [] 0 0 := Stand.of_body Bd
  have e0 : s₁.heap = h0 := by rw [← hh, Bd.state]; rfl
  have N0 := Fr.nil n0
  show Dn p e below s Rm16.cells Rm16.slots (Q16 Z o0 q1 u_isPresent_o0 u_value_o0 h0 n0) (s₁.setTop (entryFrame m #[(.ref o0), (.long q1)] 3))
  rw [ef_16]
  refine Dn.by (U' := s₁.setTop (mkF m 1 #[.val (.ref o0), .val (.long q1), .second] [(.ref o0)])) (fun _ ks => XS.aloadN X0.here hx rfl (hb hby d16_0) rfl rfl ks) ?_
  obtain ⟨T1, X1, e1, st1⟩ := initO X0 hx hZ hown (hw _ (List.mem_of_getElem? (i := 93) rfl)) (hw _ (List.mem_of_getElem? (i := 20) rfl)) (hw _ (List.mem_of_getElem? (i := 21) rfl)) e0 (g := (mkF m 1 #[.val (.ref o0), .val (.long q1), .second] [(.ref o0)])) rfl (by rw [hml]; rfl) rfl (hb hby d16_1) (by decide) (W := 0) (by show 2 * 0 + _ ≤ _; exact Nat.le_of_eq rfl) (by decide)
  refine Dn.by (U' := T1.setTop (mkF m 4 #[.val (.ref o0), .val (.long q1), .second] [])) st1 ?_
  refine Dn.by (U' := T1.setTop (mkF m 5 #[.val (.ref o0), .val (.long q1), .second] [(.ref o0)])) (fun _ ks => XS.aloadN X1.here hx rfl (hb hby d16_4) rfl rfl ks) ?_
  refine Dn.by (U' := T1.setTop (mkF m 6 #[.val (.ref o0), .val (.long q1), .second] [(.int (1 : Int32)), (.ref o0)])) (fun _ ks => XS.iconst X1.here hx rfl (hb hby d16_5)  ks) ?_
  obtain ⟨T2, h2, X2, e2, W2, st2⟩ := putFN X1 hx hZ hown (hw _ (List.mem_of_getElem? (i := 94) rfl)) Via.refl e1 F_u_isPresent_o0 E_o0 (Or.inr ⟨(hw _ (List.mem_of_getElem? (i := 95) rfl)), rfl, hnm⟩) (hw _ (List.mem_of_getElem? (i := 88) rfl)) (ty := .boolean) (v' := (.int (nar .boolean (1 : Int32)))) (by decide) rfl (fits_nar_bool _) (g := (mkF m 6 #[.val (.ref o0), .val (.long q1), .second] [(.int (1 : Int32)), (.ref o0)])) rfl rfl (hb hby d16_6)
  have F2 := F_u_isPresent_o0.same W2
  have K3 : Keep h0 h2 [o0] := ((Keep.refl h0 [o0]).wr W2 (Or.inl (List.mem_of_getElem? (i := 0) rfl)))
  have z3 : n0 ≤ h2.size := (Nat.le_trans Z0 (Keep.of_wr W2).1)
  have N2 := Fr.snoc X2 N0 g_o0
  refine Dn.by (U' := T2.setTop (mkF m 9 #[.val (.ref o0), .val (.long q1), .second] [])) st2 ?_
  refine Dn.by (U' := T2.setTop (mkF m 10 #[.val (.ref o0), .val (.long q1), .second] [(.ref o0)])) (fun _ ks => XS.aloadN X2.here hx rfl (hb hby d16_9) rfl rfl ks) ?_
  refine Dn.by (U' := T2.setTop (mkF m 11 #[.val (.ref o0), .val (.long q1), .second] [(.long q1), (.ref o0)])) (fun _ ks => XS.lloadN X2.here hx rfl (hb hby d16_10) rfl ks) ?_
  obtain ⟨T4, h4, X4, e4, W4, st4⟩ := putF X2 hx hZ hown (host := "") (Or.inl (hw _ (List.mem_of_getElem? (i := 96) rfl))) Via.refl e2 (F_u_value_o0.other W2 (Or.inr (slot_ne (Or.inr (hw _ (List.mem_of_getElem? (i := 97) rfl))) (Or.inr (hw _ (List.mem_of_getElem? (i := 95) rfl))) (by decide) (t := .long) (t' := .boolean) (by decide) (by decide)))) (E_o0.wr W2) (Or.inr ⟨(hw _ (List.mem_of_getElem? (i := 97) rfl)), rfl, hnm⟩) (hw _ (List.mem_of_getElem? (i := 88) rfl)) (ty := .long) (by decide) rfl rfl (g := (mkF m 11 #[.val (.ref o0), .val (.long q1), .second] [(.long q1), (.ref o0)])) rfl rfl (hb hby d16_11)
  have F4 := (F_u_value_o0.other W2 (Or.inr (slot_ne (Or.inr (hw _ (List.mem_of_getElem? (i := 97) rfl))) (Or.inr (hw _ (List.mem_of_getElem? (i := 95) rfl))) (by decide) (t := .long) (t' := .boolean) (by decide) (by decide)))).same W4
  have K5 : Keep h0 h4 [o0] := (K3.wr W4 (Or.inl (List.mem_of_getElem? (i := 0) rfl)))
  have z5 : n0 ≤ h4.size := (Nat.le_trans z3 (Keep.of_wr W4).1)
  have N4 := Fr.snoc X4 N2 g_o0
  refine Dn.by (U' := T4.setTop (mkF m 14 #[.val (.ref o0), .val (.long q1), .second] [])) st4 ?_
  refine Dn.out X4 (v := none) (fun _ => rfl) (BodyLoose.notSynchronized Bd) (fun _ hr => X4.returnOut hx Bd.returns (hb hby d16_14) hr) (by decide) (by decide) ?_
  rw [e4]
  exact ⟨rfl, N4, K5, ((E_o0.wr W2).wr W4), (F2.other W4 (Or.inr (slot_ne (Or.inr (hw _ (List.mem_of_getElem? (i := 95) rfl))) (Or.inr (hw _ (List.mem_of_getElem? (i := 97) rfl))) (by decide) (t := .boolean) (t' := .long) (by decide) (by decide)))), F4⟩
abbrev Rm15 : Room := { frames := 2, cells := 1, slots := 2, locals := 27 }
theorem ef_15 (m : MethodId) (q0 : Int64) : entryFrame m #[(.long q0)] 2 = mkF m 0 #[.val (.long q0), .second] [] := by first | (simp [entryFrame, mkF, argsToLocals, Value.category]; done) | rfl
def Q15 (Z : State) (q0 : Int64) (h0 : Heap) (n0 : Nat) (v : Option Value) (h : Heap) (L : List Loc) : Prop := ∃ b, v = some (.ref b) ∧ Fr n0 L ∧ h0.size ≤ b ∧ Keep h0 h [] ∧ Exa Z h b "java/util/OptionalLong" ∧ Fld Z h b "java/util/OptionalLong" "isPresent" "Z" (.int (nar .boolean (1 : Int32))) ∧ Fld Z h b "java/util/OptionalLong" "value" "J" (.long q0)
set_option maxRecDepth 65536 in
set_option maxHeartbeats 40000000 in
theorem rm15 (l : Launch) (Z : State) (a0 : Array Value) (hw : ∀ d ∈ tables_1, d.before a0 Z = true) (ws : List Jvm.Cond) (q0 : Int64) (h0 : Heap) (n0 : Nat) (Z0 : n0 ≤ h0.size)  :
    MetFree l (⟨"java/util/OptionalLong", "of", "(J)Ljava/util/OptionalLong;"⟩ : MethodName) (head1 (Jvm.Cond.code (⟨"java/util/OptionalLong", "of", "(J)Ljava/util/OptionalLong;"⟩ : MethodName) jdk_2650_method_4_code 2 (some (.object "java/util/OptionalLong")) :: ws) Rm15) (fun a U => a = #[(.long q0)] ∧ Z.Warmed39 U.vm ∧ U.heap = h0) (fun _ _ _ _ _ => True) (fun _ U o U' => ∃ v L, o = .returned v ∧ Q15 Z q0 h0 n0 v U'.heap L ∧ FrameEnd U o U' L Rm15.cells Rm15.slots) := by
  refine MetFree.of_bodySF (plainFor_of_name pn3) hisR ?_
  intro p e s m args below meth c s₁ Bd hml0 hP hK
  obtain ⟨rfl, hZ, hh⟩ := hP
  have hx := Bd.exec
  have hby := Bd.bytes
  have hml : c.maxLocals = 2 := hml0
  have hown : s.vm.findClass "java/util/OptionalLong" = some m.cls := findClass_of_methodNamed Bd.named
  have hnm := (name_of_methodNamed Bd.named Bd.method).1
  have X0 : Stand p l e Rm15 s m #[(.long q0)] below meth c s₁ [] 0 0 := Stand.of_body Bd
  have e0 : s₁.heap = h0 := by rw [← hh, Bd.state]; rfl
  have N0 := Fr.nil n0
  show Dn p e below s Rm15.cells Rm15.slots (Q15 Z q0 h0 n0) (s₁.setTop (entryFrame m #[(.long q0)] 2))
  rw [ef_15]
  obtain ⟨T1, h1, X1, e1, E1, A1, D1, -, st1⟩ := newO X0 hx hZ hown (hw _ (List.mem_of_getElem? (i := 87) rfl)) (hw _ (List.mem_of_getElem? (i := 88) rfl)) (hw _ (List.mem_of_getElem? (i := 85) rfl)) e0 (g := (mkF m 0 #[.val (.long q0), .second] [])) rfl (hb hby d15_0) (by decide) (by decide)
  obtain ⟨b1, g1⟩ : ∃ z, z = h0.size := ⟨_, rfl⟩
  rw [← g1] at A1 D1 st1
  have g_b1 : n0 ≤ b1 := Nat.le_trans Z0 (Nat.le_of_eq g1.symm)
  have sz_b1 : h0.size ≤ b1 := Nat.le_trans (Keep.refl h0 []).1 (Nat.le_of_eq g1.symm)
  have K2 : Keep h0 h1 [] := ((Keep.refl h0 []).ext E1)
  have z2 : n0 ≤ h1.size := (Nat.le_trans Z0 E1.1)
  have F_isPresent_b1 : Fld Z h1 b1 "java/util/OptionalLong" "isPresent" "Z" (.int (0 : Int32)) := D1 (Or.inr (hw _ (List.mem_of_getElem? (i := 95) rfl))) (ty := .boolean) (by decide)
  have F_value_b1 : Fld Z h1 b1 "java/util/OptionalLong" "value" "J" (.long (0 : Int64)) := D1 (Or.inr (hw _ (List.mem_of_getElem? (i := 97) rfl))) (ty := .long) (by decide)
  refine Dn.by (U' := T1.setTop (mkF m 3 #[.val (.long q0), .second] [(.ref b1)])) st1 ?_
  refine Dn.by (U' := T1.setTop (mkF m 4 #[.val (.long q0), .second] [(.ref b1), (.ref b1)])) (fun _ ks => XS.dup X1.here hx rfl (hb hby d15_3) rfl rfl ks) ?_
  refine Dn.by (U' := T1.setTop (mkF m 5 #[.val (.long q0), .second] [(.long q0), (.ref b1), (.ref b1)])) (fun _ ks => XS.lloadN X1.here hx rfl (hb hby d15_4) rfl ks) ?_
  obtain ⟨_, _, ⟨T3, L3, k3, n3⟩, -, X3, ⟨Lc3, hQ3, l3, y3, z3⟩, st3⟩ := X1.specialBack hx (y := (⟨"java/util/OptionalLong", "<init>", "(J)V"⟩ : MethodName)) rfl hown (mvT hZ (hw _ (List.mem_of_getElem? (i := 89) rfl))) (mvT hZ (hw _ (List.mem_of_getElem? (i := 90) rfl))) (mvT hZ (hw _ (List.mem_of_getElem? (i := 92) rfl))) (by decide) (backOf (W := 1) (rm16 l Z a0 hw [] b1 q0 ((.int (0 : Int32)) : Value) ((.long (0 : Int64)) : Value) h1 n0 z2 g_b1 A1 F_isPresent_b1 F_value_b1) hZ (hw _ (List.mem_of_getElem? (i := 92) rfl)) (hw _ (List.mem_of_getElem? (i := 85) rfl)) (by decide) (by decide)) (g := (mkF m 5 #[.val (.long q0), .second] [(.long q0), (.ref b1), (.ref b1)])) rfl (by rw [hml]; rfl) (Steps.refl _) (a := b1) (argsL := [(.long q0)]) (rest := [(.ref b1)]) (lenOf pd1 rfl) rfl (by show 2 * 0 + _ ≤ _; exact Nat.le_of_eq rfl) (hb hby d15_5) (fun _ _ => ⟨rfl, e1, (by decide : 1 + 0 ≤ _), (by decide : 2 + 0 ≤ _)⟩)
  dsimp only [Pt.U, Pt.locs, Pt.cells, Pt.slots] at X3 l3 y3 z3 st3 hQ3
  rw [l3, y3, z3] at X3
  obtain ⟨rfl, N3q, KK3, EE3, FF3_0, FF3_1⟩ := hQ3
  have N3 := Fr.app N0 N3q
  have K4 : Keep h0 T3.heap [] := (K2.trans KK3 (allS (Or.inr sz_b1) all0))
  have z4 : n0 ≤ T3.heap.size := (Nat.le_trans z2 KK3.1)
  refine Dn.by (U' := T3.setTop (mkF m 8 #[.val (.long q0), .second] [(.ref b1)])) (fun _ ks => st3.trans ks) ?_
  refine Dn.out X3 (v := (some (.ref b1))) (fun h => by rw [Bd.returns] at h; cases h) (BodyLoose.notSynchronized Bd) (fun _ hr => retOut X3 hx Bd.returns rfl (Or.inr (Or.inr (Or.inr (Or.inr ⟨rfl, rfl, rfl⟩)))) (hb hby d15_8) hr) (by decide) (by decide) ?_
  exact ⟨b1, rfl, N3, sz_b1, K4, (A1.keep KK3), FF3_0, FF3_1⟩
abbrev Rm24 : Room := { frames := 0, cells := 0, slots := 0, locals := 0 }
theorem ef_24 (m : MethodId)  : entryFrame m #[] 0 = mkF m 0 #[] [] := by first | (simp [entryFrame, mkF, argsToLocals, Value.category]; done) | rfl
def Q24 (Z : State) (s_EMPTY : Addr) (h0 : Heap) (n0 : Nat) (v : Option Value) (h : Heap) (L : List Loc) : Prop := v = some (.ref s_EMPTY) ∧ Fr n0 L ∧ h = h0
set_option maxRecDepth 65536 in
set_option maxHeartbeats 40000000 in
theorem rm24 (l : Launch) (Z : State) (a0 : Array Value) (hw : ∀ d ∈ tables_1, d.before a0 Z = true) (ws : List Jvm.Cond) (s_EMPTY : Addr) (h0 : Heap) (n0 : Nat) (Z0 : n0 ≤ h0.size) (S_EMPTY : Sta Z h0 "java/util/OptionalLong" "EMPTY" "Ljava/util/OptionalLong;" (.ref s_EMPTY)) :
    MetFree l (⟨"java/util/OptionalLong", "empty", "()Ljava/util/OptionalLong;"⟩ : MethodName) (head1 (Jvm.Cond.code (⟨"java/util/OptionalLong", "empty", "()Ljava/util/OptionalLong;"⟩ : MethodName) jdk_2650_method_2_code 0 (some (.object "java/util/OptionalLong")) :: ws) Rm24) (fun a U => a = #[] ∧ Z.Warmed39 U.vm ∧ U.heap = h0) (fun _ _ _ _ _ => True) (fun _ U o U' => ∃ v L, o = .returned v ∧ Q24 Z s_EMPTY h0 n0 v U'.heap L ∧ FrameEnd U o U' L Rm24.cells Rm24.slots) := by
  refine MetFree.of_bodySF (plainFor_of_name pn3) hisR ?_
  intro p e s m args below meth c s₁ Bd hml0 hP hK
  obtain ⟨rfl, hZ, hh⟩ := hP
  have hx := Bd.exec
  have hby := Bd.bytes
  have hml : c.maxLocals = 0 := hml0
  have hown : s.vm.findClass "java/util/OptionalLong" = some m.cls := findClass_of_methodNamed Bd.named
  have hnm := (name_of_methodNamed Bd.named Bd.method).1
  have X0 : Stand p l e Rm24 s m #[] below meth c s₁ [] 0 0 := Stand.of_body Bd
  have e0 : s₁.heap = h0 := by rw [← hh, Bd.state]; rfl
  have N0 := Fr.nil n0
  show Dn p e below s Rm24.cells Rm24.slots (Q24 Z s_EMPTY h0 n0) (s₁.setTop (entryFrame m #[] 0))
  rw [ef_24]
  obtain ⟨T1, X1, e1, st1⟩ := getS2 X0 hx hZ (a0 := a0) hown (host := "") (Or.inl (hw _ (List.mem_of_getElem? (i := 150) rfl))) Via.refl e0 S_EMPTY (g := (mkF m 0 #[] [])) rfl (hb hby d24_0)
  refine Dn.by (U' := T1.setTop (mkF m 3 #[] [(.ref s_EMPTY)])) st1 ?_
  refine Dn.out X1 (v := (some (.ref s_EMPTY))) (fun h => by rw [Bd.returns] at h; cases h) (BodyLoose.notSynchronized Bd) (fun _ hr => retOut X1 hx Bd.returns rfl (Or.inr (Or.inr (Or.inr (Or.inr ⟨rfl, rfl, rfl⟩)))) (hb hby d24_3) hr) (by decide) (by decide) ?_
  rw [e1]
  exact ⟨rfl, N0, rfl⟩
abbrev Rm17 : Room := { frames := 0, cells := 0, slots := 0, locals := 0 }
theorem ef_17 (m : MethodId) (o0 : Addr) : entryFrame m #[(.ref o0)] 1 = mkF m 0 #[.val (.ref o0)] [] := by first | (simp [entryFrame, mkF, argsToLocals, Value.category]; done) | rfl
def Q17 (Z : State) (o0 : Addr) (u_isPresent_o0 : Int32) (h0 : Heap) (n0 : Nat) (v : Option Value) (h : Heap) (L : List Loc) : Prop := v = some (.int (nar .boolean u_isPresent_o0)) ∧ Fr n0 L ∧ h = h0
set_option maxRecDepth 65536 in
set_option maxHeartbeats 40000000 in
theorem rm17 (l : Launch) (Z : State) (a0 : Array Value) (hw : ∀ d ∈ tables_1, d.before a0 Z = true) (ws : List Jvm.Cond) (o0 : Addr) (u_isPresent_o0 : Int32) (h0 : Heap) (n0 : Nat) (Z0 : n0 ≤ h0.size) (F_u_isPresent_o0 : Fld Z h0 o0 "java/util/OptionalLong" "isPresent" "Z" (.int u_isPresent_o0)) :
    MetFree l (⟨"java/util/OptionalLong", "isPresent", "()Z"⟩ : MethodName) (head1 (Jvm.Cond.code (⟨"java/util/OptionalLong", "isPresent", "()Z"⟩ : MethodName) jdk_2650_method_6_code 1 (some .boolean) :: ws) Rm17) (fun a U => a = #[(.ref o0)] ∧ Z.Warmed39 U.vm ∧ U.heap = h0) (fun _ _ _ _ _ => True) (fun _ U o U' => ∃ v L, o = .returned v ∧ Q17 Z o0 u_isPresent_o0 h0 n0 v U'.heap L ∧ FrameEnd U o U' L Rm17.cells Rm17.slots) := by
  refine MetFree.of_bodySF (plainFor_of_name pn3) hisR ?_
  intro p e s m args below meth c s₁ Bd hml0 hP hK
  obtain ⟨rfl, hZ, hh⟩ := hP
  have hx := Bd.exec
  have hby := Bd.bytes
  have hml : c.maxLocals = 1 := hml0
  have hown : s.vm.findClass "java/util/OptionalLong" = some m.cls := findClass_of_methodNamed Bd.named
  have hnm := (name_of_methodNamed Bd.named Bd.method).1
  have X0 : Stand p l e Rm17 s m #[(.ref o0)] below meth c s₁ [] 0 0 := Stand.of_body Bd
  have e0 : s₁.heap = h0 := by rw [← hh, Bd.state]; rfl
  have N0 := Fr.nil n0
  show Dn p e below s Rm17.cells Rm17.slots (Q17 Z o0 u_isPresent_o0 h0 n0) (s₁.setTop (entryFrame m #[(.ref o0)] 1))
  rw [ef_17]
  refine Dn.by (U' := s₁.setTop (mkF m 1 #[.val (.ref o0)] [(.ref o0)])) (fun _ ks => XS.aloadN X0.here hx rfl (hb hby d17_0) rfl rfl ks) ?_
  obtain ⟨T1, X1, e1, st1⟩ := getF X0 hx hZ hown (host := "") (Or.inl (hw _ (List.mem_of_getElem? (i := 94) rfl))) Via.refl e0 F_u_isPresent_o0 (g := (mkF m 1 #[.val (.ref o0)] [(.ref o0)])) rfl rfl (hb hby d17_1)
  refine Dn.by (U' := T1.setTop (mkF m 4 #[.val (.ref o0)] [(.int u_isPresent_o0)])) st1 ?_
  refine Dn.out X1 (v := (some (.int (nar .boolean u_isPresent_o0)))) (fun h => by rw [Bd.returns] at h; cases h) (BodyLoose.notSynchronized Bd) (fun _ hr => retN X1 hx (t := .boolean) Bd.returns (by simp) (hb hby d17_4) hr) (by decide) (by decide) ?_
  rw [e1]
  exact ⟨rfl, N0, rfl⟩
abbrev Rm18 : Room := { frames := 0, cells := 0, slots := 0, locals := 0 }
theorem ef_18 (m : MethodId) (o0 : Addr) : entryFrame m #[(.ref o0)] 1 = mkF m 0 #[.val (.ref o0)] [] := by first | (simp [entryFrame, mkF, argsToLocals, Value.category]; done) | rfl
def Q18 (Z : State) (o0 : Addr) (u_isPresent_o0 : Int32) (u_value_o0 : Int64) (h0 : Heap) (n0 : Nat) (v : Option Value) (h : Heap) (L : List Loc) : Prop := v = some (.long u_value_o0) ∧ Fr n0 L ∧ h = h0
set_option maxRecDepth 65536 in
set_option maxHeartbeats 40000000 in
theorem rm18 (l : Launch) (Z : State) (a0 : Array Value) (hw : ∀ d ∈ tables_1, d.before a0 Z = true) (ws : List Jvm.Cond) (o0 : Addr) (u_isPresent_o0 : Int32) (u_value_o0 : Int64) (h0 : Heap) (n0 : Nat) (Z0 : n0 ≤ h0.size) (F_u_isPresent_o0 : Fld Z h0 o0 "java/util/OptionalLong" "isPresent" "Z" (.int u_isPresent_o0)) (F_u_value_o0 : Fld Z h0 o0 "java/util/OptionalLong" "value" "J" (.long u_value_o0)) (hne : ¬ u_isPresent_o0 = (0 : Int32)) :
    MetFree l (⟨"java/util/OptionalLong", "getAsLong", "()J"⟩ : MethodName) (head1 (Jvm.Cond.code (⟨"java/util/OptionalLong", "getAsLong", "()J"⟩ : MethodName) jdk_2650_method_5_code 1 (some .long) :: ws) Rm18) (fun a U => a = #[(.ref o0)] ∧ Z.Warmed39 U.vm ∧ U.heap = h0) (fun _ _ _ _ _ => True) (fun _ U o U' => ∃ v L, o = .returned v ∧ Q18 Z o0 u_isPresent_o0 u_value_o0 h0 n0 v U'.heap L ∧ FrameEnd U o U' L Rm18.cells Rm18.slots) := by
  refine MetFree.of_bodySF (plainFor_of_name pn3) hisR ?_
  intro p e s m args below meth c s₁ Bd hml0 hP hK
  obtain ⟨rfl, hZ, hh⟩ := hP
  have hx := Bd.exec
  have hby := Bd.bytes
  have hml : c.maxLocals = 1 := hml0
  have hown : s.vm.findClass "java/util/OptionalLong" = some m.cls := findClass_of_methodNamed Bd.named
  have hnm := (name_of_methodNamed Bd.named Bd.method).1
  have X0 : Stand p l e Rm18 s m #[(.ref o0)] below meth c s₁ [] 0 0 := Stand.of_body Bd
  have e0 : s₁.heap = h0 := by rw [← hh, Bd.state]; rfl
  have N0 := Fr.nil n0
  show Dn p e below s Rm18.cells Rm18.slots (Q18 Z o0 u_isPresent_o0 u_value_o0 h0 n0) (s₁.setTop (entryFrame m #[(.ref o0)] 1))
  rw [ef_18]
  refine Dn.by (U' := s₁.setTop (mkF m 1 #[.val (.ref o0)] [(.ref o0)])) (fun _ ks => XS.aloadN X0.here hx rfl (hb hby d18_0) rfl rfl ks) ?_
  obtain ⟨T1, X1, e1, st1⟩ := getF X0 hx hZ hown (host := "") (Or.inl (hw _ (List.mem_of_getElem? (i := 94) rfl))) Via.refl e0 F_u_isPresent_o0 (g := (mkF m 1 #[.val (.ref o0)] [(.ref o0)])) rfl rfl (hb hby d18_1)
  refine Dn.by (U' := T1.setTop (mkF m 4 #[.val (.ref o0)] [(.int u_isPresent_o0)])) st1 ?_
  refine Dn.by (U' := T1.setTop (mkF m 17 #[.val (.ref o0)] [])) (fun _ ks => XS.ifYes X1.here hx rfl (pc0 := 4) (pc' := 17) rfl (hb hby d18_4) rfl ((if0 _ _).trans (feq hne).2) (by decide) (by decide) ks) ?_
  refine Dn.by (U' := T1.setTop (mkF m 18 #[.val (.ref o0)] [(.ref o0)])) (fun _ ks => XS.aloadN X1.here hx rfl (hb hby d18_17) rfl rfl ks) ?_
  obtain ⟨T2, X2, e2, st2⟩ := getF X1 hx hZ hown (host := "") (Or.inl (hw _ (List.mem_of_getElem? (i := 96) rfl))) Via.refl e1 F_u_value_o0 (g := (mkF m 18 #[.val (.ref o0)] [(.ref o0)])) rfl rfl (hb hby d18_18)
  refine Dn.by (U' := T2.setTop (mkF m 21 #[.val (.ref o0)] [(.long u_value_o0)])) st2 ?_
  refine Dn.out X2 (v := (some (.long u_value_o0))) (fun h => by rw [Bd.returns] at h; cases h) (BodyLoose.notSynchronized Bd) (fun _ hr => retOut X2 hx Bd.returns rfl (Or.inr (Or.inl ⟨rfl, rfl, _, rfl⟩)) (hb hby d18_21) hr) (by decide) (by decide) ?_
  rw [e2]
  exact ⟨rfl, N0, rfl⟩
theorem own_ne {q : Int64} (h : ¬ q = (0 : Int64)) : ¬ (if q = (0 : Int64) then (0 : Int32) else (1 : Int32)) = (0 : Int32) := by rw [if_neg h]; decide
theorem own_p1 {q : Int64} (h : ¬ q = (0 : Int64)) : nar .boolean (if q = (0 : Int64) then (0 : Int32) else (1 : Int32)) = (1 : Int32) := by rw [if_neg h]; decide
theorem own_p0 {q : Int64} (h : q = (0 : Int64)) : nar .boolean (if q = (0 : Int64) then (0 : Int32) else (1 : Int32)) = (0 : Int32) := by rw [if_pos h]; decide
abbrev Rm14 : Room := { frames := 3, cells := 1, slots := 2, locals := 40 }
theorem ef_14 (m : MethodId) (o0 : Addr) : entryFrame m #[(.ref o0)] 1 = mkF m 0 #[.val (.ref o0)] [] := by first | (simp [entryFrame, mkF, argsToLocals, Value.category]; done) | rfl
def Q14 (Z : State) (o0 : Addr) (u_messageId_o0 : Int64) (h0 : Heap) (n0 : Nat) (v : Option Value) (h : Heap) (L : List Loc) : Prop := ∃ b, v = some (.ref b) ∧ Fr n0 L ∧ Keep h0 h [] ∧ Exa Z h b "java/util/OptionalLong" ∧ Fld Z h b "java/util/OptionalLong" "isPresent" "Z" (.int (if u_messageId_o0 = (0 : Int64) then (0 : Int32) else (1 : Int32))) ∧ Fld Z h b "java/util/OptionalLong" "value" "J" (.long u_messageId_o0)
set_option maxRecDepth 65536 in
set_option maxHeartbeats 40000000 in
theorem rm14 (l : Launch) (Z : State) (a0 : Array Value) (hw : ∀ d ∈ tables_1, d.before a0 Z = true) (ws : List Jvm.Cond) (o0 : Addr) (u_messageId_o0 : Int64) (h0 : Heap) (n0 : Nat) (Z0 : n0 ≤ h0.size) (F_u_messageId_o0 : Fld Z h0 o0 "com/example/ferrywire/ferrywire/agent/AgentEvent" "messageId" "J" (.long u_messageId_o0)) (O0 : Old Z n0 h0) (el : Addr) (S_el : Sta Z Z.heap "java/util/OptionalLong" "EMPTY" "Ljava/util/OptionalLong;" (.ref el)) (E_el : Exa Z Z.heap el "java/util/OptionalLong") (F_ip : Fld Z Z.heap el "java/util/OptionalLong" "isPresent" "Z" (.int (0 : Int32))) (F_vl : Fld Z Z.heap el "java/util/OptionalLong" "value" "J" (.long (0 : Int64))) :
    MetFree l (⟨"com/example/ferrywire/ferrywire/agent/AgentEvent", "messageId", "()Ljava/util/OptionalLong;"⟩ : MethodName) (head1 (Jvm.Cond.code (⟨"com/example/ferrywire/ferrywire/agent/AgentEvent", "messageId", "()Ljava/util/OptionalLong;"⟩ : MethodName) prog_1_method_6_code 1 (some (.object "java/util/OptionalLong")) :: ws) Rm14) (fun a U => a = #[(.ref o0)] ∧ Z.Warmed39 U.vm ∧ U.heap = h0) (fun _ _ _ _ _ => True) (fun _ U o U' => ∃ v L, o = .returned v ∧ Q14 Z o0 u_messageId_o0 h0 n0 v U'.heap L ∧ FrameEnd U o U' L Rm14.cells Rm14.slots) := by
  refine MetFree.of_bodySF (plainFor_of_name pn1) hisR ?_
  intro p e s m args below meth c s₁ Bd hml0 hP hK
  obtain ⟨rfl, hZ, hh⟩ := hP
  have hx := Bd.exec
  have hby := Bd.bytes
  have hml : c.maxLocals = 1 := hml0
  have hown : s.vm.findClass "com/example/ferrywire/ferrywire/agent/AgentEvent" = some m.cls := findClass_of_methodNamed Bd.named
  have hnm := (name_of_methodNamed Bd.named Bd.method).1
  have X0 : Stand p l e Rm14 s m #[(.ref o0)] below meth c s₁ [] 0 0 := Stand.of_body Bd
  have e0 : s₁.heap = h0 := by rw [← hh, Bd.state]; rfl
  have N0 := Fr.nil n0
  show Dn p e below s Rm14.cells Rm14.slots (Q14 Z o0 u_messageId_o0 h0 n0) (s₁.setTop (entryFrame m #[(.ref o0)] 1))
  rw [ef_14]
  refine Dn.by (U' := s₁.setTop (mkF m 1 #[.val (.ref o0)] [(.ref o0)])) (fun _ ks => XS.aloadN X0.here hx rfl (hb hby d14_0) rfl rfl ks) ?_
  obtain ⟨T1, X1, e1, st1⟩ := getF X0 hx hZ hown (host := "") (Or.inl (hw _ (List.mem_of_getElem? (i := 54) rfl))) Via.refl e0 F_u_messageId_o0 (g := (mkF m 1 #[.val (.ref o0)] [(.ref o0)])) rfl rfl (hb hby d14_1)
  refine Dn.by (U' := T1.setTop (mkF m 4 #[.val (.ref o0)] [(.long u_messageId_o0)])) st1 ?_
  refine Dn.by (U' := T1.setTop (mkF m 5 #[.val (.ref o0)] [(.long (0 : Int64)), (.long u_messageId_o0)])) (fun _ ks => XS.lconst X1.here hx rfl (hb hby d14_4)  ks) ?_
  refine Dn.by (U' := T1.setTop (mkF m 6 #[.val (.ref o0)] [(.int (lcmpW u_messageId_o0 (0 : Int64)))])) (fun _ ks => XS.lcmp X1.here hx rfl (hb hby d14_5) rfl ks) ?_
  by_cases c6_2 : u_messageId_o0 = (0 : Int64)
  ·
    refine Dn.by (U' := T1.setTop (mkF m 9 #[.val (.ref o0)] [])) (fun _ ks => XS.ifNo X1.here hx rfl (hb hby d14_6) rfl ((if0 _ _).trans (teq ((lw_eq _ _).mpr c6_2)).2) ks) ?_
    obtain ⟨_, _, ⟨T3, L3, k3, n3⟩, -, X3, ⟨Lc3, hQ3, l3, y3, z3⟩, st3⟩ := Jvm.LawKit.callS X1 hx (y := (⟨"java/util/OptionalLong", "empty", "()Ljava/util/OptionalLong;"⟩ : MethodName)) hown (mvT hZ (hw _ (List.mem_of_getElem? (i := 147) rfl))) (mvT hZ (hw _ (List.mem_of_getElem? (i := 148) rfl))) (mvT hZ (hw _ (List.mem_of_getElem? (i := 85) rfl))) (mvT hZ (hw _ (List.mem_of_getElem? (i := 149) rfl))) (by decide) (backOf (W := 0) (rm24 l Z a0 hw []  el h0 n0 Z0 (S_el.ext O0.2)) hZ (hw _ (List.mem_of_getElem? (i := 149) rfl)) (hw _ (List.mem_of_getElem? (i := 85) rfl)) (by decide) (by decide)) (g := (mkF m 9 #[.val (.ref o0)] [])) rfl (by rw [hml]; rfl) (argsL := []) (rest := []) (lenOf pd2 rfl) rfl (by show 2 * 0 + _ ≤ _; exact Nat.le_of_eq rfl) (hb hby d14_9) (fun _ _ => ⟨rfl, e1, (by decide : 0 + 0 ≤ _), (by decide : 0 + 0 ≤ _)⟩)
    dsimp only [Pt.U, Pt.locs, Pt.cells, Pt.slots] at X3 l3 y3 z3 st3 hQ3
    rw [l3, y3, z3] at X3
    obtain ⟨rfl, N3q, e3⟩ := hQ3
    have N3 := Fr.app N0 N3q
    refine Dn.by (U' := T3.setTop (mkF m 12 #[.val (.ref o0)] [(.ref el)])) st3 ?_
    refine Dn.by (U' := T3.setTop (mkF m 22 #[.val (.ref o0)] [(.ref el)])) (fun _ ks => XS.goto X3.here hx rfl (pc0 := 12) (pc' := 22) rfl (hb hby d14_12) (by decide) (by decide) ks) ?_
    refine Dn.out X3 (v := (some (.ref el))) (fun h => by rw [Bd.returns] at h; cases h) (BodyLoose.notSynchronized Bd) (fun _ hr => retOut X3 hx Bd.returns rfl (Or.inr (Or.inr (Or.inr (Or.inr ⟨rfl, rfl, rfl⟩)))) (hb hby d14_22) hr) (by decide) (by decide) ?_
    rw [e3]
    exact ⟨el, rfl, N3, (Keep.refl h0 []), E_el.ext O0.2, by rw [if_pos c6_2]; exact F_ip.ext O0.2, by rw [c6_2]; exact F_vl.ext O0.2⟩
  ·
    refine Dn.by (U' := T1.setTop (mkF m 15 #[.val (.ref o0)] [])) (fun _ ks => XS.ifYes X1.here hx rfl (pc0 := 6) (pc' := 15) rfl (hb hby d14_6) rfl ((if0 _ _).trans (feq (fun z => c6_2 ((lw_eq _ _).mp z))).2) (by decide) (by decide) ks) ?_
    refine Dn.by (U' := T1.setTop (mkF m 16 #[.val (.ref o0)] [(.ref o0)])) (fun _ ks => XS.aloadN X1.here hx rfl (hb hby d14_15) rfl rfl ks) ?_
    obtain ⟨T4, X4, e4, st4⟩ := getF X1 hx hZ hown (host := "") (Or.inl (hw _ (List.mem_of_getElem? (i := 54) rfl))) Via.refl e1 F_u_messageId_o0 (g := (mkF m 16 #[.val (.ref o0)] [(.ref o0)])) rfl rfl (hb hby d14_16)
    refine Dn.by (U' := T4.setTop (mkF m 19 #[.val (.ref o0)] [(.long u_messageId_o0)])) st4 ?_
    obtain ⟨_, _, ⟨T5, L5, k5, n5⟩, -, X5, ⟨Lc5, hQ5, l5, y5, z5⟩, st5⟩ := Jvm.LawKit.callS X4 hx (y := (⟨"java/util/OptionalLong", "of", "(J)Ljava/util/OptionalLong;"⟩ : MethodName)) hown (mvT hZ (hw _ (List.mem_of_getElem? (i := 83) rfl))) (mvT hZ (hw _ (List.mem_of_getElem? (i := 84) rfl))) (mvT hZ (hw _ (List.mem_of_getElem? (i := 85) rfl))) (mvT hZ (hw _ (List.mem_of_getElem? (i := 86) rfl))) (by decide) (backOf (W := 0) (rm15 l Z a0 hw [] u_messageId_o0  h0 n0 Z0 ) hZ (hw _ (List.mem_of_getElem? (i := 86) rfl)) (hw _ (List.mem_of_getElem? (i := 85) rfl)) (by decide) (by decide)) (g := (mkF m 19 #[.val (.ref o0)] [(.long u_messageId_o0)])) rfl (by rw [hml]; rfl) (argsL := [(.long u_messageId_o0)]) (rest := []) (lenOf pd3 rfl) rfl (by show 2 * 0 + _ ≤ _; exact Nat.le_of_eq rfl) (hb hby d14_19) (fun _ _ => ⟨rfl, e4, (by decide : 0 + 1 ≤ _), (by decide : 0 + 2 ≤ _)⟩)
    dsimp only [Pt.U, Pt.locs, Pt.cells, Pt.slots] at X5 l5 y5 z5 st5 hQ5
    rw [l5, y5, z5] at X5
    obtain ⟨b5, rfl, N5q, zz5, KK5, EE5, FF5_0, FF5_1⟩ := hQ5
    have N5 := Fr.app N0 N5q
    have g_b5 : n0 ≤ b5 := Nat.le_trans Z0 zz5
    have sz_b5 : h0.size ≤ b5 := Nat.le_trans (Keep.refl h0 []).1 zz5
    have ne_o0_b5 : o0 ≠ b5 := Nat.ne_of_lt (Nat.lt_of_lt_of_le F_u_messageId_o0.lt zz5)
    have K6 : Keep h0 T5.heap [] := ((Keep.refl h0 []).trans KK5 all0)
    have z6 : n0 ≤ T5.heap.size := (Nat.le_trans Z0 KK5.1)
    have O6 : Old Z n0 T5.heap := O0.keep KK5 all0
    refine Dn.by (U' := T5.setTop (mkF m 22 #[.val (.ref o0)] [(.ref b5)])) st5 ?_
    refine Dn.out X5 (v := (some (.ref b5))) (fun h => by rw [Bd.returns] at h; cases h) (BodyLoose.notSynchronized Bd) (fun _ hr => retOut X5 hx Bd.returns rfl (Or.inr (Or.inr (Or.inr (Or.inr ⟨rfl, rfl, rfl⟩)))) (hb hby d14_22) hr) (by decide) (by decide) ?_
    exact ⟨b5, rfl, N5, K6, EE5, by rw [if_neg c6_2]; exact FF5_0, FF5_1⟩
abbrev Rm21 : Room := { frames := 1, cells := 0, slots := 0, locals := 12 }
theorem ef_21 (m : MethodId) (o0 : Addr) (o1 : Addr) : entryFrame m #[(.ref o0), (.ref o1)] 2 = mkF m 0 #[.val (.ref o0), .val (.ref o1)] [] := by first | (simp [entryFrame, mkF, argsToLocals, Value.category]; done) | rfl
def Q21 (Z : State) (o0 : Addr) (o1 : Addr) (u_value_o0 : Value) (h0 : Heap) (n0 : Nat) (v : Option Value) (h : Heap) (L : List Loc) : Prop := v = none ∧ Fr n0 L ∧ Keep h0 h [o0] ∧ Exa Z h o0 "java/util/Optional" ∧ Fld Z h o0 "java/util/Optional" "value" "Ljava/lang/Object;" (.ref o1)
set_option maxRecDepth 65536 in
set_option maxHeartbeats 40000000 in
theorem rm21 (l : Launch) (Z : State) (a0 : Array Value) (hw : ∀ d ∈ tables_1, d.before a0 Z = true) (ws : List Jvm.Cond) (o0 : Addr) (o1 : Addr) (u_value_o0 : Value) (h0 : Heap) (n0 : Nat) (Z0 : n0 ≤ h0.size) (g_o0 : n0 ≤ o0) (E_o0 : Exa Z h0 o0 "java/util/Optional") (F_u_value_o0 : Fld Z h0 o0 "java/util/Optional" "value" "Ljava/lang/Object;" u_value_o0) :
    MetFree l (⟨"java/util/Optional", "<init>", "(Ljava/lang/Object;)V"⟩ : MethodName) (head1 (Jvm.Cond.code (⟨"java/util/Optional", "<init>", "(Ljava/lang/Object;)V"⟩ : MethodName) jdk_32_method_2_code 2 none :: ws) Rm21) (fun a U => a = #[(.ref o0), (.ref o1)] ∧ Z.Warmed39 U.vm ∧ U.heap = h0) (fun _ _ _ _ _ => True) (fun _ U o U' => ∃ v L, o = .returned v ∧ Q21 Z o0 o1 u_value_o0 h0 n0 v U'.heap L ∧ FrameEnd U o U' L Rm21.cells Rm21.slots) := by
  refine MetFree.of_bodySF (plainFor_of_name pn4) hisR ?_
  intro p e s m args below meth c s₁ Bd hml0 hP hK
  obtain ⟨rfl, hZ, hh⟩ := hP
  have hx := Bd.exec
  have hby := Bd.bytes
  have hml : c.maxLocals = 2 := hml0
  have hown : s.vm.findClass "java/util/Optional" = some m.cls := findClass_of_methodNamed Bd.named
  have hnm := (name_of_methodNamed Bd.named Bd.method).1
  have X0 : Stand p l e Rm21 s m #[(.ref o0), (.ref o1)] below meth c s₁ [] 0 0 := Stand.of_body Bd
  have e0 : s₁.heap = h0 := by rw [← hh, Bd.state]; rfl
  have N0 := Fr.nil n0
  show Dn p e below s Rm21.cells Rm21.slots (Q21 Z o0 o1 u_value_o0 h0 n0) (s₁.setTop (entryFrame m #[(.ref o0), (.ref o1)] 2))
  rw [ef_21]
  refine Dn.by (U' := s₁.setTop (mkF m 1 #[.val (.ref o0), .val (.ref o1)] [(.ref o0)])) (fun _ ks => XS.aloadN X0.here hx rfl (hb hby d21_0) rfl rfl ks) ?_
  obtain ⟨T1, X1, e1, st1⟩ := initO X0 hx hZ hown (hw _ (List.mem_of_getElem? (i := 123) rfl)) (hw _ (List.mem_of_getElem? (i := 20) rfl)) (hw _ (List.mem_of_getElem? (i := 21) rfl)) e0 (g := (mkF m 1 #[.val (.ref o0), .val (.ref o1)] [(.ref o0)])) rfl (by rw [hml]; rfl) rfl (hb hby d21_1) (by decide) (W := 0) (by show 2 * 0 + _ ≤ _; exact Nat.le_of_eq rfl) (by decide)
  refine Dn.by (U' := T1.setTop (mkF m 4 #[.val (.ref o0), .val (.ref o1)] [])) st1 ?_
  refine Dn.by (U' := T1.setTop (mkF m 5 #[.val (.ref o0), .val (.ref o1)] [(.ref o0)])) (fun _ ks => XS.aloadN X1.here hx rfl (hb hby d21_4) rfl rfl ks) ?_
  refine Dn.by (U' := T1.setTop (mkF m 6 #[.val (.ref o0), .val (.ref o1)] [(.ref o1), (.ref o0)])) (fun _ ks => XS.aloadN X1.here hx rfl (hb hby d21_5) rfl rfl ks) ?_
  obtain ⟨T2, h2, X2, e2, W2, st2⟩ := putF X1 hx hZ hown (host := "") (Or.inl (hw _ (List.mem_of_getElem? (i := 124) rfl))) Via.refl e1 F_u_value_o0 E_o0 (Or.inr ⟨(hw _ (List.mem_of_getElem? (i := 125) rfl)), rfl, hnm⟩) (hw _ (List.mem_of_getElem? (i := 118) rfl)) (ty := (.object "java/lang/Object")) (by decide) rfl rfl (g := (mkF m 6 #[.val (.ref o0), .val (.ref o1)] [(.ref o1), (.ref o0)])) rfl rfl (hb hby d21_6)
  have F2 := F_u_value_o0.same W2
  have K3 : Keep h0 h2 [o0] := ((Keep.refl h0 [o0]).wr W2 (Or.inl (List.mem_of_getElem? (i := 0) rfl)))
  have z3 : n0 ≤ h2.size := (Nat.le_trans Z0 (Keep.of_wr W2).1)
  have N2 := Fr.snoc X2 N0 g_o0
  refine Dn.by (U' := T2.setTop (mkF m 9 #[.val (.ref o0), .val (.ref o1)] [])) st2 ?_
  refine Dn.out X2 (v := none) (fun _ => rfl) (BodyLoose.notSynchronized Bd) (fun _ hr => X2.returnOut hx Bd.returns (hb hby d21_9) hr) (by decide) (by decide) ?_
  rw [e2]
  exact ⟨rfl, N2, K3, (E_o0.wr W2), F2⟩
abbrev Rm20 : Room := { frames := 2, cells := 1, slots := 1, locals := 26 }
theorem ef_20 (m : MethodId) (o0 : Addr) : entryFrame m #[(.ref o0)] 1 = mkF m 0 #[.val (.ref o0)] [] := by first | (simp [entryFrame, mkF, argsToLocals, Value.category]; done) | rfl
def Q20 (Z : State) (o0 : Addr) (h0 : Heap) (n0 : Nat) (v : Option Value) (h : Heap) (L : List Loc) : Prop := ∃ b, v = some (.ref b) ∧ Fr n0 L ∧ h0.size ≤ b ∧ Keep h0 h [] ∧ Exa Z h b "java/util/Optional" ∧ Fld Z h b "java/util/Optional" "value" "Ljava/lang/Object;" (.ref o0)
set_option maxRecDepth 65536 in
set_option maxHeartbeats 40000000 in
theorem rm20 (l : Launch) (Z : State) (a0 : Array Value) (hw : ∀ d ∈ tables_1, d.before a0 Z = true) (ws : List Jvm.Cond) (o0 : Addr) (h0 : Heap) (n0 : Nat) (Z0 : n0 ≤ h0.size)  :
    MetFree l (⟨"java/util/Optional", "ofNullable", "(Ljava/lang/Object;)Ljava/util/Optional;"⟩ : MethodName) (head1 (Jvm.Cond.code (⟨"java/util/Optional", "ofNullable", "(Ljava/lang/Object;)Ljava/util/Optional;"⟩ : MethodName) jdk_32_method_4_code 1 (some (.object "java/util/Optional")) :: ws) Rm20) (fun a U => a = #[(.ref o0)] ∧ Z.Warmed39 U.vm ∧ U.heap = h0) (fun _ _ _ _ _ => True) (fun _ U o U' => ∃ v L, o = .returned v ∧ Q20 Z o0 h0 n0 v U'.heap L ∧ FrameEnd U o U' L Rm20.cells Rm20.slots) := by
  refine MetFree.of_bodySF (plainFor_of_name pn4) hisR ?_
  intro p e s m args below meth c s₁ Bd hml0 hP hK
  obtain ⟨rfl, hZ, hh⟩ := hP
  have hx := Bd.exec
  have hby := Bd.bytes
  have hml : c.maxLocals = 1 := hml0
  have hown : s.vm.findClass "java/util/Optional" = some m.cls := findClass_of_methodNamed Bd.named
  have hnm := (name_of_methodNamed Bd.named Bd.method).1
  have X0 : Stand p l e Rm20 s m #[(.ref o0)] below meth c s₁ [] 0 0 := Stand.of_body Bd
  have e0 : s₁.heap = h0 := by rw [← hh, Bd.state]; rfl
  have N0 := Fr.nil n0
  show Dn p e below s Rm20.cells Rm20.slots (Q20 Z o0 h0 n0) (s₁.setTop (entryFrame m #[(.ref o0)] 1))
  rw [ef_20]
  refine Dn.by (U' := s₁.setTop (mkF m 1 #[.val (.ref o0)] [(.ref o0)])) (fun _ ks => XS.aloadN X0.here hx rfl (hb hby d20_0) rfl rfl ks) ?_
  refine Dn.by (U' := s₁.setTop (mkF m 10 #[.val (.ref o0)] [])) (fun _ ks => XS.ifnonnullYes X0.here hx rfl (pc0 := 1) (pc' := 10) rfl (hb hby d20_1) rfl (by decide) (by decide) ks) ?_
  obtain ⟨T1, h1, X1, e1, E1, A1, D1, -, st1⟩ := newO X0 hx hZ hown (hw _ (List.mem_of_getElem? (i := 117) rfl)) (hw _ (List.mem_of_getElem? (i := 118) rfl)) (hw _ (List.mem_of_getElem? (i := 115) rfl)) e0 (g := (mkF m 10 #[.val (.ref o0)] [])) rfl (hb hby d20_10) (by decide) (by decide)
  obtain ⟨b1, g1⟩ : ∃ z, z = h0.size := ⟨_, rfl⟩
  rw [← g1] at A1 D1 st1
  have g_b1 : n0 ≤ b1 := Nat.le_trans Z0 (Nat.le_of_eq g1.symm)
  have sz_b1 : h0.size ≤ b1 := Nat.le_trans (Keep.refl h0 []).1 (Nat.le_of_eq g1.symm)
  have K2 : Keep h0 h1 [] := ((Keep.refl h0 []).ext E1)
  have z2 : n0 ≤ h1.size := (Nat.le_trans Z0 E1.1)
  have F_value_b1 : Fld Z h1 b1 "java/util/Optional" "value" "Ljava/lang/Object;" .null := D1 (Or.inr (hw _ (List.mem_of_getElem? (i := 125) rfl))) (ty := (.object "java/lang/Object")) (by decide)
  refine Dn.by (U' := T1.setTop (mkF m 13 #[.val (.ref o0)] [(.ref b1)])) st1 ?_
  refine Dn.by (U' := T1.setTop (mkF m 14 #[.val (.ref o0)] [(.ref b1), (.ref b1)])) (fun _ ks => XS.dup X1.here hx rfl (hb hby d20_13) rfl rfl ks) ?_
  refine Dn.by (U' := T1.setTop (mkF m 15 #[.val (.ref o0)] [(.ref o0), (.ref b1), (.ref b1)])) (fun _ ks => XS.aloadN X1.here hx rfl (hb hby d20_14) rfl rfl ks) ?_
  obtain ⟨_, _, ⟨T3, L3, k3, n3⟩, -, X3, ⟨Lc3, hQ3, l3, y3, z3⟩, st3⟩ := X1.specialBack hx (y := (⟨"java/util/Optional", "<init>", "(Ljava/lang/Object;)V"⟩ : MethodName)) rfl hown (mvT hZ (hw _ (List.mem_of_getElem? (i := 119) rfl))) (mvT hZ (hw _ (List.mem_of_getElem? (i := 120) rfl))) (mvT hZ (hw _ (List.mem_of_getElem? (i := 122) rfl))) (by decide) (backOf (W := 1) (rm21 l Z a0 hw [] b1 o0 (.null : Value) h1 n0 z2 g_b1 A1 F_value_b1) hZ (hw _ (List.mem_of_getElem? (i := 122) rfl)) (hw _ (List.mem_of_getElem? (i := 115) rfl)) (by decide) (by decide)) (g := (mkF m 15 #[.val (.ref o0)] [(.ref o0), (.ref b1), (.ref b1)])) rfl (by rw [hml]; rfl) (Steps.refl _) (a := b1) (argsL := [(.ref o0)]) (rest := [(.ref b1)]) (lenOf pd4 rfl) rfl (by show 2 * 0 + _ ≤ _; exact Nat.le_of_eq rfl) (hb hby d20_15) (fun _ _ => ⟨rfl, e1, (by decide : 1 + 0 ≤ _), (by decide : 1 + 0 ≤ _)⟩)
  dsimp only [Pt.U, Pt.locs, Pt.cells, Pt.slots] at X3 l3 y3 z3 st3 hQ3
  rw [l3, y3, z3] at X3
  obtain ⟨rfl, N3q, KK3, EE3, FF3_0⟩ := hQ3
  have N3 := Fr.app N0 N3q
  have K4 : Keep h0 T3.heap [] := (K2.trans KK3 (allS (Or.inr sz_b1) all0))
  have z4 : n0 ≤ T3.heap.size := (Nat.le_trans z2 KK3.1)
  refine Dn.by (U' := T3.setTop (mkF m 18 #[.val (.ref o0)] [(.ref b1)])) (fun _ ks => st3.trans ks) ?_
  refine Dn.out X3 (v := (some (.ref b1))) (fun h => by rw [Bd.returns] at h; cases h) (BodyLoose.notSynchronized Bd) (fun _ hr => retOut X3 hx Bd.returns rfl (Or.inr (Or.inr (Or.inr (Or.inr ⟨rfl, rfl, rfl⟩)))) (hb hby d20_18) hr) (by decide) (by decide) ?_
  exact ⟨b1, rfl, N3, sz_b1, K4, (A1.keep KK3), FF3_0⟩
abbrev Rm20n : Room := { frames := 0, cells := 0, slots := 0, locals := 0 }
theorem ef_20n (m : MethodId)  : entryFrame m #[.null] 1 = mkF m 0 #[.val .null] [] := by first | (simp [entryFrame, mkF, argsToLocals, Value.category]; done) | rfl
def Q20n (Z : State) (s_EMPTY : Addr) (h0 : Heap) (n0 : Nat) (v : Option Value) (h : Heap) (L : List Loc) : Prop := v = some (.ref s_EMPTY) ∧ Fr n0 L ∧ h = h0
set_option maxRecDepth 65536 in
set_option maxHeartbeats 40000000 in
theorem rm20n (l : Launch) (Z : State) (a0 : Array Value) (hw : ∀ d ∈ tables_1, d.before a0 Z = true) (ws : List Jvm.Cond) (s_EMPTY : Addr) (h0 : Heap) (n0 : Nat) (Z0 : n0 ≤ h0.size) (S_EMPTY : Sta Z h0 "java/util/Optional" "EMPTY" "Ljava/util/Optional;" (.ref s_EMPTY)) :
    MetFree l (⟨"java/util/Optional", "ofNullable", "(Ljava/lang/Object;)Ljava/util/Optional;"⟩ : MethodName) (head1 (Jvm.Cond.code (⟨"java/util/Optional", "ofNullable", "(Ljava/lang/Object;)Ljava/util/Optional;"⟩ : MethodName) jdk_32_method_4_code 1 (some (.object "java/util/Optional")) :: ws) Rm20n) (fun a U => a = #[.null] ∧ Z.Warmed39 U.vm ∧ U.heap = h0) (fun _ _ _ _ _ => True) (fun _ U o U' => ∃ v L, o = .returned v ∧ Q20n Z s_EMPTY h0 n0 v U'.heap L ∧ FrameEnd U o U' L Rm20n.cells Rm20n.slots) := by
  refine MetFree.of_bodySF (plainFor_of_name pn4) hisR ?_
  intro p e s m args below meth c s₁ Bd hml0 hP hK
  obtain ⟨rfl, hZ, hh⟩ := hP
  have hx := Bd.exec
  have hby := Bd.bytes
  have hml : c.maxLocals = 1 := hml0
  have hown : s.vm.findClass "java/util/Optional" = some m.cls := findClass_of_methodNamed Bd.named
  have hnm := (name_of_methodNamed Bd.named Bd.method).1
  have X0 : Stand p l e Rm20n s m #[.null] below meth c s₁ [] 0 0 := Stand.of_body Bd
  have e0 : s₁.heap = h0 := by rw [← hh, Bd.state]; rfl
  have N0 := Fr.nil n0
  show Dn p e below s Rm20n.cells Rm20n.slots (Q20n Z s_EMPTY h0 n0) (s₁.setTop (entryFrame m #[.null] 1))
  rw [ef_20n]
  refine Dn.by (U' := s₁.setTop (mkF m 1 #[.val .null] [.null])) (fun _ ks => XS.aloadN X0.here hx rfl (hb hby d20_0) rfl rfl ks) ?_
  refine Dn.by (U' := s₁.setTop (mkF m 4 #[.val .null] [])) (fun _ ks => XS.ifnonnullNo X0.here hx rfl (hb hby d20_1) rfl ks) ?_
  obtain ⟨T1, X1, e1, st1⟩ := getS2 X0 hx hZ (a0 := a0) hown (host := "") (Or.inl (hw _ (List.mem_of_getElem? (i := 138) rfl))) Via.refl e0 S_EMPTY (g := (mkF m 4 #[.val .null] [])) rfl (hb hby d20_4)
  refine Dn.by (U' := T1.setTop (mkF m 7 #[.val .null] [(.ref s_EMPTY)])) st1 ?_
  refine Dn.by (U' := T1.setTop (mkF m 18 #[.val .null] [(.ref s_EMPTY)])) (fun _ ks => XS.goto X1.here hx rfl (pc0 := 7) (pc' := 18) rfl (hb hby d20_7) (by decide) (by decide) ks) ?_
  refine Dn.out X1 (v := (some (.ref s_EMPTY))) (fun h => by rw [Bd.returns] at h; cases h) (BodyLoose.notSynchronized Bd) (fun _ hr => retOut X1 hx Bd.returns rfl (Or.inr (Or.inr (Or.inr (Or.inr ⟨rfl, rfl, rfl⟩)))) (hb hby d20_18) hr) (by decide) (by decide) ?_
  rw [e1]
  exact ⟨rfl, N0, rfl⟩
abbrev Rm19 : Room := { frames := 3, cells := 1, slots := 1, locals := 38 }
theorem ef_19 (m : MethodId) (o0 : Addr) : entryFrame m #[(.ref o0)] 1 = mkF m 0 #[.val (.ref o0)] [] := by first | (simp [entryFrame, mkF, argsToLocals, Value.category]; done) | rfl
def Q19 (Z : State) (o0 : Addr) (u_text_o0 : Addr) (h0 : Heap) (n0 : Nat) (v : Option Value) (h : Heap) (L : List Loc) : Prop := ∃ b, v = some (.ref b) ∧ Fr n0 L ∧ h0.size ≤ b ∧ Keep h0 h [] ∧ Exa Z h b "java/util/Optional" ∧ Fld Z h b "java/util/Optional" "value" "Ljava/lang/Object;" (.ref u_text_o0)
set_option maxRecDepth 65536 in
set_option maxHeartbeats 40000000 in
theorem rm19 (l : Launch) (Z : State) (a0 : Array Value) (hw : ∀ d ∈ tables_1, d.before a0 Z = true) (ws : List Jvm.Cond) (o0 : Addr) (u_text_o0 : Addr) (h0 : Heap) (n0 : Nat) (Z0 : n0 ≤ h0.size) (F_u_text_o0 : Fld Z h0 o0 "com/example/ferrywire/ferrywire/agent/AgentEvent" "text" "Ljava/lang/String;" (.ref u_text_o0)) :
    MetFree l (⟨"com/example/ferrywire/ferrywire/agent/AgentEvent", "text", "()Ljava/util/Optional;"⟩ : MethodName) (head1 (Jvm.Cond.code (⟨"com/example/ferrywire/ferrywire/agent/AgentEvent", "text", "()Ljava/util/Optional;"⟩ : MethodName) prog_1_method_7_code 1 (some (.object "java/util/Optional")) :: ws) Rm19) (fun a U => a = #[(.ref o0)] ∧ Z.Warmed39 U.vm ∧ U.heap = h0) (fun _ _ _ _ _ => True) (fun _ U o U' => ∃ v L, o = .returned v ∧ Q19 Z o0 u_text_o0 h0 n0 v U'.heap L ∧ FrameEnd U o U' L Rm19.cells Rm19.slots) := by
  refine MetFree.of_bodySF (plainFor_of_name pn1) hisR ?_
  intro p e s m args below meth c s₁ Bd hml0 hP hK
  obtain ⟨rfl, hZ, hh⟩ := hP
  have hx := Bd.exec
  have hby := Bd.bytes
  have hml : c.maxLocals = 1 := hml0
  have hown : s.vm.findClass "com/example/ferrywire/ferrywire/agent/AgentEvent" = some m.cls := findClass_of_methodNamed Bd.named
  have hnm := (name_of_methodNamed Bd.named Bd.method).1
  have X0 : Stand p l e Rm19 s m #[(.ref o0)] below meth c s₁ [] 0 0 := Stand.of_body Bd
  have e0 : s₁.heap = h0 := by rw [← hh, Bd.state]; rfl
  have N0 := Fr.nil n0
  show Dn p e below s Rm19.cells Rm19.slots (Q19 Z o0 u_text_o0 h0 n0) (s₁.setTop (entryFrame m #[(.ref o0)] 1))
  rw [ef_19]
  refine Dn.by (U' := s₁.setTop (mkF m 1 #[.val (.ref o0)] [(.ref o0)])) (fun _ ks => XS.aloadN X0.here hx rfl (hb hby d19_0) rfl rfl ks) ?_
  obtain ⟨T1, X1, e1, st1⟩ := getF X0 hx hZ hown (host := "") (Or.inl (hw _ (List.mem_of_getElem? (i := 56) rfl))) Via.refl e0 F_u_text_o0 (g := (mkF m 1 #[.val (.ref o0)] [(.ref o0)])) rfl rfl (hb hby d19_1)
  refine Dn.by (U' := T1.setTop (mkF m 4 #[.val (.ref o0)] [(.ref u_text_o0)])) st1 ?_
  obtain ⟨_, _, ⟨T2, L2, k2, n2⟩, -, X2, ⟨Lc2, hQ2, l2, y2, z2⟩, st2⟩ := Jvm.LawKit.callS X1 hx (y := (⟨"java/util/Optional", "ofNullable", "(Ljava/lang/Object;)Ljava/util/Optional;"⟩ : MethodName)) hown (mvT hZ (hw _ (List.mem_of_getElem? (i := 113) rfl))) (mvT hZ (hw _ (List.mem_of_getElem? (i := 114) rfl))) (mvT hZ (hw _ (List.mem_of_getElem? (i := 115) rfl))) (mvT hZ (hw _ (List.mem_of_getElem? (i := 116) rfl))) (by decide) (backOf (W := 0) (rm20 l Z a0 hw [] u_text_o0  h0 n0 Z0 ) hZ (hw _ (List.mem_of_getElem? (i := 116) rfl)) (hw _ (List.mem_of_getElem? (i := 115) rfl)) (by decide) (by decide)) (g := (mkF m 4 #[.val (.ref o0)] [(.ref u_text_o0)])) rfl (by rw [hml]; rfl) (argsL := [(.ref u_text_o0)]) (rest := []) (lenOf pd5 rfl) rfl (by show 2 * 0 + _ ≤ _; exact Nat.le_of_eq rfl) (hb hby d19_4) (fun _ _ => ⟨rfl, e1, (by decide : 0 + 1 ≤ _), (by decide : 0 + 1 ≤ _)⟩)
  dsimp only [Pt.U, Pt.locs, Pt.cells, Pt.slots] at X2 l2 y2 z2 st2 hQ2
  rw [l2, y2, z2] at X2
  obtain ⟨b2, rfl, N2q, zz2, KK2, EE2, FF2_0⟩ := hQ2
  have N2 := Fr.app N0 N2q
  have g_b2 : n0 ≤ b2 := Nat.le_trans Z0 zz2
  have sz_b2 : h0.size ≤ b2 := Nat.le_trans (Keep.refl h0 []).1 zz2
  have ne_o0_b2 : o0 ≠ b2 := Nat.ne_of_lt (Nat.lt_of_lt_of_le F_u_text_o0.lt zz2)
  have K3 : Keep h0 T2.heap [] := ((Keep.refl h0 []).trans KK2 all0)
  have z3 : n0 ≤ T2.heap.size := (Nat.le_trans Z0 KK2.1)
  refine Dn.by (U' := T2.setTop (mkF m 7 #[.val (.ref o0)] [(.ref b2)])) st2 ?_
  refine Dn.out X2 (v := (some (.ref b2))) (fun h => by rw [Bd.returns] at h; cases h) (BodyLoose.notSynchronized Bd) (fun _ hr => retOut X2 hx Bd.returns rfl (Or.inr (Or.inr (Or.inr (Or.inr ⟨rfl, rfl, rfl⟩)))) (hb hby d19_7) hr) (by decide) (by decide) ?_
  exact ⟨b2, rfl, N2, sz_b2, K3, EE2, FF2_0⟩
abbrev Rm19n : Room := { frames := 1, cells := 0, slots := 0, locals := 12 }
theorem ef_19n (m : MethodId) (o0 : Addr) : entryFrame m #[(.ref o0)] 1 = mkF m 0 #[.val (.ref o0)] [] := by first | (simp [entryFrame, mkF, argsToLocals, Value.category]; done) | rfl
def Q19n (Z : State) (o0 : Addr) (s_EMPTY : Addr) (h0 : Heap) (n0 : Nat) (v : Option Value) (h : Heap) (L : List Loc) : Prop := v = some (.ref s_EMPTY) ∧ Fr n0 L ∧ h = h0
set_option maxRecDepth 65536 in
set_option maxHeartbeats 40000000 in
theorem rm19n (l : Launch) (Z : State) (a0 : Array Value) (hw : ∀ d ∈ tables_1, d.before a0 Z = true) (ws : List Jvm.Cond) (o0 : Addr) (s_EMPTY : Addr) (h0 : Heap) (n0 : Nat) (Z0 : n0 ≤ h0.size) (F_n_text_o0 : Fld Z h0 o0 "com/example/ferrywire/ferrywire/agent/AgentEvent" "text" "Ljava/lang/String;" .null) (S_EMPTY : Sta Z h0 "java/util/Optional" "EMPTY" "Ljava/util/Optional;" (.ref s_EMPTY)) :
    MetFree l (⟨"com/example/ferrywire/ferrywire/agent/AgentEvent", "text", "()Ljava/util/Optional;"⟩ : MethodName) (head1 (Jvm.Cond.code (⟨"com/example/ferrywire/ferrywire/agent/AgentEvent", "text", "()Ljava/util/Optional;"⟩ : MethodName) prog_1_method_7_code 1 (some (.object "java/util/Optional")) :: ws) Rm19n) (fun a U => a = #[(.ref o0)] ∧ Z.Warmed39 U.vm ∧ U.heap = h0) (fun _ _ _ _ _ => True) (fun _ U o U' => ∃ v L, o = .returned v ∧ Q19n Z o0 s_EMPTY h0 n0 v U'.heap L ∧ FrameEnd U o U' L Rm19n.cells Rm19n.slots) := by
  refine MetFree.of_bodySF (plainFor_of_name pn1) hisR ?_
  intro p e s m args below meth c s₁ Bd hml0 hP hK
  obtain ⟨rfl, hZ, hh⟩ := hP
  have hx := Bd.exec
  have hby := Bd.bytes
  have hml : c.maxLocals = 1 := hml0
  have hown : s.vm.findClass "com/example/ferrywire/ferrywire/agent/AgentEvent" = some m.cls := findClass_of_methodNamed Bd.named
  have hnm := (name_of_methodNamed Bd.named Bd.method).1
  have X0 : Stand p l e Rm19n s m #[(.ref o0)] below meth c s₁ [] 0 0 := Stand.of_body Bd
  have e0 : s₁.heap = h0 := by rw [← hh, Bd.state]; rfl
  have N0 := Fr.nil n0
  show Dn p e below s Rm19n.cells Rm19n.slots (Q19n Z o0 s_EMPTY h0 n0) (s₁.setTop (entryFrame m #[(.ref o0)] 1))
  rw [ef_19n]
  refine Dn.by (U' := s₁.setTop (mkF m 1 #[.val (.ref o0)] [(.ref o0)])) (fun _ ks => XS.aloadN X0.here hx rfl (hb hby d19_0) rfl rfl ks) ?_
  obtain ⟨T1, X1, e1, st1⟩ := getF X0 hx hZ hown (host := "") (Or.inl (hw _ (List.mem_of_getElem? (i := 56) rfl))) Via.refl e0 F_n_text_o0 (g := (mkF m 1 #[.val (.ref o0)] [(.ref o0)])) rfl rfl (hb hby d19_1)
  refine Dn.by (U' := T1.setTop (mkF m 4 #[.val (.ref o0)] [.null])) st1 ?_
  obtain ⟨_, _, ⟨T2, L2, k2, n2⟩, -, X2, ⟨Lc2, hQ2, l2, y2, z2⟩, st2⟩ := Jvm.LawKit.callS X1 hx (y := (⟨"java/util/Optional", "ofNullable", "(Ljava/lang/Object;)Ljava/util/Optional;"⟩ : MethodName)) hown (mvT hZ (hw _ (List.mem_of_getElem? (i := 113) rfl))) (mvT hZ (hw _ (List.mem_of_getElem? (i := 114) rfl))) (mvT hZ (hw _ (List.mem_of_getElem? (i := 115) rfl))) (mvT hZ (hw _ (List.mem_of_getElem? (i := 116) rfl))) (by decide) (backOf (W := 0) (rm20n l Z a0 hw []  s_EMPTY h0 n0 Z0 S_EMPTY) hZ (hw _ (List.mem_of_getElem? (i := 116) rfl)) (hw _ (List.mem_of_getElem? (i := 115) rfl)) (by decide) (by decide)) (g := (mkF m 4 #[.val (.ref o0)] [.null])) rfl (by rw [hml]; rfl) (argsL := [.null]) (rest := []) (lenOf pd5 rfl) rfl (by show 2 * 0 + _ ≤ _; exact Nat.le_of_eq rfl) (hb hby d19_4) (fun _ _ => ⟨rfl, e1, (by decide : 0 + 0 ≤ _), (by decide : 0 + 0 ≤ _)⟩)
  dsimp only [Pt.U, Pt.locs, Pt.cells, Pt.slots] at X2 l2 y2 z2 st2 hQ2
  rw [l2, y2, z2] at X2
  obtain ⟨rfl, N2q, e2⟩ := hQ2
  have N2 := Fr.app N0 N2q
  refine Dn.by (U' := T2.setTop (mkF m 7 #[.val (.ref o0)] [(.ref s_EMPTY)])) st2 ?_
  refine Dn.out X2 (v := (some (.ref s_EMPTY))) (fun h => by rw [Bd.returns] at h; cases h) (BodyLoose.notSynchronized Bd) (fun _ hr => retOut X2 hx Bd.returns rfl (Or.inr (Or.inr (Or.inr (Or.inr ⟨rfl, rfl, rfl⟩)))) (hb hby d19_7) hr) (by decide) (by decide) ?_
  rw [e2]
  exact ⟨rfl, N2, rfl⟩
abbrev Rm22 : Room := { frames := 0, cells := 0, slots := 0, locals := 0 }
theorem ef_22 (m : MethodId) (o0 : Addr) : entryFrame m #[(.ref o0)] 1 = mkF m 0 #[.val (.ref o0)] [] := by first | (simp [entryFrame, mkF, argsToLocals, Value.category]; done) | rfl
def Q22 (Z : State) (o0 : Addr) (u_value_o0 : Addr) (h0 : Heap) (n0 : Nat) (v : Option Value) (h : Heap) (L : List Loc) : Prop := v = some (.int (1 : Int32)) ∧ Fr n0 L ∧ h = h0
set_option maxRecDepth 65536 in
set_option maxHeartbeats 40000000 in
theorem rm22 (l : Launch) (Z : State) (a0 : Array Value) (hw : ∀ d ∈ tables_1, d.before a0 Z = true) (ws : List Jvm.Cond) (o0 : Addr) (u_value_o0 : Addr) (h0 : Heap) (n0 : Nat) (Z0 : n0 ≤ h0.size) (F_u_value_o0 : Fld Z h0 o0 "java/util/Optional" "value" "Ljava/lang/Object;" (.ref u_value_o0)) :
    MetFree l (⟨"java/util/Optional", "isPresent", "()Z"⟩ : MethodName) (head1 (Jvm.Cond.code (⟨"java/util/Optional", "isPresent", "()Z"⟩ : MethodName) jdk_32_method_6_code 1 (some .boolean) :: ws) Rm22) (fun a U => a = #[(.ref o0)] ∧ Z.Warmed39 U.vm ∧ U.heap = h0) (fun _ _ _ _ _ => True) (fun _ U o U' => ∃ v L, o = .returned v ∧ Q22 Z o0 u_value_o0 h0 n0 v U'.heap L ∧ FrameEnd U o U' L Rm22.cells Rm22.slots) := by
  refine MetFree.of_bodySF (plainFor_of_name pn4) hisR ?_
  intro p e s m args below meth c s₁ Bd hml0 hP hK
  obtain ⟨rfl, hZ, hh⟩ := hP
  have hx := Bd.exec
  have hby := Bd.bytes
  have hml : c.maxLocals = 1 := hml0
  have hown : s.vm.findClass "java/util/Optional" = some m.cls := findClass_of_methodNamed Bd.named
  have hnm := (name_of_methodNamed Bd.named Bd.method).1
  have X0 : Stand p l e Rm22 s m #[(.ref o0)] below meth c s₁ [] 0 0 := Stand.of_body Bd
  have e0 : s₁.heap = h0 := by rw [← hh, Bd.state]; rfl
  have N0 := Fr.nil n0
  show Dn p e below s Rm22.cells Rm22.slots (Q22 Z o0 u_value_o0 h0 n0) (s₁.setTop (entryFrame m #[(.ref o0)] 1))
  rw [ef_22]
  refine Dn.by (U' := s₁.setTop (mkF m 1 #[.val (.ref o0)] [(.ref o0)])) (fun _ ks => XS.aloadN X0.here hx rfl (hb hby d22_0) rfl rfl ks) ?_
  obtain ⟨T1, X1, e1, st1⟩ := getF X0 hx hZ hown (host := "") (Or.inl (hw _ (List.mem_of_getElem? (i := 124) rfl))) Via.refl e0 F_u_value_o0 (g := (mkF m 1 #[.val (.ref o0)] [(.ref o0)])) rfl rfl (hb hby d22_1)
  refine Dn.by (U' := T1.setTop (mkF m 4 #[.val (.ref o0)] [(.ref u_value_o0)])) st1 ?_
  refine Dn.by (U' := T1.setTop (mkF m 7 #[.val (.ref o0)] [])) (fun _ ks => XS.ifnullNo X1.here hx rfl (hb hby d22_4) rfl ks) ?_
  refine Dn.by (U' := T1.setTop (mkF m 8 #[.val (.ref o0)] [(.int (1 : Int32))])) (fun _ ks => XS.iconst X1.here hx rfl (hb hby d22_7)  ks) ?_
  refine Dn.by (U' := T1.setTop (mkF m 12 #[.val (.ref o0)] [(.int (1 : Int32))])) (fun _ ks => XS.goto X1.here hx rfl (pc0 := 8) (pc' := 12) rfl (hb hby d22_8) (by decide) (by decide) ks) ?_
  refine Dn.out X1 (v := (some (.int (1 : Int32)))) (fun h => by rw [Bd.returns] at h; cases h) (BodyLoose.notSynchronized Bd) (fun _ hr => retN X1 hx (t := .boolean) Bd.returns (by simp) (hb hby d22_12) hr) (by decide) (by decide) ?_
  rw [e1]
  exact ⟨rfl, N0, rfl⟩
abbrev Rm22n : Room := { frames := 0, cells := 0, slots := 0, locals := 0 }
theorem ef_22n (m : MethodId) (o0 : Addr) : entryFrame m #[(.ref o0)] 1 = mkF m 0 #[.val (.ref o0)] [] := by first | (simp [entryFrame, mkF, argsToLocals, Value.category]; done) | rfl
def Q22n (Z : State) (o0 : Addr) (h0 : Heap) (n0 : Nat) (v : Option Value) (h : Heap) (L : List Loc) : Prop := v = some (.int (0 : Int32)) ∧ Fr n0 L ∧ h = h0
set_option maxRecDepth 65536 in
set_option maxHeartbeats 40000000 in
theorem rm22n (l : Launch) (Z : State) (a0 : Array Value) (hw : ∀ d ∈ tables_1, d.before a0 Z = true) (ws : List Jvm.Cond) (o0 : Addr) (h0 : Heap) (n0 : Nat) (Z0 : n0 ≤ h0.size) (F_n_value_o0 : Fld Z h0 o0 "java/util/Optional" "value" "Ljava/lang/Object;" .null) :
    MetFree l (⟨"java/util/Optional", "isPresent", "()Z"⟩ : MethodName) (head1 (Jvm.Cond.code (⟨"java/util/Optional", "isPresent", "()Z"⟩ : MethodName) jdk_32_method_6_code 1 (some .boolean) :: ws) Rm22n) (fun a U => a = #[(.ref o0)] ∧ Z.Warmed39 U.vm ∧ U.heap = h0) (fun _ _ _ _ _ => True) (fun _ U o U' => ∃ v L, o = .returned v ∧ Q22n Z o0 h0 n0 v U'.heap L ∧ FrameEnd U o U' L Rm22n.cells Rm22n.slots) := by
  refine MetFree.of_bodySF (plainFor_of_name pn4) hisR ?_
  intro p e s m args below meth c s₁ Bd hml0 hP hK
  obtain ⟨rfl, hZ, hh⟩ := hP
  have hx := Bd.exec
  have hby := Bd.bytes
  have hml : c.maxLocals = 1 := hml0
  have hown : s.vm.findClass "java/util/Optional" = some m.cls := findClass_of_methodNamed Bd.named
  have hnm := (name_of_methodNamed Bd.named Bd.method).1
  have X0 : Stand p l e Rm22n s m #[(.ref o0)] below meth c s₁ [] 0 0 := Stand.of_body Bd
  have e0 : s₁.heap = h0 := by rw [← hh, Bd.state]; rfl
  have N0 := Fr.nil n0
  show Dn p e below s Rm22n.cells Rm22n.slots (Q22n Z o0 h0 n0) (s₁.setTop (entryFrame m #[(.ref o0)] 1))
  rw [ef_22n]
  refine Dn.by (U' := s₁.setTop (mkF m 1 #[.val (.ref o0)] [(.ref o0)])) (fun _ ks => XS.aloadN X0.here hx rfl (hb hby d22_0) rfl rfl ks) ?_
  obtain ⟨T1, X1, e1, st1⟩ := getF X0 hx hZ hown (host := "") (Or.inl (hw _ (List.mem_of_getElem? (i := 124) rfl))) Via.refl e0 F_n_value_o0 (g := (mkF m 1 #[.val (.ref o0)] [(.ref o0)])) rfl rfl (hb hby d22_1)
  refine Dn.by (U' := T1.setTop (mkF m 4 #[.val (.ref o0)] [.null])) st1 ?_
  refine Dn.by (U' := T1.setTop (mkF m 11 #[.val (.ref o0)] [])) (fun _ ks => XS.ifnullYes X1.here hx rfl (pc0 := 4) (pc' := 11) rfl (hb hby d22_4) rfl (by decide) (by decide) ks) ?_
  refine Dn.by (U' := T1.setTop (mkF m 12 #[.val (.ref o0)] [(.int (0 : Int32))])) (fun _ ks => XS.iconst X1.here hx rfl (hb hby d22_11)  ks) ?_
  refine Dn.out X1 (v := (some (.int (0 : Int32)))) (fun h => by rw [Bd.returns] at h; cases h) (BodyLoose.notSynchronized Bd) (fun _ hr => retN X1 hx (t := .boolean) Bd.returns (by simp) (hb hby d22_12) hr) (by decide) (by decide) ?_
  rw [e1]
  exact ⟨rfl, N0, rfl⟩
abbrev Rm23 : Room := { frames := 0, cells := 0, slots := 0, locals := 0 }
theorem ef_23 (m : MethodId) (o0 : Addr) : entryFrame m #[(.ref o0)] 1 = mkF m 0 #[.val (.ref o0)] [] := by first | (simp [entryFrame, mkF, argsToLocals, Value.category]; done) | rfl
def Q23 (Z : State) (o0 : Addr) (u_value_o0 : Addr) (h0 : Heap) (n0 : Nat) (v : Option Value) (h : Heap) (L : List Loc) : Prop := v = some (.ref u_value_o0) ∧ Fr n0 L ∧ h = h0
set_option maxRecDepth 65536 in
set_option maxHeartbeats 40000000 in
theorem rm23 (l : Launch) (Z : State) (a0 : Array Value) (hw : ∀ d ∈ tables_1, d.before a0 Z = true) (ws : List Jvm.Cond) (o0 : Addr) (u_value_o0 : Addr) (h0 : Heap) (n0 : Nat) (Z0 : n0 ≤ h0.size) (F_u_value_o0 : Fld Z h0 o0 "java/util/Optional" "value" "Ljava/lang/Object;" (.ref u_value_o0)) :
    MetFree l (⟨"java/util/Optional", "get", "()Ljava/lang/Object;"⟩ : MethodName) (head1 (Jvm.Cond.code (⟨"java/util/Optional", "get", "()Ljava/lang/Object;"⟩ : MethodName) jdk_32_method_5_code 1 (some (.object "java/lang/Object")) :: ws) Rm23) (fun a U => a = #[(.ref o0)] ∧ Z.Warmed39 U.vm ∧ U.heap = h0) (fun _ _ _ _ _ => True) (fun _ U o U' => ∃ v L, o = .returned v ∧ Q23 Z o0 u_value_o0 h0 n0 v U'.heap L ∧ FrameEnd U o U' L Rm23.cells Rm23.slots) := by
  refine MetFree.of_bodySF (plainFor_of_name pn4) hisR ?_
  intro p e s m args below meth c s₁ Bd hml0 hP hK
  obtain ⟨rfl, hZ, hh⟩ := hP
  have hx := Bd.exec
  have hby := Bd.bytes
  have hml : c.maxLocals = 1 := hml0
  have hown : s.vm.findClass "java/util/Optional" = some m.cls := findClass_of_methodNamed Bd.named
  have hnm := (name_of_methodNamed Bd.named Bd.method).1
  have X0 : Stand p l e Rm23 s m #[(.ref o0)] below meth c s₁ [] 0 0 := Stand.of_body Bd
  have e0 : s₁.heap = h0 := by rw [← hh, Bd.state]; rfl
  have N0 := Fr.nil n0
  show Dn p e below s Rm23.cells Rm23.slots (Q23 Z o0 u_value_o0 h0 n0) (s₁.setTop (entryFrame m #[(.ref o0)] 1))
  rw [ef_23]
  refine Dn.by (U' := s₁.setTop (mkF m 1 #[.val (.ref o0)] [(.ref o0)])) (fun _ ks => XS.aloadN X0.here hx rfl (hb hby d23_0) rfl rfl ks) ?_
  obtain ⟨T1, X1, e1, st1⟩ := getF X0 hx hZ hown (host := "") (Or.inl (hw _ (List.mem_of_getElem? (i := 124) rfl))) Via.refl e0 F_u_value_o0 (g := (mkF m 1 #[.val (.ref o0)] [(.ref o0)])) rfl rfl (hb hby d23_1)
  refine Dn.by (U' := T1.setTop (mkF m 4 #[.val (.ref o0)] [(.ref u_value_o0)])) st1 ?_
  refine Dn.by (U' := T1.setTop (mkF m 17 #[.val (.ref o0)] [])) (fun _ ks => XS.ifnonnullYes X1.here hx rfl (pc0 := 4) (pc' := 17) rfl (hb hby d23_4) rfl (by decide) (by decide) ks) ?_
  refine Dn.by (U' := T1.setTop (mkF m 18 #[.val (.ref o0)] [(.ref o0)])) (fun _ ks => XS.aloadN X1.here hx rfl (hb hby d23_17) rfl rfl ks) ?_
  obtain ⟨T2, X2, e2, st2⟩ := getF X1 hx hZ hown (host := "") (Or.inl (hw _ (List.mem_of_getElem? (i := 124) rfl))) Via.refl e1 F_u_value_o0 (g := (mkF m 18 #[.val (.ref o0)] [(.ref o0)])) rfl rfl (hb hby d23_18)
  refine Dn.by (U' := T2.setTop (mkF m 21 #[.val (.ref o0)] [(.ref u_value_o0)])) st2 ?_
  refine Dn.out X2 (v := (some (.ref u_value_o0))) (fun h => by rw [Bd.returns] at h; cases h) (BodyLoose.notSynchronized Bd) (fun _ hr => retOut X2 hx Bd.returns rfl (Or.inr (Or.inr (Or.inr (Or.inr ⟨rfl, rfl, rfl⟩)))) (hb hby d23_21) hr) (by decide) (by decide) ?_
  rw [e2]
  exact ⟨rfl, N0, rfl⟩
theorem ef_0 (m : MethodId) (p0 : Int32) (q1 : Int64) (p2 : Int32) (p3 : Int32) (p4 : Int32) : entryFrame m #[(.int p0), (.long q1), (.int p2), (.int p3), (.int p4)] maxLocals = mkF m 0 #[.val (.int p0), .val (.long q1), .second, .val (.int p2), .val (.int p3), .val (.int p4), .unset, .unset, .unset, .unset, .unset, .unset, .unset, .unset] [] := by first | (simp [entryFrame, mkF, argsToLocals, Value.category, maxLocals]; done) | rfl
def Q0 (Z : State) (p0 : Int32) (q1 : Int64) (p2 : Int32) (p3 : Int32) (p4 : Int32) (cs : Int32) (kCONF : Addr) (kINFO : Addr) (kCON : Addr) (kSENT : Addr) (kMSG : Addr) (kRCVD : Addr) (kERR : Addr) (el : Addr) (eo : Addr) (h0 : Heap) (n0 : Nat) (v : Option Value) (h : Heap) (L : List Loc) : Prop := v = some (.int 1) ∧ Fr n0 L
set_option maxRecDepth 65536 in
set_option maxHeartbeats 40000000 in
theorem rm0 (l : Launch) (Z : State) (a0 : Array Value) (hw : ∀ d ∈ tables_1, d.before a0 Z = true) (ws : List Jvm.Cond) (p0 : Int32) (q1 : Int64) (p2 : Int32) (p3 : Int32) (p4 : Int32) (cs : Int32) (kCONF : Addr) (kINFO : Addr) (kCON : Addr) (kSENT : Addr) (kMSG : Addr) (kRCVD : Addr) (kERR : Addr) (el : Addr) (eo : Addr) (h0 : Heap) (n0 : Nat) (Z0 : n0 ≤ h0.size) (O0 : Old Z n0 h0) (S_cs : Sta Z Z.heap "java/lang/String" "COMPACT_STRINGS" "Z" (.int cs)) (hcs : ¬ cs = (0 : Int32)) (S_CONF : Sta Z Z.heap "com/example/ferrywire/ferrywire/agent/AgentEvent$Kind" "CONF" "Lcom/example/ferrywire/ferrywire/agent/AgentEvent$Kind;" (.ref kCONF)) (S_INFO : Sta Z Z.heap "com/example/ferrywire/ferrywire/agent/AgentEvent$Kind" "INFO" "Lcom/example/ferrywire/ferrywire/agent/AgentEvent$Kind;" (.ref kINFO)) (S_CON : Sta Z Z.heap "com/example/ferrywire/ferrywire/agent/AgentEvent$Kind" "CON" "Lcom/example/ferrywire/ferrywire/agent/AgentEvent$Kind;" (.ref kCON)) (S_SENT : Sta Z Z.heap "com/example/ferrywire/ferrywire/agent/AgentEvent$Kind" "SENT" "Lcom/example/ferrywire/ferrywire/agent/AgentEvent$Kind;" (.ref kSENT)) (S_MSG : Sta Z Z.heap "com/example/ferrywire/ferrywire/agent/AgentEvent$Kind" "MSG" "Lcom/example/ferrywire/ferrywire/agent/AgentEvent$Kind;" (.ref kMSG)) (S_RCVD : Sta Z Z.heap "com/example/ferrywire/ferrywire/agent/AgentEvent$Kind" "RCVD" "Lcom/example/ferrywire/ferrywire/agent/AgentEvent$Kind;" (.ref kRCVD)) (S_ERR : Sta Z Z.heap "com/example/ferrywire/ferrywire/agent/AgentEvent$Kind" "ERR" "Lcom/example/ferrywire/ferrywire/agent/AgentEvent$Kind;" (.ref kERR)) (S_el : Sta Z Z.heap "java/util/OptionalLong" "EMPTY" "Ljava/util/OptionalLong;" (.ref el)) (E_el : Exa Z Z.heap el "java/util/OptionalLong") (F_ip : Fld Z Z.heap el "java/util/OptionalLong" "isPresent" "Z" (.int (0 : Int32))) (F_vl : Fld Z Z.heap el "java/util/OptionalLong" "value" "J" (.long (0 : Int64))) (S_eo : Sta Z Z.heap "java/util/Optional" "EMPTY" "Ljava/util/Optional;" (.ref eo)) (E_eo : Exa Z h0 eo "java/util/Optional") (F_eo : Fld Z h0 eo "java/util/Optional" "value" "Ljava/lang/Object;" .null) :
    MetFree l x (head1 (Jvm.Cond.code x code maxLocals ret :: ws) room_1) (fun a U => a = #[(.int p0), (.long q1), (.int p2), (.int p3), (.int p4)] ∧ Z.Warmed39 U.vm ∧ U.heap = h0) (fun _ _ _ _ _ => True) (fun _ U o U' => ∃ v L, o = .returned v ∧ Q0 Z p0 q1 p2 p3 p4 cs kCONF kINFO kCON kSENT kMSG kRCVD kERR el eo h0 n0 v U'.heap L ∧ FrameEnd U o U' L 32 128) := by
  refine MetFree.of_bodySF (plainFor_of_name pn0) hisR ?_
  intro p e s m args below meth c s₁ Bd hml0 hP hK
  obtain ⟨rfl, hZ, hh⟩ := hP
  have hx := Bd.exec
  have hby := Bd.bytes
  have hml : c.maxLocals = 14 := hml0
  have hown : s.vm.findClass "com/example/ferrywire/ferrywire/agent/AgentEventOfMessagePinLaw" = some m.cls := findClass_of_methodNamed Bd.named
  have hnm := (name_of_methodNamed Bd.named Bd.method).1
  have X0 : Stand p l e room_1 s m #[(.int p0), (.long q1), (.int p2), (.int p3), (.int p4)] below meth c s₁ [] 0 0 := Stand.of_body Bd
  have e0 : s₁.heap = h0 := by rw [← hh, Bd.state]; rfl
  have N0 := Fr.nil n0
  show Dn p e below s 32 128 (Q0 Z p0 q1 p2 p3 p4 cs kCONF kINFO kCON kSENT kMSG kRCVD kERR el eo h0 n0) (s₁.setTop (entryFrame m #[(.int p0), (.long q1), (.int p2), (.int p3), (.int p4)] maxLocals))
  rw [ef_0]
  refine Dn.by (U' := s₁.setTop (mkF m 1 #[.val (.int p0), .val (.long q1), .second, .val (.int p2), .val (.int p3), .val (.int p4), .unset, .unset, .unset, .unset, .unset, .unset, .unset, .unset] [(.int p0)])) (fun _ ks => XS.iloadN X0.here hx rfl (hb hby at_0) rfl ks) ?_
  obtain ⟨_, _, ⟨T1, L1, k1, n1⟩, -, X1, ⟨Lc1, hQ1, l1, y1, z1⟩, st1⟩ := Jvm.LawKit.callS X0 hx (y := (⟨"com/example/ferrywire/ferrywire/agent/AgentEventOfMessagePinLaw", "pick", "(I)Lcom/example/ferrywire/ferrywire/agent/AgentEvent$Kind;"⟩ : MethodName)) hown (mvT hZ (hw _ (List.mem_of_getElem? (i := 0) rfl))) (mvT hZ (hw _ (List.mem_of_getElem? (i := 1) rfl))) (mvT hZ (hw _ (List.mem_of_getElem? (i := 2) rfl))) (mvT hZ (hw _ (List.mem_of_getElem? (i := 3) rfl))) (by decide) (backOf (W := 0) (rm1 l Z a0 hw [] p0 kCONF kINFO kCON kSENT kMSG kRCVD kERR h0 n0 Z0 (S_CONF.ext O0.2) (S_INFO.ext O0.2) (S_CON.ext O0.2) (S_SENT.ext O0.2) (S_MSG.ext O0.2) (S_RCVD.ext O0.2) (S_ERR.ext O0.2)) hZ (hw _ (List.mem_of_getElem? (i := 3) rfl)) (hw _ (List.mem_of_getElem? (i := 2) rfl)) (by decide) (by decide)) (g := (mkF m 1 #[.val (.int p0), .val (.long q1), .second, .val (.int p2), .val (.int p3), .val (.int p4), .unset, .unset, .unset, .unset, .unset, .unset, .unset, .unset] [(.int p0)])) rfl (by rw [hml]; rfl) (argsL := [(.int p0)]) (rest := []) (lenOf pd6 rfl) rfl (by show 2 * 0 + _ ≤ _; exact Nat.le_of_eq rfl) (hb hby at_1) (fun _ _ => ⟨rfl, e0, (by decide : 0 + 0 ≤ _), (by decide : 0 + 0 ≤ _)⟩)
  dsimp only [Pt.U, Pt.locs, Pt.cells, Pt.slots] at X1 l1 y1 z1 st1 hQ1
  rw [l1, y1, z1] at X1
  obtain ⟨rfl, N1q, e1⟩ := hQ1
  have N1 := Fr.app N0 N1q
  refine Dn.by (U' := T1.setTop (mkF m 4 #[.val (.int p0), .val (.long q1), .second, .val (.int p2), .val (.int p3), .val (.int p4), .unset, .unset, .unset, .unset, .unset, .unset, .unset, .unset] [(.ref (pickK p0 kCONF kINFO kCON kSENT kMSG kRCVD kERR))])) st1 ?_
  generalize h_kd : (pickK p0 kCONF kINFO kCON kSENT kMSG kRCVD kERR) = kd
  refine Dn.by (U' := T1.setTop (mkF m 6 #[.val (.int p0), .val (.long q1), .second, .val (.int p2), .val (.int p3), .val (.int p4), .val (.ref kd), .unset, .unset, .unset, .unset, .unset, .unset, .unset] [])) (fun _ ks => XS.astore X1.here hx rfl (hb hby at_4) rfl rfl (l' := #[.val (.int p0), .val (.long q1), .second, .val (.int p2), .val (.int p3), .val (.int p4), .val (.ref kd), .unset, .unset, .unset, .unset, .unset, .unset, .unset]) rfl ks) ?_
  refine Dn.by (U' := T1.setTop (mkF m 7 #[.val (.int p0), .val (.long q1), .second, .val (.int p2), .val (.int p3), .val (.int p4), .val (.ref kd), .unset, .unset, .unset, .unset, .unset, .unset, .unset] [(.int (2 : Int32))])) (fun _ ks => XS.iconst X1.here hx rfl (hb hby at_6)  ks) ?_
  obtain ⟨T2, h2, k2, X2, e2, E2, A2, st2⟩ := newP X1 hx hZ (hw _ (List.mem_of_getElem? (i := 8) rfl)) e1 (g := (mkF m 7 #[.val (.int p0), .val (.long q1), .second, .val (.int p2), .val (.int p3), .val (.int p4), .val (.ref kd), .unset, .unset, .unset, .unset, .unset, .unset, .unset] [(.int (2 : Int32))])) rfl (hb hby at_7) rfl (by decide) (cap := 2) (by decide) (by decide) (by decide) (by decide)
  obtain ⟨b2, g2⟩ : ∃ z, z = h0.size := ⟨_, rfl⟩
  rw [← g2] at A2 st2
  have g_b2 : n0 ≤ b2 := Nat.le_trans Z0 (Nat.le_of_eq g2.symm)
  have sz_b2 : h0.size ≤ b2 := Nat.le_trans (Keep.refl h0 []).1 (Nat.le_of_eq g2.symm)
  have ne_eo_b2 : eo ≠ b2 := Nat.ne_of_lt (Nat.lt_of_lt_of_le E_eo.lt (Nat.le_of_eq g2.symm))
  have K3 : Keep h0 h2 [] := ((Keep.refl h0 []).ext E2)
  have z3 : n0 ≤ h2.size := (Nat.le_trans Z0 E2.1)
  have O3 : Old Z n0 h2 := O0.ext E2
  have V2 : Arv Z h2 b2 k2 .char (2 : Int32) [(.int (0 : Int32)), (.int (0 : Int32))] (.int (0 : Int32)) := (Arv.new A2 (by decide)).pad (pad_rep [] (.int (0 : Int32)) 2)
  refine Dn.by (U' := T2.setTop (mkF m 9 #[.val (.int p0), .val (.long q1), .second, .val (.int p2), .val (.int p3), .val (.int p4), .val (.ref kd), .unset, .unset, .unset, .unset, .unset, .unset, .unset] [(.ref b2)])) st2 ?_
  refine Dn.by (U' := T2.setTop (mkF m 11 #[.val (.int p0), .val (.long q1), .second, .val (.int p2), .val (.int p3), .val (.int p4), .val (.ref kd), .val (.ref b2), .unset, .unset, .unset, .unset, .unset, .unset] [])) (fun _ ks => XS.astore X2.here hx rfl (hb hby at_9) rfl rfl (l' := #[.val (.int p0), .val (.long q1), .second, .val (.int p2), .val (.int p3), .val (.int p4), .val (.ref kd), .val (.ref b2), .unset, .unset, .unset, .unset, .unset, .unset]) rfl ks) ?_
  refine Dn.by (U' := T2.setTop (mkF m 13 #[.val (.int p0), .val (.long q1), .second, .val (.int p2), .val (.int p3), .val (.int p4), .val (.ref kd), .val (.ref b2), .unset, .unset, .unset, .unset, .unset, .unset] [(.ref b2)])) (fun _ ks => XS.aload X2.here hx rfl (hb hby at_11) rfl rfl ks) ?_
  refine Dn.by (U' := T2.setTop (mkF m 14 #[.val (.int p0), .val (.long q1), .second, .val (.int p2), .val (.int p3), .val (.int p4), .val (.ref kd), .val (.ref b2), .unset, .unset, .unset, .unset, .unset, .unset] [(.int (0 : Int32)), (.ref b2)])) (fun _ ks => XS.iconst X2.here hx rfl (hb hby at_13)  ks) ?_
  refine Dn.by (U' := T2.setTop (mkF m 15 #[.val (.int p0), .val (.long q1), .second, .val (.int p2), .val (.int p3), .val (.int p4), .val (.ref kd), .val (.ref b2), .unset, .unset, .unset, .unset, .unset, .unset] [(.int p2), (.int (0 : Int32)), (.ref b2)])) (fun _ ks => XS.iloadN X2.here hx rfl (hb hby at_14) rfl ks) ?_
  refine Dn.by (U' := T2.setTop (mkF m 18 #[.val (.int p0), .val (.long q1), .second, .val (.int p2), .val (.int p3), .val (.int p4), .val (.ref kd), .val (.ref b2), .unset, .unset, .unset, .unset, .unset, .unset] [(.int (255 : Int32)), (.int p2), (.int (0 : Int32)), (.ref b2)])) (fun _ ks => XS.sipush X2.here hx rfl (hb hby at_15)  ks) ?_
  refine Dn.by (U' := T2.setTop (mkF m 19 #[.val (.int p0), .val (.long q1), .second, .val (.int p2), .val (.int p3), .val (.int p4), .val (.ref kd), .val (.ref b2), .unset, .unset, .unset, .unset, .unset, .unset] [(.int (p2 &&& (255 : Int32))), (.int (0 : Int32)), (.ref b2)])) (fun _ ks => XS.iand X2.here hx rfl (hb hby at_18) rfl ks) ?_
  refine Dn.by (U' := T2.setTop (mkF m 20 #[.val (.int p0), .val (.long q1), .second, .val (.int p2), .val (.int p3), .val (.int p4), .val (.ref kd), .val (.ref b2), .unset, .unset, .unset, .unset, .unset, .unset] [(.int ((p2 &&& (255 : Int32)).toUInt32.toUInt16.toUInt32.toInt32)), (.int (0 : Int32)), (.ref b2)])) (fun _ ks => XS.i2c X2.here hx rfl (hb hby at_19) rfl ks) ?_
  obtain ⟨cl4, Ar4, q4, S4, M4, H4, G4⟩ := id V2
  obtain ⟨T4, h4, X4, e4, W4, st4⟩ := stC X2 hx hZ e2 Ar4 (j := (0 : Int32)) (inb_of S4 ⟨by decide, by decide⟩) (g := (mkF m 20 #[.val (.int p0), .val (.long q1), .second, .val (.int p2), .val (.int p3), .val (.int p4), .val (.ref kd), .val (.ref b2), .unset, .unset, .unset, .unset, .unset, .unset] [(.int ((p2 &&& (255 : Int32)).toUInt32.toUInt16.toUInt32.toInt32)), (.int (0 : Int32)), (.ref b2)])) rfl rfl (hb hby at_20)
  have V4 := Arv.set Ar4 q4 S4 M4 H4 G4 (fits_nar_char _) W4 0 rfl (Nat.le_of_ble_eq_true rfl)
  have K5 : Keep h0 h4 [] := (K3.wr W4 (Or.inr sz_b2))
  have z5 : n0 ≤ h4.size := (Nat.le_trans z3 (Keep.of_wr W4).1)
  have O5 : Old Z n0 h4 := O3.wr W4 g_b2
  have V4b : Arv Z h4 b2 k2 .char (2 : Int32) [(.int (nar .char ((p2 &&& (255 : Int32)).toUInt32.toUInt16.toUInt32.toInt32))), (.int (0 : Int32))] (.int (0 : Int32)) := V4
  have N4 := Fr.snoc X4 N1 g_b2
  refine Dn.by (U' := T4.setTop (mkF m 21 #[.val (.int p0), .val (.long q1), .second, .val (.int p2), .val (.int p3), .val (.int p4), .val (.ref kd), .val (.ref b2), .unset, .unset, .unset, .unset, .unset, .unset] [])) st4 ?_
  refine Dn.by (U' := T4.setTop (mkF m 23 #[.val (.int p0), .val (.long q1), .second, .val (.int p2), .val (.int p3), .val (.int p4), .val (.ref kd), .val (.ref b2), .unset, .unset, .unset, .unset, .unset, .unset] [(.ref b2)])) (fun _ ks => XS.aload X4.here hx rfl (hb hby at_21) rfl rfl ks) ?_
  refine Dn.by (U' := T4.setTop (mkF m 24 #[.val (.int p0), .val (.long q1), .second, .val (.int p2), .val (.int p3), .val (.int p4), .val (.ref kd), .val (.ref b2), .unset, .unset, .unset, .unset, .unset, .unset] [(.int (1 : Int32)), (.ref b2)])) (fun _ ks => XS.iconst X4.here hx rfl (hb hby at_23)  ks) ?_
  refine Dn.by (U' := T4.setTop (mkF m 25 #[.val (.int p0), .val (.long q1), .second, .val (.int p2), .val (.int p3), .val (.int p4), .val (.ref kd), .val (.ref b2), .unset, .unset, .unset, .unset, .unset, .unset] [(.int p2), (.int (1 : Int32)), (.ref b2)])) (fun _ ks => XS.iloadN X4.here hx rfl (hb hby at_24) rfl ks) ?_
  refine Dn.by (U' := T4.setTop (mkF m 27 #[.val (.int p0), .val (.long q1), .second, .val (.int p2), .val (.int p3), .val (.int p4), .val (.ref kd), .val (.ref b2), .unset, .unset, .unset, .unset, .unset, .unset] [(.int (8 : Int32)), (.int p2), (.int (1 : Int32)), (.ref b2)])) (fun _ ks => XS.bipush X4.here hx rfl (hb hby at_25)  ks) ?_
  refine Dn.by (U' := T4.setTop (mkF m 28 #[.val (.int p0), .val (.long q1), .second, .val (.int p2), .val (.int p3), .val (.int p4), .val (.ref kd), .val (.ref b2), .unset, .unset, .unset, .unset, .unset, .unset] [(.int ((p2.toUInt32 >>> ((8 : Int32) &&& 31).toUInt32).toInt32)), (.int (1 : Int32)), (.ref b2)])) (fun _ ks => XS.iushr X4.here hx rfl (hb hby at_27) rfl ks) ?_
  refine Dn.by (U' := T4.setTop (mkF m 31 #[.val (.int p0), .val (.long q1), .second, .val (.int p2), .val (.int p3), .val (.int p4), .val (.ref kd), .val (.ref b2), .unset, .unset, .unset, .unset, .unset, .unset] [(.int (255 : Int32)), (.int ((p2.toUInt32 >>> ((8 : Int32) &&& 31).toUInt32).toInt32)), (.int (1 : Int32)), (.ref b2)])) (fun _ ks => XS.sipush X4.here hx rfl (hb hby at_28)  ks) ?_
  refine Dn.by (U' := T4.setTop (mkF m 32 #[.val (.int p0), .val (.long q1), .second, .val (.int p2), .val (.int p3), .val (.int p4), .val (.ref kd), .val (.ref b2), .unset, .unset, .unset, .unset, .unset, .unset] [(.int (((p2.toUInt32 >>> ((8 : Int32) &&& 31).toUInt32).toInt32) &&& (255 : Int32))), (.int (1 : Int32)), (.ref b2)])) (fun _ ks => XS.iand X4.here hx rfl (hb hby at_31) rfl ks) ?_
  refine Dn.by (U' := T4.setTop (mkF m 33 #[.val (.int p0), .val (.long q1), .second, .val (.int p2), .val (.int p3), .val (.int p4), .val (.ref kd), .val (.ref b2), .unset, .unset, .unset, .unset, .unset, .unset] [(.int ((((p2.toUInt32 >>> ((8 : Int32) &&& 31).toUInt32).toInt32) &&& (255 : Int32)).toUInt32.toUInt16.toUInt32.toInt32)), (.int (1 : Int32)), (.ref b2)])) (fun _ ks => XS.i2c X4.here hx rfl (hb hby at_32) rfl ks) ?_
  obtain ⟨cl6, Ar6, q6, S6, M6, H6, G6⟩ := id V4b
  obtain ⟨T6, h6, X6, e6, W6, st6⟩ := stC X4 hx hZ e4 Ar6 (j := (1 : Int32)) (inb_of S6 ⟨by decide, by decide⟩) (g := (mkF m 33 #[.val (.int p0), .val (.long q1), .second, .val (.int p2), .val (.int p3), .val (.int p4), .val (.ref kd), .val (.ref b2), .unset, .unset, .unset, .unset, .unset, .unset] [(.int ((((p2.toUInt32 >>> ((8 : Int32) &&& 31).toUInt32).toInt32) &&& (255 : Int32)).toUInt32.toUInt16.toUInt32.toInt32)), (.int (1 : Int32)), (.ref b2)])) rfl rfl (hb hby at_33)
  have V6 := Arv.set Ar6 q6 S6 M6 H6 G6 (fits_nar_char _) W6 1 rfl (Nat.le_of_ble_eq_true rfl)
  have K7 : Keep h0 h6 [] := (K5.wr W6 (Or.inr sz_b2))
  have z7 : n0 ≤ h6.size := (Nat.le_trans z5 (Keep.of_wr W6).1)
  have O7 : Old Z n0 h6 := O5.wr W6 g_b2
  have V6b : Arv Z h6 b2 k2 .char (2 : Int32) [(.int (nar .char ((p2 &&& (255 : Int32)).toUInt32.toUInt16.toUInt32.toInt32))), (.int (nar .char ((((p2.toUInt32 >>> ((8 : Int32) &&& 31).toUInt32).toInt32) &&& (255 : Int32)).toUInt32.toUInt16.toUInt32.toInt32)))] (.int (0 : Int32)) := V6
  have N6 := Fr.snoc X6 N4 g_b2
  refine Dn.by (U' := T6.setTop (mkF m 34 #[.val (.int p0), .val (.long q1), .second, .val (.int p2), .val (.int p3), .val (.int p4), .val (.ref kd), .val (.ref b2), .unset, .unset, .unset, .unset, .unset, .unset] [])) st6 ?_
  obtain ⟨T8, h8, X8, e8, E8, A8, D8, -, st8⟩ := newO X6 hx hZ hown (hw _ (List.mem_of_getElem? (i := 9) rfl)) (hw _ (List.mem_of_getElem? (i := 10) rfl)) (hw _ (List.mem_of_getElem? (i := 11) rfl)) e6 (g := (mkF m 34 #[.val (.int p0), .val (.long q1), .second, .val (.int p2), .val (.int p3), .val (.int p4), .val (.ref kd), .val (.ref b2), .unset, .unset, .unset, .unset, .unset, .unset] [])) rfl (hb hby at_34) (by decide) (by decide)
  obtain ⟨b8, g8⟩ : ∃ z, z = h6.size := ⟨_, rfl⟩
  rw [← g8] at A8 D8 st8
  have g_b8 : n0 ≤ b8 := Nat.le_trans z7 (Nat.le_of_eq g8.symm)
  have sz_b8 : h0.size ≤ b8 := Nat.le_trans K7.1 (Nat.le_of_eq g8.symm)
  have ne_eo_b8 : eo ≠ b8 := Nat.ne_of_lt (Nat.lt_of_lt_of_le (((E_eo.ext E2).wr W4).wr W6).lt (Nat.le_of_eq g8.symm))
  have ne_b2_b8 : b2 ≠ b8 := Nat.ne_of_lt (Nat.lt_of_lt_of_le V6b.lt (Nat.le_of_eq g8.symm))
  have K9 : Keep h0 h8 [] := (K7.ext E8)
  have z9 : n0 ≤ h8.size := (Nat.le_trans z7 E8.1)
  have O9 : Old Z n0 h8 := O7.ext E8
  have F_coder_b8 : Fld Z h8 b8 "java/lang/String" "coder" "B" (.int (0 : Int32)) := D8 (Or.inr (hw _ (List.mem_of_getElem? (i := 35) rfl))) (ty := .byte) (by decide)
  have F_value_b8 : Fld Z h8 b8 "java/lang/String" "value" "[B" .null := D8 (Or.inr (hw _ (List.mem_of_getElem? (i := 37) rfl))) (ty := (.array .byte)) (by decide)
  refine Dn.by (U' := T8.setTop (mkF m 37 #[.val (.int p0), .val (.long q1), .second, .val (.int p2), .val (.int p3), .val (.int p4), .val (.ref kd), .val (.ref b2), .unset, .unset, .unset, .unset, .unset, .unset] [(.ref b8)])) st8 ?_
  refine Dn.by (U' := T8.setTop (mkF m 38 #[.val (.int p0), .val (.long q1), .second, .val (.int p2), .val (.int p3), .val (.int p4), .val (.ref kd), .val (.ref b2), .unset, .unset, .unset, .unset, .unset, .unset] [(.ref b8), (.ref b8)])) (fun _ ks => XS.dup X8.here hx rfl (hb hby at_37) rfl rfl ks) ?_
  refine Dn.by (U' := T8.setTop (mkF m 40 #[.val (.int p0), .val (.long q1), .second, .val (.int p2), .val (.int p3), .val (.int p4), .val (.ref kd), .val (.ref b2), .unset, .unset, .unset, .unset, .unset, .unset] [(.ref b2), (.ref b8), (.ref b8)])) (fun _ ks => XS.aload X8.here hx rfl (hb hby at_38) rfl rfl ks) ?_
  have Vc10 : Arv Z h8 b2 k2 .char (2 : Int32) [(.int ((p2 &&& (255 : Int32)).toUInt32.toUInt16.toUInt32.toInt32)), (.int ((((p2.toUInt32 >>> ((8 : Int32) &&& 31).toUInt32).toInt32) &&& (255 : Int32)).toUInt32.toUInt16.toUInt32.toInt32))] (.int (0 : Int32)) := by
    have q := (V6b.ext E8)
    simp only [own_nar ((p2 &&& (255 : Int32)).toUInt32.toUInt16.toUInt32.toInt32) (own_ch _), own_nar ((((p2.toUInt32 >>> ((8 : Int32) &&& 31).toUInt32).toInt32) &&& (255 : Int32)).toUInt32.toUInt16.toUInt32.toInt32) (own_ch _)] at q
    exact q
  have hp10 : ∀ c ∈ ([((p2 &&& (255 : Int32)).toUInt32.toUInt16.toUInt32.toInt32), ((((p2.toUInt32 >>> ((8 : Int32) &&& 31).toUInt32).toInt32) &&& (255 : Int32)).toUInt32.toUInt16.toUInt32.toInt32)] : List Int32), ¬ c < 0 ∧ ¬ (255 : Int32) < c := by
    intro c hc
    simp only [List.mem_cons, List.not_mem_nil, or_false] at hc
    rcases hc with hc | hc
    · rw [hc]; exact (own_ch _)
    · rw [hc]; exact (own_ch _)
  obtain ⟨_, _, ⟨T10, L10, k10, n10⟩, -, X10, ⟨Lc10, hQ10, l10, y10, z10⟩, st10⟩ := X8.specialBack hx (y := (⟨"java/lang/String", "<init>", "([C)V"⟩ : MethodName)) rfl hown (mvT hZ (hw _ (List.mem_of_getElem? (i := 12) rfl))) (mvT hZ (hw _ (List.mem_of_getElem? (i := 13) rfl))) (mvT hZ (hw _ (List.mem_of_getElem? (i := 14) rfl))) (by decide) (StrChars.Road.backV (W := 1) hZ (fun d hd => hw d (own_words d hd)) (kI := 4) (hw _ (List.mem_of_getElem? (i := 10) rfl)) (cs := ([((p2 &&& (255 : Int32)).toUInt32.toUInt16.toUInt32.toInt32), ((((p2.toUInt32 >>> ((8 : Int32) &&& 31).toUInt32).toInt32) &&& (255 : Int32)).toUInt32.toUInt16.toUInt32.toInt32)] : List Int32)) (bs := ([((p2 &&& (255 : Int32)).toUInt32.toUInt16.toUInt32.toInt32), ((((p2.toUInt32 >>> ((8 : Int32) &&& 31).toUInt32).toInt32) &&& (255 : Int32)).toUInt32.toUInt16.toUInt32.toInt32)] : List Int32).map (fun c => c.toInt8.toInt32)) (n := 2) g_b8 z9 A8 F_value_b8 F_coder_b8 Vc10 (S_cs.ext O9.2) hcs rfl rfl (by decide) (by decide) hp10 rfl (by decide) (by decide)) (g := (mkF m 40 #[.val (.int p0), .val (.long q1), .second, .val (.int p2), .val (.int p3), .val (.int p4), .val (.ref kd), .val (.ref b2), .unset, .unset, .unset, .unset, .unset, .unset] [(.ref b2), (.ref b8), (.ref b8)])) rfl (by rw [hml]; rfl) (Steps.refl _) (a := b8) (argsL := [(.ref b2)]) (rest := [(.ref b8)]) (lenOf pd7 rfl) rfl (by show 2 * 0 + _ ≤ _; exact Nat.le_of_eq rfl) (hb hby at_40) (fun _ _ => ⟨rfl, e8, (by decide : 2 + 1 ≤ _), (by decide : 6 + 2 ≤ _)⟩)
  dsimp only [Pt.U, Pt.locs, Pt.cells, Pt.slots] at X10 l10 y10 z10 st10 hQ10
  rw [l10, y10, z10] at X10
  obtain ⟨rfl, N10q, KK10, EE10, FC10, t10, kb10, gt10, zt10, nt10, FV10, VV10⟩ := hQ10
  have N10 := Fr.app N6 N10q
  have g_t10 : n0 ≤ t10 := Nat.le_trans z9 zt10
  have sz_t10 : h0.size ≤ t10 := Nat.le_trans K9.1 zt10
  have ne_eo_t10 : eo ≠ t10 := Nat.ne_of_lt (Nat.lt_of_lt_of_le ((((E_eo.ext E2).wr W4).wr W6).ext E8).lt zt10)
  have ne_b2_t10 : b2 ≠ t10 := Nat.ne_of_lt (Nat.lt_of_lt_of_le (V6b.ext E8).lt zt10)
  have ne_b8_t10 : b8 ≠ t10 := Nat.ne_of_lt (Nat.lt_of_lt_of_le A8.lt zt10)
  have K11 : Keep h0 T10.heap [] := (K9.trans KK10 (allS (Or.inr sz_b8) all0))
  have z11 : n0 ≤ T10.heap.size := (Nat.le_trans z9 KK10.1)
  have O11 : Old Z n0 T10.heap := O9.keep KK10 (allS g_b8 all0)
  refine Dn.by (U' := T10.setTop (mkF m 43 #[.val (.int p0), .val (.long q1), .second, .val (.int p2), .val (.int p3), .val (.int p4), .val (.ref kd), .val (.ref b2), .unset, .unset, .unset, .unset, .unset, .unset] [(.ref b8)])) (fun _ ks => st10.trans ks) ?_
  refine Dn.by (U' := T10.setTop (mkF m 45 #[.val (.int p0), .val (.long q1), .second, .val (.int p2), .val (.int p3), .val (.int p4), .val (.ref kd), .val (.ref b2), .val (.ref b8), .unset, .unset, .unset, .unset, .unset] [])) (fun _ ks => XS.astore X10.here hx rfl (hb hby at_43) rfl rfl (l' := #[.val (.int p0), .val (.long q1), .second, .val (.int p2), .val (.int p3), .val (.int p4), .val (.ref kd), .val (.ref b2), .val (.ref b8), .unset, .unset, .unset, .unset, .unset]) rfl ks) ?_
  refine Dn.by (U' := T10.setTop (mkF m 46 #[.val (.int p0), .val (.long q1), .second, .val (.int p2), .val (.int p3), .val (.int p4), .val (.ref kd), .val (.ref b2), .val (.ref b8), .unset, .unset, .unset, .unset, .unset] [.null])) (fun _ ks => XS.aconstNull X10.here hx rfl (hb hby at_45)  ks) ?_
  refine Dn.by (U' := T10.setTop (mkF m 48 #[.val (.int p0), .val (.long q1), .second, .val (.int p2), .val (.int p3), .val (.int p4), .val (.ref kd), .val (.ref b2), .val (.ref b8), .val .null, .unset, .unset, .unset, .unset] [])) (fun _ ks => XS.astore X10.here hx rfl (hb hby at_46) rfl rfl (l' := #[.val (.int p0), .val (.long q1), .second, .val (.int p2), .val (.int p3), .val (.int p4), .val (.ref kd), .val (.ref b2), .val (.ref b8), .val .null, .unset, .unset, .unset, .unset]) rfl ks) ?_
  refine Dn.by (U' := T10.setTop (mkF m 50 #[.val (.int p0), .val (.long q1), .second, .val (.int p2), .val (.int p3), .val (.int p4), .val (.ref kd), .val (.ref b2), .val (.ref b8), .val .null, .unset, .unset, .unset, .unset] [(.int p4)])) (fun _ ks => XS.iload X10.here hx rfl (hb hby at_48) rfl ks) ?_
  refine Dn.by (U' := T10.setTop (mkF m 51 #[.val (.int p0), .val (.long q1), .second, .val (.int p2), .val (.int p3), .val (.int p4), .val (.ref kd), .val (.ref b2), .val (.ref b8), .val .null, .unset, .unset, .unset, .unset] [(.int (1 : Int32)), (.int p4)])) (fun _ ks => XS.iconst X10.here hx rfl (hb hby at_50)  ks) ?_
  refine Dn.by (U' := T10.setTop (mkF m 52 #[.val (.int p0), .val (.long q1), .second, .val (.int p2), .val (.int p3), .val (.int p4), .val (.ref kd), .val (.ref b2), .val (.ref b8), .val .null, .unset, .unset, .unset, .unset] [(.int (p4 &&& (1 : Int32)))])) (fun _ ks => XS.iand X10.here hx rfl (hb hby at_51) rfl ks) ?_
  by_cases c52_12 : (p4 &&& (1 : Int32)) = (0 : Int32)
  ·
    refine Dn.by (U' := T10.setTop (mkF m 96 #[.val (.int p0), .val (.long q1), .second, .val (.int p2), .val (.int p3), .val (.int p4), .val (.ref kd), .val (.ref b2), .val (.ref b8), .val .null, .unset, .unset, .unset, .unset] [])) (fun _ ks => XS.ifYes X10.here hx rfl (pc0 := 52) (pc' := 96) rfl (hb hby at_52) rfl ((if0 _ _).trans (teq c52_12).1) (by decide) (by decide) ks) ?_
    refine Dn.by (U' := T10.setTop (mkF m 98 #[.val (.int p0), .val (.long q1), .second, .val (.int p2), .val (.int p3), .val (.int p4), .val (.ref kd), .val (.ref b2), .val (.ref b8), .val .null, .unset, .unset, .unset, .unset] [(.ref kd)])) (fun _ ks => XS.aload X10.here hx rfl (hb hby at_96) rfl rfl ks) ?_
    refine Dn.by (U' := T10.setTop (mkF m 100 #[.val (.int p0), .val (.long q1), .second, .val (.int p2), .val (.int p3), .val (.int p4), .val (.ref kd), .val (.ref b2), .val (.ref b8), .val .null, .unset, .unset, .unset, .unset] [(.ref b8), (.ref kd)])) (fun _ ks => XS.aload X10.here hx rfl (hb hby at_98) rfl rfl ks) ?_
    refine Dn.by (U' := T10.setTop (mkF m 101 #[.val (.int p0), .val (.long q1), .second, .val (.int p2), .val (.int p3), .val (.int p4), .val (.ref kd), .val (.ref b2), .val (.ref b8), .val .null, .unset, .unset, .unset, .unset] [(.long q1), (.ref b8), (.ref kd)])) (fun _ ks => XS.lloadN X10.here hx rfl (hb hby at_100) rfl ks) ?_
    refine Dn.by (U' := T10.setTop (mkF m 103 #[.val (.int p0), .val (.long q1), .second, .val (.int p2), .val (.int p3), .val (.int p4), .val (.ref kd), .val (.ref b2), .val (.ref b8), .val .null, .unset, .unset, .unset, .unset] [.null, (.long q1), (.ref b8), (.ref kd)])) (fun _ ks => XS.aload X10.here hx rfl (hb hby at_101) rfl rfl ks) ?_
    obtain ⟨_, _, ⟨T13, L13, k13, n13⟩, -, X13, ⟨Lc13, hQ13, l13, y13, z13⟩, st13⟩ := Jvm.LawKit.callS X10 hx (y := (⟨"com/example/ferrywire/ferrywire/agent/AgentEvent", "ofMessage", "(Lcom/example/ferrywire/ferrywire/agent/AgentEvent$Kind;Ljava/lang/String;JLjava/lang/String;)Lcom/example/ferrywire/ferrywire/agent/AgentEvent;"⟩ : MethodName)) hown (mvT hZ (hw _ (List.mem_of_getElem? (i := 38) rfl))) (mvT hZ (hw _ (List.mem_of_getElem? (i := 39) rfl))) (mvT hZ (hw _ (List.mem_of_getElem? (i := 40) rfl))) (mvT hZ (hw _ (List.mem_of_getElem? (i := 41) rfl))) (by decide) (backOf (W := 0) (rm8n l Z a0 hw [] kd b8 q1  T10.heap n0 z11 ) hZ (hw _ (List.mem_of_getElem? (i := 41) rfl)) (hw _ (List.mem_of_getElem? (i := 40) rfl)) (by decide) (by decide)) (g := (mkF m 103 #[.val (.int p0), .val (.long q1), .second, .val (.int p2), .val (.int p3), .val (.int p4), .val (.ref kd), .val (.ref b2), .val (.ref b8), .val .null, .unset, .unset, .unset, .unset] [.null, (.long q1), (.ref b8), (.ref kd)])) rfl (by rw [hml]; rfl) (argsL := [(.ref kd), (.ref b8), (.long q1), .null]) (rest := []) (lenOf pd8 rfl) rfl (by show 2 * 0 + _ ≤ _; exact Nat.le_of_eq rfl) (hb hby at_103) (fun _ _ => ⟨rfl, rfl, (by decide : 3 + 1 ≤ _), (by decide : 8 + 5 ≤ _)⟩)
    dsimp only [Pt.U, Pt.locs, Pt.cells, Pt.slots] at X13 l13 y13 z13 st13 hQ13
    rw [l13, y13, z13] at X13
    obtain ⟨b13, rfl, N13q, zz13, KK13, EE13, FF13_0, FF13_1, FF13_2, FF13_3, FF13_4⟩ := hQ13
    have N13 := Fr.app N10 N13q
    have g_b13 : n0 ≤ b13 := Nat.le_trans z11 zz13
    have sz_b13 : h0.size ≤ b13 := Nat.le_trans K11.1 zz13
    have ne_eo_b13 : eo ≠ b13 := Nat.ne_of_lt (Nat.lt_of_lt_of_le (((((E_eo.ext E2).wr W4).wr W6).ext E8).keep KK10).lt zz13)
    have ne_b2_b13 : b2 ≠ b13 := Nat.ne_of_lt (Nat.lt_of_lt_of_le ((V6b.ext E8).keep KK10 (ninS ne_b2_b8 nin0)).lt zz13)
    have ne_b8_b13 : b8 ≠ b13 := Nat.ne_of_lt (Nat.lt_of_lt_of_le EE10.lt zz13)
    have ne_t10_b13 : t10 ≠ b13 := Nat.ne_of_lt (Nat.lt_of_lt_of_le VV10.lt zz13)
    have K14 : Keep h0 T13.heap [] := (K11.trans KK13 all0)
    have z14 : n0 ≤ T13.heap.size := (Nat.le_trans z11 KK13.1)
    have O14 : Old Z n0 T13.heap := O11.keep KK13 all0
    refine Dn.by (U' := T13.setTop (mkF m 106 #[.val (.int p0), .val (.long q1), .second, .val (.int p2), .val (.int p3), .val (.int p4), .val (.ref kd), .val (.ref b2), .val (.ref b8), .val .null, .unset, .unset, .unset, .unset] [(.ref b13)])) st13 ?_
    refine Dn.by (U' := T13.setTop (mkF m 108 #[.val (.int p0), .val (.long q1), .second, .val (.int p2), .val (.int p3), .val (.int p4), .val (.ref kd), .val (.ref b2), .val (.ref b8), .val .null, .val (.ref b13), .unset, .unset, .unset] [])) (fun _ ks => XS.astore X13.here hx rfl (hb hby at_106) rfl rfl (l' := #[.val (.int p0), .val (.long q1), .second, .val (.int p2), .val (.int p3), .val (.int p4), .val (.ref kd), .val (.ref b2), .val (.ref b8), .val .null, .val (.ref b13), .unset, .unset, .unset]) rfl ks) ?_
    refine Dn.by (U' := T13.setTop (mkF m 110 #[.val (.int p0), .val (.long q1), .second, .val (.int p2), .val (.int p3), .val (.int p4), .val (.ref kd), .val (.ref b2), .val (.ref b8), .val .null, .val (.ref b13), .unset, .unset, .unset] [(.ref b13)])) (fun _ ks => XS.aload X13.here hx rfl (hb hby at_108) rfl rfl ks) ?_
    obtain ⟨cq15, kq15, qa15, qb15, qc15⟩ := isOf hZ rfl EE13
    obtain ⟨_, _, ⟨T15, L15, k15, n15⟩, -, X15, ⟨Lc15, hQ15, l15, y15, z15⟩, st15⟩ := X13.virtualBack hx (y := (⟨"com/example/ferrywire/ferrywire/agent/AgentEvent", "kind", "()Lcom/example/ferrywire/ferrywire/agent/AgentEvent$Kind;"⟩ : MethodName)) (z := (⟨"com/example/ferrywire/ferrywire/agent/AgentEvent", "kind", "()Lcom/example/ferrywire/ferrywire/agent/AgentEvent$Kind;"⟩ : MethodName)) hown (mvT hZ (hw _ (List.mem_of_getElem? (i := 58) rfl))) (mvT hZ (hw _ (List.mem_of_getElem? (i := 59) rfl))) (notFace_of_selects (args := #[]) (mvT hZ (hw _ (List.mem_of_getElem? (i := 61) rfl)))) (mvT hZ (hw _ (List.mem_of_getElem? (i := 61) rfl))) (mvT hZ (hw _ (List.mem_of_getElem? (i := 60) rfl))) (by decide) (backOf (W := 0) (rm10 l Z a0 hw [] b13 kd T13.heap n0 z14 FF13_1) hZ (hw _ (List.mem_of_getElem? (i := 62) rfl)) (hw _ (List.mem_of_getElem? (i := 40) rfl)) (by decide) (by decide)) qa15 qc15 (g := (mkF m 110 #[.val (.int p0), .val (.long q1), .second, .val (.int p2), .val (.int p3), .val (.int p4), .val (.ref kd), .val (.ref b2), .val (.ref b8), .val .null, .val (.ref b13), .unset, .unset, .unset] [(.ref b13)])) rfl (by rw [hml]; rfl) (Steps.refl _) (argsL := []) (rest := []) (lenOf pd9 rfl) rfl (by show 2 * 0 + _ ≤ _; exact Nat.le_of_eq rfl) (hb hby at_110) (fun _ _ => ⟨rfl, rfl, (by decide : 4 + 0 ≤ _), (by decide : 13 + 0 ≤ _)⟩)
    dsimp only [Pt.U, Pt.locs, Pt.cells, Pt.slots] at X15 l15 y15 z15 st15 hQ15
    rw [l15, y15, z15] at X15
    obtain ⟨rfl, N15q, e15⟩ := hQ15
    have N15 := Fr.app N13 N15q
    refine Dn.by (U' := T15.setTop (mkF m 113 #[.val (.int p0), .val (.long q1), .second, .val (.int p2), .val (.int p3), .val (.int p4), .val (.ref kd), .val (.ref b2), .val (.ref b8), .val .null, .val (.ref b13), .unset, .unset, .unset] [(.ref kd)])) (fun _ ks => st15.trans ks) ?_
    refine Dn.by (U' := T15.setTop (mkF m 115 #[.val (.int p0), .val (.long q1), .second, .val (.int p2), .val (.int p3), .val (.int p4), .val (.ref kd), .val (.ref b2), .val (.ref b8), .val .null, .val (.ref b13), .unset, .unset, .unset] [(.ref kd), (.ref kd)])) (fun _ ks => XS.aload X15.here hx rfl (hb hby at_113) rfl rfl ks) ?_
    refine Dn.by (U' := T15.setTop (mkF m 118 #[.val (.int p0), .val (.long q1), .second, .val (.int p2), .val (.int p3), .val (.int p4), .val (.ref kd), .val (.ref b2), .val (.ref b8), .val .null, .val (.ref b13), .unset, .unset, .unset] [])) (fun _ ks => Jvm.RoadKit.acmp (g := (mkF m 115 #[.val (.int p0), .val (.long q1), .second, .val (.int p2), .val (.int p3), .val (.int p4), .val (.ref kd), .val (.ref b2), .val (.ref b8), .val .null, .val (.ref b13), .unset, .unset, .unset] [(.ref kd), (.ref kd)])) X15 hx rfl rfl rfl (pc0 := 115) (pc' := 118) (same := true) rfl (hb hby at_115) rfl (decide_eq_true rfl) (by decide) (by decide) ks) ?_
    refine Dn.by (U' := T15.setTop (mkF m 119 #[.val (.int p0), .val (.long q1), .second, .val (.int p2), .val (.int p3), .val (.int p4), .val (.ref kd), .val (.ref b2), .val (.ref b8), .val .null, .val (.ref b13), .unset, .unset, .unset] [(.int (1 : Int32))])) (fun _ ks => XS.iconst X15.here hx rfl (hb hby at_118)  ks) ?_
    refine Dn.by (U' := T15.setTop (mkF m 123 #[.val (.int p0), .val (.long q1), .second, .val (.int p2), .val (.int p3), .val (.int p4), .val (.ref kd), .val (.ref b2), .val (.ref b8), .val .null, .val (.ref b13), .unset, .unset, .unset] [(.int (1 : Int32))])) (fun _ ks => XS.goto X15.here hx rfl (pc0 := 119) (pc' := 123) rfl (hb hby at_119) (by decide) (by decide) ks) ?_
    refine Dn.by (U' := T15.setTop (mkF m 125 #[.val (.int p0), .val (.long q1), .second, .val (.int p2), .val (.int p3), .val (.int p4), .val (.ref kd), .val (.ref b2), .val (.ref b8), .val .null, .val (.ref b13), .val (.int (1 : Int32)), .unset, .unset] [])) (fun _ ks => XS.istore X15.here hx rfl (hb hby at_123) rfl (l' := #[.val (.int p0), .val (.long q1), .second, .val (.int p2), .val (.int p3), .val (.int p4), .val (.ref kd), .val (.ref b2), .val (.ref b8), .val .null, .val (.ref b13), .val (.int (1 : Int32)), .unset, .unset]) rfl ks) ?_
    refine Dn.by (U' := T15.setTop (mkF m 127 #[.val (.int p0), .val (.long q1), .second, .val (.int p2), .val (.int p3), .val (.int p4), .val (.ref kd), .val (.ref b2), .val (.ref b8), .val .null, .val (.ref b13), .val (.int (1 : Int32)), .unset, .unset] [(.int (1 : Int32))])) (fun _ ks => XS.iload X15.here hx rfl (hb hby at_125) rfl ks) ?_
    refine Dn.by (U' := T15.setTop (mkF m 130 #[.val (.int p0), .val (.long q1), .second, .val (.int p2), .val (.int p3), .val (.int p4), .val (.ref kd), .val (.ref b2), .val (.ref b8), .val .null, .val (.ref b13), .val (.int (1 : Int32)), .unset, .unset] [])) (fun _ ks => XS.ifNo X15.here hx rfl (hb hby at_127) rfl (by decide) ks) ?_
    refine Dn.by (U' := T15.setTop (mkF m 132 #[.val (.int p0), .val (.long q1), .second, .val (.int p2), .val (.int p3), .val (.int p4), .val (.ref kd), .val (.ref b2), .val (.ref b8), .val .null, .val (.ref b13), .val (.int (1 : Int32)), .unset, .unset] [(.ref b8)])) (fun _ ks => XS.aload X15.here hx rfl (hb hby at_130) rfl rfl ks) ?_
    refine Dn.by (U' := T15.setTop (mkF m 134 #[.val (.int p0), .val (.long q1), .second, .val (.int p2), .val (.int p3), .val (.int p4), .val (.ref kd), .val (.ref b2), .val (.ref b8), .val .null, .val (.ref b13), .val (.int (1 : Int32)), .unset, .unset] [(.ref b13), (.ref b8)])) (fun _ ks => XS.aload X15.here hx rfl (hb hby at_132) rfl rfl ks) ?_
    obtain ⟨cq16, kq16, qa16, qb16, qc16⟩ := isOf hZ e15 EE13
    obtain ⟨_, _, ⟨T16, L16, k16, n16⟩, -, X16, ⟨Lc16, hQ16, l16, y16, z16⟩, st16⟩ := X15.virtualBack hx (y := (⟨"com/example/ferrywire/ferrywire/agent/AgentEvent", "connectionId", "()Ljava/lang/String;"⟩ : MethodName)) (z := (⟨"com/example/ferrywire/ferrywire/agent/AgentEvent", "connectionId", "()Ljava/lang/String;"⟩ : MethodName)) hown (mvT hZ (hw _ (List.mem_of_getElem? (i := 63) rfl))) (mvT hZ (hw _ (List.mem_of_getElem? (i := 64) rfl))) (notFace_of_selects (args := #[]) (mvT hZ (hw _ (List.mem_of_getElem? (i := 66) rfl)))) (mvT hZ (hw _ (List.mem_of_getElem? (i := 66) rfl))) (mvT hZ (hw _ (List.mem_of_getElem? (i := 65) rfl))) (by decide) (backOf (W := 1) (rm11 l Z a0 hw [] b13 b8 T13.heap n0 z14 FF13_2) hZ (hw _ (List.mem_of_getElem? (i := 67) rfl)) (hw _ (List.mem_of_getElem? (i := 40) rfl)) (by decide) (by decide)) qa16 qc16 (g := (mkF m 134 #[.val (.int p0), .val (.long q1), .second, .val (.int p2), .val (.int p3), .val (.int p4), .val (.ref kd), .val (.ref b2), .val (.ref b8), .val .null, .val (.ref b13), .val (.int (1 : Int32)), .unset, .unset] [(.ref b13), (.ref b8)])) rfl (by rw [hml]; rfl) (Steps.refl _) (argsL := []) (rest := [(.ref b8)]) (lenOf pd10 rfl) rfl (by show 2 * 0 + _ ≤ _; exact Nat.le_of_eq rfl) (hb hby at_134) (fun _ _ => ⟨rfl, e15, (by decide : 4 + 0 ≤ _), (by decide : 13 + 0 ≤ _)⟩)
    dsimp only [Pt.U, Pt.locs, Pt.cells, Pt.slots] at X16 l16 y16 z16 st16 hQ16
    rw [l16, y16, z16] at X16
    obtain ⟨rfl, N16q, e16⟩ := hQ16
    have N16 := Fr.app N15 N16q
    refine Dn.by (U' := T16.setTop (mkF m 137 #[.val (.int p0), .val (.long q1), .second, .val (.int p2), .val (.int p3), .val (.int p4), .val (.ref kd), .val (.ref b2), .val (.ref b8), .val .null, .val (.ref b13), .val (.int (1 : Int32)), .unset, .unset] [(.ref b8), (.ref b8)])) (fun _ ks => st16.trans ks) ?_
    obtain ⟨cq17, kq17, qa17, qb17, qc17⟩ := isOf hZ e16 (EE10.keep KK13)
    obtain ⟨_, _, ⟨T17, L17, k17, n17⟩, -, X17, ⟨Lc17, hQ17, l17, y17, z17⟩, st17⟩ := X16.virtualBack hx (y := (⟨"java/lang/String", "equals", "(Ljava/lang/Object;)Z"⟩ : MethodName)) (z := (⟨"java/lang/String", "equals", "(Ljava/lang/Object;)Z"⟩ : MethodName)) hown (mvT hZ (hw _ (List.mem_of_getElem? (i := 68) rfl))) (mvT hZ (hw _ (List.mem_of_getElem? (i := 69) rfl))) (notFace_of_selects (args := #[]) (mvT hZ (hw _ (List.mem_of_getElem? (i := 71) rfl)))) (mvT hZ (hw _ (List.mem_of_getElem? (i := 71) rfl))) (mvT hZ (hw _ (List.mem_of_getElem? (i := 70) rfl))) (by decide) (backOf (W := 0) (rm12 l Z a0 hw [] b8  T13.heap n0 z14 ) hZ (hw _ (List.mem_of_getElem? (i := 72) rfl)) (hw _ (List.mem_of_getElem? (i := 11) rfl)) (by decide) (by decide)) qa17 qc17 (g := (mkF m 137 #[.val (.int p0), .val (.long q1), .second, .val (.int p2), .val (.int p3), .val (.int p4), .val (.ref kd), .val (.ref b2), .val (.ref b8), .val .null, .val (.ref b13), .val (.int (1 : Int32)), .unset, .unset] [(.ref b8), (.ref b8)])) rfl (by rw [hml]; rfl) (Steps.refl _) (argsL := [(.ref b8)]) (rest := []) (lenOf pd11 rfl) rfl (by show 2 * 0 + _ ≤ _; exact Nat.le_of_eq rfl) (hb hby at_137) (fun _ _ => ⟨rfl, e16, (by decide : 4 + 0 ≤ _), (by decide : 13 + 0 ≤ _)⟩)
    dsimp only [Pt.U, Pt.locs, Pt.cells, Pt.slots] at X17 l17 y17 z17 st17 hQ17
    rw [l17, y17, z17] at X17
    obtain ⟨rfl, N17q, e17⟩ := hQ17
    have N17 := Fr.app N16 N17q
    refine Dn.by (U' := T17.setTop (mkF m 140 #[.val (.int p0), .val (.long q1), .second, .val (.int p2), .val (.int p3), .val (.int p4), .val (.ref kd), .val (.ref b2), .val (.ref b8), .val .null, .val (.ref b13), .val (.int (1 : Int32)), .unset, .unset] [(.int (1 : Int32))])) (fun _ ks => st17.trans ks) ?_
    refine Dn.by (U' := T17.setTop (mkF m 143 #[.val (.int p0), .val (.long q1), .second, .val (.int p2), .val (.int p3), .val (.int p4), .val (.ref kd), .val (.ref b2), .val (.ref b8), .val .null, .val (.ref b13), .val (.int (1 : Int32)), .unset, .unset] [])) (fun _ ks => XS.ifNo X17.here hx rfl (hb hby at_140) rfl (by decide) ks) ?_
    refine Dn.by (U' := T17.setTop (mkF m 144 #[.val (.int p0), .val (.long q1), .second, .val (.int p2), .val (.int p3), .val (.int p4), .val (.ref kd), .val (.ref b2), .val (.ref b8), .val .null, .val (.ref b13), .val (.int (1 : Int32)), .unset, .unset] [(.int (1 : Int32))])) (fun _ ks => XS.iconst X17.here hx rfl (hb hby at_143)  ks) ?_
    refine Dn.by (U' := T17.setTop (mkF m 148 #[.val (.int p0), .val (.long q1), .second, .val (.int p2), .val (.int p3), .val (.int p4), .val (.ref kd), .val (.ref b2), .val (.ref b8), .val .null, .val (.ref b13), .val (.int (1 : Int32)), .unset, .unset] [(.int (1 : Int32))])) (fun _ ks => XS.goto X17.here hx rfl (pc0 := 144) (pc' := 148) rfl (hb hby at_144) (by decide) (by decide) ks) ?_
    refine Dn.by (U' := T17.setTop (mkF m 150 #[.val (.int p0), .val (.long q1), .second, .val (.int p2), .val (.int p3), .val (.int p4), .val (.ref kd), .val (.ref b2), .val (.ref b8), .val .null, .val (.ref b13), .val (.int (1 : Int32)), .unset, .unset] [])) (fun _ ks => XS.istore X17.here hx rfl (hb hby at_148) rfl (l' := #[.val (.int p0), .val (.long q1), .second, .val (.int p2), .val (.int p3), .val (.int p4), .val (.ref kd), .val (.ref b2), .val (.ref b8), .val .null, .val (.ref b13), .val (.int (1 : Int32)), .unset, .unset]) rfl ks) ?_
    refine Dn.by (U' := T17.setTop (mkF m 152 #[.val (.int p0), .val (.long q1), .second, .val (.int p2), .val (.int p3), .val (.int p4), .val (.ref kd), .val (.ref b2), .val (.ref b8), .val .null, .val (.ref b13), .val (.int (1 : Int32)), .unset, .unset] [(.int (1 : Int32))])) (fun _ ks => XS.iload X17.here hx rfl (hb hby at_150) rfl ks) ?_
    refine Dn.by (U' := T17.setTop (mkF m 155 #[.val (.int p0), .val (.long q1), .second, .val (.int p2), .val (.int p3), .val (.int p4), .val (.ref kd), .val (.ref b2), .val (.ref b8), .val .null, .val (.ref b13), .val (.int (1 : Int32)), .unset, .unset] [])) (fun _ ks => XS.ifNo X17.here hx rfl (hb hby at_152) rfl (by decide) ks) ?_
    refine Dn.by (U' := T17.setTop (mkF m 157 #[.val (.int p0), .val (.long q1), .second, .val (.int p2), .val (.int p3), .val (.int p4), .val (.ref kd), .val (.ref b2), .val (.ref b8), .val .null, .val (.ref b13), .val (.int (1 : Int32)), .unset, .unset] [(.ref b13)])) (fun _ ks => XS.aload X17.here hx rfl (hb hby at_155) rfl rfl ks) ?_
    obtain ⟨cq18, kq18, qa18, qb18, qc18⟩ := isOf hZ e17 EE13
    obtain ⟨_, _, ⟨T18, L18, k18, n18⟩, -, X18, ⟨Lc18, hQ18, l18, y18, z18⟩, st18⟩ := X17.virtualBack hx (y := (⟨"com/example/ferrywire/ferrywire/agent/AgentEvent", "sequence", "()J"⟩ : MethodName)) (z := (⟨"com/example/ferrywire/ferrywire/agent/AgentEvent", "sequence", "()J"⟩ : MethodName)) hown (mvT hZ (hw _ (List.mem_of_getElem? (i := 73) rfl))) (mvT hZ (hw _ (List.mem_of_getElem? (i := 74) rfl))) (notFace_of_selects (args := #[]) (mvT hZ (hw _ (List.mem_of_getElem? (i := 76) rfl)))) (mvT hZ (hw _ (List.mem_of_getElem? (i := 76) rfl))) (mvT hZ (hw _ (List.mem_of_getElem? (i := 75) rfl))) (by decide) (backOf (W := 0) (rm13 l Z a0 hw [] b13 (0 : Int64) T13.heap n0 z14 FF13_0) hZ (hw _ (List.mem_of_getElem? (i := 77) rfl)) (hw _ (List.mem_of_getElem? (i := 40) rfl)) (by decide) (by decide)) qa18 qc18 (g := (mkF m 157 #[.val (.int p0), .val (.long q1), .second, .val (.int p2), .val (.int p3), .val (.int p4), .val (.ref kd), .val (.ref b2), .val (.ref b8), .val .null, .val (.ref b13), .val (.int (1 : Int32)), .unset, .unset] [(.ref b13)])) rfl (by rw [hml]; rfl) (Steps.refl _) (argsL := []) (rest := []) (lenOf pd12 rfl) rfl (by show 2 * 0 + _ ≤ _; exact Nat.le_of_eq rfl) (hb hby at_157) (fun _ _ => ⟨rfl, e17, (by decide : 4 + 0 ≤ _), (by decide : 13 + 0 ≤ _)⟩)
    dsimp only [Pt.U, Pt.locs, Pt.cells, Pt.slots] at X18 l18 y18 z18 st18 hQ18
    rw [l18, y18, z18] at X18
    obtain ⟨rfl, N18q, e18⟩ := hQ18
    have N18 := Fr.app N17 N18q
    refine Dn.by (U' := T18.setTop (mkF m 160 #[.val (.int p0), .val (.long q1), .second, .val (.int p2), .val (.int p3), .val (.int p4), .val (.ref kd), .val (.ref b2), .val (.ref b8), .val .null, .val (.ref b13), .val (.int (1 : Int32)), .unset, .unset] [(.long (0 : Int64))])) (fun _ ks => st18.trans ks) ?_
    refine Dn.by (U' := T18.setTop (mkF m 161 #[.val (.int p0), .val (.long q1), .second, .val (.int p2), .val (.int p3), .val (.int p4), .val (.ref kd), .val (.ref b2), .val (.ref b8), .val .null, .val (.ref b13), .val (.int (1 : Int32)), .unset, .unset] [(.long (0 : Int64)), (.long (0 : Int64))])) (fun _ ks => XS.lconst X18.here hx rfl (hb hby at_160)  ks) ?_
    refine Dn.by (U' := T18.setTop (mkF m 162 #[.val (.int p0), .val (.long q1), .second, .val (.int p2), .val (.int p3), .val (.int p4), .val (.ref kd), .val (.ref b2), .val (.ref b8), .val .null, .val (.ref b13), .val (.int (1 : Int32)), .unset, .unset] [(.int (lcmpW (0 : Int64) (0 : Int64)))])) (fun _ ks => XS.lcmp X18.here hx rfl (hb hby at_161) rfl ks) ?_
    refine Dn.by (U' := T18.setTop (mkF m 165 #[.val (.int p0), .val (.long q1), .second, .val (.int p2), .val (.int p3), .val (.int p4), .val (.ref kd), .val (.ref b2), .val (.ref b8), .val .null, .val (.ref b13), .val (.int (1 : Int32)), .unset, .unset] [])) (fun _ ks => XS.ifNo X18.here hx rfl (hb hby at_162) rfl ((if0 _ _).trans (teq ((lw_eq _ _).mpr rfl)).2) ks) ?_
    refine Dn.by (U' := T18.setTop (mkF m 166 #[.val (.int p0), .val (.long q1), .second, .val (.int p2), .val (.int p3), .val (.int p4), .val (.ref kd), .val (.ref b2), .val (.ref b8), .val .null, .val (.ref b13), .val (.int (1 : Int32)), .unset, .unset] [(.int (1 : Int32))])) (fun _ ks => XS.iconst X18.here hx rfl (hb hby at_165)  ks) ?_
    refine Dn.by (U' := T18.setTop (mkF m 170 #[.val (.int p0), .val (.long q1), .second, .val (.int p2), .val (.int p3), .val (.int p4), .val (.ref kd), .val (.ref b2), .val (.ref b8), .val .null, .val (.ref b13), .val (.int (1 : Int32)), .unset, .unset] [(.int (1 : Int32))])) (fun _ ks => XS.goto X18.here hx rfl (pc0 := 166) (pc' := 170) rfl (hb hby at_166) (by decide) (by decide) ks) ?_
    refine Dn.by (U' := T18.setTop (mkF m 172 #[.val (.int p0), .val (.long q1), .second, .val (.int p2), .val (.int p3), .val (.int p4), .val (.ref kd), .val (.ref b2), .val (.ref b8), .val .null, .val (.ref b13), .val (.int (1 : Int32)), .unset, .unset] [])) (fun _ ks => XS.istore X18.here hx rfl (hb hby at_170) rfl (l' := #[.val (.int p0), .val (.long q1), .second, .val (.int p2), .val (.int p3), .val (.int p4), .val (.ref kd), .val (.ref b2), .val (.ref b8), .val .null, .val (.ref b13), .val (.int (1 : Int32)), .unset, .unset]) rfl ks) ?_
    refine Dn.by (U' := T18.setTop (mkF m 174 #[.val (.int p0), .val (.long q1), .second, .val (.int p2), .val (.int p3), .val (.int p4), .val (.ref kd), .val (.ref b2), .val (.ref b8), .val .null, .val (.ref b13), .val (.int (1 : Int32)), .unset, .unset] [(.ref b13)])) (fun _ ks => XS.aload X18.here hx rfl (hb hby at_172) rfl rfl ks) ?_
    obtain ⟨cq19, kq19, qa19, qb19, qc19⟩ := isOf hZ e18 EE13
    obtain ⟨_, _, ⟨T19, L19, k19, n19⟩, -, X19, ⟨Lc19, hQ19, l19, y19, z19⟩, st19⟩ := X18.virtualBack hx (y := (⟨"com/example/ferrywire/ferrywire/agent/AgentEvent", "messageId", "()Ljava/util/OptionalLong;"⟩ : MethodName)) (z := (⟨"com/example/ferrywire/ferrywire/agent/AgentEvent", "messageId", "()Ljava/util/OptionalLong;"⟩ : MethodName)) hown (mvT hZ (hw _ (List.mem_of_getElem? (i := 78) rfl))) (mvT hZ (hw _ (List.mem_of_getElem? (i := 79) rfl))) (notFace_of_selects (args := #[]) (mvT hZ (hw _ (List.mem_of_getElem? (i := 81) rfl)))) (mvT hZ (hw _ (List.mem_of_getElem? (i := 81) rfl))) (mvT hZ (hw _ (List.mem_of_getElem? (i := 80) rfl))) (by decide) (backOf (W := 0) (rm14 l Z a0 hw [] b13 q1 T13.heap n0 z14 FF13_3 O14 el S_el E_el F_ip F_vl) hZ (hw _ (List.mem_of_getElem? (i := 82) rfl)) (hw _ (List.mem_of_getElem? (i := 40) rfl)) (by decide) (by decide)) qa19 qc19 (g := (mkF m 174 #[.val (.int p0), .val (.long q1), .second, .val (.int p2), .val (.int p3), .val (.int p4), .val (.ref kd), .val (.ref b2), .val (.ref b8), .val .null, .val (.ref b13), .val (.int (1 : Int32)), .unset, .unset] [(.ref b13)])) rfl (by rw [hml]; rfl) (Steps.refl _) (argsL := []) (rest := []) (lenOf pd2 rfl) rfl (by show 2 * 0 + _ ≤ _; exact Nat.le_of_eq rfl) (hb hby at_174) (fun _ _ => ⟨rfl, e18, (by decide : 4 + 1 ≤ _), (by decide : 13 + 2 ≤ _)⟩)
    dsimp only [Pt.U, Pt.locs, Pt.cells, Pt.slots] at X19 l19 y19 z19 st19 hQ19
    rw [l19, y19, z19] at X19
    obtain ⟨b19, rfl, N19q, KK19, EE19, FP19, FV19⟩ := hQ19
    have N19 := Fr.app N18 N19q
    have K20 : Keep h0 T19.heap [] := (K14.trans KK19 all0)
    have z20 : n0 ≤ T19.heap.size := (Nat.le_trans z14 KK19.1)
    have O20 : Old Z n0 T19.heap := O14.keep KK19 all0
    refine Dn.by (U' := T19.setTop (mkF m 177 #[.val (.int p0), .val (.long q1), .second, .val (.int p2), .val (.int p3), .val (.int p4), .val (.ref kd), .val (.ref b2), .val (.ref b8), .val .null, .val (.ref b13), .val (.int (1 : Int32)), .unset, .unset] [(.ref b19)])) (fun _ ks => st19.trans ks) ?_
    refine Dn.by (U' := T19.setTop (mkF m 179 #[.val (.int p0), .val (.long q1), .second, .val (.int p2), .val (.int p3), .val (.int p4), .val (.ref kd), .val (.ref b2), .val (.ref b8), .val .null, .val (.ref b13), .val (.int (1 : Int32)), .val (.ref b19), .unset] [])) (fun _ ks => XS.astore X19.here hx rfl (hb hby at_177) rfl rfl (l' := #[.val (.int p0), .val (.long q1), .second, .val (.int p2), .val (.int p3), .val (.int p4), .val (.ref kd), .val (.ref b2), .val (.ref b8), .val .null, .val (.ref b13), .val (.int (1 : Int32)), .val (.ref b19), .unset]) rfl ks) ?_
    refine Dn.by (U' := T19.setTop (mkF m 180 #[.val (.int p0), .val (.long q1), .second, .val (.int p2), .val (.int p3), .val (.int p4), .val (.ref kd), .val (.ref b2), .val (.ref b8), .val .null, .val (.ref b13), .val (.int (1 : Int32)), .val (.ref b19), .unset] [(.long q1)])) (fun _ ks => XS.lloadN X19.here hx rfl (hb hby at_179) rfl ks) ?_
    refine Dn.by (U' := T19.setTop (mkF m 181 #[.val (.int p0), .val (.long q1), .second, .val (.int p2), .val (.int p3), .val (.int p4), .val (.ref kd), .val (.ref b2), .val (.ref b8), .val .null, .val (.ref b13), .val (.int (1 : Int32)), .val (.ref b19), .unset] [(.long (0 : Int64)), (.long q1)])) (fun _ ks => XS.lconst X19.here hx rfl (hb hby at_180)  ks) ?_
    refine Dn.by (U' := T19.setTop (mkF m 182 #[.val (.int p0), .val (.long q1), .second, .val (.int p2), .val (.int p3), .val (.int p4), .val (.ref kd), .val (.ref b2), .val (.ref b8), .val .null, .val (.ref b13), .val (.int (1 : Int32)), .val (.ref b19), .unset] [(.int (lcmpW q1 (0 : Int64)))])) (fun _ ks => XS.lcmp X19.here hx rfl (hb hby at_181) rfl ks) ?_
    by_cases c182_21 : q1 = (0 : Int64)
    ·
      refine Dn.by (U' := T19.setTop (mkF m 185 #[.val (.int p0), .val (.long q1), .second, .val (.int p2), .val (.int p3), .val (.int p4), .val (.ref kd), .val (.ref b2), .val (.ref b8), .val .null, .val (.ref b13), .val (.int (1 : Int32)), .val (.ref b19), .unset] [])) (fun _ ks => XS.ifNo X19.here hx rfl (hb hby at_182) rfl ((if0 _ _).trans (teq ((lw_eq _ _).mpr c182_21)).2) ks) ?_
      refine Dn.by (U' := T19.setTop (mkF m 187 #[.val (.int p0), .val (.long q1), .second, .val (.int p2), .val (.int p3), .val (.int p4), .val (.ref kd), .val (.ref b2), .val (.ref b8), .val .null, .val (.ref b13), .val (.int (1 : Int32)), .val (.ref b19), .unset] [(.int (1 : Int32))])) (fun _ ks => XS.iload X19.here hx rfl (hb hby at_185) rfl ks) ?_
      refine Dn.by (U' := T19.setTop (mkF m 190 #[.val (.int p0), .val (.long q1), .second, .val (.int p2), .val (.int p3), .val (.int p4), .val (.ref kd), .val (.ref b2), .val (.ref b8), .val .null, .val (.ref b13), .val (.int (1 : Int32)), .val (.ref b19), .unset] [])) (fun _ ks => XS.ifNo X19.here hx rfl (hb hby at_187) rfl (by decide) ks) ?_
      refine Dn.by (U' := T19.setTop (mkF m 192 #[.val (.int p0), .val (.long q1), .second, .val (.int p2), .val (.int p3), .val (.int p4), .val (.ref kd), .val (.ref b2), .val (.ref b8), .val .null, .val (.ref b13), .val (.int (1 : Int32)), .val (.ref b19), .unset] [(.ref b19)])) (fun _ ks => XS.aload X19.here hx rfl (hb hby at_190) rfl rfl ks) ?_
      obtain ⟨cq22, kq22, qa22, qb22, qc22⟩ := isOf hZ rfl EE19
      obtain ⟨_, _, ⟨T22, L22, k22, n22⟩, -, X22, ⟨Lc22, hQ22, l22, y22, z22⟩, st22⟩ := X19.virtualBack hx (y := (⟨"java/util/OptionalLong", "isPresent", "()Z"⟩ : MethodName)) (z := (⟨"java/util/OptionalLong", "isPresent", "()Z"⟩ : MethodName)) hown (mvT hZ (hw _ (List.mem_of_getElem? (i := 98) rfl))) (mvT hZ (hw _ (List.mem_of_getElem? (i := 99) rfl))) (notFace_of_selects (args := #[]) (mvT hZ (hw _ (List.mem_of_getElem? (i := 101) rfl)))) (mvT hZ (hw _ (List.mem_of_getElem? (i := 101) rfl))) (mvT hZ (hw _ (List.mem_of_getElem? (i := 100) rfl))) (by decide) (backOf (W := 0) (rm17 l Z a0 hw [] b19 (if q1 = (0 : Int64) then (0 : Int32) else (1 : Int32)) T19.heap n0 z20 FP19) hZ (hw _ (List.mem_of_getElem? (i := 102) rfl)) (hw _ (List.mem_of_getElem? (i := 85) rfl)) (by decide) (by decide)) qa22 qc22 (g := (mkF m 192 #[.val (.int p0), .val (.long q1), .second, .val (.int p2), .val (.int p3), .val (.int p4), .val (.ref kd), .val (.ref b2), .val (.ref b8), .val .null, .val (.ref b13), .val (.int (1 : Int32)), .val (.ref b19), .unset] [(.ref b19)])) rfl (by rw [hml]; rfl) (Steps.refl _) (argsL := []) (rest := []) (lenOf pd13 rfl) rfl (by show 2 * 0 + _ ≤ _; exact Nat.le_of_eq rfl) (hb hby at_192) (fun _ _ => ⟨rfl, rfl, (by decide : 5 + 0 ≤ _), (by decide : 15 + 0 ≤ _)⟩)
      dsimp only [Pt.U, Pt.locs, Pt.cells, Pt.slots] at X22 l22 y22 z22 st22 hQ22
      rw [l22, y22, z22] at X22
      obtain ⟨rfl, N22q, e22⟩ := hQ22
      have N22 := Fr.app N19 N22q
      refine Dn.by (U' := T22.setTop (mkF m 195 #[.val (.int p0), .val (.long q1), .second, .val (.int p2), .val (.int p3), .val (.int p4), .val (.ref kd), .val (.ref b2), .val (.ref b8), .val .null, .val (.ref b13), .val (.int (1 : Int32)), .val (.ref b19), .unset] [(.int (nar .boolean (if q1 = (0 : Int64) then (0 : Int32) else (1 : Int32))))])) (fun _ ks => st22.trans ks) ?_
      rw [show (nar .boolean (if q1 = (0 : Int64) then (0 : Int32) else (1 : Int32))) = (0 : Int32) from own_p0 c182_21]
      refine Dn.by (U' := T22.setTop (mkF m 198 #[.val (.int p0), .val (.long q1), .second, .val (.int p2), .val (.int p3), .val (.int p4), .val (.ref kd), .val (.ref b2), .val (.ref b8), .val .null, .val (.ref b13), .val (.int (1 : Int32)), .val (.ref b19), .unset] [])) (fun _ ks => XS.ifNo X22.here hx rfl (hb hby at_195) rfl (by decide) ks) ?_
      refine Dn.by (U' := T22.setTop (mkF m 199 #[.val (.int p0), .val (.long q1), .second, .val (.int p2), .val (.int p3), .val (.int p4), .val (.ref kd), .val (.ref b2), .val (.ref b8), .val .null, .val (.ref b13), .val (.int (1 : Int32)), .val (.ref b19), .unset] [(.int (1 : Int32))])) (fun _ ks => XS.iconst X22.here hx rfl (hb hby at_198)  ks) ?_
      refine Dn.by (U' := T22.setTop (mkF m 203 #[.val (.int p0), .val (.long q1), .second, .val (.int p2), .val (.int p3), .val (.int p4), .val (.ref kd), .val (.ref b2), .val (.ref b8), .val .null, .val (.ref b13), .val (.int (1 : Int32)), .val (.ref b19), .unset] [(.int (1 : Int32))])) (fun _ ks => XS.goto X22.here hx rfl (pc0 := 199) (pc' := 203) rfl (hb hby at_199) (by decide) (by decide) ks) ?_
      refine Dn.by (U' := T22.setTop (mkF m 205 #[.val (.int p0), .val (.long q1), .second, .val (.int p2), .val (.int p3), .val (.int p4), .val (.ref kd), .val (.ref b2), .val (.ref b8), .val .null, .val (.ref b13), .val (.int (1 : Int32)), .val (.ref b19), .unset] [])) (fun _ ks => XS.istore X22.here hx rfl (hb hby at_203) rfl (l' := #[.val (.int p0), .val (.long q1), .second, .val (.int p2), .val (.int p3), .val (.int p4), .val (.ref kd), .val (.ref b2), .val (.ref b8), .val .null, .val (.ref b13), .val (.int (1 : Int32)), .val (.ref b19), .unset]) rfl ks) ?_
      refine Dn.by (U' := T22.setTop (mkF m 238 #[.val (.int p0), .val (.long q1), .second, .val (.int p2), .val (.int p3), .val (.int p4), .val (.ref kd), .val (.ref b2), .val (.ref b8), .val .null, .val (.ref b13), .val (.int (1 : Int32)), .val (.ref b19), .unset] [])) (fun _ ks => XS.goto X22.here hx rfl (pc0 := 205) (pc' := 238) rfl (hb hby at_205) (by decide) (by decide) ks) ?_
      refine Dn.by (U' := T22.setTop (mkF m 240 #[.val (.int p0), .val (.long q1), .second, .val (.int p2), .val (.int p3), .val (.int p4), .val (.ref kd), .val (.ref b2), .val (.ref b8), .val .null, .val (.ref b13), .val (.int (1 : Int32)), .val (.ref b19), .unset] [(.ref b13)])) (fun _ ks => XS.aload X22.here hx rfl (hb hby at_238) rfl rfl ks) ?_
      obtain ⟨cq23, kq23, qa23, qb23, qc23⟩ := isOf hZ e22 (EE13.keep KK19)
      obtain ⟨_, _, ⟨T23, L23, k23, n23⟩, -, X23, ⟨Lc23, hQ23, l23, y23, z23⟩, st23⟩ := X22.virtualBack hx (y := (⟨"com/example/ferrywire/ferrywire/agent/AgentEvent", "text", "()Ljava/util/Optional;"⟩ : MethodName)) (z := (⟨"com/example/ferrywire/ferrywire/agent/AgentEvent", "text", "()Ljava/util/Optional;"⟩ : MethodName)) hown (mvT hZ (hw _ (List.mem_of_getElem? (i := 108) rfl))) (mvT hZ (hw _ (List.mem_of_getElem? (i := 109) rfl))) (notFace_of_selects (args := #[]) (mvT hZ (hw _ (List.mem_of_getElem? (i := 111) rfl)))) (mvT hZ (hw _ (List.mem_of_getElem? (i := 111) rfl))) (mvT hZ (hw _ (List.mem_of_getElem? (i := 110) rfl))) (by decide) (backOf (W := 0) (rm19n l Z a0 hw [] b13 eo T19.heap n0 z20 (FF13_4.keep KK19 nin0) (S_eo.ext O20.2)) hZ (hw _ (List.mem_of_getElem? (i := 112) rfl)) (hw _ (List.mem_of_getElem? (i := 40) rfl)) (by decide) (by decide)) qa23 qc23 (g := (mkF m 240 #[.val (.int p0), .val (.long q1), .second, .val (.int p2), .val (.int p3), .val (.int p4), .val (.ref kd), .val (.ref b2), .val (.ref b8), .val .null, .val (.ref b13), .val (.int (1 : Int32)), .val (.ref b19), .unset] [(.ref b13)])) rfl (by rw [hml]; rfl) (Steps.refl _) (argsL := []) (rest := []) (lenOf pd14 rfl) rfl (by show 2 * 0 + _ ≤ _; exact Nat.le_of_eq rfl) (hb hby at_240) (fun _ _ => ⟨rfl, e22, (by decide : 5 + 0 ≤ _), (by decide : 15 + 0 ≤ _)⟩)
      dsimp only [Pt.U, Pt.locs, Pt.cells, Pt.slots] at X23 l23 y23 z23 st23 hQ23
      rw [l23, y23, z23] at X23
      obtain ⟨rfl, N23q, e23⟩ := hQ23
      have N23 := Fr.app N22 N23q
      refine Dn.by (U' := T23.setTop (mkF m 243 #[.val (.int p0), .val (.long q1), .second, .val (.int p2), .val (.int p3), .val (.int p4), .val (.ref kd), .val (.ref b2), .val (.ref b8), .val .null, .val (.ref b13), .val (.int (1 : Int32)), .val (.ref b19), .unset] [(.ref eo)])) (fun _ ks => st23.trans ks) ?_
      refine Dn.by (U' := T23.setTop (mkF m 245 #[.val (.int p0), .val (.long q1), .second, .val (.int p2), .val (.int p3), .val (.int p4), .val (.ref kd), .val (.ref b2), .val (.ref b8), .val .null, .val (.ref b13), .val (.int (1 : Int32)), .val (.ref b19), .val (.ref eo)] [])) (fun _ ks => XS.astore X23.here hx rfl (hb hby at_243) rfl rfl (l' := #[.val (.int p0), .val (.long q1), .second, .val (.int p2), .val (.int p3), .val (.int p4), .val (.ref kd), .val (.ref b2), .val (.ref b8), .val .null, .val (.ref b13), .val (.int (1 : Int32)), .val (.ref b19), .val (.ref eo)]) rfl ks) ?_
      refine Dn.by (U' := T23.setTop (mkF m 247 #[.val (.int p0), .val (.long q1), .second, .val (.int p2), .val (.int p3), .val (.int p4), .val (.ref kd), .val (.ref b2), .val (.ref b8), .val .null, .val (.ref b13), .val (.int (1 : Int32)), .val (.ref b19), .val (.ref eo)] [.null])) (fun _ ks => XS.aload X23.here hx rfl (hb hby at_245) rfl rfl ks) ?_
      refine Dn.by (U' := T23.setTop (mkF m 250 #[.val (.int p0), .val (.long q1), .second, .val (.int p2), .val (.int p3), .val (.int p4), .val (.ref kd), .val (.ref b2), .val (.ref b8), .val .null, .val (.ref b13), .val (.int (1 : Int32)), .val (.ref b19), .val (.ref eo)] [])) (fun _ ks => XS.ifnonnullNo X23.here hx rfl (hb hby at_247) rfl ks) ?_
      refine Dn.by (U' := T23.setTop (mkF m 252 #[.val (.int p0), .val (.long q1), .second, .val (.int p2), .val (.int p3), .val (.int p4), .val (.ref kd), .val (.ref b2), .val (.ref b8), .val .null, .val (.ref b13), .val (.int (1 : Int32)), .val (.ref b19), .val (.ref eo)] [(.int (1 : Int32))])) (fun _ ks => XS.iload X23.here hx rfl (hb hby at_250) rfl ks) ?_
      refine Dn.by (U' := T23.setTop (mkF m 255 #[.val (.int p0), .val (.long q1), .second, .val (.int p2), .val (.int p3), .val (.int p4), .val (.ref kd), .val (.ref b2), .val (.ref b8), .val .null, .val (.ref b13), .val (.int (1 : Int32)), .val (.ref b19), .val (.ref eo)] [])) (fun _ ks => XS.ifNo X23.here hx rfl (hb hby at_252) rfl (by decide) ks) ?_
      refine Dn.by (U' := T23.setTop (mkF m 257 #[.val (.int p0), .val (.long q1), .second, .val (.int p2), .val (.int p3), .val (.int p4), .val (.ref kd), .val (.ref b2), .val (.ref b8), .val .null, .val (.ref b13), .val (.int (1 : Int32)), .val (.ref b19), .val (.ref eo)] [(.ref eo)])) (fun _ ks => XS.aload X23.here hx rfl (hb hby at_255) rfl rfl ks) ?_
      obtain ⟨cq24, kq24, qa24, qb24, qc24⟩ := isOf hZ e23 (((((((E_eo.ext E2).wr W4).wr W6).ext E8).keep KK10).keep KK13).keep KK19)
      obtain ⟨_, _, ⟨T24, L24, k24, n24⟩, -, X24, ⟨Lc24, hQ24, l24, y24, z24⟩, st24⟩ := X23.virtualBack hx (y := (⟨"java/util/Optional", "isPresent", "()Z"⟩ : MethodName)) (z := (⟨"java/util/Optional", "isPresent", "()Z"⟩ : MethodName)) hown (mvT hZ (hw _ (List.mem_of_getElem? (i := 126) rfl))) (mvT hZ (hw _ (List.mem_of_getElem? (i := 127) rfl))) (notFace_of_selects (args := #[]) (mvT hZ (hw _ (List.mem_of_getElem? (i := 129) rfl)))) (mvT hZ (hw _ (List.mem_of_getElem? (i := 129) rfl))) (mvT hZ (hw _ (List.mem_of_getElem? (i := 128) rfl))) (by decide) (backOf (W := 0) (rm22n l Z a0 hw [] eo  T19.heap n0 z20 (((((((F_eo.ext E2).other W4 (Or.inl ne_eo_b2)).other W6 (Or.inl ne_eo_b2)).ext E8).keep KK10 (ninS ne_eo_b8 nin0)).keep KK13 nin0).keep KK19 nin0)) hZ (hw _ (List.mem_of_getElem? (i := 130) rfl)) (hw _ (List.mem_of_getElem? (i := 115) rfl)) (by decide) (by decide)) qa24 qc24 (g := (mkF m 257 #[.val (.int p0), .val (.long q1), .second, .val (.int p2), .val (.int p3), .val (.int p4), .val (.ref kd), .val (.ref b2), .val (.ref b8), .val .null, .val (.ref b13), .val (.int (1 : Int32)), .val (.ref b19), .val (.ref eo)] [(.ref eo)])) rfl (by rw [hml]; rfl) (Steps.refl _) (argsL := []) (rest := []) (lenOf pd13 rfl) rfl (by show 2 * 0 + _ ≤ _; exact Nat.le_of_eq rfl) (hb hby at_257) (fun _ _ => ⟨rfl, e23, (by decide : 5 + 0 ≤ _), (by decide : 15 + 0 ≤ _)⟩)
      dsimp only [Pt.U, Pt.locs, Pt.cells, Pt.slots] at X24 l24 y24 z24 st24 hQ24
      rw [l24, y24, z24] at X24
      obtain ⟨rfl, N24q, e24⟩ := hQ24
      have N24 := Fr.app N23 N24q
      refine Dn.by (U' := T24.setTop (mkF m 260 #[.val (.int p0), .val (.long q1), .second, .val (.int p2), .val (.int p3), .val (.int p4), .val (.ref kd), .val (.ref b2), .val (.ref b8), .val .null, .val (.ref b13), .val (.int (1 : Int32)), .val (.ref b19), .val (.ref eo)] [(.int (0 : Int32))])) (fun _ ks => st24.trans ks) ?_
      refine Dn.by (U' := T24.setTop (mkF m 263 #[.val (.int p0), .val (.long q1), .second, .val (.int p2), .val (.int p3), .val (.int p4), .val (.ref kd), .val (.ref b2), .val (.ref b8), .val .null, .val (.ref b13), .val (.int (1 : Int32)), .val (.ref b19), .val (.ref eo)] [])) (fun _ ks => XS.ifNo X24.here hx rfl (hb hby at_260) rfl (by decide) ks) ?_
      refine Dn.by (U' := T24.setTop (mkF m 264 #[.val (.int p0), .val (.long q1), .second, .val (.int p2), .val (.int p3), .val (.int p4), .val (.ref kd), .val (.ref b2), .val (.ref b8), .val .null, .val (.ref b13), .val (.int (1 : Int32)), .val (.ref b19), .val (.ref eo)] [(.int (1 : Int32))])) (fun _ ks => XS.iconst X24.here hx rfl (hb hby at_263)  ks) ?_
      refine Dn.by (U' := T24.setTop (mkF m 268 #[.val (.int p0), .val (.long q1), .second, .val (.int p2), .val (.int p3), .val (.int p4), .val (.ref kd), .val (.ref b2), .val (.ref b8), .val .null, .val (.ref b13), .val (.int (1 : Int32)), .val (.ref b19), .val (.ref eo)] [(.int (1 : Int32))])) (fun _ ks => XS.goto X24.here hx rfl (pc0 := 264) (pc' := 268) rfl (hb hby at_264) (by decide) (by decide) ks) ?_
      refine Dn.by (U' := T24.setTop (mkF m 270 #[.val (.int p0), .val (.long q1), .second, .val (.int p2), .val (.int p3), .val (.int p4), .val (.ref kd), .val (.ref b2), .val (.ref b8), .val .null, .val (.ref b13), .val (.int (1 : Int32)), .val (.ref b19), .val (.ref eo)] [])) (fun _ ks => XS.istore X24.here hx rfl (hb hby at_268) rfl (l' := #[.val (.int p0), .val (.long q1), .second, .val (.int p2), .val (.int p3), .val (.int p4), .val (.ref kd), .val (.ref b2), .val (.ref b8), .val .null, .val (.ref b13), .val (.int (1 : Int32)), .val (.ref b19), .val (.ref eo)]) rfl ks) ?_
      refine Dn.by (U' := T24.setTop (mkF m 306 #[.val (.int p0), .val (.long q1), .second, .val (.int p2), .val (.int p3), .val (.int p4), .val (.ref kd), .val (.ref b2), .val (.ref b8), .val .null, .val (.ref b13), .val (.int (1 : Int32)), .val (.ref b19), .val (.ref eo)] [])) (fun _ ks => XS.goto X24.here hx rfl (pc0 := 270) (pc' := 306) rfl (hb hby at_270) (by decide) (by decide) ks) ?_
      refine Dn.by (U' := T24.setTop (mkF m 308 #[.val (.int p0), .val (.long q1), .second, .val (.int p2), .val (.int p3), .val (.int p4), .val (.ref kd), .val (.ref b2), .val (.ref b8), .val .null, .val (.ref b13), .val (.int (1 : Int32)), .val (.ref b19), .val (.ref eo)] [(.int (1 : Int32))])) (fun _ ks => XS.iload X24.here hx rfl (hb hby at_306) rfl ks) ?_
      refine Dn.out X24 (v := (some (.int (1 : Int32)))) (fun h => by rw [Bd.returns] at h; cases h) (BodyLoose.notSynchronized Bd) (fun _ hr => retN X24 hx (t := .boolean) Bd.returns (by simp) (hb hby at_308) hr) (by decide) (by decide) ?_
      rw [e24]
      exact ⟨rfl, N24⟩
    ·
      refine Dn.by (U' := T19.setTop (mkF m 208 #[.val (.int p0), .val (.long q1), .second, .val (.int p2), .val (.int p3), .val (.int p4), .val (.ref kd), .val (.ref b2), .val (.ref b8), .val .null, .val (.ref b13), .val (.int (1 : Int32)), .val (.ref b19), .unset] [])) (fun _ ks => XS.ifYes X19.here hx rfl (pc0 := 182) (pc' := 208) rfl (hb hby at_182) rfl ((if0 _ _).trans (feq (fun z => c182_21 ((lw_eq _ _).mp z))).2) (by decide) (by decide) ks) ?_
      refine Dn.by (U' := T19.setTop (mkF m 210 #[.val (.int p0), .val (.long q1), .second, .val (.int p2), .val (.int p3), .val (.int p4), .val (.ref kd), .val (.ref b2), .val (.ref b8), .val .null, .val (.ref b13), .val (.int (1 : Int32)), .val (.ref b19), .unset] [(.int (1 : Int32))])) (fun _ ks => XS.iload X19.here hx rfl (hb hby at_208) rfl ks) ?_
      refine Dn.by (U' := T19.setTop (mkF m 213 #[.val (.int p0), .val (.long q1), .second, .val (.int p2), .val (.int p3), .val (.int p4), .val (.ref kd), .val (.ref b2), .val (.ref b8), .val .null, .val (.ref b13), .val (.int (1 : Int32)), .val (.ref b19), .unset] [])) (fun _ ks => XS.ifNo X19.here hx rfl (hb hby at_210) rfl (by decide) ks) ?_
      refine Dn.by (U' := T19.setTop (mkF m 215 #[.val (.int p0), .val (.long q1), .second, .val (.int p2), .val (.int p3), .val (.int p4), .val (.ref kd), .val (.ref b2), .val (.ref b8), .val .null, .val (.ref b13), .val (.int (1 : Int32)), .val (.ref b19), .unset] [(.ref b19)])) (fun _ ks => XS.aload X19.here hx rfl (hb hby at_213) rfl rfl ks) ?_
      obtain ⟨cq25, kq25, qa25, qb25, qc25⟩ := isOf hZ rfl EE19
      obtain ⟨_, _, ⟨T25, L25, k25, n25⟩, -, X25, ⟨Lc25, hQ25, l25, y25, z25⟩, st25⟩ := X19.virtualBack hx (y := (⟨"java/util/OptionalLong", "isPresent", "()Z"⟩ : MethodName)) (z := (⟨"java/util/OptionalLong", "isPresent", "()Z"⟩ : MethodName)) hown (mvT hZ (hw _ (List.mem_of_getElem? (i := 98) rfl))) (mvT hZ (hw _ (List.mem_of_getElem? (i := 99) rfl))) (notFace_of_selects (args := #[]) (mvT hZ (hw _ (List.mem_of_getElem? (i := 101) rfl)))) (mvT hZ (hw _ (List.mem_of_getElem? (i := 101) rfl))) (mvT hZ (hw _ (List.mem_of_getElem? (i := 100) rfl))) (by decide) (backOf (W := 0) (rm17 l Z a0 hw [] b19 (if q1 = (0 : Int64) then (0 : Int32) else (1 : Int32)) T19.heap n0 z20 FP19) hZ (hw _ (List.mem_of_getElem? (i := 102) rfl)) (hw _ (List.mem_of_getElem? (i := 85) rfl)) (by decide) (by decide)) qa25 qc25 (g := (mkF m 215 #[.val (.int p0), .val (.long q1), .second, .val (.int p2), .val (.int p3), .val (.int p4), .val (.ref kd), .val (.ref b2), .val (.ref b8), .val .null, .val (.ref b13), .val (.int (1 : Int32)), .val (.ref b19), .unset] [(.ref b19)])) rfl (by rw [hml]; rfl) (Steps.refl _) (argsL := []) (rest := []) (lenOf pd13 rfl) rfl (by show 2 * 0 + _ ≤ _; exact Nat.le_of_eq rfl) (hb hby at_215) (fun _ _ => ⟨rfl, rfl, (by decide : 5 + 0 ≤ _), (by decide : 15 + 0 ≤ _)⟩)
      dsimp only [Pt.U, Pt.locs, Pt.cells, Pt.slots] at X25 l25 y25 z25 st25 hQ25
      rw [l25, y25, z25] at X25
      obtain ⟨rfl, N25q, e25⟩ := hQ25
      have N25 := Fr.app N19 N25q
      refine Dn.by (U' := T25.setTop (mkF m 218 #[.val (.int p0), .val (.long q1), .second, .val (.int p2), .val (.int p3), .val (.int p4), .val (.ref kd), .val (.ref b2), .val (.ref b8), .val .null, .val (.ref b13), .val (.int (1 : Int32)), .val (.ref b19), .unset] [(.int (nar .boolean (if q1 = (0 : Int64) then (0 : Int32) else (1 : Int32))))])) (fun _ ks => st25.trans ks) ?_
      rw [show (nar .boolean (if q1 = (0 : Int64) then (0 : Int32) else (1 : Int32))) = (1 : Int32) from own_p1 c182_21]
      refine Dn.by (U' := T25.setTop (mkF m 221 #[.val (.int p0), .val (.long q1), .second, .val (.int p2), .val (.int p3), .val (.int p4), .val (.ref kd), .val (.ref b2), .val (.ref b8), .val .null, .val (.ref b13), .val (.int (1 : Int32)), .val (.ref b19), .unset] [])) (fun _ ks => XS.ifNo X25.here hx rfl (hb hby at_218) rfl (by decide) ks) ?_
      refine Dn.by (U' := T25.setTop (mkF m 223 #[.val (.int p0), .val (.long q1), .second, .val (.int p2), .val (.int p3), .val (.int p4), .val (.ref kd), .val (.ref b2), .val (.ref b8), .val .null, .val (.ref b13), .val (.int (1 : Int32)), .val (.ref b19), .unset] [(.ref b19)])) (fun _ ks => XS.aload X25.here hx rfl (hb hby at_221) rfl rfl ks) ?_
      obtain ⟨cq26, kq26, qa26, qb26, qc26⟩ := isOf hZ e25 EE19
      obtain ⟨_, _, ⟨T26, L26, k26, n26⟩, -, X26, ⟨Lc26, hQ26, l26, y26, z26⟩, st26⟩ := X25.virtualBack hx (y := (⟨"java/util/OptionalLong", "getAsLong", "()J"⟩ : MethodName)) (z := (⟨"java/util/OptionalLong", "getAsLong", "()J"⟩ : MethodName)) hown (mvT hZ (hw _ (List.mem_of_getElem? (i := 103) rfl))) (mvT hZ (hw _ (List.mem_of_getElem? (i := 104) rfl))) (notFace_of_selects (args := #[]) (mvT hZ (hw _ (List.mem_of_getElem? (i := 106) rfl)))) (mvT hZ (hw _ (List.mem_of_getElem? (i := 106) rfl))) (mvT hZ (hw _ (List.mem_of_getElem? (i := 105) rfl))) (by decide) (backOf (W := 0) (rm18 l Z a0 hw [] b19 (if q1 = (0 : Int64) then (0 : Int32) else (1 : Int32)) q1 T19.heap n0 z20 FP19 FV19 (own_ne c182_21)) hZ (hw _ (List.mem_of_getElem? (i := 107) rfl)) (hw _ (List.mem_of_getElem? (i := 85) rfl)) (by decide) (by decide)) qa26 qc26 (g := (mkF m 223 #[.val (.int p0), .val (.long q1), .second, .val (.int p2), .val (.int p3), .val (.int p4), .val (.ref kd), .val (.ref b2), .val (.ref b8), .val .null, .val (.ref b13), .val (.int (1 : Int32)), .val (.ref b19), .unset] [(.ref b19)])) rfl (by rw [hml]; rfl) (Steps.refl _) (argsL := []) (rest := []) (lenOf pd12 rfl) rfl (by show 2 * 0 + _ ≤ _; exact Nat.le_of_eq rfl) (hb hby at_223) (fun _ _ => ⟨rfl, e25, (by decide : 5 + 0 ≤ _), (by decide : 15 + 0 ≤ _)⟩)
      dsimp only [Pt.U, Pt.locs, Pt.cells, Pt.slots] at X26 l26 y26 z26 st26 hQ26
      rw [l26, y26, z26] at X26
      obtain ⟨rfl, N26q, e26⟩ := hQ26
      have N26 := Fr.app N25 N26q
      refine Dn.by (U' := T26.setTop (mkF m 226 #[.val (.int p0), .val (.long q1), .second, .val (.int p2), .val (.int p3), .val (.int p4), .val (.ref kd), .val (.ref b2), .val (.ref b8), .val .null, .val (.ref b13), .val (.int (1 : Int32)), .val (.ref b19), .unset] [(.long q1)])) (fun _ ks => st26.trans ks) ?_
      refine Dn.by (U' := T26.setTop (mkF m 227 #[.val (.int p0), .val (.long q1), .second, .val (.int p2), .val (.int p3), .val (.int p4), .val (.ref kd), .val (.ref b2), .val (.ref b8), .val .null, .val (.ref b13), .val (.int (1 : Int32)), .val (.ref b19), .unset] [(.long q1), (.long q1)])) (fun _ ks => XS.lloadN X26.here hx rfl (hb hby at_226) rfl ks) ?_
      refine Dn.by (U' := T26.setTop (mkF m 228 #[.val (.int p0), .val (.long q1), .second, .val (.int p2), .val (.int p3), .val (.int p4), .val (.ref kd), .val (.ref b2), .val (.ref b8), .val .null, .val (.ref b13), .val (.int (1 : Int32)), .val (.ref b19), .unset] [(.int (lcmpW q1 q1))])) (fun _ ks => XS.lcmp X26.here hx rfl (hb hby at_227) rfl ks) ?_
      refine Dn.by (U' := T26.setTop (mkF m 231 #[.val (.int p0), .val (.long q1), .second, .val (.int p2), .val (.int p3), .val (.int p4), .val (.ref kd), .val (.ref b2), .val (.ref b8), .val .null, .val (.ref b13), .val (.int (1 : Int32)), .val (.ref b19), .unset] [])) (fun _ ks => XS.ifNo X26.here hx rfl (hb hby at_228) rfl ((if0 _ _).trans (teq ((lw_eq _ _).mpr rfl)).2) ks) ?_
      refine Dn.by (U' := T26.setTop (mkF m 232 #[.val (.int p0), .val (.long q1), .second, .val (.int p2), .val (.int p3), .val (.int p4), .val (.ref kd), .val (.ref b2), .val (.ref b8), .val .null, .val (.ref b13), .val (.int (1 : Int32)), .val (.ref b19), .unset] [(.int (1 : Int32))])) (fun _ ks => XS.iconst X26.here hx rfl (hb hby at_231)  ks) ?_
      refine Dn.by (U' := T26.setTop (mkF m 236 #[.val (.int p0), .val (.long q1), .second, .val (.int p2), .val (.int p3), .val (.int p4), .val (.ref kd), .val (.ref b2), .val (.ref b8), .val .null, .val (.ref b13), .val (.int (1 : Int32)), .val (.ref b19), .unset] [(.int (1 : Int32))])) (fun _ ks => XS.goto X26.here hx rfl (pc0 := 232) (pc' := 236) rfl (hb hby at_232) (by decide) (by decide) ks) ?_
      refine Dn.by (U' := T26.setTop (mkF m 238 #[.val (.int p0), .val (.long q1), .second, .val (.int p2), .val (.int p3), .val (.int p4), .val (.ref kd), .val (.ref b2), .val (.ref b8), .val .null, .val (.ref b13), .val (.int (1 : Int32)), .val (.ref b19), .unset] [])) (fun _ ks => XS.istore X26.here hx rfl (hb hby at_236) rfl (l' := #[.val (.int p0), .val (.long q1), .second, .val (.int p2), .val (.int p3), .val (.int p4), .val (.ref kd), .val (.ref b2), .val (.ref b8), .val .null, .val (.ref b13), .val (.int (1 : Int32)), .val (.ref b19), .unset]) rfl ks) ?_
      refine Dn.by (U' := T26.setTop (mkF m 240 #[.val (.int p0), .val (.long q1), .second, .val (.int p2), .val (.int p3), .val (.int p4), .val (.ref kd), .val (.ref b2), .val (.ref b8), .val .null, .val (.ref b13), .val (.int (1 : Int32)), .val (.ref b19), .unset] [(.ref b13)])) (fun _ ks => XS.aload X26.here hx rfl (hb hby at_238) rfl rfl ks) ?_
      obtain ⟨cq27, kq27, qa27, qb27, qc27⟩ := isOf hZ e26 (EE13.keep KK19)
      obtain ⟨_, _, ⟨T27, L27, k27, n27⟩, -, X27, ⟨Lc27, hQ27, l27, y27, z27⟩, st27⟩ := X26.virtualBack hx (y := (⟨"com/example/ferrywire/ferrywire/agent/AgentEvent", "text", "()Ljava/util/Optional;"⟩ : MethodName)) (z := (⟨"com/example/ferrywire/ferrywire/agent/AgentEvent", "text", "()Ljava/util/Optional;"⟩ : MethodName)) hown (mvT hZ (hw _ (List.mem_of_getElem? (i := 108) rfl))) (mvT hZ (hw _ (List.mem_of_getElem? (i := 109) rfl))) (notFace_of_selects (args := #[]) (mvT hZ (hw _ (List.mem_of_getElem? (i := 111) rfl)))) (mvT hZ (hw _ (List.mem_of_getElem? (i := 111) rfl))) (mvT hZ (hw _ (List.mem_of_getElem? (i := 110) rfl))) (by decide) (backOf (W := 0) (rm19n l Z a0 hw [] b13 eo T19.heap n0 z20 (FF13_4.keep KK19 nin0) (S_eo.ext O20.2)) hZ (hw _ (List.mem_of_getElem? (i := 112) rfl)) (hw _ (List.mem_of_getElem? (i := 40) rfl)) (by decide) (by decide)) qa27 qc27 (g := (mkF m 240 #[.val (.int p0), .val (.long q1), .second, .val (.int p2), .val (.int p3), .val (.int p4), .val (.ref kd), .val (.ref b2), .val (.ref b8), .val .null, .val (.ref b13), .val (.int (1 : Int32)), .val (.ref b19), .unset] [(.ref b13)])) rfl (by rw [hml]; rfl) (Steps.refl _) (argsL := []) (rest := []) (lenOf pd14 rfl) rfl (by show 2 * 0 + _ ≤ _; exact Nat.le_of_eq rfl) (hb hby at_240) (fun _ _ => ⟨rfl, e26, (by decide : 5 + 0 ≤ _), (by decide : 15 + 0 ≤ _)⟩)
      dsimp only [Pt.U, Pt.locs, Pt.cells, Pt.slots] at X27 l27 y27 z27 st27 hQ27
      rw [l27, y27, z27] at X27
      obtain ⟨rfl, N27q, e27⟩ := hQ27
      have N27 := Fr.app N26 N27q
      refine Dn.by (U' := T27.setTop (mkF m 243 #[.val (.int p0), .val (.long q1), .second, .val (.int p2), .val (.int p3), .val (.int p4), .val (.ref kd), .val (.ref b2), .val (.ref b8), .val .null, .val (.ref b13), .val (.int (1 : Int32)), .val (.ref b19), .unset] [(.ref eo)])) (fun _ ks => st27.trans ks) ?_
      refine Dn.by (U' := T27.setTop (mkF m 245 #[.val (.int p0), .val (.long q1), .second, .val (.int p2), .val (.int p3), .val (.int p4), .val (.ref kd), .val (.ref b2), .val (.ref b8), .val .null, .val (.ref b13), .val (.int (1 : Int32)), .val (.ref b19), .val (.ref eo)] [])) (fun _ ks => XS.astore X27.here hx rfl (hb hby at_243) rfl rfl (l' := #[.val (.int p0), .val (.long q1), .second, .val (.int p2), .val (.int p3), .val (.int p4), .val (.ref kd), .val (.ref b2), .val (.ref b8), .val .null, .val (.ref b13), .val (.int (1 : Int32)), .val (.ref b19), .val (.ref eo)]) rfl ks) ?_
      refine Dn.by (U' := T27.setTop (mkF m 247 #[.val (.int p0), .val (.long q1), .second, .val (.int p2), .val (.int p3), .val (.int p4), .val (.ref kd), .val (.ref b2), .val (.ref b8), .val .null, .val (.ref b13), .val (.int (1 : Int32)), .val (.ref b19), .val (.ref eo)] [.null])) (fun _ ks => XS.aload X27.here hx rfl (hb hby at_245) rfl rfl ks) ?_
      refine Dn.by (U' := T27.setTop (mkF m 250 #[.val (.int p0), .val (.long q1), .second, .val (.int p2), .val (.int p3), .val (.int p4), .val (.ref kd), .val (.ref b2), .val (.ref b8), .val .null, .val (.ref b13), .val (.int (1 : Int32)), .val (.ref b19), .val (.ref eo)] [])) (fun _ ks => XS.ifnonnullNo X27.here hx rfl (hb hby at_247) rfl ks) ?_
      refine Dn.by (U' := T27.setTop (mkF m 252 #[.val (.int p0), .val (.long q1), .second, .val (.int p2), .val (.int p3), .val (.int p4), .val (.ref kd), .val (.ref b2), .val (.ref b8), .val .null, .val (.ref b13), .val (.int (1 : Int32)), .val (.ref b19), .val (.ref eo)] [(.int (1 : Int32))])) (fun _ ks => XS.iload X27.here hx rfl (hb hby at_250) rfl ks) ?_
      refine Dn.by (U' := T27.setTop (mkF m 255 #[.val (.int p0), .val (.long q1), .second, .val (.int p2), .val (.int p3), .val (.int p4), .val (.ref kd), .val (.ref b2), .val (.ref b8), .val .null, .val (.ref b13), .val (.int (1 : Int32)), .val (.ref b19), .val (.ref eo)] [])) (fun _ ks => XS.ifNo X27.here hx rfl (hb hby at_252) rfl (by decide) ks) ?_
      refine Dn.by (U' := T27.setTop (mkF m 257 #[.val (.int p0), .val (.long q1), .second, .val (.int p2), .val (.int p3), .val (.int p4), .val (.ref kd), .val (.ref b2), .val (.ref b8), .val .null, .val (.ref b13), .val (.int (1 : Int32)), .val (.ref b19), .val (.ref eo)] [(.ref eo)])) (fun _ ks => XS.aload X27.here hx rfl (hb hby at_255) rfl rfl ks) ?_
      obtain ⟨cq28, kq28, qa28, qb28, qc28⟩ := isOf hZ e27 (((((((E_eo.ext E2).wr W4).wr W6).ext E8).keep KK10).keep KK13).keep KK19)
      obtain ⟨_, _, ⟨T28, L28, k28, n28⟩, -, X28, ⟨Lc28, hQ28, l28, y28, z28⟩, st28⟩ := X27.virtualBack hx (y := (⟨"java/util/Optional", "isPresent", "()Z"⟩ : MethodName)) (z := (⟨"java/util/Optional", "isPresent", "()Z"⟩ : MethodName)) hown (mvT hZ (hw _ (List.mem_of_getElem? (i := 126) rfl))) (mvT hZ (hw _ (List.mem_of_getElem? (i := 127) rfl))) (notFace_of_selects (args := #[]) (mvT hZ (hw _ (List.mem_of_getElem? (i := 129) rfl)))) (mvT hZ (hw _ (List.mem_of_getElem? (i := 129) rfl))) (mvT hZ (hw _ (List.mem_of_getElem? (i := 128) rfl))) (by decide) (backOf (W := 0) (rm22n l Z a0 hw [] eo  T19.heap n0 z20 (((((((F_eo.ext E2).other W4 (Or.inl ne_eo_b2)).other W6 (Or.inl ne_eo_b2)).ext E8).keep KK10 (ninS ne_eo_b8 nin0)).keep KK13 nin0).keep KK19 nin0)) hZ (hw _ (List.mem_of_getElem? (i := 130) rfl)) (hw _ (List.mem_of_getElem? (i := 115) rfl)) (by decide) (by decide)) qa28 qc28 (g := (mkF m 257 #[.val (.int p0), .val (.long q1), .second, .val (.int p2), .val (.int p3), .val (.int p4), .val (.ref kd), .val (.ref b2), .val (.ref b8), .val .null, .val (.ref b13), .val (.int (1 : Int32)), .val (.ref b19), .val (.ref eo)] [(.ref eo)])) rfl (by rw [hml]; rfl) (Steps.refl _) (argsL := []) (rest := []) (lenOf pd13 rfl) rfl (by show 2 * 0 + _ ≤ _; exact Nat.le_of_eq rfl) (hb hby at_257) (fun _ _ => ⟨rfl, e27, (by decide : 5 + 0 ≤ _), (by decide : 15 + 0 ≤ _)⟩)
      dsimp only [Pt.U, Pt.locs, Pt.cells, Pt.slots] at X28 l28 y28 z28 st28 hQ28
      rw [l28, y28, z28] at X28
      obtain ⟨rfl, N28q, e28⟩ := hQ28
      have N28 := Fr.app N27 N28q
      refine Dn.by (U' := T28.setTop (mkF m 260 #[.val (.int p0), .val (.long q1), .second, .val (.int p2), .val (.int p3), .val (.int p4), .val (.ref kd), .val (.ref b2), .val (.ref b8), .val .null, .val (.ref b13), .val (.int (1 : Int32)), .val (.ref b19), .val (.ref eo)] [(.int (0 : Int32))])) (fun _ ks => st28.trans ks) ?_
      refine Dn.by (U' := T28.setTop (mkF m 263 #[.val (.int p0), .val (.long q1), .second, .val (.int p2), .val (.int p3), .val (.int p4), .val (.ref kd), .val (.ref b2), .val (.ref b8), .val .null, .val (.ref b13), .val (.int (1 : Int32)), .val (.ref b19), .val (.ref eo)] [])) (fun _ ks => XS.ifNo X28.here hx rfl (hb hby at_260) rfl (by decide) ks) ?_
      refine Dn.by (U' := T28.setTop (mkF m 264 #[.val (.int p0), .val (.long q1), .second, .val (.int p2), .val (.int p3), .val (.int p4), .val (.ref kd), .val (.ref b2), .val (.ref b8), .val .null, .val (.ref b13), .val (.int (1 : Int32)), .val (.ref b19), .val (.ref eo)] [(.int (1 : Int32))])) (fun _ ks => XS.iconst X28.here hx rfl (hb hby at_263)  ks) ?_
      refine Dn.by (U' := T28.setTop (mkF m 268 #[.val (.int p0), .val (.long q1), .second, .val (.int p2), .val (.int p3), .val (.int p4), .val (.ref kd), .val (.ref b2), .val (.ref b8), .val .null, .val (.ref b13), .val (.int (1 : Int32)), .val (.ref b19), .val (.ref eo)] [(.int (1 : Int32))])) (fun _ ks => XS.goto X28.here hx rfl (pc0 := 264) (pc' := 268) rfl (hb hby at_264) (by decide) (by decide) ks) ?_
      refine Dn.by (U' := T28.setTop (mkF m 270 #[.val (.int p0), .val (.long q1), .second, .val (.int p2), .val (.int p3), .val (.int p4), .val (.ref kd), .val (.ref b2), .val (.ref b8), .val .null, .val (.ref b13), .val (.int (1 : Int32)), .val (.ref b19), .val (.ref eo)] [])) (fun _ ks => XS.istore X28.here hx rfl (hb hby at_268) rfl (l' := #[.val (.int p0), .val (.long q1), .second, .val (.int p2), .val (.int p3), .val (.int p4), .val (.ref kd), .val (.ref b2), .val (.ref b8), .val .null, .val (.ref b13), .val (.int (1 : Int32)), .val (.ref b19), .val (.ref eo)]) rfl ks) ?_
      refine Dn.by (U' := T28.setTop (mkF m 306 #[.val (.int p0), .val (.long q1), .second, .val (.int p2), .val (.int p3), .val (.int p4), .val (.ref kd), .val (.ref b2), .val (.ref b8), .val .null, .val (.ref b13), .val (.int (1 : Int32)), .val (.ref b19), .val (.ref eo)] [])) (fun _ ks => XS.goto X28.here hx rfl (pc0 := 270) (pc' := 306) rfl (hb hby at_270) (by decide) (by decide) ks) ?_
      refine Dn.by (U' := T28.setTop (mkF m 308 #[.val (.int p0), .val (.long q1), .second, .val (.int p2), .val (.int p3), .val (.int p4), .val (.ref kd), .val (.ref b2), .val (.ref b8), .val .null, .val (.ref b13), .val (.int (1 : Int32)), .val (.ref b19), .val (.ref eo)] [(.int (1 : Int32))])) (fun _ ks => XS.iload X28.here hx rfl (hb hby at_306) rfl ks) ?_
      refine Dn.out X28 (v := (some (.int (1 : Int32)))) (fun h => by rw [Bd.returns] at h; cases h) (BodyLoose.notSynchronized Bd) (fun _ hr => retN X28 hx (t := .boolean) Bd.returns (by simp) (hb hby at_308) hr) (by decide) (by decide) ?_
      rw [e28]
      exact ⟨rfl, N28⟩
  ·
    refine Dn.by (U' := T10.setTop (mkF m 55 #[.val (.int p0), .val (.long q1), .second, .val (.int p2), .val (.int p3), .val (.int p4), .val (.ref kd), .val (.ref b2), .val (.ref b8), .val .null, .unset, .unset, .unset, .unset] [])) (fun _ ks => XS.ifNo X10.here hx rfl (hb hby at_52) rfl ((if0 _ _).trans (feq c52_12).1) ks) ?_
    refine Dn.by (U' := T10.setTop (mkF m 56 #[.val (.int p0), .val (.long q1), .second, .val (.int p2), .val (.int p3), .val (.int p4), .val (.ref kd), .val (.ref b2), .val (.ref b8), .val .null, .unset, .unset, .unset, .unset] [(.int (2 : Int32))])) (fun _ ks => XS.iconst X10.here hx rfl (hb hby at_55)  ks) ?_
    obtain ⟨T29, h29, k29, X29, e29, E29, A29, st29⟩ := newP X10 hx hZ (hw _ (List.mem_of_getElem? (i := 8) rfl)) rfl (g := (mkF m 56 #[.val (.int p0), .val (.long q1), .second, .val (.int p2), .val (.int p3), .val (.int p4), .val (.ref kd), .val (.ref b2), .val (.ref b8), .val .null, .unset, .unset, .unset, .unset] [(.int (2 : Int32))])) rfl (hb hby at_56) rfl (by decide) (cap := 2) (by decide) (by decide) (by decide) (by decide)
    obtain ⟨b29, g29⟩ : ∃ z, z = T10.heap.size := ⟨_, rfl⟩
    rw [← g29] at A29 st29
    have g_b29 : n0 ≤ b29 := Nat.le_trans z11 (Nat.le_of_eq g29.symm)
    have sz_b29 : h0.size ≤ b29 := Nat.le_trans K11.1 (Nat.le_of_eq g29.symm)
    have ne_eo_b29 : eo ≠ b29 := Nat.ne_of_lt (Nat.lt_of_lt_of_le (((((E_eo.ext E2).wr W4).wr W6).ext E8).keep KK10).lt (Nat.le_of_eq g29.symm))
    have ne_b2_b29 : b2 ≠ b29 := Nat.ne_of_lt (Nat.lt_of_lt_of_le ((V6b.ext E8).keep KK10 (ninS ne_b2_b8 nin0)).lt (Nat.le_of_eq g29.symm))
    have ne_b8_b29 : b8 ≠ b29 := Nat.ne_of_lt (Nat.lt_of_lt_of_le EE10.lt (Nat.le_of_eq g29.symm))
    have ne_t10_b29 : t10 ≠ b29 := Nat.ne_of_lt (Nat.lt_of_lt_of_le VV10.lt (Nat.le_of_eq g29.symm))
    have K30 : Keep h0 h29 [] := (K11.ext E29)
    have z30 : n0 ≤ h29.size := (Nat.le_trans z11 E29.1)
    have O30 : Old Z n0 h29 := O11.ext E29
    have V29 : Arv Z h29 b29 k29 .char (2 : Int32) [(.int (0 : Int32)), (.int (0 : Int32))] (.int (0 : Int32)) := (Arv.new A29 (by decide)).pad (pad_rep [] (.int (0 : Int32)) 2)
    refine Dn.by (U' := T29.setTop (mkF m 58 #[.val (.int p0), .val (.long q1), .second, .val (.int p2), .val (.int p3), .val (.int p4), .val (.ref kd), .val (.ref b2), .val (.ref b8), .val .null, .unset, .unset, .unset, .unset] [(.ref b29)])) st29 ?_
    refine Dn.by (U' := T29.setTop (mkF m 60 #[.val (.int p0), .val (.long q1), .second, .val (.int p2), .val (.int p3), .val (.int p4), .val (.ref kd), .val (.ref b2), .val (.ref b8), .val .null, .val (.ref b29), .unset, .unset, .unset] [])) (fun _ ks => XS.astore X29.here hx rfl (hb hby at_58) rfl rfl (l' := #[.val (.int p0), .val (.long q1), .second, .val (.int p2), .val (.int p3), .val (.int p4), .val (.ref kd), .val (.ref b2), .val (.ref b8), .val .null, .val (.ref b29), .unset, .unset, .unset]) rfl ks) ?_
    refine Dn.by (U' := T29.setTop (mkF m 62 #[.val (.int p0), .val (.long q1), .second, .val (.int p2), .val (.int p3), .val (.int p4), .val (.ref kd), .val (.ref b2), .val (.ref b8), .val .null, .val (.ref b29), .unset, .unset, .unset] [(.ref b29)])) (fun _ ks => XS.aload X29.here hx rfl (hb hby at_60) rfl rfl ks) ?_
    refine Dn.by (U' := T29.setTop (mkF m 63 #[.val (.int p0), .val (.long q1), .second, .val (.int p2), .val (.int p3), .val (.int p4), .val (.ref kd), .val (.ref b2), .val (.ref b8), .val .null, .val (.ref b29), .unset, .unset, .unset] [(.int (0 : Int32)), (.ref b29)])) (fun _ ks => XS.iconst X29.here hx rfl (hb hby at_62)  ks) ?_
    refine Dn.by (U' := T29.setTop (mkF m 65 #[.val (.int p0), .val (.long q1), .second, .val (.int p2), .val (.int p3), .val (.int p4), .val (.ref kd), .val (.ref b2), .val (.ref b8), .val .null, .val (.ref b29), .unset, .unset, .unset] [(.int p3), (.int (0 : Int32)), (.ref b29)])) (fun _ ks => XS.iload X29.here hx rfl (hb hby at_63) rfl ks) ?_
    refine Dn.by (U' := T29.setTop (mkF m 68 #[.val (.int p0), .val (.long q1), .second, .val (.int p2), .val (.int p3), .val (.int p4), .val (.ref kd), .val (.ref b2), .val (.ref b8), .val .null, .val (.ref b29), .unset, .unset, .unset] [(.int (255 : Int32)), (.int p3), (.int (0 : Int32)), (.ref b29)])) (fun _ ks => XS.sipush X29.here hx rfl (hb hby at_65)  ks) ?_
    refine Dn.by (U' := T29.setTop (mkF m 69 #[.val (.int p0), .val (.long q1), .second, .val (.int p2), .val (.int p3), .val (.int p4), .val (.ref kd), .val (.ref b2), .val (.ref b8), .val .null, .val (.ref b29), .unset, .unset, .unset] [(.int (p3 &&& (255 : Int32))), (.int (0 : Int32)), (.ref b29)])) (fun _ ks => XS.iand X29.here hx rfl (hb hby at_68) rfl ks) ?_
    refine Dn.by (U' := T29.setTop (mkF m 70 #[.val (.int p0), .val (.long q1), .second, .val (.int p2), .val (.int p3), .val (.int p4), .val (.ref kd), .val (.ref b2), .val (.ref b8), .val .null, .val (.ref b29), .unset, .unset, .unset] [(.int ((p3 &&& (255 : Int32)).toUInt32.toUInt16.toUInt32.toInt32)), (.int (0 : Int32)), (.ref b29)])) (fun _ ks => XS.i2c X29.here hx rfl (hb hby at_69) rfl ks) ?_
    obtain ⟨cl31, Ar31, q31, S31, M31, H31, G31⟩ := id V29
    obtain ⟨T31, h31, X31, e31, W31, st31⟩ := stC X29 hx hZ e29 Ar31 (j := (0 : Int32)) (inb_of S31 ⟨by decide, by decide⟩) (g := (mkF m 70 #[.val (.int p0), .val (.long q1), .second, .val (.int p2), .val (.int p3), .val (.int p4), .val (.ref kd), .val (.ref b2), .val (.ref b8), .val .null, .val (.ref b29), .unset, .unset, .unset] [(.int ((p3 &&& (255 : Int32)).toUInt32.toUInt16.toUInt32.toInt32)), (.int (0 : Int32)), (.ref b29)])) rfl rfl (hb hby at_70)
    have V31 := Arv.set Ar31 q31 S31 M31 H31 G31 (fits_nar_char _) W31 0 rfl (Nat.le_of_ble_eq_true rfl)
    have K32 : Keep h0 h31 [] := (K30.wr W31 (Or.inr sz_b29))
    have z32 : n0 ≤ h31.size := (Nat.le_trans z30 (Keep.of_wr W31).1)
    have O32 : Old Z n0 h31 := O30.wr W31 g_b29
    have V31b : Arv Z h31 b29 k29 .char (2 : Int32) [(.int (nar .char ((p3 &&& (255 : Int32)).toUInt32.toUInt16.toUInt32.toInt32))), (.int (0 : Int32))] (.int (0 : Int32)) := V31
    have N31 := Fr.snoc X31 N10 g_b29
    refine Dn.by (U' := T31.setTop (mkF m 71 #[.val (.int p0), .val (.long q1), .second, .val (.int p2), .val (.int p3), .val (.int p4), .val (.ref kd), .val (.ref b2), .val (.ref b8), .val .null, .val (.ref b29), .unset, .unset, .unset] [])) st31 ?_
    refine Dn.by (U' := T31.setTop (mkF m 73 #[.val (.int p0), .val (.long q1), .second, .val (.int p2), .val (.int p3), .val (.int p4), .val (.ref kd), .val (.ref b2), .val (.ref b8), .val .null, .val (.ref b29), .unset, .unset, .unset] [(.ref b29)])) (fun _ ks => XS.aload X31.here hx rfl (hb hby at_71) rfl rfl ks) ?_
    refine Dn.by (U' := T31.setTop (mkF m 74 #[.val (.int p0), .val (.long q1), .second, .val (.int p2), .val (.int p3), .val (.int p4), .val (.ref kd), .val (.ref b2), .val (.ref b8), .val .null, .val (.ref b29), .unset, .unset, .unset] [(.int (1 : Int32)), (.ref b29)])) (fun _ ks => XS.iconst X31.here hx rfl (hb hby at_73)  ks) ?_
    refine Dn.by (U' := T31.setTop (mkF m 76 #[.val (.int p0), .val (.long q1), .second, .val (.int p2), .val (.int p3), .val (.int p4), .val (.ref kd), .val (.ref b2), .val (.ref b8), .val .null, .val (.ref b29), .unset, .unset, .unset] [(.int p3), (.int (1 : Int32)), (.ref b29)])) (fun _ ks => XS.iload X31.here hx rfl (hb hby at_74) rfl ks) ?_
    refine Dn.by (U' := T31.setTop (mkF m 78 #[.val (.int p0), .val (.long q1), .second, .val (.int p2), .val (.int p3), .val (.int p4), .val (.ref kd), .val (.ref b2), .val (.ref b8), .val .null, .val (.ref b29), .unset, .unset, .unset] [(.int (8 : Int32)), (.int p3), (.int (1 : Int32)), (.ref b29)])) (fun _ ks => XS.bipush X31.here hx rfl (hb hby at_76)  ks) ?_
    refine Dn.by (U' := T31.setTop (mkF m 79 #[.val (.int p0), .val (.long q1), .second, .val (.int p2), .val (.int p3), .val (.int p4), .val (.ref kd), .val (.ref b2), .val (.ref b8), .val .null, .val (.ref b29), .unset, .unset, .unset] [(.int ((p3.toUInt32 >>> ((8 : Int32) &&& 31).toUInt32).toInt32)), (.int (1 : Int32)), (.ref b29)])) (fun _ ks => XS.iushr X31.here hx rfl (hb hby at_78) rfl ks) ?_
    refine Dn.by (U' := T31.setTop (mkF m 82 #[.val (.int p0), .val (.long q1), .second, .val (.int p2), .val (.int p3), .val (.int p4), .val (.ref kd), .val (.ref b2), .val (.ref b8), .val .null, .val (.ref b29), .unset, .unset, .unset] [(.int (255 : Int32)), (.int ((p3.toUInt32 >>> ((8 : Int32) &&& 31).toUInt32).toInt32)), (.int (1 : Int32)), (.ref b29)])) (fun _ ks => XS.sipush X31.here hx rfl (hb hby at_79)  ks) ?_
    refine Dn.by (U' := T31.setTop (mkF m 83 #[.val (.int p0), .val (.long q1), .second, .val (.int p2), .val (.int p3), .val (.int p4), .val (.ref kd), .val (.ref b2), .val (.ref b8), .val .null, .val (.ref b29), .unset, .unset, .unset] [(.int (((p3.toUInt32 >>> ((8 : Int32) &&& 31).toUInt32).toInt32) &&& (255 : Int32))), (.int (1 : Int32)), (.ref b29)])) (fun _ ks => XS.iand X31.here hx rfl (hb hby at_82) rfl ks) ?_
    refine Dn.by (U' := T31.setTop (mkF m 84 #[.val (.int p0), .val (.long q1), .second, .val (.int p2), .val (.int p3), .val (.int p4), .val (.ref kd), .val (.ref b2), .val (.ref b8), .val .null, .val (.ref b29), .unset, .unset, .unset] [(.int ((((p3.toUInt32 >>> ((8 : Int32) &&& 31).toUInt32).toInt32) &&& (255 : Int32)).toUInt32.toUInt16.toUInt32.toInt32)), (.int (1 : Int32)), (.ref b29)])) (fun _ ks => XS.i2c X31.here hx rfl (hb hby at_83) rfl ks) ?_
    obtain ⟨cl33, Ar33, q33, S33, M33, H33, G33⟩ := id V31b
    obtain ⟨T33, h33, X33, e33, W33, st33⟩ := stC X31 hx hZ e31 Ar33 (j := (1 : Int32)) (inb_of S33 ⟨by decide, by decide⟩) (g := (mkF m 84 #[.val (.int p0), .val (.long q1), .second, .val (.int p2), .val (.int p3), .val (.int p4), .val (.ref kd), .val (.ref b2), .val (.ref b8), .val .null, .val (.ref b29), .unset, .unset, .unset] [(.int ((((p3.toUInt32 >>> ((8 : Int32) &&& 31).toUInt32).toInt32) &&& (255 : Int32)).toUInt32.toUInt16.toUInt32.toInt32)), (.int (1 : Int32)), (.ref b29)])) rfl rfl (hb hby at_84)
    have V33 := Arv.set Ar33 q33 S33 M33 H33 G33 (fits_nar_char _) W33 1 rfl (Nat.le_of_ble_eq_true rfl)
    have K34 : Keep h0 h33 [] := (K32.wr W33 (Or.inr sz_b29))
    have z34 : n0 ≤ h33.size := (Nat.le_trans z32 (Keep.of_wr W33).1)
    have O34 : Old Z n0 h33 := O32.wr W33 g_b29
    have V33b : Arv Z h33 b29 k29 .char (2 : Int32) [(.int (nar .char ((p3 &&& (255 : Int32)).toUInt32.toUInt16.toUInt32.toInt32))), (.int (nar .char ((((p3.toUInt32 >>> ((8 : Int32) &&& 31).toUInt32).toInt32) &&& (255 : Int32)).toUInt32.toUInt16.toUInt32.toInt32)))] (.int (0 : Int32)) := V33
    have N33 := Fr.snoc X33 N31 g_b29
    refine Dn.by (U' := T33.setTop (mkF m 85 #[.val (.int p0), .val (.long q1), .second, .val (.int p2), .val (.int p3), .val (.int p4), .val (.ref kd), .val (.ref b2), .val (.ref b8), .val .null, .val (.ref b29), .unset, .unset, .unset] [])) st33 ?_
    obtain ⟨T35, h35, X35, e35, E35, A35, D35, -, st35⟩ := newO X33 hx hZ hown (hw _ (List.mem_of_getElem? (i := 9) rfl)) (hw _ (List.mem_of_getElem? (i := 10) rfl)) (hw _ (List.mem_of_getElem? (i := 11) rfl)) e33 (g := (mkF m 85 #[.val (.int p0), .val (.long q1), .second, .val (.int p2), .val (.int p3), .val (.int p4), .val (.ref kd), .val (.ref b2), .val (.ref b8), .val .null, .val (.ref b29), .unset, .unset, .unset] [])) rfl (hb hby at_85) (by decide) (by decide)
    obtain ⟨b35, g35⟩ : ∃ z, z = h33.size := ⟨_, rfl⟩
    rw [← g35] at A35 D35 st35
    have g_b35 : n0 ≤ b35 := Nat.le_trans z34 (Nat.le_of_eq g35.symm)
    have sz_b35 : h0.size ≤ b35 := Nat.le_trans K34.1 (Nat.le_of_eq g35.symm)
    have ne_eo_b35 : eo ≠ b35 := Nat.ne_of_lt (Nat.lt_of_lt_of_le ((((((((E_eo.ext E2).wr W4).wr W6).ext E8).keep KK10).ext E29).wr W31).wr W33).lt (Nat.le_of_eq g35.symm))
    have ne_b2_b35 : b2 ≠ b35 := Nat.ne_of_lt (Nat.lt_of_lt_of_le (((((V6b.ext E8).keep KK10 (ninS ne_b2_b8 nin0)).ext E29).other W31 ne_b2_b29).other W33 ne_b2_b29).lt (Nat.le_of_eq g35.symm))
    have ne_b8_b35 : b8 ≠ b35 := Nat.ne_of_lt (Nat.lt_of_lt_of_le (((EE10.ext E29).wr W31).wr W33).lt (Nat.le_of_eq g35.symm))
    have ne_t10_b35 : t10 ≠ b35 := Nat.ne_of_lt (Nat.lt_of_lt_of_le (((VV10.ext E29).other W31 ne_t10_b29).other W33 ne_t10_b29).lt (Nat.le_of_eq g35.symm))
    have ne_b29_b35 : b29 ≠ b35 := Nat.ne_of_lt (Nat.lt_of_lt_of_le V33b.lt (Nat.le_of_eq g35.symm))
    have K36 : Keep h0 h35 [] := (K34.ext E35)
    have z36 : n0 ≤ h35.size := (Nat.le_trans z34 E35.1)
    have O36 : Old Z n0 h35 := O34.ext E35
    have F_coder_b35 : Fld Z h35 b35 "java/lang/String" "coder" "B" (.int (0 : Int32)) := D35 (Or.inr (hw _ (List.mem_of_getElem? (i := 35) rfl))) (ty := .byte) (by decide)
    have F_value_b35 : Fld Z h35 b35 "java/lang/String" "value" "[B" .null := D35 (Or.inr (hw _ (List.mem_of_getElem? (i := 37) rfl))) (ty := (.array .byte)) (by decide)
    refine Dn.by (U' := T35.setTop (mkF m 88 #[.val (.int p0), .val (.long q1), .second, .val (.int p2), .val (.int p3), .val (.int p4), .val (.ref kd), .val (.ref b2), .val (.ref b8), .val .null, .val (.ref b29), .unset, .unset, .unset] [(.ref b35)])) st35 ?_
    refine Dn.by (U' := T35.setTop (mkF m 89 #[.val (.int p0), .val (.long q1), .second, .val (.int p2), .val (.int p3), .val (.int p4), .val (.ref kd), .val (.ref b2), .val (.ref b8), .val .null, .val (.ref b29), .unset, .unset, .unset] [(.ref b35), (.ref b35)])) (fun _ ks => XS.dup X35.here hx rfl (hb hby at_88) rfl rfl ks) ?_
    refine Dn.by (U' := T35.setTop (mkF m 91 #[.val (.int p0), .val (.long q1), .second, .val (.int p2), .val (.int p3), .val (.int p4), .val (.ref kd), .val (.ref b2), .val (.ref b8), .val .null, .val (.ref b29), .unset, .unset, .unset] [(.ref b29), (.ref b35), (.ref b35)])) (fun _ ks => XS.aload X35.here hx rfl (hb hby at_89) rfl rfl ks) ?_
    have Vc37 : Arv Z h35 b29 k29 .char (2 : Int32) [(.int ((p3 &&& (255 : Int32)).toUInt32.toUInt16.toUInt32.toInt32)), (.int ((((p3.toUInt32 >>> ((8 : Int32) &&& 31).toUInt32).toInt32) &&& (255 : Int32)).toUInt32.toUInt16.toUInt32.toInt32))] (.int (0 : Int32)) := by
      have q := (V33b.ext E35)
      simp only [own_nar ((p3 &&& (255 : Int32)).toUInt32.toUInt16.toUInt32.toInt32) (own_ch _), own_nar ((((p3.toUInt32 >>> ((8 : Int32) &&& 31).toUInt32).toInt32) &&& (255 : Int32)).toUInt32.toUInt16.toUInt32.toInt32) (own_ch _)] at q
      exact q
    have hp37 : ∀ c ∈ ([((p3 &&& (255 : Int32)).toUInt32.toUInt16.toUInt32.toInt32), ((((p3.toUInt32 >>> ((8 : Int32) &&& 31).toUInt32).toInt32) &&& (255 : Int32)).toUInt32.toUInt16.toUInt32.toInt32)] : List Int32), ¬ c < 0 ∧ ¬ (255 : Int32) < c := by
      intro c hc
      simp only [List.mem_cons, List.not_mem_nil, or_false] at hc
      rcases hc with hc | hc
      · rw [hc]; exact (own_ch _)
      · rw [hc]; exact (own_ch _)
    obtain ⟨_, _, ⟨T37, L37, k37, n37⟩, -, X37, ⟨Lc37, hQ37, l37, y37, z37⟩, st37⟩ := X35.specialBack hx (y := (⟨"java/lang/String", "<init>", "([C)V"⟩ : MethodName)) rfl hown (mvT hZ (hw _ (List.mem_of_getElem? (i := 12) rfl))) (mvT hZ (hw _ (List.mem_of_getElem? (i := 13) rfl))) (mvT hZ (hw _ (List.mem_of_getElem? (i := 14) rfl))) (by decide) (StrChars.Road.backV (W := 1) hZ (fun d hd => hw d (own_words d hd)) (kI := 4) (hw _ (List.mem_of_getElem? (i := 10) rfl)) (cs := ([((p3 &&& (255 : Int32)).toUInt32.toUInt16.toUInt32.toInt32), ((((p3.toUInt32 >>> ((8 : Int32) &&& 31).toUInt32).toInt32) &&& (255 : Int32)).toUInt32.toUInt16.toUInt32.toInt32)] : List Int32)) (bs := ([((p3 &&& (255 : Int32)).toUInt32.toUInt16.toUInt32.toInt32), ((((p3.toUInt32 >>> ((8 : Int32) &&& 31).toUInt32).toInt32) &&& (255 : Int32)).toUInt32.toUInt16.toUInt32.toInt32)] : List Int32).map (fun c => c.toInt8.toInt32)) (n := 2) g_b35 z36 A35 F_value_b35 F_coder_b35 Vc37 (S_cs.ext O36.2) hcs rfl rfl (by decide) (by decide) hp37 rfl (by decide) (by decide)) (g := (mkF m 91 #[.val (.int p0), .val (.long q1), .second, .val (.int p2), .val (.int p3), .val (.int p4), .val (.ref kd), .val (.ref b2), .val (.ref b8), .val .null, .val (.ref b29), .unset, .unset, .unset] [(.ref b29), (.ref b35), (.ref b35)])) rfl (by rw [hml]; rfl) (Steps.refl _) (a := b35) (argsL := [(.ref b29)]) (rest := [(.ref b35)]) (lenOf pd7 rfl) rfl (by show 2 * 0 + _ ≤ _; exact Nat.le_of_eq rfl) (hb hby at_91) (fun _ _ => ⟨rfl, e35, (by decide : 5 + 1 ≤ _), (by decide : 14 + 2 ≤ _)⟩)
    dsimp only [Pt.U, Pt.locs, Pt.cells, Pt.slots] at X37 l37 y37 z37 st37 hQ37
    rw [l37, y37, z37] at X37
    obtain ⟨rfl, N37q, KK37, EE37, FC37, t37, kb37, gt37, zt37, nt37, FV37, VV37⟩ := hQ37
    have N37 := Fr.app N33 N37q
    have g_t37 : n0 ≤ t37 := Nat.le_trans z36 zt37
    have sz_t37 : h0.size ≤ t37 := Nat.le_trans K36.1 zt37
    have ne_eo_t37 : eo ≠ t37 := Nat.ne_of_lt (Nat.lt_of_lt_of_le (((((((((E_eo.ext E2).wr W4).wr W6).ext E8).keep KK10).ext E29).wr W31).wr W33).ext E35).lt zt37)
    have ne_b2_t37 : b2 ≠ t37 := Nat.ne_of_lt (Nat.lt_of_lt_of_le ((((((V6b.ext E8).keep KK10 (ninS ne_b2_b8 nin0)).ext E29).other W31 ne_b2_b29).other W33 ne_b2_b29).ext E35).lt zt37)
    have ne_b8_t37 : b8 ≠ t37 := Nat.ne_of_lt (Nat.lt_of_lt_of_le ((((EE10.ext E29).wr W31).wr W33).ext E35).lt zt37)
    have ne_t10_t37 : t10 ≠ t37 := Nat.ne_of_lt (Nat.lt_of_lt_of_le ((((VV10.ext E29).other W31 ne_t10_b29).other W33 ne_t10_b29).ext E35).lt zt37)
    have ne_b29_t37 : b29 ≠ t37 := Nat.ne_of_lt (Nat.lt_of_lt_of_le (V33b.ext E35).lt zt37)
    have ne_b35_t37 : b35 ≠ t37 := Nat.ne_of_lt (Nat.lt_of_lt_of_le A35.lt zt37)
    have K38 : Keep h0 T37.heap [] := (K36.trans KK37 (allS (Or.inr sz_b35) all0))
    have z38 : n0 ≤ T37.heap.size := (Nat.le_trans z36 KK37.1)
    have O38 : Old Z n0 T37.heap := O36.keep KK37 (allS g_b35 all0)
    refine Dn.by (U' := T37.setTop (mkF m 94 #[.val (.int p0), .val (.long q1), .second, .val (.int p2), .val (.int p3), .val (.int p4), .val (.ref kd), .val (.ref b2), .val (.ref b8), .val .null, .val (.ref b29), .unset, .unset, .unset] [(.ref b35)])) (fun _ ks => st37.trans ks) ?_
    refine Dn.by (U' := T37.setTop (mkF m 96 #[.val (.int p0), .val (.long q1), .second, .val (.int p2), .val (.int p3), .val (.int p4), .val (.ref kd), .val (.ref b2), .val (.ref b8), .val (.ref b35), .val (.ref b29), .unset, .unset, .unset] [])) (fun _ ks => XS.astore X37.here hx rfl (hb hby at_94) rfl rfl (l' := #[.val (.int p0), .val (.long q1), .second, .val (.int p2), .val (.int p3), .val (.int p4), .val (.ref kd), .val (.ref b2), .val (.ref b8), .val (.ref b35), .val (.ref b29), .unset, .unset, .unset]) rfl ks) ?_
    refine Dn.by (U' := T37.setTop (mkF m 98 #[.val (.int p0), .val (.long q1), .second, .val (.int p2), .val (.int p3), .val (.int p4), .val (.ref kd), .val (.ref b2), .val (.ref b8), .val (.ref b35), .val (.ref b29), .unset, .unset, .unset] [(.ref kd)])) (fun _ ks => XS.aload X37.here hx rfl (hb hby at_96) rfl rfl ks) ?_
    refine Dn.by (U' := T37.setTop (mkF m 100 #[.val (.int p0), .val (.long q1), .second, .val (.int p2), .val (.int p3), .val (.int p4), .val (.ref kd), .val (.ref b2), .val (.ref b8), .val (.ref b35), .val (.ref b29), .unset, .unset, .unset] [(.ref b8), (.ref kd)])) (fun _ ks => XS.aload X37.here hx rfl (hb hby at_98) rfl rfl ks) ?_
    refine Dn.by (U' := T37.setTop (mkF m 101 #[.val (.int p0), .val (.long q1), .second, .val (.int p2), .val (.int p3), .val (.int p4), .val (.ref kd), .val (.ref b2), .val (.ref b8), .val (.ref b35), .val (.ref b29), .unset, .unset, .unset] [(.long q1), (.ref b8), (.ref kd)])) (fun _ ks => XS.lloadN X37.here hx rfl (hb hby at_100) rfl ks) ?_
    refine Dn.by (U' := T37.setTop (mkF m 103 #[.val (.int p0), .val (.long q1), .second, .val (.int p2), .val (.int p3), .val (.int p4), .val (.ref kd), .val (.ref b2), .val (.ref b8), .val (.ref b35), .val (.ref b29), .unset, .unset, .unset] [(.ref b35), (.long q1), (.ref b8), (.ref kd)])) (fun _ ks => XS.aload X37.here hx rfl (hb hby at_101) rfl rfl ks) ?_
    obtain ⟨_, _, ⟨T39, L39, k39, n39⟩, -, X39, ⟨Lc39, hQ39, l39, y39, z39⟩, st39⟩ := Jvm.LawKit.callS X37 hx (y := (⟨"com/example/ferrywire/ferrywire/agent/AgentEvent", "ofMessage", "(Lcom/example/ferrywire/ferrywire/agent/AgentEvent$Kind;Ljava/lang/String;JLjava/lang/String;)Lcom/example/ferrywire/ferrywire/agent/AgentEvent;"⟩ : MethodName)) hown (mvT hZ (hw _ (List.mem_of_getElem? (i := 38) rfl))) (mvT hZ (hw _ (List.mem_of_getElem? (i := 39) rfl))) (mvT hZ (hw _ (List.mem_of_getElem? (i := 40) rfl))) (mvT hZ (hw _ (List.mem_of_getElem? (i := 41) rfl))) (by decide) (backOf (W := 0) (rm8 l Z a0 hw [] kd b8 q1 b35  T37.heap n0 z38 ) hZ (hw _ (List.mem_of_getElem? (i := 41) rfl)) (hw _ (List.mem_of_getElem? (i := 40) rfl)) (by decide) (by decide)) (g := (mkF m 103 #[.val (.int p0), .val (.long q1), .second, .val (.int p2), .val (.int p3), .val (.int p4), .val (.ref kd), .val (.ref b2), .val (.ref b8), .val (.ref b35), .val (.ref b29), .unset, .unset, .unset] [(.ref b35), (.long q1), (.ref b8), (.ref kd)])) rfl (by rw [hml]; rfl) (argsL := [(.ref kd), (.ref b8), (.long q1), (.ref b35)]) (rest := []) (lenOf pd8 rfl) rfl (by show 2 * 0 + _ ≤ _; exact Nat.le_of_eq rfl) (hb hby at_103) (fun _ _ => ⟨rfl, rfl, (by decide : 6 + 1 ≤ _), (by decide : 16 + 5 ≤ _)⟩)
    dsimp only [Pt.U, Pt.locs, Pt.cells, Pt.slots] at X39 l39 y39 z39 st39 hQ39
    rw [l39, y39, z39] at X39
    obtain ⟨b39, rfl, N39q, zz39, KK39, EE39, FF39_0, FF39_1, FF39_2, FF39_3, FF39_4⟩ := hQ39
    have N39 := Fr.app N37 N39q
    have g_b39 : n0 ≤ b39 := Nat.le_trans z38 zz39
    have sz_b39 : h0.size ≤ b39 := Nat.le_trans K38.1 zz39
    have ne_eo_b39 : eo ≠ b39 := Nat.ne_of_lt (Nat.lt_of_lt_of_le ((((((((((E_eo.ext E2).wr W4).wr W6).ext E8).keep KK10).ext E29).wr W31).wr W33).ext E35).keep KK37).lt zz39)
    have ne_b2_b39 : b2 ≠ b39 := Nat.ne_of_lt (Nat.lt_of_lt_of_le (((((((V6b.ext E8).keep KK10 (ninS ne_b2_b8 nin0)).ext E29).other W31 ne_b2_b29).other W33 ne_b2_b29).ext E35).keep KK37 (ninS ne_b2_b35 nin0)).lt zz39)
    have ne_b8_b39 : b8 ≠ b39 := Nat.ne_of_lt (Nat.lt_of_lt_of_le (((((EE10.ext E29).wr W31).wr W33).ext E35).keep KK37).lt zz39)
    have ne_t10_b39 : t10 ≠ b39 := Nat.ne_of_lt (Nat.lt_of_lt_of_le (((((VV10.ext E29).other W31 ne_t10_b29).other W33 ne_t10_b29).ext E35).keep KK37 (ninS ne_t10_b35 nin0)).lt zz39)
    have ne_b29_b39 : b29 ≠ b39 := Nat.ne_of_lt (Nat.lt_of_lt_of_le ((V33b.ext E35).keep KK37 (ninS ne_b29_b35 nin0)).lt zz39)
    have ne_b35_b39 : b35 ≠ b39 := Nat.ne_of_lt (Nat.lt_of_lt_of_le EE37.lt zz39)
    have ne_t37_b39 : t37 ≠ b39 := Nat.ne_of_lt (Nat.lt_of_lt_of_le VV37.lt zz39)
    have K40 : Keep h0 T39.heap [] := (K38.trans KK39 all0)
    have z40 : n0 ≤ T39.heap.size := (Nat.le_trans z38 KK39.1)
    have O40 : Old Z n0 T39.heap := O38.keep KK39 all0
    refine Dn.by (U' := T39.setTop (mkF m 106 #[.val (.int p0), .val (.long q1), .second, .val (.int p2), .val (.int p3), .val (.int p4), .val (.ref kd), .val (.ref b2), .val (.ref b8), .val (.ref b35), .val (.ref b29), .unset, .unset, .unset] [(.ref b39)])) st39 ?_
    refine Dn.by (U' := T39.setTop (mkF m 108 #[.val (.int p0), .val (.long q1), .second, .val (.int p2), .val (.int p3), .val (.int p4), .val (.ref kd), .val (.ref b2), .val (.ref b8), .val (.ref b35), .val (.ref b39), .unset, .unset, .unset] [])) (fun _ ks => XS.astore X39.here hx rfl (hb hby at_106) rfl rfl (l' := #[.val (.int p0), .val (.long q1), .second, .val (.int p2), .val (.int p3), .val (.int p4), .val (.ref kd), .val (.ref b2), .val (.ref b8), .val (.ref b35), .val (.ref b39), .unset, .unset, .unset]) rfl ks) ?_
    refine Dn.by (U' := T39.setTop (mkF m 110 #[.val (.int p0), .val (.long q1), .second, .val (.int p2), .val (.int p3), .val (.int p4), .val (.ref kd), .val (.ref b2), .val (.ref b8), .val (.ref b35), .val (.ref b39), .unset, .unset, .unset] [(.ref b39)])) (fun _ ks => XS.aload X39.here hx rfl (hb hby at_108) rfl rfl ks) ?_
    obtain ⟨cq41, kq41, qa41, qb41, qc41⟩ := isOf hZ rfl EE39
    obtain ⟨_, _, ⟨T41, L41, k41, n41⟩, -, X41, ⟨Lc41, hQ41, l41, y41, z41⟩, st41⟩ := X39.virtualBack hx (y := (⟨"com/example/ferrywire/ferrywire/agent/AgentEvent", "kind", "()Lcom/example/ferrywire/ferrywire/agent/AgentEvent$Kind;"⟩ : MethodName)) (z := (⟨"com/example/ferrywire/ferrywire/agent/AgentEvent", "kind", "()Lcom/example/ferrywire/ferrywire/agent/AgentEvent$Kind;"⟩ : MethodName)) hown (mvT hZ (hw _ (List.mem_of_getElem? (i := 58) rfl))) (mvT hZ (hw _ (List.mem_of_getElem? (i := 59) rfl))) (notFace_of_selects (args := #[]) (mvT hZ (hw _ (List.mem_of_getElem? (i := 61) rfl)))) (mvT hZ (hw _ (List.mem_of_getElem? (i := 61) rfl))) (mvT hZ (hw _ (List.mem_of_getElem? (i := 60) rfl))) (by decide) (backOf (W := 0) (rm10 l Z a0 hw [] b39 kd T39.heap n0 z40 FF39_1) hZ (hw _ (List.mem_of_getElem? (i := 62) rfl)) (hw _ (List.mem_of_getElem? (i := 40) rfl)) (by decide) (by decide)) qa41 qc41 (g := (mkF m 110 #[.val (.int p0), .val (.long q1), .second, .val (.int p2), .val (.int p3), .val (.int p4), .val (.ref kd), .val (.ref b2), .val (.ref b8), .val (.ref b35), .val (.ref b39), .unset, .unset, .unset] [(.ref b39)])) rfl (by rw [hml]; rfl) (Steps.refl _) (argsL := []) (rest := []) (lenOf pd9 rfl) rfl (by show 2 * 0 + _ ≤ _; exact Nat.le_of_eq rfl) (hb hby at_110) (fun _ _ => ⟨rfl, rfl, (by decide : 7 + 0 ≤ _), (by decide : 21 + 0 ≤ _)⟩)
    dsimp only [Pt.U, Pt.locs, Pt.cells, Pt.slots] at X41 l41 y41 z41 st41 hQ41
    rw [l41, y41, z41] at X41
    obtain ⟨rfl, N41q, e41⟩ := hQ41
    have N41 := Fr.app N39 N41q
    refine Dn.by (U' := T41.setTop (mkF m 113 #[.val (.int p0), .val (.long q1), .second, .val (.int p2), .val (.int p3), .val (.int p4), .val (.ref kd), .val (.ref b2), .val (.ref b8), .val (.ref b35), .val (.ref b39), .unset, .unset, .unset] [(.ref kd)])) (fun _ ks => st41.trans ks) ?_
    refine Dn.by (U' := T41.setTop (mkF m 115 #[.val (.int p0), .val (.long q1), .second, .val (.int p2), .val (.int p3), .val (.int p4), .val (.ref kd), .val (.ref b2), .val (.ref b8), .val (.ref b35), .val (.ref b39), .unset, .unset, .unset] [(.ref kd), (.ref kd)])) (fun _ ks => XS.aload X41.here hx rfl (hb hby at_113) rfl rfl ks) ?_
    refine Dn.by (U' := T41.setTop (mkF m 118 #[.val (.int p0), .val (.long q1), .second, .val (.int p2), .val (.int p3), .val (.int p4), .val (.ref kd), .val (.ref b2), .val (.ref b8), .val (.ref b35), .val (.ref b39), .unset, .unset, .unset] [])) (fun _ ks => Jvm.RoadKit.acmp (g := (mkF m 115 #[.val (.int p0), .val (.long q1), .second, .val (.int p2), .val (.int p3), .val (.int p4), .val (.ref kd), .val (.ref b2), .val (.ref b8), .val (.ref b35), .val (.ref b39), .unset, .unset, .unset] [(.ref kd), (.ref kd)])) X41 hx rfl rfl rfl (pc0 := 115) (pc' := 118) (same := true) rfl (hb hby at_115) rfl (decide_eq_true rfl) (by decide) (by decide) ks) ?_
    refine Dn.by (U' := T41.setTop (mkF m 119 #[.val (.int p0), .val (.long q1), .second, .val (.int p2), .val (.int p3), .val (.int p4), .val (.ref kd), .val (.ref b2), .val (.ref b8), .val (.ref b35), .val (.ref b39), .unset, .unset, .unset] [(.int (1 : Int32))])) (fun _ ks => XS.iconst X41.here hx rfl (hb hby at_118)  ks) ?_
    refine Dn.by (U' := T41.setTop (mkF m 123 #[.val (.int p0), .val (.long q1), .second, .val (.int p2), .val (.int p3), .val (.int p4), .val (.ref kd), .val (.ref b2), .val (.ref b8), .val (.ref b35), .val (.ref b39), .unset, .unset, .unset] [(.int (1 : Int32))])) (fun _ ks => XS.goto X41.here hx rfl (pc0 := 119) (pc' := 123) rfl (hb hby at_119) (by decide) (by decide) ks) ?_
    refine Dn.by (U' := T41.setTop (mkF m 125 #[.val (.int p0), .val (.long q1), .second, .val (.int p2), .val (.int p3), .val (.int p4), .val (.ref kd), .val (.ref b2), .val (.ref b8), .val (.ref b35), .val (.ref b39), .val (.int (1 : Int32)), .unset, .unset] [])) (fun _ ks => XS.istore X41.here hx rfl (hb hby at_123) rfl (l' := #[.val (.int p0), .val (.long q1), .second, .val (.int p2), .val (.int p3), .val (.int p4), .val (.ref kd), .val (.ref b2), .val (.ref b8), .val (.ref b35), .val (.ref b39), .val (.int (1 : Int32)), .unset, .unset]) rfl ks) ?_
    refine Dn.by (U' := T41.setTop (mkF m 127 #[.val (.int p0), .val (.long q1), .second, .val (.int p2), .val (.int p3), .val (.int p4), .val (.ref kd), .val (.ref b2), .val (.ref b8), .val (.ref b35), .val (.ref b39), .val (.int (1 : Int32)), .unset, .unset] [(.int (1 : Int32))])) (fun _ ks => XS.iload X41.here hx rfl (hb hby at_125) rfl ks) ?_
    refine Dn.by (U' := T41.setTop (mkF m 130 #[.val (.int p0), .val (.long q1), .second, .val (.int p2), .val (.int p3), .val (.int p4), .val (.ref kd), .val (.ref b2), .val (.ref b8), .val (.ref b35), .val (.ref b39), .val (.int (1 : Int32)), .unset, .unset] [])) (fun _ ks => XS.ifNo X41.here hx rfl (hb hby at_127) rfl (by decide) ks) ?_
    refine Dn.by (U' := T41.setTop (mkF m 132 #[.val (.int p0), .val (.long q1), .second, .val (.int p2), .val (.int p3), .val (.int p4), .val (.ref kd), .val (.ref b2), .val (.ref b8), .val (.ref b35), .val (.ref b39), .val (.int (1 : Int32)), .unset, .unset] [(.ref b8)])) (fun _ ks => XS.aload X41.here hx rfl (hb hby at_130) rfl rfl ks) ?_
    refine Dn.by (U' := T41.setTop (mkF m 134 #[.val (.int p0), .val (.long q1), .second, .val (.int p2), .val (.int p3), .val (.int p4), .val (.ref kd), .val (.ref b2), .val (.ref b8), .val (.ref b35), .val (.ref b39), .val (.int (1 : Int32)), .unset, .unset] [(.ref b39), (.ref b8)])) (fun _ ks => XS.aload X41.here hx rfl (hb hby at_132) rfl rfl ks) ?_
    obtain ⟨cq42, kq42, qa42, qb42, qc42⟩ := isOf hZ e41 EE39
    obtain ⟨_, _, ⟨T42, L42, k42, n42⟩, -, X42, ⟨Lc42, hQ42, l42, y42, z42⟩, st42⟩ := X41.virtualBack hx (y := (⟨"com/example/ferrywire/ferrywire/agent/AgentEvent", "connectionId", "()Ljava/lang/String;"⟩ : MethodName)) (z := (⟨"com/example/ferrywire/ferrywire/agent/AgentEvent", "connectionId", "()Ljava/lang/String;"⟩ : MethodName)) hown (mvT hZ (hw _ (List.mem_of_getElem? (i := 63) rfl))) (mvT hZ (hw _ (List.mem_of_getElem? (i := 64) rfl))) (notFace_of_selects (args := #[]) (mvT hZ (hw _ (List.mem_of_getElem? (i := 66) rfl)))) (mvT hZ (hw _ (List.mem_of_getElem? (i := 66) rfl))) (mvT hZ (hw _ (List.mem_of_getElem? (i := 65) rfl))) (by decide) (backOf (W := 1) (rm11 l Z a0 hw [] b39 b8 T39.heap n0 z40 FF39_2) hZ (hw _ (List.mem_of_getElem? (i := 67) rfl)) (hw _ (List.mem_of_getElem? (i := 40) rfl)) (by decide) (by decide)) qa42 qc42 (g := (mkF m 134 #[.val (.int p0), .val (.long q1), .second, .val (.int p2), .val (.int p3), .val (.int p4), .val (.ref kd), .val (.ref b2), .val (.ref b8), .val (.ref b35), .val (.ref b39), .val (.int (1 : Int32)), .unset, .unset] [(.ref b39), (.ref b8)])) rfl (by rw [hml]; rfl) (Steps.refl _) (argsL := []) (rest := [(.ref b8)]) (lenOf pd10 rfl) rfl (by show 2 * 0 + _ ≤ _; exact Nat.le_of_eq rfl) (hb hby at_134) (fun _ _ => ⟨rfl, e41, (by decide : 7 + 0 ≤ _), (by decide : 21 + 0 ≤ _)⟩)
    dsimp only [Pt.U, Pt.locs, Pt.cells, Pt.slots] at X42 l42 y42 z42 st42 hQ42
    rw [l42, y42, z42] at X42
    obtain ⟨rfl, N42q, e42⟩ := hQ42
    have N42 := Fr.app N41 N42q
    refine Dn.by (U' := T42.setTop (mkF m 137 #[.val (.int p0), .val (.long q1), .second, .val (.int p2), .val (.int p3), .val (.int p4), .val (.ref kd), .val (.ref b2), .val (.ref b8), .val (.ref b35), .val (.ref b39), .val (.int (1 : Int32)), .unset, .unset] [(.ref b8), (.ref b8)])) (fun _ ks => st42.trans ks) ?_
    obtain ⟨cq43, kq43, qa43, qb43, qc43⟩ := isOf hZ e42 ((((((EE10.ext E29).wr W31).wr W33).ext E35).keep KK37).keep KK39)
    obtain ⟨_, _, ⟨T43, L43, k43, n43⟩, -, X43, ⟨Lc43, hQ43, l43, y43, z43⟩, st43⟩ := X42.virtualBack hx (y := (⟨"java/lang/String", "equals", "(Ljava/lang/Object;)Z"⟩ : MethodName)) (z := (⟨"java/lang/String", "equals", "(Ljava/lang/Object;)Z"⟩ : MethodName)) hown (mvT hZ (hw _ (List.mem_of_getElem? (i := 68) rfl))) (mvT hZ (hw _ (List.mem_of_getElem? (i := 69) rfl))) (notFace_of_selects (args := #[]) (mvT hZ (hw _ (List.mem_of_getElem? (i := 71) rfl)))) (mvT hZ (hw _ (List.mem_of_getElem? (i := 71) rfl))) (mvT hZ (hw _ (List.mem_of_getElem? (i := 70) rfl))) (by decide) (backOf (W := 0) (rm12 l Z a0 hw [] b8  T39.heap n0 z40 ) hZ (hw _ (List.mem_of_getElem? (i := 72) rfl)) (hw _ (List.mem_of_getElem? (i := 11) rfl)) (by decide) (by decide)) qa43 qc43 (g := (mkF m 137 #[.val (.int p0), .val (.long q1), .second, .val (.int p2), .val (.int p3), .val (.int p4), .val (.ref kd), .val (.ref b2), .val (.ref b8), .val (.ref b35), .val (.ref b39), .val (.int (1 : Int32)), .unset, .unset] [(.ref b8), (.ref b8)])) rfl (by rw [hml]; rfl) (Steps.refl _) (argsL := [(.ref b8)]) (rest := []) (lenOf pd11 rfl) rfl (by show 2 * 0 + _ ≤ _; exact Nat.le_of_eq rfl) (hb hby at_137) (fun _ _ => ⟨rfl, e42, (by decide : 7 + 0 ≤ _), (by decide : 21 + 0 ≤ _)⟩)
    dsimp only [Pt.U, Pt.locs, Pt.cells, Pt.slots] at X43 l43 y43 z43 st43 hQ43
    rw [l43, y43, z43] at X43
    obtain ⟨rfl, N43q, e43⟩ := hQ43
    have N43 := Fr.app N42 N43q
    refine Dn.by (U' := T43.setTop (mkF m 140 #[.val (.int p0), .val (.long q1), .second, .val (.int p2), .val (.int p3), .val (.int p4), .val (.ref kd), .val (.ref b2), .val (.ref b8), .val (.ref b35), .val (.ref b39), .val (.int (1 : Int32)), .unset, .unset] [(.int (1 : Int32))])) (fun _ ks => st43.trans ks) ?_
    refine Dn.by (U' := T43.setTop (mkF m 143 #[.val (.int p0), .val (.long q1), .second, .val (.int p2), .val (.int p3), .val (.int p4), .val (.ref kd), .val (.ref b2), .val (.ref b8), .val (.ref b35), .val (.ref b39), .val (.int (1 : Int32)), .unset, .unset] [])) (fun _ ks => XS.ifNo X43.here hx rfl (hb hby at_140) rfl (by decide) ks) ?_
    refine Dn.by (U' := T43.setTop (mkF m 144 #[.val (.int p0), .val (.long q1), .second, .val (.int p2), .val (.int p3), .val (.int p4), .val (.ref kd), .val (.ref b2), .val (.ref b8), .val (.ref b35), .val (.ref b39), .val (.int (1 : Int32)), .unset, .unset] [(.int (1 : Int32))])) (fun _ ks => XS.iconst X43.here hx rfl (hb hby at_143)  ks) ?_
    refine Dn.by (U' := T43.setTop (mkF m 148 #[.val (.int p0), .val (.long q1), .second, .val (.int p2), .val (.int p3), .val (.int p4), .val (.ref kd), .val (.ref b2), .val (.ref b8), .val (.ref b35), .val (.ref b39), .val (.int (1 : Int32)), .unset, .unset] [(.int (1 : Int32))])) (fun _ ks => XS.goto X43.here hx rfl (pc0 := 144) (pc' := 148) rfl (hb hby at_144) (by decide) (by decide) ks) ?_
    refine Dn.by (U' := T43.setTop (mkF m 150 #[.val (.int p0), .val (.long q1), .second, .val (.int p2), .val (.int p3), .val (.int p4), .val (.ref kd), .val (.ref b2), .val (.ref b8), .val (.ref b35), .val (.ref b39), .val (.int (1 : Int32)), .unset, .unset] [])) (fun _ ks => XS.istore X43.here hx rfl (hb hby at_148) rfl (l' := #[.val (.int p0), .val (.long q1), .second, .val (.int p2), .val (.int p3), .val (.int p4), .val (.ref kd), .val (.ref b2), .val (.ref b8), .val (.ref b35), .val (.ref b39), .val (.int (1 : Int32)), .unset, .unset]) rfl ks) ?_
    refine Dn.by (U' := T43.setTop (mkF m 152 #[.val (.int p0), .val (.long q1), .second, .val (.int p2), .val (.int p3), .val (.int p4), .val (.ref kd), .val (.ref b2), .val (.ref b8), .val (.ref b35), .val (.ref b39), .val (.int (1 : Int32)), .unset, .unset] [(.int (1 : Int32))])) (fun _ ks => XS.iload X43.here hx rfl (hb hby at_150) rfl ks) ?_
    refine Dn.by (U' := T43.setTop (mkF m 155 #[.val (.int p0), .val (.long q1), .second, .val (.int p2), .val (.int p3), .val (.int p4), .val (.ref kd), .val (.ref b2), .val (.ref b8), .val (.ref b35), .val (.ref b39), .val (.int (1 : Int32)), .unset, .unset] [])) (fun _ ks => XS.ifNo X43.here hx rfl (hb hby at_152) rfl (by decide) ks) ?_
    refine Dn.by (U' := T43.setTop (mkF m 157 #[.val (.int p0), .val (.long q1), .second, .val (.int p2), .val (.int p3), .val (.int p4), .val (.ref kd), .val (.ref b2), .val (.ref b8), .val (.ref b35), .val (.ref b39), .val (.int (1 : Int32)), .unset, .unset] [(.ref b39)])) (fun _ ks => XS.aload X43.here hx rfl (hb hby at_155) rfl rfl ks) ?_
    obtain ⟨cq44, kq44, qa44, qb44, qc44⟩ := isOf hZ e43 EE39
    obtain ⟨_, _, ⟨T44, L44, k44, n44⟩, -, X44, ⟨Lc44, hQ44, l44, y44, z44⟩, st44⟩ := X43.virtualBack hx (y := (⟨"com/example/ferrywire/ferrywire/agent/AgentEvent", "sequence", "()J"⟩ : MethodName)) (z := (⟨"com/example/ferrywire/ferrywire/agent/AgentEvent", "sequence", "()J"⟩ : MethodName)) hown (mvT hZ (hw _ (List.mem_of_getElem? (i := 73) rfl))) (mvT hZ (hw _ (List.mem_of_getElem? (i := 74) rfl))) (notFace_of_selects (args := #[]) (mvT hZ (hw _ (List.mem_of_getElem? (i := 76) rfl)))) (mvT hZ (hw _ (List.mem_of_getElem? (i := 76) rfl))) (mvT hZ (hw _ (List.mem_of_getElem? (i := 75) rfl))) (by decide) (backOf (W := 0) (rm13 l Z a0 hw [] b39 (0 : Int64) T39.heap n0 z40 FF39_0) hZ (hw _ (List.mem_of_getElem? (i := 77) rfl)) (hw _ (List.mem_of_getElem? (i := 40) rfl)) (by decide) (by decide)) qa44 qc44 (g := (mkF m 157 #[.val (.int p0), .val (.long q1), .second, .val (.int p2), .val (.int p3), .val (.int p4), .val (.ref kd), .val (.ref b2), .val (.ref b8), .val (.ref b35), .val (.ref b39), .val (.int (1 : Int32)), .unset, .unset] [(.ref b39)])) rfl (by rw [hml]; rfl) (Steps.refl _) (argsL := []) (rest := []) (lenOf pd12 rfl) rfl (by show 2 * 0 + _ ≤ _; exact Nat.le_of_eq rfl) (hb hby at_157) (fun _ _ => ⟨rfl, e43, (by decide : 7 + 0 ≤ _), (by decide : 21 + 0 ≤ _)⟩)
    dsimp only [Pt.U, Pt.locs, Pt.cells, Pt.slots] at X44 l44 y44 z44 st44 hQ44
    rw [l44, y44, z44] at X44
    obtain ⟨rfl, N44q, e44⟩ := hQ44
    have N44 := Fr.app N43 N44q
    refine Dn.by (U' := T44.setTop (mkF m 160 #[.val (.int p0), .val (.long q1), .second, .val (.int p2), .val (.int p3), .val (.int p4), .val (.ref kd), .val (.ref b2), .val (.ref b8), .val (.ref b35), .val (.ref b39), .val (.int (1 : Int32)), .unset, .unset] [(.long (0 : Int64))])) (fun _ ks => st44.trans ks) ?_
    refine Dn.by (U' := T44.setTop (mkF m 161 #[.val (.int p0), .val (.long q1), .second, .val (.int p2), .val (.int p3), .val (.int p4), .val (.ref kd), .val (.ref b2), .val (.ref b8), .val (.ref b35), .val (.ref b39), .val (.int (1 : Int32)), .unset, .unset] [(.long (0 : Int64)), (.long (0 : Int64))])) (fun _ ks => XS.lconst X44.here hx rfl (hb hby at_160)  ks) ?_
    refine Dn.by (U' := T44.setTop (mkF m 162 #[.val (.int p0), .val (.long q1), .second, .val (.int p2), .val (.int p3), .val (.int p4), .val (.ref kd), .val (.ref b2), .val (.ref b8), .val (.ref b35), .val (.ref b39), .val (.int (1 : Int32)), .unset, .unset] [(.int (lcmpW (0 : Int64) (0 : Int64)))])) (fun _ ks => XS.lcmp X44.here hx rfl (hb hby at_161) rfl ks) ?_
    refine Dn.by (U' := T44.setTop (mkF m 165 #[.val (.int p0), .val (.long q1), .second, .val (.int p2), .val (.int p3), .val (.int p4), .val (.ref kd), .val (.ref b2), .val (.ref b8), .val (.ref b35), .val (.ref b39), .val (.int (1 : Int32)), .unset, .unset] [])) (fun _ ks => XS.ifNo X44.here hx rfl (hb hby at_162) rfl ((if0 _ _).trans (teq ((lw_eq _ _).mpr rfl)).2) ks) ?_
    refine Dn.by (U' := T44.setTop (mkF m 166 #[.val (.int p0), .val (.long q1), .second, .val (.int p2), .val (.int p3), .val (.int p4), .val (.ref kd), .val (.ref b2), .val (.ref b8), .val (.ref b35), .val (.ref b39), .val (.int (1 : Int32)), .unset, .unset] [(.int (1 : Int32))])) (fun _ ks => XS.iconst X44.here hx rfl (hb hby at_165)  ks) ?_
    refine Dn.by (U' := T44.setTop (mkF m 170 #[.val (.int p0), .val (.long q1), .second, .val (.int p2), .val (.int p3), .val (.int p4), .val (.ref kd), .val (.ref b2), .val (.ref b8), .val (.ref b35), .val (.ref b39), .val (.int (1 : Int32)), .unset, .unset] [(.int (1 : Int32))])) (fun _ ks => XS.goto X44.here hx rfl (pc0 := 166) (pc' := 170) rfl (hb hby at_166) (by decide) (by decide) ks) ?_
    refine Dn.by (U' := T44.setTop (mkF m 172 #[.val (.int p0), .val (.long q1), .second, .val (.int p2), .val (.int p3), .val (.int p4), .val (.ref kd), .val (.ref b2), .val (.ref b8), .val (.ref b35), .val (.ref b39), .val (.int (1 : Int32)), .unset, .unset] [])) (fun _ ks => XS.istore X44.here hx rfl (hb hby at_170) rfl (l' := #[.val (.int p0), .val (.long q1), .second, .val (.int p2), .val (.int p3), .val (.int p4), .val (.ref kd), .val (.ref b2), .val (.ref b8), .val (.ref b35), .val (.ref b39), .val (.int (1 : Int32)), .unset, .unset]) rfl ks) ?_
    refine Dn.by (U' := T44.setTop (mkF m 174 #[.val (.int p0), .val (.long q1), .second, .val (.int p2), .val (.int p3), .val (.int p4), .val (.ref kd), .val (.ref b2), .val (.ref b8), .val (.ref b35), .val (.ref b39), .val (.int (1 : Int32)), .unset, .unset] [(.ref b39)])) (fun _ ks => XS.aload X44.here hx rfl (hb hby at_172) rfl rfl ks) ?_
    obtain ⟨cq45, kq45, qa45, qb45, qc45⟩ := isOf hZ e44 EE39
    obtain ⟨_, _, ⟨T45, L45, k45, n45⟩, -, X45, ⟨Lc45, hQ45, l45, y45, z45⟩, st45⟩ := X44.virtualBack hx (y := (⟨"com/example/ferrywire/ferrywire/agent/AgentEvent", "messageId", "()Ljava/util/OptionalLong;"⟩ : MethodName)) (z := (⟨"com/example/ferrywire/ferrywire/agent/AgentEvent", "messageId", "()Ljava/util/OptionalLong;"⟩ : MethodName)) hown (mvT hZ (hw _ (List.mem_of_getElem? (i := 78) rfl))) (mvT hZ (hw _ (List.mem_of_getElem? (i := 79) rfl))) (notFace_of_selects (args := #[]) (mvT hZ (hw _ (List.mem_of_getElem? (i := 81) rfl)))) (mvT hZ (hw _ (List.mem_of_getElem? (i := 81) rfl))) (mvT hZ (hw _ (List.mem_of_getElem? (i := 80) rfl))) (by decide) (backOf (W := 0) (rm14 l Z a0 hw [] b39 q1 T39.heap n0 z40 FF39_3 O40 el S_el E_el F_ip F_vl) hZ (hw _ (List.mem_of_getElem? (i := 82) rfl)) (hw _ (List.mem_of_getElem? (i := 40) rfl)) (by decide) (by decide)) qa45 qc45 (g := (mkF m 174 #[.val (.int p0), .val (.long q1), .second, .val (.int p2), .val (.int p3), .val (.int p4), .val (.ref kd), .val (.ref b2), .val (.ref b8), .val (.ref b35), .val (.ref b39), .val (.int (1 : Int32)), .unset, .unset] [(.ref b39)])) rfl (by rw [hml]; rfl) (Steps.refl _) (argsL := []) (rest := []) (lenOf pd2 rfl) rfl (by show 2 * 0 + _ ≤ _; exact Nat.le_of_eq rfl) (hb hby at_174) (fun _ _ => ⟨rfl, e44, (by decide : 7 + 1 ≤ _), (by decide : 21 + 2 ≤ _)⟩)
    dsimp only [Pt.U, Pt.locs, Pt.cells, Pt.slots] at X45 l45 y45 z45 st45 hQ45
    rw [l45, y45, z45] at X45
    obtain ⟨b45, rfl, N45q, KK45, EE45, FP45, FV45⟩ := hQ45
    have N45 := Fr.app N44 N45q
    have K46 : Keep h0 T45.heap [] := (K40.trans KK45 all0)
    have z46 : n0 ≤ T45.heap.size := (Nat.le_trans z40 KK45.1)
    have O46 : Old Z n0 T45.heap := O40.keep KK45 all0
    refine Dn.by (U' := T45.setTop (mkF m 177 #[.val (.int p0), .val (.long q1), .second, .val (.int p2), .val (.int p3), .val (.int p4), .val (.ref kd), .val (.ref b2), .val (.ref b8), .val (.ref b35), .val (.ref b39), .val (.int (1 : Int32)), .unset, .unset] [(.ref b45)])) (fun _ ks => st45.trans ks) ?_
    refine Dn.by (U' := T45.setTop (mkF m 179 #[.val (.int p0), .val (.long q1), .second, .val (.int p2), .val (.int p3), .val (.int p4), .val (.ref kd), .val (.ref b2), .val (.ref b8), .val (.ref b35), .val (.ref b39), .val (.int (1 : Int32)), .val (.ref b45), .unset] [])) (fun _ ks => XS.astore X45.here hx rfl (hb hby at_177) rfl rfl (l' := #[.val (.int p0), .val (.long q1), .second, .val (.int p2), .val (.int p3), .val (.int p4), .val (.ref kd), .val (.ref b2), .val (.ref b8), .val (.ref b35), .val (.ref b39), .val (.int (1 : Int32)), .val (.ref b45), .unset]) rfl ks) ?_
    refine Dn.by (U' := T45.setTop (mkF m 180 #[.val (.int p0), .val (.long q1), .second, .val (.int p2), .val (.int p3), .val (.int p4), .val (.ref kd), .val (.ref b2), .val (.ref b8), .val (.ref b35), .val (.ref b39), .val (.int (1 : Int32)), .val (.ref b45), .unset] [(.long q1)])) (fun _ ks => XS.lloadN X45.here hx rfl (hb hby at_179) rfl ks) ?_
    refine Dn.by (U' := T45.setTop (mkF m 181 #[.val (.int p0), .val (.long q1), .second, .val (.int p2), .val (.int p3), .val (.int p4), .val (.ref kd), .val (.ref b2), .val (.ref b8), .val (.ref b35), .val (.ref b39), .val (.int (1 : Int32)), .val (.ref b45), .unset] [(.long (0 : Int64)), (.long q1)])) (fun _ ks => XS.lconst X45.here hx rfl (hb hby at_180)  ks) ?_
    refine Dn.by (U' := T45.setTop (mkF m 182 #[.val (.int p0), .val (.long q1), .second, .val (.int p2), .val (.int p3), .val (.int p4), .val (.ref kd), .val (.ref b2), .val (.ref b8), .val (.ref b35), .val (.ref b39), .val (.int (1 : Int32)), .val (.ref b45), .unset] [(.int (lcmpW q1 (0 : Int64)))])) (fun _ ks => XS.lcmp X45.here hx rfl (hb hby at_181) rfl ks) ?_
    by_cases c182_47 : q1 = (0 : Int64)
    ·
      refine Dn.by (U' := T45.setTop (mkF m 185 #[.val (.int p0), .val (.long q1), .second, .val (.int p2), .val (.int p3), .val (.int p4), .val (.ref kd), .val (.ref b2), .val (.ref b8), .val (.ref b35), .val (.ref b39), .val (.int (1 : Int32)), .val (.ref b45), .unset] [])) (fun _ ks => XS.ifNo X45.here hx rfl (hb hby at_182) rfl ((if0 _ _).trans (teq ((lw_eq _ _).mpr c182_47)).2) ks) ?_
      refine Dn.by (U' := T45.setTop (mkF m 187 #[.val (.int p0), .val (.long q1), .second, .val (.int p2), .val (.int p3), .val (.int p4), .val (.ref kd), .val (.ref b2), .val (.ref b8), .val (.ref b35), .val (.ref b39), .val (.int (1 : Int32)), .val (.ref b45), .unset] [(.int (1 : Int32))])) (fun _ ks => XS.iload X45.here hx rfl (hb hby at_185) rfl ks) ?_
      refine Dn.by (U' := T45.setTop (mkF m 190 #[.val (.int p0), .val (.long q1), .second, .val (.int p2), .val (.int p3), .val (.int p4), .val (.ref kd), .val (.ref b2), .val (.ref b8), .val (.ref b35), .val (.ref b39), .val (.int (1 : Int32)), .val (.ref b45), .unset] [])) (fun _ ks => XS.ifNo X45.here hx rfl (hb hby at_187) rfl (by decide) ks) ?_
      refine Dn.by (U' := T45.setTop (mkF m 192 #[.val (.int p0), .val (.long q1), .second, .val (.int p2), .val (.int p3), .val (.int p4), .val (.ref kd), .val (.ref b2), .val (.ref b8), .val (.ref b35), .val (.ref b39), .val (.int (1 : Int32)), .val (.ref b45), .unset] [(.ref b45)])) (fun _ ks => XS.aload X45.here hx rfl (hb hby at_190) rfl rfl ks) ?_
      obtain ⟨cq48, kq48, qa48, qb48, qc48⟩ := isOf hZ rfl EE45
      obtain ⟨_, _, ⟨T48, L48, k48, n48⟩, -, X48, ⟨Lc48, hQ48, l48, y48, z48⟩, st48⟩ := X45.virtualBack hx (y := (⟨"java/util/OptionalLong", "isPresent", "()Z"⟩ : MethodName)) (z := (⟨"java/util/OptionalLong", "isPresent", "()Z"⟩ : MethodName)) hown (mvT hZ (hw _ (List.mem_of_getElem? (i := 98) rfl))) (mvT hZ (hw _ (List.mem_of_getElem? (i := 99) rfl))) (notFace_of_selects (args := #[]) (mvT hZ (hw _ (List.mem_of_getElem? (i := 101) rfl)))) (mvT hZ (hw _ (List.mem_of_getElem? (i := 101) rfl))) (mvT hZ (hw _ (List.mem_of_getElem? (i := 100) rfl))) (by decide) (backOf (W := 0) (rm17 l Z a0 hw [] b45 (if q1 = (0 : Int64) then (0 : Int32) else (1 : Int32)) T45.heap n0 z46 FP45) hZ (hw _ (List.mem_of_getElem? (i := 102) rfl)) (hw _ (List.mem_of_getElem? (i := 85) rfl)) (by decide) (by decide)) qa48 qc48 (g := (mkF m 192 #[.val (.int p0), .val (.long q1), .second, .val (.int p2), .val (.int p3), .val (.int p4), .val (.ref kd), .val (.ref b2), .val (.ref b8), .val (.ref b35), .val (.ref b39), .val (.int (1 : Int32)), .val (.ref b45), .unset] [(.ref b45)])) rfl (by rw [hml]; rfl) (Steps.refl _) (argsL := []) (rest := []) (lenOf pd13 rfl) rfl (by show 2 * 0 + _ ≤ _; exact Nat.le_of_eq rfl) (hb hby at_192) (fun _ _ => ⟨rfl, rfl, (by decide : 8 + 0 ≤ _), (by decide : 23 + 0 ≤ _)⟩)
      dsimp only [Pt.U, Pt.locs, Pt.cells, Pt.slots] at X48 l48 y48 z48 st48 hQ48
      rw [l48, y48, z48] at X48
      obtain ⟨rfl, N48q, e48⟩ := hQ48
      have N48 := Fr.app N45 N48q
      refine Dn.by (U' := T48.setTop (mkF m 195 #[.val (.int p0), .val (.long q1), .second, .val (.int p2), .val (.int p3), .val (.int p4), .val (.ref kd), .val (.ref b2), .val (.ref b8), .val (.ref b35), .val (.ref b39), .val (.int (1 : Int32)), .val (.ref b45), .unset] [(.int (nar .boolean (if q1 = (0 : Int64) then (0 : Int32) else (1 : Int32))))])) (fun _ ks => st48.trans ks) ?_
      rw [show (nar .boolean (if q1 = (0 : Int64) then (0 : Int32) else (1 : Int32))) = (0 : Int32) from own_p0 c182_47]
      refine Dn.by (U' := T48.setTop (mkF m 198 #[.val (.int p0), .val (.long q1), .second, .val (.int p2), .val (.int p3), .val (.int p4), .val (.ref kd), .val (.ref b2), .val (.ref b8), .val (.ref b35), .val (.ref b39), .val (.int (1 : Int32)), .val (.ref b45), .unset] [])) (fun _ ks => XS.ifNo X48.here hx rfl (hb hby at_195) rfl (by decide) ks) ?_
      refine Dn.by (U' := T48.setTop (mkF m 199 #[.val (.int p0), .val (.long q1), .second, .val (.int p2), .val (.int p3), .val (.int p4), .val (.ref kd), .val (.ref b2), .val (.ref b8), .val (.ref b35), .val (.ref b39), .val (.int (1 : Int32)), .val (.ref b45), .unset] [(.int (1 : Int32))])) (fun _ ks => XS.iconst X48.here hx rfl (hb hby at_198)  ks) ?_
      refine Dn.by (U' := T48.setTop (mkF m 203 #[.val (.int p0), .val (.long q1), .second, .val (.int p2), .val (.int p3), .val (.int p4), .val (.ref kd), .val (.ref b2), .val (.ref b8), .val (.ref b35), .val (.ref b39), .val (.int (1 : Int32)), .val (.ref b45), .unset] [(.int (1 : Int32))])) (fun _ ks => XS.goto X48.here hx rfl (pc0 := 199) (pc' := 203) rfl (hb hby at_199) (by decide) (by decide) ks) ?_
      refine Dn.by (U' := T48.setTop (mkF m 205 #[.val (.int p0), .val (.long q1), .second, .val (.int p2), .val (.int p3), .val (.int p4), .val (.ref kd), .val (.ref b2), .val (.ref b8), .val (.ref b35), .val (.ref b39), .val (.int (1 : Int32)), .val (.ref b45), .unset] [])) (fun _ ks => XS.istore X48.here hx rfl (hb hby at_203) rfl (l' := #[.val (.int p0), .val (.long q1), .second, .val (.int p2), .val (.int p3), .val (.int p4), .val (.ref kd), .val (.ref b2), .val (.ref b8), .val (.ref b35), .val (.ref b39), .val (.int (1 : Int32)), .val (.ref b45), .unset]) rfl ks) ?_
      refine Dn.by (U' := T48.setTop (mkF m 238 #[.val (.int p0), .val (.long q1), .second, .val (.int p2), .val (.int p3), .val (.int p4), .val (.ref kd), .val (.ref b2), .val (.ref b8), .val (.ref b35), .val (.ref b39), .val (.int (1 : Int32)), .val (.ref b45), .unset] [])) (fun _ ks => XS.goto X48.here hx rfl (pc0 := 205) (pc' := 238) rfl (hb hby at_205) (by decide) (by decide) ks) ?_
      refine Dn.by (U' := T48.setTop (mkF m 240 #[.val (.int p0), .val (.long q1), .second, .val (.int p2), .val (.int p3), .val (.int p4), .val (.ref kd), .val (.ref b2), .val (.ref b8), .val (.ref b35), .val (.ref b39), .val (.int (1 : Int32)), .val (.ref b45), .unset] [(.ref b39)])) (fun _ ks => XS.aload X48.here hx rfl (hb hby at_238) rfl rfl ks) ?_
      obtain ⟨cq49, kq49, qa49, qb49, qc49⟩ := isOf hZ e48 (EE39.keep KK45)
      obtain ⟨_, _, ⟨T49, L49, k49, n49⟩, -, X49, ⟨Lc49, hQ49, l49, y49, z49⟩, st49⟩ := X48.virtualBack hx (y := (⟨"com/example/ferrywire/ferrywire/agent/AgentEvent", "text", "()Ljava/util/Optional;"⟩ : MethodName)) (z := (⟨"com/example/ferrywire/ferrywire/agent/AgentEvent", "text", "()Ljava/util/Optional;"⟩ : MethodName)) hown (mvT hZ (hw _ (List.mem_of_getElem? (i := 108) rfl))) (mvT hZ (hw _ (List.mem_of_getElem? (i := 109) rfl))) (notFace_of_selects (args := #[]) (mvT hZ (hw _ (List.mem_of_getElem? (i := 111) rfl)))) (mvT hZ (hw _ (List.mem_of_getElem? (i := 111) rfl))) (mvT hZ (hw _ (List.mem_of_getElem? (i := 110) rfl))) (by decide) (backOf (W := 0) (rm19 l Z a0 hw [] b39 b35 T45.heap n0 z46 (FF39_4.keep KK45 nin0)) hZ (hw _ (List.mem_of_getElem? (i := 112) rfl)) (hw _ (List.mem_of_getElem? (i := 40) rfl)) (by decide) (by decide)) qa49 qc49 (g := (mkF m 240 #[.val (.int p0), .val (.long q1), .second, .val (.int p2), .val (.int p3), .val (.int p4), .val (.ref kd), .val (.ref b2), .val (.ref b8), .val (.ref b35), .val (.ref b39), .val (.int (1 : Int32)), .val (.ref b45), .unset] [(.ref b39)])) rfl (by rw [hml]; rfl) (Steps.refl _) (argsL := []) (rest := []) (lenOf pd14 rfl) rfl (by show 2 * 0 + _ ≤ _; exact Nat.le_of_eq rfl) (hb hby at_240) (fun _ _ => ⟨rfl, e48, (by decide : 8 + 1 ≤ _), (by decide : 23 + 1 ≤ _)⟩)
      dsimp only [Pt.U, Pt.locs, Pt.cells, Pt.slots] at X49 l49 y49 z49 st49 hQ49
      rw [l49, y49, z49] at X49
      obtain ⟨b49, rfl, N49q, zz49, KK49, EE49, FF49_0⟩ := hQ49
      have N49 := Fr.app N48 N49q
      have g_b49 : n0 ≤ b49 := Nat.le_trans z46 zz49
      have sz_b49 : h0.size ≤ b49 := Nat.le_trans K46.1 zz49
      have ne_eo_b49 : eo ≠ b49 := Nat.ne_of_lt (Nat.lt_of_lt_of_le ((((((((((((E_eo.ext E2).wr W4).wr W6).ext E8).keep KK10).ext E29).wr W31).wr W33).ext E35).keep KK37).keep KK39).keep KK45).lt zz49)
      have ne_b2_b49 : b2 ≠ b49 := Nat.ne_of_lt (Nat.lt_of_lt_of_le (((((((((V6b.ext E8).keep KK10 (ninS ne_b2_b8 nin0)).ext E29).other W31 ne_b2_b29).other W33 ne_b2_b29).ext E35).keep KK37 (ninS ne_b2_b35 nin0)).keep KK39 nin0).keep KK45 nin0).lt zz49)
      have ne_b8_b49 : b8 ≠ b49 := Nat.ne_of_lt (Nat.lt_of_lt_of_le (((((((EE10.ext E29).wr W31).wr W33).ext E35).keep KK37).keep KK39).keep KK45).lt zz49)
      have ne_t10_b49 : t10 ≠ b49 := Nat.ne_of_lt (Nat.lt_of_lt_of_le (((((((VV10.ext E29).other W31 ne_t10_b29).other W33 ne_t10_b29).ext E35).keep KK37 (ninS ne_t10_b35 nin0)).keep KK39 nin0).keep KK45 nin0).lt zz49)
      have ne_b29_b49 : b29 ≠ b49 := Nat.ne_of_lt (Nat.lt_of_lt_of_le ((((V33b.ext E35).keep KK37 (ninS ne_b29_b35 nin0)).keep KK39 nin0).keep KK45 nin0).lt zz49)
      have ne_b35_b49 : b35 ≠ b49 := Nat.ne_of_lt (Nat.lt_of_lt_of_le ((EE37.keep KK39).keep KK45).lt zz49)
      have ne_t37_b49 : t37 ≠ b49 := Nat.ne_of_lt (Nat.lt_of_lt_of_le ((VV37.keep KK39 nin0).keep KK45 nin0).lt zz49)
      have ne_b39_b49 : b39 ≠ b49 := Nat.ne_of_lt (Nat.lt_of_lt_of_le (EE39.keep KK45).lt zz49)
      have ne_b45_b49 : b45 ≠ b49 := Nat.ne_of_lt (Nat.lt_of_lt_of_le EE45.lt zz49)
      have K50 : Keep h0 T49.heap [] := (K46.trans KK49 all0)
      have z50 : n0 ≤ T49.heap.size := (Nat.le_trans z46 KK49.1)
      have O50 : Old Z n0 T49.heap := O46.keep KK49 all0
      refine Dn.by (U' := T49.setTop (mkF m 243 #[.val (.int p0), .val (.long q1), .second, .val (.int p2), .val (.int p3), .val (.int p4), .val (.ref kd), .val (.ref b2), .val (.ref b8), .val (.ref b35), .val (.ref b39), .val (.int (1 : Int32)), .val (.ref b45), .unset] [(.ref b49)])) (fun _ ks => st49.trans ks) ?_
      refine Dn.by (U' := T49.setTop (mkF m 245 #[.val (.int p0), .val (.long q1), .second, .val (.int p2), .val (.int p3), .val (.int p4), .val (.ref kd), .val (.ref b2), .val (.ref b8), .val (.ref b35), .val (.ref b39), .val (.int (1 : Int32)), .val (.ref b45), .val (.ref b49)] [])) (fun _ ks => XS.astore X49.here hx rfl (hb hby at_243) rfl rfl (l' := #[.val (.int p0), .val (.long q1), .second, .val (.int p2), .val (.int p3), .val (.int p4), .val (.ref kd), .val (.ref b2), .val (.ref b8), .val (.ref b35), .val (.ref b39), .val (.int (1 : Int32)), .val (.ref b45), .val (.ref b49)]) rfl ks) ?_
      refine Dn.by (U' := T49.setTop (mkF m 247 #[.val (.int p0), .val (.long q1), .second, .val (.int p2), .val (.int p3), .val (.int p4), .val (.ref kd), .val (.ref b2), .val (.ref b8), .val (.ref b35), .val (.ref b39), .val (.int (1 : Int32)), .val (.ref b45), .val (.ref b49)] [(.ref b35)])) (fun _ ks => XS.aload X49.here hx rfl (hb hby at_245) rfl rfl ks) ?_
      refine Dn.by (U' := T49.setTop (mkF m 273 #[.val (.int p0), .val (.long q1), .second, .val (.int p2), .val (.int p3), .val (.int p4), .val (.ref kd), .val (.ref b2), .val (.ref b8), .val (.ref b35), .val (.ref b39), .val (.int (1 : Int32)), .val (.ref b45), .val (.ref b49)] [])) (fun _ ks => XS.ifnonnullYes X49.here hx rfl (pc0 := 247) (pc' := 273) rfl (hb hby at_247) rfl (by decide) (by decide) ks) ?_
      refine Dn.by (U' := T49.setTop (mkF m 275 #[.val (.int p0), .val (.long q1), .second, .val (.int p2), .val (.int p3), .val (.int p4), .val (.ref kd), .val (.ref b2), .val (.ref b8), .val (.ref b35), .val (.ref b39), .val (.int (1 : Int32)), .val (.ref b45), .val (.ref b49)] [(.int (1 : Int32))])) (fun _ ks => XS.iload X49.here hx rfl (hb hby at_273) rfl ks) ?_
      refine Dn.by (U' := T49.setTop (mkF m 278 #[.val (.int p0), .val (.long q1), .second, .val (.int p2), .val (.int p3), .val (.int p4), .val (.ref kd), .val (.ref b2), .val (.ref b8), .val (.ref b35), .val (.ref b39), .val (.int (1 : Int32)), .val (.ref b45), .val (.ref b49)] [])) (fun _ ks => XS.ifNo X49.here hx rfl (hb hby at_275) rfl (by decide) ks) ?_
      refine Dn.by (U' := T49.setTop (mkF m 280 #[.val (.int p0), .val (.long q1), .second, .val (.int p2), .val (.int p3), .val (.int p4), .val (.ref kd), .val (.ref b2), .val (.ref b8), .val (.ref b35), .val (.ref b39), .val (.int (1 : Int32)), .val (.ref b45), .val (.ref b49)] [(.ref b49)])) (fun _ ks => XS.aload X49.here hx rfl (hb hby at_278) rfl rfl ks) ?_
      obtain ⟨cq51, kq51, qa51, qb51, qc51⟩ := isOf hZ rfl EE49
      obtain ⟨_, _, ⟨T51, L51, k51, n51⟩, -, X51, ⟨Lc51, hQ51, l51, y51, z51⟩, st51⟩ := X49.virtualBack hx (y := (⟨"java/util/Optional", "isPresent", "()Z"⟩ : MethodName)) (z := (⟨"java/util/Optional", "isPresent", "()Z"⟩ : MethodName)) hown (mvT hZ (hw _ (List.mem_of_getElem? (i := 126) rfl))) (mvT hZ (hw _ (List.mem_of_getElem? (i := 127) rfl))) (notFace_of_selects (args := #[]) (mvT hZ (hw _ (List.mem_of_getElem? (i := 129) rfl)))) (mvT hZ (hw _ (List.mem_of_getElem? (i := 129) rfl))) (mvT hZ (hw _ (List.mem_of_getElem? (i := 128) rfl))) (by decide) (backOf (W := 0) (rm22 l Z a0 hw [] b49 b35 T49.heap n0 z50 FF49_0) hZ (hw _ (List.mem_of_getElem? (i := 130) rfl)) (hw _ (List.mem_of_getElem? (i := 115) rfl)) (by decide) (by decide)) qa51 qc51 (g := (mkF m 280 #[.val (.int p0), .val (.long q1), .second, .val (.int p2), .val (.int p3), .val (.int p4), .val (.ref kd), .val (.ref b2), .val (.ref b8), .val (.ref b35), .val (.ref b39), .val (.int (1 : Int32)), .val (.ref b45), .val (.ref b49)] [(.ref b49)])) rfl (by rw [hml]; rfl) (Steps.refl _) (argsL := []) (rest := []) (lenOf pd13 rfl) rfl (by show 2 * 0 + _ ≤ _; exact Nat.le_of_eq rfl) (hb hby at_280) (fun _ _ => ⟨rfl, rfl, (by decide : 9 + 0 ≤ _), (by decide : 24 + 0 ≤ _)⟩)
      dsimp only [Pt.U, Pt.locs, Pt.cells, Pt.slots] at X51 l51 y51 z51 st51 hQ51
      rw [l51, y51, z51] at X51
      obtain ⟨rfl, N51q, e51⟩ := hQ51
      have N51 := Fr.app N49 N51q
      refine Dn.by (U' := T51.setTop (mkF m 283 #[.val (.int p0), .val (.long q1), .second, .val (.int p2), .val (.int p3), .val (.int p4), .val (.ref kd), .val (.ref b2), .val (.ref b8), .val (.ref b35), .val (.ref b39), .val (.int (1 : Int32)), .val (.ref b45), .val (.ref b49)] [(.int (1 : Int32))])) (fun _ ks => st51.trans ks) ?_
      refine Dn.by (U' := T51.setTop (mkF m 286 #[.val (.int p0), .val (.long q1), .second, .val (.int p2), .val (.int p3), .val (.int p4), .val (.ref kd), .val (.ref b2), .val (.ref b8), .val (.ref b35), .val (.ref b39), .val (.int (1 : Int32)), .val (.ref b45), .val (.ref b49)] [])) (fun _ ks => XS.ifNo X51.here hx rfl (hb hby at_283) rfl (by decide) ks) ?_
      refine Dn.by (U' := T51.setTop (mkF m 288 #[.val (.int p0), .val (.long q1), .second, .val (.int p2), .val (.int p3), .val (.int p4), .val (.ref kd), .val (.ref b2), .val (.ref b8), .val (.ref b35), .val (.ref b39), .val (.int (1 : Int32)), .val (.ref b45), .val (.ref b49)] [(.ref b35)])) (fun _ ks => XS.aload X51.here hx rfl (hb hby at_286) rfl rfl ks) ?_
      refine Dn.by (U' := T51.setTop (mkF m 290 #[.val (.int p0), .val (.long q1), .second, .val (.int p2), .val (.int p3), .val (.int p4), .val (.ref kd), .val (.ref b2), .val (.ref b8), .val (.ref b35), .val (.ref b39), .val (.int (1 : Int32)), .val (.ref b45), .val (.ref b49)] [(.ref b49), (.ref b35)])) (fun _ ks => XS.aload X51.here hx rfl (hb hby at_288) rfl rfl ks) ?_
      obtain ⟨cq52, kq52, qa52, qb52, qc52⟩ := isOf hZ e51 EE49
      obtain ⟨_, _, ⟨T52, L52, k52, n52⟩, -, X52, ⟨Lc52, hQ52, l52, y52, z52⟩, st52⟩ := X51.virtualBack hx (y := (⟨"java/util/Optional", "get", "()Ljava/lang/Object;"⟩ : MethodName)) (z := (⟨"java/util/Optional", "get", "()Ljava/lang/Object;"⟩ : MethodName)) hown (mvT hZ (hw _ (List.mem_of_getElem? (i := 131) rfl))) (mvT hZ (hw _ (List.mem_of_getElem? (i := 132) rfl))) (notFace_of_selects (args := #[]) (mvT hZ (hw _ (List.mem_of_getElem? (i := 134) rfl)))) (mvT hZ (hw _ (List.mem_of_getElem? (i := 134) rfl))) (mvT hZ (hw _ (List.mem_of_getElem? (i := 133) rfl))) (by decide) (backOf (W := 1) (rm23 l Z a0 hw [] b49 b35 T49.heap n0 z50 FF49_0) hZ (hw _ (List.mem_of_getElem? (i := 135) rfl)) (hw _ (List.mem_of_getElem? (i := 115) rfl)) (by decide) (by decide)) qa52 qc52 (g := (mkF m 290 #[.val (.int p0), .val (.long q1), .second, .val (.int p2), .val (.int p3), .val (.int p4), .val (.ref kd), .val (.ref b2), .val (.ref b8), .val (.ref b35), .val (.ref b39), .val (.int (1 : Int32)), .val (.ref b45), .val (.ref b49)] [(.ref b49), (.ref b35)])) rfl (by rw [hml]; rfl) (Steps.refl _) (argsL := []) (rest := [(.ref b35)]) (lenOf pd15 rfl) rfl (by show 2 * 0 + _ ≤ _; exact Nat.le_of_eq rfl) (hb hby at_290) (fun _ _ => ⟨rfl, e51, (by decide : 9 + 0 ≤ _), (by decide : 24 + 0 ≤ _)⟩)
      dsimp only [Pt.U, Pt.locs, Pt.cells, Pt.slots] at X52 l52 y52 z52 st52 hQ52
      rw [l52, y52, z52] at X52
      obtain ⟨rfl, N52q, e52⟩ := hQ52
      have N52 := Fr.app N51 N52q
      refine Dn.by (U' := T52.setTop (mkF m 293 #[.val (.int p0), .val (.long q1), .second, .val (.int p2), .val (.int p3), .val (.int p4), .val (.ref kd), .val (.ref b2), .val (.ref b8), .val (.ref b35), .val (.ref b39), .val (.int (1 : Int32)), .val (.ref b45), .val (.ref b49)] [(.ref b35), (.ref b35)])) (fun _ ks => st52.trans ks) ?_
      obtain ⟨cq53, kq53, qa53, qb53, qc53⟩ := isOf hZ e52 (((EE37.keep KK39).keep KK45).keep KK49)
      obtain ⟨_, _, ⟨T53, L53, k53, n53⟩, -, X53, ⟨Lc53, hQ53, l53, y53, z53⟩, st53⟩ := X52.virtualBack hx (y := (⟨"java/lang/String", "equals", "(Ljava/lang/Object;)Z"⟩ : MethodName)) (z := (⟨"java/lang/String", "equals", "(Ljava/lang/Object;)Z"⟩ : MethodName)) hown (mvT hZ (hw _ (List.mem_of_getElem? (i := 68) rfl))) (mvT hZ (hw _ (List.mem_of_getElem? (i := 69) rfl))) (notFace_of_selects (args := #[]) (mvT hZ (hw _ (List.mem_of_getElem? (i := 71) rfl)))) (mvT hZ (hw _ (List.mem_of_getElem? (i := 71) rfl))) (mvT hZ (hw _ (List.mem_of_getElem? (i := 70) rfl))) (by decide) (backOf (W := 0) (rm12 l Z a0 hw [] b35  T49.heap n0 z50 ) hZ (hw _ (List.mem_of_getElem? (i := 72) rfl)) (hw _ (List.mem_of_getElem? (i := 11) rfl)) (by decide) (by decide)) qa53 qc53 (g := (mkF m 293 #[.val (.int p0), .val (.long q1), .second, .val (.int p2), .val (.int p3), .val (.int p4), .val (.ref kd), .val (.ref b2), .val (.ref b8), .val (.ref b35), .val (.ref b39), .val (.int (1 : Int32)), .val (.ref b45), .val (.ref b49)] [(.ref b35), (.ref b35)])) rfl (by rw [hml]; rfl) (Steps.refl _) (argsL := [(.ref b35)]) (rest := []) (lenOf pd11 rfl) rfl (by show 2 * 0 + _ ≤ _; exact Nat.le_of_eq rfl) (hb hby at_293) (fun _ _ => ⟨rfl, e52, (by decide : 9 + 0 ≤ _), (by decide : 24 + 0 ≤ _)⟩)
      dsimp only [Pt.U, Pt.locs, Pt.cells, Pt.slots] at X53 l53 y53 z53 st53 hQ53
      rw [l53, y53, z53] at X53
      obtain ⟨rfl, N53q, e53⟩ := hQ53
      have N53 := Fr.app N52 N53q
      refine Dn.by (U' := T53.setTop (mkF m 296 #[.val (.int p0), .val (.long q1), .second, .val (.int p2), .val (.int p3), .val (.int p4), .val (.ref kd), .val (.ref b2), .val (.ref b8), .val (.ref b35), .val (.ref b39), .val (.int (1 : Int32)), .val (.ref b45), .val (.ref b49)] [(.int (1 : Int32))])) (fun _ ks => st53.trans ks) ?_
      refine Dn.by (U' := T53.setTop (mkF m 299 #[.val (.int p0), .val (.long q1), .second, .val (.int p2), .val (.int p3), .val (.int p4), .val (.ref kd), .val (.ref b2), .val (.ref b8), .val (.ref b35), .val (.ref b39), .val (.int (1 : Int32)), .val (.ref b45), .val (.ref b49)] [])) (fun _ ks => XS.ifNo X53.here hx rfl (hb hby at_296) rfl (by decide) ks) ?_
      refine Dn.by (U' := T53.setTop (mkF m 300 #[.val (.int p0), .val (.long q1), .second, .val (.int p2), .val (.int p3), .val (.int p4), .val (.ref kd), .val (.ref b2), .val (.ref b8), .val (.ref b35), .val (.ref b39), .val (.int (1 : Int32)), .val (.ref b45), .val (.ref b49)] [(.int (1 : Int32))])) (fun _ ks => XS.iconst X53.here hx rfl (hb hby at_299)  ks) ?_
      refine Dn.by (U' := T53.setTop (mkF m 304 #[.val (.int p0), .val (.long q1), .second, .val (.int p2), .val (.int p3), .val (.int p4), .val (.ref kd), .val (.ref b2), .val (.ref b8), .val (.ref b35), .val (.ref b39), .val (.int (1 : Int32)), .val (.ref b45), .val (.ref b49)] [(.int (1 : Int32))])) (fun _ ks => XS.goto X53.here hx rfl (pc0 := 300) (pc' := 304) rfl (hb hby at_300) (by decide) (by decide) ks) ?_
      refine Dn.by (U' := T53.setTop (mkF m 306 #[.val (.int p0), .val (.long q1), .second, .val (.int p2), .val (.int p3), .val (.int p4), .val (.ref kd), .val (.ref b2), .val (.ref b8), .val (.ref b35), .val (.ref b39), .val (.int (1 : Int32)), .val (.ref b45), .val (.ref b49)] [])) (fun _ ks => XS.istore X53.here hx rfl (hb hby at_304) rfl (l' := #[.val (.int p0), .val (.long q1), .second, .val (.int p2), .val (.int p3), .val (.int p4), .val (.ref kd), .val (.ref b2), .val (.ref b8), .val (.ref b35), .val (.ref b39), .val (.int (1 : Int32)), .val (.ref b45), .val (.ref b49)]) rfl ks) ?_
      refine Dn.by (U' := T53.setTop (mkF m 308 #[.val (.int p0), .val (.long q1), .second, .val (.int p2), .val (.int p3), .val (.int p4), .val (.ref kd), .val (.ref b2), .val (.ref b8), .val (.ref b35), .val (.ref b39), .val (.int (1 : Int32)), .val (.ref b45), .val (.ref b49)] [(.int (1 : Int32))])) (fun _ ks => XS.iload X53.here hx rfl (hb hby at_306) rfl ks) ?_
      refine Dn.out X53 (v := (some (.int (1 : Int32)))) (fun h => by rw [Bd.returns] at h; cases h) (BodyLoose.notSynchronized Bd) (fun _ hr => retN X53 hx (t := .boolean) Bd.returns (by simp) (hb hby at_308) hr) (by decide) (by decide) ?_
      rw [e53]
      exact ⟨rfl, N53⟩
    ·
      refine Dn.by (U' := T45.setTop (mkF m 208 #[.val (.int p0), .val (.long q1), .second, .val (.int p2), .val (.int p3), .val (.int p4), .val (.ref kd), .val (.ref b2), .val (.ref b8), .val (.ref b35), .val (.ref b39), .val (.int (1 : Int32)), .val (.ref b45), .unset] [])) (fun _ ks => XS.ifYes X45.here hx rfl (pc0 := 182) (pc' := 208) rfl (hb hby at_182) rfl ((if0 _ _).trans (feq (fun z => c182_47 ((lw_eq _ _).mp z))).2) (by decide) (by decide) ks) ?_
      refine Dn.by (U' := T45.setTop (mkF m 210 #[.val (.int p0), .val (.long q1), .second, .val (.int p2), .val (.int p3), .val (.int p4), .val (.ref kd), .val (.ref b2), .val (.ref b8), .val (.ref b35), .val (.ref b39), .val (.int (1 : Int32)), .val (.ref b45), .unset] [(.int (1 : Int32))])) (fun _ ks => XS.iload X45.here hx rfl (hb hby at_208) rfl ks) ?_
      refine Dn.by (U' := T45.setTop (mkF m 213 #[.val (.int p0), .val (.long q1), .second, .val (.int p2), .val (.int p3), .val (.int p4), .val (.ref kd), .val (.ref b2), .val (.ref b8), .val (.ref b35), .val (.ref b39), .val (.int (1 : Int32)), .val (.ref b45), .unset] [])) (fun _ ks => XS.ifNo X45.here hx rfl (hb hby at_210) rfl (by decide) ks) ?_
      refine Dn.by (U' := T45.setTop (mkF m 215 #[.val (.int p0), .val (.long q1), .second, .val (.int p2), .val (.int p3), .val (.int p4), .val (.ref kd), .val (.ref b2), .val (.ref b8), .val (.ref b35), .val (.ref b39), .val (.int (1 : Int32)), .val (.ref b45), .unset] [(.ref b45)])) (fun _ ks => XS.aload X45.here hx rfl (hb hby at_213) rfl rfl ks) ?_
      obtain ⟨cq54, kq54, qa54, qb54, qc54⟩ := isOf hZ rfl EE45
      obtain ⟨_, _, ⟨T54, L54, k54, n54⟩, -, X54, ⟨Lc54, hQ54, l54, y54, z54⟩, st54⟩ := X45.virtualBack hx (y := (⟨"java/util/OptionalLong", "isPresent", "()Z"⟩ : MethodName)) (z := (⟨"java/util/OptionalLong", "isPresent", "()Z"⟩ : MethodName)) hown (mvT hZ (hw _ (List.mem_of_getElem? (i := 98) rfl))) (mvT hZ (hw _ (List.mem_of_getElem? (i := 99) rfl))) (notFace_of_selects (args := #[]) (mvT hZ (hw _ (List.mem_of_getElem? (i := 101) rfl)))) (mvT hZ (hw _ (List.mem_of_getElem? (i := 101) rfl))) (mvT hZ (hw _ (List.mem_of_getElem? (i := 100) rfl))) (by decide) (backOf (W := 0) (rm17 l Z a0 hw [] b45 (if q1 = (0 : Int64) then (0 : Int32) else (1 : Int32)) T45.heap n0 z46 FP45) hZ (hw _ (List.mem_of_getElem? (i := 102) rfl)) (hw _ (List.mem_of_getElem? (i := 85) rfl)) (by decide) (by decide)) qa54 qc54 (g := (mkF m 215 #[.val (.int p0), .val (.long q1), .second, .val (.int p2), .val (.int p3), .val (.int p4), .val (.ref kd), .val (.ref b2), .val (.ref b8), .val (.ref b35), .val (.ref b39), .val (.int (1 : Int32)), .val (.ref b45), .unset] [(.ref b45)])) rfl (by rw [hml]; rfl) (Steps.refl _) (argsL := []) (rest := []) (lenOf pd13 rfl) rfl (by show 2 * 0 + _ ≤ _; exact Nat.le_of_eq rfl) (hb hby at_215) (fun _ _ => ⟨rfl, rfl, (by decide : 8 + 0 ≤ _), (by decide : 23 + 0 ≤ _)⟩)
      dsimp only [Pt.U, Pt.locs, Pt.cells, Pt.slots] at X54 l54 y54 z54 st54 hQ54
      rw [l54, y54, z54] at X54
      obtain ⟨rfl, N54q, e54⟩ := hQ54
      have N54 := Fr.app N45 N54q
      refine Dn.by (U' := T54.setTop (mkF m 218 #[.val (.int p0), .val (.long q1), .second, .val (.int p2), .val (.int p3), .val (.int p4), .val (.ref kd), .val (.ref b2), .val (.ref b8), .val (.ref b35), .val (.ref b39), .val (.int (1 : Int32)), .val (.ref b45), .unset] [(.int (nar .boolean (if q1 = (0 : Int64) then (0 : Int32) else (1 : Int32))))])) (fun _ ks => st54.trans ks) ?_
      rw [show (nar .boolean (if q1 = (0 : Int64) then (0 : Int32) else (1 : Int32))) = (1 : Int32) from own_p1 c182_47]
      refine Dn.by (U' := T54.setTop (mkF m 221 #[.val (.int p0), .val (.long q1), .second, .val (.int p2), .val (.int p3), .val (.int p4), .val (.ref kd), .val (.ref b2), .val (.ref b8), .val (.ref b35), .val (.ref b39), .val (.int (1 : Int32)), .val (.ref b45), .unset] [])) (fun _ ks => XS.ifNo X54.here hx rfl (hb hby at_218) rfl (by decide) ks) ?_
      refine Dn.by (U' := T54.setTop (mkF m 223 #[.val (.int p0), .val (.long q1), .second, .val (.int p2), .val (.int p3), .val (.int p4), .val (.ref kd), .val (.ref b2), .val (.ref b8), .val (.ref b35), .val (.ref b39), .val (.int (1 : Int32)), .val (.ref b45), .unset] [(.ref b45)])) (fun _ ks => XS.aload X54.here hx rfl (hb hby at_221) rfl rfl ks) ?_
      obtain ⟨cq55, kq55, qa55, qb55, qc55⟩ := isOf hZ e54 EE45
      obtain ⟨_, _, ⟨T55, L55, k55, n55⟩, -, X55, ⟨Lc55, hQ55, l55, y55, z55⟩, st55⟩ := X54.virtualBack hx (y := (⟨"java/util/OptionalLong", "getAsLong", "()J"⟩ : MethodName)) (z := (⟨"java/util/OptionalLong", "getAsLong", "()J"⟩ : MethodName)) hown (mvT hZ (hw _ (List.mem_of_getElem? (i := 103) rfl))) (mvT hZ (hw _ (List.mem_of_getElem? (i := 104) rfl))) (notFace_of_selects (args := #[]) (mvT hZ (hw _ (List.mem_of_getElem? (i := 106) rfl)))) (mvT hZ (hw _ (List.mem_of_getElem? (i := 106) rfl))) (mvT hZ (hw _ (List.mem_of_getElem? (i := 105) rfl))) (by decide) (backOf (W := 0) (rm18 l Z a0 hw [] b45 (if q1 = (0 : Int64) then (0 : Int32) else (1 : Int32)) q1 T45.heap n0 z46 FP45 FV45 (own_ne c182_47)) hZ (hw _ (List.mem_of_getElem? (i := 107) rfl)) (hw _ (List.mem_of_getElem? (i := 85) rfl)) (by decide) (by decide)) qa55 qc55 (g := (mkF m 223 #[.val (.int p0), .val (.long q1), .second, .val (.int p2), .val (.int p3), .val (.int p4), .val (.ref kd), .val (.ref b2), .val (.ref b8), .val (.ref b35), .val (.ref b39), .val (.int (1 : Int32)), .val (.ref b45), .unset] [(.ref b45)])) rfl (by rw [hml]; rfl) (Steps.refl _) (argsL := []) (rest := []) (lenOf pd12 rfl) rfl (by show 2 * 0 + _ ≤ _; exact Nat.le_of_eq rfl) (hb hby at_223) (fun _ _ => ⟨rfl, e54, (by decide : 8 + 0 ≤ _), (by decide : 23 + 0 ≤ _)⟩)
      dsimp only [Pt.U, Pt.locs, Pt.cells, Pt.slots] at X55 l55 y55 z55 st55 hQ55
      rw [l55, y55, z55] at X55
      obtain ⟨rfl, N55q, e55⟩ := hQ55
      have N55 := Fr.app N54 N55q
      refine Dn.by (U' := T55.setTop (mkF m 226 #[.val (.int p0), .val (.long q1), .second, .val (.int p2), .val (.int p3), .val (.int p4), .val (.ref kd), .val (.ref b2), .val (.ref b8), .val (.ref b35), .val (.ref b39), .val (.int (1 : Int32)), .val (.ref b45), .unset] [(.long q1)])) (fun _ ks => st55.trans ks) ?_
      refine Dn.by (U' := T55.setTop (mkF m 227 #[.val (.int p0), .val (.long q1), .second, .val (.int p2), .val (.int p3), .val (.int p4), .val (.ref kd), .val (.ref b2), .val (.ref b8), .val (.ref b35), .val (.ref b39), .val (.int (1 : Int32)), .val (.ref b45), .unset] [(.long q1), (.long q1)])) (fun _ ks => XS.lloadN X55.here hx rfl (hb hby at_226) rfl ks) ?_
      refine Dn.by (U' := T55.setTop (mkF m 228 #[.val (.int p0), .val (.long q1), .second, .val (.int p2), .val (.int p3), .val (.int p4), .val (.ref kd), .val (.ref b2), .val (.ref b8), .val (.ref b35), .val (.ref b39), .val (.int (1 : Int32)), .val (.ref b45), .unset] [(.int (lcmpW q1 q1))])) (fun _ ks => XS.lcmp X55.here hx rfl (hb hby at_227) rfl ks) ?_
      refine Dn.by (U' := T55.setTop (mkF m 231 #[.val (.int p0), .val (.long q1), .second, .val (.int p2), .val (.int p3), .val (.int p4), .val (.ref kd), .val (.ref b2), .val (.ref b8), .val (.ref b35), .val (.ref b39), .val (.int (1 : Int32)), .val (.ref b45), .unset] [])) (fun _ ks => XS.ifNo X55.here hx rfl (hb hby at_228) rfl ((if0 _ _).trans (teq ((lw_eq _ _).mpr rfl)).2) ks) ?_
      refine Dn.by (U' := T55.setTop (mkF m 232 #[.val (.int p0), .val (.long q1), .second, .val (.int p2), .val (.int p3), .val (.int p4), .val (.ref kd), .val (.ref b2), .val (.ref b8), .val (.ref b35), .val (.ref b39), .val (.int (1 : Int32)), .val (.ref b45), .unset] [(.int (1 : Int32))])) (fun _ ks => XS.iconst X55.here hx rfl (hb hby at_231)  ks) ?_
      refine Dn.by (U' := T55.setTop (mkF m 236 #[.val (.int p0), .val (.long q1), .second, .val (.int p2), .val (.int p3), .val (.int p4), .val (.ref kd), .val (.ref b2), .val (.ref b8), .val (.ref b35), .val (.ref b39), .val (.int (1 : Int32)), .val (.ref b45), .unset] [(.int (1 : Int32))])) (fun _ ks => XS.goto X55.here hx rfl (pc0 := 232) (pc' := 236) rfl (hb hby at_232) (by decide) (by decide) ks) ?_
      refine Dn.by (U' := T55.setTop (mkF m 238 #[.val (.int p0), .val (.long q1), .second, .val (.int p2), .val (.int p3), .val (.int p4), .val (.ref kd), .val (.ref b2), .val (.ref b8), .val (.ref b35), .val (.ref b39), .val (.int (1 : Int32)), .val (.ref b45), .unset] [])) (fun _ ks => XS.istore X55.here hx rfl (hb hby at_236) rfl (l' := #[.val (.int p0), .val (.long q1), .second, .val (.int p2), .val (.int p3), .val (.int p4), .val (.ref kd), .val (.ref b2), .val (.ref b8), .val (.ref b35), .val (.ref b39), .val (.int (1 : Int32)), .val (.ref b45), .unset]) rfl ks) ?_
      refine Dn.by (U' := T55.setTop (mkF m 240 #[.val (.int p0), .val (.long q1), .second, .val (.int p2), .val (.int p3), .val (.int p4), .val (.ref kd), .val (.ref b2), .val (.ref b8), .val (.ref b35), .val (.ref b39), .val (.int (1 : Int32)), .val (.ref b45), .unset] [(.ref b39)])) (fun _ ks => XS.aload X55.here hx rfl (hb hby at_238) rfl rfl ks) ?_
      obtain ⟨cq56, kq56, qa56, qb56, qc56⟩ := isOf hZ e55 (EE39.keep KK45)
      obtain ⟨_, _, ⟨T56, L56, k56, n56⟩, -, X56, ⟨Lc56, hQ56, l56, y56, z56⟩, st56⟩ := X55.virtualBack hx (y := (⟨"com/example/ferrywire/ferrywire/agent/AgentEvent", "text", "()Ljava/util/Optional;"⟩ : MethodName)) (z := (⟨"com/example/ferrywire/ferrywire/agent/AgentEvent", "text", "()Ljava/util/Optional;"⟩ : MethodName)) hown (mvT hZ (hw _ (List.mem_of_getElem? (i := 108) rfl))) (mvT hZ (hw _ (List.mem_of_getElem? (i := 109) rfl))) (notFace_of_selects (args := #[]) (mvT hZ (hw _ (List.mem_of_getElem? (i := 111) rfl)))) (mvT hZ (hw _ (List.mem_of_getElem? (i := 111) rfl))) (mvT hZ (hw _ (List.mem_of_getElem? (i := 110) rfl))) (by decide) (backOf (W := 0) (rm19 l Z a0 hw [] b39 b35 T45.heap n0 z46 (FF39_4.keep KK45 nin0)) hZ (hw _ (List.mem_of_getElem? (i := 112) rfl)) (hw _ (List.mem_of_getElem? (i := 40) rfl)) (by decide) (by decide)) qa56 qc56 (g := (mkF m 240 #[.val (.int p0), .val (.long q1), .second, .val (.int p2), .val (.int p3), .val (.int p4), .val (.ref kd), .val (.ref b2), .val (.ref b8), .val (.ref b35), .val (.ref b39), .val (.int (1 : Int32)), .val (.ref b45), .unset] [(.ref b39)])) rfl (by rw [hml]; rfl) (Steps.refl _) (argsL := []) (rest := []) (lenOf pd14 rfl) rfl (by show 2 * 0 + _ ≤ _; exact Nat.le_of_eq rfl) (hb hby at_240) (fun _ _ => ⟨rfl, e55, (by decide : 8 + 1 ≤ _), (by decide : 23 + 1 ≤ _)⟩)
      dsimp only [Pt.U, Pt.locs, Pt.cells, Pt.slots] at X56 l56 y56 z56 st56 hQ56
      rw [l56, y56, z56] at X56
      obtain ⟨b56, rfl, N56q, zz56, KK56, EE56, FF56_0⟩ := hQ56
      have N56 := Fr.app N55 N56q
      have g_b56 : n0 ≤ b56 := Nat.le_trans z46 zz56
      have sz_b56 : h0.size ≤ b56 := Nat.le_trans K46.1 zz56
      have ne_eo_b56 : eo ≠ b56 := Nat.ne_of_lt (Nat.lt_of_lt_of_le ((((((((((((E_eo.ext E2).wr W4).wr W6).ext E8).keep KK10).ext E29).wr W31).wr W33).ext E35).keep KK37).keep KK39).keep KK45).lt zz56)
      have ne_b2_b56 : b2 ≠ b56 := Nat.ne_of_lt (Nat.lt_of_lt_of_le (((((((((V6b.ext E8).keep KK10 (ninS ne_b2_b8 nin0)).ext E29).other W31 ne_b2_b29).other W33 ne_b2_b29).ext E35).keep KK37 (ninS ne_b2_b35 nin0)).keep KK39 nin0).keep KK45 nin0).lt zz56)
      have ne_b8_b56 : b8 ≠ b56 := Nat.ne_of_lt (Nat.lt_of_lt_of_le (((((((EE10.ext E29).wr W31).wr W33).ext E35).keep KK37).keep KK39).keep KK45).lt zz56)
      have ne_t10_b56 : t10 ≠ b56 := Nat.ne_of_lt (Nat.lt_of_lt_of_le (((((((VV10.ext E29).other W31 ne_t10_b29).other W33 ne_t10_b29).ext E35).keep KK37 (ninS ne_t10_b35 nin0)).keep KK39 nin0).keep KK45 nin0).lt zz56)
      have ne_b29_b56 : b29 ≠ b56 := Nat.ne_of_lt (Nat.lt_of_lt_of_le ((((V33b.ext E35).keep KK37 (ninS ne_b29_b35 nin0)).keep KK39 nin0).keep KK45 nin0).lt zz56)
      have ne_b35_b56 : b35 ≠ b56 := Nat.ne_of_lt (Nat.lt_of_lt_of_le ((EE37.keep KK39).keep KK45).lt zz56)
      have ne_t37_b56 : t37 ≠ b56 := Nat.ne_of_lt (Nat.lt_of_lt_of_le ((VV37.keep KK39 nin0).keep KK45 nin0).lt zz56)
      have ne_b39_b56 : b39 ≠ b56 := Nat.ne_of_lt (Nat.lt_of_lt_of_le (EE39.keep KK45).lt zz56)
      have ne_b45_b56 : b45 ≠ b56 := Nat.ne_of_lt (Nat.lt_of_lt_of_le EE45.lt zz56)
      have K57 : Keep h0 T56.heap [] := (K46.trans KK56 all0)
      have z57 : n0 ≤ T56.heap.size := (Nat.le_trans z46 KK56.1)
      have O57 : Old Z n0 T56.heap := O46.keep KK56 all0
      refine Dn.by (U' := T56.setTop (mkF m 243 #[.val (.int p0), .val (.long q1), .second, .val (.int p2), .val (.int p3), .val (.int p4), .val (.ref kd), .val (.ref b2), .val (.ref b8), .val (.ref b35), .val (.ref b39), .val (.int (1 : Int32)), .val (.ref b45), .unset] [(.ref b56)])) (fun _ ks => st56.trans ks) ?_
      refine Dn.by (U' := T56.setTop (mkF m 245 #[.val (.int p0), .val (.long q1), .second, .val (.int p2), .val (.int p3), .val (.int p4), .val (.ref kd), .val (.ref b2), .val (.ref b8), .val (.ref b35), .val (.ref b39), .val (.int (1 : Int32)), .val (.ref b45), .val (.ref b56)] [])) (fun _ ks => XS.astore X56.here hx rfl (hb hby at_243) rfl rfl (l' := #[.val (.int p0), .val (.long q1), .second, .val (.int p2), .val (.int p3), .val (.int p4), .val (.ref kd), .val (.ref b2), .val (.ref b8), .val (.ref b35), .val (.ref b39), .val (.int (1 : Int32)), .val (.ref b45), .val (.ref b56)]) rfl ks) ?_
      refine Dn.by (U' := T56.setTop (mkF m 247 #[.val (.int p0), .val (.long q1), .second, .val (.int p2), .val (.int p3), .val (.int p4), .val (.ref kd), .val (.ref b2), .val (.ref b8), .val (.ref b35), .val (.ref b39), .val (.int (1 : Int32)), .val (.ref b45), .val (.ref b56)] [(.ref b35)])) (fun _ ks => XS.aload X56.here hx rfl (hb hby at_245) rfl rfl ks) ?_
      refine Dn.by (U' := T56.setTop (mkF m 273 #[.val (.int p0), .val (.long q1), .second, .val (.int p2), .val (.int p3), .val (.int p4), .val (.ref kd), .val (.ref b2), .val (.ref b8), .val (.ref b35), .val (.ref b39), .val (.int (1 : Int32)), .val (.ref b45), .val (.ref b56)] [])) (fun _ ks => XS.ifnonnullYes X56.here hx rfl (pc0 := 247) (pc' := 273) rfl (hb hby at_247) rfl (by decide) (by decide) ks) ?_
      refine Dn.by (U' := T56.setTop (mkF m 275 #[.val (.int p0), .val (.long q1), .second, .val (.int p2), .val (.int p3), .val (.int p4), .val (.ref kd), .val (.ref b2), .val (.ref b8), .val (.ref b35), .val (.ref b39), .val (.int (1 : Int32)), .val (.ref b45), .val (.ref b56)] [(.int (1 : Int32))])) (fun _ ks => XS.iload X56.here hx rfl (hb hby at_273) rfl ks) ?_
      refine Dn.by (U' := T56.setTop (mkF m 278 #[.val (.int p0), .val (.long q1), .second, .val (.int p2), .val (.int p3), .val (.int p4), .val (.ref kd), .val (.ref b2), .val (.ref b8), .val (.ref b35), .val (.ref b39), .val (.int (1 : Int32)), .val (.ref b45), .val (.ref b56)] [])) (fun _ ks => XS.ifNo X56.here hx rfl (hb hby at_275) rfl (by decide) ks) ?_
      refine Dn.by (U' := T56.setTop (mkF m 280 #[.val (.int p0), .val (.long q1), .second, .val (.int p2), .val (.int p3), .val (.int p4), .val (.ref kd), .val (.ref b2), .val (.ref b8), .val (.ref b35), .val (.ref b39), .val (.int (1 : Int32)), .val (.ref b45), .val (.ref b56)] [(.ref b56)])) (fun _ ks => XS.aload X56.here hx rfl (hb hby at_278) rfl rfl ks) ?_
      obtain ⟨cq58, kq58, qa58, qb58, qc58⟩ := isOf hZ rfl EE56
      obtain ⟨_, _, ⟨T58, L58, k58, n58⟩, -, X58, ⟨Lc58, hQ58, l58, y58, z58⟩, st58⟩ := X56.virtualBack hx (y := (⟨"java/util/Optional", "isPresent", "()Z"⟩ : MethodName)) (z := (⟨"java/util/Optional", "isPresent", "()Z"⟩ : MethodName)) hown (mvT hZ (hw _ (List.mem_of_getElem? (i := 126) rfl))) (mvT hZ (hw _ (List.mem_of_getElem? (i := 127) rfl))) (notFace_of_selects (args := #[]) (mvT hZ (hw _ (List.mem_of_getElem? (i := 129) rfl)))) (mvT hZ (hw _ (List.mem_of_getElem? (i := 129) rfl))) (mvT hZ (hw _ (List.mem_of_getElem? (i := 128) rfl))) (by decide) (backOf (W := 0) (rm22 l Z a0 hw [] b56 b35 T56.heap n0 z57 FF56_0) hZ (hw _ (List.mem_of_getElem? (i := 130) rfl)) (hw _ (List.mem_of_getElem? (i := 115) rfl)) (by decide) (by decide)) qa58 qc58 (g := (mkF m 280 #[.val (.int p0), .val (.long q1), .second, .val (.int p2), .val (.int p3), .val (.int p4), .val (.ref kd), .val (.ref b2), .val (.ref b8), .val (.ref b35), .val (.ref b39), .val (.int (1 : Int32)), .val (.ref b45), .val (.ref b56)] [(.ref b56)])) rfl (by rw [hml]; rfl) (Steps.refl _) (argsL := []) (rest := []) (lenOf pd13 rfl) rfl (by show 2 * 0 + _ ≤ _; exact Nat.le_of_eq rfl) (hb hby at_280) (fun _ _ => ⟨rfl, rfl, (by decide : 9 + 0 ≤ _), (by decide : 24 + 0 ≤ _)⟩)
      dsimp only [Pt.U, Pt.locs, Pt.cells, Pt.slots] at X58 l58 y58 z58 st58 hQ58
      rw [l58, y58, z58] at X58
      obtain ⟨rfl, N58q, e58⟩ := hQ58
      have N58 := Fr.app N56 N58q
      refine Dn.by (U' := T58.setTop (mkF m 283 #[.val (.int p0), .val (.long q1), .second, .val (.int p2), .val (.int p3), .val (.int p4), .val (.ref kd), .val (.ref b2), .val (.ref b8), .val (.ref b35), .val (.ref b39), .val (.int (1 : Int32)), .val (.ref b45), .val (.ref b56)] [(.int (1 : Int32))])) (fun _ ks => st58.trans ks) ?_
      refine Dn.by (U' := T58.setTop (mkF m 286 #[.val (.int p0), .val (.long q1), .second, .val (.int p2), .val (.int p3), .val (.int p4), .val (.ref kd), .val (.ref b2), .val (.ref b8), .val (.ref b35), .val (.ref b39), .val (.int (1 : Int32)), .val (.ref b45), .val (.ref b56)] [])) (fun _ ks => XS.ifNo X58.here hx rfl (hb hby at_283) rfl (by decide) ks) ?_
      refine Dn.by (U' := T58.setTop (mkF m 288 #[.val (.int p0), .val (.long q1), .second, .val (.int p2), .val (.int p3), .val (.int p4), .val (.ref kd), .val (.ref b2), .val (.ref b8), .val (.ref b35), .val (.ref b39), .val (.int (1 : Int32)), .val (.ref b45), .val (.ref b56)] [(.ref b35)])) (fun _ ks => XS.aload X58.here hx rfl (hb hby at_286) rfl rfl ks) ?_
      refine Dn.by (U' := T58.setTop (mkF m 290 #[.val (.int p0), .val (.long q1), .second, .val (.int p2), .val (.int p3), .val (.int p4), .val (.ref kd), .val (.ref b2), .val (.ref b8), .val (.ref b35), .val (.ref b39), .val (.int (1 : Int32)), .val (.ref b45), .val (.ref b56)] [(.ref b56), (.ref b35)])) (fun _ ks => XS.aload X58.here hx rfl (hb hby at_288) rfl rfl ks) ?_
      obtain ⟨cq59, kq59, qa59, qb59, qc59⟩ := isOf hZ e58 EE56
      obtain ⟨_, _, ⟨T59, L59, k59, n59⟩, -, X59, ⟨Lc59, hQ59, l59, y59, z59⟩, st59⟩ := X58.virtualBack hx (y := (⟨"java/util/Optional", "get", "()Ljava/lang/Object;"⟩ : MethodName)) (z := (⟨"java/util/Optional", "get", "()Ljava/lang/Object;"⟩ : MethodName)) hown (mvT hZ (hw _ (List.mem_of_getElem? (i := 131) rfl))) (mvT hZ (hw _ (List.mem_of_getElem? (i := 132) rfl))) (notFace_of_selects (args := #[]) (mvT hZ (hw _ (List.mem_of_getElem? (i := 134) rfl)))) (mvT hZ (hw _ (List.mem_of_getElem? (i := 134) rfl))) (mvT hZ (hw _ (List.mem_of_getElem? (i := 133) rfl))) (by decide) (backOf (W := 1) (rm23 l Z a0 hw [] b56 b35 T56.heap n0 z57 FF56_0) hZ (hw _ (List.mem_of_getElem? (i := 135) rfl)) (hw _ (List.mem_of_getElem? (i := 115) rfl)) (by decide) (by decide)) qa59 qc59 (g := (mkF m 290 #[.val (.int p0), .val (.long q1), .second, .val (.int p2), .val (.int p3), .val (.int p4), .val (.ref kd), .val (.ref b2), .val (.ref b8), .val (.ref b35), .val (.ref b39), .val (.int (1 : Int32)), .val (.ref b45), .val (.ref b56)] [(.ref b56), (.ref b35)])) rfl (by rw [hml]; rfl) (Steps.refl _) (argsL := []) (rest := [(.ref b35)]) (lenOf pd15 rfl) rfl (by show 2 * 0 + _ ≤ _; exact Nat.le_of_eq rfl) (hb hby at_290) (fun _ _ => ⟨rfl, e58, (by decide : 9 + 0 ≤ _), (by decide : 24 + 0 ≤ _)⟩)
      dsimp only [Pt.U, Pt.locs, Pt.cells, Pt.slots] at X59 l59 y59 z59 st59 hQ59
      rw [l59, y59, z59] at X59
      obtain ⟨rfl, N59q, e59⟩ := hQ59
      have N59 := Fr.app N58 N59q
      refine Dn.by (U' := T59.setTop (mkF m 293 #[.val (.int p0), .val (.long q1), .second, .val (.int p2), .val (.int p3), .val (.int p4), .val (.ref kd), .val (.ref b2), .val (.ref b8), .val (.ref b35), .val (.ref b39), .val (.int (1 : Int32)), .val (.ref b45), .val (.ref b56)] [(.ref b35), (.ref b35)])) (fun _ ks => st59.trans ks) ?_
      obtain ⟨cq60, kq60, qa60, qb60, qc60⟩ := isOf hZ e59 (((EE37.keep KK39).keep KK45).keep KK56)
      obtain ⟨_, _, ⟨T60, L60, k60, n60⟩, -, X60, ⟨Lc60, hQ60, l60, y60, z60⟩, st60⟩ := X59.virtualBack hx (y := (⟨"java/lang/String", "equals", "(Ljava/lang/Object;)Z"⟩ : MethodName)) (z := (⟨"java/lang/String", "equals", "(Ljava/lang/Object;)Z"⟩ : MethodName)) hown (mvT hZ (hw _ (List.mem_of_getElem? (i := 68) rfl))) (mvT hZ (hw _ (List.mem_of_getElem? (i := 69) rfl))) (notFace_of_selects (args := #[]) (mvT hZ (hw _ (List.mem_of_getElem? (i := 71) rfl)))) (mvT hZ (hw _ (List.mem_of_getElem? (i := 71) rfl))) (mvT hZ (hw _ (List.mem_of_getElem? (i := 70) rfl))) (by decide) (backOf (W := 0) (rm12 l Z a0 hw [] b35  T56.heap n0 z57 ) hZ (hw _ (List.mem_of_getElem? (i := 72) rfl)) (hw _ (List.mem_of_getElem? (i := 11) rfl)) (by decide) (by decide)) qa60 qc60 (g := (mkF m 293 #[.val (.int p0), .val (.long q1), .second, .val (.int p2), .val (.int p3), .val (.int p4), .val (.ref kd), .val (.ref b2), .val (.ref b8), .val (.ref b35), .val (.ref b39), .val (.int (1 : Int32)), .val (.ref b45), .val (.ref b56)] [(.ref b35), (.ref b35)])) rfl (by rw [hml]; rfl) (Steps.refl _) (argsL := [(.ref b35)]) (rest := []) (lenOf pd11 rfl) rfl (by show 2 * 0 + _ ≤ _; exact Nat.le_of_eq rfl) (hb hby at_293) (fun _ _ => ⟨rfl, e59, (by decide : 9 + 0 ≤ _), (by decide : 24 + 0 ≤ _)⟩)
      dsimp only [Pt.U, Pt.locs, Pt.cells, Pt.slots] at X60 l60 y60 z60 st60 hQ60
      rw [l60, y60, z60] at X60
      obtain ⟨rfl, N60q, e60⟩ := hQ60
      have N60 := Fr.app N59 N60q
      refine Dn.by (U' := T60.setTop (mkF m 296 #[.val (.int p0), .val (.long q1), .second, .val (.int p2), .val (.int p3), .val (.int p4), .val (.ref kd), .val (.ref b2), .val (.ref b8), .val (.ref b35), .val (.ref b39), .val (.int (1 : Int32)), .val (.ref b45), .val (.ref b56)] [(.int (1 : Int32))])) (fun _ ks => st60.trans ks) ?_
      refine Dn.by (U' := T60.setTop (mkF m 299 #[.val (.int p0), .val (.long q1), .second, .val (.int p2), .val (.int p3), .val (.int p4), .val (.ref kd), .val (.ref b2), .val (.ref b8), .val (.ref b35), .val (.ref b39), .val (.int (1 : Int32)), .val (.ref b45), .val (.ref b56)] [])) (fun _ ks => XS.ifNo X60.here hx rfl (hb hby at_296) rfl (by decide) ks) ?_
      refine Dn.by (U' := T60.setTop (mkF m 300 #[.val (.int p0), .val (.long q1), .second, .val (.int p2), .val (.int p3), .val (.int p4), .val (.ref kd), .val (.ref b2), .val (.ref b8), .val (.ref b35), .val (.ref b39), .val (.int (1 : Int32)), .val (.ref b45), .val (.ref b56)] [(.int (1 : Int32))])) (fun _ ks => XS.iconst X60.here hx rfl (hb hby at_299)  ks) ?_
      refine Dn.by (U' := T60.setTop (mkF m 304 #[.val (.int p0), .val (.long q1), .second, .val (.int p2), .val (.int p3), .val (.int p4), .val (.ref kd), .val (.ref b2), .val (.ref b8), .val (.ref b35), .val (.ref b39), .val (.int (1 : Int32)), .val (.ref b45), .val (.ref b56)] [(.int (1 : Int32))])) (fun _ ks => XS.goto X60.here hx rfl (pc0 := 300) (pc' := 304) rfl (hb hby at_300) (by decide) (by decide) ks) ?_
      refine Dn.by (U' := T60.setTop (mkF m 306 #[.val (.int p0), .val (.long q1), .second, .val (.int p2), .val (.int p3), .val (.int p4), .val (.ref kd), .val (.ref b2), .val (.ref b8), .val (.ref b35), .val (.ref b39), .val (.int (1 : Int32)), .val (.ref b45), .val (.ref b56)] [])) (fun _ ks => XS.istore X60.here hx rfl (hb hby at_304) rfl (l' := #[.val (.int p0), .val (.long q1), .second, .val (.int p2), .val (.int p3), .val (.int p4), .val (.ref kd), .val (.ref b2), .val (.ref b8), .val (.ref b35), .val (.ref b39), .val (.int (1 : Int32)), .val (.ref b45), .val (.ref b56)]) rfl ks) ?_
      refine Dn.by (U' := T60.setTop (mkF m 308 #[.val (.int p0), .val (.long q1), .second, .val (.int p2), .val (.int p3), .val (.int p4), .val (.ref kd), .val (.ref b2), .val (.ref b8), .val (.ref b35), .val (.ref b39), .val (.int (1 : Int32)), .val (.ref b45), .val (.ref b56)] [(.int (1 : Int32))])) (fun _ ks => XS.iload X60.here hx rfl (hb hby at_306) rfl ks) ?_
      refine Dn.out X60 (v := (some (.int (1 : Int32)))) (fun h => by rw [Bd.returns] at h; cases h) (BodyLoose.notSynchronized Bd) (fun _ hr => retN X60 hx (t := .boolean) Bd.returns (by simp) (hb hby at_308) hr) (by decide) (by decide) ?_
      rw [e60]
      exact ⟨rfl, N60⟩
set_option maxRecDepth 65536 in
set_option maxHeartbeats 40000000 in
theorem comes_1 {Post : Tables → Env → Array Value → State → Outcome → State → Prop} (hpost : ∀ tb e args s v u, (limb_1_1.after args s (.returned v) u = true ∧ limb_1_2.after args s (.returned v) u = true ∧ True) → FrameEnd s (.returned v) u (Jvm.fieldLocs frame_1_writes args s ++ Jvm.arrayLocs frame_1_arrays args s ++ Jvm.staticLocs frame_1_statics s) 32 128 → Post tb e args s (.returned v) u) :
    ArmFor flags0 classFile x code maxLocals ret World_1 tables_1 room_1 Calls_1 rest_1 Pre_1 Post := by
  intro l hfl _ _ p e ha hc hk s m args below hf hA hF happ hP
  obtain ⟨hcalls, hrest, hpre⟩ := hP
  obtain ⟨-, -, -, hnamed, -, -, -, hat⟩ := (Spec.applies_iff hf).mp happ
  obtain ⟨hg, hn⟩ := and_e (Cond.before_iff.mp (show (Jvm.Cond.and given_1 narrow_1).before args s = true from hpre))
  obtain ⟨gg1, gg2⟩ := and_e hg
  obtain ⟨gg3, gg4⟩ := and_e gg2
  obtain ⟨gg5, gg6⟩ := and_e gg4
  obtain ⟨gg7, gg8⟩ := and_e gg6
  obtain ⟨gg9, gg10⟩ := and_e gg8
  obtain ⟨w0, w1, w2, w3, w4, rfl⟩ : ∃ w0 w1 w2 w3 w4 : Value, args = #[w0, w1, w2, w3, w4] := by
    have hs : args.size = 5 := by simpa [Cond.value, given_1] using gg1
    obtain ⟨L⟩ := args
    match L, hs with
    | [w0, w1, w2, w3, w4], _ => exact ⟨w0, w1, w2, w3, w4, rfl⟩
  have hw := fun d (hd : d ∈ tables_1) => atoms_spec (ws := Jvm.Cond.code x code maxLocals ret :: tables_1) hat d (List.mem_cons_of_mem _ hd)
  have hfit : Fit s := fun {y c} hc i hi => by
    obtain ⟨ha, rfl⟩ := Array.getElem?_eq_some_iff.mp hc
    have q := List.all_eq_true.mp ((Array.all_eq_true_iff_forall_mem.mp hF) _ (Array.getElem_mem ha)) i (List.mem_range.mpr hi)
    simpa [Array.getElem?_eq_getElem hi] using q
  obtain ⟨hsets, hown0⟩ := atoms_of _ (rest_1_c_eq ▸ (show rest_1_c.before _ s = true from hrest))
  have hr0 := Cond.before_iff.mp hown0
  obtain ⟨i0, ei0⟩ := is_v gg3
  obtain rfl : w0 = (.int i0) := Option.some.inj ei0
  obtain ⟨i1, ei1⟩ := isL_v gg5
  obtain rfl : w1 = (.long i1) := Option.some.inj ei1
  obtain ⟨i2, ei2⟩ := is_v gg7
  obtain rfl : w2 = (.int i2) := Option.some.inj ei2
  obtain ⟨i3, ei3⟩ := is_v gg9
  obtain rfl : w3 = (.int i3) := Option.some.inj ei3
  obtain ⟨i4, ei4⟩ := is_v gg10
  obtain rfl : w4 = (.int i4) := Option.some.inj ei4
  obtain ⟨cs, ev_cs⟩ := is_v (Cond.before_iff.mp (hsets _ (List.mem_of_getElem? (i := 1) rfl)))
  have S_cs := Sta.start ev_cs (Or.inl (hsets _ (List.mem_of_getElem? (i := 0) rfl)))
  have hcs : ¬ cs = (0 : Int32) := gotF (Cond.eq_ints ev_cs (Term.int_eval (0))) (not_v (Cond.before_iff.mp (hsets _ (List.mem_of_getElem? (i := 2) rfl))))
  obtain ⟨xCONF, hn⟩ := and_e hn
  obtain ⟨xMSG, hn⟩ := and_e hn
  obtain ⟨xCON, hn⟩ := and_e hn
  obtain ⟨xINFO, hn⟩ := and_e hn
  obtain ⟨xSENT, hn⟩ := and_e hn
  obtain ⟨xRCVD, hn⟩ := and_e hn
  have xERR := hn
  obtain ⟨kCONF, evCONF⟩ := exa_v xCONF
  have S_CONF := Sta.start evCONF (Or.inr ⟨(hw _ (List.mem_of_getElem? (i := 6) rfl)), (hw _ (List.mem_of_getElem? (i := 7) rfl))⟩)
  obtain ⟨kINFO, evINFO⟩ := exa_v xINFO
  have S_INFO := Sta.start evINFO (Or.inr ⟨(hw _ (List.mem_of_getElem? (i := 6) rfl)), (hw _ (List.mem_of_getElem? (i := 142) rfl))⟩)
  obtain ⟨kCON, evCON⟩ := exa_v xCON
  have S_CON := Sta.start evCON (Or.inr ⟨(hw _ (List.mem_of_getElem? (i := 6) rfl)), (hw _ (List.mem_of_getElem? (i := 140) rfl))⟩)
  obtain ⟨kSENT, evSENT⟩ := exa_v xSENT
  have S_SENT := Sta.start evSENT (Or.inr ⟨(hw _ (List.mem_of_getElem? (i := 6) rfl)), (hw _ (List.mem_of_getElem? (i := 144) rfl))⟩)
  obtain ⟨kMSG, evMSG⟩ := exa_v xMSG
  have S_MSG := Sta.start evMSG (Or.inr ⟨(hw _ (List.mem_of_getElem? (i := 6) rfl)), (hw _ (List.mem_of_getElem? (i := 137) rfl))⟩)
  obtain ⟨kRCVD, evRCVD⟩ := exa_v xRCVD
  have S_RCVD := Sta.start evRCVD (Or.inr ⟨(hw _ (List.mem_of_getElem? (i := 6) rfl)), (hw _ (List.mem_of_getElem? (i := 146) rfl))⟩)
  obtain ⟨kERR, evERR⟩ := exa_v xERR
  have S_ERR := Sta.start evERR (Or.inr ⟨(hw _ (List.mem_of_getElem? (i := 6) rfl)), (hw _ (List.mem_of_getElem? (i := 152) rfl))⟩)
  obtain ⟨el, evl⟩ := exa_v (Cond.before_iff.mp (hsets _ (List.mem_of_getElem? (i := 15) rfl)))
  have S_el := Sta.start evl (Or.inl (hsets _ (List.mem_of_getElem? (i := 14) rfl)))
  have E_el := Exa.start evl (Cond.before_iff.mp (hsets _ (List.mem_of_getElem? (i := 15) rfl)))
  have F_ip := Fld.start ((fld_at evl).symm.trans (eqv_i (Term.int_eval (0)) (Cond.before_iff.mp (hsets _ (List.mem_of_getElem? (i := 16) rfl)))))
  have F_vl := Fld.start ((fld_at evl).symm.trans (eqv_l (long_at (0)) (Cond.before_iff.mp (hsets _ (List.mem_of_getElem? (i := 17) rfl)))))
  obtain ⟨eo, evo⟩ := exa_v (Cond.before_iff.mp (hsets _ (List.mem_of_getElem? (i := 11) rfl)))
  have S_eo := Sta.start evo (Or.inl (hsets _ (List.mem_of_getElem? (i := 10) rfl)))
  have E_eo := Exa.start evo (Cond.before_iff.mp (hsets _ (List.mem_of_getElem? (i := 11) rfl)))
  have F_eo := Fld.start ((fld_at evo).symm.trans (null_v (Cond.before_iff.mp (hsets _ (List.mem_of_getElem? (i := 12) rfl)))))
  obtain ⟨n, o, h1, h2, h3, _, L, rfl, ⟨rfl, N⟩, hq⟩ := rm0 l s _ hw tables_1 i0 i1 i2 i3 i4 cs kCONF kINFO kCON kSENT kMSG kRCVD kERR el eo s.heap s.heap.size (Nat.le_refl _) (Old.start s) S_cs hcs S_CONF S_INFO S_CON S_SENT S_MSG S_RCVD S_ERR S_el E_el F_ip F_vl S_eo E_eo F_eo p e ha hc hk s m _ below hf ((Spec.applies_iff_loose hf).mp happ).1 ⟨rfl, State.Warmed39.refl s, rfl⟩ trivial
  refine ⟨n, _, h1, h2, h3, hpost _ _ _ _ _ _ ⟨Cond.after_iff.mpr rfl, Cond.after_iff.mpr (eq_i res_at (Term.int_eval (1)) rfl), trivial⟩ ⟨hq.1, hq.2.1, (hq.2.2.sift fun y hy => Or.inr (N y hy)).mono (by decide) (by decide)⟩⟩
theorem main_1_1 : Claimed_1_1 := comes_1 fun _ _ _ _ _ _ h hF => ⟨h.1, hF⟩
theorem main_1_2 : Claimed_1_2 := comes_1 fun _ _ _ _ _ _ h hF => ⟨h.2.1, hF⟩
end Jvm.Pilot.@@N@@
namespace Jvm.Pilot.@@N@@
open Jvm Jvm.ClassFile Sem Op Lib Jvm.Free Jvm.Stand Jvm.Pilot.@@N@@.Jvm.D
/-! MADE BY PROGRAM (witnessworld.py) out of the Statement's table words and the real class files: 24 classes; the members and pool entries that the words name. The judged class is class 1, her method 2. -/
namespace start1
open Jvm.ClassFile
def u (s : String) : CpInfo := .utf8 (stringToUtf16 s)
/-- a pool by its gaps: so many unusable entries, then the entry; so many at the end -/
def gap : Nat → List CpInfo → List CpInfo
  | 0, r => r
  | n + 1, r => .unusable :: gap n r
def poolList (es : List (Nat × CpInfo)) (last : Nat) : List CpInfo := es.foldr (fun e r => gap e.1 (e.2 :: r)) (gap last [])
def pool (es : List (Nat × CpInfo)) (last : Nat) : Array CpInfo := ⟨poolList es last⟩
def fileOf (pool : Array CpInfo) (this : Nat) (attrs : Array Attribute := #[]) (ms : Array MethodInfo := #[]) (fl : Nat := 33) (sup : Nat := 0) (ifs : Array Nat := #[]) (fds : Array FieldInfo := #[]) : ClassFile where
  minorVersion := 0
  majorVersion := 65
  constantPool := pool
  accessFlags := fl
  thisClass := this
  superClass := sup
  interfaces := ifs
  fields := fds
  methods := ms
  attributes := attrs
def plain (name : String) (sup : Option ClassId) : Class where
  name := name
  kind := .ordinary
  loader := none
  accessFlags := 33
  super := sup
  interfaces := #[]
  cf := none
  fields := #[]
  methods := #[]
  instanceTypes := #[]
  staticTypes := #[]
  resolved := #[]
  callSites := []
  init := .initialized
  statics := none
  mirror := none

def pool0 : Array CpInfo := pool [(5, u "<init>"), (0, u "()V"), (1, .class_ 10), (1, u "java/lang/Object")] 113

def k0c0 : Code := { maxStack := 0, maxLocals := 1, code := object_method_1_code, exceptionTable := #[], attributes := #[] }
def k0m0 : Method := { name := "<init>", desc := "()V", sig := { parameters := [], returnType := none }, accessFlags := 1, code := some k0c0 }
/-- java/lang/Object -/
def k0 : Class := { plain "java/lang/Object" none with
  accessFlags := 33
  interfaces := #[]
  cf := some (fileOf pool0 8 #[] #[{ accessFlags := 1, nameIndex := 5, descriptorIndex := 6, attributes := #[] }] 33 0 #[] #[])
  fields := #[]
  methods := #[k0m0]
  instanceTypes := #[]
  staticTypes := #[]
  resolved := Array.replicate 124 none
  statics := none }

def pool1 : Array CpInfo := pool [(2, .class_ 4), (1, u "java/lang/Object"), (0, u "<init>"), (0, u "()V"), (0, .integer 2147483647), (0, .fieldref 9 10), (0, .class_ 11), (0, .nameAndType 12 13), (0, u "com/example/ferrywire/ferrywire/agent/AgentEvent$Kind"), (0, u "CONF"), (0, u "Lcom/example/ferrywire/ferrywire/agent/AgentEvent$Kind;"), (0, .fieldref 9 15), (0, .nameAndType 16 13), (0, u "INFO"), (0, .fieldref 9 18), (0, .nameAndType 19 13), (0, u "CON"), (0, .fieldref 9 21), (0, .nameAndType 22 13), (0, u "SENT"), (0, .fieldref 9 24), (0, .nameAndType 25 13), (0, u "MSG"), (0, .fieldref 9 27), (0, .nameAndType 28 13), (0, u "RCVD"), (0, .fieldref 9 30), (0, .nameAndType 31 13), (0, u "ERR"), (0, .methodref 33 34), (0, .class_ 35), (0, .nameAndType 36 37), (0, u "com/example/ferrywire/ferrywire/agent/AgentEventOfMessagePinLaw"), (0, u "pick"), (0, u "(I)Lcom/example/ferrywire/ferrywire/agent/AgentEvent$Kind;"), (0, .class_ 39), (0, u "java/lang/String"), (0, .methodref 38 41), (0, .nameAndType 5 42), (0, u "([C)V"), (0, .methodref 44 45), (0, .class_ 46), (0, .nameAndType 47 48), (0, u "com/example/ferrywire/ferrywire/agent/AgentEvent"), (0, u "ofMessage"), (0, u "(Lcom/example/ferrywire/ferrywire/agent/AgentEvent$Kind;Ljava/lang/String;JLjava/lang/String;)Lcom/example/ferrywire/ferrywire/agent/AgentEvent;"), (0, .methodref 44 50), (0, .nameAndType 51 52), (0, u "kind"), (0, u "()Lcom/example/ferrywire/ferrywire/agent/AgentEvent$Kind;"), (0, .methodref 44 54), (0, .nameAndType 55 56), (0, u "connectionId"), (0, u "()Ljava/lang/String;"), (0, .methodref 38 58), (0, .nameAndType 59 60), (0, u "equals"), (0, u "(Ljava/lang/Object;)Z"), (0, .methodref 44 62), (0, .nameAndType 63 64), (0, u "sequence"), (0, u "()J"), (0, .methodref 44 66), (0, .nameAndType 67 68), (0, u "messageId"), (0, u "()Ljava/util/OptionalLong;"), (0, .methodref 70 71), (0, .class_ 72), (0, .nameAndType 73 74), (0, u "java/util/OptionalLong"), (0, u "isPresent"), (0, u "()Z"), (0, .methodref 70 76), (0, .nameAndType 77 64), (0, u "getAsLong"), (0, .methodref 44 79), (0, .nameAndType 80 81), (0, u "text"), (0, u "()Ljava/util/Optional;"), (0, .methodref 83 71), (0, .class_ 84), (0, u "java/util/Optional"), (0, .methodref 83 86), (0, .nameAndType 87 88), (0, u "get"), (0, u "()Ljava/lang/Object;"), (3, u "law"), (0, u "(IJIII)Z")] 6

def k1m0 : Method := { name := "<init>", desc := "()V", sig := { parameters := [], returnType := none }, accessFlags := 1, code := none }
def k1c1 : Code := { maxStack := 2, maxLocals := 2, code := method_2_code, exceptionTable := #[], attributes := #[] }
def k1m1 : Method := { name := "pick", desc := "(I)Lcom/example/ferrywire/ferrywire/agent/AgentEvent$Kind;", sig := { parameters := [.int], returnType := some (.object "com/example/ferrywire/ferrywire/agent/AgentEvent$Kind") }, accessFlags := 10, code := some k1c1 }
def k1c2 : Code := { maxStack := 5, maxLocals := 14, code := code, exceptionTable := #[], attributes := #[] }
def k1m2 : Method := { name := "law", desc := "(IJIII)Z", sig := { parameters := [.int, .long, .int, .int, .int], returnType := some .boolean }, accessFlags := 9, code := some k1c2 }
/-- com/example/ferrywire/ferrywire/agent/AgentEventOfMessagePinLaw -/
def k1 : Class := { plain "com/example/ferrywire/ferrywire/agent/AgentEventOfMessagePinLaw" (some 0) with
  accessFlags := 49
  interfaces := #[]
  cf := some (fileOf pool1 33 #[] #[{ accessFlags := 1, nameIndex := 5, descriptorIndex := 6, attributes := #[] }, { accessFlags := 10, nameIndex := 36, descriptorIndex := 37, attributes := #[] }, { accessFlags := 9, nameIndex := 92, descriptorIndex := 93, attributes := #[] }] 49 2 #[] #[])
  fields := #[]
  methods := #[k1m0, k1m1, k1m2]
  instanceTypes := #[]
  staticTypes := #[]
  resolved := Array.replicate 100 none
  statics := none }

def pool2 : Array CpInfo := pool [(1, .class_ 2), (0, u "java/lang/constant/Constable"), (0, .class_ 4), (0, u "java/lang/Object")] 6

/-- java/lang/constant/Constable -/
def k2 : Class := { plain "java/lang/constant/Constable" (some 0) with
  accessFlags := 1537
  interfaces := #[]
  cf := some (fileOf pool2 1 #[] #[] 1537 3 #[] #[])
  fields := #[]
  methods := #[]
  instanceTypes := #[]
  staticTypes := #[]
  resolved := Array.replicate 11 none
  statics := none }

def pool3 : Array CpInfo := pool [(1, .class_ 2), (0, u "java/lang/Comparable"), (0, .class_ 4), (0, u "java/lang/Object")] 7

/-- java/lang/Comparable -/
def k3 : Class := { plain "java/lang/Comparable" (some 0) with
  accessFlags := 1537
  interfaces := #[]
  cf := some (fileOf pool3 1 #[] #[] 1537 3 #[] #[])
  fields := #[]
  methods := #[]
  instanceTypes := #[]
  staticTypes := #[]
  resolved := Array.replicate 12 none
  statics := none }

def pool4 : Array CpInfo := pool [(1, .class_ 2), (0, u "java/io/Serializable"), (0, .class_ 4), (0, u "java/lang/Object")] 2

/-- java/io/Serializable -/
def k4 : Class := { plain "java/io/Serializable" (some 0) with
  accessFlags := 1537
  interfaces := #[]
  cf := some (fileOf pool4 1 #[] #[] 1537 3 #[] #[])
  fields := #[]
  methods := #[]
  instanceTypes := #[]
  staticTypes := #[]
  resolved := Array.replicate 7 none
  statics := none }

def pool5 : Array CpInfo := pool [(2, .class_ 4), (1, u "java/lang/Enum"), (0, u "name"), (0, u "Ljava/lang/String;"), (2, u "ordinal"), (0, u "I"), (1, .class_ 14), (1, u "java/lang/Object"), (4, u "hash"), (86, .class_ 108), (1, u "java/lang/Enum$EnumDesc"), (2, .class_ 112), (0, u "java/lang/constant/Constable"), (0, .class_ 114), (0, u "java/lang/Comparable"), (0, .class_ 116), (0, u "java/io/Serializable")] 87

/-- java/lang/Enum -/
def k5 : Class := { plain "java/lang/Enum" (some 0) with
  accessFlags := 1057
  interfaces := #[2, 3, 4]
  cf := some (fileOf pool5 2 #[.nestMembers #[106]] #[] 1057 12 #[111, 113, 115] #[{ accessFlags := 18, nameIndex := 5, descriptorIndex := 6, attributes := #[] }, { accessFlags := 18, nameIndex := 9, descriptorIndex := 10, attributes := #[] }, { accessFlags := 2, nameIndex := 19, descriptorIndex := 10, attributes := #[] }])
  fields := #[{ name := "name", type := (.object "java/lang/String"), accessFlags := 18, slot := 0, constantValue := 0 }, { name := "ordinal", type := .int, accessFlags := 18, slot := 1, constantValue := 0 }, { name := "hash", type := .int, accessFlags := 2, slot := 2, constantValue := 0 }]
  methods := #[]
  instanceTypes := #[(.object "java/lang/String"), .int, .int]
  staticTypes := #[]
  resolved := Array.replicate 204 none
  statics := none }

def pool6 : Array CpInfo := pool [(1, .class_ 2), (0, u "com/example/ferrywire/ferrywire/agent/AgentEvent$Kind"), (2, u "CONF"), (0, u "Lcom/example/ferrywire/ferrywire/agent/AgentEvent$Kind;"), (2, u "INFO"), (2, u "CON"), (2, u "SENT"), (2, u "MSG"), (2, u "RCVD"), (2, u "ERR"), (2, u "$VALUES"), (0, u "[Lcom/example/ferrywire/ferrywire/agent/AgentEvent$Kind;"), (6, .class_ 37), (1, u "java/lang/Enum"), (30, .class_ 69), (0, u "com/example/ferrywire/ferrywire/agent/AgentEvent")] 2

/-- com/example/ferrywire/ferrywire/agent/AgentEvent$Kind -/
def k6 : Class := { plain "com/example/ferrywire/ferrywire/agent/AgentEvent$Kind" (some 5) with
  accessFlags := 16433
  interfaces := #[]
  cf := some (fileOf pool6 1 #[.nestHost 68] #[] 16433 35 #[] #[{ accessFlags := 16409, nameIndex := 5, descriptorIndex := 6, attributes := #[] }, { accessFlags := 16409, nameIndex := 9, descriptorIndex := 6, attributes := #[] }, { accessFlags := 16409, nameIndex := 12, descriptorIndex := 6, attributes := #[] }, { accessFlags := 16409, nameIndex := 15, descriptorIndex := 6, attributes := #[] }, { accessFlags := 16409, nameIndex := 18, descriptorIndex := 6, attributes := #[] }, { accessFlags := 16409, nameIndex := 21, descriptorIndex := 6, attributes := #[] }, { accessFlags := 16409, nameIndex := 24, descriptorIndex := 6, attributes := #[] }, { accessFlags := 4122, nameIndex := 27, descriptorIndex := 28, attributes := #[] }])
  fields := #[{ name := "CONF", type := (.object "com/example/ferrywire/ferrywire/agent/AgentEvent$Kind"), accessFlags := 16409, slot := 0, constantValue := 0 }, { name := "INFO", type := (.object "com/example/ferrywire/ferrywire/agent/AgentEvent$Kind"), accessFlags := 16409, slot := 1, constantValue := 0 }, { name := "CON", type := (.object "com/example/ferrywire/ferrywire/agent/AgentEvent$Kind"), accessFlags := 16409, slot := 2, constantValue := 0 }, { name := "SENT", type := (.object "com/example/ferrywire/ferrywire/agent/AgentEvent$Kind"), accessFlags := 16409, slot := 3, constantValue := 0 }, { name := "MSG", type := (.object "com/example/ferrywire/ferrywire/agent/AgentEvent$Kind"), accessFlags := 16409, slot := 4, constantValue := 0 }, { name := "RCVD", type := (.object "com/example/ferrywire/ferrywire/agent/AgentEvent$Kind"), accessFlags := 16409, slot := 5, constantValue := 0 }, { name := "ERR", type := (.object "com/example/ferrywire/ferrywire/agent/AgentEvent$Kind"), accessFlags := 16409, slot := 6, constantValue := 0 }, { name := "$VALUES", type := (.array (.object "com/example/ferrywire/ferrywire/agent/AgentEvent$Kind")), accessFlags := 4122, slot := 7, constantValue := 0 }]
  methods := #[]
  instanceTypes := #[(.object "java/lang/String"), .int, .int]
  staticTypes := #[(.object "com/example/ferrywire/ferrywire/agent/AgentEvent$Kind"), (.object "com/example/ferrywire/ferrywire/agent/AgentEvent$Kind"), (.object "com/example/ferrywire/ferrywire/agent/AgentEvent$Kind"), (.object "com/example/ferrywire/ferrywire/agent/AgentEvent$Kind"), (.object "com/example/ferrywire/ferrywire/agent/AgentEvent$Kind"), (.object "com/example/ferrywire/ferrywire/agent/AgentEvent$Kind"), (.object "com/example/ferrywire/ferrywire/agent/AgentEvent$Kind"), (.array (.object "com/example/ferrywire/ferrywire/agent/AgentEvent$Kind"))]
  resolved := Array.replicate 72 none
  statics := some 0 }

def pool7 : Array CpInfo := pool [(2, .class_ 4), (1, u "java/lang/CharSequence"), (42, .class_ 48), (0, u "java/lang/CharSequence$1CodePointIterator"), (10, .class_ 60), (0, u "java/lang/CharSequence$1CharIterator"), (5, .class_ 67), (0, u "java/lang/Object")] 63

/-- java/lang/CharSequence -/
def k7 : Class := { plain "java/lang/CharSequence" (some 0) with
  accessFlags := 1537
  interfaces := #[]
  cf := some (fileOf pool7 2 #[.nestMembers #[47, 59]] #[] 1537 66 #[] #[])
  fields := #[]
  methods := #[]
  instanceTypes := #[]
  staticTypes := #[]
  resolved := Array.replicate 131 none
  statics := none }

def pool8 : Array CpInfo := pool [(1, .class_ 2), (0, u "java/lang/constant/ConstantDesc"), (0, .class_ 4), (0, u "java/lang/Object")] 32

/-- java/lang/constant/ConstantDesc -/
def k8 : Class := { plain "java/lang/constant/ConstantDesc" (some 0) with
  accessFlags := 1537
  interfaces := #[]
  cf := some (fileOf pool8 1 #[] #[] 1537 3 #[] #[])
  fields := #[]
  methods := #[]
  instanceTypes := #[]
  staticTypes := #[]
  resolved := Array.replicate 37 none
  statics := none }

def pool9 : Array CpInfo := pool [(1, .methodref 2 3), (0, .class_ 4), (0, .nameAndType 5 6), (0, u "java/lang/Object"), (0, u "<init>"), (0, u "()V"), (2, .fieldref 10 11), (0, .class_ 12), (0, .nameAndType 13 14), (0, u "java/lang/String"), (0, u "value"), (0, u "[B"), (0, .fieldref 10 16), (0, .nameAndType 17 18), (0, u "coder"), (0, u "B"), (2, u "hash"), (0, u "I"), (2, u "hashIsZero"), (0, u "Z"), (0, .methodref 10 28), (0, .nameAndType 5 29), (0, u "([CIILjava/lang/Void;)V"), (8, .fieldref 10 39), (0, .nameAndType 40 26), (0, u "COMPACT_STRINGS"), (1, .class_ 44), (1, u "java/lang/StringUTF16"), (0, u "compress"), (1, .methodref 42 48), (0, .nameAndType 49 50), (0, u "coderFromArrayLen"), (0, u "([BI)B"), (126, .methodref 42 178), (0, .nameAndType 45 179), (0, u "([CII)[B"), (363, u "equals"), (29, u "(Ljava/lang/Object;)Z"), (1, .class_ 576), (0, u "java/lang/CharSequence"), (22, u "CASE_INSENSITIVE_ORDER"), (0, u "Ljava/util/Comparator;"), (409, u "([C)V"), (90, u "serialPersistentFields"), (0, u "[Ljava/io/ObjectStreamField;"), (0, .class_ 1104), (0, u "java/lang/String$CaseInsensitiveComparator"), (1, .class_ 1107), (0, u "java/io/Serializable"), (0, .class_ 1109), (0, u "java/lang/Comparable"), (0, .class_ 1111), (0, u "java/lang/constant/Constable"), (0, .class_ 1113), (0, u "java/lang/constant/ConstantDesc"), (2, u "serialVersionUID"), (0, u "J"), (3, u "REPL"), (0, u "C"), (2, u "LATIN1"), (1, u "UTF16")] 323

def k9m0 : Method := { name := "<init>", desc := "()V", sig := { parameters := [], returnType := none }, accessFlags := 1, code := none }
def k9c1 : Code := { maxStack := 5, maxLocals := 2, code := jdk_42_method_3_code, exceptionTable := #[], attributes := #[] }
def k9m1 : Method := { name := "<init>", desc := "([C)V", sig := { parameters := [(.array .char)], returnType := none }, accessFlags := 1, code := some k9c1 }
def k9c2 : Code := { maxStack := 2, maxLocals := 3, code := jdk_42_method_66_code, exceptionTable := #[], attributes := #[] }
def k9m2 : Method := { name := "equals", desc := "(Ljava/lang/Object;)Z", sig := { parameters := [(.object "java/lang/Object")], returnType := some .boolean }, accessFlags := 1, code := some k9c2 }
def k9c3 : Code := { maxStack := 4, maxLocals := 6, code := jdk_42_method_149_code, exceptionTable := #[], attributes := #[] }
def k9m3 : Method := { name := "<init>", desc := "([CIILjava/lang/Void;)V", sig := { parameters := [(.array .char), .int, .int, (.object "java/lang/Void")], returnType := none }, accessFlags := 2, code := some k9c3 }
/-- java/lang/String -/
def k9 : Class := { plain "java/lang/String" (some 0) with
  accessFlags := 49
  interfaces := #[4, 3, 7, 2, 8]
  cf := some (fileOf pool9 10 #[.nestMembers #[1103]] #[{ accessFlags := 1, nameIndex := 5, descriptorIndex := 6, attributes := #[] }, { accessFlags := 1, nameIndex := 5, descriptorIndex := 1010, attributes := #[] }, { accessFlags := 1, nameIndex := 543, descriptorIndex := 573, attributes := #[] }, { accessFlags := 2, nameIndex := 5, descriptorIndex := 29, attributes := #[] }] 49 2 #[1106, 1108, 575, 1110, 1112] #[{ accessFlags := 18, nameIndex := 13, descriptorIndex := 14, attributes := #[] }, { accessFlags := 18, nameIndex := 17, descriptorIndex := 18, attributes := #[] }, { accessFlags := 2, nameIndex := 21, descriptorIndex := 22, attributes := #[] }, { accessFlags := 2, nameIndex := 25, descriptorIndex := 26, attributes := #[] }, { accessFlags := 26, nameIndex := 1116, descriptorIndex := 1117, attributes := #[] }, { accessFlags := 24, nameIndex := 40, descriptorIndex := 26, attributes := #[] }, { accessFlags := 26, nameIndex := 1101, descriptorIndex := 1102, attributes := #[] }, { accessFlags := 26, nameIndex := 1121, descriptorIndex := 1122, attributes := #[] }, { accessFlags := 25, nameIndex := 599, descriptorIndex := 600, attributes := #[] }, { accessFlags := 24, nameIndex := 1125, descriptorIndex := 18, attributes := #[] }, { accessFlags := 24, nameIndex := 1127, descriptorIndex := 18, attributes := #[] }])
  fields := #[{ name := "value", type := (.array .byte), accessFlags := 18, slot := 0, constantValue := 0 }, { name := "coder", type := .byte, accessFlags := 18, slot := 1, constantValue := 0 }, { name := "hash", type := .int, accessFlags := 2, slot := 2, constantValue := 0 }, { name := "hashIsZero", type := .boolean, accessFlags := 2, slot := 3, constantValue := 0 }, { name := "serialVersionUID", type := .long, accessFlags := 26, slot := 0, constantValue := 0 }, { name := "COMPACT_STRINGS", type := .boolean, accessFlags := 24, slot := 1, constantValue := 0 }, { name := "serialPersistentFields", type := (.array (.object "java/io/ObjectStreamField")), accessFlags := 26, slot := 2, constantValue := 0 }, { name := "REPL", type := .char, accessFlags := 26, slot := 3, constantValue := 0 }, { name := "CASE_INSENSITIVE_ORDER", type := (.object "java/util/Comparator"), accessFlags := 25, slot := 4, constantValue := 0 }, { name := "LATIN1", type := .byte, accessFlags := 24, slot := 5, constantValue := 0 }, { name := "UTF16", type := .byte, accessFlags := 24, slot := 6, constantValue := 0 }]
  methods := #[k9m0, k9m1, k9m2, k9m3]
  instanceTypes := #[(.array .byte), .byte, .int, .boolean]
  staticTypes := #[.long, .boolean, (.array (.object "java/io/ObjectStreamField")), .char, (.object "java/util/Comparator"), .byte, .byte]
  resolved := Array.replicate 1451 none
  statics := some 1 }

def pool10 : Array CpInfo := pool [(6, .class_ 8), (1, u "java/lang/Object"), (0, u "<init>"), (0, u "()V"), (1, .class_ 14), (1, u "java/lang/StringUTF16"), (31, u "$assertionsDisabled"), (0, u "Z"), (13, u "HI_BYTE_SHIFT"), (0, u "I"), (2, u "LO_BYTE_SHIFT"), (49, .methodref 12 116), (0, .nameAndType 117 118), (0, u "compress"), (0, u "([CI[BII)I"), (3, u "([CII)[B"), (138, u "coderFromArrayLen"), (0, u "([BI)B"), (106, .class_ 371), (1, u "java/lang/StringUTF16$LinesSpliterator"), (58, u "MAX_LENGTH"), (196, .class_ 628), (0, u "java/lang/StringUTF16$CodePointsSpliterator"), (0, .class_ 630), (0, u "java/lang/StringUTF16$CharsSpliterator")] 4

def k10m0 : Method := { name := "<init>", desc := "()V", sig := { parameters := [], returnType := none }, accessFlags := 0, code := none }
def k10c1 : Code := { maxStack := 2, maxLocals := 2, code := jdk_52_method_15_code, exceptionTable := #[], attributes := #[] }
def k10m1 : Method := { name := "coderFromArrayLen", desc := "([BI)B", sig := { parameters := [(.array .byte), .int], returnType := some .byte }, accessFlags := 8, code := some k10c1 }
def k10c2 : Code := { maxStack := 5, maxLocals := 6, code := jdk_52_method_16_code, exceptionTable := #[], attributes := #[] }
def k10m2 : Method := { name := "compress", desc := "([CII)[B", sig := { parameters := [(.array .char), .int, .int], returnType := some (.array .byte) }, accessFlags := 9, code := some k10c2 }
def k10c3 : Code := { maxStack := 3, maxLocals := 7, code := jdk_52_method_21_code, exceptionTable := #[], attributes := #[] }
def k10m3 : Method := { name := "compress", desc := "([CI[BII)I", sig := { parameters := [(.array .char), .int, (.array .byte), .int, .int], returnType := some .int }, accessFlags := 9, code := some k10c3 }
/-- java/lang/StringUTF16 -/
def k10 : Class := { plain "java/lang/StringUTF16" (some 0) with
  accessFlags := 48
  interfaces := #[]
  cf := some (fileOf pool10 12 #[.nestMembers #[627, 629, 369]] #[{ accessFlags := 0, nameIndex := 9, descriptorIndex := 10, attributes := #[] }, { accessFlags := 8, nameIndex := 261, descriptorIndex := 262, attributes := #[] }, { accessFlags := 9, nameIndex := 117, descriptorIndex := 122, attributes := #[] }, { accessFlags := 9, nameIndex := 117, descriptorIndex := 118, attributes := #[] }] 48 6 #[] #[{ accessFlags := 26, nameIndex := 61, descriptorIndex := 62, attributes := #[] }, { accessFlags := 26, nameIndex := 65, descriptorIndex := 62, attributes := #[] }, { accessFlags := 24, nameIndex := 430, descriptorIndex := 62, attributes := #[] }, { accessFlags := 4120, nameIndex := 46, descriptorIndex := 47, attributes := #[] }])
  fields := #[{ name := "HI_BYTE_SHIFT", type := .int, accessFlags := 26, slot := 0, constantValue := 0 }, { name := "LO_BYTE_SHIFT", type := .int, accessFlags := 26, slot := 1, constantValue := 0 }, { name := "MAX_LENGTH", type := .int, accessFlags := 24, slot := 2, constantValue := 0 }, { name := "$assertionsDisabled", type := .boolean, accessFlags := 4120, slot := 3, constantValue := 0 }]
  methods := #[k10m0, k10m1, k10m2, k10m3]
  instanceTypes := #[]
  staticTypes := #[.int, .int, .int, .boolean]
  resolved := Array.replicate 635 none
  statics := none }

def pool11 : Array CpInfo := pool [(1, .methodref 2 3), (0, .class_ 4), (0, .nameAndType 5 6), (0, u "java/lang/Object"), (0, u "<init>"), (0, u "()V"), (0, .fieldref 8 9), (0, .class_ 10), (0, .nameAndType 11 12), (0, u "com/example/ferrywire/ferrywire/agent/AgentEvent"), (0, u "sequence"), (0, u "J"), (0, .fieldref 8 14), (0, .nameAndType 15 16), (0, u "kind"), (0, u "Lcom/example/ferrywire/ferrywire/agent/AgentEvent$Kind;"), (0, .fieldref 8 18), (0, .nameAndType 19 20), (0, u "connectionId"), (0, u "Ljava/lang/String;"), (0, .fieldref 8 22), (0, .nameAndType 23 12), (0, u "messageId"), (0, .fieldref 8 25), (0, .nameAndType 26 20), (0, u "text"), (0, .methodref 8 28), (0, .nameAndType 5 29), (0, u "(JLcom/example/ferrywire/ferrywire/agent/AgentEvent$Kind;Ljava/lang/String;JLjava/lang/String;)V"), (0, .methodref 31 32), (0, .class_ 33), (0, .nameAndType 34 35), (0, u "java/util/OptionalLong"), (0, u "empty"), (0, u "()Ljava/util/OptionalLong;"), (0, .methodref 31 37), (0, .nameAndType 38 39), (0, u "of"), (0, u "(J)Ljava/util/OptionalLong;"), (0, .methodref 41 42), (0, .class_ 43), (0, .nameAndType 44 45), (0, u "java/util/Optional"), (0, u "ofNullable"), (0, u "(Ljava/lang/Object;)Ljava/util/Optional;"), (13, u "INTEGRITY"), (6, u "ofMessage"), (0, u "(Lcom/example/ferrywire/ferrywire/agent/AgentEvent$Kind;Ljava/lang/String;JLjava/lang/String;)Lcom/example/ferrywire/ferrywire/agent/AgentEvent;"), (0, u "()Lcom/example/ferrywire/ferrywire/agent/AgentEvent$Kind;"), (0, u "()Ljava/lang/String;"), (1, u "()Ljava/util/Optional;"), (2, u "()J"), (4, .class_ 80), (0, u "com/example/ferrywire/ferrywire/agent/AgentEvent$Kind")] 16

def k11c0 : Code := { maxStack := 3, maxLocals := 8, code := prog_1_method_1_code, exceptionTable := #[], attributes := #[] }
def k11m0 : Method := { name := "<init>", desc := "(JLcom/example/ferrywire/ferrywire/agent/AgentEvent$Kind;Ljava/lang/String;JLjava/lang/String;)V", sig := { parameters := [.long, (.object "com/example/ferrywire/ferrywire/agent/AgentEvent$Kind"), (.object "java/lang/String"), .long, (.object "java/lang/String")], returnType := none }, accessFlags := 0, code := some k11c0 }
def k11c1 : Code := { maxStack := 9, maxLocals := 5, code := prog_1_method_3_code, exceptionTable := #[], attributes := #[] }
def k11m1 : Method := { name := "ofMessage", desc := "(Lcom/example/ferrywire/ferrywire/agent/AgentEvent$Kind;Ljava/lang/String;JLjava/lang/String;)Lcom/example/ferrywire/ferrywire/agent/AgentEvent;", sig := { parameters := [(.object "com/example/ferrywire/ferrywire/agent/AgentEvent$Kind"), (.object "java/lang/String"), .long, (.object "java/lang/String")], returnType := some (.object "com/example/ferrywire/ferrywire/agent/AgentEvent") }, accessFlags := 8, code := some k11c1 }
def k11c2 : Code := { maxStack := 1, maxLocals := 1, code := prog_1_method_4_code, exceptionTable := #[], attributes := #[] }
def k11m2 : Method := { name := "kind", desc := "()Lcom/example/ferrywire/ferrywire/agent/AgentEvent$Kind;", sig := { parameters := [], returnType := some (.object "com/example/ferrywire/ferrywire/agent/AgentEvent$Kind") }, accessFlags := 1, code := some k11c2 }
def k11c3 : Code := { maxStack := 1, maxLocals := 1, code := prog_1_method_5_code, exceptionTable := #[], attributes := #[] }
def k11m3 : Method := { name := "connectionId", desc := "()Ljava/lang/String;", sig := { parameters := [], returnType := some (.object "java/lang/String") }, accessFlags := 1, code := some k11c3 }
def k11c4 : Code := { maxStack := 4, maxLocals := 1, code := prog_1_method_6_code, exceptionTable := #[], attributes := #[] }
def k11m4 : Method := { name := "messageId", desc := "()Ljava/util/OptionalLong;", sig := { parameters := [], returnType := some (.object "java/util/OptionalLong") }, accessFlags := 1, code := some k11c4 }
def k11c5 : Code := { maxStack := 1, maxLocals := 1, code := prog_1_method_7_code, exceptionTable := #[], attributes := #[] }
def k11m5 : Method := { name := "text", desc := "()Ljava/util/Optional;", sig := { parameters := [], returnType := some (.object "java/util/Optional") }, accessFlags := 1, code := some k11c5 }
def k11c6 : Code := { maxStack := 2, maxLocals := 1, code := prog_1_method_8_code, exceptionTable := #[], attributes := #[] }
def k11m6 : Method := { name := "sequence", desc := "()J", sig := { parameters := [], returnType := some .long }, accessFlags := 0, code := some k11c6 }
/-- com/example/ferrywire/ferrywire/agent/AgentEvent -/
def k11 : Class := { plain "com/example/ferrywire/ferrywire/agent/AgentEvent" (some 0) with
  accessFlags := 49
  interfaces := #[]
  cf := some (fileOf pool11 8 #[.nestMembers #[79]] #[{ accessFlags := 0, nameIndex := 5, descriptorIndex := 29, attributes := #[] }, { accessFlags := 8, nameIndex := 66, descriptorIndex := 67, attributes := #[] }, { accessFlags := 1, nameIndex := 15, descriptorIndex := 68, attributes := #[] }, { accessFlags := 1, nameIndex := 19, descriptorIndex := 69, attributes := #[] }, { accessFlags := 1, nameIndex := 23, descriptorIndex := 35, attributes := #[] }, { accessFlags := 1, nameIndex := 26, descriptorIndex := 71, attributes := #[] }, { accessFlags := 0, nameIndex := 11, descriptorIndex := 74, attributes := #[] }] 49 2 #[] #[{ accessFlags := 25, nameIndex := 59, descriptorIndex := 20, attributes := #[] }, { accessFlags := 18, nameIndex := 11, descriptorIndex := 12, attributes := #[] }, { accessFlags := 18, nameIndex := 15, descriptorIndex := 16, attributes := #[] }, { accessFlags := 18, nameIndex := 19, descriptorIndex := 20, attributes := #[] }, { accessFlags := 18, nameIndex := 23, descriptorIndex := 12, attributes := #[] }, { accessFlags := 18, nameIndex := 26, descriptorIndex := 20, attributes := #[] }])
  fields := #[{ name := "INTEGRITY", type := (.object "java/lang/String"), accessFlags := 25, slot := 0, constantValue := 0 }, { name := "sequence", type := .long, accessFlags := 18, slot := 0, constantValue := 0 }, { name := "kind", type := (.object "com/example/ferrywire/ferrywire/agent/AgentEvent$Kind"), accessFlags := 18, slot := 1, constantValue := 0 }, { name := "connectionId", type := (.object "java/lang/String"), accessFlags := 18, slot := 2, constantValue := 0 }, { name := "messageId", type := .long, accessFlags := 18, slot := 3, constantValue := 0 }, { name := "text", type := (.object "java/lang/String"), accessFlags := 18, slot := 4, constantValue := 0 }]
  methods := #[k11m0, k11m1, k11m2, k11m3, k11m4, k11m5, k11m6]
  instanceTypes := #[.long, (.object "com/example/ferrywire/ferrywire/agent/AgentEvent$Kind"), (.object "java/lang/String"), .long, (.object "java/lang/String")]
  staticTypes := #[(.object "java/lang/String")]
  resolved := Array.replicate 97 none
  statics := none }

def pool12 : Array CpInfo := pool [(1, .methodref 2 3), (0, .class_ 4), (0, .nameAndType 5 6), (0, u "java/lang/Object"), (0, u "<init>"), (0, u "()V"), (0, .fieldref 8 9), (0, .class_ 10), (0, .nameAndType 11 12), (0, u "java/util/OptionalLong"), (0, u "isPresent"), (0, u "Z"), (0, .fieldref 8 14), (0, .nameAndType 15 16), (0, u "value"), (0, u "J"), (0, .fieldref 8 18), (0, .nameAndType 19 20), (0, u "EMPTY"), (0, u "Ljava/util/OptionalLong;"), (0, .methodref 8 22), (0, .nameAndType 5 23), (0, u "(J)V"), (21, u "of"), (3, u "empty"), (5, u "getAsLong"), (0, u "()J"), (39, u "()Ljava/util/OptionalLong;"), (0, u "(J)Ljava/util/OptionalLong;"), (1, u "()Z")] 38

def k12m0 : Method := { name := "<init>", desc := "()V", sig := { parameters := [], returnType := none }, accessFlags := 2, code := none }
def k12c1 : Code := { maxStack := 1, maxLocals := 0, code := jdk_2650_method_2_code, exceptionTable := #[], attributes := #[] }
def k12m1 : Method := { name := "empty", desc := "()Ljava/util/OptionalLong;", sig := { parameters := [], returnType := some (.object "java/util/OptionalLong") }, accessFlags := 9, code := some k12c1 }
def k12c2 : Code := { maxStack := 3, maxLocals := 3, code := jdk_2650_method_3_code, exceptionTable := #[], attributes := #[] }
def k12m2 : Method := { name := "<init>", desc := "(J)V", sig := { parameters := [.long], returnType := none }, accessFlags := 2, code := some k12c2 }
def k12c3 : Code := { maxStack := 4, maxLocals := 2, code := jdk_2650_method_4_code, exceptionTable := #[], attributes := #[] }
def k12m3 : Method := { name := "of", desc := "(J)Ljava/util/OptionalLong;", sig := { parameters := [.long], returnType := some (.object "java/util/OptionalLong") }, accessFlags := 9, code := some k12c3 }
def k12c4 : Code := { maxStack := 3, maxLocals := 1, code := jdk_2650_method_5_code, exceptionTable := #[], attributes := #[] }
def k12m4 : Method := { name := "getAsLong", desc := "()J", sig := { parameters := [], returnType := some .long }, accessFlags := 1, code := some k12c4 }
def k12c5 : Code := { maxStack := 1, maxLocals := 1, code := jdk_2650_method_6_code, exceptionTable := #[], attributes := #[] }
def k12m5 : Method := { name := "isPresent", desc := "()Z", sig := { parameters := [], returnType := some .boolean }, accessFlags := 1, code := some k12c5 }
/-- java/util/OptionalLong -/
def k12 : Class := { plain "java/util/OptionalLong" (some 0) with
  accessFlags := 49
  interfaces := #[]
  cf := some (fileOf pool12 8 #[] #[{ accessFlags := 2, nameIndex := 5, descriptorIndex := 6, attributes := #[] }, { accessFlags := 9, nameIndex := 49, descriptorIndex := 96, attributes := #[] }, { accessFlags := 2, nameIndex := 5, descriptorIndex := 23, attributes := #[] }, { accessFlags := 9, nameIndex := 45, descriptorIndex := 97, attributes := #[] }, { accessFlags := 1, nameIndex := 55, descriptorIndex := 56, attributes := #[] }, { accessFlags := 1, nameIndex := 11, descriptorIndex := 99, attributes := #[] }] 49 2 #[] #[{ accessFlags := 26, nameIndex := 19, descriptorIndex := 20, attributes := #[] }, { accessFlags := 18, nameIndex := 11, descriptorIndex := 12, attributes := #[] }, { accessFlags := 18, nameIndex := 15, descriptorIndex := 16, attributes := #[] }])
  fields := #[{ name := "EMPTY", type := (.object "java/util/OptionalLong"), accessFlags := 26, slot := 0, constantValue := 0 }, { name := "isPresent", type := .boolean, accessFlags := 18, slot := 0, constantValue := 0 }, { name := "value", type := .long, accessFlags := 18, slot := 1, constantValue := 0 }]
  methods := #[k12m0, k12m1, k12m2, k12m3, k12m4, k12m5]
  instanceTypes := #[.boolean, .long]
  staticTypes := #[(.object "java/util/OptionalLong")]
  resolved := Array.replicate 138 none
  statics := some 2 }

def pool13 : Array CpInfo := pool [(1, .fieldref 2 3), (0, .class_ 4), (0, .nameAndType 5 6), (0, u "java/util/Optional"), (0, u "EMPTY"), (0, u "Ljava/util/Optional;"), (0, .methodref 8 9), (0, .class_ 10), (0, .nameAndType 11 12), (0, u "java/lang/Object"), (0, u "<init>"), (0, u "()V"), (0, .fieldref 2 14), (0, .nameAndType 15 16), (0, u "value"), (0, u "Ljava/lang/Object;"), (6, .methodref 2 24), (0, .nameAndType 11 25), (0, u "(Ljava/lang/Object;)V"), (20, u "()Z"), (17, u "ofNullable"), (0, u "(Ljava/lang/Object;)Ljava/util/Optional;"), (2, u "isPresent"), (4, u "get"), (0, u "()Ljava/lang/Object;")] 112

def k13c0 : Code := { maxStack := 2, maxLocals := 2, code := jdk_32_method_2_code, exceptionTable := #[], attributes := #[] }
def k13m0 : Method := { name := "<init>", desc := "(Ljava/lang/Object;)V", sig := { parameters := [(.object "java/lang/Object")], returnType := none }, accessFlags := 2, code := some k13c0 }
def k13c1 : Code := { maxStack := 3, maxLocals := 1, code := jdk_32_method_4_code, exceptionTable := #[], attributes := #[] }
def k13m1 : Method := { name := "ofNullable", desc := "(Ljava/lang/Object;)Ljava/util/Optional;", sig := { parameters := [(.object "java/lang/Object")], returnType := some (.object "java/util/Optional") }, accessFlags := 9, code := some k13c1 }
def k13c2 : Code := { maxStack := 3, maxLocals := 1, code := jdk_32_method_5_code, exceptionTable := #[], attributes := #[] }
def k13m2 : Method := { name := "get", desc := "()Ljava/lang/Object;", sig := { parameters := [], returnType := some (.object "java/lang/Object") }, accessFlags := 1, code := some k13c2 }
def k13c3 : Code := { maxStack := 1, maxLocals := 1, code := jdk_32_method_6_code, exceptionTable := #[], attributes := #[] }
def k13m3 : Method := { name := "isPresent", desc := "()Z", sig := { parameters := [], returnType := some .boolean }, accessFlags := 1, code := some k13c3 }
/-- java/util/Optional -/
def k13 : Class := { plain "java/util/Optional" (some 0) with
  accessFlags := 49
  interfaces := #[]
  cf := some (fileOf pool13 2 #[] #[{ accessFlags := 2, nameIndex := 11, descriptorIndex := 25, attributes := #[] }, { accessFlags := 9, nameIndex := 64, descriptorIndex := 65, attributes := #[] }, { accessFlags := 1, nameIndex := 73, descriptorIndex := 74, attributes := #[] }, { accessFlags := 1, nameIndex := 68, descriptorIndex := 46, attributes := #[] }] 49 8 #[] #[{ accessFlags := 26, nameIndex := 5, descriptorIndex := 6, attributes := #[] }, { accessFlags := 18, nameIndex := 15, descriptorIndex := 16, attributes := #[] }])
  fields := #[{ name := "EMPTY", type := (.object "java/util/Optional"), accessFlags := 26, slot := 0, constantValue := 0 }, { name := "value", type := (.object "java/lang/Object"), accessFlags := 18, slot := 0, constantValue := 0 }]
  methods := #[k13m0, k13m1, k13m2, k13m3]
  instanceTypes := #[(.object "java/lang/Object")]
  staticTypes := #[(.object "java/util/Optional")]
  resolved := Array.replicate 187 none
  statics := some 3 }

def pool14 : Array CpInfo := pool [(4, .class_ 6), (1, u "java/lang/Object"), (0, u "<init>"), (0, u "()V"), (5, .class_ 16), (1, u "java/lang/StringLatin1"), (104, u "$assertionsDisabled"), (0, u "Z"), (98, .class_ 223), (1, u "java/lang/StringLatin1$LinesSpliterator"), (166, .class_ 391), (0, u "java/lang/StringLatin1$CharsSpliterator")] 3

def k14m0 : Method := { name := "<init>", desc := "()V", sig := { parameters := [], returnType := none }, accessFlags := 0, code := none }
/-- java/lang/StringLatin1 -/
def k14 : Class := { plain "java/lang/StringLatin1" (some 0) with
  accessFlags := 48
  interfaces := #[]
  cf := some (fileOf pool14 14 #[.nestMembers #[390, 221]] #[{ accessFlags := 0, nameIndex := 7, descriptorIndex := 8, attributes := #[] }] 48 4 #[] #[{ accessFlags := 4120, nameIndex := 121, descriptorIndex := 122, attributes := #[] }])
  fields := #[{ name := "$assertionsDisabled", type := .boolean, accessFlags := 4120, slot := 0, constantValue := 0 }]
  methods := #[k14m0]
  instanceTypes := #[]
  staticTypes := #[.boolean]
  resolved := Array.replicate 395 none
  statics := none }

def pool15 : Array CpInfo := pool [(2, .class_ 4), (1, u "java/lang/Object"), (0, u "<init>"), (0, u "()V"), (17, .class_ 26), (1, u "jdk/internal/util/Preconditions"), (28, .class_ 56), (0, u "jdk/internal/util/Preconditions$4"), (57, .class_ 115), (0, u "jdk/internal/util/Preconditions$1"), (7, u "SIOOBE_FORMATTER"), (0, u "Ljava/util/function/BiFunction;"), (0, .class_ 126), (0, u "jdk/internal/util/Preconditions$2"), (3, u "AIOOBE_FORMATTER"), (0, .class_ 132), (0, u "jdk/internal/util/Preconditions$3"), (3, u "IOOBE_FORMATTER")] 57

def k15m0 : Method := { name := "<init>", desc := "()V", sig := { parameters := [], returnType := none }, accessFlags := 1, code := none }
/-- jdk/internal/util/Preconditions -/
def k15 : Class := { plain "jdk/internal/util/Preconditions" (some 0) with
  accessFlags := 33
  interfaces := #[]
  cf := some (fileOf pool15 24 #[.nestMembers #[55, 131, 125, 114]] #[{ accessFlags := 1, nameIndex := 5, descriptorIndex := 6, attributes := #[] }] 33 2 #[] #[{ accessFlags := 25, nameIndex := 123, descriptorIndex := 124, attributes := #[] }, { accessFlags := 25, nameIndex := 130, descriptorIndex := 124, attributes := #[] }, { accessFlags := 25, nameIndex := 136, descriptorIndex := 124, attributes := #[] }])
  fields := #[{ name := "SIOOBE_FORMATTER", type := (.object "java/util/function/BiFunction"), accessFlags := 25, slot := 0, constantValue := 0 }, { name := "AIOOBE_FORMATTER", type := (.object "java/util/function/BiFunction"), accessFlags := 25, slot := 1, constantValue := 0 }, { name := "IOOBE_FORMATTER", type := (.object "java/util/function/BiFunction"), accessFlags := 25, slot := 2, constantValue := 0 }]
  methods := #[k15m0]
  instanceTypes := #[]
  staticTypes := #[(.object "java/util/function/BiFunction"), (.object "java/util/function/BiFunction"), (.object "java/util/function/BiFunction")]
  resolved := Array.replicate 194 none
  statics := some 4 }

def pool16 : Array CpInfo := pool [(9, u "<init>"), (6, .class_ 18), (1, u "java/lang/Object"), (0, u "()V"), (1, .class_ 23), (1, u "jdk/internal/util/ArraysSupport"), (0, u "LOG2_ARRAY_LONG_INDEX_SCALE"), (0, u "I"), (2, u "U"), (0, u "Ljdk/internal/misc/Unsafe;"), (8, u "BIG_ENDIAN"), (0, u "Z"), (8, u "LOG2_BYTE_BIT_SIZE"), (4, u "LOG2_ARRAY_INT_INDEX_SCALE"), (54, u "JLA"), (0, u "Ljdk/internal/access/JavaLangAccess;"), (11, u "LOG2_ARRAY_BOOLEAN_INDEX_SCALE"), (9, u "LOG2_ARRAY_BYTE_INDEX_SCALE"), (5, u "LOG2_ARRAY_CHAR_INDEX_SCALE"), (5, u "LOG2_ARRAY_SHORT_INDEX_SCALE"), (18, u "LOG2_ARRAY_FLOAT_INDEX_SCALE"), (24, u "LOG2_ARRAY_DOUBLE_INDEX_SCALE"), (89, u "T_BOOLEAN"), (2, u "T_CHAR"), (1, u "T_FLOAT"), (1, u "T_DOUBLE"), (1, u "T_BYTE"), (1, u "T_SHORT"), (1, u "T_INT"), (1, u "T_LONG"), (1, u "SOFT_MAX_ARRAY_LENGTH")] 83

def k16m0 : Method := { name := "<init>", desc := "()V", sig := { parameters := [], returnType := none }, accessFlags := 2, code := none }
/-- jdk/internal/util/ArraysSupport -/
def k16 : Class := { plain "jdk/internal/util/ArraysSupport" (some 0) with
  accessFlags := 33
  interfaces := #[]
  cf := some (fileOf pool16 21 #[] #[{ accessFlags := 2, nameIndex := 9, descriptorIndex := 19, attributes := #[] }] 33 16 #[] #[{ accessFlags := 24, nameIndex := 28, descriptorIndex := 29, attributes := #[] }, { accessFlags := 26, nameIndex := 38, descriptorIndex := 39, attributes := #[] }, { accessFlags := 25, nameIndex := 121, descriptorIndex := 25, attributes := #[] }, { accessFlags := 25, nameIndex := 131, descriptorIndex := 25, attributes := #[] }, { accessFlags := 25, nameIndex := 137, descriptorIndex := 25, attributes := #[] }, { accessFlags := 25, nameIndex := 143, descriptorIndex := 25, attributes := #[] }, { accessFlags := 25, nameIndex := 53, descriptorIndex := 25, attributes := #[] }, { accessFlags := 25, nameIndex := 24, descriptorIndex := 25, attributes := #[] }, { accessFlags := 25, nameIndex := 162, descriptorIndex := 25, attributes := #[] }, { accessFlags := 25, nameIndex := 187, descriptorIndex := 25, attributes := #[] }, { accessFlags := 26, nameIndex := 48, descriptorIndex := 25, attributes := #[] }, { accessFlags := 25, nameIndex := 277, descriptorIndex := 25, attributes := #[] }, { accessFlags := 25, nameIndex := 280, descriptorIndex := 25, attributes := #[] }, { accessFlags := 25, nameIndex := 282, descriptorIndex := 25, attributes := #[] }, { accessFlags := 25, nameIndex := 284, descriptorIndex := 25, attributes := #[] }, { accessFlags := 25, nameIndex := 286, descriptorIndex := 25, attributes := #[] }, { accessFlags := 25, nameIndex := 288, descriptorIndex := 25, attributes := #[] }, { accessFlags := 25, nameIndex := 290, descriptorIndex := 25, attributes := #[] }, { accessFlags := 25, nameIndex := 292, descriptorIndex := 25, attributes := #[] }, { accessFlags := 26, nameIndex := 108, descriptorIndex := 109, attributes := #[] }, { accessFlags := 25, nameIndex := 294, descriptorIndex := 25, attributes := #[] }])
  fields := #[{ name := "U", type := (.object "jdk/internal/misc/Unsafe"), accessFlags := 24, slot := 0, constantValue := 0 }, { name := "BIG_ENDIAN", type := .boolean, accessFlags := 26, slot := 1, constantValue := 0 }, { name := "LOG2_ARRAY_BOOLEAN_INDEX_SCALE", type := .int, accessFlags := 25, slot := 2, constantValue := 0 }, { name := "LOG2_ARRAY_BYTE_INDEX_SCALE", type := .int, accessFlags := 25, slot := 3, constantValue := 0 }, { name := "LOG2_ARRAY_CHAR_INDEX_SCALE", type := .int, accessFlags := 25, slot := 4, constantValue := 0 }, { name := "LOG2_ARRAY_SHORT_INDEX_SCALE", type := .int, accessFlags := 25, slot := 5, constantValue := 0 }, { name := "LOG2_ARRAY_INT_INDEX_SCALE", type := .int, accessFlags := 25, slot := 6, constantValue := 0 }, { name := "LOG2_ARRAY_LONG_INDEX_SCALE", type := .int, accessFlags := 25, slot := 7, constantValue := 0 }, { name := "LOG2_ARRAY_FLOAT_INDEX_SCALE", type := .int, accessFlags := 25, slot := 8, constantValue := 0 }, { name := "LOG2_ARRAY_DOUBLE_INDEX_SCALE", type := .int, accessFlags := 25, slot := 9, constantValue := 0 }, { name := "LOG2_BYTE_BIT_SIZE", type := .int, accessFlags := 26, slot := 10, constantValue := 0 }, { name := "T_BOOLEAN", type := .int, accessFlags := 25, slot := 11, constantValue := 0 }, { name := "T_CHAR", type := .int, accessFlags := 25, slot := 12, constantValue := 0 }, { name := "T_FLOAT", type := .int, accessFlags := 25, slot := 13, constantValue := 0 }, { name := "T_DOUBLE", type := .int, accessFlags := 25, slot := 14, constantValue := 0 }, { name := "T_BYTE", type := .int, accessFlags := 25, slot := 15, constantValue := 0 }, { name := "T_SHORT", type := .int, accessFlags := 25, slot := 16, constantValue := 0 }, { name := "T_INT", type := .int, accessFlags := 25, slot := 17, constantValue := 0 }, { name := "T_LONG", type := .int, accessFlags := 25, slot := 18, constantValue := 0 }, { name := "JLA", type := (.object "jdk/internal/access/JavaLangAccess"), accessFlags := 26, slot := 19, constantValue := 0 }, { name := "SOFT_MAX_ARRAY_LENGTH", type := .int, accessFlags := 25, slot := 20, constantValue := 0 }]
  methods := #[k16m0]
  instanceTypes := #[]
  staticTypes := #[(.object "jdk/internal/misc/Unsafe"), .boolean, .int, .int, .int, .int, .int, .int, .int, .int, .int, .int, .int, .int, .int, .int, .int, .int, .int, (.object "jdk/internal/access/JavaLangAccess"), .int]
  resolved := Array.replicate 378 none
  statics := none }

def pool17 : Array CpInfo := pool [(1, u "java/lang/Cloneable"), (0, .class_ 1), (0, u "java/lang/Object"), (0, .class_ 3)] 3

/-- java/lang/Cloneable -/
def k17 : Class := { plain "java/lang/Cloneable" (some 0) with
  accessFlags := 1537
  interfaces := #[]
  cf := some (fileOf pool17 2 #[] #[] 1537 4 #[] #[])
  fields := #[]
  methods := #[]
  instanceTypes := #[]
  staticTypes := #[]
  resolved := Array.replicate 8 none
  statics := none }

/-- the primitive byte -/
def k18 : Class := { plain "byte" none with kind := .primitive 'B', accessFlags := 0x411 }
/-- [B -/
def k19 : Class := { plain "[B" (some 0) with kind := .array 18 .byte, interfaces := #[17, 4], accessFlags := 1041 }

/-- the primitive char -/
def k20 : Class := { plain "char" none with kind := .primitive 'C', accessFlags := 0x411 }
/-- [C -/
def k21 : Class := { plain "[C" (some 0) with kind := .array 20 .char, interfaces := #[17, 4], accessFlags := 1041 }

/-- the primitive int -/
def k22 : Class := { plain "int" none with kind := .primitive 'I', accessFlags := 0x411 }
/-- [I -/
def k23 : Class := { plain "[I" (some 0) with kind := .array 22 .int, interfaces := #[17, 4], accessFlags := 1041 }

def heap : Heap := #[{ cls := 6, slots := #[.ref 5, .ref 6, .ref 7, .ref 8, .ref 9, .ref 10, .ref 11, .null], vm := .statics 6 },
  { cls := 9, slots := #[.long 0, .int 1, .null, .int 0, .null, .int 0, .int 0], vm := .statics 9 },
  { cls := 12, slots := #[.ref 13], vm := .statics 12 },
  { cls := 13, slots := #[.ref 12], vm := .statics 13 },
  { cls := 15, slots := #[.null, .null, .null], vm := .statics 15 },
  { cls := 6, slots := #[.null, .int 0, .int 0], vm := .none },
  { cls := 6, slots := #[.null, .int 1, .int 0], vm := .none },
  { cls := 6, slots := #[.null, .int 2, .int 0], vm := .none },
  { cls := 6, slots := #[.null, .int 3, .int 0], vm := .none },
  { cls := 6, slots := #[.null, .int 4, .int 0], vm := .none },
  { cls := 6, slots := #[.null, .int 5, .int 0], vm := .none },
  { cls := 6, slots := #[.null, .int 6, .int 0], vm := .none },
  { cls := 13, slots := #[.null], vm := .none },
  { cls := 12, slots := #[.int 0, .long 0], vm := .none }]
def classes : Array Class := #[k0, k1, k2, k3, k4, k5, k6, k7, k8, k9, k10, k11, k12, k13, k14, k15, k16, k17, k18, k19, k20, k21, k22, k23]
def interned : List (Array UInt16 × Addr) := []
def slotsUsed : Nat := 44
def theMethod : MethodId := ⟨1, 2⟩
def args0 : Array Value := #[.int 5, .long 6, .int 7, .int 8, .int 0]
def aboutOver (below : List Frame) : State where
  vm := { classes := classes, interned := interned.toArray }
  heap := heap
  slotsUsed := slotsUsed
  threads := #[{ frames := .invoking theMethod args0 :: below }]
def below0 : List Frame := [.native { method := ⟨0, 0⟩, args := #[] }]
def about1 : State := aboutOver below0
def p0 : Program := .bare "" "" ""
def e0 : Env := launch0.env 0 0 0
theorem w_frames : about1.frames = Frame.invoking theMethod args0 :: below0 := rfl
set_option maxRecDepth 65536 in
theorem w_args : argsFit about1.vm theMethod args0 = true := by decide +kernel
set_option maxRecDepth 65536 in
theorem w_heap : heapFits about1 = true := by decide +kernel
set_option maxRecDepth 65536 in
theorem w_runnable : about1.curStatus? = some .runnable := by decide +kernel
set_option maxRecDepth 65536 in
theorem w_alone : about1.alone = true := by decide +kernel
set_option maxRecDepth 65536 in
theorem w_named : about1.methodNamed? x = some theMethod := by decide +kernel
set_option maxRecDepth 65536 in
theorem w_hears : about1.hears theMethod below0 = true := by decide +kernel
set_option maxRecDepth 65536 in
theorem w_ripe : about1.ripe theMethod args0 below0 = true := by decide +kernel
theorem w_running : about1.status = .running := rfl
set_option maxRecDepth 65536 in
theorem w_room : about1.hasRoom e0.platform room_1 = true :=
  launch0.hasRoom_least _ room_1 (by decide +kernel) (by decide +kernel) (by decide +kernel) (by decide +kernel) (by decide +kernel) (by decide +kernel)
theorem allAtoms_all (ts : List Jvm.Cond) (a : Array Jvm.Value) (st : Jvm.State) : (allAtoms ts).before a st = ts.all (fun c => c.before a st) := by
  induction ts with
  | nil => rfl
  | cons c t ih =>
    show (Jvm.Cond.and c (allAtoms t)).before a st = _
    rw [Jvm.Cond.before_and, ih, List.all_cons]
def words1 : List Jvm.Cond := Jvm.Cond.code x code maxLocals ret :: tables_1
/-- a 'code' word, met by the world's own term for the bytes: nothing is compared byte by byte -/
theorem code_word {y : MethodName} {bytes : ByteArray} {mx : Nat} {rt : Option FieldType} {a : Array Value} {s : State} {m : MethodId} {meth : Method} {c : Code} (h1 : s.methodNamed? y = some m) (h2 : s.vm.method? m = some meth) (h3 : meth.code = some c) (h4 : c.code = bytes)
    (h5 : (c.maxLocals == mx && c.exceptionTable.isEmpty && decide (c.maxStack ≤ mostOperands) && decide (meth.sig.returnType = rt) && !meth.locks && decide (parseMethodDescriptor y.desc = some meth.sig)) = true) : (Jvm.Cond.code y bytes mx rt).before a s = true := by
  simp only [Bool.and_eq_true, beq_iff_eq, Bool.not_eq_true', decide_eq_true_eq] at h5
  obtain ⟨⟨⟨⟨⟨g1, g2⟩, g3⟩, g4⟩, g5⟩, g6⟩ := h5
  simp [Cond.before, Cond.holds, Cond.value, h1, h2, h3, h4, g1, g2, g3, g4, g5, g6]
def isCode : Jvm.Cond → Bool
  | .code _ _ _ _ => true
  | _ => false
theorem all_split {L : List Jvm.Cond} {P : Jvm.Cond → Bool} (h1 : L.all (fun c => isCode c || P c) = true) (h2 : ∀ c ∈ L.filter isCode, P c = true) : L.all P = true := by
  refine List.all_eq_true.mpr fun c hc => ?_
  have h := List.all_eq_true.mp h1 c hc
  rcases Bool.eq_false_or_eq_true (isCode c) with hi | hi
  · exact h2 c (List.mem_filter.mpr ⟨hc, hi⟩)
  · simpa [hi] using h
set_option maxRecDepth 65536 in
theorem w_c0 : (Jvm.Cond.code x code maxLocals ret).before args0 about1 = true := code_word (m := ⟨1, 2⟩) (meth := k1m2) (c := k1c2) (by decide +kernel) rfl rfl rfl (by decide +kernel)
set_option maxRecDepth 65536 in
theorem w_c1 : (Jvm.Cond.code ({ cls := "com/example/ferrywire/ferrywire/agent/AgentEventOfMessagePinLaw", name := "pick", desc := "(I)Lcom/example/ferrywire/ferrywire/agent/AgentEvent$Kind;" } : Jvm.MethodName) method_2_code (2 : Nat) (Option.some (Jvm.ClassFile.FieldType.object "com/example/ferrywire/ferrywire/agent/AgentEvent$Kind"))).before args0 about1 = true := code_word (m := ⟨1, 1⟩) (meth := k1m1) (c := k1c1) (by decide +kernel) rfl rfl rfl (by decide +kernel)
set_option maxRecDepth 65536 in
theorem w_c2 : (Jvm.Cond.code ({ cls := "java/lang/String", name := "<init>", desc := "([C)V" } : Jvm.MethodName) jdk_42_method_3_code (2 : Nat) (Option.none : Option Jvm.ClassFile.FieldType)).before args0 about1 = true := code_word (m := ⟨9, 1⟩) (meth := k9m1) (c := k9c1) (by decide +kernel) rfl rfl rfl (by decide +kernel)
set_option maxRecDepth 65536 in
theorem w_c3 : (Jvm.Cond.code ({ cls := "java/lang/String", name := "<init>", desc := "([CIILjava/lang/Void;)V" } : Jvm.MethodName) jdk_42_method_149_code (6 : Nat) (Option.none : Option Jvm.ClassFile.FieldType)).before args0 about1 = true := code_word (m := ⟨9, 3⟩) (meth := k9m3) (c := k9c3) (by decide +kernel) rfl rfl rfl (by decide +kernel)
set_option maxRecDepth 65536 in
theorem w_c4 : (Jvm.Cond.code ({ cls := "java/lang/Object", name := "<init>", desc := "()V" } : Jvm.MethodName) object_method_1_code (1 : Nat) (Option.none : Option Jvm.ClassFile.FieldType)).before args0 about1 = true := code_word (m := ⟨0, 0⟩) (meth := k0m0) (c := k0c0) (by decide +kernel) rfl rfl rfl (by decide +kernel)
set_option maxRecDepth 65536 in
theorem w_c5 : (Jvm.Cond.code ({ cls := "java/lang/StringUTF16", name := "compress", desc := "([CII)[B" } : Jvm.MethodName) jdk_52_method_16_code (6 : Nat) (Option.some (Jvm.ClassFile.FieldType.array Jvm.ClassFile.FieldType.byte))).before args0 about1 = true := code_word (m := ⟨10, 2⟩) (meth := k10m2) (c := k10c2) (by decide +kernel) rfl rfl rfl (by decide +kernel)
set_option maxRecDepth 65536 in
theorem w_c6 : (Jvm.Cond.code ({ cls := "java/lang/StringUTF16", name := "compress", desc := "([CI[BII)I" } : Jvm.MethodName) jdk_52_method_21_code (7 : Nat) (Option.some Jvm.ClassFile.FieldType.int)).before args0 about1 = true := code_word (m := ⟨10, 3⟩) (meth := k10m3) (c := k10c3) (by decide +kernel) rfl rfl rfl (by decide +kernel)
set_option maxRecDepth 65536 in
theorem w_c7 : (Jvm.Cond.code ({ cls := "java/lang/StringUTF16", name := "coderFromArrayLen", desc := "([BI)B" } : Jvm.MethodName) jdk_52_method_15_code (2 : Nat) (Option.some Jvm.ClassFile.FieldType.byte)).before args0 about1 = true := code_word (m := ⟨10, 1⟩) (meth := k10m1) (c := k10c1) (by decide +kernel) rfl rfl rfl (by decide +kernel)
set_option maxRecDepth 65536 in
theorem w_c8 : (Jvm.Cond.code ({ cls := "com/example/ferrywire/ferrywire/agent/AgentEvent", name := "ofMessage", desc := "(Lcom/example/ferrywire/ferrywire/agent/AgentEvent$Kind;Ljava/lang/String;JLjava/lang/String;)Lcom/example/ferrywire/ferrywire/agent/AgentEvent;" } : Jvm.MethodName) prog_1_method_3_code (5 : Nat) (Option.some (Jvm.ClassFile.FieldType.object "com/example/ferrywire/ferrywire/agent/AgentEvent"))).before args0 about1 = true := code_word (m := ⟨11, 1⟩) (meth := k11m1) (c := k11c1) (by decide +kernel) rfl rfl rfl (by decide +kernel)
set_option maxRecDepth 65536 in
theorem w_c9 : (Jvm.Cond.code ({ cls := "com/example/ferrywire/ferrywire/agent/AgentEvent", name := "<init>", desc := "(JLcom/example/ferrywire/ferrywire/agent/AgentEvent$Kind;Ljava/lang/String;JLjava/lang/String;)V" } : Jvm.MethodName) prog_1_method_1_code (8 : Nat) (Option.none : Option Jvm.ClassFile.FieldType)).before args0 about1 = true := code_word (m := ⟨11, 0⟩) (meth := k11m0) (c := k11c0) (by decide +kernel) rfl rfl rfl (by decide +kernel)
set_option maxRecDepth 65536 in
theorem w_c10 : (Jvm.Cond.code ({ cls := "com/example/ferrywire/ferrywire/agent/AgentEvent", name := "kind", desc := "()Lcom/example/ferrywire/ferrywire/agent/AgentEvent$Kind;" } : Jvm.MethodName) prog_1_method_4_code (1 : Nat) (Option.some (Jvm.ClassFile.FieldType.object "com/example/ferrywire/ferrywire/agent/AgentEvent$Kind"))).before args0 about1 = true := code_word (m := ⟨11, 2⟩) (meth := k11m2) (c := k11c2) (by decide +kernel) rfl rfl rfl (by decide +kernel)
set_option maxRecDepth 65536 in
theorem w_c11 : (Jvm.Cond.code ({ cls := "com/example/ferrywire/ferrywire/agent/AgentEvent", name := "connectionId", desc := "()Ljava/lang/String;" } : Jvm.MethodName) prog_1_method_5_code (1 : Nat) (Option.some (Jvm.ClassFile.FieldType.object "java/lang/String"))).before args0 about1 = true := code_word (m := ⟨11, 3⟩) (meth := k11m3) (c := k11c3) (by decide +kernel) rfl rfl rfl (by decide +kernel)
set_option maxRecDepth 65536 in
theorem w_c12 : (Jvm.Cond.code ({ cls := "java/lang/String", name := "equals", desc := "(Ljava/lang/Object;)Z" } : Jvm.MethodName) jdk_42_method_66_code (3 : Nat) (Option.some Jvm.ClassFile.FieldType.boolean)).before args0 about1 = true := code_word (m := ⟨9, 2⟩) (meth := k9m2) (c := k9c2) (by decide +kernel) rfl rfl rfl (by decide +kernel)
set_option maxRecDepth 65536 in
theorem w_c13 : (Jvm.Cond.code ({ cls := "com/example/ferrywire/ferrywire/agent/AgentEvent", name := "sequence", desc := "()J" } : Jvm.MethodName) prog_1_method_8_code (1 : Nat) (Option.some Jvm.ClassFile.FieldType.long)).before args0 about1 = true := code_word (m := ⟨11, 6⟩) (meth := k11m6) (c := k11c6) (by decide +kernel) rfl rfl rfl (by decide +kernel)
set_option maxRecDepth 65536 in
theorem w_c14 : (Jvm.Cond.code ({ cls := "com/example/ferrywire/ferrywire/agent/AgentEvent", name := "messageId", desc := "()Ljava/util/OptionalLong;" } : Jvm.MethodName) prog_1_method_6_code (1 : Nat) (Option.some (Jvm.ClassFile.FieldType.object "java/util/OptionalLong"))).before args0 about1 = true := code_word (m := ⟨11, 4⟩) (meth := k11m4) (c := k11c4) (by decide +kernel) rfl rfl rfl (by decide +kernel)
set_option maxRecDepth 65536 in
theorem w_c15 : (Jvm.Cond.code ({ cls := "java/util/OptionalLong", name := "of", desc := "(J)Ljava/util/OptionalLong;" } : Jvm.MethodName) jdk_2650_method_4_code (2 : Nat) (Option.some (Jvm.ClassFile.FieldType.object "java/util/OptionalLong"))).before args0 about1 = true := code_word (m := ⟨12, 3⟩) (meth := k12m3) (c := k12c3) (by decide +kernel) rfl rfl rfl (by decide +kernel)
set_option maxRecDepth 65536 in
theorem w_c16 : (Jvm.Cond.code ({ cls := "java/util/OptionalLong", name := "<init>", desc := "(J)V" } : Jvm.MethodName) jdk_2650_method_3_code (3 : Nat) (Option.none : Option Jvm.ClassFile.FieldType)).before args0 about1 = true := code_word (m := ⟨12, 2⟩) (meth := k12m2) (c := k12c2) (by decide +kernel) rfl rfl rfl (by decide +kernel)
set_option maxRecDepth 65536 in
theorem w_c17 : (Jvm.Cond.code ({ cls := "java/util/OptionalLong", name := "isPresent", desc := "()Z" } : Jvm.MethodName) jdk_2650_method_6_code (1 : Nat) (Option.some Jvm.ClassFile.FieldType.boolean)).before args0 about1 = true := code_word (m := ⟨12, 5⟩) (meth := k12m5) (c := k12c5) (by decide +kernel) rfl rfl rfl (by decide +kernel)
set_option maxRecDepth 65536 in
theorem w_c18 : (Jvm.Cond.code ({ cls := "java/util/OptionalLong", name := "getAsLong", desc := "()J" } : Jvm.MethodName) jdk_2650_method_5_code (1 : Nat) (Option.some Jvm.ClassFile.FieldType.long)).before args0 about1 = true := code_word (m := ⟨12, 4⟩) (meth := k12m4) (c := k12c4) (by decide +kernel) rfl rfl rfl (by decide +kernel)
set_option maxRecDepth 65536 in
theorem w_c19 : (Jvm.Cond.code ({ cls := "com/example/ferrywire/ferrywire/agent/AgentEvent", name := "text", desc := "()Ljava/util/Optional;" } : Jvm.MethodName) prog_1_method_7_code (1 : Nat) (Option.some (Jvm.ClassFile.FieldType.object "java/util/Optional"))).before args0 about1 = true := code_word (m := ⟨11, 5⟩) (meth := k11m5) (c := k11c5) (by decide +kernel) rfl rfl rfl (by decide +kernel)
set_option maxRecDepth 65536 in
theorem w_c20 : (Jvm.Cond.code ({ cls := "java/util/Optional", name := "ofNullable", desc := "(Ljava/lang/Object;)Ljava/util/Optional;" } : Jvm.MethodName) jdk_32_method_4_code (1 : Nat) (Option.some (Jvm.ClassFile.FieldType.object "java/util/Optional"))).before args0 about1 = true := code_word (m := ⟨13, 1⟩) (meth := k13m1) (c := k13c1) (by decide +kernel) rfl rfl rfl (by decide +kernel)
set_option maxRecDepth 65536 in
theorem w_c21 : (Jvm.Cond.code ({ cls := "java/util/Optional", name := "<init>", desc := "(Ljava/lang/Object;)V" } : Jvm.MethodName) jdk_32_method_2_code (2 : Nat) (Option.none : Option Jvm.ClassFile.FieldType)).before args0 about1 = true := code_word (m := ⟨13, 0⟩) (meth := k13m0) (c := k13c0) (by decide +kernel) rfl rfl rfl (by decide +kernel)
set_option maxRecDepth 65536 in
theorem w_c22 : (Jvm.Cond.code ({ cls := "java/util/Optional", name := "isPresent", desc := "()Z" } : Jvm.MethodName) jdk_32_method_6_code (1 : Nat) (Option.some Jvm.ClassFile.FieldType.boolean)).before args0 about1 = true := code_word (m := ⟨13, 3⟩) (meth := k13m3) (c := k13c3) (by decide +kernel) rfl rfl rfl (by decide +kernel)
set_option maxRecDepth 65536 in
theorem w_c23 : (Jvm.Cond.code ({ cls := "java/util/Optional", name := "get", desc := "()Ljava/lang/Object;" } : Jvm.MethodName) jdk_32_method_5_code (1 : Nat) (Option.some (Jvm.ClassFile.FieldType.object "java/lang/Object"))).before args0 about1 = true := code_word (m := ⟨13, 2⟩) (meth := k13m2) (c := k13c2) (by decide +kernel) rfl rfl rfl (by decide +kernel)
set_option maxRecDepth 65536 in
theorem w_c24 : (Jvm.Cond.code ({ cls := "java/util/OptionalLong", name := "empty", desc := "()Ljava/util/OptionalLong;" } : Jvm.MethodName) jdk_2650_method_2_code (0 : Nat) (Option.some (Jvm.ClassFile.FieldType.object "java/util/OptionalLong"))).before args0 about1 = true := code_word (m := ⟨12, 1⟩) (meth := k12m1) (c := k12c1) (by decide +kernel) rfl rfl rfl (by decide +kernel)
def codes1 : List Jvm.Cond := [Jvm.Cond.code x code maxLocals ret, Jvm.Cond.code ({ cls := "com/example/ferrywire/ferrywire/agent/AgentEventOfMessagePinLaw", name := "pick", desc := "(I)Lcom/example/ferrywire/ferrywire/agent/AgentEvent$Kind;" } : Jvm.MethodName) method_2_code (2 : Nat) (Option.some (Jvm.ClassFile.FieldType.object "com/example/ferrywire/ferrywire/agent/AgentEvent$Kind")), Jvm.Cond.code ({ cls := "java/lang/String", name := "<init>", desc := "([C)V" } : Jvm.MethodName) jdk_42_method_3_code (2 : Nat) (Option.none : Option Jvm.ClassFile.FieldType), Jvm.Cond.code ({ cls := "java/lang/String", name := "<init>", desc := "([CIILjava/lang/Void;)V" } : Jvm.MethodName) jdk_42_method_149_code (6 : Nat) (Option.none : Option Jvm.ClassFile.FieldType), Jvm.Cond.code ({ cls := "java/lang/Object", name := "<init>", desc := "()V" } : Jvm.MethodName) object_method_1_code (1 : Nat) (Option.none : Option Jvm.ClassFile.FieldType), Jvm.Cond.code ({ cls := "java/lang/StringUTF16", name := "compress", desc := "([CII)[B" } : Jvm.MethodName) jdk_52_method_16_code (6 : Nat) (Option.some (Jvm.ClassFile.FieldType.array Jvm.ClassFile.FieldType.byte)), Jvm.Cond.code ({ cls := "java/lang/StringUTF16", name := "compress", desc := "([CI[BII)I" } : Jvm.MethodName) jdk_52_method_21_code (7 : Nat) (Option.some Jvm.ClassFile.FieldType.int), Jvm.Cond.code ({ cls := "java/lang/StringUTF16", name := "coderFromArrayLen", desc := "([BI)B" } : Jvm.MethodName) jdk_52_method_15_code (2 : Nat) (Option.some Jvm.ClassFile.FieldType.byte), Jvm.Cond.code ({ cls := "com/example/ferrywire/ferrywire/agent/AgentEvent", name := "ofMessage", desc := "(Lcom/example/ferrywire/ferrywire/agent/AgentEvent$Kind;Ljava/lang/String;JLjava/lang/String;)Lcom/example/ferrywire/ferrywire/agent/AgentEvent;" } : Jvm.MethodName) prog_1_method_3_code (5 : Nat) (Option.some (Jvm.ClassFile.FieldType.object "com/example/ferrywire/ferrywire/agent/AgentEvent")), Jvm.Cond.code ({ cls := "com/example/ferrywire/ferrywire/agent/AgentEvent", name := "<init>", desc := "(JLcom/example/ferrywire/ferrywire/agent/AgentEvent$Kind;Ljava/lang/String;JLjava/lang/String;)V" } : Jvm.MethodName) prog_1_method_1_code (8 : Nat) (Option.none : Option Jvm.ClassFile.FieldType), Jvm.Cond.code ({ cls := "com/example/ferrywire/ferrywire/agent/AgentEvent", name := "kind", desc := "()Lcom/example/ferrywire/ferrywire/agent/AgentEvent$Kind;" } : Jvm.MethodName) prog_1_method_4_code (1 : Nat) (Option.some (Jvm.ClassFile.FieldType.object "com/example/ferrywire/ferrywire/agent/AgentEvent$Kind")), Jvm.Cond.code ({ cls := "com/example/ferrywire/ferrywire/agent/AgentEvent", name := "connectionId", desc := "()Ljava/lang/String;" } : Jvm.MethodName) prog_1_method_5_code (1 : Nat) (Option.some (Jvm.ClassFile.FieldType.object "java/lang/String")), Jvm.Cond.code ({ cls := "java/lang/String", name := "equals", desc := "(Ljava/lang/Object;)Z" } : Jvm.MethodName) jdk_42_method_66_code (3 : Nat) (Option.some Jvm.ClassFile.FieldType.boolean), Jvm.Cond.code ({ cls := "com/example/ferrywire/ferrywire/agent/AgentEvent", name := "sequence", desc := "()J" } : Jvm.MethodName) prog_1_method_8_code (1 : Nat) (Option.some Jvm.ClassFile.FieldType.long), Jvm.Cond.code ({ cls := "com/example/ferrywire/ferrywire/agent/AgentEvent", name := "messageId", desc := "()Ljava/util/OptionalLong;" } : Jvm.MethodName) prog_1_method_6_code (1 : Nat) (Option.some (Jvm.ClassFile.FieldType.object "java/util/OptionalLong")), Jvm.Cond.code ({ cls := "java/util/OptionalLong", name := "of", desc := "(J)Ljava/util/OptionalLong;" } : Jvm.MethodName) jdk_2650_method_4_code (2 : Nat) (Option.some (Jvm.ClassFile.FieldType.object "java/util/OptionalLong")), Jvm.Cond.code ({ cls := "java/util/OptionalLong", name := "<init>", desc := "(J)V" } : Jvm.MethodName) jdk_2650_method_3_code (3 : Nat) (Option.none : Option Jvm.ClassFile.FieldType), Jvm.Cond.code ({ cls := "java/util/OptionalLong", name := "isPresent", desc := "()Z" } : Jvm.MethodName) jdk_2650_method_6_code (1 : Nat) (Option.some Jvm.ClassFile.FieldType.boolean), Jvm.Cond.code ({ cls := "java/util/OptionalLong", name := "getAsLong", desc := "()J" } : Jvm.MethodName) jdk_2650_method_5_code (1 : Nat) (Option.some Jvm.ClassFile.FieldType.long), Jvm.Cond.code ({ cls := "com/example/ferrywire/ferrywire/agent/AgentEvent", name := "text", desc := "()Ljava/util/Optional;" } : Jvm.MethodName) prog_1_method_7_code (1 : Nat) (Option.some (Jvm.ClassFile.FieldType.object "java/util/Optional")), Jvm.Cond.code ({ cls := "java/util/Optional", name := "ofNullable", desc := "(Ljava/lang/Object;)Ljava/util/Optional;" } : Jvm.MethodName) jdk_32_method_4_code (1 : Nat) (Option.some (Jvm.ClassFile.FieldType.object "java/util/Optional")), Jvm.Cond.code ({ cls := "java/util/Optional", name := "<init>", desc := "(Ljava/lang/Object;)V" } : Jvm.MethodName) jdk_32_method_2_code (2 : Nat) (Option.none : Option Jvm.ClassFile.FieldType), Jvm.Cond.code ({ cls := "java/util/Optional", name := "isPresent", desc := "()Z" } : Jvm.MethodName) jdk_32_method_6_code (1 : Nat) (Option.some Jvm.ClassFile.FieldType.boolean), Jvm.Cond.code ({ cls := "java/util/Optional", name := "get", desc := "()Ljava/lang/Object;" } : Jvm.MethodName) jdk_32_method_5_code (1 : Nat) (Option.some (Jvm.ClassFile.FieldType.object "java/lang/Object")), Jvm.Cond.code ({ cls := "java/util/OptionalLong", name := "empty", desc := "()Ljava/util/OptionalLong;" } : Jvm.MethodName) jdk_2650_method_2_code (0 : Nat) (Option.some (Jvm.ClassFile.FieldType.object "java/util/OptionalLong"))]
set_option maxRecDepth 65536 in
theorem codes_eq : words1.filter isCode = codes1 := rfl
theorem w_codes : ∀ c ∈ words1.filter isCode, c.before args0 about1 = true := by
  rw [codes_eq]
  intro c hc
  simp only [codes1, List.mem_cons, List.not_mem_nil, or_false] at hc
  rcases hc with rfl | rfl | rfl | rfl | rfl | rfl | rfl | rfl | rfl | rfl | rfl | rfl | rfl | rfl | rfl | rfl | rfl | rfl | rfl | rfl | rfl | rfl | rfl | rfl | rfl
  · exact w_c0
  · exact w_c1
  · exact w_c2
  · exact w_c3
  · exact w_c4
  · exact w_c5
  · exact w_c6
  · exact w_c7
  · exact w_c8
  · exact w_c9
  · exact w_c10
  · exact w_c11
  · exact w_c12
  · exact w_c13
  · exact w_c14
  · exact w_c15
  · exact w_c16
  · exact w_c17
  · exact w_c18
  · exact w_c19
  · exact w_c20
  · exact w_c21
  · exact w_c22
  · exact w_c23
  · exact w_c24
set_option maxRecDepth 65536 in
theorem w_t1 : (words1.take 24).all (fun c => isCode c || c.before args0 about1) = true := by decide +kernel
set_option maxRecDepth 65536 in
theorem w_t2 : ((words1.drop 24).take 24).all (fun c => isCode c || c.before args0 about1) = true := by decide +kernel
set_option maxRecDepth 65536 in
theorem w_t3 : (((words1.drop 24).drop 24).take 24).all (fun c => isCode c || c.before args0 about1) = true := by decide +kernel
set_option maxRecDepth 65536 in
theorem w_t4 : ((((words1.drop 24).drop 24).drop 24).take 24).all (fun c => isCode c || c.before args0 about1) = true := by decide +kernel
set_option maxRecDepth 65536 in
theorem w_t5 : (((((words1.drop 24).drop 24).drop 24).drop 24).take 24).all (fun c => isCode c || c.before args0 about1) = true := by decide +kernel
set_option maxRecDepth 65536 in
theorem w_t6 : ((((((words1.drop 24).drop 24).drop 24).drop 24).drop 24).take 24).all (fun c => isCode c || c.before args0 about1) = true := by decide +kernel
set_option maxRecDepth 65536 in
theorem w_t7 : ((((((words1.drop 24).drop 24).drop 24).drop 24).drop 24).drop 24).all (fun c => isCode c || c.before args0 about1) = true := by decide +kernel
theorem w_tables : (allAtoms (Jvm.Cond.code x code maxLocals ret :: tables_1)).before args0 about1 = true := by
  rw [allAtoms_all]
  show words1.all (fun c => c.before args0 about1) = true
  refine all_split ?_ w_codes
  rw [← List.take_append_drop 24 words1, List.all_append, w_t1, ← List.take_append_drop 24 (words1.drop 24), List.all_append, w_t2, ← List.take_append_drop 24 ((words1.drop 24).drop 24), List.all_append, w_t3, ← List.take_append_drop 24 (((words1.drop 24).drop 24).drop 24), List.all_append, w_t4, ← List.take_append_drop 24 ((((words1.drop 24).drop 24).drop 24).drop 24), List.all_append, w_t5, ← List.take_append_drop 24 (((((words1.drop 24).drop 24).drop 24).drop 24).drop 24), List.all_append, w_t6, w_t7]
  rfl
set_option maxRecDepth 65536 in
theorem w_rest : rest_1_c.before args0 about1 = true := by decide +kernel
set_option maxRecDepth 65536 in
theorem w_case : (Jvm.Cond.and given_1 narrow_1).before args0 about1 = true := by decide +kernel
theorem w_applies : (headSpec (Jvm.Cond.code x code maxLocals ret :: tables_1) room_1).applies x e0.platform about1 = true :=
  (Spec.applies_iff w_frames).mpr ⟨w_running, w_runnable, w_alone, w_named, w_hears, w_ripe, w_room, w_tables⟩
theorem atStart : AtStart classFile x code maxLocals ret World_1 tables_1 room_1 Calls_1 rest_1 Pre_1 launch0 p0 e0 about1 theMethod args0 below0 :=
  ⟨lists_1, trivial, launch0.admits_env _ _ _, launch0.least_env, fairChoices_fair.cas, fairChoices_fair.clock, w_frames, w_args, w_heap, w_applies, trivial, w_rest, w_case⟩
end start1
theorem witness_1 : WitnessClaimed_1 := ⟨start1.p0, start1.e0, start1.about1, start1.theMethod, start1.args0, start1.below0, start1.atStart⟩
end Jvm.Pilot.@@N@@
