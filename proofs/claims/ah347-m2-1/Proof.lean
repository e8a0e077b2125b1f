import JvmDerived
import JvmDerived.Pilot.@@N@@Statement
import JvmDerived.Pilot.@@N@@Code
set_option linter.unusedVariables false
set_option linter.unusedSimpArgs false
/- laws to paste: Road.backV, Road.eqW, Road.codOf (cut by pick.py; bodies as the Statement names them) -/
namespace Jvm.Pilot.@@N@@
namespace StrChars
open Jvm Sem ClassFile Op Lib Jvm.Stand Jvm.Free.XT Jvm.Free.ALB Jvm.Free.JM Jvm.Free
open Jvm.Lib.Cold (StaticIs)
/-- a char array whose places are chars -/
def Ch (a : Addr) (A : Cell) (U : State) : Prop := Arr .char a A U ∧ Typed .char A
theorem Ch.mv {a : Addr} {A : Cell} {U U' : State} (h : Ch a A U) (hal : U.vm.Alike U'.vm) (hh : U'.heap = U.heap) : Ch a A U' := ⟨h.1.mv hal hh, h.2⟩
theorem Ch.keep {a : Addr} {A : Cell} {U U' : State} (h : Ch a A U) (hal : U.vm.Alike U'.vm) (hk : U'.heap[a]? = some A) : Ch a A U' := ⟨h.1.keep hal hk, h.2⟩
/-- what place i of a char[]'s cell holds -/
def cv (A : Cell) (i : Nat) : Int32 := match A.slots[i]? with | some (.int x) => x | _ => 0
theorem Ch.get {a : Addr} {A : Cell} {U : State} (h : Ch a A U) {i : Nat} (hi : i < A.slots.size) : A.slots[i]? = some (.int (cv A i)) := by
  have e := Array.getElem?_eq_getElem hi
  have f := h.2 i _ e
  unfold cv; rw [e]
  generalize A.slots[i] = v at f
  cases v <;> simp [fits] at f ⊢
/-- the byte that i2b leaves of a char -/
def lo8 (x : Int32) : Int32 := x.toInt8.toInt32
theorem fits_lo8 (y : Int32) : fits .byte (.int (lo8 y)) = true := by
  have h1 := y.toInt8.le_toInt
  have h2 := y.toInt8.toInt_lt
  simp only [lo8, fits, Bool.and_eq_true, decide_eq_true_eq, Int32.le_iff_toInt_le, Int8.toInt_toInt32, show (-128 : Int32).toInt = -128 from by decide, show (127 : Int32).toInt = 127 from by decide]
  omega
/-- A' is A but that each place j of lo .. hi - 1 holds f j -/
def Laid (A A' : Cell) (lo hi : Nat) (f : Nat → Value) : Prop := A'.cls = A.cls ∧ A'.vm = A.vm ∧ A'.slots.size = A.slots.size ∧ ∀ i, A'.slots[i]? = if lo ≤ i ∧ i < hi then some (f i) else A.slots[i]?
theorem Laid.zero (A : Cell) (lo : Nat) (f : Nat → Value) : Laid A A lo (lo + 0) f := ⟨rfl, rfl, rfl, fun i => by rw [if_neg (by omega)]⟩
theorem Laid.step {A Ak : Cell} {lo k : Nat} {f : Nat → Value} {v : Value} (h : Laid A Ak lo k f) (hlo : lo ≤ k) (hk : k < Ak.slots.size) (hv : v = f k) : Laid A (Ak.setSlot k v) lo (k + 1) f := by
  refine ⟨h.1, h.2.1, by simpa [Cell.setSlot] using h.2.2.1, fun i => ?_⟩
  by_cases e : k = i
  · subst e; rw [Cell.slots_setSlot_self v hk, if_pos (by omega), hv]
  · rw [Cell.slots_setSlot_ne v e, h.2.2.2 i]
    by_cases q : lo ≤ i ∧ i < k
    · rw [if_pos q, if_pos (by omega)]
    · rw [if_neg q, if_neg (by omega)]
def U16 : String := "java/lang/StringUTF16"
namespace Cmp5
def yN : MethodName := ⟨"java/lang/StringUTF16", "compress", "([CI[BII)I"⟩
abbrev yB : ByteArray := jdk_52_method_21_code
theorem d0 : decode yB 0 = .ok (.iconst 0, 1) := by decide +kernel
theorem d1 : decode yB 1 = .ok (.istore 5, 2) := by decide +kernel
theorem d3 : decode yB 3 = .ok (.iload 5, 2) := by decide +kernel
theorem d5 : decode yB 5 = .ok (.iload 4, 2) := by decide +kernel
theorem d7 : decode yB 7 = .ok (.if_icmp (.ge) 37, 3) := by decide +kernel
theorem d10 : decode yB 10 = .ok (.aload_n 0, 1) := by decide +kernel
theorem d11 : decode yB 11 = .ok (.iload_n 1, 1) := by decide +kernel
theorem d12 : decode yB 12 = .ok (.caload, 1) := by decide +kernel
theorem d13 : decode yB 13 = .ok (.istore 6, 2) := by decide +kernel
theorem d15 : decode yB 15 = .ok (.iload 6, 2) := by decide +kernel
theorem d17 : decode yB 17 = .ok (.sipush 255, 3) := by decide +kernel
theorem d20 : decode yB 20 = .ok (.if_icmp (.le) 6, 3) := by decide +kernel
theorem d26 : decode yB 26 = .ok (.aload_n 2, 1) := by decide +kernel
theorem d27 : decode yB 27 = .ok (.iload_n 3, 1) := by decide +kernel
theorem d28 : decode yB 28 = .ok (.iload 6, 2) := by decide +kernel
theorem d30 : decode yB 30 = .ok (.i2b, 1) := by decide +kernel
theorem d31 : decode yB 31 = .ok (.bastore, 1) := by decide +kernel
theorem d32 : decode yB 32 = .ok (.iinc 1 1, 3) := by decide +kernel
theorem d35 : decode yB 35 = .ok (.iinc 3 1, 3) := by decide +kernel
theorem d38 : decode yB 38 = .ok (.iinc 5 1, 3) := by decide +kernel
theorem d41 : decode yB 41 = .ok (.goto (-38), 3) := by decide +kernel
theorem d44 : decode yB 44 = .ok (.iload 4, 2) := by decide +kernel
theorem d46 : decode yB 46 = .ok (.ireturn, 1) := by decide +kernel
def site : List Cond := []
def tab : Cond := tabOf yN yB 7 (some .int) site
def P (b : Addr) (A : Cell) (d : Addr) (B : Cell) (o q len : Nat) (args : Array Value) (s : State) : Prop := args = #[.ref b, .int (Int32.ofNat o), .ref d, .int (Int32.ofNat q), .int (Int32.ofNat len)] ∧ Ch b A s ∧ Arr .byte d B s ∧ b ≠ d ∧ o + len ≤ A.slots.size ∧ q + len ≤ B.slots.size ∧ ∀ i, i < len → ¬ 255 < cv A (o + i)
def E (b : Addr) (A : Cell) (d : Addr) (B : Cell) (o q len : Nat) (r : Option Value) (s u : State) : Prop := r = some (.int (Int32.ofNat len)) ∧ ∃ B', Put d B' s u ∧ Laid B B' q (q + len) (fun j => Value.int (lo8 (cv A (o + (j - q)))))
/-- no char of the range above 255: len; the places written hold each char's low byte -/
theorem law (l : Launch) (b : Addr) (A : Cell) (d : Addr) (B : Cell) (o q len : Nat) : Law l yN 5 5 0 0 yB 7 (some .int) site (P b A d B o q len) (E b A d B o q len) (copyLocs d q len) 0 0 := by
  refine Law.of_walk (plainFor_of_name (by decide +kernel)) (by decide +kernel) (by decide +kernel) (by decide) (fun _ _ h => by rw [h.1]; rfl) (fun _ U U' hal hh h => ⟨h.1, h.2.1.mv hal hh, h.2.2.1.mv hal hh, h.2.2.2⟩) (fun r U U' V V' h1 hal h2 h => ⟨h.1, h.2.elim fun B' q => ⟨B', q.1.mv h1 h2, q.2⟩⟩) ?_
  intro p e s m args below meth c s₁ X0 hexec hbytes hml hret hlk hnm hown hh0 W hP
  obtain ⟨rfl, hA, hB, hne, l1, l2, hp⟩ := hP
  have c1 : Steps p.tables e below (s₁.setTop (entryFrame m #[.ref b, .int (Int32.ofNat o), .ref d, .int (Int32.ofNat q), .int (Int32.ofNat len)] 7)) (s₁.setTop (mkF m 0 #[.val (.ref b), .val (.int (Int32.ofNat o)), .val (.ref d), .val (.int (Int32.ofNat q)), .val (.int (Int32.ofNat len)), .unset, .unset] [])) := entry rfl
  have hA0 := hA.1.mv X0.warmed.alike hh0
  have hB0 := hB.mv X0.warmed.alike hh0
  have a31 := hA.1.2.2.2
  have c2 : Steps p.tables e below (s₁.setTop (entryFrame m #[.ref b, .int (Int32.ofNat o), .ref d, .int (Int32.ofNat q), .int (Int32.ofNat len)] 7)) (s₁.setTop (mkF m 3 #[.val (.ref b), .val (.int (Int32.ofNat o)), .val (.ref d), .val (.int (Int32.ofNat q)), .val (.int (Int32.ofNat len)), .val (.int 0), .unset] [])) := c1.trans (by
    refine iconstV X0.here hexec rfl 0 (hb hbytes d0) (by decide) ?_
    refine XS.istore X0.here hexec rfl (hb hbytes d1) rfl rfl ?_
    exact Steps.refl _)
  have loop : ∀ (r i : Nat), i + r = len → ∀ (z : Slot), (z = .unset ∨ ∃ w, z = .val w ∧ w.category = 1) → ∀ (Tl : State) (Bk : Cell), Stand p l e { frames := 0, locals := 0, cells := 0, slots := 0 } s m #[.ref b, .int (Int32.ofNat o), .ref d, .int (Int32.ofNat q), .int (Int32.ofNat len)] below meth c Tl ([] ++ copyLocs d q i) 0 0 → Put d Bk s₁ Tl → Laid B Bk q (q + i) (fun j => Value.int (lo8 (cv A (o + (j - q))))) →
      Steps p.tables e below (s₁.setTop (entryFrame m #[.ref b, .int (Int32.ofNat o), .ref d, .int (Int32.ofNat q), .int (Int32.ofNat len)] 7)) (Tl.setTop (mkF m 3 #[.val (.ref b), .val (.int (Int32.ofNat (o + i))), .val (.ref d), .val (.int (Int32.ofNat (q + i))), .val (.int (Int32.ofNat len)), .val (.int (Int32.ofNat i)), z] [])) → ∃ (T' : State) (B' : Cell) (z' : Slot), Stand p l e { frames := 0, locals := 0, cells := 0, slots := 0 } s m #[.ref b, .int (Int32.ofNat o), .ref d, .int (Int32.ofNat q), .int (Int32.ofNat len)] below meth c T' ([] ++ copyLocs d q len) 0 0 ∧ Put d B' s₁ T' ∧ Laid B B' q (q + len) (fun j => Value.int (lo8 (cv A (o + (j - q))))) ∧
      Steps p.tables e below (s₁.setTop (entryFrame m #[.ref b, .int (Int32.ofNat o), .ref d, .int (Int32.ofNat q), .int (Int32.ofNat len)] 7)) (T'.setTop (mkF m 3 #[.val (.ref b), .val (.int (Int32.ofNat (o + len))), .val (.ref d), .val (.int (Int32.ofNat (q + len))), .val (.int (Int32.ofNat len)), .val (.int (Int32.ofNat len)), z'] [])) := by
    intro r
    induction r with
    | zero =>
      intro i hi z hz Tl Bk Xl pl fl cl
      have hil : i = len := by omega
      rw [hil] at Xl fl cl
      exact ⟨Tl, Bk, z, Xl, pl, fl, cl⟩
    | succ r ih =>
      intro i hi z hz Tl Bk Xl pl fl cl
      have all := X0.warmed.alike.symm.trans Xl.warmed.alike
      have hAl := hA0.keep all (pl.other hne hA0.1)
      have hBk := hB0.like all pl.1 fl.1 fl.2.1 fl.2.2.1
      have hlt : q + i < Bk.slots.size := by rw [fl.2.2.1]; omega
      have c3 : Steps p.tables e below (s₁.setTop (entryFrame m #[.ref b, .int (Int32.ofNat o), .ref d, .int (Int32.ofNat q), .int (Int32.ofNat len)] 7)) (Tl.setTop (mkF m 12 #[.val (.ref b), .val (.int (Int32.ofNat (o + i))), .val (.ref d), .val (.int (Int32.ofNat (q + i))), .val (.int (Int32.ofNat len)), .val (.int (Int32.ofNat i)), z] [.int (Int32.ofNat (o + i)), .ref b])) := cl.trans (by
        refine XS.iload Xl.here hexec rfl (hb hbytes d3) rfl ?_
        refine XS.iload Xl.here hexec rfl (hb hbytes d5) rfl ?_
        refine XS.icmpNo Xl.here hexec rfl (hb hbytes d7) rfl (ii_ge_f (lt32 (by omega) (by omega))) ?_
        refine XS.aloadN Xl.here hexec rfl (hb hbytes d10) rfl rfl ?_
        refine XS.iloadN Xl.here hexec rfl (hb hbytes d11) rfl ?_
        exact Steps.refl _)
      have c4 : Steps p.tables e below (s₁.setTop (entryFrame m #[.ref b, .int (Int32.ofNat o), .ref d, .int (Int32.ofNat q), .int (Int32.ofNat len)] 7)) (Tl.setTop (mkF m 13 #[.val (.ref b), .val (.int (Int32.ofNat (o + i))), .val (.ref d), .val (.int (Int32.ofNat (q + i))), .val (.int (Int32.ofNat len)), .val (.int (Int32.ofNat i)), z] [.int (cv A (o + i))])) := c3.trans (by
        refine Xl.aget hexec hAl rfl (hA.get (i := o + i) (by omega)) rfl rfl (hb hbytes d12) ?_
        exact Steps.refl _)
      have c5 : Steps p.tables e below (s₁.setTop (entryFrame m #[.ref b, .int (Int32.ofNat o), .ref d, .int (Int32.ofNat q), .int (Int32.ofNat len)] 7)) (Tl.setTop (mkF m 15 #[.val (.ref b), .val (.int (Int32.ofNat (o + i))), .val (.ref d), .val (.int (Int32.ofNat (q + i))), .val (.int (Int32.ofNat len)), .val (.int (Int32.ofNat i)), .val (.int (cv A (o + i)))] [])) := c4.trans (by
        refine XS.istoreS Xl.here hexec rfl (hb hbytes d13) rfl rfl hz ?_
        exact Steps.refl _)
      have c6 : Steps p.tables e below (s₁.setTop (entryFrame m #[.ref b, .int (Int32.ofNat o), .ref d, .int (Int32.ofNat q), .int (Int32.ofNat len)] 7)) (Tl.setTop (mkF m 31 #[.val (.ref b), .val (.int (Int32.ofNat (o + i))), .val (.ref d), .val (.int (Int32.ofNat (q + i))), .val (.int (Int32.ofNat len)), .val (.int (Int32.ofNat i)), .val (.int (cv A (o + i)))] [.int (lo8 (cv A (o + i))), .int (Int32.ofNat (q + i)), .ref d])) := c5.trans (by
        refine XS.iload Xl.here hexec rfl (hb hbytes d15) rfl ?_
        refine sipushV Xl.here hexec rfl 255 (hb hbytes d17) (by decide) ?_
        refine XS.icmpYes Xl.here hexec rfl (pc0 := 20) rfl (hb hbytes d20) rfl (ii_le_t (hp i (by omega))) (by decide) rfl ?_
        refine XS.aloadN Xl.here hexec rfl (hb hbytes d26) rfl rfl ?_
        refine XS.iloadN Xl.here hexec rfl (hb hbytes d27) rfl ?_
        refine XS.iload Xl.here hexec rfl (hb hbytes d28) rfl ?_
        refine i2b Xl.here hexec rfl (hb hbytes d30) rfl ?_
        exact Steps.refl _)
      obtain ⟨T7, X7, p7, st7⟩ := Xl.aput hexec hBk rfl hlt rfl (fits_lo8 (cv A (o + i))) (g := (mkF m 31 #[.val (.ref b), .val (.int (Int32.ofNat (o + i))), .val (.ref d), .val (.int (Int32.ofNat (q + i))), .val (.int (Int32.ofNat len)), .val (.int (Int32.ofNat i)), .val (.int (cv A (o + i)))] [.int (lo8 (cv A (o + i))), .int (Int32.ofNat (q + i)), .ref d])) rfl (rest := []) rfl (hb hbytes d31)
      have c8 : Steps p.tables e below (s₁.setTop (entryFrame m #[.ref b, .int (Int32.ofNat o), .ref d, .int (Int32.ofNat q), .int (Int32.ofNat len)] 7)) (T7.setTop (mkF m 32 #[.val (.ref b), .val (.int (Int32.ofNat (o + i))), .val (.ref d), .val (.int (Int32.ofNat (q + i))), .val (.int (Int32.ofNat len)), .val (.int (Int32.ofNat i)), .val (.int (cv A (o + i)))] [])) := c6.trans (st7 _ (Steps.refl _))
      have c9 : Steps p.tables e below (s₁.setTop (entryFrame m #[.ref b, .int (Int32.ofNat o), .ref d, .int (Int32.ofNat q), .int (Int32.ofNat len)] 7)) (T7.setTop (mkF m 3 #[.val (.ref b), .val (.int (Int32.ofNat (o + i) + 1)), .val (.ref d), .val (.int (Int32.ofNat (q + i) + 1)), .val (.int (Int32.ofNat len)), .val (.int (Int32.ofNat i + 1)), .val (.int (cv A (o + i)))] [])) := c8.trans (by
        refine iincV X7.here hexec rfl 1 (hb hbytes d32) (by decide) rfl rfl ?_
        refine iincV X7.here hexec rfl 1 (hb hbytes d35) (by decide) rfl rfl ?_
        refine iincV X7.here hexec rfl 1 (hb hbytes d38) (by decide) rfl rfl ?_
        refine XS.goto X7.here hexec rfl (pc0 := 41) rfl (hb hbytes d41) (by decide) rfl ?_
        exact Steps.refl _)
      have c10 : Steps p.tables e below (s₁.setTop (entryFrame m #[.ref b, .int (Int32.ofNat o), .ref d, .int (Int32.ofNat q), .int (Int32.ofNat len)] 7)) (T7.setTop (mkF m 3 #[.val (.ref b), .val (.int (Int32.ofNat (o + (i + 1)))), .val (.ref d), .val (.int (Int32.ofNat (q + (i + 1)))), .val (.int (Int32.ofNat len)), .val (.int (Int32.ofNat (i + 1))), .val (.int (cv A (o + i)))] [])) := by
        have := c9
        rw [succ32, succ32, succ32] at this
        exact this
      exact ih (i + 1) (by omega) _ (Or.inr ⟨_, rfl, rfl⟩) T7 _ (by rw [copyLocs_step, ← List.append_assoc]; exact X7) (pl.trans p7) (fl.step (by omega) hlt (by simp)) c10
  obtain ⟨T9, B9, z9, X9, p9, f9, g9⟩ := loop len 0 (by omega) .unset (Or.inl rfl) s₁ B (by simpa [copyLocs] using X0) ⟨hB0.1, fun _ _ => rfl, rfl⟩ (Laid.zero _ _ _) c2
  have c11 : Steps p.tables e below (s₁.setTop (entryFrame m #[.ref b, .int (Int32.ofNat o), .ref d, .int (Int32.ofNat q), .int (Int32.ofNat len)] 7)) (T9.setTop (mkF m 46 #[.val (.ref b), .val (.int (Int32.ofNat (o + len))), .val (.ref d), .val (.int (Int32.ofNat (q + len))), .val (.int (Int32.ofNat len)), .val (.int (Int32.ofNat len)), z9] [.int (Int32.ofNat len)])) := g9.trans (by
    refine XS.iload X9.here hexec rfl (hb hbytes d3) rfl ?_
    refine XS.iload X9.here hexec rfl (hb hbytes d5) rfl ?_
    refine XS.icmpYes X9.here hexec rfl (pc0 := 7) rfl (hb hbytes d7) rfl (ii_ge_t (nlt32 (by omega) (Nat.le_refl _))) (by decide) rfl ?_
    refine XS.iload X9.here hexec rfl (hb hbytes d44) rfl ?_
    exact Steps.refl _)
  exact ⟨T9, some (.int (Int32.ofNat len)), _, _, _, X9, by simp, rfl, rfl, (fun h => by cases h), ⟨rfl, B9, p9.from hh0, f9⟩, fun fs hl => c11.trans (X9.ireturnOut hexec hret rfl (Or.inl rfl) (hb hbytes d46) hl)⟩
end Cmp5
namespace Cmp3
def yN : MethodName := ⟨"java/lang/StringUTF16", "compress", "([CII)[B"⟩
abbrev yB : ByteArray := jdk_52_method_16_code
theorem d0 : decode yB 0 = .ok (.iload_n 2, 1) := by decide +kernel
theorem d1 : decode yB 1 = .ok (.newarray .byte, 2) := by decide +kernel
theorem d3 : decode yB 3 = .ok (.astore_n 3, 1) := by decide +kernel
theorem d4 : decode yB 4 = .ok (.aload_n 0, 1) := by decide +kernel
theorem d5 : decode yB 5 = .ok (.iload_n 1, 1) := by decide +kernel
theorem d6 : decode yB 6 = .ok (.aload_n 3, 1) := by decide +kernel
theorem d7 : decode yB 7 = .ok (.iconst 0, 1) := by decide +kernel
theorem d8 : decode yB 8 = .ok (.iload_n 2, 1) := by decide +kernel
theorem d9 : decode yB 9 = .ok (.invokestatic 115, 3) := by decide +kernel
theorem d12 : decode yB 12 = .ok (.istore 4, 2) := by decide +kernel
theorem d14 : decode yB 14 = .ok (.iload 4, 2) := by decide +kernel
theorem d16 : decode yB 16 = .ok (.iload_n 2, 1) := by decide +kernel
theorem d17 : decode yB 17 = .ok (.if_icmp (.eq) 40, 3) := by decide +kernel
theorem d57 : decode yB 57 = .ok (.aload_n 3, 1) := by decide +kernel
theorem d58 : decode yB 58 = .ok (.areturn, 1) := by decide +kernel
def site : List Cond := [.arrayClass .byte, Cmp5.tab] ++ staticW U16 115 Cmp5.yN
def tab : Cond := tabOf yN yB 6 (some (.array .byte)) site
def P (b : Addr) (A : Cell) (o len : Nat) (args : Array Value) (s : State) : Prop := args = #[.ref b, .int (Int32.ofNat o), .int (Int32.ofNat len)] ∧ Ch b A s ∧ o + len ≤ A.slots.size ∧ len ≤ 536870912 ∧ ∀ i, i < len → ¬ 255 < cv A (o + i)
def E (b : Addr) (A : Cell) (o len : Nat) (r : Option Value) (s u : State) : Prop := NewArr .byte "[B" len (fun j => .int (lo8 (cv A (o + j)))) r s u ∧ u.heap.size = s.heap.size + 1
/-- no char of the range above 255: a new byte[] of their low bytes -/
theorem law (l : Launch) (b : Addr) (A : Cell) (o len : Nat) : Law l yN 3 3 1 18 yB 6 (some (.array .byte)) site (P b A o len) (E b A o len) [] 1 len := by
  refine Law.of_walk (plainFor_of_name (by decide +kernel)) (by decide +kernel) (by decide +kernel) (by decide) (fun _ _ h => by rw [h.1]; rfl) (fun _ U U' hal hh h => ⟨h.1, h.2.1.mv hal hh, h.2.2⟩) (fun r U U' V V' h1 hal h2 h => ⟨NewArr.mv r U U' V V' h1 hal h2 h.1, by rw [h1, h2]; exact h.2⟩) ?_
  intro p e s m args below meth c s₁ X0 hexec hbytes hml hret hlk hnm hown hh0 W hP
  obtain ⟨rfl, hA, l1, l2, hp⟩ := hP
  have a31 := hA.1.2.2.2
  have c1 : Steps p.tables e below (s₁.setTop (entryFrame m #[.ref b, .int (Int32.ofNat o), .int (Int32.ofNat len)] 6)) (s₁.setTop (mkF m 0 #[.val (.ref b), .val (.int (Int32.ofNat o)), .val (.int (Int32.ofNat len)), .unset, .unset, .unset] [])) := entry rfl
  have c2 : Steps p.tables e below (s₁.setTop (entryFrame m #[.ref b, .int (Int32.ofNat o), .int (Int32.ofNat len)] 6)) (s₁.setTop (mkF m 1 #[.val (.ref b), .val (.int (Int32.ofNat o)), .val (.int (Int32.ofNat len)), .unset, .unset, .unset] [.int (Int32.ofNat len)])) := c1.trans (by
    refine XS.iloadN X0.here hexec rfl (hb hbytes d0) rfl ?_
    exact Steps.refl _)
  obtain ⟨T3, B3, X3, ba3, bs3, bv3, bh3, bf3, st3⟩ := X0.anew hexec (atype := .byte) (wk W (.arrayClass .byte)) rfl (by show len * 1 ≤ _; omega) (by omega) (g := (mkF m 1 #[.val (.ref b), .val (.int (Int32.ofNat o)), .val (.int (Int32.ofNat len)), .unset, .unset, .unset] [.int (Int32.ofNat len)])) rfl (hb hbytes d1) (rest := []) rfl (Nat.le_refl _) (by show 0 + len ≤ len; omega)
  rw [hh0] at ba3 st3
  have kp3 : XT.Kept s T3 := (XT.Kept.of_eq hh0).push bh3
  have hA3 := hA.keep X3.warmed.alike (kp3 _ _ hA.1.1)
  have hne : b ≠ s.heap.size := hA.1.ne
  have c4 : Steps p.tables e below (s₁.setTop (entryFrame m #[.ref b, .int (Int32.ofNat o), .int (Int32.ofNat len)] 6)) (T3.setTop (mkF m 3 #[.val (.ref b), .val (.int (Int32.ofNat o)), .val (.int (Int32.ofNat len)), .unset, .unset, .unset] [.ref s.heap.size])) := c2.trans (st3 _ (Steps.refl _))
  have c5 : Steps p.tables e below (s₁.setTop (entryFrame m #[.ref b, .int (Int32.ofNat o), .int (Int32.ofNat len)] 6)) (T3.setTop (mkF m 9 #[.val (.ref b), .val (.int (Int32.ofNat o)), .val (.int (Int32.ofNat len)), .val (.ref s.heap.size), .unset, .unset] [.int (Int32.ofNat len), .int 0, .ref s.heap.size, .int (Int32.ofNat o), .ref b])) := c4.trans (by
    refine XS.astoreN X3.here hexec rfl (hb hbytes d3) rfl rfl rfl ?_
    refine XS.aloadN X3.here hexec rfl (hb hbytes d4) rfl rfl ?_
    refine XS.iloadN X3.here hexec rfl (hb hbytes d5) rfl ?_
    refine XS.aloadN X3.here hexec rfl (hb hbytes d6) rfl rfl ?_
    refine iconstV X3.here hexec rfl 0 (hb hbytes d7) (by decide) ?_
    refine XS.iloadN X3.here hexec rfl (hb hbytes d8) rfl ?_
    exact Steps.refl _)
  obtain ⟨v6, T6, X6, E6, g6⟩ := X3.callS hexec (Cmp5.law l b A s.heap.size B3 o 0 len) hown (wks W (staticW U16 115 Cmp5.yN)) (wk W Cmp5.tab) (W := 0) (Nat.le_of_ble_eq_true rfl) (Nat.le_of_ble_eq_true rfl) (Nat.le_refl _) (by show 0 + len + 0 ≤ len; omega) (g := (mkF m 9 #[.val (.ref b), .val (.int (Int32.ofNat o)), .val (.int (Int32.ofNat len)), .val (.ref s.heap.size), .unset, .unset] [.int (Int32.ofNat len), .int (Int32.ofNat 0), .ref s.heap.size, .int (Int32.ofNat o), .ref b])) rfl (by rw [hml]; rfl) c5 (argsL := [.ref b, .int (Int32.ofNat o), .ref s.heap.size, .int (Int32.ofNat 0), .int (Int32.ofNat len)]) (rest := []) rfl rfl (by show 2 * 0 + 0 ≤ _; decide) (hb hbytes d9) (⟨rfl, hA3, ba3, hne, l1, by rw [bs3]; simp, hp⟩)
  obtain ⟨rfl, B6, p6, f6⟩ := E6
  have c7 : Steps p.tables e below (s₁.setTop (entryFrame m #[.ref b, .int (Int32.ofNat o), .int (Int32.ofNat len)] 6)) (T6.setTop (mkF m 12 #[.val (.ref b), .val (.int (Int32.ofNat o)), .val (.int (Int32.ofNat len)), .val (.ref s.heap.size), .unset, .unset] [.int (Int32.ofNat len)])) := g6
  have c8 : Steps p.tables e below (s₁.setTop (entryFrame m #[.ref b, .int (Int32.ofNat o), .int (Int32.ofNat len)] 6)) (T6.setTop (mkF m 58 #[.val (.ref b), .val (.int (Int32.ofNat o)), .val (.int (Int32.ofNat len)), .val (.ref s.heap.size), .val (.int (Int32.ofNat len)), .unset] [.ref s.heap.size])) := c7.trans (by
    refine XS.istore X6.here hexec rfl (hb hbytes d12) rfl rfl ?_
    refine XS.iload X6.here hexec rfl (hb hbytes d14) rfl ?_
    refine XS.iloadN X6.here hexec rfl (hb hbytes d16) rfl ?_
    refine XS.icmpYes X6.here hexec rfl (pc0 := 17) rfl (hb hbytes d17) rfl (ii_eq_t rfl) (by decide) rfl ?_
    refine XS.aloadN X6.here hexec rfl (hb hbytes d57) rfl rfl ?_
    exact Steps.refl _)
  have X8 := X6.wide (L' := []) (cells' := 1) (slots' := len) (fun x hx hlt => by
    simp only [List.nil_append, copyLocs, List.mem_map, List.mem_range] at hx
    obtain ⟨i, -, rfl⟩ := hx
    exact absurd hlt (Nat.lt_irrefl _)) (Nat.le_refl _) (by omega)
  exact ⟨T6, some (.ref s.heap.size), _, _, _, X8, rfl, rfl, rfl, (fun h => by cases h), ⟨⟨rfl, B6, ba3.like (X3.warmed.alike.symm.trans X6.warmed.alike) p6.1 f6.1 f6.2.1 f6.2.2.1, f6.2.1.trans bv3, by rw [X6.warmed.alike.findClass, f6.1]; exact bf3, by rw [f6.2.2.1, bs3]; simp, fun j hj => by rw [f6.2.2.2 j, if_pos (by omega)]; rfl, kp3.put p6 (Nat.le_refl _)⟩, by rw [p6.2.2, bh3, hh0]; simp⟩, fun fs hl => c8.trans (X8.areturnOut hexec rfl hret rfl (hb hbytes d58) hl)⟩
end Cmp3
namespace CodL
def yN : MethodName := ⟨"java/lang/StringUTF16", "coderFromArrayLen", "([BI)B"⟩
abbrev yB : ByteArray := jdk_52_method_15_code
theorem d0 : decode yB 0 = .ok (.iload_n 1, 1) := by decide +kernel
theorem d1 : decode yB 1 = .ok (.aload_n 0, 1) := by decide +kernel
theorem d2 : decode yB 2 = .ok (.arraylength, 1) := by decide +kernel
theorem d3 : decode yB 3 = .ok (.isub, 1) := by decide +kernel
theorem d4 : decode yB 4 = .ok (.bipush 31, 2) := by decide +kernel
theorem d6 : decode yB 6 = .ok (.iushr, 1) := by decide +kernel
theorem d7 : decode yB 7 = .ok (.i2b, 1) := by decide +kernel
theorem d8 : decode yB 8 = .ok (.ireturn, 1) := by decide +kernel
def site : List Cond := []
def tab : Cond := tabOf yN yB 2 (some .byte) site
def P (d : Addr) (B : Cell) (args : Array Value) (s : State) : Prop := args = #[.ref d, .int (Int32.ofNat B.slots.size)] ∧ Arr .byte d B s
def E (r : Option Value) (s u : State) : Prop := XT.PureE (some (.int 0)) r s u
/-- an array as long as the number of chars: LATIN1 -/
theorem law (l : Launch) (d : Addr) (B : Cell) : Law l yN 2 2 0 0 yB 2 (some .byte) site (P d B) E [] 0 0 := by
  refine Law.of_walk (plainFor_of_name (by decide +kernel)) (by decide +kernel) (by decide +kernel) (by decide) (fun _ _ h => by rw [h.1]; rfl) (fun _ U U' hal hh h => ⟨h.1, h.2.mv hal hh⟩) (fun r U U' V V' h1 hal h2 h => XT.PureE.mv r U U' V V' h1 hal h2 h) ?_
  intro p e s m args below meth c s₁ X0 hexec hbytes hml hret hlk hnm hown hh0 W hP
  obtain ⟨rfl, hB⟩ := hP
  have hB0 := hB.mv X0.warmed.alike hh0
  have c1 : Steps p.tables e below (s₁.setTop (entryFrame m #[.ref d, .int (Int32.ofNat B.slots.size)] 2)) (s₁.setTop (mkF m 0 #[.val (.ref d), .val (.int (Int32.ofNat B.slots.size))] [])) := entry rfl
  have c2 : Steps p.tables e below (s₁.setTop (entryFrame m #[.ref d, .int (Int32.ofNat B.slots.size)] 2)) (s₁.setTop (mkF m 2 #[.val (.ref d), .val (.int (Int32.ofNat B.slots.size))] [.ref d, .int (Int32.ofNat B.slots.size)])) := c1.trans (by
    refine XS.iloadN X0.here hexec rfl (hb hbytes d0) rfl ?_
    refine XS.aloadN X0.here hexec rfl (hb hbytes d1) rfl rfl ?_
    exact Steps.refl _)
  have c3 : Steps p.tables e below (s₁.setTop (entryFrame m #[.ref d, .int (Int32.ofNat B.slots.size)] 2)) (s₁.setTop (mkF m 8 #[.val (.ref d), .val (.int (Int32.ofNat B.slots.size))] [.int (lo8 (ushr (Int32.ofNat B.slots.size - Int32.ofNat B.slots.size) 31))])) := c2.trans (by
    refine X0.alen hexec hB0 rfl rfl (hb hbytes d2) ?_
    refine XS.isub X0.here hexec rfl (hb hbytes d3) rfl ?_
    refine bipushV X0.here hexec rfl 31 (hb hbytes d4) (by decide) ?_
    refine iushr X0.here hexec rfl (hb hbytes d6) rfl ?_
    refine i2b X0.here hexec rfl (hb hbytes d7) rfl ?_
    exact Steps.refl _)
  have e0 : lo8 (ushr (Int32.ofNat B.slots.size - Int32.ofNat B.slots.size) 31) = 0 := by rw [Int32.sub_self]; decide
  rw [e0] at c3
  exact ⟨s₁, some (.int 0), _, _, _, X0, rfl, rfl, rfl, (fun h => by cases h), ⟨rfl, hh0⟩, fun fs hl => c3.trans (X0.ireturnOut hexec hret rfl (Or.inr (Or.inr (Or.inl rfl))) (hb hbytes d8) hl)⟩
end CodL
/-- the String at a is Latin-1 over a new byte[] (the heap's one new cell): the low bytes of the len chars of A from o on; every cell but a is kept -/
def Got (a : Addr) (D : Cell) (fV fC : Field) (A : Cell) (o len : Nat) (r : Option Value) (s u : State) : Prop := r = none ∧ ∃ D' V : Cell, Blank "java/lang/String" a D' u ∧ Same D D' [fV.slot, fC.slot] ∧ D'.slots[fV.slot]? = some (.ref s.heap.size) ∧ D'.slots[fC.slot]? = some (.int 0) ∧ Arr .byte s.heap.size V u ∧ V.vm = .none ∧ u.vm.findClass "[B" = some V.cls ∧ V.slots.size = len ∧ (∀ j, j < len → V.slots[j]? = some (.int (lo8 (cv A (o + j))))) ∧ (∀ (y : Addr) (c : Cell), y ≠ a → s.heap[y]? = some c → u.heap[y]? = some c) ∧ u.heap.size = s.heap.size + 1
theorem Got.mv {a : Addr} {D A : Cell} {fV fC : Field} {o len : Nat} : ∀ r (U U' V V' : State), U'.heap = U.heap → V.vm.Alike V'.vm → V'.heap = V.heap → Got a D fV fC A o len r U V → Got a D fV fC A o len r U' V' :=
  fun r U U' V V' h1 hal h2 ⟨e0, D', X, a1, a2, a3, a4, a5, a6, a7, a8, a9, a10, a11⟩ => ⟨e0, D', X, a1.mv hal h2, a2, by rw [h1]; exact a3, a4, by rw [h1]; exact a5.mv hal h2, a6, by rw [hal.findClass]; exact a7, a8, a9, by rw [h1, h2]; exact a10, by rw [h1, h2]; exact a11⟩
namespace New4
def yN : MethodName := ⟨"java/lang/String", "<init>", "([CIILjava/lang/Void;)V"⟩
abbrev yB : ByteArray := jdk_42_method_149_code
theorem d0 : decode yB 0 = .ok (.aload_n 0, 1) := by decide +kernel
theorem d1 : decode yB 1 = .ok (.invokespecial 1, 3) := by decide +kernel
theorem d4 : decode yB 4 = .ok (.iload_n 3, 1) := by decide +kernel
theorem d5 : decode yB 5 = .ok (.ifCond (.ne) 22, 3) := by decide +kernel
theorem d27 : decode yB 27 = .ok (.getstatic 38, 3) := by decide +kernel
theorem d30 : decode yB 30 = .ok (.ifCond (.eq) 28, 3) := by decide +kernel
theorem d33 : decode yB 33 = .ok (.aload_n 1, 1) := by decide +kernel
theorem d34 : decode yB 34 = .ok (.iload_n 2, 1) := by decide +kernel
theorem d35 : decode yB 35 = .ok (.iload_n 3, 1) := by decide +kernel
theorem d36 : decode yB 36 = .ok (.invokestatic 177, 3) := by decide +kernel
theorem d39 : decode yB 39 = .ok (.astore 5, 2) := by decide +kernel
theorem d41 : decode yB 41 = .ok (.aload_n 0, 1) := by decide +kernel
theorem d42 : decode yB 42 = .ok (.aload 5, 2) := by decide +kernel
theorem d44 : decode yB 44 = .ok (.iload_n 3, 1) := by decide +kernel
theorem d45 : decode yB 45 = .ok (.invokestatic 47, 3) := by decide +kernel
theorem d48 : decode yB 48 = .ok (.putfield 15, 3) := by decide +kernel
theorem d51 : decode yB 51 = .ok (.aload_n 0, 1) := by decide +kernel
theorem d52 : decode yB 52 = .ok (.aload 5, 2) := by decide +kernel
theorem d54 : decode yB 54 = .ok (.putfield 9, 3) := by decide +kernel
theorem d57 : decode yB 57 = .ok (.return_, 1) := by decide +kernel
def site : List Cond := [.fieldLink "java/lang/String" 38 "java/lang/String" "COMPACT_STRINGS" "Z", Cmp3.tab, CodL.tab, .laysFinal "java/lang/String" "java/lang/String" "value" "[B", .fieldLink "java/lang/String" 9 "java/lang/String" "value" "[B", .laysFinal "java/lang/String" "java/lang/String" "coder" "B", .fieldLink "java/lang/String" 15 "java/lang/String" "coder" "B"] ++ objW "java/lang/String" 1 ++ staticW "java/lang/String" 177 Cmp3.yN ++ staticW "java/lang/String" 47 CodL.yN
def tab : Cond := tabOf yN yB 6 none site
def P (a : Addr) (D : Cell) (fV fC : Field) (b : Addr) (A : Cell) (z : Int32) (o len : Nat) (args : Array Value) (s : State) : Prop := args = #[.ref a, .ref b, .int (Int32.ofNat o), .int (Int32.ofNat len), .null] ∧ Blank "java/lang/String" a D s ∧ Found "java/lang/String" "value" "[B" fV s ∧ Found "java/lang/String" "coder" "B" fC s ∧ Ch b A s ∧ StaticIs s "java/lang/String" "COMPACT_STRINGS" "Z" (.int z) ∧ ¬ z = 0 ∧ 0 < len ∧ o + len ≤ A.slots.size ∧ len ≤ 536870912 ∧ ∀ i, i < len → ¬ 255 < cv A (o + i)
def E (a : Addr) (D : Cell) (fV fC : Field) (A : Cell) (o len : Nat) (r : Option Value) (s u : State) : Prop := Got a D fV fC A o len r s u
/-- len > 0, no char of the range above 255: a Latin-1 String of their low bytes -/
theorem law (l : Launch) (a : Addr) (D : Cell) (fV fC : Field) (b : Addr) (A : Cell) (z : Int32) (o len : Nat) : Law l yN 5 4 2 35 yB 6 none site (P a D fV fC b A z o len) (E a D fV fC A o len) [⟨a, fC.slot⟩, ⟨a, fV.slot⟩] 1 len := by
  refine Law.of_walk (plainFor_of_name (by decide +kernel)) (by decide +kernel) (by decide +kernel) (by decide) (fun _ _ h => by rw [h.1]; rfl) (fun _ U U' hal hh h => ⟨h.1, h.2.1.mv hal hh, h.2.2.1.al hal, h.2.2.2.1.al hal, h.2.2.2.2.1.mv hal hh, h.2.2.2.2.2.1.there hal hh, h.2.2.2.2.2.2⟩) (fun r U U' V V' h1 hal h2 h => Got.mv r U U' V V' h1 hal h2 h) ?_
  intro p e s m args below meth c s₁ X0 hexec hbytes hml hret hlk hnm hown hh0 W hP
  obtain ⟨rfl, hB, f1, f2, hA, s1, hz, l0, l1, l2, hp⟩ := hP
  have a31 := hA.1.2.2.2
  have c1 : Steps p.tables e below (s₁.setTop (entryFrame m #[.ref a, .ref b, .int (Int32.ofNat o), .int (Int32.ofNat len), .null] 6)) (s₁.setTop (mkF m 0 #[.val (.ref a), .val (.ref b), .val (.int (Int32.ofNat o)), .val (.int (Int32.ofNat len)), .val .null, .unset] [])) := entry rfl
  have c2 : Steps p.tables e below (s₁.setTop (entryFrame m #[.ref a, .ref b, .int (Int32.ofNat o), .int (Int32.ofNat len), .null] 6)) (s₁.setTop (mkF m 1 #[.val (.ref a), .val (.ref b), .val (.int (Int32.ofNat o)), .val (.int (Int32.ofNat len)), .val .null, .unset] [.ref a])) := c1.trans (by
    refine XS.aloadN X0.here hexec rfl (hb hbytes d0) rfl rfl ?_
    exact Steps.refl _)
  obtain ⟨T3, X3, q3, st3⟩ := X0.oinit hexec hown (wks W (objW "java/lang/String" 1)) (g := (mkF m 1 #[.val (.ref a), .val (.ref b), .val (.int (Int32.ofNat o)), .val (.int (Int32.ofNat len)), .val .null, .unset] [.ref a])) rfl (by rw [hml]; rfl) (rest := []) rfl (hb hbytes d1) (W := 0) (by show 2 * 0 + 0 ≤ _; decide) (Nat.le_of_ble_eq_true rfl) (Nat.le_of_ble_eq_true rfl)
  have hh3 := q3.trans hh0
  have c4 : Steps p.tables e below (s₁.setTop (entryFrame m #[.ref a, .ref b, .int (Int32.ofNat o), .int (Int32.ofNat len), .null] 6)) (T3.setTop (mkF m 27 #[.val (.ref a), .val (.ref b), .val (.int (Int32.ofNat o)), .val (.int (Int32.ofNat len)), .val .null, .unset] [])) := (c2.trans (st3 _ (Steps.refl _))).trans (by
    refine XS.iloadN X3.here hexec rfl (hb hbytes d4) rfl ?_
    refine XS.ifYes X3.here hexec rfl (pc0 := 5) rfl (hb hbytes d5) rfl (i0_ne_t (nz32 (by omega) l0)) (by decide) rfl ?_
    exact Steps.refl _)
  obtain ⟨T5, X5, q5, st5⟩ := X3.sget hexec hown (wk W (.fieldLink "java/lang/String" 38 "java/lang/String" "COMPACT_STRINGS" "Z")) s1 (fun _ _ h => by rw [hh3]; exact h) (g := (mkF m 27 #[.val (.ref a), .val (.ref b), .val (.int (Int32.ofNat o)), .val (.int (Int32.ofNat len)), .val .null, .unset] [])) rfl (hb hbytes d27)
  have hh5 := q5.trans hh3
  have c6 : Steps p.tables e below (s₁.setTop (entryFrame m #[.ref a, .ref b, .int (Int32.ofNat o), .int (Int32.ofNat len), .null] 6)) (T5.setTop (mkF m 30 #[.val (.ref a), .val (.ref b), .val (.int (Int32.ofNat o)), .val (.int (Int32.ofNat len)), .val .null, .unset] [.int z])) := c4.trans (st5 _ (Steps.refl _))
  have c7 : Steps p.tables e below (s₁.setTop (entryFrame m #[.ref a, .ref b, .int (Int32.ofNat o), .int (Int32.ofNat len), .null] 6)) (T5.setTop (mkF m 36 #[.val (.ref a), .val (.ref b), .val (.int (Int32.ofNat o)), .val (.int (Int32.ofNat len)), .val .null, .unset] [.int (Int32.ofNat len), .int (Int32.ofNat o), .ref b])) := c6.trans (by
    refine XS.ifNo X5.here hexec rfl (hb hbytes d30) rfl (i0_eq_f hz) ?_
    refine XS.aloadN X5.here hexec rfl (hb hbytes d33) rfl rfl ?_
    refine XS.iloadN X5.here hexec rfl (hb hbytes d34) rfl ?_
    refine XS.iloadN X5.here hexec rfl (hb hbytes d35) rfl ?_
    exact Steps.refl _)
  obtain ⟨v8, T8, X8, E8, g8⟩ := X5.callS hexec (Cmp3.law l b A o len) hown (wks W (staticW "java/lang/String" 177 Cmp3.yN)) (wk W Cmp3.tab) (W := 0) (Nat.le_of_ble_eq_true rfl) (Nat.le_of_ble_eq_true rfl) (Nat.le_refl _) (by show 0 + len ≤ len; omega) (g := (mkF m 36 #[.val (.ref a), .val (.ref b), .val (.int (Int32.ofNat o)), .val (.int (Int32.ofNat len)), .val .null, .unset] [.int (Int32.ofNat len), .int (Int32.ofNat o), .ref b])) rfl (by rw [hml]; rfl) c7 (argsL := [.ref b, .int (Int32.ofNat o), .int (Int32.ofNat len)]) (rest := []) rfl rfl (by show 2 * 0 + 0 ≤ _; decide) (hb hbytes d36) (⟨rfl, hA.mv X5.warmed.alike hh5, l1, l2, hp⟩)
  obtain ⟨e8, z8⟩ := E8
  obtain ⟨rfl, N, n1, n2, n3, n4, n5, n6⟩ := NewArr.mv _ T5 s _ _ hh5.symm (Vm.Alike.refl _) rfl e8
  rw [hh5] at z8
  have hB1 := hB.keep X8.warmed.alike (n6 _ _ hB.1)
  have hne : s.heap.size ≠ a := (Nat.ne_of_lt (Array.getElem?_eq_some_iff.mp hB.1).1).symm
  have c9 : Steps p.tables e below (s₁.setTop (entryFrame m #[.ref a, .ref b, .int (Int32.ofNat o), .int (Int32.ofNat len), .null] 6)) (T8.setTop (mkF m 39 #[.val (.ref a), .val (.ref b), .val (.int (Int32.ofNat o)), .val (.int (Int32.ofNat len)), .val .null, .unset] [.ref s.heap.size])) := g8
  have c10 : Steps p.tables e below (s₁.setTop (entryFrame m #[.ref a, .ref b, .int (Int32.ofNat o), .int (Int32.ofNat len), .null] 6)) (T8.setTop (mkF m 45 #[.val (.ref a), .val (.ref b), .val (.int (Int32.ofNat o)), .val (.int (Int32.ofNat len)), .val .null, .val (.ref s.heap.size)] [.int (Int32.ofNat N.slots.size), .ref s.heap.size, .ref a])) := by
    have hc : Steps p.tables e below (s₁.setTop (entryFrame m #[.ref a, .ref b, .int (Int32.ofNat o), .int (Int32.ofNat len), .null] 6)) (T8.setTop (mkF m 45 #[.val (.ref a), .val (.ref b), .val (.int (Int32.ofNat o)), .val (.int (Int32.ofNat len)), .val .null, .val (.ref s.heap.size)] [.int (Int32.ofNat len), .ref s.heap.size, .ref a])) := c9.trans (by
      refine XS.astore X8.here hexec rfl (hb hbytes d39) rfl rfl rfl ?_
      refine XS.aloadN X8.here hexec rfl (hb hbytes d41) rfl rfl ?_
      refine XS.aload X8.here hexec rfl (hb hbytes d42) rfl rfl ?_
      refine XS.iloadN X8.here hexec rfl (hb hbytes d44) rfl ?_
      exact Steps.refl _)
    rw [n4]; exact hc
  obtain ⟨v11, T11, X11, E11, g11⟩ := X8.callS hexec (CodL.law l s.heap.size N) hown (wks W (staticW "java/lang/String" 47 CodL.yN)) (wk W CodL.tab) (W := 1) (Nat.le_of_ble_eq_true rfl) (Nat.le_of_ble_eq_true rfl) (Nat.le_refl _) (by show 0 + len + 0 ≤ len; omega) (g := (mkF m 45 #[.val (.ref a), .val (.ref b), .val (.int (Int32.ofNat o)), .val (.int (Int32.ofNat len)), .val .null, .val (.ref s.heap.size)] [.int (Int32.ofNat N.slots.size), .ref s.heap.size, .ref a])) rfl (by rw [hml]; rfl) c10 (argsL := [.ref s.heap.size, .int (Int32.ofNat N.slots.size)]) (rest := [.ref a]) rfl rfl (by show 2 * 0 + (1 + 0) ≤ _; decide) (hb hbytes d45) (⟨rfl, n1⟩)
  obtain ⟨rfl, q11⟩ := E11
  have hB11 := hB1.mv (X8.warmed.alike.symm.trans X11.warmed.alike) q11
  have c12 : Steps p.tables e below (s₁.setTop (entryFrame m #[.ref a, .ref b, .int (Int32.ofNat o), .int (Int32.ofNat len), .null] 6)) (T11.setTop (mkF m 48 #[.val (.ref a), .val (.ref b), .val (.int (Int32.ofNat o)), .val (.int (Int32.ofNat len)), .val .null, .val (.ref s.heap.size)] [.int 0, .ref a])) := g11
  obtain ⟨T13, X13, p13, bl13, sl13, st13⟩ := X11.finit hexec hown (wk W (.fieldLink "java/lang/String" 15 "java/lang/String" "coder" "B")) (Or.inr ⟨_, (wk W (.laysFinal "java/lang/String" "java/lang/String" "coder" "B"))⟩) (Or.inl ⟨rfl, hnm⟩) f2 (Or.inl rfl) hB11 (t := .byte) (by decide +kernel) rfl (g := (mkF m 48 #[.val (.ref a), .val (.ref b), .val (.int (Int32.ofNat o)), .val (.int (Int32.ofNat len)), .val .null, .val (.ref s.heap.size)] [.int 0, .ref a])) rfl (rest := []) rfl (hb hbytes d48)
  have c14 : Steps p.tables e below (s₁.setTop (entryFrame m #[.ref a, .ref b, .int (Int32.ofNat o), .int (Int32.ofNat len), .null] 6)) (T13.setTop (mkF m 54 #[.val (.ref a), .val (.ref b), .val (.int (Int32.ofNat o)), .val (.int (Int32.ofNat len)), .val .null, .val (.ref s.heap.size)] [.ref s.heap.size, .ref a])) := (c12.trans (st13 _ (Steps.refl _))).trans (by
    refine XS.aloadN X13.here hexec rfl (hb hbytes d51) rfl rfl ?_
    refine XS.aload X13.here hexec rfl (hb hbytes d52) rfl rfl ?_
    exact Steps.refl _)
  obtain ⟨T15, X15, p15, bl15, sl15, st15⟩ := X13.finit hexec hown (wk W (.fieldLink "java/lang/String" 9 "java/lang/String" "value" "[B")) (Or.inr ⟨_, (wk W (.laysFinal "java/lang/String" "java/lang/String" "value" "[B"))⟩) (Or.inl ⟨rfl, hnm⟩) f1 (Or.inl rfl) bl13 (t := (.array .byte)) (by decide +kernel) rfl (g := (mkF m 54 #[.val (.ref a), .val (.ref b), .val (.int (Int32.ofNat o)), .val (.int (Int32.ofNat len)), .val .null, .val (.ref s.heap.size)] [.ref s.heap.size, .ref a])) rfl (rest := []) rfl (hb hbytes d54)
  have c16 : Steps p.tables e below (s₁.setTop (entryFrame m #[.ref a, .ref b, .int (Int32.ofNat o), .int (Int32.ofNat len), .null] 6)) (T15.setTop (mkF m 57 #[.val (.ref a), .val (.ref b), .val (.int (Int32.ofNat o)), .val (.int (Int32.ofNat len)), .val .null, .val (.ref s.heap.size)] [])) := c14.trans (st15 _ (Steps.refl _))
  have ap := apart (Or.inr ⟨_, (wk W (.laysFinal "java/lang/String" "java/lang/String" "value" "[B"))⟩) (Or.inr ⟨_, (wk W (.laysFinal "java/lang/String" "java/lang/String" "coder" "B"))⟩) f1 f2 (t₁ := .array .byte) (t₂ := .byte) (by decide +kernel) (by decide +kernel) (by decide)
  have al := X8.warmed.alike.symm.trans X15.warmed.alike
  have n7 : T11.heap[s.heap.size]? = some N := by rw [q11]; exact n1.1
  exact ⟨T15, none, _, _, _, X15, by simp, rfl, by omega, (fun _ => rfl), ⟨rfl, _, N, bl15, ((Same.refl D _).set _ (by simp)).set _ (by simp), sl15, (Cell.slots_setSlot_ne _ ap).trans sl13, n1.keep al (p15.other hne (p13.other hne n7)), n2, by rw [al.findClass]; exact n3, n4, n5, fun y c h1 h2 => p15.other h1 (p13.other h1 (by rw [q11]; exact n6 y c h2)), by rw [p15.2.2, p13.2.2, q11]; exact z8⟩, fun fs hl => c16.trans (X15.returnOut hexec hret (hb hbytes d57) hl)⟩
end New4
namespace New1
def yN : MethodName := ⟨"java/lang/String", "<init>", "([C)V"⟩
abbrev yB : ByteArray := jdk_42_method_3_code
theorem d0 : decode yB 0 = .ok (.aload_n 0, 1) := by decide +kernel
theorem d1 : decode yB 1 = .ok (.aload_n 1, 1) := by decide +kernel
theorem d2 : decode yB 2 = .ok (.iconst 0, 1) := by decide +kernel
theorem d3 : decode yB 3 = .ok (.aload_n 1, 1) := by decide +kernel
theorem d4 : decode yB 4 = .ok (.arraylength, 1) := by decide +kernel
theorem d5 : decode yB 5 = .ok (.aconst_null, 1) := by decide +kernel
theorem d6 : decode yB 6 = .ok (.invokespecial 27, 3) := by decide +kernel
theorem d9 : decode yB 9 = .ok (.return_, 1) := by decide +kernel
def site : List Cond := [New4.tab] ++ initW "java/lang/String" 27 New4.yN
def tab : Cond := tabOf yN yB 2 none site
def P (a : Addr) (D : Cell) (fV fC : Field) (b : Addr) (A : Cell) (z : Int32) (args : Array Value) (s : State) : Prop := args = #[.ref a, .ref b] ∧ Blank "java/lang/String" a D s ∧ Found "java/lang/String" "value" "[B" fV s ∧ Found "java/lang/String" "coder" "B" fC s ∧ Ch b A s ∧ StaticIs s "java/lang/String" "COMPACT_STRINGS" "Z" (.int z) ∧ ¬ z = 0 ∧ 0 < A.slots.size ∧ A.slots.size ≤ 536870912 ∧ ∀ i, i < A.slots.size → ¬ 255 < cv A i
def E (a : Addr) (D : Cell) (fV fC : Field) (A : Cell) (r : Option Value) (s u : State) : Prop := Got a D fV fC A 0 A.slots.size r s u
/-- new String(chars), not empty, no char above 255: a Latin-1 String of their low bytes -/
theorem law (l : Launch) (a : Addr) (D : Cell) (fV fC : Field) (b : Addr) (A : Cell) (z : Int32) : Law l yN 2 1 3 52 yB 2 none site (P a D fV fC b A z) (E a D fV fC A) [⟨a, fC.slot⟩, ⟨a, fV.slot⟩] 1 A.slots.size := by
  refine Law.of_walk (plainFor_of_name (by decide +kernel)) (by decide +kernel) (by decide +kernel) (by decide) (fun _ _ h => by rw [h.1]; rfl) (fun _ U U' hal hh h => ⟨h.1, h.2.1.mv hal hh, h.2.2.1.al hal, h.2.2.2.1.al hal, h.2.2.2.2.1.mv hal hh, h.2.2.2.2.2.1.there hal hh, h.2.2.2.2.2.2⟩) (fun r U U' V V' h1 hal h2 h => Got.mv r U U' V V' h1 hal h2 h) ?_
  intro p e s m args below meth c s₁ X0 hexec hbytes hml hret hlk hnm hown hh0 W hP
  obtain ⟨rfl, hB, f1, f2, hA, s1, hz, l0, l2, hp⟩ := hP
  have c1 : Steps p.tables e below (s₁.setTop (entryFrame m #[.ref a, .ref b] 2)) (s₁.setTop (mkF m 0 #[.val (.ref a), .val (.ref b)] [])) := entry rfl
  have c2 : Steps p.tables e below (s₁.setTop (entryFrame m #[.ref a, .ref b] 2)) (s₁.setTop (mkF m 6 #[.val (.ref a), .val (.ref b)] [.null, .int (Int32.ofNat A.slots.size), .int 0, .ref b, .ref a])) := c1.trans (by
    refine XS.aloadN X0.here hexec rfl (hb hbytes d0) rfl rfl ?_
    refine XS.aloadN X0.here hexec rfl (hb hbytes d1) rfl rfl ?_
    refine iconstV X0.here hexec rfl 0 (hb hbytes d2) (by decide) ?_
    refine XS.aloadN X0.here hexec rfl (hb hbytes d3) rfl rfl ?_
    refine X0.alen hexec (hA.1.mv X0.warmed.alike hh0) rfl rfl (hb hbytes d4) ?_
    refine XS.aconstNull X0.here hexec rfl (hb hbytes d5) ?_
    exact Steps.refl _)
  obtain ⟨v3, T3, X3, E3, g3⟩ := X0.callN hexec (New4.law l a D fV fC b A z 0 A.slots.size) rfl hown (wks W (initW "java/lang/String" 27 New4.yN)) (W New4.tab (by simp only [site, List.mem_cons, List.mem_append, true_or, or_true])) (W := 0) (Nat.le_of_ble_eq_true rfl) (Nat.le_of_ble_eq_true rfl) (Nat.le_refl _) (by show 0 + A.slots.size ≤ A.slots.size; omega) (g := (mkF m 6 #[.val (.ref a), .val (.ref b)] [.null, .int (Int32.ofNat A.slots.size), .int (Int32.ofNat 0), .ref b, .ref a])) rfl (by rw [hml]; rfl) c2 (argsL := [.ref b, .int (Int32.ofNat 0), .int (Int32.ofNat A.slots.size), .null]) (rest := []) rfl rfl (by show 2 * 0 + 0 ≤ _; decide) (hb hbytes d6) (⟨rfl, hB.mv X0.warmed.alike hh0, f1.al X0.warmed.alike, f2.al X0.warmed.alike, hA.mv X0.warmed.alike hh0, s1.there X0.warmed.alike hh0, hz, l0, by omega, l2, fun i hi => by rw [Nat.zero_add]; exact hp i hi⟩)
  have e0 := Got.mv _ s₁ s _ _ hh0.symm (Vm.Alike.refl _) rfl E3
  obtain rfl := e0.1
  have c4 : Steps p.tables e below (s₁.setTop (entryFrame m #[.ref a, .ref b] 2)) (T3.setTop (mkF m 9 #[.val (.ref a), .val (.ref b)] [])) := g3
  exact ⟨T3, none, _, _, _, X3, by simp, rfl, by omega, (fun _ => rfl), e0, fun fs hl => c4.trans (X3.returnOut hexec hret (hb hbytes d9) hl)⟩
theorem pays {l : Launch} {R : Room} {p : Program} {e : Env} {below : List Frame} {s : State} {sargs : Array Value} {len W : Nat} (a : Addr) (D : Cell) (fV fC : Field) (b : Addr) (A : Cell) (z : Int32) (htab : tab.before sargs s = true) (hfr : 4 ≤ R.frames) (hlo : W + 65 ≤ R.locals) :
    Back l R p e below s sargs yN len W (fun A₁ a₁ => A₁.cells + 1 ≤ R.cells ∧ A₁.slots + A.slots.size ≤ R.slots ∧ P a D fV fC b A z a₁ A₁.U) (fun A₁ _ v₁ B₁ => E a D fV fC A v₁ A₁.U B₁.U ∧ B₁.locs = A₁.locs ++ [⟨a, fC.slot⟩, ⟨a, fV.slot⟩] ∧ B₁.cells = A₁.cells + 1 ∧ B₁.slots = A₁.slots + A.slots.size) :=
  (law l a D fV fC b A z).pays htab hfr (by omega)
end New1
/-- the byte, read back as charAt reads it, is the char -/
theorem lo8_mask {x : Int32} (h0 : ¬ x < 0) (h1 : ¬ 255 < x) : lo8 x &&& 255 = x := by
  have t : ∀ k : Fin 256, lo8 (Int32.ofNat k.val) &&& 255 = Int32.ofNat k.val := by decide +kernel
  rw [Int32.lt_iff_toInt_lt] at h0 h1
  have e0 : (0 : Int32).toInt = 0 := rfl
  have e1 : (255 : Int32).toInt = 255 := rfl
  obtain ⟨k, hk⟩ : ∃ k : Nat, x.toInt = k := ⟨x.toInt.toNat, by omega⟩
  have hx : x = Int32.ofNat k := Int32.toInt_inj.mp (by rw [hk, Int32.toInt_ofNat_small (by omega)])
  rw [hx]
  exact t ⟨k, by omega⟩
end StrChars
namespace StrChars.Road
open Jvm Sem ClassFile Op Lib Jvm.Stand Jvm.Free Jvm.Free.XT
open Jvm.Lib.Cold (StaticIs)
abbrev ST : String := "java/lang/String"
/-- every table word that New1's law asks, flat -/
abbrev words : List Jvm.Cond := [.code New1.yN New1.yB 2 none, .initialized ST, .methodLink ST 27 New4.yN, .instanceMethod New4.yN,
  .code New4.yN New4.yB 6 none, .fieldLink ST 38 ST "COMPACT_STRINGS" "Z", .laysFinal ST ST "value" "[B", .fieldLink ST 9 ST "value" "[B", .laysFinal ST ST "coder" "B", .fieldLink ST 15 ST "coder" "B",
  .methodLink ST 1 Lib.objectInit, .instanceMethod Lib.objectInit, .code Lib.objectInit ⟨#[0xb1]⟩ 1 none, .methodLink ST 177 Cmp3.yN, .static Cmp3.yN, .methodLink ST 47 CodL.yN, .static CodL.yN,
  .code Cmp3.yN Cmp3.yB 6 (some (.array .byte)), .initialized U16, .arrayClass .byte, .methodLink U16 115 Cmp5.yN, .static Cmp5.yN, .code Cmp5.yN Cmp5.yB 7 (some .int), .code CodL.yN CodL.yB 2 (some .byte)]
theorem tab_of {a : Array Value} {s : State} (h : ∀ w ∈ words, w.before a s = true) : New1.tab.before a s = true := by
  have h5 : Cmp5.tab.before a s = true := unparts (wk h (.code Cmp5.yN Cmp5.yB 7 (some .int))) (wks h (.initialized Cmp5.yN.cls :: Cmp5.site))
  have hc : CodL.tab.before a s = true := unparts (wk h (.code CodL.yN CodL.yB 2 (some .byte))) (wks h (.initialized CodL.yN.cls :: CodL.site))
  have q5 : ∀ w ∈ Cmp5.tab :: words, w.before a s = true := fun w hw => (List.mem_cons.mp hw).elim (fun e => e ▸ h5) (h w)
  have h3 : Cmp3.tab.before a s = true := unparts (wk q5 (.code Cmp3.yN Cmp3.yB 6 (some (.array .byte)))) (wks q5 (.initialized Cmp3.yN.cls :: Cmp3.site))
  have q3 : ∀ w ∈ Cmp3.tab :: CodL.tab :: words, w.before a s = true := fun w hw => (List.mem_cons.mp hw).elim (fun e => e ▸ h3) fun hw => (List.mem_cons.mp hw).elim (fun e => e ▸ hc) (h w)
  have h4 : New4.tab.before a s = true := unparts (wk q3 (.code New4.yN New4.yB 6 none)) (wks q3 (.initialized New4.yN.cls :: New4.site))
  have q4 : ∀ w ∈ New4.tab :: words, w.before a s = true := fun w hw => (List.mem_cons.mp hw).elim (fun e => e ▸ h4) (h w)
  exact unparts (wk q4 (.code New1.yN New1.yB 2 none)) (wks q4 (.initialized New1.yN.cls :: New1.site))
/-- the words ride from the start Z to the walk's own state -/
theorem moved {Z s : State} {a0 args : Array Value} (hZ : Z.Warmed39 s.vm) (hw : ∀ d ∈ words, d.before a0 Z = true) : ∀ d ∈ words, d.before args s = true := fun d hd => by
  have q := hw d hd
  have t : ∀ d ∈ words, d = .arrayClass .byte ∨ (d.onTables && d.keepsFace) = true := by decide +kernel
  rcases t d hd with rfl | t
  · exact RoadKit.mvA hZ q
  · exact RoadKit.mv hZ q t
/-- WHAT COMES BACK, over the tables of the start Z: h the heap at the call, h' behind it -/
def Q (Z : State) (x : Addr) (A : Cell) (h : Heap) (v : Option Value) (h' : Heap) (L : List Loc) : Prop := v = none ∧ (∀ y ∈ L, y.base = x) ∧ RoadKit.Keep h h' [x] ∧ h'.size = h.size + 1 ∧ RoadKit.Exa Z h' x ST ∧ RoadKit.Fld Z h' x ST "value" "[B" (.ref h.size) ∧ RoadKit.Fld Z h' x ST "coder" "B" (.int 0) ∧
  (∃ V : Cell, RoadKit.Arr Z h' h.size V .byte ∧ V.vm = .none ∧ Z.vm.findClass "[B" = some V.cls ∧ V.slots.size = A.slots.size ∧ ∀ j, j < A.slots.size → V.slots[j]? = some (.int (lo8 (cv A j)))) ∧
  ∀ (O n d : String) (w : Value), RoadKit.Fld Z h x O n d w → RoadKit.slotOf Z O n d ≠ RoadKit.slotOf Z ST "value" "[B" → RoadKit.slotOf Z O n d ≠ RoadKit.slotOf Z ST "coder" "B" → RoadKit.Fld Z h' x O n d w
/-- **new String(chars) AT A CALL, IN THE ROAD'S FORM**: for specialBack behind newO: x the fresh String, b the char[] with the cell A -/
theorem back {p : Program} {l : Launch} {e : Env} {R : Room} {s : State} {args : Array Value} {below : List Frame} {len W : Nat} {Z : State} {a0 : Array Value} {h : Heap} (hZ : Z.Warmed39 s.vm) (hw : ∀ d ∈ words, d.before a0 Z = true) {kI : Nat} (wi : (Jvm.Cond.instantiable ST kI).before a0 Z = true)
    {x b : Addr} {A : Cell} {z : Int32} {v0 c0 : Value} (E : RoadKit.Exa Z h x ST) (V : RoadKit.Fld Z h x ST "value" "[B" v0) (C : RoadKit.Fld Z h x ST "coder" "B" c0) (K : RoadKit.Arr Z h b A .char) (hty : Typed .char A) (S : RoadKit.Sta Z h ST "COMPACT_STRINGS" "Z" (.int z)) (hz : ¬ z = 0)
    (l0 : 0 < A.slots.size) (l2 : A.slots.size ≤ 536870912) (hp : ∀ i, i < A.slots.size → ¬ 255 < cv A i) (hfr : 4 ≤ R.frames) (hlo : W + 65 ≤ R.locals) :
    Back l R p e below s args New1.yN len W (fun P a => a = #[.ref x, .ref b] ∧ P.U.heap = h ∧ P.cells + 1 ≤ R.cells ∧ P.slots + A.slots.size ≤ R.slots)
      (fun P _ v B => ∃ L, Q Z x A h v B.U.heap L ∧ B.locs = P.locs ++ L ∧ B.cells = P.cells + 1 ∧ B.slots = P.slots + A.slots.size) := by
  intro m meth c P g ig mk a X hg hsize hdg hW hn hp'
  obtain ⟨rfl, rfl, r1, r2⟩ := hp'
  have al : Z.vm.Alike P.U.vm := hZ.alike.trans X.warmed.alike
  obtain ⟨D, cfV, kV, iV, fV, hD, gV, stV, knV, obV, asV, slV⟩ := id V
  obtain ⟨D', cfC, kC, iC, fC, hD', gC, stC, -, -, asC, slC⟩ := id C
  cases hD.symm.trans hD'
  obtain ⟨D2, kD, e1, e2, e3, e4, e5⟩ := id E
  cases hD.symm.trans e1
  obtain ⟨c2, k2, i1, i2, i3, -⟩ := Cond.instantiable_spec wi
  cases e2.symm.trans i1
  cases e3.symm.trans i2
  obtain ⟨kU, u1, u2⟩ := al.2.2 _ _ e3
  have hB : Blank ST x D P.U := ⟨hD, ⟨knV, fun q hq => by rw [hq] at obV; cases obV⟩, by rw [al.findClass]; exact e2, kU, u1, by rw [u2]; exact i3, by rw [u2]; exact e5 i3⟩
  have F1 : Found ST "value" "[B" fV P.U := ⟨SBG.found_only al ⟨cfV, kV, iV, gV⟩, stV⟩
  have F2 : Found ST "coder" "B" fC P.U := ⟨SBG.found_only al ⟨cfC, kC, iC, gC⟩, stC⟩
  have hA : Ch b A P.U := ⟨⟨K.1, State.isArrayOf_alike al K.2.1, K.2.2, by omega⟩, hty⟩
  have hS : StaticIs P.U ST "COMPACT_STRINGS" "Z" (.int z) := by
    obtain ⟨cfS, iS, kS, fS, st, cS, t1, t2, t3, t4, t5, t6, t7⟩ := S
    exact StaticIs.there (s := { Z with heap := P.U.heap }) ⟨cfS, iS, kS, fS, st, cS, t1, t2, t3, t4, t5, (fun q => by rw [q] at t6; cases t6), t7⟩ al rfl
  obtain ⟨v, B, X', ⟨⟨hv, E', V', q1, q2, q3, q4, q5, q6, q7, q8, q9, q10, q11⟩, hl, hc, hs⟩, st⟩ := New1.pays x D fV fC b A z (tab_of (moved hZ hw)) hfr hlo m meth c P g ig mk _ X hg hsize hdg hW hn ⟨r1, r2, rfl, hB, F1, F2, hA, hS, hz, l0, l2, hp⟩
  have al' : Z.vm.Alike B.U.vm := hZ.alike.trans X'.warmed.alike
  have hsz : E'.slots.size = D.slots.size := by
    obtain ⟨-, -, -, kB, w1, w2, w3⟩ := q1
    obtain ⟨kB', y1, y2⟩ := al'.2.2 _ _ e3
    rw [q2.2.1] at w1
    cases w1.symm.trans y1
    rw [w3, e5 i3, y2]
  refine ⟨v, B, X', ⟨_, ⟨hv, ?_, ⟨by omega, fun y cy hy hn' => q10 y cy (by simpa using hn') hy, fun y cy hy => ?_⟩, q11, ⟨E', _, q1.1, by rw [q2.2.1]; exact e2, by rw [q2.2.1]; exact e3, by rw [q2.1]; exact obV, fun _ => by rw [hsz]; exact e5 i3⟩,
    ⟨E', cfV, kV, iV, fV, q1.1, gV, stV, by rw [q2.1]; exact knV, by rw [q2.1]; exact obV, by rw [q2.2.1]; exact asV, q3⟩, ⟨E', cfC, kC, iC, fC, q1.1, gC, stC, by rw [q2.1]; exact knV, by rw [q2.1]; exact obV, by rw [q2.2.1]; exact asC, q4⟩,
    ⟨V', ⟨q5.1, State.isArrayOf_alike al'.symm q5.2.1, q5.2.2.1⟩, q6, by rw [← al'.findClass]; exact q7, q8, fun j hj => by have := q9 j hj; rwa [Nat.zero_add] at this⟩, fun O n d w F n1 n2 => ?_⟩, hl, hc, hs⟩, st⟩
  · intro y hy
    simp only [List.mem_cons, List.not_mem_nil, or_false] at hy
    rcases hy with rfl | rfl <;> rfl
  · by_cases q : y = x
    · subst q
      cases hD.symm.trans hy
      exact ⟨E', q1.1, q2.2.1, q2.1, hsz⟩
    · exact ⟨cy, q10 y cy q hy, rfl, rfl, rfl⟩
  · obtain ⟨D3, cf, k, i, f, g1, g2, g3, g4, g5, g6, g7⟩ := F
    cases hD.symm.trans g1
    simp only [RoadKit.slotOf, g2, gV, gC, Option.map_some, Option.getD_some] at n1 n2
    exact ⟨E', cf, k, i, f, q1.1, g2, g3, by rw [q2.1]; exact g4, by rw [q2.1]; exact g5, by rw [q2.2.1]; exact g6, by rw [q2.2.2 f.slot (by simp [n1, n2])]; exact g7⟩
end StrChars.Road
namespace StrChars.Road
open Jvm Sem ClassFile Op Lib Jvm.Stand Jvm.Free Jvm.Free.XT
/-- WHAT COMES BACK, the byte[] as a list of values -/
def QA (Z : State) (x : Addr) (zn : Int32) (cs : List Int32) (h : Heap) (v : Option Value) (h' : Heap) (L : List Loc) : Prop := v = none ∧ (∀ y ∈ L, y.base = x) ∧ RoadKit.Keep h h' [x] ∧ h'.size = h.size + 1 ∧ RoadKit.Exa Z h' x ST ∧ RoadKit.Fld Z h' x ST "value" "[B" (.ref h.size) ∧ RoadKit.Fld Z h' x ST "coder" "B" (.int 0) ∧
  (∃ kb, Z.vm.findClass "[B" = some kb ∧ RoadKit.Arv Z h' h.size kb .byte zn (cs.map fun c => .int (lo8 c)) (.int 0)) ∧
  ∀ (O n d : String) (w : Value), RoadKit.Fld Z h x O n d w → RoadKit.slotOf Z O n d ≠ RoadKit.slotOf Z ST "value" "[B" → RoadKit.slotOf Z O n d ≠ RoadKit.slotOf Z ST "coder" "B" → RoadKit.Fld Z h' x O n d w
/-- **new String(chars) AT A CALL, THE ARRAYS AS LISTS**: the char[] at b holds cs, not empty, no char above 255 -/
theorem backArv {p : Program} {l : Launch} {e : Env} {R : Room} {s : State} {args : Array Value} {below : List Frame} {len W : Nat} {Z : State} {a0 : Array Value} {h : Heap} (hZ : Z.Warmed39 s.vm) (hw : ∀ d ∈ words, d.before a0 Z = true) {kI : Nat} (wi : (Jvm.Cond.instantiable ST kI).before a0 Z = true)
    {x b : Addr} {k : ClassId} {zn z : Int32} {cs : List Int32} {dv v0 c0 : Value} (E : RoadKit.Exa Z h x ST) (V : RoadKit.Fld Z h x ST "value" "[B" v0) (C : RoadKit.Fld Z h x ST "coder" "B" c0) (K : RoadKit.Arv Z h b k .char zn (cs.map Value.int) dv) (S : RoadKit.Sta Z h ST "COMPACT_STRINGS" "Z" (.int z)) (hz : ¬ z = 0)
    (hlen : zn.toNatClampNeg = cs.length) (h0 : 0 < cs.length) (hbig : cs.length ≤ 536870912) (hall : ∀ c ∈ cs, ¬ 255 < c) (hfr : 4 ≤ R.frames) (hlo : W + 65 ≤ R.locals) :
    Back l R p e below s args New1.yN len W (fun P a => a = #[.ref x, .ref b] ∧ P.U.heap = h ∧ P.cells + 1 ≤ R.cells ∧ P.slots + cs.length ≤ R.slots)
      (fun P _ v B => ∃ L, QA Z x zn cs h v B.U.heap L ∧ B.locs = P.locs ++ L ∧ B.cells = P.cells + 1 ∧ B.slots = P.slots + cs.length) := by
  obtain ⟨A, K1, K2, K3, K4, K5, K6⟩ := K
  have e : A.slots.size = cs.length := K3.trans hlen
  have hat : ∀ (i : Nat) (hi : i < cs.length), A.slots[i]? = some (.int cs[i]) := fun i hi => by rw [K5 i (by omega)]; simp [List.getD_eq_getElem?_getD, hi]
  have hcv : ∀ (i : Nat) (hi : i < cs.length), cv A i = cs[i] := fun i hi => by unfold cv; rw [hat i hi]
  have hty : Typed .char A := fun i v hv => by
    have hi : i < A.slots.size := (Array.getElem?_eq_some_iff.mp hv).1
    have q := K5 i hi
    rw [hv] at q
    rw [Option.some.inj q]
    exact K6 i hi
  refine Back.mono (back hZ hw wi E V C K1 hty S hz (by omega) (by omega) (fun i hi => by rw [hcv i (by omega)]; exact hall _ (List.getElem_mem _)) hfr hlo) (fun P a hp => ⟨hp.1, hp.2.1, hp.2.2.1, by rw [e]; exact hp.2.2.2⟩) (fun P a v B hp hq => ?_)
  obtain ⟨L, ⟨q1, q2, q3, q4, q5, q6, q7, ⟨V', v1, v2, v3, v4, v5⟩, q9⟩, hl, hc, hs⟩ := hq
  refine ⟨L, ⟨q1, q2, q3, q4, q5, q6, q7, ⟨V'.cls, v3, V', v1, rfl, by rw [v4, e, hlen], K4, fun i hi => ?_, fun i hi => ?_⟩, q9⟩, hl, hc, by rw [hs, e]⟩
  · have hi' : i < cs.length := by omega
    rw [v5 i (by omega), hcv i hi']; simp [List.getD_eq_getElem?_getD, hi']
  · have hi' : i < cs.length := by omega
    simp only [List.getD_eq_getElem?_getD, List.getElem?_map, List.getElem?_eq_getElem hi', Option.map_some, Option.getD_some]
    exact fits_lo8 _
end StrChars.Road
namespace StrChars.Road
open Jvm Sem ClassFile Op Lib Jvm.Stand Jvm.Free Jvm.Free.XT
/-- WHAT COMES BACK, in the writer's own shape -/
def QV (Z : State) (x : Addr) (N : Int32) (bs : List Int32) (h : Heap) (n0 : Nat) (v : Option Value) (h' : Heap) (L : List Loc) : Prop := v = none ∧ RoadKit.Fr n0 L ∧ RoadKit.Keep h h' [x] ∧ RoadKit.Exa Z h' x ST ∧ RoadKit.Fld Z h' x ST "coder" "B" (.int 0) ∧
  ∃ (t : Addr) (kb : ClassId), n0 ≤ t ∧ h.size ≤ t ∧ ¬ t = x ∧ RoadKit.Fld Z h' x ST "value" "[B" (.ref t) ∧ RoadKit.Arv Z h' t kb .byte N (bs.map Value.int) (.int 0)
/-- **new String(chars) AT A CALL, FOR THE WRITER**: a char[] of n known ints, each 0 to 255 -/
theorem backV {p : Program} {l : Launch} {e : Env} {R : Room} {s : State} {args : Array Value} {below : List Frame} {len W : Nat} {Z : State} {a0 : Array Value} {h : Heap} (hZ : Z.Warmed39 s.vm) (hw : ∀ d ∈ words, d.before a0 Z = true) {kI : Nat} (wi : (Jvm.Cond.instantiable ST kI).before a0 Z = true)
    {x b : Addr} {kC : ClassId} {cs bs : List Int32} {d v0 c0 : Value} {z N : Int32} {n n0 : Nat} (hx0 : n0 ≤ x) (hh0 : n0 ≤ h.size) (E : RoadKit.Exa Z h x ST) (V : RoadKit.Fld Z h x ST "value" "[B" v0) (C : RoadKit.Fld Z h x ST "coder" "B" c0) (K : RoadKit.Arv Z h b kC .char N (cs.map Value.int) d) (S : RoadKit.Sta Z h ST "COMPACT_STRINGS" "Z" (.int z)) (hz : ¬ z = 0)
    (hn : cs.length = n) (hN : N = Int32.ofNat n) (l0 : 0 < n) (l2 : n ≤ 4000) (hp : ∀ c ∈ cs, ¬ c < 0 ∧ ¬ (255 : Int32) < c) (hb : bs = cs.map (fun c => c.toInt8.toInt32)) (hfr : 4 ≤ R.frames) (hlo : W + 65 ≤ R.locals) :
    Back l R p e below s args (⟨"java/lang/String", "<init>", "([C)V"⟩ : MethodName) len W (fun P a => a = #[.ref x, .ref b] ∧ P.U.heap = h ∧ P.cells + 1 ≤ R.cells ∧ P.slots + n ≤ R.slots)
      (fun P _ v B => ∃ L, QV Z x N bs h n0 v B.U.heap L ∧ B.locs = P.locs ++ L ∧ B.cells = P.cells + 1 ∧ B.slots = P.slots + n) := by
  subst hn hN hb
  refine Back.mono (backArv hZ hw wi E V C K S hz (n32 (by omega)) l0 (by omega) (fun c hc => (hp c hc).2) hfr hlo) (fun P a hp => hp) (fun P a v B hp hq => ?_)
  obtain ⟨L, ⟨q1, q2, q3, q4, q5, q6, q7, ⟨kb, v1, v2⟩, q9⟩, hl, hc, hs⟩ := hq
  exact ⟨L, ⟨q1, fun y hy => by rw [q2 y hy]; exact hx0, q3, q5, q7, h.size, kb, hh0, Nat.le_refl _, Nat.ne_of_gt E.lt, q6, by rw [List.map_map]; exact v2⟩, hl, hc, hs⟩
end StrChars.Road
namespace StrChars
open Jvm Sem ClassFile Op Lib Jvm.Stand Jvm.Free.XT Jvm.Free.ALB Jvm.Free.JM Jvm.Free
open Jvm.Lib.Cold (StaticIs)
def hi8 (x : Int32) : Int32 := lo8 (x >>> ((8 : Int32) &&& 31))
/-- what StringUTF16.getChar makes of two bytes -/
def pairCh (u v : Int32) : Int32 := (((u &&& 255) <<< ((0 : Int32) &&& 31)) ||| ((v &&& 255) <<< ((8 : Int32) &&& 31))).toUInt32.toUInt16.toUInt32.toInt32
theorem lo8_and (x : Int32) : (lo8 x &&& 255).toBitVec.toNat = x.toBitVec.toNat % 256 := by
  have h : (lo8 x).toBitVec = (x.toBitVec.signExtend 8).signExtend 32 := by rw [lo8, Int8.toBitVec_toInt32, Int32.toBitVec_toInt8]
  rw [Int32.toBitVec_and, BitVec.toNat_and, h]
  have e : ((x.toBitVec.signExtend 8).signExtend 32).toNat % 256 = x.toBitVec.toNat % 256 := by
    rw [BitVec.toNat_signExtend]
    have hlt := x.toBitVec.isLt
    simp only [BitVec.toNat_setWidth, BitVec.toNat_signExtend]
    split <;> split <;> omega
  rw [← e]
  exact Nat.and_two_pow_sub_one_eq_mod _ 8
theorem pair_says {c : Int32} (h0 : ¬ c < 0) (h1 : ¬ 65535 < c) : pairCh (lo8 c) (hi8 c) = c := by
  rw [Int32.lt_iff_toInt_lt] at h0 h1
  have e0 : (0 : Int32).toInt = 0 := rfl
  have e1 : (65535 : Int32).toInt = 65535 := rfl
  have hc : c.toInt = c.toBitVec.toNat := by
    have := c.toBitVec.isLt
    have e : c.toInt = c.toBitVec.toInt := rfl
    rw [e] at h0 h1
    rw [e]
    rw [BitVec.toInt_eq_toNat_cond] at h0 h1 ⊢
    split at h0 <;> split <;> omega
  have hn : c.toBitVec.toNat < 65536 := by omega
  have a1 := lo8_and c
  have a2 : (hi8 c &&& 255).toBitVec.toNat = c.toBitVec.toNat / 256 := by
    rw [hi8, lo8_and]
    have e : ((8 : Int32) &&& 31) = 8 := by decide
    rw [e, Int32.toBitVec_shiftRight]
    have e2 : ((8 : Int32).toBitVec.smod 32) = 8#32 := by decide
    rw [e2, BitVec.sshiftRight_eq', BitVec.toNat_sshiftRight_of_msb_false (by rw [BitVec.msb_eq_false_iff_two_mul_lt]; omega)]
    show c.toBitVec.toNat >>> 8 % 256 = _
    rw [Nat.shiftRight_eq_div_pow]
    omega
  unfold pairCh
  apply Int32.toBitVec_inj.mp
  apply BitVec.eq_of_toNat_eq
  have f0 : ((0 : Int32) &&& 31) = 0 := by decide
  have f8 : ((8 : Int32) &&& 31) = 8 := by decide
  rw [f0, f8]
  have g : (((lo8 c &&& 255) <<< (0 : Int32)) ||| ((hi8 c &&& 255) <<< (8 : Int32))).toBitVec.toNat = c.toBitVec.toNat := by
    rw [Int32.toBitVec_or, Int32.toBitVec_shiftLeft, Int32.toBitVec_shiftLeft]
    have s0 : ((0 : Int32).toBitVec.smod 32) = 0#32 := by decide
    have s8 : ((8 : Int32).toBitVec.smod 32) = 8#32 := by decide
    rw [s0, s8, BitVec.toNat_or]
    simp only [BitVec.shiftLeft_eq', BitVec.toNat_shiftLeft, a1, a2]
    show (c.toBitVec.toNat % 256) <<< 0 % 2 ^ 32 ||| (c.toBitVec.toNat / 256) <<< 8 % 2 ^ 32 = _
    rw [Nat.shiftLeft_zero, Nat.mod_eq_of_lt (show c.toBitVec.toNat % 256 < 2 ^ 32 by omega), Nat.mod_eq_of_lt (show (c.toBitVec.toNat / 256) <<< 8 < 2 ^ 32 by rw [Nat.shiftLeft_eq]; omega), Nat.or_comm, ← Nat.shiftLeft_add_eq_or_of_lt (by omega), Nat.shiftLeft_eq]
    omega
  show BitVec.toNat (((((lo8 c &&& 255) <<< (0 : Int32)) ||| ((hi8 c &&& 255) <<< (8 : Int32))).toBitVec.setWidth 16).setWidth 32) = _
  rw [BitVec.toNat_setWidth, BitVec.toNat_setWidth, g]
  omega
end StrChars
namespace StrChars
open Jvm Sem ClassFile Op Lib Jvm.Stand Jvm.Free.XT Jvm.Free.ALB Jvm.Free.JM Jvm.Free
open Jvm.Lib.Cold (StaticIs)
/-- the array's cell V codes the n chars f 0 .. f (n - 1) by the coder cd, as the JDK does: coder 1 just where some char is above 255 -/
def Cod (cd : Int32) (n : Nat) (f : Nat → Int32) (V : Cell) : Prop := (cd = 0 ∧ V.slots.size = n ∧ ∀ j, j < n → V.slots[j]? = some (.int (lo8 (f j))) ∧ ¬ 255 < f j) ∨ (cd = 1 ∧ V.slots.size = 2 * n ∧ (∀ j, j < n → V.slots[2 * j]? = some (.int (lo8 (f j))) ∧ V.slots[2 * j + 1]? = some (.int (hi8 (f j)))) ∧ ∃ j, j < n ∧ 255 < f j)
/-- **x is a String of the n chars f 0 .. f (n - 1)**, Latin-1 or UTF-16; its array at t has the cell V -/
def Txt (x t : Addr) (V : Cell) (cd : Int32) (n : Nat) (f : Nat → Int32) (U : State) : Prop := Exact "java/lang/String" x U ∧ Has x "java/lang/String" "value" "[B" (.ref t) U ∧ Has x "java/lang/String" "coder" "B" (.int cd) U ∧ XT.Arr .byte t V U ∧ Cod cd n f V ∧ ∀ j, j < n → ¬ f j < 0 ∧ ¬ 65535 < f j
theorem Txt.mv {x t : Addr} {V : Cell} {cd : Int32} {n : Nat} {f : Nat → Int32} {U U' : State} (h : Txt x t V cd n f U) (hal : U.vm.Alike U'.vm) (hh : U'.heap = U.heap) : Txt x t V cd n f U' := ⟨h.1.mv hal hh, h.2.1.mv hal hh, h.2.2.1.mv hal hh, h.2.2.2.1.mv hal hh, h.2.2.2.2⟩
end StrChars
namespace StrChars.Road
open Jvm Sem ClassFile Op Lib Jvm.Stand Jvm.Free Jvm.Free.XT
open Jvm.Lib.Cold (StaticIs)
theorem consq {a : Array Value} {s : State} {c : Jvm.Cond} {L : List Jvm.Cond} (h0 : c.before a s = true) (h : ∀ w ∈ L, w.before a s = true) : ∀ w ∈ c :: L, w.before a s = true := fun w hw => (List.mem_cons.mp hw).elim (fun e => e ▸ h0) (h w)
/-- the bytes of the chars cs, low before high -/
def wideBytes : List Int32 → List Value
  | [] => []
  | c :: cs => .int (lo8 c) :: .int (hi8 c) :: wideBytes cs
theorem wide_lo (d : Value) : ∀ (cs : List Int32) (j : Nat), j < cs.length → (wideBytes cs).getD (2 * j) d = .int (lo8 (cs.getD j 0))
  | [], j, h => absurd h (Nat.not_lt_zero j)
  | c :: cs, 0, _ => rfl
  | c :: cs, j + 1, h => by
    have q := wide_lo d cs j (by simpa using h)
    rw [show 2 * (j + 1) = 2 * j + 1 + 1 from by omega]
    simpa [wideBytes] using q
theorem wide_hi (d : Value) : ∀ (cs : List Int32) (j : Nat), j < cs.length → (wideBytes cs).getD (2 * j + 1) d = .int (hi8 (cs.getD j 0))
  | [], j, h => absurd h (Nat.not_lt_zero j)
  | c :: cs, 0, _ => rfl
  | c :: cs, j + 1, h => by
    have q := wide_hi d cs j (by simpa using h)
    rw [show 2 * (j + 1) + 1 = 2 * j + 1 + 1 + 1 from by omega]
    simpa [wideBytes] using q
theorem low_at (d : Value) (cs : List Int32) (j : Nat) (h : j < cs.length) : (cs.map fun c => Value.int (lo8 c)).getD j d = .int (lo8 (cs.getD j 0)) := by
  simp [List.getD_eq_getElem?_getD, h]
/-- an array of N2 bytes vs codes the chars cs by the coder cd -/
def CodA (cs : List Int32) (cd N2 : Int32) (vs : List Value) : Prop := (cd = 0 ∧ N2 = Int32.ofNat cs.length ∧ vs = (cs.map fun c => Value.int (lo8 c)) ∧ ∀ c ∈ cs, ¬ 255 < c) ∨ (cd = 1 ∧ N2 = Int32.ofNat (2 * cs.length) ∧ vs = wideBytes cs ∧ ∃ c ∈ cs, 255 < c)
theorem CodA.cod {cs : List Int32} {cd N2 : Int32} {vs : List Value} {V : Cell} (h : CodA cs cd N2 vs) (hn : 2 * cs.length < 2 ^ 31) (hs : V.slots.size = N2.toNatClampNeg) (hv : RoadKit.Has V vs (.int 0)) : Cod cd cs.length (fun j => cs.getD j 0) V := by
  rcases h with ⟨rfl, rfl, rfl, h⟩ | ⟨rfl, rfl, rfl, c, hc, hw⟩
  · rw [n32 (by omega)] at hs
    exact Or.inl ⟨rfl, hs, fun j hj => ⟨by rw [hv j (by omega), low_at _ _ _ hj], by
      have e : cs.getD j 0 = cs[j] := by simp [List.getD_eq_getElem?_getD, hj]
      show ¬ 255 < cs.getD j 0
      rw [e]; exact h _ (List.getElem_mem _)⟩⟩
  · rw [n32 (by omega)] at hs
    obtain ⟨j, hj, rfl⟩ := List.getElem_of_mem hc
    exact Or.inr ⟨rfl, hs, fun j hj => ⟨by rw [hv _ (by omega), wide_lo _ _ _ hj], by rw [hv _ (by omega), wide_hi _ _ _ hj]⟩, j, hj, by
      have e : cs.getD j 0 = cs[j] := by simp [List.getD_eq_getElem?_getD, hj]
      show 255 < cs.getD j 0
      rw [e]; exact hw⟩
/-- an object of exactly java/lang/String, its two fields found: as the laws ask it -/
theorem strObj {Z U : State} {a0 : Array Value} {kI : Nat} (wi : (Jvm.Cond.instantiable ST kI).before a0 Z = true) (al : Z.vm.Alike U.vm) {x : Addr} {v0 c0 : Value} (E : RoadKit.Exa Z U.heap x ST) (V : RoadKit.Fld Z U.heap x ST "value" "[B" v0) (C : RoadKit.Fld Z U.heap x ST "coder" "B" c0) :
    ∃ (D : Cell) (fV fC : Field), Blank ST x D U ∧ Found ST "value" "[B" fV U ∧ Found ST "coder" "B" fC U ∧ D.slots[fV.slot]? = some v0 ∧ D.slots[fC.slot]? = some c0 ∧ RoadKit.slotOf Z ST "value" "[B" = fV.slot ∧ RoadKit.slotOf Z ST "coder" "B" = fC.slot := by
  obtain ⟨D, cfV, kV, iV, fV, hD, gV, stV, knV, obV, asV, slV⟩ := V
  obtain ⟨D', cfC, kC, iC, fC, hD', gC, stC, -, -, asC, slC⟩ := C
  cases hD.symm.trans hD'
  obtain ⟨D2, kD, e1, e2, e3, e4, e5⟩ := E
  cases hD.symm.trans e1
  obtain ⟨c2, k2, i1, i2, i3, -⟩ := Cond.instantiable_spec wi
  cases e2.symm.trans i1
  cases e3.symm.trans i2
  obtain ⟨kU, u1, u2⟩ := al.2.2 _ _ e3
  exact ⟨D, fV, fC, ⟨hD, ⟨knV, fun q hq => by rw [hq] at obV; cases obV⟩, by rw [al.findClass]; exact e2, kU, u1, by rw [u2]; exact i3, by rw [u2]; exact e5 i3⟩, ⟨SBG.found_only al ⟨cfV, kV, iV, gV⟩, stV⟩, ⟨SBG.found_only al ⟨cfC, kC, iC, gC⟩, stC⟩, slV, slC, by simp [RoadKit.slotOf, gV], by simp [RoadKit.slotOf, gC]⟩
theorem sta_is {Z U : State} (al : Z.vm.Alike U.vm) {C n d : String} {v : Value} (S : RoadKit.Sta Z U.heap C n d v) : StaticIs U C n d v := by
  obtain ⟨cfS, iS, kS, fS, st, cS, t1, t2, t3, t4, t5, t6, t7⟩ := S
  exact StaticIs.there (s := { Z with heap := U.heap }) ⟨cfS, iS, kS, fS, st, cS, t1, t2, t3, t4, t5, (fun q => by rw [q] at t6; cases t6), t7⟩ al rfl
end StrChars.Road
namespace StrChars
open Jvm Sem ClassFile Op Lib Jvm.Stand Jvm.Free.XT Jvm.Free.ALB Jvm.Free.JM Jvm.Free
open Jvm.Lib.Cold (StaticIs)
/-- what place i of a byte[]'s cell holds -/
def yv (A : Cell) (i : Nat) : Int32 := match A.slots[i]? with | some (.int x) => x | _ => 0
theorem yv_get {a : Addr} {A : Cell} {U : State} (h : XT.Arr .byte a A U) (ht : Typed .byte A) {i : Nat} (hi : i < A.slots.size) : A.slots[i]? = some (.int (yv A i)) := by
  have e := Array.getElem?_eq_getElem hi
  have f := ht i _ e
  unfold yv; rw [e]
  generalize A.slots[i] = v at f
  cases v <;> simp [fits] at f ⊢
/-- the two arrays are equal, place for place -/
def EqC (A B : Cell) : Prop := A.slots.size = B.slots.size ∧ ∀ i, i < A.slots.size → yv A i = yv B i
/-- a boolean that says whether p -/
def Says01 (q : Prop) (r : Option Value) (s u : State) : Prop := ∃ v : Int32, r = some (.int v) ∧ u.heap = s.heap ∧ ((v = 1 ∧ q) ∨ (v = 0 ∧ ¬ q))
theorem Says01.mv {q : Prop} : ∀ r (U U' V V' : State), U'.heap = U.heap → V.vm.Alike V'.vm → V'.heap = V.heap → Says01 q r U V → Says01 q r U' V' :=
  fun r U U' V V' h1 _ h2 ⟨v, a, b, c⟩ => ⟨v, a, by rw [h1, h2]; exact b, c⟩
namespace LEq
def yN : MethodName := ⟨"java/lang/StringLatin1", "equals", "([B[B)Z"⟩
abbrev yB : ByteArray := jdk_43_method_13_code
theorem d0 : decode yB 0 = .ok (.aload_n 0, 1) := by decide +kernel
theorem d1 : decode yB 1 = .ok (.arraylength, 1) := by decide +kernel
theorem d2 : decode yB 2 = .ok (.aload_n 1, 1) := by decide +kernel
theorem d3 : decode yB 3 = .ok (.arraylength, 1) := by decide +kernel
theorem d4 : decode yB 4 = .ok (.if_icmp (.ne) 30, 3) := by decide +kernel
theorem d7 : decode yB 7 = .ok (.iconst 0, 1) := by decide +kernel
theorem d8 : decode yB 8 = .ok (.istore_n 2, 1) := by decide +kernel
theorem d9 : decode yB 9 = .ok (.iload_n 2, 1) := by decide +kernel
theorem d10 : decode yB 10 = .ok (.aload_n 0, 1) := by decide +kernel
theorem d11 : decode yB 11 = .ok (.arraylength, 1) := by decide +kernel
theorem d12 : decode yB 12 = .ok (.if_icmp (.ge) 20, 3) := by decide +kernel
theorem d15 : decode yB 15 = .ok (.aload_n 0, 1) := by decide +kernel
theorem d16 : decode yB 16 = .ok (.iload_n 2, 1) := by decide +kernel
theorem d17 : decode yB 17 = .ok (.baload, 1) := by decide +kernel
theorem d18 : decode yB 18 = .ok (.aload_n 1, 1) := by decide +kernel
theorem d19 : decode yB 19 = .ok (.iload_n 2, 1) := by decide +kernel
theorem d20 : decode yB 20 = .ok (.baload, 1) := by decide +kernel
theorem d21 : decode yB 21 = .ok (.if_icmp (.eq) 5, 3) := by decide +kernel
theorem d24 : decode yB 24 = .ok (.iconst 0, 1) := by decide +kernel
theorem d25 : decode yB 25 = .ok (.ireturn, 1) := by decide +kernel
theorem d26 : decode yB 26 = .ok (.iinc 2 1, 3) := by decide +kernel
theorem d29 : decode yB 29 = .ok (.goto (-20), 3) := by decide +kernel
theorem d32 : decode yB 32 = .ok (.iconst 1, 1) := by decide +kernel
theorem d33 : decode yB 33 = .ok (.ireturn, 1) := by decide +kernel
theorem d34 : decode yB 34 = .ok (.iconst 0, 1) := by decide +kernel
theorem d35 : decode yB 35 = .ok (.ireturn, 1) := by decide +kernel
def site : List Cond := []
def tab : Cond := tabOf yN yB 3 (some .boolean) site
def P (a : Addr) (A : Cell) (b : Addr) (B : Cell) (args : Array Value) (s : State) : Prop := args = #[.ref a, .ref b] ∧ XT.Arr .byte a A s ∧ Typed .byte A ∧ XT.Arr .byte b B s ∧ Typed .byte B
/-- whether two byte[] are equal, place for place -/
theorem law (l : Launch) (a : Addr) (A : Cell) (b : Addr) (B : Cell) : Law l yN 2 2 0 0 yB 3 (some .boolean) site (P a A b B) (Says01 (EqC A B)) [] 0 0 := by
  refine Law.of_walk (plainFor_of_name (by decide +kernel)) (by decide +kernel) (by decide +kernel) (by decide) (fun _ _ h => by rw [h.1]; rfl) (fun _ U U' hal hh h => ⟨h.1, h.2.1.mv hal hh, h.2.2.1, h.2.2.2.1.mv hal hh, h.2.2.2.2⟩) (fun r U U' V V' h1 hal h2 h => Says01.mv r U U' V V' h1 hal h2 h) ?_
  intro p e s m args below meth c s₁ X0 hexec hbytes hml hret hlk hnm hown hh0 W hP
  obtain ⟨rfl, hA, tA, hB, tB⟩ := hP
  have a31 := hA.2.2.2
  have b31 := hB.2.2.2
  have hA0 := hA.mv X0.warmed.alike hh0
  have hB0 := hB.mv X0.warmed.alike hh0
  have c1 : Steps p.tables e below (s₁.setTop (entryFrame m #[.ref a, .ref b] 3)) (s₁.setTop (mkF m 0 #[.val (.ref a), .val (.ref b), .unset] [])) := entry rfl
  have c2 : Steps p.tables e below (s₁.setTop (entryFrame m #[.ref a, .ref b] 3)) (s₁.setTop (mkF m 4 #[.val (.ref a), .val (.ref b), .unset] [.int (Int32.ofNat B.slots.size), .int (Int32.ofNat A.slots.size)])) := c1.trans (by
    refine XS.aloadN X0.here hexec rfl (hb hbytes d0) rfl rfl ?_
    refine X0.alen hexec hA0 rfl rfl (hb hbytes d1) ?_
    refine XS.aloadN X0.here hexec rfl (hb hbytes d2) rfl rfl ?_
    refine X0.alen hexec hB0 rfl rfl (hb hbytes d3) ?_
    exact Steps.refl _)
  by_cases hs : A.slots.size = B.slots.size
  · have c3 : Steps p.tables e below (s₁.setTop (entryFrame m #[.ref a, .ref b] 3)) (s₁.setTop (mkF m 9 #[.val (.ref a), .val (.ref b), .val (.int 0)] [])) := c2.trans (by
      refine XS.icmpNo X0.here hexec rfl (hb hbytes d4) rfl (ii_ne_f (by rw [hs])) ?_
      refine iconstV X0.here hexec rfl 0 (hb hbytes d7) (by decide) ?_
      refine XS.istoreN X0.here hexec rfl (hb hbytes d8) rfl rfl ?_
      exact Steps.refl _)
    have loop : ∀ (r i : Nat), i + r = A.slots.size → (∀ j, j < i → yv A j = yv B j) → Steps p.tables e below (s₁.setTop (entryFrame m #[.ref a, .ref b] 3)) (s₁.setTop (mkF m 9 #[.val (.ref a), .val (.ref b), .val (.int (Int32.ofNat i))] [])) → ∃ (pc : Nat) (Ls : Array Slot) (v : Int32), (pc = 25 ∨ pc = 33) ∧ ((v = 1 ∧ EqC A B) ∨ (v = 0 ∧ ¬ EqC A B)) ∧ Steps p.tables e below (s₁.setTop (entryFrame m #[.ref a, .ref b] 3)) (s₁.setTop (mkF m pc Ls [.int v])) := by
      intro r
      induction r with
      | zero =>
        intro i hi he cl
        exact ⟨33, _, 1, Or.inr rfl, Or.inl ⟨rfl, hs, fun j hj => he j (by omega)⟩, cl.trans (by
          refine XS.iloadN X0.here hexec rfl (hb hbytes d9) rfl ?_
          refine XS.aloadN X0.here hexec rfl (hb hbytes d10) rfl rfl ?_
          refine X0.alen hexec hA0 rfl rfl (hb hbytes d11) ?_
          refine XS.icmpYes X0.here hexec rfl (pc0 := 12) rfl (hb hbytes d12) rfl (ii_ge_t (nlt32 (by omega) (by omega))) (by decide) rfl ?_
          refine iconstV X0.here hexec rfl 1 (hb hbytes d32) (by decide) ?_
          exact Steps.refl _)⟩
      | succ r ih =>
        intro i hi he cl
        have c4 : Steps p.tables e below (s₁.setTop (entryFrame m #[.ref a, .ref b] 3)) (s₁.setTop (mkF m 21 #[.val (.ref a), .val (.ref b), .val (.int (Int32.ofNat i))] [.int (yv B i), .int (yv A i)])) := cl.trans (by
          refine XS.iloadN X0.here hexec rfl (hb hbytes d9) rfl ?_
          refine XS.aloadN X0.here hexec rfl (hb hbytes d10) rfl rfl ?_
          refine X0.alen hexec hA0 rfl rfl (hb hbytes d11) ?_
          refine XS.icmpNo X0.here hexec rfl (hb hbytes d12) rfl (ii_ge_f (lt32 (by omega) (by omega))) ?_
          refine XS.aloadN X0.here hexec rfl (hb hbytes d15) rfl rfl ?_
          refine XS.iloadN X0.here hexec rfl (hb hbytes d16) rfl ?_
          refine X0.aget hexec hA0 rfl (yv_get hA tA (i := i) (by omega)) rfl rfl (hb hbytes d17) ?_
          refine XS.aloadN X0.here hexec rfl (hb hbytes d18) rfl rfl ?_
          refine XS.iloadN X0.here hexec rfl (hb hbytes d19) rfl ?_
          refine X0.aget hexec hB0 rfl (yv_get hB tB (i := i) (by omega)) rfl rfl (hb hbytes d20) ?_
          exact Steps.refl _)
        by_cases hv : yv A i = yv B i
        · have c5 : Steps p.tables e below (s₁.setTop (entryFrame m #[.ref a, .ref b] 3)) (s₁.setTop (mkF m 9 #[.val (.ref a), .val (.ref b), .val (.int (Int32.ofNat i + 1))] [])) := c4.trans (by
            refine XS.icmpYes X0.here hexec rfl (pc0 := 21) rfl (hb hbytes d21) rfl (ii_eq_t hv) (by decide) rfl ?_
            refine iincV X0.here hexec rfl 1 (hb hbytes d26) (by decide) rfl rfl ?_
            refine XS.goto X0.here hexec rfl (pc0 := 29) rfl (hb hbytes d29) (by decide) rfl ?_
            exact Steps.refl _)
          rw [succ32] at c5
          exact ih (i + 1) (by omega) (fun j hj => by
            by_cases e : j = i
            · rw [e]; exact hv
            · exact he j (by omega)) c5
        · exact ⟨25, _, 0, Or.inl rfl, Or.inr ⟨rfl, fun q => hv (q.2 i (by omega))⟩, c4.trans (by
            refine XS.icmpNo X0.here hexec rfl (hb hbytes d21) rfl (ii_eq_f hv) ?_
            refine iconstV X0.here hexec rfl 0 (hb hbytes d24) (by decide) ?_
            exact Steps.refl _)⟩
    obtain ⟨pc, Ls, v, hpc, hv, cz⟩ := loop A.slots.size 0 (by omega) (fun j hj => absurd hj (Nat.not_lt_zero j)) c3
    have nv : narrow .boolean (.int v) = .int v := by rcases hv with ⟨rfl, -⟩ | ⟨rfl, -⟩ <;> rfl
    rcases hpc with rfl | rfl
    · exact ⟨s₁, some (.int v), _, _, _, X0, rfl, rfl, rfl, (fun h => by cases h), ⟨v, rfl, hh0, hv⟩, fun fs hl => cz.trans (X0.ireturnOut hexec hret nv (Or.inr (Or.inl rfl)) (hb hbytes d25) hl)⟩
    · exact ⟨s₁, some (.int v), _, _, _, X0, rfl, rfl, rfl, (fun h => by cases h), ⟨v, rfl, hh0, hv⟩, fun fs hl => cz.trans (X0.ireturnOut hexec hret nv (Or.inr (Or.inl rfl)) (hb hbytes d33) hl)⟩
  · have c3 : Steps p.tables e below (s₁.setTop (entryFrame m #[.ref a, .ref b] 3)) (s₁.setTop (mkF m 35 #[.val (.ref a), .val (.ref b), .unset] [.int 0])) := c2.trans (by
      refine XS.icmpYes X0.here hexec rfl (pc0 := 4) rfl (hb hbytes d4) rfl (ii_ne_t (ne32 a31 b31 hs)) (by decide) rfl ?_
      refine iconstV X0.here hexec rfl 0 (hb hbytes d34) (by decide) ?_
      exact Steps.refl _)
    exact ⟨s₁, some (.int 0), _, _, _, X0, rfl, rfl, rfl, (fun h => by cases h), ⟨0, rfl, hh0, Or.inr ⟨rfl, fun q => hs q.1⟩⟩, fun fs hl => c3.trans (X0.ireturnOut hexec hret rfl (Or.inr (Or.inl rfl)) (hb hbytes d35) hl)⟩
end LEq
theorem Cod.ty {cd : Int32} {n : Nat} {f : Nat → Int32} {V : Cell} (h : Cod cd n f V) : Typed .byte V := fun i v hv => by
  have hi : i < V.slots.size := (Array.getElem?_eq_some_iff.mp hv).1
  rcases h with ⟨-, k1, k2⟩ | ⟨-, k1, k2, -⟩
  · rw [(k2 i (by omega)).1] at hv; cases hv; exact fits_lo8 _
  · rcases Nat.mod_two_eq_zero_or_one i with e | e
    · obtain ⟨j, rfl⟩ : ∃ j, i = 2 * j := ⟨i / 2, by omega⟩
      rw [(k2 j (by omega)).1] at hv; cases hv; exact fits_lo8 _
    · obtain ⟨j, rfl⟩ : ∃ j, i = 2 * j + 1 := ⟨i / 2, by omega⟩
      rw [(k2 j (by omega)).2] at hv; cases hv; exact fits_lo8 _
/-- the same text -/
def SameT (n : Nat) (f : Nat → Int32) (k : Nat) (g : Nat → Int32) : Prop := n = k ∧ ∀ j, j < n → f j = g j
theorem lo8_inj {x y : Int32} (h0 : ¬ x < 0) (h1 : ¬ 255 < x) (k0 : ¬ y < 0) (k1 : ¬ 255 < y) (h : lo8 x = lo8 y) : x = y := by
  rw [← lo8_mask h0 h1, ← lo8_mask k0 k1, h]
/-- arrays coded by one coder are equal just where the texts are -/
theorem Cod.eqv {cd : Int32} {n k : Nat} {f g : Nat → Int32} {V V' : Cell} (h : Cod cd n f V) (h' : Cod cd k g V') (hf : ∀ j, j < n → ¬ f j < 0 ∧ ¬ 65535 < f j) (hg : ∀ j, j < k → ¬ g j < 0 ∧ ¬ 65535 < g j) : EqC V V' ↔ SameT n f k g := by
  have yvv : ∀ {W : Cell} {i : Nat} {x : Int32}, W.slots[i]? = some (.int x) → yv W i = x := fun q => by unfold yv; rw [q]
  rcases h with ⟨rfl, k1, k2⟩ | ⟨rfl, k1, k2, -⟩
  · rcases h' with ⟨-, m1, m2⟩ | ⟨e, -⟩
    · constructor
      · rintro ⟨e1, e2⟩
        refine ⟨by omega, fun j hj => ?_⟩
        have q := e2 j (by omega)
        rw [yvv (k2 j hj).1, yvv (m2 j (by omega)).1] at q
        exact lo8_inj (hf j hj).1 (k2 j hj).2 (hg j (by omega)).1 (m2 j (by omega)).2 q
      · rintro ⟨rfl, e2⟩
        refine ⟨by omega, fun j hj => ?_⟩
        rw [yvv (k2 j (by omega)).1, yvv (m2 j (by omega)).1, e2 j (by omega)]
    · exact absurd e (by decide)
  · rcases h' with ⟨e, -⟩ | ⟨-, m1, m2, -⟩
    · exact absurd e (by decide)
    · constructor
      · rintro ⟨e1, e2⟩
        refine ⟨by omega, fun j hj => ?_⟩
        have q1 := e2 (2 * j) (by omega)
        have q2 := e2 (2 * j + 1) (by omega)
        rw [yvv (k2 j hj).1, yvv (m2 j (by omega)).1] at q1
        rw [yvv (k2 j hj).2, yvv (m2 j (by omega)).2] at q2
        rw [← pair_says (hf j hj).1 (hf j hj).2, ← pair_says (hg j (by omega)).1 (hg j (by omega)).2, q1, q2]
      · rintro ⟨rfl, e2⟩
        refine ⟨by omega, fun i hi => ?_⟩
        rcases Nat.mod_two_eq_zero_or_one i with e | e
        · obtain ⟨j, rfl⟩ : ∃ j, i = 2 * j := ⟨i / 2, by omega⟩
          rw [yvv (k2 j (by omega)).1, yvv (m2 j (by omega)).1, e2 j (by omega)]
        · obtain ⟨j, rfl⟩ : ∃ j, i = 2 * j + 1 := ⟨i / 2, by omega⟩
          rw [yvv (k2 j (by omega)).2, yvv (m2 j (by omega)).2, e2 j (by omega)]
/-- two codings differ: so do the texts -/
theorem Cod.dif {cd cd' : Int32} {n k : Nat} {f g : Nat → Int32} {V V' : Cell} (h : Cod cd n f V) (h' : Cod cd' k g V') (hne : ¬ cd = cd') : ¬ SameT n f k g := by
  rintro ⟨rfl, e⟩
  rcases h with ⟨rfl, -, k2⟩ | ⟨rfl, -, -, j, hj, hw⟩
  · rcases h' with ⟨rfl, -⟩ | ⟨-, -, -, j, hj, hw⟩
    · exact hne rfl
    · exact (k2 j hj).2 (by rw [e j hj]; exact hw)
  · rcases h' with ⟨-, -, m2⟩ | ⟨rfl, -⟩
    · exact (m2 j hj).2 (by rw [← e j hj]; exact hw)
    · exact hne rfl
/-- an object of exactly C is an instance of C -/
theorem cinst {p : Program} {l : Launch} {e : Env} {R : Room} {s : State} {m : MethodId} {args : Array Value} {below : List Frame} {meth : Method} {c : Code} {T : State} {locs : List Loc} {cells slots : Nat} (X : Stand p l e R s m args below meth c T locs cells slots) (hexec : p.tables.exec = Jvm.exec) {own C : String} {index : Nat} (hown : s.vm.findClass own = some m.cls) (hlink : (Cond.classLink own index C).before args s = true) {a : Addr} (hE : Exact C a T)
    {g : JFrame} (hg : g.method = m) {rest : List Value} (hstack : g.stack = .ref a :: rest) (hdg : decode c.code g.pc = .ok (.instanceof index, 3)) :
    ∃ T', Stand p l e R s m args below meth c T' locs cells slots ∧ T'.heap = T.heap ∧ ∀ target, Steps p.tables e below (T'.setTop { g with pc := g.pc + 3, stack := .int 1 :: rest }) target → Steps p.tables e below (T.setTop g) target := by
  obtain ⟨cB, h1, D, h2, h3, h4⟩ := hE
  have h1' : s.vm.findClass C = some cB := by rw [← X.warmed.alike.findClass]; exact h1
  obtain ⟨vm', X', st⟩ := X.instanceofYes hexec hown hlink h2 h4 h1' (by rw [h3]; exact Jvm.Free.SB.assignable_self _ _) hg hstack hdg
  exact ⟨_, X', rfl, st⟩
theorem cself {p : Program} {l : Launch} {e : Env} {R : Room} {s : State} {m : MethodId} {args : Array Value} {below : List Frame} {meth : Method} {c : Code} {T : State} {locs : List Loc} {cells slots : Nat} (X : Stand p l e R s m args below meth c T locs cells slots) (hexec : p.tables.exec = Jvm.exec) {own C : String} {index : Nat} (hown : s.vm.findClass own = some m.cls) (hlink : (Cond.classLink own index C).before args s = true) {a : Addr} (hE : Exact C a T)
    {g : JFrame} (hg : g.method = m) {rest : List Value} (hstack : g.stack = .ref a :: rest) (hdg : decode c.code g.pc = .ok (.checkcast index, 3)) :
    ∃ T', Stand p l e R s m args below meth c T' locs cells slots ∧ T'.heap = T.heap ∧ ∀ target, Steps p.tables e below (T'.setTop { g with pc := g.pc + 3, stack := .ref a :: rest }) target → Steps p.tables e below (T.setTop g) target := by
  obtain ⟨cB, h1, D, h2, h3, h4⟩ := hE
  have h1' : s.vm.findClass C = some cB := by rw [← X.warmed.alike.findClass]; exact h1
  obtain ⟨vm', X', st⟩ := X.checkcastYes hexec hown hlink h2 h4 h1' (by rw [h3]; exact Jvm.Free.SB.assignable_self _ _) hg hstack hdg
  exact ⟨_, X', rfl, fun t h => st t (by rw [← hstack] at h; exact h)⟩
namespace SEq
def yN : MethodName := ⟨"java/lang/String", "equals", "(Ljava/lang/Object;)Z"⟩
abbrev yB : ByteArray := jdk_42_method_66_code
theorem d0 : decode yB 0 = .ok (.aload_n 0, 1) := by decide +kernel
theorem d1 : decode yB 1 = .ok (.aload_n 1, 1) := by decide +kernel
theorem d2 : decode yB 2 = .ok (.if_acmp (.ne) 5, 3) := by decide +kernel
theorem d5 : decode yB 5 = .ok (.iconst 1, 1) := by decide +kernel
theorem d6 : decode yB 6 = .ok (.ireturn, 1) := by decide +kernel
theorem d7 : decode yB 7 = .ok (.aload_n 1, 1) := by decide +kernel
theorem d8 : decode yB 8 = .ok (.instanceof 10, 3) := by decide +kernel
theorem d11 : decode yB 11 = .ok (.ifCond (.eq) 43, 3) := by decide +kernel
theorem d14 : decode yB 14 = .ok (.aload_n 1, 1) := by decide +kernel
theorem d15 : decode yB 15 = .ok (.checkcast 10, 3) := by decide +kernel
theorem d18 : decode yB 18 = .ok (.astore_n 2, 1) := by decide +kernel
theorem d19 : decode yB 19 = .ok (.getstatic 38, 3) := by decide +kernel
theorem d22 : decode yB 22 = .ok (.ifCond (.eq) 14, 3) := by decide +kernel
theorem d25 : decode yB 25 = .ok (.aload_n 0, 1) := by decide +kernel
theorem d26 : decode yB 26 = .ok (.getfield 15, 3) := by decide +kernel
theorem d29 : decode yB 29 = .ok (.aload_n 2, 1) := by decide +kernel
theorem d30 : decode yB 30 = .ok (.getfield 15, 3) := by decide +kernel
theorem d33 : decode yB 33 = .ok (.if_icmp (.ne) 21, 3) := by decide +kernel
theorem d36 : decode yB 36 = .ok (.aload_n 0, 1) := by decide +kernel
theorem d37 : decode yB 37 = .ok (.getfield 9, 3) := by decide +kernel
theorem d40 : decode yB 40 = .ok (.aload_n 2, 1) := by decide +kernel
theorem d41 : decode yB 41 = .ok (.getfield 9, 3) := by decide +kernel
theorem d44 : decode yB 44 = .ok (.invokestatic 541, 3) := by decide +kernel
theorem d47 : decode yB 47 = .ok (.ifCond (.eq) 7, 3) := by decide +kernel
theorem d50 : decode yB 50 = .ok (.iconst 1, 1) := by decide +kernel
theorem d51 : decode yB 51 = .ok (.goto 4, 3) := by decide +kernel
theorem d54 : decode yB 54 = .ok (.iconst 0, 1) := by decide +kernel
theorem d55 : decode yB 55 = .ok (.ireturn, 1) := by decide +kernel
def site : List Cond := [.classLink "java/lang/String" 10 "java/lang/String", .fieldLink "java/lang/String" 38 "java/lang/String" "COMPACT_STRINGS" "Z", .fieldLink "java/lang/String" 15 "java/lang/String" "coder" "B", .fieldLink "java/lang/String" 9 "java/lang/String" "value" "[B", LEq.tab] ++ staticW "java/lang/String" 541 LEq.yN
def tab : Cond := tabOf yN yB 3 (some .boolean) site
def P (x t : Addr) (V : Cell) (cd : Int32) (n : Nat) (f : Nat → Int32) (y t' : Addr) (V' : Cell) (cd' : Int32) (k : Nat) (g : Nat → Int32) (z : Int32) (args : Array Value) (s : State) : Prop := args = #[.ref x, .ref y] ∧ Txt x t V cd n f s ∧ Txt y t' V' cd' k g s ∧ StaticIs s "java/lang/String" "COMPACT_STRINGS" "Z" (.int z) ∧ ¬ z = 0
/-- equals(Object) of two Strings: whether the texts are the same -/
theorem law (l : Launch) (x t : Addr) (V : Cell) (cd : Int32) (n : Nat) (f : Nat → Int32) (y t' : Addr) (V' : Cell) (cd' : Int32) (k : Nat) (g : Nat → Int32) (z : Int32) : Law l yN 2 1 1 14 yB 3 (some .boolean) site (P x t V cd n f y t' V' cd' k g z) (Says01 (SameT n f k g)) [] 0 0 := by
  refine Law.of_walk (plainFor_of_name (by decide +kernel)) (by decide +kernel) (by decide +kernel) (by decide) (fun _ _ h => by rw [h.1]; rfl) (fun _ U U' hal hh h => ⟨h.1, h.2.1.mv hal hh, h.2.2.1.mv hal hh, h.2.2.2.1.there hal hh, h.2.2.2.2⟩) (fun r U U' V V' h1 hal h2 h => Says01.mv r U U' V V' h1 hal h2 h) ?_
  intro p e s m args below meth c s₁ X0 hexec hbytes hml hret hlk hnm hown hh0 W hP
  obtain ⟨rfl, hx, hy, s1, hz⟩ := hP
  have c1 : Steps p.tables e below (s₁.setTop (entryFrame m #[.ref x, .ref y] 3)) (s₁.setTop (mkF m 2 #[.val (.ref x), .val (.ref y), .unset] [.ref y, .ref x])) := Steps.trans (entry rfl) (by
    show Steps p.tables e below (s₁.setTop (mkF m 0 #[.val (.ref x), .val (.ref y), .unset] [])) _
    refine XS.aloadN X0.here hexec rfl (hb hbytes d0) rfl rfl ?_
    refine XS.aloadN X0.here hexec rfl (hb hbytes d1) rfl rfl ?_
    exact Steps.refl _)
  by_cases hxy : x = y
  · have c2 : Steps p.tables e below (s₁.setTop (entryFrame m #[.ref x, .ref y] 3)) (s₁.setTop (mkF m 6 #[.val (.ref x), .val (.ref y), .unset] [.int 1])) := c1.trans (by
      refine acmpNo X0.here hexec rfl (hb hbytes d2) rfl rfl rfl (by simp [acmp, hxy]) ?_
      refine iconstV X0.here hexec rfl 1 (hb hbytes d5) (by decide) ?_
      exact Steps.refl _)
    subst hxy
    have ec : cd = cd' := by
      obtain ⟨D, fd, a1, a2, a3⟩ := hx.2.2.1
      obtain ⟨D', fd', b1, b2, b3⟩ := hy.2.2.1
      cases a1.symm.trans b1
      obtain ⟨q1, q2, q3, q4⟩ := a2.1
      obtain ⟨r1, r2, r3, r4⟩ := b2.1
      cases q4.symm.trans r4
      cases a3.symm.trans b3; rfl
    have et : t = t' := by
      obtain ⟨D, fd, a1, a2, a3⟩ := hx.2.1
      obtain ⟨D', fd', b1, b2, b3⟩ := hy.2.1
      cases a1.symm.trans b1
      obtain ⟨q1, q2, q3, q4⟩ := a2.1
      obtain ⟨r1, r2, r3, r4⟩ := b2.1
      cases q4.symm.trans r4
      cases a3.symm.trans b3; rfl
    subst ec et
    have ev : V = V' := by cases hx.2.2.2.1.1.symm.trans hy.2.2.2.1.1; rfl
    subst ev
    have hs : SameT n f k g := (Cod.eqv hx.2.2.2.2.1 hy.2.2.2.2.1 hx.2.2.2.2.2 hy.2.2.2.2.2).mp ⟨rfl, fun _ _ => rfl⟩
    exact ⟨s₁, some (.int 1), _, _, _, X0, rfl, rfl, rfl, (fun h => by cases h), ⟨1, rfl, hh0, Or.inl ⟨rfl, hs⟩⟩, fun fs hl => c2.trans (X0.ireturnOut hexec hret rfl (Or.inr (Or.inl rfl)) (hb hbytes d6) hl)⟩
  · have c2 : Steps p.tables e below (s₁.setTop (entryFrame m #[.ref x, .ref y] 3)) (s₁.setTop (mkF m 8 #[.val (.ref x), .val (.ref y), .unset] [.ref y])) := c1.trans (by
      refine acmpYes X0.here hexec rfl (pc0 := 2) rfl (hb hbytes d2) rfl rfl rfl (by simp [acmp, hxy]) (by decide) rfl ?_
      refine XS.aloadN X0.here hexec rfl (hb hbytes d7) rfl rfl ?_
      exact Steps.refl _)
    obtain ⟨T3, X3, q3, st3⟩ := cinst X0 hexec hown (wk W (.classLink "java/lang/String" 10 "java/lang/String")) (hy.mv X0.warmed.alike hh0).1 (g := (mkF m 8 #[.val (.ref x), .val (.ref y), .unset] [.ref y])) rfl (rest := []) rfl (hb hbytes d8)
    have hh3 := q3.trans hh0
    have c4 : Steps p.tables e below (s₁.setTop (entryFrame m #[.ref x, .ref y] 3)) (T3.setTop (mkF m 15 #[.val (.ref x), .val (.ref y), .unset] [.ref y])) := (c2.trans (st3 _ (Steps.refl _))).trans (by
      refine XS.ifNo X3.here hexec rfl (hb hbytes d11) rfl (i0_eq_f (by decide)) ?_
      refine XS.aloadN X3.here hexec rfl (hb hbytes d14) rfl rfl ?_
      exact Steps.refl _)
    obtain ⟨T5, X5, q5, st5⟩ := cself X3 hexec hown (wk W (.classLink "java/lang/String" 10 "java/lang/String")) (hy.mv X3.warmed.alike hh3).1 (g := (mkF m 15 #[.val (.ref x), .val (.ref y), .unset] [.ref y])) rfl (rest := []) rfl (hb hbytes d15)
    have hh5 := q5.trans hh3
    have c6 : Steps p.tables e below (s₁.setTop (entryFrame m #[.ref x, .ref y] 3)) (T5.setTop (mkF m 19 #[.val (.ref x), .val (.ref y), .val (.ref y)] [])) := (c4.trans (st5 _ (Steps.refl _))).trans (by
      refine XS.astoreN X5.here hexec rfl (hb hbytes d18) rfl rfl rfl ?_
      exact Steps.refl _)
    obtain ⟨T7, X7, q7, st7⟩ := X5.sget hexec hown (wk W (.fieldLink "java/lang/String" 38 "java/lang/String" "COMPACT_STRINGS" "Z")) s1 (fun _ _ h => by rw [hh5]; exact h) (g := (mkF m 19 #[.val (.ref x), .val (.ref y), .val (.ref y)] [])) rfl (hb hbytes d19)
    have hh7 := q7.trans hh5
    have c8 : Steps p.tables e below (s₁.setTop (entryFrame m #[.ref x, .ref y] 3)) (T7.setTop (mkF m 26 #[.val (.ref x), .val (.ref y), .val (.ref y)] [.ref x])) := (c6.trans (st7 _ (Steps.refl _))).trans (by
      refine XS.ifNo X7.here hexec rfl (hb hbytes d22) rfl (i0_eq_f hz) ?_
      refine XS.aloadN X7.here hexec rfl (hb hbytes d25) rfl rfl ?_
      exact Steps.refl _)
    obtain ⟨T9, X9, q9, st9⟩ := X7.hget hexec hown (wk W (.fieldLink "java/lang/String" 15 "java/lang/String" "coder" "B")) (hx.mv X7.warmed.alike hh7).2.2.1 (g := (mkF m 26 #[.val (.ref x), .val (.ref y), .val (.ref y)] [.ref x])) rfl (rest := []) rfl (hb hbytes d26)
    have hh9 := q9.trans hh7
    have c10 : Steps p.tables e below (s₁.setTop (entryFrame m #[.ref x, .ref y] 3)) (T9.setTop (mkF m 30 #[.val (.ref x), .val (.ref y), .val (.ref y)] [.ref y, .int cd])) := (c8.trans (st9 _ (Steps.refl _))).trans (by
      refine XS.aloadN X9.here hexec rfl (hb hbytes d29) rfl rfl ?_
      exact Steps.refl _)
    obtain ⟨T11, X11, q11, st11⟩ := X9.hget hexec hown (wk W (.fieldLink "java/lang/String" 15 "java/lang/String" "coder" "B")) (hy.mv X9.warmed.alike hh9).2.2.1 (g := (mkF m 30 #[.val (.ref x), .val (.ref y), .val (.ref y)] [.ref y, .int cd])) rfl (rest := [.int cd]) rfl (hb hbytes d30)
    have hh11 := q11.trans hh9
    have c12 : Steps p.tables e below (s₁.setTop (entryFrame m #[.ref x, .ref y] 3)) (T11.setTop (mkF m 33 #[.val (.ref x), .val (.ref y), .val (.ref y)] [.int cd', .int cd])) := c10.trans (st11 _ (Steps.refl _))
    by_cases hcd : cd = cd'
    · subst hcd
      have c13 : Steps p.tables e below (s₁.setTop (entryFrame m #[.ref x, .ref y] 3)) (T11.setTop (mkF m 37 #[.val (.ref x), .val (.ref y), .val (.ref y)] [.ref x])) := c12.trans (by
        refine XS.icmpNo X11.here hexec rfl (hb hbytes d33) rfl (ii_ne_f rfl) ?_
        refine XS.aloadN X11.here hexec rfl (hb hbytes d36) rfl rfl ?_
        exact Steps.refl _)
      obtain ⟨T14, X14, q14, st14⟩ := X11.hget hexec hown (wk W (.fieldLink "java/lang/String" 9 "java/lang/String" "value" "[B")) (hx.mv X11.warmed.alike hh11).2.1 (g := (mkF m 37 #[.val (.ref x), .val (.ref y), .val (.ref y)] [.ref x])) rfl (rest := []) rfl (hb hbytes d37)
      have hh14 := q14.trans hh11
      have c15 : Steps p.tables e below (s₁.setTop (entryFrame m #[.ref x, .ref y] 3)) (T14.setTop (mkF m 41 #[.val (.ref x), .val (.ref y), .val (.ref y)] [.ref y, .ref t])) := (c13.trans (st14 _ (Steps.refl _))).trans (by
        refine XS.aloadN X14.here hexec rfl (hb hbytes d40) rfl rfl ?_
        exact Steps.refl _)
      obtain ⟨T16, X16, q16, st16⟩ := X14.hget hexec hown (wk W (.fieldLink "java/lang/String" 9 "java/lang/String" "value" "[B")) (hy.mv X14.warmed.alike hh14).2.1 (g := (mkF m 41 #[.val (.ref x), .val (.ref y), .val (.ref y)] [.ref y, .ref t])) rfl (rest := [.ref t]) rfl (hb hbytes d41)
      have hh16 := q16.trans hh14
      have c17 : Steps p.tables e below (s₁.setTop (entryFrame m #[.ref x, .ref y] 3)) (T16.setTop (mkF m 44 #[.val (.ref x), .val (.ref y), .val (.ref y)] [.ref t', .ref t])) := c15.trans (st16 _ (Steps.refl _))
      obtain ⟨v18, T18, X18, E18, g18⟩ := X16.callS hexec (LEq.law l t V t' V') hown (wks W (staticW "java/lang/String" 541 LEq.yN)) (wk W LEq.tab) (W := 0) (Nat.le_of_ble_eq_true rfl) (Nat.le_of_ble_eq_true rfl) (Nat.le_refl _) (Nat.le_refl _) (g := (mkF m 44 #[.val (.ref x), .val (.ref y), .val (.ref y)] [.ref t', .ref t])) rfl (by rw [hml]; rfl) c17 (argsL := [.ref t, .ref t']) (rest := []) rfl rfl (by show 2 * 0 + 0 ≤ _; decide) (hb hbytes d44) (⟨rfl, hx.2.2.2.1.mv X16.warmed.alike hh16, hx.2.2.2.2.1.ty, hy.2.2.2.1.mv X16.warmed.alike hh16, hy.2.2.2.2.1.ty⟩)
      obtain ⟨v, rfl, q18, hv⟩ := E18
      have iff := Cod.eqv hx.2.2.2.2.1 hy.2.2.2.2.1 hx.2.2.2.2.2 hy.2.2.2.2.2
      rcases hv with ⟨rfl, he⟩ | ⟨rfl, he⟩
      · have c19 : Steps p.tables e below (s₁.setTop (entryFrame m #[.ref x, .ref y] 3)) (T18.setTop (mkF m 55 #[.val (.ref x), .val (.ref y), .val (.ref y)] [.int 1])) := Steps.trans g18 (by
          refine XS.ifNo X18.here hexec rfl (hb hbytes d47) rfl (i0_eq_f (by decide)) ?_
          refine iconstV X18.here hexec rfl 1 (hb hbytes d50) (by decide) ?_
          refine XS.goto X18.here hexec rfl (pc0 := 51) rfl (hb hbytes d51) (by decide) rfl ?_
          exact Steps.refl _)
        exact ⟨T18, some (.int 1), _, _, _, X18, rfl, rfl, rfl, (fun h => by cases h), ⟨1, rfl, q18.trans hh16, Or.inl ⟨rfl, iff.mp he⟩⟩, fun fs hl => c19.trans (X18.ireturnOut hexec hret rfl (Or.inr (Or.inl rfl)) (hb hbytes d55) hl)⟩
      · have c19 : Steps p.tables e below (s₁.setTop (entryFrame m #[.ref x, .ref y] 3)) (T18.setTop (mkF m 55 #[.val (.ref x), .val (.ref y), .val (.ref y)] [.int 0])) := Steps.trans g18 (by
          refine XS.ifYes X18.here hexec rfl (pc0 := 47) rfl (hb hbytes d47) rfl (i0_eq_t rfl) (by decide) rfl ?_
          refine iconstV X18.here hexec rfl 0 (hb hbytes d54) (by decide) ?_
          exact Steps.refl _)
        exact ⟨T18, some (.int 0), _, _, _, X18, rfl, rfl, rfl, (fun h => by cases h), ⟨0, rfl, q18.trans hh16, Or.inr ⟨rfl, fun q => he (iff.mpr q)⟩⟩, fun fs hl => c19.trans (X18.ireturnOut hexec hret rfl (Or.inr (Or.inl rfl)) (hb hbytes d55) hl)⟩
    · have c13 : Steps p.tables e below (s₁.setTop (entryFrame m #[.ref x, .ref y] 3)) (T11.setTop (mkF m 55 #[.val (.ref x), .val (.ref y), .val (.ref y)] [.int 0])) := c12.trans (by
        refine XS.icmpYes X11.here hexec rfl (pc0 := 33) rfl (hb hbytes d33) rfl (ii_ne_t hcd) (by decide) rfl ?_
        refine iconstV X11.here hexec rfl 0 (hb hbytes d54) (by decide) ?_
        exact Steps.refl _)
      exact ⟨T11, some (.int 0), _, _, _, X11, rfl, rfl, rfl, (fun h => by cases h), ⟨0, rfl, hh11, Or.inr ⟨rfl, Cod.dif hx.2.2.2.2.1 hy.2.2.2.2.1 hcd⟩⟩, fun fs hl => c13.trans (X11.ireturnOut hexec hret rfl (Or.inr (Or.inl rfl)) (hb hbytes d55) hl)⟩
theorem pays {l : Launch} {R : Room} {p : Program} {e : Env} {below : List Frame} {s : State} {sargs : Array Value} {len W : Nat} (x t : Addr) (V : Cell) (cd : Int32) (n : Nat) (f : Nat → Int32) (y t' : Addr) (V' : Cell) (cd' : Int32) (k : Nat) (g : Nat → Int32) (z : Int32) (htab : tab.before sargs s = true) (hfr : 2 ≤ R.frames) (hlo : W + 28 ≤ R.locals) :
    Back l R p e below s sargs yN len W (fun A₁ a₁ => A₁.cells + 0 ≤ R.cells ∧ A₁.slots + 0 ≤ R.slots ∧ P x t V cd n f y t' V' cd' k g z a₁ A₁.U) (fun A₁ _ v₁ B₁ => Says01 (SameT n f k g) v₁ A₁.U B₁.U ∧ B₁.locs = A₁.locs ++ [] ∧ B₁.cells = A₁.cells + 0 ∧ B₁.slots = A₁.slots + 0) :=
  (law l x t V cd n f y t' V' cd' k g z).pays htab hfr (by omega)
end SEq
end StrChars
namespace StrChars.Road
open Jvm Sem ClassFile Op Lib Jvm.Stand Jvm.Free Jvm.Free.XT
open Jvm.Lib.Cold (StaticIs)
/-- the words of String.equals(Object) -/
abbrev wordsEq : List Jvm.Cond := [.code SEq.yN SEq.yB 3 (some .boolean), .initialized ST, .classLink ST 10 ST, .fieldLink ST 38 ST "COMPACT_STRINGS" "Z", .fieldLink ST 15 ST "coder" "B", .fieldLink ST 9 ST "value" "[B", .methodLink ST 541 LEq.yN, .static LEq.yN, .code LEq.yN LEq.yB 3 (some .boolean), .initialized "java/lang/StringLatin1"]
theorem tabEq_of {a : Array Value} {s : State} (h : ∀ w ∈ wordsEq, w.before a s = true) : SEq.tab.before a s = true := by
  have hl : LEq.tab.before a s = true := unparts (wk h (.code LEq.yN LEq.yB 3 (some .boolean))) (wks h (.initialized LEq.yN.cls :: LEq.site))
  have q := consq hl h
  exact unparts (wk q (.code SEq.yN SEq.yB 3 (some .boolean))) (wks q (.initialized SEq.yN.cls :: SEq.site))
theorem movedEq {Z s : State} {a0 args : Array Value} (hZ : Z.Warmed39 s.vm) (hw : ∀ d ∈ wordsEq, d.before a0 Z = true) : ∀ d ∈ wordsEq, d.before args s = true := fun d hd => by
  have t : ∀ d ∈ wordsEq, (d.onTables && d.keepsFace) = true := by decide +kernel
  exact RoadKit.mv hZ (hw d hd) (t d hd)
/-- the road's facts of a String, as the laws ask it -/
theorem txt_of {Z U : State} {a0 : Array Value} {kI : Nat} (wi : (Jvm.Cond.instantiable ST kI).before a0 Z = true) (al : Z.vm.Alike U.vm) {x t : Addr} {kb : ClassId} {cs : List Int32} {cd N2 : Int32} {vs : List Value} (E : RoadKit.Exa Z U.heap x ST) (V : RoadKit.Fld Z U.heap x ST "value" "[B" (.ref t)) (C : RoadKit.Fld Z U.heap x ST "coder" "B" (.int cd)) (K : RoadKit.Arv Z U.heap t kb .byte N2 vs (.int 0)) (hc : CodA cs cd N2 vs) (hb : ∀ c ∈ cs, ¬ c < 0 ∧ ¬ (65535 : Int32) < c) (l2 : cs.length ≤ 4000) :
    ∃ A, Txt x t A cd cs.length (fun j => cs.getD j 0) U := by
  obtain ⟨A, K1, K2, K3, K4, K5, K6⟩ := K
  have hcod := hc.cod (by omega) K3 K5
  obtain ⟨D, fV, fC, hB, F1, F2, g1, g2, -, -⟩ := strObj wi al E V C
  exact ⟨A, ⟨_, hB.2.2.1, D, hB.1, rfl, by cases q : D.vm <;> first | rfl | exact absurd q (hB.2.1.2 _)⟩, Has.of hB F1 g1, Has.of hB F2 g2, ⟨K1.1, State.isArrayOf_alike al K1.2.1, K1.2.2, by rcases hcod with ⟨-, q, -⟩ | ⟨-, q, -⟩ <;> omega⟩, hcod, fun j hj => by
    have e : cs.getD j 0 = cs[j] := by simp [List.getD_eq_getElem?_getD, hj]
    show ¬ cs.getD j 0 < 0 ∧ ¬ 65535 < cs.getD j 0
    rw [e]; exact hb _ (List.getElem_mem _)⟩
theorem same_list (cs ds : List Int32) : SameT cs.length (fun j => cs.getD j 0) ds.length (fun j => ds.getD j 0) ↔ cs = ds := by
  constructor
  · rintro ⟨e, q⟩
    refine List.ext_getElem e fun j h1 h2 => ?_
    have := q j h1
    simpa [List.getD_eq_getElem?_getD, h1, h2] using this
  · rintro rfl
    exact ⟨rfl, fun _ _ => rfl⟩
/-- **equals(Object) OF TWO SUCH STRINGS**: 1 just where the chars are the same -/
theorem eqW {p : Program} {l : Launch} {e : Env} {R : Room} {s : State} {args : Array Value} {below : List Frame} {len W : Nat} {Z : State} {a0 : Array Value} {h : Heap} (hZ : Z.Warmed39 s.vm) (hw : ∀ d ∈ wordsEq, d.before a0 Z = true) {kI : Nat} (wi : (Jvm.Cond.instantiable ST kI).before a0 Z = true)
    {x t : Addr} {kb : ClassId} {cs : List Int32} {cd N2 : Int32} {vs : List Value} (E : RoadKit.Exa Z h x ST) (V : RoadKit.Fld Z h x ST "value" "[B" (.ref t)) (C : RoadKit.Fld Z h x ST "coder" "B" (.int cd)) (K : RoadKit.Arv Z h t kb .byte N2 vs (.int 0)) (hc : CodA cs cd N2 vs) (hb : ∀ c ∈ cs, ¬ c < 0 ∧ ¬ (65535 : Int32) < c) (l2 : cs.length ≤ 4000)
    {y t' : Addr} {kb' : ClassId} {ds : List Int32} {cd' N2' : Int32} {vs' : List Value} (E' : RoadKit.Exa Z h y ST) (V' : RoadKit.Fld Z h y ST "value" "[B" (.ref t')) (C' : RoadKit.Fld Z h y ST "coder" "B" (.int cd')) (K' : RoadKit.Arv Z h t' kb' .byte N2' vs' (.int 0)) (hc' : CodA ds cd' N2' vs') (hb' : ∀ c ∈ ds, ¬ c < 0 ∧ ¬ (65535 : Int32) < c) (l2' : ds.length ≤ 4000)
    {z : Int32} (S : RoadKit.Sta Z h ST "COMPACT_STRINGS" "Z" (.int z)) (hz : ¬ z = 0) (hfr : 2 ≤ R.frames) (hlo : W + 28 ≤ R.locals) :
    Back l R p e below s args (⟨"java/lang/String", "equals", "(Ljava/lang/Object;)Z"⟩ : MethodName) len W (fun P a => a = #[.ref x, .ref y] ∧ P.U.heap = h ∧ P.cells + 0 ≤ R.cells ∧ P.slots + 0 ≤ R.slots)
      (fun P _ v B => ∃ L, (((v = some (.int 1) ∧ cs = ds) ∨ (v = some (.int 0) ∧ ¬ cs = ds)) ∧ L = [] ∧ B.U.heap = h) ∧ B.locs = P.locs ++ L ∧ B.cells = P.cells + 0 ∧ B.slots = P.slots + 0) := by
  intro m meth c P g ig mk a X hg hsize hdg hW hn hp'
  obtain ⟨rfl, rfl, r1, r2⟩ := hp'
  have al : Z.vm.Alike P.U.vm := hZ.alike.trans X.warmed.alike
  obtain ⟨A, hx⟩ := txt_of wi al E V C K hc hb l2
  obtain ⟨A', hy⟩ := txt_of wi al E' V' C' K' hc' hb' l2'
  obtain ⟨v, B, X', ⟨⟨w, hv, hh, hq⟩, hl, hk, hs⟩, st⟩ := SEq.pays x t A cd cs.length (fun j => cs.getD j 0) y t' A' cd' ds.length (fun j => ds.getD j 0) z (tabEq_of (movedEq hZ hw)) hfr hlo m meth c P g ig mk _ X hg hsize hdg hW hn ⟨r1, r2, rfl, hx, hy, sta_is al S, hz⟩
  refine ⟨v, B, X', ⟨[], ⟨?_, rfl, hh⟩, hl, hk, hs⟩, st⟩
  rcases hq with ⟨rfl, q⟩ | ⟨rfl, q⟩
  · exact Or.inl ⟨hv, (same_list cs ds).mp q⟩
  · exact Or.inr ⟨hv, fun e => q ((same_list cs ds).mpr e)⟩
end StrChars.Road
namespace StrChars.Road
open Jvm Sem ClassFile Op Lib Jvm.Stand Jvm.Free Jvm.Free.XT
open Jvm.Lib.Cold (StaticIs)
/-- what backV says of its String, as the contracts of this text ask it: cs's low bytes, coder 0 -/
theorem codOf {cs : List Int32} {n : Nat} (hn : cs.length = n) (hb : ∀ c ∈ cs, ¬ 255 < c) : CodA cs 0 (Int32.ofNat n) ((cs.map lo8).map Value.int) := Or.inl ⟨rfl, by rw [hn], by simp [List.map_map, Function.comp_def], hb⟩
end StrChars.Road
end Jvm.Pilot.@@N@@

namespace Jvm.Pilot.@@N@@
open Jvm Jvm.ClassFile Sem Op Lib Jvm.Free Jvm.Stand Jvm.LawKit Jvm.RoadKit Bundle Jvm.Pilot.@@N@@.Jvm.D
/-- from the state U the run comes to the method's end, where Q holds of what it returns, of the heap and of the places written -/
def Dn (p : Program) (e : Env) (below : List Frame) (s : State) (k n : Nat) (Q : Option Value → Heap → List Loc → Prop) (U : State) : Prop :=
  ∃ t o, Steps p.tables e below U t ∧ t.status = .running ∧ Ended t below o ∧ ∃ v L, o = .returned v ∧ Q v t.heap L ∧ FrameEnd s o t L k n
theorem Dn.by {p : Program} {e : Env} {below : List Frame} {s : State} {k n : Nat} {Q : Option Value → Heap → List Loc → Prop} {U U' : State} (st : ∀ t, Steps p.tables e below U' t → Steps p.tables e below U t) (h : Dn p e below s k n Q U') : Dn p e below s k n Q U := by
  obtain ⟨t, o, h1, h2⟩ := h
  exact ⟨t, o, st t h1, h2⟩
theorem Dn.out {p : Program} {l : Launch} {e : Env} {R : Room} {s : State} {m : MethodId} {args : Array Value} {below : List Frame} {meth : Method} {c : Code} {T : State} {locs : List Loc} {cells slots k n : Nat} {Q : Option Value → Heap → List Loc → Prop} {U : State} (X : Stand p l e R s m args below meth c T locs cells slots) {v : Option Value} (hv : meth.sig.returnType = none → v = none) (hlk : meth.locks = false)
    (st : ∀ fs, (∀ (f : JFrame) (acts : List Action), f.method = m → f.locked = none → f.entered = [] → (doReturn e (T.setTop f) acts v).1 = T.setFrames fs) → Steps p.tables e below U (T.setFrames fs)) (hk : cells ≤ k) (hn : slots ≤ n) (hQ : Q v T.heap locs) : Dn p e below s k n Q U := by
  obtain ⟨fs, hr, hrun, hended, hW, hsame⟩ := X.leave (v := v) hv hlk
  exact ⟨_, _, st fs hr, hrun, hended, v, locs, rfl, hQ, ⟨_, rfl⟩, hW, hsame.mono hk hn⟩
theorem pn0 : plainName "com/example/ferrywire/ferrywire/wire/HostPortEqualsPinLaw" = true := by first | (simp [plainName, overriddenIn]; done) | decide +kernel
theorem pn1 : plainName "java/lang/String" = true := by first | (simp [plainName, overriddenIn]; done) | decide +kernel
theorem pn2 : plainName "com/example/ferrywire/ferrywire/wire/HostPort" = true := by first | (simp [plainName, overriddenIn]; done) | decide +kernel
theorem pd0 : parseMethodDescriptor "([C)V" = some ⟨[(.array .char)], none⟩ := by decide +kernel
theorem pd1 : parseMethodDescriptor "()Z" = some ⟨[], some .boolean⟩ := by decide +kernel
theorem pd2 : parseMethodDescriptor "(Ljava/lang/Object;)Z" = some ⟨[(.object "java/lang/Object")], some .boolean⟩ := by decide +kernel
theorem pd3 : parseMethodDescriptor "(CCI)Ljava/lang/String;" = some ⟨[.char, .char, .int], some (.object "java/lang/String")⟩ := by decide +kernel
theorem pd4 : parseMethodDescriptor "(Ljava/lang/String;I)V" = some ⟨[(.object "java/lang/String"), .int], none⟩ := by decide +kernel
theorem d1_0 : decode method_3_code 0 = .ok (.iload_n 2, 1) := by decide +kernel
theorem d1_1 : decode method_3_code 1 = .ok (.iconst 1, 1) := by decide +kernel
theorem d1_2 : decode method_3_code 2 = .ok (.if_icmp .ne 18, 3) := by decide +kernel
theorem d1_5 : decode method_3_code 5 = .ok (.new 23, 3) := by decide +kernel
theorem d1_8 : decode method_3_code 8 = .ok (.dup, 1) := by decide +kernel
theorem d1_9 : decode method_3_code 9 = .ok (.iconst 1, 1) := by decide +kernel
theorem d1_10 : decode method_3_code 10 = .ok (.newarray .char, 2) := by decide +kernel
theorem d1_12 : decode method_3_code 12 = .ok (.dup, 1) := by decide +kernel
theorem d1_13 : decode method_3_code 13 = .ok (.iconst 0, 1) := by decide +kernel
theorem d1_14 : decode method_3_code 14 = .ok (.iload_n 0, 1) := by decide +kernel
theorem d1_15 : decode method_3_code 15 = .ok (.castore, 1) := by decide +kernel
theorem d1_16 : decode method_3_code 16 = .ok (.invokespecial 25, 3) := by decide +kernel
theorem d1_19 : decode method_3_code 19 = .ok (.areturn, 1) := by decide +kernel
theorem d1_20 : decode method_3_code 20 = .ok (.new 23, 3) := by decide +kernel
theorem d1_23 : decode method_3_code 23 = .ok (.dup, 1) := by decide +kernel
theorem d1_24 : decode method_3_code 24 = .ok (.iconst 2, 1) := by decide +kernel
theorem d1_25 : decode method_3_code 25 = .ok (.newarray .char, 2) := by decide +kernel
theorem d1_27 : decode method_3_code 27 = .ok (.dup, 1) := by decide +kernel
theorem d1_28 : decode method_3_code 28 = .ok (.iconst 0, 1) := by decide +kernel
theorem d1_29 : decode method_3_code 29 = .ok (.iload_n 0, 1) := by decide +kernel
theorem d1_30 : decode method_3_code 30 = .ok (.castore, 1) := by decide +kernel
theorem d1_31 : decode method_3_code 31 = .ok (.dup, 1) := by decide +kernel
theorem d1_32 : decode method_3_code 32 = .ok (.iconst 1, 1) := by decide +kernel
theorem d1_33 : decode method_3_code 33 = .ok (.iload_n 1, 1) := by decide +kernel
theorem d1_34 : decode method_3_code 34 = .ok (.castore, 1) := by decide +kernel
theorem d1_35 : decode method_3_code 35 = .ok (.invokespecial 25, 3) := by decide +kernel
theorem d1_38 : decode method_3_code 38 = .ok (.areturn, 1) := by decide +kernel
theorem d8_0 : decode prog_34_method_1_code 0 = .ok (.aload_n 0, 1) := by decide +kernel
theorem d8_1 : decode prog_34_method_1_code 1 = .ok (.invokespecial 1, 3) := by decide +kernel
theorem d8_4 : decode prog_34_method_1_code 4 = .ok (.aload_n 1, 1) := by decide +kernel
theorem d8_5 : decode prog_34_method_1_code 5 = .ok (.invokevirtual 7, 3) := by decide +kernel
theorem d8_8 : decode prog_34_method_1_code 8 = .ok (.ifCond .eq 13, 3) := by decide +kernel
theorem d8_21 : decode prog_34_method_1_code 21 = .ok (.iload_n 2, 1) := by decide +kernel
theorem d8_22 : decode prog_34_method_1_code 22 = .ok (.ifCond .lt 9, 3) := by decide +kernel
theorem d8_25 : decode prog_34_method_1_code 25 = .ok (.iload_n 2, 1) := by decide +kernel
theorem d8_26 : decode prog_34_method_1_code 26 = .ok (.ldc 20, 2) := by decide +kernel
theorem d8_28 : decode prog_34_method_1_code 28 = .ok (.if_icmp .le 17, 3) := by decide +kernel
theorem d8_45 : decode prog_34_method_1_code 45 = .ok (.aload_n 0, 1) := by decide +kernel
theorem d8_46 : decode prog_34_method_1_code 46 = .ok (.aload_n 1, 1) := by decide +kernel
theorem d8_47 : decode prog_34_method_1_code 47 = .ok (.putfield 25, 3) := by decide +kernel
theorem d8_50 : decode prog_34_method_1_code 50 = .ok (.aload_n 0, 1) := by decide +kernel
theorem d8_51 : decode prog_34_method_1_code 51 = .ok (.iload_n 2, 1) := by decide +kernel
theorem d8_52 : decode prog_34_method_1_code 52 = .ok (.putfield 31, 3) := by decide +kernel
theorem d8_55 : decode prog_34_method_1_code 55 = .ok (.return_, 1) := by decide +kernel
theorem d9_0 : decode jdk_42_method_55_code 0 = .ok (.aload_n 0, 1) := by decide +kernel
theorem d9_1 : decode jdk_42_method_55_code 1 = .ok (.getfield 9, 3) := by decide +kernel
theorem d9_4 : decode jdk_42_method_55_code 4 = .ok (.arraylength, 1) := by decide +kernel
theorem d9_5 : decode jdk_42_method_55_code 5 = .ok (.ifCond .ne 7, 3) := by decide +kernel
theorem d9_12 : decode jdk_42_method_55_code 12 = .ok (.iconst 0, 1) := by decide +kernel
theorem d9_13 : decode jdk_42_method_55_code 13 = .ok (.ireturn, 1) := by decide +kernel
theorem d10_0 : decode prog_34_method_5_code 0 = .ok (.aload_n 1, 1) := by decide +kernel
theorem d10_1 : decode prog_34_method_5_code 1 = .ok (.instanceof 26, 3) := by decide +kernel
theorem d10_4 : decode prog_34_method_5_code 4 = .ok (.ifCond .eq 37, 3) := by decide +kernel
theorem d10_7 : decode prog_34_method_5_code 7 = .ok (.aload_n 1, 1) := by decide +kernel
theorem d10_8 : decode prog_34_method_5_code 8 = .ok (.checkcast 26, 3) := by decide +kernel
theorem d10_11 : decode prog_34_method_5_code 11 = .ok (.astore_n 2, 1) := by decide +kernel
theorem d10_12 : decode prog_34_method_5_code 12 = .ok (.aload_n 0, 1) := by decide +kernel
theorem d10_13 : decode prog_34_method_5_code 13 = .ok (.getfield 25, 3) := by decide +kernel
theorem d10_16 : decode prog_34_method_5_code 16 = .ok (.aload_n 2, 1) := by decide +kernel
theorem d10_17 : decode prog_34_method_5_code 17 = .ok (.getfield 25, 3) := by decide +kernel
theorem d10_20 : decode prog_34_method_5_code 20 = .ok (.invokevirtual 79, 3) := by decide +kernel
theorem d10_23 : decode prog_34_method_5_code 23 = .ok (.ifCond .eq 18, 3) := by decide +kernel
theorem d10_26 : decode prog_34_method_5_code 26 = .ok (.aload_n 0, 1) := by decide +kernel
theorem d10_27 : decode prog_34_method_5_code 27 = .ok (.getfield 31, 3) := by decide +kernel
theorem d10_30 : decode prog_34_method_5_code 30 = .ok (.aload_n 2, 1) := by decide +kernel
theorem d10_31 : decode prog_34_method_5_code 31 = .ok (.getfield 31, 3) := by decide +kernel
theorem d10_34 : decode prog_34_method_5_code 34 = .ok (.if_icmp .ne 7, 3) := by decide +kernel
theorem d10_37 : decode prog_34_method_5_code 37 = .ok (.iconst 1, 1) := by decide +kernel
theorem d10_38 : decode prog_34_method_5_code 38 = .ok (.goto 4, 3) := by decide +kernel
theorem d10_41 : decode prog_34_method_5_code 41 = .ok (.iconst 0, 1) := by decide +kernel
theorem d10_42 : decode prog_34_method_5_code 42 = .ok (.ireturn, 1) := by decide +kernel
abbrev bytesOf (cs : List Int32) : List Value := (cs.map (fun c => c.toInt8.toInt32)).map Value.int
def eqT (cs ds : List Int32) : Int32 := if cs = ds then 1 else 0
theorem own_nar (x : Int32) (h : ¬ x < 0 ∧ ¬ (255 : Int32) < x) : nar .char x = x := by
  show x.toUInt32.toUInt16.toUInt32.toInt32 = x
  apply Int32.toInt_inj.mp
  have a := c_i2c x
  have b : ¬ x.toInt < (0 : Int32).toInt := fun q => h.1 (Int32.lt_iff_toInt_lt.mpr q)
  have c : ¬ (255 : Int32).toInt < x.toInt := fun q => h.2 (Int32.lt_iff_toInt_lt.mpr q)
  have l0 : (0 : Int32).toInt = 0 := by decide
  have l1 : (255 : Int32).toInt = 255 := by decide
  omega
theorem own_ch (x : Int32) : ¬ (x &&& (255 : Int32)).toUInt32.toUInt16.toUInt32.toInt32 < 0 ∧ ¬ (255 : Int32) < (x &&& (255 : Int32)).toUInt32.toUInt16.toUInt32.toInt32 := by
  have e := i2c_mask x
  have m := c_mask x (255 : Int32) 8 (by decide) (by decide)
  rw [e]
  have l0 : (0 : Int32).toInt = 0 := by decide
  have l : (255 : Int32).toInt = 255 := by decide
  rw [Int32.lt_iff_toInt_lt, Int32.lt_iff_toInt_lt]
  omega
theorem own_words : ∀ d ∈ StrChars.Road.words, d ∈ tables_1 := by decide +kernel
theorem own_wordsEq : ∀ d ∈ StrChars.Road.wordsEq, d ∈ tables_1 := by decide +kernel
theorem own_up (cs : List Int32) (h : ∀ c ∈ cs, ¬ c < 0 ∧ ¬ (255 : Int32) < c) : ∀ c ∈ cs, ¬ c < 0 ∧ ¬ (65535 : Int32) < c := fun c hc => ⟨(h c hc).1, fun q => (h c hc).2 (by rw [Int32.lt_iff_toInt_lt] at q ⊢; have e1 : (65535 : Int32).toInt = 65535 := rfl; have e2 : (255 : Int32).toInt = 255 := rfl; omega)⟩
theorem own_root {Z : State} {a0 : Array Value} {O K : String} {n : Nat} (w : (Jvm.Cond.noSuperclass O).before a0 Z = true) (wi : (Jvm.Cond.instantiable K n).before a0 Z = true) (hn : O ≠ K) : NS Z O K := by
  obtain ⟨c, k, h1, h2, h3, -, -⟩ := Cond.noSuperclass_spec w
  obtain ⟨t, kt, g1, -⟩ := Cond.instantiable_spec wi
  have ne := ids_ne h1 g1 hn
  refine ⟨c, t, h1, g1, fun fuel => ?_⟩
  cases fuel with
  | zero => rfl
  | succ f => simp [Vm.isSubclassAux, ne, h2, h3]
theorem own_no {Z : State} {a0 : Array Value} {C S K : String} {n : Nat} (w : (Jvm.Cond.superclass C S).before a0 Z = true) (wi : (Jvm.Cond.instantiable K n).before a0 Z = true) (ns : NS Z C K) (hn : C ≠ K) : ∃ c t, Z.vm.findClass C = some c ∧ Z.vm.findClass K = some t ∧ Z.vm.assignable c t = false := by
  obtain ⟨c, t, h0, g0, n3⟩ := ns
  obtain ⟨p, k, kp, h1, h2, h3, h4, h5, -, h7⟩ := Cond.superclass_spec h0 w
  obtain ⟨t', kt, g1, g2, g3, g4, -⟩ := Cond.instantiable_spec wi
  cases g0.symm.trans g1
  have g7 : kt.isInterface = false := (Bool.or_eq_false_iff.mp g4).1
  have ne := ids_ne h0 g0 hn
  refine ⟨c, t, h0, g0, ?_⟩
  show Z.vm.assignableAux (255 + 1) c t = false
  simp [Vm.assignableAux, ne, h2, g2, h5, g3, g7, Vm.isSubclass, n3]
def mkS (c1 c2 len : Int32) : List Int32 := if len = (1 : Int32) then [c1] else [c1, c2]
theorem own_mkp (c1 c2 len : Int32) (h1 : ¬ c1 < 0 ∧ ¬ (255 : Int32) < c1) (h2 : ¬ c2 < 0 ∧ ¬ (255 : Int32) < c2) : ∀ c ∈ mkS c1 c2 len, ¬ c < 0 ∧ ¬ (255 : Int32) < c := by
  intro c hc
  unfold mkS at hc
  split at hc
  · simp only [List.mem_cons, List.not_mem_nil, or_false] at hc; rw [hc]; exact h1
  · simp only [List.mem_cons, List.not_mem_nil, or_false] at hc
    rcases hc with hc | hc <;> rw [hc]
    · exact h1
    · exact h2
theorem own_mkl (c1 c2 len : Int32) : (mkS c1 c2 len).length ≤ 4000 := by unfold mkS; split <;> simp
theorem own_mkz (c1 c2 len : Int32) : ¬ Int32.ofNat (mkS c1 c2 len).length = (0 : Int32) := by
  unfold mkS
  split
  · show ¬ Int32.ofNat 1 = 0; decide
  · show ¬ Int32.ofNat 2 = 0; decide
theorem own_e1 (a1 a2 la b1 b2 lb : Int32) (h : la = lb) (h1 : a1 = b1) (h2 : la = 1 ∨ a2 = b2) : eqT (mkS a1 a2 la) (mkS b1 b2 lb) = 1 := by
  subst h h1
  unfold eqT mkS
  by_cases q : la = 1
  · rw [if_pos q, if_pos q]; exact if_pos rfl
  · rw [if_neg q, if_neg q, h2.resolve_left q]; exact if_pos rfl
theorem own_e0 (a1 a2 la b1 b2 lb : Int32) (hl : la = 1 ∨ la = 2) (hm : lb = 1 ∨ lb = 2) (h : ¬ la = lb ∨ ¬ a1 = b1 ∨ (¬ la = 1 ∧ ¬ a2 = b2)) : eqT (mkS a1 a2 la) (mkS b1 b2 lb) = 0 := by
  unfold eqT
  apply if_neg
  unfold mkS
  rcases hl with rfl | rfl <;> rcases hm with rfl | rfl
  · intro q
    simp at q
    rcases h with h | h | h
    · exact h rfl
    · exact h q
    · exact h.1 rfl
  · intro q; simp at q
  · intro q; simp at q
  · intro q
    simp at q
    rcases h with h | h | h
    · exact h rfl
    · exact h q.1
    · exact h.2 q.2
theorem own_len (x : Int32) : (1 : Int32) + ((x.toUInt32 >>> ((16 : Int32) &&& 31).toUInt32).toInt32 &&& (1 : Int32)) = 1 ∨ (1 : Int32) + ((x.toUInt32 >>> ((16 : Int32) &&& 31).toUInt32).toInt32 &&& (1 : Int32)) = 2 := by
  generalize (x.toUInt32 >>> ((16 : Int32) &&& 31).toUInt32).toInt32 = y
  have m := c_mask y (1 : Int32) 1 (by decide) (by decide)
  have a := c_iadd (1 : Int32) (y &&& (1 : Int32))
  have r := rng32 ((1 : Int32) + (y &&& (1 : Int32)))
  have l1 : (1 : Int32).toInt = 1 := by decide
  generalize (1 : Int32) + (y &&& (1 : Int32)) = z at *
  have e : z.toInt = 1 ∨ z.toInt = 2 := by omega
  exact e.imp (fun q => Int32.toInt_inj.mp (q.trans (by decide))) (fun q => Int32.toInt_inj.mp (q.trans (by decide)))
theorem own_port (x : Int32) : ¬ (x &&& (65535 : Int32)) < 0 ∧ ¬ (65535 : Int32) < (x &&& (65535 : Int32)) := by
  have m := c_mask x (65535 : Int32) 16 (by decide) (by decide)
  have l0 : (0 : Int32).toInt = 0 := by decide
  have l : (65535 : Int32).toInt = 65535 := by decide
  rw [Int32.lt_iff_toInt_lt, Int32.lt_iff_toInt_lt]
  omega
abbrev Rm1 : Room := { frames := 4, cells := 3, slots := 8, locals := 66 }
theorem ef_1 (m : MethodId) (p0 : Int32) (p1 : Int32) (p2 : Int32) : entryFrame m #[(.int p0), (.int p1), (.int p2)] 3 = mkF m 0 #[.val (.int p0), .val (.int p1), .val (.int p2)] [] := by first | (simp [entryFrame, mkF, argsToLocals, Value.category]; done) | rfl
def Q1 (Z : State) (p0 : Int32) (p1 : Int32) (p2 : Int32) (s_COMPACT_STRINGS : Int32) (h0 : Heap) (n0 : Nat) (v : Option Value) (h : Heap) (L : List Loc) : Prop := ∃ b t k, v = some (.ref b) ∧ Fr n0 L ∧ h0.size ≤ b ∧ h0.size ≤ t ∧ Keep h0 h [] ∧ Exa Z h b "java/lang/String" ∧ Fld Z h b "java/lang/String" "coder" "B" (.int (0 : Int32)) ∧ Fld Z h b "java/lang/String" "value" "[B" (.ref t) ∧ Arv Z h t k .byte (Int32.ofNat (mkS p0 p1 p2).length) (bytesOf (mkS p0 p1 p2)) (.int (0 : Int32))
set_option maxRecDepth 65536 in
set_option maxHeartbeats 40000000 in
theorem rm1 (l : Launch) (Z : State) (a0 : Array Value) (hw : ∀ d ∈ tables_1, d.before a0 Z = true) (ws : List Jvm.Cond) (p0 : Int32) (p1 : Int32) (p2 : Int32) (s_COMPACT_STRINGS : Int32) (h0 : Heap) (n0 : Nat) (Z0 : n0 ≤ h0.size) (S_COMPACT_STRINGS : Sta Z h0 "java/lang/String" "COMPACT_STRINGS" "Z" (.int s_COMPACT_STRINGS)) (hcs : ¬ s_COMPACT_STRINGS = (0 : Int32)) (hp0 : ¬ p0 < 0 ∧ ¬ (255 : Int32) < p0) (hp1 : ¬ p1 < 0 ∧ ¬ (255 : Int32) < p1) :
    MetFree l (⟨"com/example/ferrywire/ferrywire/wire/HostPortEqualsPinLaw", "make", "(CCI)Ljava/lang/String;"⟩ : MethodName) (head1 (Jvm.Cond.code (⟨"com/example/ferrywire/ferrywire/wire/HostPortEqualsPinLaw", "make", "(CCI)Ljava/lang/String;"⟩ : MethodName) method_3_code 3 (some (.object "java/lang/String")) :: ws) Rm1) (fun a U => a = #[(.int p0), (.int p1), (.int p2)] ∧ Z.Warmed39 U.vm ∧ U.heap = h0) (fun _ _ _ _ _ => True) (fun _ U o U' => ∃ v L, o = .returned v ∧ Q1 Z p0 p1 p2 s_COMPACT_STRINGS h0 n0 v U'.heap L ∧ FrameEnd U o U' L Rm1.cells Rm1.slots) := by
  refine MetFree.of_bodySF (plainFor_of_name pn0) hisR ?_
  intro p e s m args below meth c s₁ Bd hml0 hP hK
  obtain ⟨rfl, hZ, hh⟩ := hP
  have hx := Bd.exec
  have hby := Bd.bytes
  have hml : c.maxLocals = 3 := hml0
  have hown : s.vm.findClass "com/example/ferrywire/ferrywire/wire/HostPortEqualsPinLaw" = some m.cls := findClass_of_methodNamed Bd.named
  have hnm := (name_of_methodNamed Bd.named Bd.method).1
  have X0 : Stand p l e Rm1 s m #[(.int p0), (.int p1), (.int p2)] below meth c s₁ [] 0 0 := Stand.of_body Bd
  have e0 : s₁.heap = h0 := by rw [← hh, Bd.state]; rfl
  have N0 := Fr.nil n0
  show Dn p e below s Rm1.cells Rm1.slots (Q1 Z p0 p1 p2 s_COMPACT_STRINGS h0 n0) (s₁.setTop (entryFrame m #[(.int p0), (.int p1), (.int p2)] 3))
  rw [ef_1]
  refine Dn.by (U' := s₁.setTop (mkF m 1 #[.val (.int p0), .val (.int p1), .val (.int p2)] [(.int p2)])) (fun _ ks => XS.iloadN X0.here hx rfl (hb hby d1_0) rfl ks) ?_
  refine Dn.by (U' := s₁.setTop (mkF m 2 #[.val (.int p0), .val (.int p1), .val (.int p2)] [(.int (1 : Int32)), (.int p2)])) (fun _ ks => XS.iconst X0.here hx rfl (hb hby d1_1)  ks) ?_
  by_cases c2_1 : p2 = (1 : Int32)
  ·
    refine Dn.by (U' := s₁.setTop (mkF m 5 #[.val (.int p0), .val (.int p1), .val (.int p2)] [])) (fun _ ks => XS.icmpNo X0.here hx rfl (hb hby d1_2) rfl (teq c2_1).2 ks) ?_
    obtain ⟨T2, h2, X2, e2, E2, A2, D2, -, st2⟩ := newO X0 hx hZ hown (hw _ (List.mem_of_getElem? (i := 8) rfl)) (hw _ (List.mem_of_getElem? (i := 9) rfl)) (hw _ (List.mem_of_getElem? (i := 10) rfl)) e0 (g := (mkF m 5 #[.val (.int p0), .val (.int p1), .val (.int p2)] [])) rfl (hb hby d1_5) (by decide) (by decide)
    obtain ⟨b2, g2⟩ : ∃ z, z = h0.size := ⟨_, rfl⟩
    rw [← g2] at A2 D2 st2
    have g_b2 : n0 ≤ b2 := Nat.le_trans Z0 (Nat.le_of_eq g2.symm)
    have sz_b2 : h0.size ≤ b2 := Nat.le_trans (Keep.refl h0 []).1 (Nat.le_of_eq g2.symm)
    have K3 : Keep h0 h2 [] := ((Keep.refl h0 []).ext E2)
    have z3 : n0 ≤ h2.size := (Nat.le_trans Z0 E2.1)
    have F_coder_b2 : Fld Z h2 b2 "java/lang/String" "coder" "B" (.int (0 : Int32)) := D2 (Or.inr (hw _ (List.mem_of_getElem? (i := 35) rfl))) (ty := .byte) (by decide)
    have F_value_b2 : Fld Z h2 b2 "java/lang/String" "value" "[B" .null := D2 (Or.inr (hw _ (List.mem_of_getElem? (i := 37) rfl))) (ty := (.array .byte)) (by decide)
    refine Dn.by (U' := T2.setTop (mkF m 8 #[.val (.int p0), .val (.int p1), .val (.int p2)] [(.ref b2)])) st2 ?_
    refine Dn.by (U' := T2.setTop (mkF m 9 #[.val (.int p0), .val (.int p1), .val (.int p2)] [(.ref b2), (.ref b2)])) (fun _ ks => XS.dup X2.here hx rfl (hb hby d1_8) rfl rfl ks) ?_
    refine Dn.by (U' := T2.setTop (mkF m 10 #[.val (.int p0), .val (.int p1), .val (.int p2)] [(.int (1 : Int32)), (.ref b2), (.ref b2)])) (fun _ ks => XS.iconst X2.here hx rfl (hb hby d1_9)  ks) ?_
    obtain ⟨T4, h4, k4, X4, e4, E4, A4, st4⟩ := newP X2 hx hZ (hw _ (List.mem_of_getElem? (i := 11) rfl)) e2 (g := (mkF m 10 #[.val (.int p0), .val (.int p1), .val (.int p2)] [(.int (1 : Int32)), (.ref b2), (.ref b2)])) rfl (hb hby d1_10) rfl (by decide) (cap := 1) (by decide) (by decide) (by decide) (by decide)
    obtain ⟨b4, g4⟩ : ∃ z, z = h2.size := ⟨_, rfl⟩
    rw [← g4] at A4 st4
    have g_b4 : n0 ≤ b4 := Nat.le_trans z3 (Nat.le_of_eq g4.symm)
    have sz_b4 : h0.size ≤ b4 := Nat.le_trans K3.1 (Nat.le_of_eq g4.symm)
    have ne_b2_b4 : b2 ≠ b4 := Nat.ne_of_lt (Nat.lt_of_lt_of_le A2.lt (Nat.le_of_eq g4.symm))
    have K5 : Keep h0 h4 [] := (K3.ext E4)
    have z5 : n0 ≤ h4.size := (Nat.le_trans z3 E4.1)
    have V4 : Arv Z h4 b4 k4 .char (1 : Int32) [(.int (0 : Int32))] (.int (0 : Int32)) := (Arv.new A4 (by decide)).pad (pad_rep [] (.int (0 : Int32)) 1)
    refine Dn.by (U' := T4.setTop (mkF m 12 #[.val (.int p0), .val (.int p1), .val (.int p2)] [(.ref b4), (.ref b2), (.ref b2)])) st4 ?_
    refine Dn.by (U' := T4.setTop (mkF m 13 #[.val (.int p0), .val (.int p1), .val (.int p2)] [(.ref b4), (.ref b4), (.ref b2), (.ref b2)])) (fun _ ks => XS.dup X4.here hx rfl (hb hby d1_12) rfl rfl ks) ?_
    refine Dn.by (U' := T4.setTop (mkF m 14 #[.val (.int p0), .val (.int p1), .val (.int p2)] [(.int (0 : Int32)), (.ref b4), (.ref b4), (.ref b2), (.ref b2)])) (fun _ ks => XS.iconst X4.here hx rfl (hb hby d1_13)  ks) ?_
    refine Dn.by (U' := T4.setTop (mkF m 15 #[.val (.int p0), .val (.int p1), .val (.int p2)] [(.int p0), (.int (0 : Int32)), (.ref b4), (.ref b4), (.ref b2), (.ref b2)])) (fun _ ks => XS.iloadN X4.here hx rfl (hb hby d1_14) rfl ks) ?_
    obtain ⟨cl6, Ar6, q6, S6, M6, H6, G6⟩ := id V4
    obtain ⟨T6, h6, X6, e6, W6, st6⟩ := stC X4 hx hZ e4 Ar6 (j := (0 : Int32)) (inb_of S6 ⟨by decide, by decide⟩) (g := (mkF m 15 #[.val (.int p0), .val (.int p1), .val (.int p2)] [(.int p0), (.int (0 : Int32)), (.ref b4), (.ref b4), (.ref b2), (.ref b2)])) rfl rfl (hb hby d1_15)
    have V6 := Arv.set Ar6 q6 S6 M6 H6 G6 (fits_nar_char _) W6 0 rfl (Nat.le_of_ble_eq_true rfl)
    have K7 : Keep h0 h6 [] := (K5.wr W6 (Or.inr sz_b4))
    have z7 : n0 ≤ h6.size := (Nat.le_trans z5 (Keep.of_wr W6).1)
    have V6b : Arv Z h6 b4 k4 .char (1 : Int32) [(.int (nar .char p0))] (.int (0 : Int32)) := V6
    have N6 := Fr.snoc X6 N0 g_b4
    refine Dn.by (U' := T6.setTop (mkF m 16 #[.val (.int p0), .val (.int p1), .val (.int p2)] [(.ref b4), (.ref b2), (.ref b2)])) st6 ?_
    have Vc8 : Arv Z h6 b4 k4 .char (1 : Int32) [(.int p0)] (.int (0 : Int32)) := by
      have q := V6b
      simp only [own_nar p0 hp0] at q
      exact q
    have hp8 : ∀ c ∈ ([p0] : List Int32), ¬ c < 0 ∧ ¬ (255 : Int32) < c := by
      intro c hc
      simp only [List.mem_cons, List.not_mem_nil, or_false] at hc
      rcases hc with hc
      · rw [hc]; exact hp0
    obtain ⟨_, _, ⟨T8, L8, k8, n8⟩, -, X8, ⟨Lc8, hQ8, l8, y8, z8⟩, st8⟩ := X6.specialBack hx (y := (⟨"java/lang/String", "<init>", "([C)V"⟩ : MethodName)) rfl hown (mvT hZ (hw _ (List.mem_of_getElem? (i := 12) rfl))) (mvT hZ (hw _ (List.mem_of_getElem? (i := 13) rfl))) (mvT hZ (hw _ (List.mem_of_getElem? (i := 14) rfl))) (by decide) (StrChars.Road.backV (W := 1) hZ (fun d hd => hw d (own_words d hd)) (kI := 4) (hw _ (List.mem_of_getElem? (i := 9) rfl)) (cs := ([p0] : List Int32)) (bs := ([p0] : List Int32).map (fun c => c.toInt8.toInt32)) (n := 1) g_b2 z7 ((A2.ext E4).wr W6) ((F_value_b2.ext E4).other W6 (Or.inl ne_b2_b4)) ((F_coder_b2.ext E4).other W6 (Or.inl ne_b2_b4)) Vc8 (((S_COMPACT_STRINGS.ext E2).ext E4).wr W6) hcs rfl rfl (by decide) (by decide) hp8 rfl (by decide) (by decide)) (g := (mkF m 16 #[.val (.int p0), .val (.int p1), .val (.int p2)] [(.ref b4), (.ref b2), (.ref b2)])) rfl (by rw [hml]; rfl) (Steps.refl _) (a := b2) (argsL := [(.ref b4)]) (rest := [(.ref b2)]) (lenOf pd0 rfl) rfl (by show 2 * 0 + _ ≤ _; exact Nat.le_of_eq rfl) (hb hby d1_16) (fun _ _ => ⟨rfl, e6, (by decide : 2 + 1 ≤ _), (by decide : 5 + 1 ≤ _)⟩)
    dsimp only [Pt.U, Pt.locs, Pt.cells, Pt.slots] at X8 l8 y8 z8 st8 hQ8
    rw [l8, y8, z8] at X8
    obtain ⟨rfl, N8q, KK8, EE8, FC8, t8, kb8, gt8, zt8, nt8, FV8, VV8⟩ := hQ8
    have N8 := Fr.app N6 N8q
    have g_t8 : n0 ≤ t8 := Nat.le_trans z7 zt8
    have sz_t8 : h0.size ≤ t8 := Nat.le_trans K7.1 zt8
    have ne_b2_t8 : b2 ≠ t8 := Nat.ne_of_lt (Nat.lt_of_lt_of_le ((A2.ext E4).wr W6).lt zt8)
    have ne_b4_t8 : b4 ≠ t8 := Nat.ne_of_lt (Nat.lt_of_lt_of_le V6b.lt zt8)
    have K9 : Keep h0 T8.heap [] := (K7.trans KK8 (allS (Or.inr sz_b2) all0))
    have z9 : n0 ≤ T8.heap.size := (Nat.le_trans z7 KK8.1)
    refine Dn.by (U' := T8.setTop (mkF m 19 #[.val (.int p0), .val (.int p1), .val (.int p2)] [(.ref b2)])) (fun _ ks => st8.trans ks) ?_
    refine Dn.out X8 (v := (some (.ref b2))) (fun h => by rw [Bd.returns] at h; cases h) (BodyLoose.notSynchronized Bd) (fun _ hr => retOut X8 hx Bd.returns rfl (Or.inr (Or.inr (Or.inr (Or.inr ⟨rfl, rfl, rfl⟩)))) (hb hby d1_19) hr) (by decide) (by decide) ?_
    exact ⟨b2, t8, kb8, rfl, N8, sz_b2, sz_t8, K9, EE8, FC8, FV8, by rw [show mkS p0 p1 p2 = ([p0] : List Int32) from if_pos c2_1]; exact VV8⟩
  ·
    refine Dn.by (U' := s₁.setTop (mkF m 20 #[.val (.int p0), .val (.int p1), .val (.int p2)] [])) (fun _ ks => XS.icmpYes X0.here hx rfl (pc0 := 2) (pc' := 20) rfl (hb hby d1_2) rfl (feq c2_1).2 (by decide) (by decide) ks) ?_
    obtain ⟨T10, h10, X10, e10, E10, A10, D10, -, st10⟩ := newO X0 hx hZ hown (hw _ (List.mem_of_getElem? (i := 8) rfl)) (hw _ (List.mem_of_getElem? (i := 9) rfl)) (hw _ (List.mem_of_getElem? (i := 10) rfl)) e0 (g := (mkF m 20 #[.val (.int p0), .val (.int p1), .val (.int p2)] [])) rfl (hb hby d1_20) (by decide) (by decide)
    obtain ⟨b10, g10⟩ : ∃ z, z = h0.size := ⟨_, rfl⟩
    rw [← g10] at A10 D10 st10
    have g_b10 : n0 ≤ b10 := Nat.le_trans Z0 (Nat.le_of_eq g10.symm)
    have sz_b10 : h0.size ≤ b10 := Nat.le_trans (Keep.refl h0 []).1 (Nat.le_of_eq g10.symm)
    have K11 : Keep h0 h10 [] := ((Keep.refl h0 []).ext E10)
    have z11 : n0 ≤ h10.size := (Nat.le_trans Z0 E10.1)
    have F_coder_b10 : Fld Z h10 b10 "java/lang/String" "coder" "B" (.int (0 : Int32)) := D10 (Or.inr (hw _ (List.mem_of_getElem? (i := 35) rfl))) (ty := .byte) (by decide)
    have F_value_b10 : Fld Z h10 b10 "java/lang/String" "value" "[B" .null := D10 (Or.inr (hw _ (List.mem_of_getElem? (i := 37) rfl))) (ty := (.array .byte)) (by decide)
    refine Dn.by (U' := T10.setTop (mkF m 23 #[.val (.int p0), .val (.int p1), .val (.int p2)] [(.ref b10)])) st10 ?_
    refine Dn.by (U' := T10.setTop (mkF m 24 #[.val (.int p0), .val (.int p1), .val (.int p2)] [(.ref b10), (.ref b10)])) (fun _ ks => XS.dup X10.here hx rfl (hb hby d1_23) rfl rfl ks) ?_
    refine Dn.by (U' := T10.setTop (mkF m 25 #[.val (.int p0), .val (.int p1), .val (.int p2)] [(.int (2 : Int32)), (.ref b10), (.ref b10)])) (fun _ ks => XS.iconst X10.here hx rfl (hb hby d1_24)  ks) ?_
    obtain ⟨T12, h12, k12, X12, e12, E12, A12, st12⟩ := newP X10 hx hZ (hw _ (List.mem_of_getElem? (i := 11) rfl)) e10 (g := (mkF m 25 #[.val (.int p0), .val (.int p1), .val (.int p2)] [(.int (2 : Int32)), (.ref b10), (.ref b10)])) rfl (hb hby d1_25) rfl (by decide) (cap := 2) (by decide) (by decide) (by decide) (by decide)
    obtain ⟨b12, g12⟩ : ∃ z, z = h10.size := ⟨_, rfl⟩
    rw [← g12] at A12 st12
    have g_b12 : n0 ≤ b12 := Nat.le_trans z11 (Nat.le_of_eq g12.symm)
    have sz_b12 : h0.size ≤ b12 := Nat.le_trans K11.1 (Nat.le_of_eq g12.symm)
    have ne_b10_b12 : b10 ≠ b12 := Nat.ne_of_lt (Nat.lt_of_lt_of_le A10.lt (Nat.le_of_eq g12.symm))
    have K13 : Keep h0 h12 [] := (K11.ext E12)
    have z13 : n0 ≤ h12.size := (Nat.le_trans z11 E12.1)
    have V12 : Arv Z h12 b12 k12 .char (2 : Int32) [(.int (0 : Int32)), (.int (0 : Int32))] (.int (0 : Int32)) := (Arv.new A12 (by decide)).pad (pad_rep [] (.int (0 : Int32)) 2)
    refine Dn.by (U' := T12.setTop (mkF m 27 #[.val (.int p0), .val (.int p1), .val (.int p2)] [(.ref b12), (.ref b10), (.ref b10)])) st12 ?_
    refine Dn.by (U' := T12.setTop (mkF m 28 #[.val (.int p0), .val (.int p1), .val (.int p2)] [(.ref b12), (.ref b12), (.ref b10), (.ref b10)])) (fun _ ks => XS.dup X12.here hx rfl (hb hby d1_27) rfl rfl ks) ?_
    refine Dn.by (U' := T12.setTop (mkF m 29 #[.val (.int p0), .val (.int p1), .val (.int p2)] [(.int (0 : Int32)), (.ref b12), (.ref b12), (.ref b10), (.ref b10)])) (fun _ ks => XS.iconst X12.here hx rfl (hb hby d1_28)  ks) ?_
    refine Dn.by (U' := T12.setTop (mkF m 30 #[.val (.int p0), .val (.int p1), .val (.int p2)] [(.int p0), (.int (0 : Int32)), (.ref b12), (.ref b12), (.ref b10), (.ref b10)])) (fun _ ks => XS.iloadN X12.here hx rfl (hb hby d1_29) rfl ks) ?_
    obtain ⟨cl14, Ar14, q14, S14, M14, H14, G14⟩ := id V12
    obtain ⟨T14, h14, X14, e14, W14, st14⟩ := stC X12 hx hZ e12 Ar14 (j := (0 : Int32)) (inb_of S14 ⟨by decide, by decide⟩) (g := (mkF m 30 #[.val (.int p0), .val (.int p1), .val (.int p2)] [(.int p0), (.int (0 : Int32)), (.ref b12), (.ref b12), (.ref b10), (.ref b10)])) rfl rfl (hb hby d1_30)
    have V14 := Arv.set Ar14 q14 S14 M14 H14 G14 (fits_nar_char _) W14 0 rfl (Nat.le_of_ble_eq_true rfl)
    have K15 : Keep h0 h14 [] := (K13.wr W14 (Or.inr sz_b12))
    have z15 : n0 ≤ h14.size := (Nat.le_trans z13 (Keep.of_wr W14).1)
    have V14b : Arv Z h14 b12 k12 .char (2 : Int32) [(.int (nar .char p0)), (.int (0 : Int32))] (.int (0 : Int32)) := V14
    have N14 := Fr.snoc X14 N0 g_b12
    refine Dn.by (U' := T14.setTop (mkF m 31 #[.val (.int p0), .val (.int p1), .val (.int p2)] [(.ref b12), (.ref b10), (.ref b10)])) st14 ?_
    refine Dn.by (U' := T14.setTop (mkF m 32 #[.val (.int p0), .val (.int p1), .val (.int p2)] [(.ref b12), (.ref b12), (.ref b10), (.ref b10)])) (fun _ ks => XS.dup X14.here hx rfl (hb hby d1_31) rfl rfl ks) ?_
    refine Dn.by (U' := T14.setTop (mkF m 33 #[.val (.int p0), .val (.int p1), .val (.int p2)] [(.int (1 : Int32)), (.ref b12), (.ref b12), (.ref b10), (.ref b10)])) (fun _ ks => XS.iconst X14.here hx rfl (hb hby d1_32)  ks) ?_
    refine Dn.by (U' := T14.setTop (mkF m 34 #[.val (.int p0), .val (.int p1), .val (.int p2)] [(.int p1), (.int (1 : Int32)), (.ref b12), (.ref b12), (.ref b10), (.ref b10)])) (fun _ ks => XS.iloadN X14.here hx rfl (hb hby d1_33) rfl ks) ?_
    obtain ⟨cl16, Ar16, q16, S16, M16, H16, G16⟩ := id V14b
    obtain ⟨T16, h16, X16, e16, W16, st16⟩ := stC X14 hx hZ e14 Ar16 (j := (1 : Int32)) (inb_of S16 ⟨by decide, by decide⟩) (g := (mkF m 34 #[.val (.int p0), .val (.int p1), .val (.int p2)] [(.int p1), (.int (1 : Int32)), (.ref b12), (.ref b12), (.ref b10), (.ref b10)])) rfl rfl (hb hby d1_34)
    have V16 := Arv.set Ar16 q16 S16 M16 H16 G16 (fits_nar_char _) W16 1 rfl (Nat.le_of_ble_eq_true rfl)
    have K17 : Keep h0 h16 [] := (K15.wr W16 (Or.inr sz_b12))
    have z17 : n0 ≤ h16.size := (Nat.le_trans z15 (Keep.of_wr W16).1)
    have V16b : Arv Z h16 b12 k12 .char (2 : Int32) [(.int (nar .char p0)), (.int (nar .char p1))] (.int (0 : Int32)) := V16
    have N16 := Fr.snoc X16 N14 g_b12
    refine Dn.by (U' := T16.setTop (mkF m 35 #[.val (.int p0), .val (.int p1), .val (.int p2)] [(.ref b12), (.ref b10), (.ref b10)])) st16 ?_
    have Vc18 : Arv Z h16 b12 k12 .char (2 : Int32) [(.int p0), (.int p1)] (.int (0 : Int32)) := by
      have q := V16b
      simp only [own_nar p0 hp0, own_nar p1 hp1] at q
      exact q
    have hp18 : ∀ c ∈ ([p0, p1] : List Int32), ¬ c < 0 ∧ ¬ (255 : Int32) < c := by
      intro c hc
      simp only [List.mem_cons, List.not_mem_nil, or_false] at hc
      rcases hc with hc | hc
      · rw [hc]; exact hp0
      · rw [hc]; exact hp1
    obtain ⟨_, _, ⟨T18, L18, k18, n18⟩, -, X18, ⟨Lc18, hQ18, l18, y18, z18⟩, st18⟩ := X16.specialBack hx (y := (⟨"java/lang/String", "<init>", "([C)V"⟩ : MethodName)) rfl hown (mvT hZ (hw _ (List.mem_of_getElem? (i := 12) rfl))) (mvT hZ (hw _ (List.mem_of_getElem? (i := 13) rfl))) (mvT hZ (hw _ (List.mem_of_getElem? (i := 14) rfl))) (by decide) (StrChars.Road.backV (W := 1) hZ (fun d hd => hw d (own_words d hd)) (kI := 4) (hw _ (List.mem_of_getElem? (i := 9) rfl)) (cs := ([p0, p1] : List Int32)) (bs := ([p0, p1] : List Int32).map (fun c => c.toInt8.toInt32)) (n := 2) g_b10 z17 (((A10.ext E12).wr W14).wr W16) (((F_value_b10.ext E12).other W14 (Or.inl ne_b10_b12)).other W16 (Or.inl ne_b10_b12)) (((F_coder_b10.ext E12).other W14 (Or.inl ne_b10_b12)).other W16 (Or.inl ne_b10_b12)) Vc18 ((((S_COMPACT_STRINGS.ext E10).ext E12).wr W14).wr W16) hcs rfl rfl (by decide) (by decide) hp18 rfl (by decide) (by decide)) (g := (mkF m 35 #[.val (.int p0), .val (.int p1), .val (.int p2)] [(.ref b12), (.ref b10), (.ref b10)])) rfl (by rw [hml]; rfl) (Steps.refl _) (a := b10) (argsL := [(.ref b12)]) (rest := [(.ref b10)]) (lenOf pd0 rfl) rfl (by show 2 * 0 + _ ≤ _; exact Nat.le_of_eq rfl) (hb hby d1_35) (fun _ _ => ⟨rfl, e16, (by decide : 2 + 1 ≤ _), (by decide : 6 + 2 ≤ _)⟩)
    dsimp only [Pt.U, Pt.locs, Pt.cells, Pt.slots] at X18 l18 y18 z18 st18 hQ18
    rw [l18, y18, z18] at X18
    obtain ⟨rfl, N18q, KK18, EE18, FC18, t18, kb18, gt18, zt18, nt18, FV18, VV18⟩ := hQ18
    have N18 := Fr.app N16 N18q
    have g_t18 : n0 ≤ t18 := Nat.le_trans z17 zt18
    have sz_t18 : h0.size ≤ t18 := Nat.le_trans K17.1 zt18
    have ne_b10_t18 : b10 ≠ t18 := Nat.ne_of_lt (Nat.lt_of_lt_of_le (((A10.ext E12).wr W14).wr W16).lt zt18)
    have ne_b12_t18 : b12 ≠ t18 := Nat.ne_of_lt (Nat.lt_of_lt_of_le V16b.lt zt18)
    have K19 : Keep h0 T18.heap [] := (K17.trans KK18 (allS (Or.inr sz_b10) all0))
    have z19 : n0 ≤ T18.heap.size := (Nat.le_trans z17 KK18.1)
    refine Dn.by (U' := T18.setTop (mkF m 38 #[.val (.int p0), .val (.int p1), .val (.int p2)] [(.ref b10)])) (fun _ ks => st18.trans ks) ?_
    refine Dn.out X18 (v := (some (.ref b10))) (fun h => by rw [Bd.returns] at h; cases h) (BodyLoose.notSynchronized Bd) (fun _ hr => retOut X18 hx Bd.returns rfl (Or.inr (Or.inr (Or.inr (Or.inr ⟨rfl, rfl, rfl⟩)))) (hb hby d1_38) hr) (by decide) (by decide) ?_
    exact ⟨b10, t18, kb18, rfl, N18, sz_b10, sz_t18, K19, EE18, FC18, FV18, by rw [show mkS p0 p1 p2 = ([p0, p1] : List Int32) from if_neg c2_1]; exact VV18⟩
abbrev Rm9 : Room := { frames := 0, cells := 0, slots := 0, locals := 0 }
theorem ef_9 (m : MethodId) (o0 : Addr) : entryFrame m #[(.ref o0)] 1 = mkF m 0 #[.val (.ref o0)] [] := by first | (simp [entryFrame, mkF, argsToLocals, Value.category]; done) | rfl
def Q9 (Z : State) (o0 : Addr) (t_o0 : Addr) (k_o0 : ClassId) (cs_o0 : List Int32) (h0 : Heap) (n0 : Nat) (v : Option Value) (h : Heap) (L : List Loc) : Prop := v = some (.int (0 : Int32)) ∧ Fr n0 L ∧ h = h0
set_option maxRecDepth 65536 in
set_option maxHeartbeats 40000000 in
theorem rm9 (l : Launch) (Z : State) (a0 : Array Value) (hw : ∀ d ∈ tables_1, d.before a0 Z = true) (ws : List Jvm.Cond) (o0 : Addr) (t_o0 : Addr) (k_o0 : ClassId) (cs_o0 : List Int32) (h0 : Heap) (n0 : Nat) (Z0 : n0 ≤ h0.size) (E_o0 : Exa Z h0 o0 "java/lang/String") (FC_o0 : Fld Z h0 o0 "java/lang/String" "coder" "B" (.int (0 : Int32))) (FV_o0 : Fld Z h0 o0 "java/lang/String" "value" "[B" (.ref t_o0)) (V_o0 : Arv Z h0 t_o0 k_o0 .byte (Int32.ofNat cs_o0.length) (bytesOf cs_o0) (.int (0 : Int32))) (hp_o0 : ∀ c ∈ cs_o0, ¬ c < 0 ∧ ¬ (255 : Int32) < c) (hl_o0 : cs_o0.length ≤ 4000) (hz_o0 : ¬ Int32.ofNat cs_o0.length = (0 : Int32)) :
    MetFree l (⟨"java/lang/String", "isEmpty", "()Z"⟩ : MethodName) (head1 (Jvm.Cond.code (⟨"java/lang/String", "isEmpty", "()Z"⟩ : MethodName) jdk_42_method_55_code 1 (some .boolean) :: ws) Rm9) (fun a U => a = #[(.ref o0)] ∧ Z.Warmed39 U.vm ∧ U.heap = h0) (fun _ _ _ _ _ => True) (fun _ U o U' => ∃ v L, o = .returned v ∧ Q9 Z o0 t_o0 k_o0 cs_o0 h0 n0 v U'.heap L ∧ FrameEnd U o U' L Rm9.cells Rm9.slots) := by
  refine MetFree.of_bodySF (plainFor_of_name pn1) hisR ?_
  intro p e s m args below meth c s₁ Bd hml0 hP hK
  obtain ⟨rfl, hZ, hh⟩ := hP
  have hx := Bd.exec
  have hby := Bd.bytes
  have hml : c.maxLocals = 1 := hml0
  have hown : s.vm.findClass "java/lang/String" = some m.cls := findClass_of_methodNamed Bd.named
  have hnm := (name_of_methodNamed Bd.named Bd.method).1
  have X0 : Stand p l e Rm9 s m #[(.ref o0)] below meth c s₁ [] 0 0 := Stand.of_body Bd
  have e0 : s₁.heap = h0 := by rw [← hh, Bd.state]; rfl
  have N0 := Fr.nil n0
  show Dn p e below s Rm9.cells Rm9.slots (Q9 Z o0 t_o0 k_o0 cs_o0 h0 n0) (s₁.setTop (entryFrame m #[(.ref o0)] 1))
  rw [ef_9]
  refine Dn.by (U' := s₁.setTop (mkF m 1 #[.val (.ref o0)] [(.ref o0)])) (fun _ ks => XS.aloadN X0.here hx rfl (hb hby d9_0) rfl rfl ks) ?_
  obtain ⟨T1, X1, e1, st1⟩ := getF X0 hx hZ hown (host := "") (Or.inl (hw _ (List.mem_of_getElem? (i := 36) rfl))) Via.refl e0 FV_o0 (g := (mkF m 1 #[.val (.ref o0)] [(.ref o0)])) rfl rfl (hb hby d9_1)
  refine Dn.by (U' := T1.setTop (mkF m 4 #[.val (.ref o0)] [(.ref t_o0)])) st1 ?_
  obtain ⟨cl2, Ar2, q2, S2, M2, H2, G2⟩ := id V_o0
  refine Dn.by (U' := T1.setTop (mkF m 5 #[.val (.ref o0)] [(.int (Int32.ofNat cs_o0.length))])) (fun t k => X1.arraylength hx (by rw [e1]; exact Ar2.1) (State.isArrayOf_alike hZ.alike Ar2.2.1) (g := (mkF m 4 #[.val (.ref o0)] [(.ref t_o0)])) rfl rfl (hb hby d9_4) t (by rw [len_of S2 M2]; exact k)) ?_
  refine Dn.by (U' := T1.setTop (mkF m 12 #[.val (.ref o0)] [])) (fun _ ks => XS.ifYes X1.here hx rfl (pc0 := 5) (pc' := 12) rfl (hb hby d9_5) rfl ((if0 _ _).trans (feq hz_o0).2) (by decide) (by decide) ks) ?_
  refine Dn.by (U' := T1.setTop (mkF m 13 #[.val (.ref o0)] [(.int (0 : Int32))])) (fun _ ks => XS.iconst X1.here hx rfl (hb hby d9_12)  ks) ?_
  refine Dn.out X1 (v := (some (.int (0 : Int32)))) (fun h => by rw [Bd.returns] at h; cases h) (BodyLoose.notSynchronized Bd) (fun _ hr => retN X1 hx (t := .boolean) Bd.returns (by simp) (hb hby d9_13) hr) (by decide) (by decide) ?_
  rw [e1]
  exact ⟨rfl, N0, rfl⟩
abbrev Rm8 : Room := { frames := 1, cells := 0, slots := 0, locals := 12 }
theorem ef_8 (m : MethodId) (o0 : Addr) (o1 : Addr) (p2 : Int32) : entryFrame m #[(.ref o0), (.ref o1), (.int p2)] 3 = mkF m 0 #[.val (.ref o0), .val (.ref o1), .val (.int p2)] [] := by first | (simp [entryFrame, mkF, argsToLocals, Value.category]; done) | rfl
def Q8 (Z : State) (o0 : Addr) (o1 : Addr) (p2 : Int32) (t_o1 : Addr) (k_o1 : ClassId) (cs_o1 : List Int32) (u_host_o0 : Value) (u_port_o0 : Value) (h0 : Heap) (n0 : Nat) (v : Option Value) (h : Heap) (L : List Loc) : Prop := v = none ∧ Fr n0 L ∧ Keep h0 h [o0] ∧ Exa Z h o0 "com/example/ferrywire/ferrywire/wire/HostPort" ∧ Fld Z h o0 "com/example/ferrywire/ferrywire/wire/HostPort" "host" "Ljava/lang/String;" (.ref o1) ∧ Fld Z h o0 "com/example/ferrywire/ferrywire/wire/HostPort" "port" "I" (.int p2)
set_option maxRecDepth 65536 in
set_option maxHeartbeats 40000000 in
theorem rm8 (l : Launch) (Z : State) (a0 : Array Value) (hw : ∀ d ∈ tables_1, d.before a0 Z = true) (ws : List Jvm.Cond) (o0 : Addr) (o1 : Addr) (p2 : Int32) (t_o1 : Addr) (k_o1 : ClassId) (cs_o1 : List Int32) (u_host_o0 : Value) (u_port_o0 : Value) (h0 : Heap) (n0 : Nat) (Z0 : n0 ≤ h0.size) (E_o1 : Exa Z h0 o1 "java/lang/String") (FC_o1 : Fld Z h0 o1 "java/lang/String" "coder" "B" (.int (0 : Int32))) (FV_o1 : Fld Z h0 o1 "java/lang/String" "value" "[B" (.ref t_o1)) (V_o1 : Arv Z h0 t_o1 k_o1 .byte (Int32.ofNat cs_o1.length) (bytesOf cs_o1) (.int (0 : Int32))) (hp_o1 : ∀ c ∈ cs_o1, ¬ c < 0 ∧ ¬ (255 : Int32) < c) (hl_o1 : cs_o1.length ≤ 4000) (hz_o1 : ¬ Int32.ofNat cs_o1.length = (0 : Int32)) (hr : ¬ p2 < 0 ∧ ¬ (65535 : Int32) < p2) (g_o0 : n0 ≤ o0) (E_o0 : Exa Z h0 o0 "com/example/ferrywire/ferrywire/wire/HostPort") (F_u_host_o0 : Fld Z h0 o0 "com/example/ferrywire/ferrywire/wire/HostPort" "host" "Ljava/lang/String;" u_host_o0) (F_u_port_o0 : Fld Z h0 o0 "com/example/ferrywire/ferrywire/wire/HostPort" "port" "I" u_port_o0) :
    MetFree l (⟨"com/example/ferrywire/ferrywire/wire/HostPort", "<init>", "(Ljava/lang/String;I)V"⟩ : MethodName) (head1 (Jvm.Cond.code (⟨"com/example/ferrywire/ferrywire/wire/HostPort", "<init>", "(Ljava/lang/String;I)V"⟩ : MethodName) prog_34_method_1_code 3 none :: ws) Rm8) (fun a U => a = #[(.ref o0), (.ref o1), (.int p2)] ∧ Z.Warmed39 U.vm ∧ U.heap = h0) (fun _ _ _ _ _ => True) (fun _ U o U' => ∃ v L, o = .returned v ∧ Q8 Z o0 o1 p2 t_o1 k_o1 cs_o1 u_host_o0 u_port_o0 h0 n0 v U'.heap L ∧ FrameEnd U o U' L Rm8.cells Rm8.slots) := by
  refine MetFree.of_bodySF (plainFor_of_name pn2) hisR ?_
  intro p e s m args below meth c s₁ Bd hml0 hP hK
  obtain ⟨rfl, hZ, hh⟩ := hP
  have hx := Bd.exec
  have hby := Bd.bytes
  have hml : c.maxLocals = 3 := hml0
  have hown : s.vm.findClass "com/example/ferrywire/ferrywire/wire/HostPort" = some m.cls := findClass_of_methodNamed Bd.named
  have hnm := (name_of_methodNamed Bd.named Bd.method).1
  have X0 : Stand p l e Rm8 s m #[(.ref o0), (.ref o1), (.int p2)] below meth c s₁ [] 0 0 := Stand.of_body Bd
  have e0 : s₁.heap = h0 := by rw [← hh, Bd.state]; rfl
  have N0 := Fr.nil n0
  show Dn p e below s Rm8.cells Rm8.slots (Q8 Z o0 o1 p2 t_o1 k_o1 cs_o1 u_host_o0 u_port_o0 h0 n0) (s₁.setTop (entryFrame m #[(.ref o0), (.ref o1), (.int p2)] 3))
  rw [ef_8]
  refine Dn.by (U' := s₁.setTop (mkF m 1 #[.val (.ref o0), .val (.ref o1), .val (.int p2)] [(.ref o0)])) (fun _ ks => XS.aloadN X0.here hx rfl (hb hby d8_0) rfl rfl ks) ?_
  obtain ⟨T1, X1, e1, st1⟩ := initO X0 hx hZ hown (hw _ (List.mem_of_getElem? (i := 41) rfl)) (hw _ (List.mem_of_getElem? (i := 20) rfl)) (hw _ (List.mem_of_getElem? (i := 21) rfl)) e0 (g := (mkF m 1 #[.val (.ref o0), .val (.ref o1), .val (.int p2)] [(.ref o0)])) rfl (by rw [hml]; rfl) rfl (hb hby d8_1) (by decide) (W := 0) (by show 2 * 0 + _ ≤ _; exact Nat.le_of_eq rfl) (by decide)
  refine Dn.by (U' := T1.setTop (mkF m 4 #[.val (.ref o0), .val (.ref o1), .val (.int p2)] [])) st1 ?_
  refine Dn.by (U' := T1.setTop (mkF m 5 #[.val (.ref o0), .val (.ref o1), .val (.int p2)] [(.ref o1)])) (fun _ ks => XS.aloadN X1.here hx rfl (hb hby d8_4) rfl rfl ks) ?_
  obtain ⟨cq2, kq2, qa2, qb2, qc2⟩ := isOf hZ e1 E_o1
  obtain ⟨_, _, ⟨T2, L2, k2, n2⟩, -, X2, ⟨Lc2, hQ2, l2, y2, z2⟩, st2⟩ := X1.virtualBack hx (y := (⟨"java/lang/String", "isEmpty", "()Z"⟩ : MethodName)) (z := (⟨"java/lang/String", "isEmpty", "()Z"⟩ : MethodName)) hown (mvT hZ (hw _ (List.mem_of_getElem? (i := 42) rfl))) (mvT hZ (hw _ (List.mem_of_getElem? (i := 43) rfl))) (notFace_of_selects (args := #[]) (mvT hZ (hw _ (List.mem_of_getElem? (i := 45) rfl)))) (mvT hZ (hw _ (List.mem_of_getElem? (i := 45) rfl))) (mvT hZ (hw _ (List.mem_of_getElem? (i := 44) rfl))) (by decide) (backOf (W := 0) (rm9 l Z a0 hw [] o1 t_o1 k_o1 cs_o1 h0 n0 Z0 E_o1 FC_o1 FV_o1 V_o1 hp_o1 hl_o1 hz_o1) hZ (hw _ (List.mem_of_getElem? (i := 46) rfl)) (hw _ (List.mem_of_getElem? (i := 10) rfl)) (by decide) (by decide)) qa2 qc2 (g := (mkF m 5 #[.val (.ref o0), .val (.ref o1), .val (.int p2)] [(.ref o1)])) rfl (by rw [hml]; rfl) (Steps.refl _) (argsL := []) (rest := []) (lenOf pd1 rfl) rfl (by show 2 * 0 + _ ≤ _; exact Nat.le_of_eq rfl) (hb hby d8_5) (fun _ _ => ⟨rfl, e1, (by decide : 0 + 0 ≤ _), (by decide : 0 + 0 ≤ _)⟩)
  dsimp only [Pt.U, Pt.locs, Pt.cells, Pt.slots] at X2 l2 y2 z2 st2 hQ2
  rw [l2, y2, z2] at X2
  obtain ⟨rfl, N2q, e2⟩ := hQ2
  have N2 := Fr.app N0 N2q
  refine Dn.by (U' := T2.setTop (mkF m 8 #[.val (.ref o0), .val (.ref o1), .val (.int p2)] [(.int (0 : Int32))])) (fun _ ks => st2.trans ks) ?_
  refine Dn.by (U' := T2.setTop (mkF m 21 #[.val (.ref o0), .val (.ref o1), .val (.int p2)] [])) (fun _ ks => XS.ifYes X2.here hx rfl (pc0 := 8) (pc' := 21) rfl (hb hby d8_8) rfl (by decide) (by decide) (by decide) ks) ?_
  refine Dn.by (U' := T2.setTop (mkF m 22 #[.val (.ref o0), .val (.ref o1), .val (.int p2)] [(.int p2)])) (fun _ ks => XS.iloadN X2.here hx rfl (hb hby d8_21) rfl ks) ?_
  refine Dn.by (U' := T2.setTop (mkF m 25 #[.val (.ref o0), .val (.ref o1), .val (.int p2)] [])) (fun _ ks => XS.ifNo X2.here hx rfl (hb hby d8_22) rfl ((if0 _ _).trans (flt hr.1).1) ks) ?_
  refine Dn.by (U' := T2.setTop (mkF m 26 #[.val (.ref o0), .val (.ref o1), .val (.int p2)] [(.int p2)])) (fun _ ks => XS.iloadN X2.here hx rfl (hb hby d8_25) rfl ks) ?_
  refine Dn.by (U' := T2.setTop (mkF m 28 #[.val (.ref o0), .val (.ref o1), .val (.int p2)] [(.int (65535 : Int32)), (.int p2)])) (X2.ldcInt hx hown (mvT hZ (hw _ (List.mem_of_getElem? (i := 47) rfl))) (g := (mkF m 26 #[.val (.ref o0), .val (.ref o1), .val (.int p2)] [(.int p2)])) rfl (hb hby d8_26)) ?_
  refine Dn.by (U' := T2.setTop (mkF m 45 #[.val (.ref o0), .val (.ref o1), .val (.int p2)] [])) (fun _ ks => XS.icmpYes X2.here hx rfl (pc0 := 28) (pc' := 45) rfl (hb hby d8_28) rfl (flt hr.2).2.2.2 (by decide) (by decide) ks) ?_
  refine Dn.by (U' := T2.setTop (mkF m 46 #[.val (.ref o0), .val (.ref o1), .val (.int p2)] [(.ref o0)])) (fun _ ks => XS.aloadN X2.here hx rfl (hb hby d8_45) rfl rfl ks) ?_
  refine Dn.by (U' := T2.setTop (mkF m 47 #[.val (.ref o0), .val (.ref o1), .val (.int p2)] [(.ref o1), (.ref o0)])) (fun _ ks => XS.aloadN X2.here hx rfl (hb hby d8_46) rfl rfl ks) ?_
  obtain ⟨T3, h3, X3, e3, W3, st3⟩ := putF X2 hx hZ hown (host := "") (Or.inl (hw _ (List.mem_of_getElem? (i := 48) rfl))) Via.refl e2 F_u_host_o0 E_o0 (Or.inr ⟨(hw _ (List.mem_of_getElem? (i := 49) rfl)), rfl, hnm⟩) (hw _ (List.mem_of_getElem? (i := 2) rfl)) (ty := (.object "java/lang/String")) (by decide) rfl rfl (g := (mkF m 47 #[.val (.ref o0), .val (.ref o1), .val (.int p2)] [(.ref o1), (.ref o0)])) rfl rfl (hb hby d8_47)
  have F3 := F_u_host_o0.same W3
  have K4 : Keep h0 h3 [o0] := ((Keep.refl h0 [o0]).wr W3 (Or.inl (List.mem_of_getElem? (i := 0) rfl)))
  have z4 : n0 ≤ h3.size := (Nat.le_trans Z0 (Keep.of_wr W3).1)
  have N3 := Fr.snoc X3 N2 g_o0
  refine Dn.by (U' := T3.setTop (mkF m 50 #[.val (.ref o0), .val (.ref o1), .val (.int p2)] [])) st3 ?_
  refine Dn.by (U' := T3.setTop (mkF m 51 #[.val (.ref o0), .val (.ref o1), .val (.int p2)] [(.ref o0)])) (fun _ ks => XS.aloadN X3.here hx rfl (hb hby d8_50) rfl rfl ks) ?_
  refine Dn.by (U' := T3.setTop (mkF m 52 #[.val (.ref o0), .val (.ref o1), .val (.int p2)] [(.int p2), (.ref o0)])) (fun _ ks => XS.iloadN X3.here hx rfl (hb hby d8_51) rfl ks) ?_
  obtain ⟨T5, h5, X5, e5, W5, st5⟩ := putF X3 hx hZ hown (host := "") (Or.inl (hw _ (List.mem_of_getElem? (i := 50) rfl))) Via.refl e3 (F_u_port_o0.other W3 (Or.inr (slot_ne (Or.inr (hw _ (List.mem_of_getElem? (i := 51) rfl))) (Or.inr (hw _ (List.mem_of_getElem? (i := 49) rfl))) (by decide) (t := .int) (t' := (.object "java/lang/String")) (by decide) (by decide)))) (E_o0.wr W3) (Or.inr ⟨(hw _ (List.mem_of_getElem? (i := 51) rfl)), rfl, hnm⟩) (hw _ (List.mem_of_getElem? (i := 2) rfl)) (ty := .int) (by decide) rfl rfl (g := (mkF m 52 #[.val (.ref o0), .val (.ref o1), .val (.int p2)] [(.int p2), (.ref o0)])) rfl rfl (hb hby d8_52)
  have F5 := (F_u_port_o0.other W3 (Or.inr (slot_ne (Or.inr (hw _ (List.mem_of_getElem? (i := 51) rfl))) (Or.inr (hw _ (List.mem_of_getElem? (i := 49) rfl))) (by decide) (t := .int) (t' := (.object "java/lang/String")) (by decide) (by decide)))).same W5
  have K6 : Keep h0 h5 [o0] := (K4.wr W5 (Or.inl (List.mem_of_getElem? (i := 0) rfl)))
  have z6 : n0 ≤ h5.size := (Nat.le_trans z4 (Keep.of_wr W5).1)
  have N5 := Fr.snoc X5 N3 g_o0
  refine Dn.by (U' := T5.setTop (mkF m 55 #[.val (.ref o0), .val (.ref o1), .val (.int p2)] [])) st5 ?_
  refine Dn.out X5 (v := none) (fun _ => rfl) (BodyLoose.notSynchronized Bd) (fun _ hr => X5.returnOut hx Bd.returns (hb hby d8_55) hr) (by decide) (by decide) ?_
  rw [e5]
  exact ⟨rfl, N5, K6, ((E_o0.wr W3).wr W5), (F3.other W5 (Or.inr (slot_ne (Or.inr (hw _ (List.mem_of_getElem? (i := 49) rfl))) (Or.inr (hw _ (List.mem_of_getElem? (i := 51) rfl))) (by decide) (t := (.object "java/lang/String")) (t' := .int) (by decide) (by decide)))), F5⟩
def hpE (o0 : Addr) (o1 : Addr) (s_COMPACT_STRINGS : Int32) (u_host_o0 : Addr) (u_port_o0 : Int32) (u_host_o1 : Addr) (u_port_o1 : Int32) (t_u_host_o0 : Addr) (k_u_host_o0 : ClassId) (cs_u_host_o0 : List Int32) (t_u_host_o1 : Addr) (k_u_host_o1 : ClassId) (cs_u_host_o1 : List Int32) : Int32 := (if (eqT cs_u_host_o0 cs_u_host_o1) = (0 : Int32) then (0 : Int32) else (if u_port_o0 = u_port_o1 then (1 : Int32) else (0 : Int32)))
abbrev Rm10 : Room := { frames := 2, cells := 0, slots := 0, locals := 28 }
theorem ef_10 (m : MethodId) (o0 : Addr) (o1 : Addr) : entryFrame m #[(.ref o0), (.ref o1)] 3 = mkF m 0 #[.val (.ref o0), .val (.ref o1), .unset] [] := by first | (simp [entryFrame, mkF, argsToLocals, Value.category]; done) | rfl
def Q10 (Z : State) (o0 : Addr) (o1 : Addr) (s_COMPACT_STRINGS : Int32) (u_host_o0 : Addr) (u_port_o0 : Int32) (u_host_o1 : Addr) (u_port_o1 : Int32) (t_u_host_o0 : Addr) (k_u_host_o0 : ClassId) (cs_u_host_o0 : List Int32) (t_u_host_o1 : Addr) (k_u_host_o1 : ClassId) (cs_u_host_o1 : List Int32) (h0 : Heap) (n0 : Nat) (v : Option Value) (h : Heap) (L : List Loc) : Prop := v = some (.int (hpE o0 o1 s_COMPACT_STRINGS u_host_o0 u_port_o0 u_host_o1 u_port_o1 t_u_host_o0 k_u_host_o0 cs_u_host_o0 t_u_host_o1 k_u_host_o1 cs_u_host_o1)) ∧ Fr n0 L ∧ h = h0
set_option maxRecDepth 65536 in
set_option maxHeartbeats 40000000 in
theorem rm10 (l : Launch) (Z : State) (a0 : Array Value) (hw : ∀ d ∈ tables_1, d.before a0 Z = true) (ws : List Jvm.Cond) (o0 : Addr) (o1 : Addr) (s_COMPACT_STRINGS : Int32) (u_host_o0 : Addr) (u_port_o0 : Int32) (u_host_o1 : Addr) (u_port_o1 : Int32) (t_u_host_o0 : Addr) (k_u_host_o0 : ClassId) (cs_u_host_o0 : List Int32) (t_u_host_o1 : Addr) (k_u_host_o1 : ClassId) (cs_u_host_o1 : List Int32) (h0 : Heap) (n0 : Nat) (Z0 : n0 ≤ h0.size) (S_COMPACT_STRINGS : Sta Z h0 "java/lang/String" "COMPACT_STRINGS" "Z" (.int s_COMPACT_STRINGS)) (hcs : ¬ s_COMPACT_STRINGS = (0 : Int32)) (F_u_host_o0 : Fld Z h0 o0 "com/example/ferrywire/ferrywire/wire/HostPort" "host" "Ljava/lang/String;" (.ref u_host_o0)) (F_u_port_o0 : Fld Z h0 o0 "com/example/ferrywire/ferrywire/wire/HostPort" "port" "I" (.int u_port_o0)) (F_u_host_o1 : Fld Z h0 o1 "com/example/ferrywire/ferrywire/wire/HostPort" "host" "Ljava/lang/String;" (.ref u_host_o1)) (F_u_port_o1 : Fld Z h0 o1 "com/example/ferrywire/ferrywire/wire/HostPort" "port" "I" (.int u_port_o1)) (E_o1 : Exa Z h0 o1 "com/example/ferrywire/ferrywire/wire/HostPort") (E_u_host_o0 : Exa Z h0 u_host_o0 "java/lang/String") (FC_u_host_o0 : Fld Z h0 u_host_o0 "java/lang/String" "coder" "B" (.int (0 : Int32))) (FV_u_host_o0 : Fld Z h0 u_host_o0 "java/lang/String" "value" "[B" (.ref t_u_host_o0)) (V_u_host_o0 : Arv Z h0 t_u_host_o0 k_u_host_o0 .byte (Int32.ofNat cs_u_host_o0.length) (bytesOf cs_u_host_o0) (.int (0 : Int32))) (hp_u_host_o0 : ∀ c ∈ cs_u_host_o0, ¬ c < 0 ∧ ¬ (255 : Int32) < c) (hl_u_host_o0 : cs_u_host_o0.length ≤ 4000) (hz_u_host_o0 : ¬ Int32.ofNat cs_u_host_o0.length = (0 : Int32)) (E_u_host_o1 : Exa Z h0 u_host_o1 "java/lang/String") (FC_u_host_o1 : Fld Z h0 u_host_o1 "java/lang/String" "coder" "B" (.int (0 : Int32))) (FV_u_host_o1 : Fld Z h0 u_host_o1 "java/lang/String" "value" "[B" (.ref t_u_host_o1)) (V_u_host_o1 : Arv Z h0 t_u_host_o1 k_u_host_o1 .byte (Int32.ofNat cs_u_host_o1.length) (bytesOf cs_u_host_o1) (.int (0 : Int32))) (hp_u_host_o1 : ∀ c ∈ cs_u_host_o1, ¬ c < 0 ∧ ¬ (255 : Int32) < c) (hl_u_host_o1 : cs_u_host_o1.length ≤ 4000) (hz_u_host_o1 : ¬ Int32.ofNat cs_u_host_o1.length = (0 : Int32)) :
    MetFree l (⟨"com/example/ferrywire/ferrywire/wire/HostPort", "equals", "(Ljava/lang/Object;)Z"⟩ : MethodName) (head1 (Jvm.Cond.code (⟨"com/example/ferrywire/ferrywire/wire/HostPort", "equals", "(Ljava/lang/Object;)Z"⟩ : MethodName) prog_34_method_5_code 3 (some .boolean) :: ws) Rm10) (fun a U => a = #[(.ref o0), (.ref o1)] ∧ Z.Warmed39 U.vm ∧ U.heap = h0) (fun _ _ _ _ _ => True) (fun _ U o U' => ∃ v L, o = .returned v ∧ Q10 Z o0 o1 s_COMPACT_STRINGS u_host_o0 u_port_o0 u_host_o1 u_port_o1 t_u_host_o0 k_u_host_o0 cs_u_host_o0 t_u_host_o1 k_u_host_o1 cs_u_host_o1 h0 n0 v U'.heap L ∧ FrameEnd U o U' L Rm10.cells Rm10.slots) := by
  refine MetFree.of_bodySF (plainFor_of_name pn2) hisR ?_
  intro p e s m args below meth c s₁ Bd hml0 hP hK
  obtain ⟨rfl, hZ, hh⟩ := hP
  have hx := Bd.exec
  have hby := Bd.bytes
  have hml : c.maxLocals = 3 := hml0
  have hown : s.vm.findClass "com/example/ferrywire/ferrywire/wire/HostPort" = some m.cls := findClass_of_methodNamed Bd.named
  have hnm := (name_of_methodNamed Bd.named Bd.method).1
  have X0 : Stand p l e Rm10 s m #[(.ref o0), (.ref o1)] below meth c s₁ [] 0 0 := Stand.of_body Bd
  have e0 : s₁.heap = h0 := by rw [← hh, Bd.state]; rfl
  have N0 := Fr.nil n0
  show Dn p e below s Rm10.cells Rm10.slots (Q10 Z o0 o1 s_COMPACT_STRINGS u_host_o0 u_port_o0 u_host_o1 u_port_o1 t_u_host_o0 k_u_host_o0 cs_u_host_o0 t_u_host_o1 k_u_host_o1 cs_u_host_o1 h0 n0) (s₁.setTop (entryFrame m #[(.ref o0), (.ref o1)] 3))
  rw [ef_10]
  refine Dn.by (U' := s₁.setTop (mkF m 1 #[.val (.ref o0), .val (.ref o1), .unset] [(.ref o1)])) (fun _ ks => XS.aloadN X0.here hx rfl (hb hby d10_0) rfl rfl ks) ?_
  obtain ⟨T1, X1, e1, st1⟩ := instY X0 hx hZ hown (hw _ (List.mem_of_getElem? (i := 57) rfl)) e0 (Ins.self E_o1) (g := (mkF m 1 #[.val (.ref o0), .val (.ref o1), .unset] [(.ref o1)])) rfl rfl (hb hby d10_1)
  refine Dn.by (U' := T1.setTop (mkF m 4 #[.val (.ref o0), .val (.ref o1), .unset] [(.int (1 : Int32))])) st1 ?_
  refine Dn.by (U' := T1.setTop (mkF m 7 #[.val (.ref o0), .val (.ref o1), .unset] [])) (fun _ ks => XS.ifNo X1.here hx rfl (hb hby d10_4) rfl (by decide) ks) ?_
  refine Dn.by (U' := T1.setTop (mkF m 8 #[.val (.ref o0), .val (.ref o1), .unset] [(.ref o1)])) (fun _ ks => XS.aloadN X1.here hx rfl (hb hby d10_7) rfl rfl ks) ?_
  obtain ⟨T2, X2, e2, st2⟩ := castY X1 hx hZ hown (hw _ (List.mem_of_getElem? (i := 57) rfl)) e1 (Ins.self E_o1) (g := (mkF m 8 #[.val (.ref o0), .val (.ref o1), .unset] [(.ref o1)])) rfl rfl (hb hby d10_8)
  refine Dn.by (U' := T2.setTop (mkF m 11 #[.val (.ref o0), .val (.ref o1), .unset] [(.ref o1)])) st2 ?_
  refine Dn.by (U' := T2.setTop (mkF m 12 #[.val (.ref o0), .val (.ref o1), .val (.ref o1)] [])) (fun _ ks => XS.astoreN X2.here hx rfl (hb hby d10_11) rfl rfl (l' := #[.val (.ref o0), .val (.ref o1), .val (.ref o1)]) rfl ks) ?_
  refine Dn.by (U' := T2.setTop (mkF m 13 #[.val (.ref o0), .val (.ref o1), .val (.ref o1)] [(.ref o0)])) (fun _ ks => XS.aloadN X2.here hx rfl (hb hby d10_12) rfl rfl ks) ?_
  obtain ⟨T3, X3, e3, st3⟩ := getF X2 hx hZ hown (host := "") (Or.inl (hw _ (List.mem_of_getElem? (i := 48) rfl))) Via.refl e2 F_u_host_o0 (g := (mkF m 13 #[.val (.ref o0), .val (.ref o1), .val (.ref o1)] [(.ref o0)])) rfl rfl (hb hby d10_13)
  refine Dn.by (U' := T3.setTop (mkF m 16 #[.val (.ref o0), .val (.ref o1), .val (.ref o1)] [(.ref u_host_o0)])) st3 ?_
  refine Dn.by (U' := T3.setTop (mkF m 17 #[.val (.ref o0), .val (.ref o1), .val (.ref o1)] [(.ref o1), (.ref u_host_o0)])) (fun _ ks => XS.aloadN X3.here hx rfl (hb hby d10_16) rfl rfl ks) ?_
  obtain ⟨T4, X4, e4, st4⟩ := getF X3 hx hZ hown (host := "") (Or.inl (hw _ (List.mem_of_getElem? (i := 48) rfl))) Via.refl e3 F_u_host_o1 (g := (mkF m 17 #[.val (.ref o0), .val (.ref o1), .val (.ref o1)] [(.ref o1), (.ref u_host_o0)])) rfl rfl (hb hby d10_17)
  refine Dn.by (U' := T4.setTop (mkF m 20 #[.val (.ref o0), .val (.ref o1), .val (.ref o1)] [(.ref u_host_o1), (.ref u_host_o0)])) st4 ?_
  obtain ⟨cq5, kq5, qa5, qb5, qc5⟩ := isOf hZ e4 E_u_host_o0
  obtain ⟨_, _, ⟨T5, L5, k5, n5⟩, -, X5, ⟨Lc5, hQ5, l5, y5, z5⟩, st5⟩ := X4.virtualBack hx (y := (⟨"java/lang/String", "equals", "(Ljava/lang/Object;)Z"⟩ : MethodName)) (z := (⟨"java/lang/String", "equals", "(Ljava/lang/Object;)Z"⟩ : MethodName)) hown (mvT hZ (hw _ (List.mem_of_getElem? (i := 59) rfl))) (mvT hZ (hw _ (List.mem_of_getElem? (i := 60) rfl))) (notFace_of_selects (args := #[]) (mvT hZ (hw _ (List.mem_of_getElem? (i := 62) rfl)))) (mvT hZ (hw _ (List.mem_of_getElem? (i := 62) rfl))) (mvT hZ (hw _ (List.mem_of_getElem? (i := 61) rfl))) (by decide) (StrChars.Road.eqW (W := 0) hZ (fun d hd => hw d (own_wordsEq d hd)) (kI := 4) (hw _ (List.mem_of_getElem? (i := 9) rfl)) E_u_host_o0 FV_u_host_o0 FC_u_host_o0 V_u_host_o0 (StrChars.Road.codOf (n := cs_u_host_o0.length) rfl (fun c hc => (hp_u_host_o0 c hc).2)) (own_up _ hp_u_host_o0) hl_u_host_o0 E_u_host_o1 FV_u_host_o1 FC_u_host_o1 V_u_host_o1 (StrChars.Road.codOf (n := cs_u_host_o1.length) rfl (fun c hc => (hp_u_host_o1 c hc).2)) (own_up _ hp_u_host_o1) hl_u_host_o1 S_COMPACT_STRINGS hcs (by decide) (by decide)) qa5 qc5 (g := (mkF m 20 #[.val (.ref o0), .val (.ref o1), .val (.ref o1)] [(.ref u_host_o1), (.ref u_host_o0)])) rfl (by rw [hml]; rfl) (Steps.refl _) (argsL := [(.ref u_host_o1)]) (rest := []) (lenOf pd2 rfl) rfl (by show 2 * 0 + _ ≤ _; exact Nat.le_of_eq rfl) (hb hby d10_20) (fun _ _ => ⟨rfl, e4, (by decide : 0 + 0 ≤ _), (by decide : 0 + 0 ≤ _)⟩)
  dsimp only [Pt.U, Pt.locs, Pt.cells, Pt.slots] at X5 l5 y5 z5 st5 hQ5
  rw [l5, y5, z5] at X5
  obtain ⟨hq5, rfl, e5⟩ := hQ5
  have hv5 : _ = some (Value.int (eqT cs_u_host_o0 cs_u_host_o1)) := hq5.elim (fun q => q.1.trans (by simp only [eqT, if_pos q.2])) (fun q => q.1.trans (by simp only [eqT, if_neg q.2]))
  subst hv5
  have N5 := Fr.app N0 (Fr.nil n0)
  refine Dn.by (U' := T5.setTop (mkF m 23 #[.val (.ref o0), .val (.ref o1), .val (.ref o1)] [(.int (eqT cs_u_host_o0 cs_u_host_o1))])) (fun _ ks => st5.trans ks) ?_
  by_cases c23_6 : (eqT cs_u_host_o0 cs_u_host_o1) = (0 : Int32)
  ·
    refine Dn.by (U' := T5.setTop (mkF m 41 #[.val (.ref o0), .val (.ref o1), .val (.ref o1)] [])) (fun _ ks => XS.ifYes X5.here hx rfl (pc0 := 23) (pc' := 41) rfl (hb hby d10_23) rfl ((if0 _ _).trans (teq c23_6).1) (by decide) (by decide) ks) ?_
    refine Dn.by (U' := T5.setTop (mkF m 42 #[.val (.ref o0), .val (.ref o1), .val (.ref o1)] [(.int (0 : Int32))])) (fun _ ks => XS.iconst X5.here hx rfl (hb hby d10_41)  ks) ?_
    refine Dn.out X5 (v := (some (.int (0 : Int32)))) (fun h => by rw [Bd.returns] at h; cases h) (BodyLoose.notSynchronized Bd) (fun _ hr => retN X5 hx (t := .boolean) Bd.returns (by simp) (hb hby d10_42) hr) (by decide) (by decide) ?_
    rw [e5]
    exact ⟨by simp only [hpE, if_pos c23_6], N5, rfl⟩
  ·
    refine Dn.by (U' := T5.setTop (mkF m 26 #[.val (.ref o0), .val (.ref o1), .val (.ref o1)] [])) (fun _ ks => XS.ifNo X5.here hx rfl (hb hby d10_23) rfl ((if0 _ _).trans (feq c23_6).1) ks) ?_
    refine Dn.by (U' := T5.setTop (mkF m 27 #[.val (.ref o0), .val (.ref o1), .val (.ref o1)] [(.ref o0)])) (fun _ ks => XS.aloadN X5.here hx rfl (hb hby d10_26) rfl rfl ks) ?_
    obtain ⟨T7, X7, e7, st7⟩ := getF X5 hx hZ hown (host := "") (Or.inl (hw _ (List.mem_of_getElem? (i := 50) rfl))) Via.refl e5 F_u_port_o0 (g := (mkF m 27 #[.val (.ref o0), .val (.ref o1), .val (.ref o1)] [(.ref o0)])) rfl rfl (hb hby d10_27)
    refine Dn.by (U' := T7.setTop (mkF m 30 #[.val (.ref o0), .val (.ref o1), .val (.ref o1)] [(.int u_port_o0)])) st7 ?_
    refine Dn.by (U' := T7.setTop (mkF m 31 #[.val (.ref o0), .val (.ref o1), .val (.ref o1)] [(.ref o1), (.int u_port_o0)])) (fun _ ks => XS.aloadN X7.here hx rfl (hb hby d10_30) rfl rfl ks) ?_
    obtain ⟨T8, X8, e8, st8⟩ := getF X7 hx hZ hown (host := "") (Or.inl (hw _ (List.mem_of_getElem? (i := 50) rfl))) Via.refl e7 F_u_port_o1 (g := (mkF m 31 #[.val (.ref o0), .val (.ref o1), .val (.ref o1)] [(.ref o1), (.int u_port_o0)])) rfl rfl (hb hby d10_31)
    refine Dn.by (U' := T8.setTop (mkF m 34 #[.val (.ref o0), .val (.ref o1), .val (.ref o1)] [(.int u_port_o1), (.int u_port_o0)])) st8 ?_
    by_cases c34_9 : u_port_o0 = u_port_o1
    ·
      refine Dn.by (U' := T8.setTop (mkF m 37 #[.val (.ref o0), .val (.ref o1), .val (.ref o1)] [])) (fun _ ks => XS.icmpNo X8.here hx rfl (hb hby d10_34) rfl (teq c34_9).2 ks) ?_
      refine Dn.by (U' := T8.setTop (mkF m 38 #[.val (.ref o0), .val (.ref o1), .val (.ref o1)] [(.int (1 : Int32))])) (fun _ ks => XS.iconst X8.here hx rfl (hb hby d10_37)  ks) ?_
      refine Dn.by (U' := T8.setTop (mkF m 42 #[.val (.ref o0), .val (.ref o1), .val (.ref o1)] [(.int (1 : Int32))])) (fun _ ks => XS.goto X8.here hx rfl (pc0 := 38) (pc' := 42) rfl (hb hby d10_38) (by decide) (by decide) ks) ?_
      refine Dn.out X8 (v := (some (.int (1 : Int32)))) (fun h => by rw [Bd.returns] at h; cases h) (BodyLoose.notSynchronized Bd) (fun _ hr => retN X8 hx (t := .boolean) Bd.returns (by simp) (hb hby d10_42) hr) (by decide) (by decide) ?_
      rw [e8]
      exact ⟨by simp only [hpE, if_neg c23_6, if_pos c34_9], N5, rfl⟩
    ·
      refine Dn.by (U' := T8.setTop (mkF m 41 #[.val (.ref o0), .val (.ref o1), .val (.ref o1)] [])) (fun _ ks => XS.icmpYes X8.here hx rfl (pc0 := 34) (pc' := 41) rfl (hb hby d10_34) rfl (feq c34_9).2 (by decide) (by decide) ks) ?_
      refine Dn.by (U' := T8.setTop (mkF m 42 #[.val (.ref o0), .val (.ref o1), .val (.ref o1)] [(.int (0 : Int32))])) (fun _ ks => XS.iconst X8.here hx rfl (hb hby d10_41)  ks) ?_
      refine Dn.out X8 (v := (some (.int (0 : Int32)))) (fun h => by rw [Bd.returns] at h; cases h) (BodyLoose.notSynchronized Bd) (fun _ hr => retN X8 hx (t := .boolean) Bd.returns (by simp) (hb hby d10_42) hr) (by decide) (by decide) ?_
      rw [e8]
      exact ⟨by simp only [hpE, if_neg c23_6, if_neg c34_9], N5, rfl⟩
abbrev Rm10n : Room := { frames := 0, cells := 0, slots := 0, locals := 0 }
theorem ef_10n (m : MethodId) (o0 : Addr) : entryFrame m #[(.ref o0), .null] 3 = mkF m 0 #[.val (.ref o0), .val .null, .unset] [] := by first | (simp [entryFrame, mkF, argsToLocals, Value.category]; done) | rfl
def Q10n (Z : State) (o0 : Addr) (h0 : Heap) (n0 : Nat) (v : Option Value) (h : Heap) (L : List Loc) : Prop := v = some (.int (0 : Int32)) ∧ Fr n0 L ∧ h = h0
set_option maxRecDepth 65536 in
set_option maxHeartbeats 40000000 in
theorem rm10n (l : Launch) (Z : State) (a0 : Array Value) (hw : ∀ d ∈ tables_1, d.before a0 Z = true) (ws : List Jvm.Cond) (o0 : Addr) (h0 : Heap) (n0 : Nat) (Z0 : n0 ≤ h0.size)  :
    MetFree l (⟨"com/example/ferrywire/ferrywire/wire/HostPort", "equals", "(Ljava/lang/Object;)Z"⟩ : MethodName) (head1 (Jvm.Cond.code (⟨"com/example/ferrywire/ferrywire/wire/HostPort", "equals", "(Ljava/lang/Object;)Z"⟩ : MethodName) prog_34_method_5_code 3 (some .boolean) :: ws) Rm10n) (fun a U => a = #[(.ref o0), .null] ∧ Z.Warmed39 U.vm ∧ U.heap = h0) (fun _ _ _ _ _ => True) (fun _ U o U' => ∃ v L, o = .returned v ∧ Q10n Z o0 h0 n0 v U'.heap L ∧ FrameEnd U o U' L Rm10n.cells Rm10n.slots) := by
  refine MetFree.of_bodySF (plainFor_of_name pn2) hisR ?_
  intro p e s m args below meth c s₁ Bd hml0 hP hK
  obtain ⟨rfl, hZ, hh⟩ := hP
  have hx := Bd.exec
  have hby := Bd.bytes
  have hml : c.maxLocals = 3 := hml0
  have hown : s.vm.findClass "com/example/ferrywire/ferrywire/wire/HostPort" = some m.cls := findClass_of_methodNamed Bd.named
  have hnm := (name_of_methodNamed Bd.named Bd.method).1
  have X0 : Stand p l e Rm10n s m #[(.ref o0), .null] below meth c s₁ [] 0 0 := Stand.of_body Bd
  have e0 : s₁.heap = h0 := by rw [← hh, Bd.state]; rfl
  have N0 := Fr.nil n0
  show Dn p e below s Rm10n.cells Rm10n.slots (Q10n Z o0 h0 n0) (s₁.setTop (entryFrame m #[(.ref o0), .null] 3))
  rw [ef_10n]
  refine Dn.by (U' := s₁.setTop (mkF m 1 #[.val (.ref o0), .val .null, .unset] [.null])) (fun _ ks => XS.aloadN X0.here hx rfl (hb hby d10_0) rfl rfl ks) ?_
  refine Dn.by (U' := s₁.setTop (mkF m 4 #[.val (.ref o0), .val .null, .unset] [(.int (0 : Int32))])) (X0.instanceofNull hx (g := (mkF m 1 #[.val (.ref o0), .val .null, .unset] [.null])) rfl rfl (hb hby d10_1)) ?_
  refine Dn.by (U' := s₁.setTop (mkF m 41 #[.val (.ref o0), .val .null, .unset] [])) (fun _ ks => XS.ifYes X0.here hx rfl (pc0 := 4) (pc' := 41) rfl (hb hby d10_4) rfl (by decide) (by decide) (by decide) ks) ?_
  refine Dn.by (U' := s₁.setTop (mkF m 42 #[.val (.ref o0), .val .null, .unset] [(.int (0 : Int32))])) (fun _ ks => XS.iconst X0.here hx rfl (hb hby d10_41)  ks) ?_
  refine Dn.out X0 (v := (some (.int (0 : Int32)))) (fun h => by rw [Bd.returns] at h; cases h) (BodyLoose.notSynchronized Bd) (fun _ hr => retN X0 hx (t := .boolean) Bd.returns (by simp) (hb hby d10_42) hr) (by decide) (by decide) ?_
  rw [e0]
  exact ⟨rfl, N0, rfl⟩
abbrev Rm10s : Room := { frames := 0, cells := 0, slots := 0, locals := 0 }
theorem ef_10s (m : MethodId) (o0 : Addr) (o1 : Addr) : entryFrame m #[(.ref o0), (.ref o1)] 3 = mkF m 0 #[.val (.ref o0), .val (.ref o1), .unset] [] := by first | (simp [entryFrame, mkF, argsToLocals, Value.category]; done) | rfl
def Q10s (Z : State) (o0 : Addr) (o1 : Addr) (h0 : Heap) (n0 : Nat) (v : Option Value) (h : Heap) (L : List Loc) : Prop := v = some (.int (0 : Int32)) ∧ Fr n0 L ∧ h = h0
set_option maxRecDepth 65536 in
set_option maxHeartbeats 40000000 in
theorem rm10s (l : Launch) (Z : State) (a0 : Array Value) (hw : ∀ d ∈ tables_1, d.before a0 Z = true) (ws : List Jvm.Cond) (o0 : Addr) (o1 : Addr) (h0 : Heap) (n0 : Nat) (Z0 : n0 ≤ h0.size) (E_o1 : Exa Z h0 o1 "java/lang/String") :
    MetFree l (⟨"com/example/ferrywire/ferrywire/wire/HostPort", "equals", "(Ljava/lang/Object;)Z"⟩ : MethodName) (head1 (Jvm.Cond.code (⟨"com/example/ferrywire/ferrywire/wire/HostPort", "equals", "(Ljava/lang/Object;)Z"⟩ : MethodName) prog_34_method_5_code 3 (some .boolean) :: ws) Rm10s) (fun a U => a = #[(.ref o0), (.ref o1)] ∧ Z.Warmed39 U.vm ∧ U.heap = h0) (fun _ _ _ _ _ => True) (fun _ U o U' => ∃ v L, o = .returned v ∧ Q10s Z o0 o1 h0 n0 v U'.heap L ∧ FrameEnd U o U' L Rm10s.cells Rm10s.slots) := by
  refine MetFree.of_bodySF (plainFor_of_name pn2) hisR ?_
  intro p e s m args below meth c s₁ Bd hml0 hP hK
  obtain ⟨rfl, hZ, hh⟩ := hP
  have hx := Bd.exec
  have hby := Bd.bytes
  have hml : c.maxLocals = 3 := hml0
  have hown : s.vm.findClass "com/example/ferrywire/ferrywire/wire/HostPort" = some m.cls := findClass_of_methodNamed Bd.named
  have hnm := (name_of_methodNamed Bd.named Bd.method).1
  have X0 : Stand p l e Rm10s s m #[(.ref o0), (.ref o1)] below meth c s₁ [] 0 0 := Stand.of_body Bd
  have e0 : s₁.heap = h0 := by rw [← hh, Bd.state]; rfl
  have N0 := Fr.nil n0
  show Dn p e below s Rm10s.cells Rm10s.slots (Q10s Z o0 o1 h0 n0) (s₁.setTop (entryFrame m #[(.ref o0), (.ref o1)] 3))
  rw [ef_10s]
  refine Dn.by (U' := s₁.setTop (mkF m 1 #[.val (.ref o0), .val (.ref o1), .unset] [(.ref o1)])) (fun _ ks => XS.aloadN X0.here hx rfl (hb hby d10_0) rfl rfl ks) ?_
  obtain ⟨T1, X1, e1, st1⟩ := instNo X0 hx hZ (a0 := a0) hown (hw _ (List.mem_of_getElem? (i := 57) rfl)) e0 E_o1 (own_no (hw _ (List.mem_of_getElem? (i := 69) rfl)) (hw _ (List.mem_of_getElem? (i := 2) rfl)) (NS.step (hw _ (List.mem_of_getElem? (i := 69) rfl)) (own_root (hw _ (List.mem_of_getElem? (i := 70) rfl)) (hw _ (List.mem_of_getElem? (i := 2) rfl)) (by decide)) (by decide)) (by decide)) (g := (mkF m 1 #[.val (.ref o0), .val (.ref o1), .unset] [(.ref o1)])) rfl rfl (hb hby d10_1)
  refine Dn.by (U' := T1.setTop (mkF m 4 #[.val (.ref o0), .val (.ref o1), .unset] [(.int (0 : Int32))])) st1 ?_
  refine Dn.by (U' := T1.setTop (mkF m 41 #[.val (.ref o0), .val (.ref o1), .unset] [])) (fun _ ks => XS.ifYes X1.here hx rfl (pc0 := 4) (pc' := 41) rfl (hb hby d10_4) rfl (by decide) (by decide) (by decide) ks) ?_
  refine Dn.by (U' := T1.setTop (mkF m 42 #[.val (.ref o0), .val (.ref o1), .unset] [(.int (0 : Int32))])) (fun _ ks => XS.iconst X1.here hx rfl (hb hby d10_41)  ks) ?_
  refine Dn.out X1 (v := (some (.int (0 : Int32)))) (fun h => by rw [Bd.returns] at h; cases h) (BodyLoose.notSynchronized Bd) (fun _ hr => retN X1 hx (t := .boolean) Bd.returns (by simp) (hb hby d10_42) hr) (by decide) (by decide) ?_
  rw [e1]
  exact ⟨rfl, N0, rfl⟩
theorem ef_0 (m : MethodId) (p0 : Int32) (p1 : Int32) (p2 : Int32) (p3 : Int32) (p4 : Int32) : entryFrame m #[(.int p0), (.int p1), (.int p2), (.int p3), (.int p4)] maxLocals = mkF m 0 #[.val (.int p0), .val (.int p1), .val (.int p2), .val (.int p3), .val (.int p4), .unset, .unset, .unset, .unset, .unset, .unset, .unset, .unset, .unset, .unset, .unset, .unset, .unset, .unset] [] := by first | (simp [entryFrame, mkF, argsToLocals, Value.category, maxLocals]; done) | rfl
def Q0 (Z : State) (p0 : Int32) (p1 : Int32) (p2 : Int32) (p3 : Int32) (p4 : Int32) (cs : Int32) (h0 : Heap) (n0 : Nat) (v : Option Value) (h : Heap) (L : List Loc) : Prop := v = some (.int 1) ∧ Fr n0 L
set_option maxRecDepth 65536 in
set_option maxHeartbeats 40000000 in
theorem rm0 (l : Launch) (Z : State) (a0 : Array Value) (hw : ∀ d ∈ tables_1, d.before a0 Z = true) (ws : List Jvm.Cond) (p0 : Int32) (p1 : Int32) (p2 : Int32) (p3 : Int32) (p4 : Int32) (cs : Int32) (h0 : Heap) (n0 : Nat) (Z0 : n0 ≤ h0.size) (O0 : Old Z n0 h0) (S_cs : Sta Z Z.heap "java/lang/String" "COMPACT_STRINGS" "Z" (.int cs)) (hcs : ¬ cs = (0 : Int32)) :
    MetFree l x (head1 (Jvm.Cond.code x code maxLocals ret :: ws) room_1) (fun a U => a = #[(.int p0), (.int p1), (.int p2), (.int p3), (.int p4)] ∧ Z.Warmed39 U.vm ∧ U.heap = h0) (fun _ _ _ _ _ => True) (fun _ U o U' => ∃ v L, o = .returned v ∧ Q0 Z p0 p1 p2 p3 p4 cs h0 n0 v U'.heap L ∧ FrameEnd U o U' L 24 128) := by
  refine MetFree.of_bodySF (plainFor_of_name pn0) hisR ?_
  intro p e s m args below meth c s₁ Bd hml0 hP hK
  obtain ⟨rfl, hZ, hh⟩ := hP
  have hx := Bd.exec
  have hby := Bd.bytes
  have hml : c.maxLocals = 19 := hml0
  have hown : s.vm.findClass "com/example/ferrywire/ferrywire/wire/HostPortEqualsPinLaw" = some m.cls := findClass_of_methodNamed Bd.named
  have hnm := (name_of_methodNamed Bd.named Bd.method).1
  have X0 : Stand p l e room_1 s m #[(.int p0), (.int p1), (.int p2), (.int p3), (.int p4)] below meth c s₁ [] 0 0 := Stand.of_body Bd
  have e0 : s₁.heap = h0 := by rw [← hh, Bd.state]; rfl
  have N0 := Fr.nil n0
  show Dn p e below s 24 128 (Q0 Z p0 p1 p2 p3 p4 cs h0 n0) (s₁.setTop (entryFrame m #[(.int p0), (.int p1), (.int p2), (.int p3), (.int p4)] maxLocals))
  rw [ef_0]
  refine Dn.by (U' := s₁.setTop (mkF m 1 #[.val (.int p0), .val (.int p1), .val (.int p2), .val (.int p3), .val (.int p4), .unset, .unset, .unset, .unset, .unset, .unset, .unset, .unset, .unset, .unset, .unset, .unset, .unset, .unset] [(.int p0)])) (fun _ ks => XS.iloadN X0.here hx rfl (hb hby at_0) rfl ks) ?_
  refine Dn.by (U' := s₁.setTop (mkF m 4 #[.val (.int p0), .val (.int p1), .val (.int p2), .val (.int p3), .val (.int p4), .unset, .unset, .unset, .unset, .unset, .unset, .unset, .unset, .unset, .unset, .unset, .unset, .unset, .unset] [(.int (255 : Int32)), (.int p0)])) (fun _ ks => XS.sipush X0.here hx rfl (hb hby at_1)  ks) ?_
  refine Dn.by (U' := s₁.setTop (mkF m 5 #[.val (.int p0), .val (.int p1), .val (.int p2), .val (.int p3), .val (.int p4), .unset, .unset, .unset, .unset, .unset, .unset, .unset, .unset, .unset, .unset, .unset, .unset, .unset, .unset] [(.int (p0 &&& (255 : Int32)))])) (fun _ ks => XS.iand X0.here hx rfl (hb hby at_4) rfl ks) ?_
  refine Dn.by (U' := s₁.setTop (mkF m 6 #[.val (.int p0), .val (.int p1), .val (.int p2), .val (.int p3), .val (.int p4), .unset, .unset, .unset, .unset, .unset, .unset, .unset, .unset, .unset, .unset, .unset, .unset, .unset, .unset] [(.int ((p0 &&& (255 : Int32)).toUInt32.toUInt16.toUInt32.toInt32))])) (fun _ ks => XS.i2c X0.here hx rfl (hb hby at_5) rfl ks) ?_
  generalize h_a1 : ((p0 &&& (255 : Int32)).toUInt32.toUInt16.toUInt32.toInt32) = a1
  have ha1 : ¬ a1 < 0 ∧ ¬ (255 : Int32) < a1 := by rw [← h_a1]; exact own_ch _
  refine Dn.by (U' := s₁.setTop (mkF m 8 #[.val (.int p0), .val (.int p1), .val (.int p2), .val (.int p3), .val (.int p4), .val (.int a1), .unset, .unset, .unset, .unset, .unset, .unset, .unset, .unset, .unset, .unset, .unset, .unset, .unset] [])) (fun _ ks => XS.istore X0.here hx rfl (hb hby at_6) rfl (l' := #[.val (.int p0), .val (.int p1), .val (.int p2), .val (.int p3), .val (.int p4), .val (.int a1), .unset, .unset, .unset, .unset, .unset, .unset, .unset, .unset, .unset, .unset, .unset, .unset, .unset]) rfl ks) ?_
  refine Dn.by (U' := s₁.setTop (mkF m 9 #[.val (.int p0), .val (.int p1), .val (.int p2), .val (.int p3), .val (.int p4), .val (.int a1), .unset, .unset, .unset, .unset, .unset, .unset, .unset, .unset, .unset, .unset, .unset, .unset, .unset] [(.int p0)])) (fun _ ks => XS.iloadN X0.here hx rfl (hb hby at_8) rfl ks) ?_
  refine Dn.by (U' := s₁.setTop (mkF m 11 #[.val (.int p0), .val (.int p1), .val (.int p2), .val (.int p3), .val (.int p4), .val (.int a1), .unset, .unset, .unset, .unset, .unset, .unset, .unset, .unset, .unset, .unset, .unset, .unset, .unset] [(.int (8 : Int32)), (.int p0)])) (fun _ ks => XS.bipush X0.here hx rfl (hb hby at_9)  ks) ?_
  refine Dn.by (U' := s₁.setTop (mkF m 12 #[.val (.int p0), .val (.int p1), .val (.int p2), .val (.int p3), .val (.int p4), .val (.int a1), .unset, .unset, .unset, .unset, .unset, .unset, .unset, .unset, .unset, .unset, .unset, .unset, .unset] [(.int ((p0.toUInt32 >>> ((8 : Int32) &&& 31).toUInt32).toInt32))])) (fun _ ks => XS.iushr X0.here hx rfl (hb hby at_11) rfl ks) ?_
  refine Dn.by (U' := s₁.setTop (mkF m 15 #[.val (.int p0), .val (.int p1), .val (.int p2), .val (.int p3), .val (.int p4), .val (.int a1), .unset, .unset, .unset, .unset, .unset, .unset, .unset, .unset, .unset, .unset, .unset, .unset, .unset] [(.int (255 : Int32)), (.int ((p0.toUInt32 >>> ((8 : Int32) &&& 31).toUInt32).toInt32))])) (fun _ ks => XS.sipush X0.here hx rfl (hb hby at_12)  ks) ?_
  refine Dn.by (U' := s₁.setTop (mkF m 16 #[.val (.int p0), .val (.int p1), .val (.int p2), .val (.int p3), .val (.int p4), .val (.int a1), .unset, .unset, .unset, .unset, .unset, .unset, .unset, .unset, .unset, .unset, .unset, .unset, .unset] [(.int (((p0.toUInt32 >>> ((8 : Int32) &&& 31).toUInt32).toInt32) &&& (255 : Int32)))])) (fun _ ks => XS.iand X0.here hx rfl (hb hby at_15) rfl ks) ?_
  refine Dn.by (U' := s₁.setTop (mkF m 17 #[.val (.int p0), .val (.int p1), .val (.int p2), .val (.int p3), .val (.int p4), .val (.int a1), .unset, .unset, .unset, .unset, .unset, .unset, .unset, .unset, .unset, .unset, .unset, .unset, .unset] [(.int ((((p0.toUInt32 >>> ((8 : Int32) &&& 31).toUInt32).toInt32) &&& (255 : Int32)).toUInt32.toUInt16.toUInt32.toInt32))])) (fun _ ks => XS.i2c X0.here hx rfl (hb hby at_16) rfl ks) ?_
  generalize h_a2 : ((((p0.toUInt32 >>> ((8 : Int32) &&& 31).toUInt32).toInt32) &&& (255 : Int32)).toUInt32.toUInt16.toUInt32.toInt32) = a2
  have ha2 : ¬ a2 < 0 ∧ ¬ (255 : Int32) < a2 := by rw [← h_a2]; exact own_ch _
  refine Dn.by (U' := s₁.setTop (mkF m 19 #[.val (.int p0), .val (.int p1), .val (.int p2), .val (.int p3), .val (.int p4), .val (.int a1), .val (.int a2), .unset, .unset, .unset, .unset, .unset, .unset, .unset, .unset, .unset, .unset, .unset, .unset] [])) (fun _ ks => XS.istore X0.here hx rfl (hb hby at_17) rfl (l' := #[.val (.int p0), .val (.int p1), .val (.int p2), .val (.int p3), .val (.int p4), .val (.int a1), .val (.int a2), .unset, .unset, .unset, .unset, .unset, .unset, .unset, .unset, .unset, .unset, .unset, .unset]) rfl ks) ?_
  refine Dn.by (U' := s₁.setTop (mkF m 20 #[.val (.int p0), .val (.int p1), .val (.int p2), .val (.int p3), .val (.int p4), .val (.int a1), .val (.int a2), .unset, .unset, .unset, .unset, .unset, .unset, .unset, .unset, .unset, .unset, .unset, .unset] [(.int (1 : Int32))])) (fun _ ks => XS.iconst X0.here hx rfl (hb hby at_19)  ks) ?_
  refine Dn.by (U' := s₁.setTop (mkF m 21 #[.val (.int p0), .val (.int p1), .val (.int p2), .val (.int p3), .val (.int p4), .val (.int a1), .val (.int a2), .unset, .unset, .unset, .unset, .unset, .unset, .unset, .unset, .unset, .unset, .unset, .unset] [(.int p0), (.int (1 : Int32))])) (fun _ ks => XS.iloadN X0.here hx rfl (hb hby at_20) rfl ks) ?_
  refine Dn.by (U' := s₁.setTop (mkF m 23 #[.val (.int p0), .val (.int p1), .val (.int p2), .val (.int p3), .val (.int p4), .val (.int a1), .val (.int a2), .unset, .unset, .unset, .unset, .unset, .unset, .unset, .unset, .unset, .unset, .unset, .unset] [(.int (16 : Int32)), (.int p0), (.int (1 : Int32))])) (fun _ ks => XS.bipush X0.here hx rfl (hb hby at_21)  ks) ?_
  refine Dn.by (U' := s₁.setTop (mkF m 24 #[.val (.int p0), .val (.int p1), .val (.int p2), .val (.int p3), .val (.int p4), .val (.int a1), .val (.int a2), .unset, .unset, .unset, .unset, .unset, .unset, .unset, .unset, .unset, .unset, .unset, .unset] [(.int ((p0.toUInt32 >>> ((16 : Int32) &&& 31).toUInt32).toInt32)), (.int (1 : Int32))])) (fun _ ks => XS.iushr X0.here hx rfl (hb hby at_23) rfl ks) ?_
  refine Dn.by (U' := s₁.setTop (mkF m 25 #[.val (.int p0), .val (.int p1), .val (.int p2), .val (.int p3), .val (.int p4), .val (.int a1), .val (.int a2), .unset, .unset, .unset, .unset, .unset, .unset, .unset, .unset, .unset, .unset, .unset, .unset] [(.int (1 : Int32)), (.int ((p0.toUInt32 >>> ((16 : Int32) &&& 31).toUInt32).toInt32)), (.int (1 : Int32))])) (fun _ ks => XS.iconst X0.here hx rfl (hb hby at_24)  ks) ?_
  refine Dn.by (U' := s₁.setTop (mkF m 26 #[.val (.int p0), .val (.int p1), .val (.int p2), .val (.int p3), .val (.int p4), .val (.int a1), .val (.int a2), .unset, .unset, .unset, .unset, .unset, .unset, .unset, .unset, .unset, .unset, .unset, .unset] [(.int (((p0.toUInt32 >>> ((16 : Int32) &&& 31).toUInt32).toInt32) &&& (1 : Int32))), (.int (1 : Int32))])) (fun _ ks => XS.iand X0.here hx rfl (hb hby at_25) rfl ks) ?_
  refine Dn.by (U' := s₁.setTop (mkF m 27 #[.val (.int p0), .val (.int p1), .val (.int p2), .val (.int p3), .val (.int p4), .val (.int a1), .val (.int a2), .unset, .unset, .unset, .unset, .unset, .unset, .unset, .unset, .unset, .unset, .unset, .unset] [(.int ((1 : Int32) + (((p0.toUInt32 >>> ((16 : Int32) &&& 31).toUInt32).toInt32) &&& (1 : Int32))))])) (fun _ ks => XS.iadd X0.here hx rfl (hb hby at_26) rfl ks) ?_
  generalize h_la : ((1 : Int32) + (((p0.toUInt32 >>> ((16 : Int32) &&& 31).toUInt32).toInt32) &&& (1 : Int32))) = la
  have hla : la = 1 ∨ la = 2 := by rw [← h_la]; exact own_len _
  refine Dn.by (U' := s₁.setTop (mkF m 29 #[.val (.int p0), .val (.int p1), .val (.int p2), .val (.int p3), .val (.int p4), .val (.int a1), .val (.int a2), .val (.int la), .unset, .unset, .unset, .unset, .unset, .unset, .unset, .unset, .unset, .unset, .unset] [])) (fun _ ks => XS.istore X0.here hx rfl (hb hby at_27) rfl (l' := #[.val (.int p0), .val (.int p1), .val (.int p2), .val (.int p3), .val (.int p4), .val (.int a1), .val (.int a2), .val (.int la), .unset, .unset, .unset, .unset, .unset, .unset, .unset, .unset, .unset, .unset, .unset]) rfl ks) ?_
  refine Dn.by (U' := s₁.setTop (mkF m 31 #[.val (.int p0), .val (.int p1), .val (.int p2), .val (.int p3), .val (.int p4), .val (.int a1), .val (.int a2), .val (.int la), .unset, .unset, .unset, .unset, .unset, .unset, .unset, .unset, .unset, .unset, .unset] [(.int p4)])) (fun _ ks => XS.iload X0.here hx rfl (hb hby at_29) rfl ks) ?_
  refine Dn.by (U' := s₁.setTop (mkF m 32 #[.val (.int p0), .val (.int p1), .val (.int p2), .val (.int p3), .val (.int p4), .val (.int a1), .val (.int a2), .val (.int la), .unset, .unset, .unset, .unset, .unset, .unset, .unset, .unset, .unset, .unset, .unset] [(.int (3 : Int32)), (.int p4)])) (fun _ ks => XS.iconst X0.here hx rfl (hb hby at_31)  ks) ?_
  refine Dn.by (U' := s₁.setTop (mkF m 33 #[.val (.int p0), .val (.int p1), .val (.int p2), .val (.int p3), .val (.int p4), .val (.int a1), .val (.int a2), .val (.int la), .unset, .unset, .unset, .unset, .unset, .unset, .unset, .unset, .unset, .unset, .unset] [(.int (p4 &&& (3 : Int32)))])) (fun _ ks => XS.iand X0.here hx rfl (hb hby at_32) rfl ks) ?_
  refine Dn.by (U' := s₁.setTop (mkF m 35 #[.val (.int p0), .val (.int p1), .val (.int p2), .val (.int p3), .val (.int p4), .val (.int a1), .val (.int a2), .val (.int la), .val (.int (p4 &&& (3 : Int32))), .unset, .unset, .unset, .unset, .unset, .unset, .unset, .unset, .unset, .unset] [])) (fun _ ks => XS.istore X0.here hx rfl (hb hby at_33) rfl (l' := #[.val (.int p0), .val (.int p1), .val (.int p2), .val (.int p3), .val (.int p4), .val (.int a1), .val (.int a2), .val (.int la), .val (.int (p4 &&& (3 : Int32))), .unset, .unset, .unset, .unset, .unset, .unset, .unset, .unset, .unset, .unset]) rfl ks) ?_
  refine Dn.by (U' := s₁.setTop (mkF m 37 #[.val (.int p0), .val (.int p1), .val (.int p2), .val (.int p3), .val (.int p4), .val (.int a1), .val (.int a2), .val (.int la), .val (.int (p4 &&& (3 : Int32))), .unset, .unset, .unset, .unset, .unset, .unset, .unset, .unset, .unset, .unset] [(.int (p4 &&& (3 : Int32)))])) (fun _ ks => XS.iload X0.here hx rfl (hb hby at_35) rfl ks) ?_
  have J : ∀ (bc1 bc2 lb : Int32) (hbc1 : ¬ bc1 < 0 ∧ ¬ (255 : Int32) < bc1) (hbc2 : ¬ bc2 < 0 ∧ ¬ (255 : Int32) < bc2) (hlb : lb = 1 ∨ lb = 2), Dn p e below s 24 128 (Q0 Z p0 p1 p2 p3 p4 cs h0 n0) (s₁.setTop (mkF m 112 #[.val (.int p0), .val (.int p1), .val (.int p2), .val (.int p3), .val (.int p4), .val (.int a1), .val (.int a2), .val (.int la), .val (.int (p4 &&& (3 : Int32))), .val (.int bc1), .val (.int bc2), .val (.int lb), .unset, .unset, .unset, .unset, .unset, .unset, .unset] [])) := by
    intro bc1 bc2 lb hbc1 hbc2 hlb
    refine Dn.by (U' := s₁.setTop (mkF m 113 #[.val (.int p0), .val (.int p1), .val (.int p2), .val (.int p3), .val (.int p4), .val (.int a1), .val (.int a2), .val (.int la), .val (.int (p4 &&& (3 : Int32))), .val (.int bc1), .val (.int bc2), .val (.int lb), .unset, .unset, .unset, .unset, .unset, .unset, .unset] [(.int p2)])) (fun _ ks => XS.iloadN X0.here hx rfl (hb hby at_112) rfl ks) ?_
    refine Dn.by (U' := s₁.setTop (mkF m 115 #[.val (.int p0), .val (.int p1), .val (.int p2), .val (.int p3), .val (.int p4), .val (.int a1), .val (.int a2), .val (.int la), .val (.int (p4 &&& (3 : Int32))), .val (.int bc1), .val (.int bc2), .val (.int lb), .unset, .unset, .unset, .unset, .unset, .unset, .unset] [(.int (65535 : Int32)), (.int p2)])) (X0.ldcInt hx hown (mvT hZ (hw _ (List.mem_of_getElem? (i := 0) rfl))) (g := (mkF m 113 #[.val (.int p0), .val (.int p1), .val (.int p2), .val (.int p3), .val (.int p4), .val (.int a1), .val (.int a2), .val (.int la), .val (.int (p4 &&& (3 : Int32))), .val (.int bc1), .val (.int bc2), .val (.int lb), .unset, .unset, .unset, .unset, .unset, .unset, .unset] [(.int p2)])) rfl (hb hby at_113)) ?_
    refine Dn.by (U' := s₁.setTop (mkF m 116 #[.val (.int p0), .val (.int p1), .val (.int p2), .val (.int p3), .val (.int p4), .val (.int a1), .val (.int a2), .val (.int la), .val (.int (p4 &&& (3 : Int32))), .val (.int bc1), .val (.int bc2), .val (.int lb), .unset, .unset, .unset, .unset, .unset, .unset, .unset] [(.int (p2 &&& (65535 : Int32)))])) (fun _ ks => XS.iand X0.here hx rfl (hb hby at_115) rfl ks) ?_
    generalize h_pA : (p2 &&& (65535 : Int32)) = pA
    have hpA : ¬ pA < 0 ∧ ¬ (65535 : Int32) < pA := by rw [← h_pA]; exact own_port _
    refine Dn.by (U' := s₁.setTop (mkF m 118 #[.val (.int p0), .val (.int p1), .val (.int p2), .val (.int p3), .val (.int p4), .val (.int a1), .val (.int a2), .val (.int la), .val (.int (p4 &&& (3 : Int32))), .val (.int bc1), .val (.int bc2), .val (.int lb), .val (.int pA), .unset, .unset, .unset, .unset, .unset, .unset] [])) (fun _ ks => XS.istore X0.here hx rfl (hb hby at_116) rfl (l' := #[.val (.int p0), .val (.int p1), .val (.int p2), .val (.int p3), .val (.int p4), .val (.int a1), .val (.int a2), .val (.int la), .val (.int (p4 &&& (3 : Int32))), .val (.int bc1), .val (.int bc2), .val (.int lb), .val (.int pA), .unset, .unset, .unset, .unset, .unset, .unset]) rfl ks) ?_
    refine Dn.by (U' := s₁.setTop (mkF m 120 #[.val (.int p0), .val (.int p1), .val (.int p2), .val (.int p3), .val (.int p4), .val (.int a1), .val (.int a2), .val (.int la), .val (.int (p4 &&& (3 : Int32))), .val (.int bc1), .val (.int bc2), .val (.int lb), .val (.int pA), .unset, .unset, .unset, .unset, .unset, .unset] [(.int p4)])) (fun _ ks => XS.iload X0.here hx rfl (hb hby at_118) rfl ks) ?_
    refine Dn.by (U' := s₁.setTop (mkF m 121 #[.val (.int p0), .val (.int p1), .val (.int p2), .val (.int p3), .val (.int p4), .val (.int a1), .val (.int a2), .val (.int la), .val (.int (p4 &&& (3 : Int32))), .val (.int bc1), .val (.int bc2), .val (.int lb), .val (.int pA), .unset, .unset, .unset, .unset, .unset, .unset] [(.int (2 : Int32)), (.int p4)])) (fun _ ks => XS.iconst X0.here hx rfl (hb hby at_120)  ks) ?_
    refine Dn.by (U' := s₁.setTop (mkF m 122 #[.val (.int p0), .val (.int p1), .val (.int p2), .val (.int p3), .val (.int p4), .val (.int a1), .val (.int a2), .val (.int la), .val (.int (p4 &&& (3 : Int32))), .val (.int bc1), .val (.int bc2), .val (.int lb), .val (.int pA), .unset, .unset, .unset, .unset, .unset, .unset] [(.int ((p4.toUInt32 >>> ((2 : Int32) &&& 31).toUInt32).toInt32))])) (fun _ ks => XS.iushr X0.here hx rfl (hb hby at_121) rfl ks) ?_
    refine Dn.by (U' := s₁.setTop (mkF m 123 #[.val (.int p0), .val (.int p1), .val (.int p2), .val (.int p3), .val (.int p4), .val (.int a1), .val (.int a2), .val (.int la), .val (.int (p4 &&& (3 : Int32))), .val (.int bc1), .val (.int bc2), .val (.int lb), .val (.int pA), .unset, .unset, .unset, .unset, .unset, .unset] [(.int (1 : Int32)), (.int ((p4.toUInt32 >>> ((2 : Int32) &&& 31).toUInt32).toInt32))])) (fun _ ks => XS.iconst X0.here hx rfl (hb hby at_122)  ks) ?_
    refine Dn.by (U' := s₁.setTop (mkF m 124 #[.val (.int p0), .val (.int p1), .val (.int p2), .val (.int p3), .val (.int p4), .val (.int a1), .val (.int a2), .val (.int la), .val (.int (p4 &&& (3 : Int32))), .val (.int bc1), .val (.int bc2), .val (.int lb), .val (.int pA), .unset, .unset, .unset, .unset, .unset, .unset] [(.int (((p4.toUInt32 >>> ((2 : Int32) &&& 31).toUInt32).toInt32) &&& (1 : Int32)))])) (fun _ ks => XS.iand X0.here hx rfl (hb hby at_123) rfl ks) ?_
    have J2 : ∀ (pB : Int32) (hpB : ¬ pB < 0 ∧ ¬ (65535 : Int32) < pB), Dn p e below s 24 128 (Q0 Z p0 p1 p2 p3 p4 cs h0 n0) (s₁.setTop (mkF m 136 #[.val (.int p0), .val (.int p1), .val (.int p2), .val (.int p3), .val (.int p4), .val (.int a1), .val (.int a2), .val (.int la), .val (.int (p4 &&& (3 : Int32))), .val (.int bc1), .val (.int bc2), .val (.int lb), .val (.int pA), .unset, .unset, .unset, .unset, .unset, .unset] [(.int pB)])) := by
      intro pB hpB
      refine Dn.by (U' := s₁.setTop (mkF m 138 #[.val (.int p0), .val (.int p1), .val (.int p2), .val (.int p3), .val (.int p4), .val (.int a1), .val (.int a2), .val (.int la), .val (.int (p4 &&& (3 : Int32))), .val (.int bc1), .val (.int bc2), .val (.int lb), .val (.int pA), .val (.int pB), .unset, .unset, .unset, .unset, .unset] [])) (fun _ ks => XS.istore X0.here hx rfl (hb hby at_136) rfl (l' := #[.val (.int p0), .val (.int p1), .val (.int p2), .val (.int p3), .val (.int p4), .val (.int a1), .val (.int a2), .val (.int la), .val (.int (p4 &&& (3 : Int32))), .val (.int bc1), .val (.int bc2), .val (.int lb), .val (.int pA), .val (.int pB), .unset, .unset, .unset, .unset, .unset]) rfl ks) ?_
      refine Dn.by (U' := s₁.setTop (mkF m 140 #[.val (.int p0), .val (.int p1), .val (.int p2), .val (.int p3), .val (.int p4), .val (.int a1), .val (.int a2), .val (.int la), .val (.int (p4 &&& (3 : Int32))), .val (.int bc1), .val (.int bc2), .val (.int lb), .val (.int pA), .val (.int pB), .unset, .unset, .unset, .unset, .unset] [(.int p4)])) (fun _ ks => XS.iload X0.here hx rfl (hb hby at_138) rfl ks) ?_
      refine Dn.by (U' := s₁.setTop (mkF m 141 #[.val (.int p0), .val (.int p1), .val (.int p2), .val (.int p3), .val (.int p4), .val (.int a1), .val (.int a2), .val (.int la), .val (.int (p4 &&& (3 : Int32))), .val (.int bc1), .val (.int bc2), .val (.int lb), .val (.int pA), .val (.int pB), .unset, .unset, .unset, .unset, .unset] [(.int (3 : Int32)), (.int p4)])) (fun _ ks => XS.iconst X0.here hx rfl (hb hby at_140)  ks) ?_
      refine Dn.by (U' := s₁.setTop (mkF m 142 #[.val (.int p0), .val (.int p1), .val (.int p2), .val (.int p3), .val (.int p4), .val (.int a1), .val (.int a2), .val (.int la), .val (.int (p4 &&& (3 : Int32))), .val (.int bc1), .val (.int bc2), .val (.int lb), .val (.int pA), .val (.int pB), .unset, .unset, .unset, .unset, .unset] [(.int ((p4.toUInt32 >>> ((3 : Int32) &&& 31).toUInt32).toInt32))])) (fun _ ks => XS.iushr X0.here hx rfl (hb hby at_141) rfl ks) ?_
      refine Dn.by (U' := s₁.setTop (mkF m 143 #[.val (.int p0), .val (.int p1), .val (.int p2), .val (.int p3), .val (.int p4), .val (.int a1), .val (.int a2), .val (.int la), .val (.int (p4 &&& (3 : Int32))), .val (.int bc1), .val (.int bc2), .val (.int lb), .val (.int pA), .val (.int pB), .unset, .unset, .unset, .unset, .unset] [(.int (3 : Int32)), (.int ((p4.toUInt32 >>> ((3 : Int32) &&& 31).toUInt32).toInt32))])) (fun _ ks => XS.iconst X0.here hx rfl (hb hby at_142)  ks) ?_
      refine Dn.by (U' := s₁.setTop (mkF m 144 #[.val (.int p0), .val (.int p1), .val (.int p2), .val (.int p3), .val (.int p4), .val (.int a1), .val (.int a2), .val (.int la), .val (.int (p4 &&& (3 : Int32))), .val (.int bc1), .val (.int bc2), .val (.int lb), .val (.int pA), .val (.int pB), .unset, .unset, .unset, .unset, .unset] [(.int (((p4.toUInt32 >>> ((3 : Int32) &&& 31).toUInt32).toInt32) &&& (3 : Int32)))])) (fun _ ks => XS.iand X0.here hx rfl (hb hby at_143) rfl ks) ?_
      generalize h_kd : (((p4.toUInt32 >>> ((3 : Int32) &&& 31).toUInt32).toInt32) &&& (3 : Int32)) = kd
      refine Dn.by (U' := s₁.setTop (mkF m 146 #[.val (.int p0), .val (.int p1), .val (.int p2), .val (.int p3), .val (.int p4), .val (.int a1), .val (.int a2), .val (.int la), .val (.int (p4 &&& (3 : Int32))), .val (.int bc1), .val (.int bc2), .val (.int lb), .val (.int pA), .val (.int pB), .val (.int kd), .unset, .unset, .unset, .unset] [])) (fun _ ks => XS.istore X0.here hx rfl (hb hby at_144) rfl (l' := #[.val (.int p0), .val (.int p1), .val (.int p2), .val (.int p3), .val (.int p4), .val (.int a1), .val (.int a2), .val (.int la), .val (.int (p4 &&& (3 : Int32))), .val (.int bc1), .val (.int bc2), .val (.int lb), .val (.int pA), .val (.int pB), .val (.int kd), .unset, .unset, .unset, .unset]) rfl ks) ?_
      obtain ⟨T1, h1, X1, e1, E1, A1, D1, -, st1⟩ := newO X0 hx hZ hown (hw _ (List.mem_of_getElem? (i := 1) rfl)) (hw _ (List.mem_of_getElem? (i := 2) rfl)) (hw _ (List.mem_of_getElem? (i := 3) rfl)) e0 (g := (mkF m 146 #[.val (.int p0), .val (.int p1), .val (.int p2), .val (.int p3), .val (.int p4), .val (.int a1), .val (.int a2), .val (.int la), .val (.int (p4 &&& (3 : Int32))), .val (.int bc1), .val (.int bc2), .val (.int lb), .val (.int pA), .val (.int pB), .val (.int kd), .unset, .unset, .unset, .unset] [])) rfl (hb hby at_146) (by decide) (by decide)
      obtain ⟨b1, g1⟩ : ∃ z, z = h0.size := ⟨_, rfl⟩
      rw [← g1] at A1 D1 st1
      have g_b1 : n0 ≤ b1 := Nat.le_trans Z0 (Nat.le_of_eq g1.symm)
      have sz_b1 : h0.size ≤ b1 := Nat.le_trans (Keep.refl h0 []).1 (Nat.le_of_eq g1.symm)
      have K2 : Keep h0 h1 [] := ((Keep.refl h0 []).ext E1)
      have z2 : n0 ≤ h1.size := (Nat.le_trans Z0 E1.1)
      have O2 : Old Z n0 h1 := O0.ext E1
      have F_host_b1 : Fld Z h1 b1 "com/example/ferrywire/ferrywire/wire/HostPort" "host" "Ljava/lang/String;" .null := D1 (Or.inr (hw _ (List.mem_of_getElem? (i := 49) rfl))) (ty := (.object "java/lang/String")) (by decide)
      have F_port_b1 : Fld Z h1 b1 "com/example/ferrywire/ferrywire/wire/HostPort" "port" "I" (.int (0 : Int32)) := D1 (Or.inr (hw _ (List.mem_of_getElem? (i := 51) rfl))) (ty := .int) (by decide)
      refine Dn.by (U' := T1.setTop (mkF m 149 #[.val (.int p0), .val (.int p1), .val (.int p2), .val (.int p3), .val (.int p4), .val (.int a1), .val (.int a2), .val (.int la), .val (.int (p4 &&& (3 : Int32))), .val (.int bc1), .val (.int bc2), .val (.int lb), .val (.int pA), .val (.int pB), .val (.int kd), .unset, .unset, .unset, .unset] [(.ref b1)])) st1 ?_
      refine Dn.by (U' := T1.setTop (mkF m 150 #[.val (.int p0), .val (.int p1), .val (.int p2), .val (.int p3), .val (.int p4), .val (.int a1), .val (.int a2), .val (.int la), .val (.int (p4 &&& (3 : Int32))), .val (.int bc1), .val (.int bc2), .val (.int lb), .val (.int pA), .val (.int pB), .val (.int kd), .unset, .unset, .unset, .unset] [(.ref b1), (.ref b1)])) (fun _ ks => XS.dup X1.here hx rfl (hb hby at_149) rfl rfl ks) ?_
      refine Dn.by (U' := T1.setTop (mkF m 152 #[.val (.int p0), .val (.int p1), .val (.int p2), .val (.int p3), .val (.int p4), .val (.int a1), .val (.int a2), .val (.int la), .val (.int (p4 &&& (3 : Int32))), .val (.int bc1), .val (.int bc2), .val (.int lb), .val (.int pA), .val (.int pB), .val (.int kd), .unset, .unset, .unset, .unset] [(.int a1), (.ref b1), (.ref b1)])) (fun _ ks => XS.iload X1.here hx rfl (hb hby at_150) rfl ks) ?_
      refine Dn.by (U' := T1.setTop (mkF m 154 #[.val (.int p0), .val (.int p1), .val (.int p2), .val (.int p3), .val (.int p4), .val (.int a1), .val (.int a2), .val (.int la), .val (.int (p4 &&& (3 : Int32))), .val (.int bc1), .val (.int bc2), .val (.int lb), .val (.int pA), .val (.int pB), .val (.int kd), .unset, .unset, .unset, .unset] [(.int a2), (.int a1), (.ref b1), (.ref b1)])) (fun _ ks => XS.iload X1.here hx rfl (hb hby at_152) rfl ks) ?_
      refine Dn.by (U' := T1.setTop (mkF m 156 #[.val (.int p0), .val (.int p1), .val (.int p2), .val (.int p3), .val (.int p4), .val (.int a1), .val (.int a2), .val (.int la), .val (.int (p4 &&& (3 : Int32))), .val (.int bc1), .val (.int bc2), .val (.int lb), .val (.int pA), .val (.int pB), .val (.int kd), .unset, .unset, .unset, .unset] [(.int la), (.int a2), (.int a1), (.ref b1), (.ref b1)])) (fun _ ks => XS.iload X1.here hx rfl (hb hby at_154) rfl ks) ?_
      obtain ⟨_, _, ⟨T3, L3, k3, n3⟩, -, X3, ⟨Lc3, hQ3, l3, y3, z3⟩, st3⟩ := Jvm.LawKit.callS X1 hx (y := (⟨"com/example/ferrywire/ferrywire/wire/HostPortEqualsPinLaw", "make", "(CCI)Ljava/lang/String;"⟩ : MethodName)) hown (mvT hZ (hw _ (List.mem_of_getElem? (i := 4) rfl))) (mvT hZ (hw _ (List.mem_of_getElem? (i := 5) rfl))) (mvT hZ (hw _ (List.mem_of_getElem? (i := 6) rfl))) (mvT hZ (hw _ (List.mem_of_getElem? (i := 7) rfl))) (by decide) (backOf (W := 2) (rm1 l Z a0 hw [] a1 a2 la cs h1 n0 z2 (S_cs.ext O2.2) hcs ha1 ha2) hZ (hw _ (List.mem_of_getElem? (i := 7) rfl)) (hw _ (List.mem_of_getElem? (i := 6) rfl)) (by decide) (by decide)) (g := (mkF m 156 #[.val (.int p0), .val (.int p1), .val (.int p2), .val (.int p3), .val (.int p4), .val (.int a1), .val (.int a2), .val (.int la), .val (.int (p4 &&& (3 : Int32))), .val (.int bc1), .val (.int bc2), .val (.int lb), .val (.int pA), .val (.int pB), .val (.int kd), .unset, .unset, .unset, .unset] [(.int la), (.int a2), (.int a1), (.ref b1), (.ref b1)])) rfl (by rw [hml]; rfl) (argsL := [(.int a1), (.int a2), (.int la)]) (rest := [(.ref b1), (.ref b1)]) (lenOf pd3 rfl) rfl (by show 2 * 0 + _ ≤ _; exact Nat.le_of_eq rfl) (hb hby at_156) (fun _ _ => ⟨rfl, e1, (by decide : 1 + 3 ≤ _), (by decide : 2 + 8 ≤ _)⟩)
      dsimp only [Pt.U, Pt.locs, Pt.cells, Pt.slots] at X3 l3 y3 z3 st3 hQ3
      rw [l3, y3, z3] at X3
      obtain ⟨b3, t3, kb3, rfl, N3q, zb3, zt3, KK3, EE3, FC3, FV3, VV3⟩ := hQ3
      have N3 := Fr.app N0 N3q
      have g_b3 : n0 ≤ b3 := Nat.le_trans z2 zb3
      have sz_b3 : h0.size ≤ b3 := Nat.le_trans K2.1 zb3
      have ne_b1_b3 : b1 ≠ b3 := Nat.ne_of_lt (Nat.lt_of_lt_of_le A1.lt zb3)
      have g_t3 : n0 ≤ t3 := Nat.le_trans z2 zt3
      have sz_t3 : h0.size ≤ t3 := Nat.le_trans K2.1 zt3
      have ne_b1_t3 : b1 ≠ t3 := Nat.ne_of_lt (Nat.lt_of_lt_of_le A1.lt zt3)
      have K4 : Keep h0 T3.heap [] := (K2.trans KK3 all0)
      have z4 : n0 ≤ T3.heap.size := (Nat.le_trans z2 KK3.1)
      have O4 : Old Z n0 T3.heap := O2.keep KK3 all0
      refine Dn.by (U' := T3.setTop (mkF m 159 #[.val (.int p0), .val (.int p1), .val (.int p2), .val (.int p3), .val (.int p4), .val (.int a1), .val (.int a2), .val (.int la), .val (.int (p4 &&& (3 : Int32))), .val (.int bc1), .val (.int bc2), .val (.int lb), .val (.int pA), .val (.int pB), .val (.int kd), .unset, .unset, .unset, .unset] [(.ref b3), (.ref b1), (.ref b1)])) st3 ?_
      refine Dn.by (U' := T3.setTop (mkF m 161 #[.val (.int p0), .val (.int p1), .val (.int p2), .val (.int p3), .val (.int p4), .val (.int a1), .val (.int a2), .val (.int la), .val (.int (p4 &&& (3 : Int32))), .val (.int bc1), .val (.int bc2), .val (.int lb), .val (.int pA), .val (.int pB), .val (.int kd), .unset, .unset, .unset, .unset] [(.int pA), (.ref b3), (.ref b1), (.ref b1)])) (fun _ ks => XS.iload X3.here hx rfl (hb hby at_159) rfl ks) ?_
      obtain ⟨_, _, ⟨T5, L5, k5, n5⟩, -, X5, ⟨Lc5, hQ5, l5, y5, z5⟩, st5⟩ := X3.specialBack hx (y := (⟨"com/example/ferrywire/ferrywire/wire/HostPort", "<init>", "(Ljava/lang/String;I)V"⟩ : MethodName)) rfl hown (mvT hZ (hw _ (List.mem_of_getElem? (i := 38) rfl))) (mvT hZ (hw _ (List.mem_of_getElem? (i := 39) rfl))) (mvT hZ (hw _ (List.mem_of_getElem? (i := 40) rfl))) (by decide) (backOf (W := 1) (rm8 l Z a0 hw [] b1 b3 pA t3 kb3 (mkS a1 a2 la) (.null : Value) ((.int (0 : Int32)) : Value) T3.heap n0 z4 EE3 FC3 FV3 VV3 (own_mkp a1 a2 la ha1 ha2) (own_mkl a1 a2 la) (own_mkz a1 a2 la) hpA g_b1 (A1.keep KK3) (F_host_b1.keep KK3 nin0) (F_port_b1.keep KK3 nin0)) hZ (hw _ (List.mem_of_getElem? (i := 40) rfl)) (hw _ (List.mem_of_getElem? (i := 3) rfl)) (by decide) (by decide)) (g := (mkF m 161 #[.val (.int p0), .val (.int p1), .val (.int p2), .val (.int p3), .val (.int p4), .val (.int a1), .val (.int a2), .val (.int la), .val (.int (p4 &&& (3 : Int32))), .val (.int bc1), .val (.int bc2), .val (.int lb), .val (.int pA), .val (.int pB), .val (.int kd), .unset, .unset, .unset, .unset] [(.int pA), (.ref b3), (.ref b1), (.ref b1)])) rfl (by rw [hml]; rfl) (Steps.refl _) (a := b1) (argsL := [(.ref b3), (.int pA)]) (rest := [(.ref b1)]) (lenOf pd4 rfl) rfl (by show 2 * 0 + _ ≤ _; exact Nat.le_of_eq rfl) (hb hby at_161) (fun _ _ => ⟨rfl, rfl, (by decide : 4 + 0 ≤ _), (by decide : 10 + 0 ≤ _)⟩)
      dsimp only [Pt.U, Pt.locs, Pt.cells, Pt.slots] at X5 l5 y5 z5 st5 hQ5
      rw [l5, y5, z5] at X5
      obtain ⟨rfl, N5q, KK5, EE5, FF5_0, FF5_1⟩ := hQ5
      have N5 := Fr.app N3 N5q
      have K6 : Keep h0 T5.heap [] := (K4.trans KK5 (allS (Or.inr sz_b1) all0))
      have z6 : n0 ≤ T5.heap.size := (Nat.le_trans z4 KK5.1)
      have O6 : Old Z n0 T5.heap := O4.keep KK5 (allS g_b1 all0)
      refine Dn.by (U' := T5.setTop (mkF m 164 #[.val (.int p0), .val (.int p1), .val (.int p2), .val (.int p3), .val (.int p4), .val (.int a1), .val (.int a2), .val (.int la), .val (.int (p4 &&& (3 : Int32))), .val (.int bc1), .val (.int bc2), .val (.int lb), .val (.int pA), .val (.int pB), .val (.int kd), .unset, .unset, .unset, .unset] [(.ref b1)])) (fun _ ks => st5.trans ks) ?_
      refine Dn.by (U' := T5.setTop (mkF m 166 #[.val (.int p0), .val (.int p1), .val (.int p2), .val (.int p3), .val (.int p4), .val (.int a1), .val (.int a2), .val (.int la), .val (.int (p4 &&& (3 : Int32))), .val (.int bc1), .val (.int bc2), .val (.int lb), .val (.int pA), .val (.int pB), .val (.int kd), .val (.ref b1), .unset, .unset, .unset] [])) (fun _ ks => XS.astore X5.here hx rfl (hb hby at_164) rfl rfl (l' := #[.val (.int p0), .val (.int p1), .val (.int p2), .val (.int p3), .val (.int p4), .val (.int a1), .val (.int a2), .val (.int la), .val (.int (p4 &&& (3 : Int32))), .val (.int bc1), .val (.int bc2), .val (.int lb), .val (.int pA), .val (.int pB), .val (.int kd), .val (.ref b1), .unset, .unset, .unset]) rfl ks) ?_
      refine Dn.by (U' := T5.setTop (mkF m 168 #[.val (.int p0), .val (.int p1), .val (.int p2), .val (.int p3), .val (.int p4), .val (.int a1), .val (.int a2), .val (.int la), .val (.int (p4 &&& (3 : Int32))), .val (.int bc1), .val (.int bc2), .val (.int lb), .val (.int pA), .val (.int pB), .val (.int kd), .val (.ref b1), .unset, .unset, .unset] [(.int kd)])) (fun _ ks => XS.iload X5.here hx rfl (hb hby at_166) rfl ks) ?_
      refine Dn.by (U' := T5.setTop (mkF m 169 #[.val (.int p0), .val (.int p1), .val (.int p2), .val (.int p3), .val (.int p4), .val (.int a1), .val (.int a2), .val (.int la), .val (.int (p4 &&& (3 : Int32))), .val (.int bc1), .val (.int bc2), .val (.int lb), .val (.int pA), .val (.int pB), .val (.int kd), .val (.ref b1), .unset, .unset, .unset] [(.int (1 : Int32)), (.int kd)])) (fun _ ks => XS.iconst X5.here hx rfl (hb hby at_168)  ks) ?_
      by_cases c169_7 : (1 : Int32) < kd
      ·
        refine Dn.by (U' := T5.setTop (mkF m 195 #[.val (.int p0), .val (.int p1), .val (.int p2), .val (.int p3), .val (.int p4), .val (.int a1), .val (.int a2), .val (.int la), .val (.int (p4 &&& (3 : Int32))), .val (.int bc1), .val (.int bc2), .val (.int lb), .val (.int pA), .val (.int pB), .val (.int kd), .val (.ref b1), .unset, .unset, .unset] [])) (fun _ ks => XS.icmpYes X5.here hx rfl (pc0 := 169) (pc' := 195) rfl (hb hby at_169) rfl (tlt c169_7).2.2.1 (by decide) (by decide) ks) ?_
        refine Dn.by (U' := T5.setTop (mkF m 197 #[.val (.int p0), .val (.int p1), .val (.int p2), .val (.int p3), .val (.int p4), .val (.int a1), .val (.int a2), .val (.int la), .val (.int (p4 &&& (3 : Int32))), .val (.int bc1), .val (.int bc2), .val (.int lb), .val (.int pA), .val (.int pB), .val (.int kd), .val (.ref b1), .unset, .unset, .unset] [(.int kd)])) (fun _ ks => XS.iload X5.here hx rfl (hb hby at_195) rfl ks) ?_
        refine Dn.by (U' := T5.setTop (mkF m 198 #[.val (.int p0), .val (.int p1), .val (.int p2), .val (.int p3), .val (.int p4), .val (.int a1), .val (.int a2), .val (.int la), .val (.int (p4 &&& (3 : Int32))), .val (.int bc1), .val (.int bc2), .val (.int lb), .val (.int pA), .val (.int pB), .val (.int kd), .val (.ref b1), .unset, .unset, .unset] [(.int (2 : Int32)), (.int kd)])) (fun _ ks => XS.iconst X5.here hx rfl (hb hby at_197)  ks) ?_
        by_cases c198_8 : kd = (2 : Int32)
        ·
          refine Dn.by (U' := T5.setTop (mkF m 201 #[.val (.int p0), .val (.int p1), .val (.int p2), .val (.int p3), .val (.int p4), .val (.int a1), .val (.int a2), .val (.int la), .val (.int (p4 &&& (3 : Int32))), .val (.int bc1), .val (.int bc2), .val (.int lb), .val (.int pA), .val (.int pB), .val (.int kd), .val (.ref b1), .unset, .unset, .unset] [])) (fun _ ks => XS.icmpNo X5.here hx rfl (hb hby at_198) rfl (teq c198_8).2 ks) ?_
          refine Dn.by (U' := T5.setTop (mkF m 203 #[.val (.int p0), .val (.int p1), .val (.int p2), .val (.int p3), .val (.int p4), .val (.int a1), .val (.int a2), .val (.int la), .val (.int (p4 &&& (3 : Int32))), .val (.int bc1), .val (.int bc2), .val (.int lb), .val (.int pA), .val (.int pB), .val (.int kd), .val (.ref b1), .unset, .unset, .unset] [(.int bc1)])) (fun _ ks => XS.iload X5.here hx rfl (hb hby at_201) rfl ks) ?_
          refine Dn.by (U' := T5.setTop (mkF m 205 #[.val (.int p0), .val (.int p1), .val (.int p2), .val (.int p3), .val (.int p4), .val (.int a1), .val (.int a2), .val (.int la), .val (.int (p4 &&& (3 : Int32))), .val (.int bc1), .val (.int bc2), .val (.int lb), .val (.int pA), .val (.int pB), .val (.int kd), .val (.ref b1), .unset, .unset, .unset] [(.int bc2), (.int bc1)])) (fun _ ks => XS.iload X5.here hx rfl (hb hby at_203) rfl ks) ?_
          refine Dn.by (U' := T5.setTop (mkF m 207 #[.val (.int p0), .val (.int p1), .val (.int p2), .val (.int p3), .val (.int p4), .val (.int a1), .val (.int a2), .val (.int la), .val (.int (p4 &&& (3 : Int32))), .val (.int bc1), .val (.int bc2), .val (.int lb), .val (.int pA), .val (.int pB), .val (.int kd), .val (.ref b1), .unset, .unset, .unset] [(.int lb), (.int bc2), (.int bc1)])) (fun _ ks => XS.iload X5.here hx rfl (hb hby at_205) rfl ks) ?_
          obtain ⟨_, _, ⟨T9, L9, k9, n9⟩, -, X9, ⟨Lc9, hQ9, l9, y9, z9⟩, st9⟩ := Jvm.LawKit.callS X5 hx (y := (⟨"com/example/ferrywire/ferrywire/wire/HostPortEqualsPinLaw", "make", "(CCI)Ljava/lang/String;"⟩ : MethodName)) hown (mvT hZ (hw _ (List.mem_of_getElem? (i := 4) rfl))) (mvT hZ (hw _ (List.mem_of_getElem? (i := 5) rfl))) (mvT hZ (hw _ (List.mem_of_getElem? (i := 6) rfl))) (mvT hZ (hw _ (List.mem_of_getElem? (i := 7) rfl))) (by decide) (backOf (W := 0) (rm1 l Z a0 hw [] bc1 bc2 lb cs T5.heap n0 z6 (S_cs.ext O6.2) hcs hbc1 hbc2) hZ (hw _ (List.mem_of_getElem? (i := 7) rfl)) (hw _ (List.mem_of_getElem? (i := 6) rfl)) (by decide) (by decide)) (g := (mkF m 207 #[.val (.int p0), .val (.int p1), .val (.int p2), .val (.int p3), .val (.int p4), .val (.int a1), .val (.int a2), .val (.int la), .val (.int (p4 &&& (3 : Int32))), .val (.int bc1), .val (.int bc2), .val (.int lb), .val (.int pA), .val (.int pB), .val (.int kd), .val (.ref b1), .unset, .unset, .unset] [(.int lb), (.int bc2), (.int bc1)])) rfl (by rw [hml]; rfl) (argsL := [(.int bc1), (.int bc2), (.int lb)]) (rest := []) (lenOf pd3 rfl) rfl (by show 2 * 0 + _ ≤ _; exact Nat.le_of_eq rfl) (hb hby at_207) (fun _ _ => ⟨rfl, rfl, (by decide : 4 + 3 ≤ _), (by decide : 10 + 8 ≤ _)⟩)
          dsimp only [Pt.U, Pt.locs, Pt.cells, Pt.slots] at X9 l9 y9 z9 st9 hQ9
          rw [l9, y9, z9] at X9
          obtain ⟨b9, t9, kb9, rfl, N9q, zb9, zt9, KK9, EE9, FC9, FV9, VV9⟩ := hQ9
          have N9 := Fr.app N5 N9q
          have g_b9 : n0 ≤ b9 := Nat.le_trans z6 zb9
          have sz_b9 : h0.size ≤ b9 := Nat.le_trans K6.1 zb9
          have ne_b1_b9 : b1 ≠ b9 := Nat.ne_of_lt (Nat.lt_of_lt_of_le ((A1.keep KK3).keep KK5).lt zb9)
          have ne_b3_b9 : b3 ≠ b9 := Nat.ne_of_lt (Nat.lt_of_lt_of_le (EE3.keep KK5).lt zb9)
          have ne_t3_b9 : t3 ≠ b9 := Nat.ne_of_lt (Nat.lt_of_lt_of_le (VV3.keep KK5 (ninS (Ne.symm ne_b1_t3) nin0)).lt zb9)
          have g_t9 : n0 ≤ t9 := Nat.le_trans z6 zt9
          have sz_t9 : h0.size ≤ t9 := Nat.le_trans K6.1 zt9
          have ne_b1_t9 : b1 ≠ t9 := Nat.ne_of_lt (Nat.lt_of_lt_of_le ((A1.keep KK3).keep KK5).lt zt9)
          have ne_b3_t9 : b3 ≠ t9 := Nat.ne_of_lt (Nat.lt_of_lt_of_le (EE3.keep KK5).lt zt9)
          have ne_t3_t9 : t3 ≠ t9 := Nat.ne_of_lt (Nat.lt_of_lt_of_le (VV3.keep KK5 (ninS (Ne.symm ne_b1_t3) nin0)).lt zt9)
          have K10 : Keep h0 T9.heap [] := (K6.trans KK9 all0)
          have z10 : n0 ≤ T9.heap.size := (Nat.le_trans z6 KK9.1)
          have O10 : Old Z n0 T9.heap := O6.keep KK9 all0
          refine Dn.by (U' := T9.setTop (mkF m 210 #[.val (.int p0), .val (.int p1), .val (.int p2), .val (.int p3), .val (.int p4), .val (.int a1), .val (.int a2), .val (.int la), .val (.int (p4 &&& (3 : Int32))), .val (.int bc1), .val (.int bc2), .val (.int lb), .val (.int pA), .val (.int pB), .val (.int kd), .val (.ref b1), .unset, .unset, .unset] [(.ref b9)])) st9 ?_
          refine Dn.by (U' := T9.setTop (mkF m 212 #[.val (.int p0), .val (.int p1), .val (.int p2), .val (.int p3), .val (.int p4), .val (.int a1), .val (.int a2), .val (.int la), .val (.int (p4 &&& (3 : Int32))), .val (.int bc1), .val (.int bc2), .val (.int lb), .val (.int pA), .val (.int pB), .val (.int kd), .val (.ref b1), .val (.ref b9), .unset, .unset] [])) (fun _ ks => XS.astore X9.here hx rfl (hb hby at_210) rfl rfl (l' := #[.val (.int p0), .val (.int p1), .val (.int p2), .val (.int p3), .val (.int p4), .val (.int a1), .val (.int a2), .val (.int la), .val (.int (p4 &&& (3 : Int32))), .val (.int bc1), .val (.int bc2), .val (.int lb), .val (.int pA), .val (.int pB), .val (.int kd), .val (.ref b1), .val (.ref b9), .unset, .unset]) rfl ks) ?_
          refine Dn.by (U' := T9.setTop (mkF m 218 #[.val (.int p0), .val (.int p1), .val (.int p2), .val (.int p3), .val (.int p4), .val (.int a1), .val (.int a2), .val (.int la), .val (.int (p4 &&& (3 : Int32))), .val (.int bc1), .val (.int bc2), .val (.int lb), .val (.int pA), .val (.int pB), .val (.int kd), .val (.ref b1), .val (.ref b9), .unset, .unset] [])) (fun _ ks => XS.goto X9.here hx rfl (pc0 := 212) (pc' := 218) rfl (hb hby at_212) (by decide) (by decide) ks) ?_
          refine Dn.by (U' := T9.setTop (mkF m 220 #[.val (.int p0), .val (.int p1), .val (.int p2), .val (.int p3), .val (.int p4), .val (.int a1), .val (.int a2), .val (.int la), .val (.int (p4 &&& (3 : Int32))), .val (.int bc1), .val (.int bc2), .val (.int lb), .val (.int pA), .val (.int pB), .val (.int kd), .val (.ref b1), .val (.ref b9), .unset, .unset] [(.int la)])) (fun _ ks => XS.iload X9.here hx rfl (hb hby at_218) rfl ks) ?_
          refine Dn.by (U' := T9.setTop (mkF m 222 #[.val (.int p0), .val (.int p1), .val (.int p2), .val (.int p3), .val (.int p4), .val (.int a1), .val (.int a2), .val (.int la), .val (.int (p4 &&& (3 : Int32))), .val (.int bc1), .val (.int bc2), .val (.int lb), .val (.int pA), .val (.int pB), .val (.int kd), .val (.ref b1), .val (.ref b9), .unset, .unset] [(.int lb), (.int la)])) (fun _ ks => XS.iload X9.here hx rfl (hb hby at_220) rfl ks) ?_
          by_cases c222_11 : la = lb
          ·
            refine Dn.by (U' := T9.setTop (mkF m 225 #[.val (.int p0), .val (.int p1), .val (.int p2), .val (.int p3), .val (.int p4), .val (.int a1), .val (.int a2), .val (.int la), .val (.int (p4 &&& (3 : Int32))), .val (.int bc1), .val (.int bc2), .val (.int lb), .val (.int pA), .val (.int pB), .val (.int kd), .val (.ref b1), .val (.ref b9), .unset, .unset] [])) (fun _ ks => XS.icmpNo X9.here hx rfl (hb hby at_222) rfl (teq c222_11).2 ks) ?_
            refine Dn.by (U' := T9.setTop (mkF m 227 #[.val (.int p0), .val (.int p1), .val (.int p2), .val (.int p3), .val (.int p4), .val (.int a1), .val (.int a2), .val (.int la), .val (.int (p4 &&& (3 : Int32))), .val (.int bc1), .val (.int bc2), .val (.int lb), .val (.int pA), .val (.int pB), .val (.int kd), .val (.ref b1), .val (.ref b9), .unset, .unset] [(.int a1)])) (fun _ ks => XS.iload X9.here hx rfl (hb hby at_225) rfl ks) ?_
            refine Dn.by (U' := T9.setTop (mkF m 229 #[.val (.int p0), .val (.int p1), .val (.int p2), .val (.int p3), .val (.int p4), .val (.int a1), .val (.int a2), .val (.int la), .val (.int (p4 &&& (3 : Int32))), .val (.int bc1), .val (.int bc2), .val (.int lb), .val (.int pA), .val (.int pB), .val (.int kd), .val (.ref b1), .val (.ref b9), .unset, .unset] [(.int bc1), (.int a1)])) (fun _ ks => XS.iload X9.here hx rfl (hb hby at_227) rfl ks) ?_
            by_cases c229_12 : a1 = bc1
            ·
              refine Dn.by (U' := T9.setTop (mkF m 232 #[.val (.int p0), .val (.int p1), .val (.int p2), .val (.int p3), .val (.int p4), .val (.int a1), .val (.int a2), .val (.int la), .val (.int (p4 &&& (3 : Int32))), .val (.int bc1), .val (.int bc2), .val (.int lb), .val (.int pA), .val (.int pB), .val (.int kd), .val (.ref b1), .val (.ref b9), .unset, .unset] [])) (fun _ ks => XS.icmpNo X9.here hx rfl (hb hby at_229) rfl (teq c229_12).2 ks) ?_
              refine Dn.by (U' := T9.setTop (mkF m 234 #[.val (.int p0), .val (.int p1), .val (.int p2), .val (.int p3), .val (.int p4), .val (.int a1), .val (.int a2), .val (.int la), .val (.int (p4 &&& (3 : Int32))), .val (.int bc1), .val (.int bc2), .val (.int lb), .val (.int pA), .val (.int pB), .val (.int kd), .val (.ref b1), .val (.ref b9), .unset, .unset] [(.int la)])) (fun _ ks => XS.iload X9.here hx rfl (hb hby at_232) rfl ks) ?_
              refine Dn.by (U' := T9.setTop (mkF m 235 #[.val (.int p0), .val (.int p1), .val (.int p2), .val (.int p3), .val (.int p4), .val (.int a1), .val (.int a2), .val (.int la), .val (.int (p4 &&& (3 : Int32))), .val (.int bc1), .val (.int bc2), .val (.int lb), .val (.int pA), .val (.int pB), .val (.int kd), .val (.ref b1), .val (.ref b9), .unset, .unset] [(.int (1 : Int32)), (.int la)])) (fun _ ks => XS.iconst X9.here hx rfl (hb hby at_234)  ks) ?_
              by_cases c235_13 : la = (1 : Int32)
              ·
                refine Dn.by (U' := T9.setTop (mkF m 245 #[.val (.int p0), .val (.int p1), .val (.int p2), .val (.int p3), .val (.int p4), .val (.int a1), .val (.int a2), .val (.int la), .val (.int (p4 &&& (3 : Int32))), .val (.int bc1), .val (.int bc2), .val (.int lb), .val (.int pA), .val (.int pB), .val (.int kd), .val (.ref b1), .val (.ref b9), .unset, .unset] [])) (fun _ ks => XS.icmpYes X9.here hx rfl (pc0 := 235) (pc' := 245) rfl (hb hby at_235) rfl (teq c235_13).1 (by decide) (by decide) ks) ?_
                refine Dn.by (U' := T9.setTop (mkF m 246 #[.val (.int p0), .val (.int p1), .val (.int p2), .val (.int p3), .val (.int p4), .val (.int a1), .val (.int a2), .val (.int la), .val (.int (p4 &&& (3 : Int32))), .val (.int bc1), .val (.int bc2), .val (.int lb), .val (.int pA), .val (.int pB), .val (.int kd), .val (.ref b1), .val (.ref b9), .unset, .unset] [(.int (1 : Int32))])) (fun _ ks => XS.iconst X9.here hx rfl (hb hby at_245)  ks) ?_
                refine Dn.by (U' := T9.setTop (mkF m 250 #[.val (.int p0), .val (.int p1), .val (.int p2), .val (.int p3), .val (.int p4), .val (.int a1), .val (.int a2), .val (.int la), .val (.int (p4 &&& (3 : Int32))), .val (.int bc1), .val (.int bc2), .val (.int lb), .val (.int pA), .val (.int pB), .val (.int kd), .val (.ref b1), .val (.ref b9), .unset, .unset] [(.int (1 : Int32))])) (fun _ ks => XS.goto X9.here hx rfl (pc0 := 246) (pc' := 250) rfl (hb hby at_246) (by decide) (by decide) ks) ?_
                refine Dn.by (U' := T9.setTop (mkF m 252 #[.val (.int p0), .val (.int p1), .val (.int p2), .val (.int p3), .val (.int p4), .val (.int a1), .val (.int a2), .val (.int la), .val (.int (p4 &&& (3 : Int32))), .val (.int bc1), .val (.int bc2), .val (.int lb), .val (.int pA), .val (.int pB), .val (.int kd), .val (.ref b1), .val (.ref b9), .val (.int (1 : Int32)), .unset] [])) (fun _ ks => XS.istore X9.here hx rfl (hb hby at_250) rfl (l' := #[.val (.int p0), .val (.int p1), .val (.int p2), .val (.int p3), .val (.int p4), .val (.int a1), .val (.int a2), .val (.int la), .val (.int (p4 &&& (3 : Int32))), .val (.int bc1), .val (.int bc2), .val (.int lb), .val (.int pA), .val (.int pB), .val (.int kd), .val (.ref b1), .val (.ref b9), .val (.int (1 : Int32)), .unset]) rfl ks) ?_
                refine Dn.by (U' := T9.setTop (mkF m 254 #[.val (.int p0), .val (.int p1), .val (.int p2), .val (.int p3), .val (.int p4), .val (.int a1), .val (.int a2), .val (.int la), .val (.int (p4 &&& (3 : Int32))), .val (.int bc1), .val (.int bc2), .val (.int lb), .val (.int pA), .val (.int pB), .val (.int kd), .val (.ref b1), .val (.ref b9), .val (.int (1 : Int32)), .unset] [(.int kd)])) (fun _ ks => XS.iload X9.here hx rfl (hb hby at_252) rfl ks) ?_
                refine Dn.by (U' := T9.setTop (mkF m 255 #[.val (.int p0), .val (.int p1), .val (.int p2), .val (.int p3), .val (.int p4), .val (.int a1), .val (.int a2), .val (.int la), .val (.int (p4 &&& (3 : Int32))), .val (.int bc1), .val (.int bc2), .val (.int lb), .val (.int pA), .val (.int pB), .val (.int kd), .val (.ref b1), .val (.ref b9), .val (.int (1 : Int32)), .unset] [(.int (1 : Int32)), (.int kd)])) (fun _ ks => XS.iconst X9.here hx rfl (hb hby at_254)  ks) ?_
                refine Dn.by (U' := T9.setTop (mkF m 274 #[.val (.int p0), .val (.int p1), .val (.int p2), .val (.int p3), .val (.int p4), .val (.int a1), .val (.int a2), .val (.int la), .val (.int (p4 &&& (3 : Int32))), .val (.int bc1), .val (.int bc2), .val (.int lb), .val (.int pA), .val (.int pB), .val (.int kd), .val (.ref b1), .val (.ref b9), .val (.int (1 : Int32)), .unset] [])) (fun _ ks => XS.icmpYes X9.here hx rfl (pc0 := 255) (pc' := 274) rfl (hb hby at_255) rfl (tlt c169_7).2.2.1 (by decide) (by decide) ks) ?_
                refine Dn.by (U' := T9.setTop (mkF m 275 #[.val (.int p0), .val (.int p1), .val (.int p2), .val (.int p3), .val (.int p4), .val (.int a1), .val (.int a2), .val (.int la), .val (.int (p4 &&& (3 : Int32))), .val (.int bc1), .val (.int bc2), .val (.int lb), .val (.int pA), .val (.int pB), .val (.int kd), .val (.ref b1), .val (.ref b9), .val (.int (1 : Int32)), .unset] [(.int (0 : Int32))])) (fun _ ks => XS.iconst X9.here hx rfl (hb hby at_274)  ks) ?_
                refine Dn.by (U' := T9.setTop (mkF m 277 #[.val (.int p0), .val (.int p1), .val (.int p2), .val (.int p3), .val (.int p4), .val (.int a1), .val (.int a2), .val (.int la), .val (.int (p4 &&& (3 : Int32))), .val (.int bc1), .val (.int bc2), .val (.int lb), .val (.int pA), .val (.int pB), .val (.int kd), .val (.ref b1), .val (.ref b9), .val (.int (1 : Int32)), .val (.int (0 : Int32))] [])) (fun _ ks => XS.istore X9.here hx rfl (hb hby at_275) rfl (l' := #[.val (.int p0), .val (.int p1), .val (.int p2), .val (.int p3), .val (.int p4), .val (.int a1), .val (.int a2), .val (.int la), .val (.int (p4 &&& (3 : Int32))), .val (.int bc1), .val (.int bc2), .val (.int lb), .val (.int pA), .val (.int pB), .val (.int kd), .val (.ref b1), .val (.ref b9), .val (.int (1 : Int32)), .val (.int (0 : Int32))]) rfl ks) ?_
                refine Dn.by (U' := T9.setTop (mkF m 279 #[.val (.int p0), .val (.int p1), .val (.int p2), .val (.int p3), .val (.int p4), .val (.int a1), .val (.int a2), .val (.int la), .val (.int (p4 &&& (3 : Int32))), .val (.int bc1), .val (.int bc2), .val (.int lb), .val (.int pA), .val (.int pB), .val (.int kd), .val (.ref b1), .val (.ref b9), .val (.int (1 : Int32)), .val (.int (0 : Int32))] [(.ref b1)])) (fun _ ks => XS.aload X9.here hx rfl (hb hby at_277) rfl rfl ks) ?_
                refine Dn.by (U' := T9.setTop (mkF m 281 #[.val (.int p0), .val (.int p1), .val (.int p2), .val (.int p3), .val (.int p4), .val (.int a1), .val (.int a2), .val (.int la), .val (.int (p4 &&& (3 : Int32))), .val (.int bc1), .val (.int bc2), .val (.int lb), .val (.int pA), .val (.int pB), .val (.int kd), .val (.ref b1), .val (.ref b9), .val (.int (1 : Int32)), .val (.int (0 : Int32))] [(.ref b9), (.ref b1)])) (fun _ ks => XS.aload X9.here hx rfl (hb hby at_279) rfl rfl ks) ?_
                obtain ⟨cq14, kq14, qa14, qb14, qc14⟩ := isOf hZ rfl (((A1.keep KK3).keep KK5).keep KK9)
                obtain ⟨_, _, ⟨T14, L14, k14, n14⟩, -, X14, ⟨Lc14, hQ14, l14, y14, z14⟩, st14⟩ := X9.virtualBack hx (y := (⟨"com/example/ferrywire/ferrywire/wire/HostPort", "equals", "(Ljava/lang/Object;)Z"⟩ : MethodName)) (z := (⟨"com/example/ferrywire/ferrywire/wire/HostPort", "equals", "(Ljava/lang/Object;)Z"⟩ : MethodName)) hown (mvT hZ (hw _ (List.mem_of_getElem? (i := 52) rfl))) (mvT hZ (hw _ (List.mem_of_getElem? (i := 53) rfl))) (notFace_of_selects (args := #[]) (mvT hZ (hw _ (List.mem_of_getElem? (i := 55) rfl)))) (mvT hZ (hw _ (List.mem_of_getElem? (i := 55) rfl))) (mvT hZ (hw _ (List.mem_of_getElem? (i := 54) rfl))) (by decide) (backOf (W := 0) (rm10s l Z a0 hw [] b1 b9  T9.heap n0 z10 EE9) hZ (hw _ (List.mem_of_getElem? (i := 56) rfl)) (hw _ (List.mem_of_getElem? (i := 3) rfl)) (by decide) (by decide)) qa14 qc14 (g := (mkF m 281 #[.val (.int p0), .val (.int p1), .val (.int p2), .val (.int p3), .val (.int p4), .val (.int a1), .val (.int a2), .val (.int la), .val (.int (p4 &&& (3 : Int32))), .val (.int bc1), .val (.int bc2), .val (.int lb), .val (.int pA), .val (.int pB), .val (.int kd), .val (.ref b1), .val (.ref b9), .val (.int (1 : Int32)), .val (.int (0 : Int32))] [(.ref b9), (.ref b1)])) rfl (by rw [hml]; rfl) (Steps.refl _) (argsL := [(.ref b9)]) (rest := []) (lenOf pd2 rfl) rfl (by show 2 * 0 + _ ≤ _; exact Nat.le_of_eq rfl) (hb hby at_281) (fun _ _ => ⟨rfl, rfl, (by decide : 7 + 0 ≤ _), (by decide : 18 + 0 ≤ _)⟩)
                dsimp only [Pt.U, Pt.locs, Pt.cells, Pt.slots] at X14 l14 y14 z14 st14 hQ14
                rw [l14, y14, z14] at X14
                obtain ⟨rfl, N14q, e14⟩ := hQ14
                have N14 := Fr.app N9 N14q
                refine Dn.by (U' := T14.setTop (mkF m 284 #[.val (.int p0), .val (.int p1), .val (.int p2), .val (.int p3), .val (.int p4), .val (.int a1), .val (.int a2), .val (.int la), .val (.int (p4 &&& (3 : Int32))), .val (.int bc1), .val (.int bc2), .val (.int lb), .val (.int pA), .val (.int pB), .val (.int kd), .val (.ref b1), .val (.ref b9), .val (.int (1 : Int32)), .val (.int (0 : Int32))] [(.int (0 : Int32))])) (fun _ ks => st14.trans ks) ?_
                refine Dn.by (U' := T14.setTop (mkF m 286 #[.val (.int p0), .val (.int p1), .val (.int p2), .val (.int p3), .val (.int p4), .val (.int a1), .val (.int a2), .val (.int la), .val (.int (p4 &&& (3 : Int32))), .val (.int bc1), .val (.int bc2), .val (.int lb), .val (.int pA), .val (.int pB), .val (.int kd), .val (.ref b1), .val (.ref b9), .val (.int (1 : Int32)), .val (.int (0 : Int32))] [(.int (0 : Int32)), (.int (0 : Int32))])) (fun _ ks => XS.iload X14.here hx rfl (hb hby at_284) rfl ks) ?_
                refine Dn.by (U' := T14.setTop (mkF m 289 #[.val (.int p0), .val (.int p1), .val (.int p2), .val (.int p3), .val (.int p4), .val (.int a1), .val (.int a2), .val (.int la), .val (.int (p4 &&& (3 : Int32))), .val (.int bc1), .val (.int bc2), .val (.int lb), .val (.int pA), .val (.int pB), .val (.int kd), .val (.ref b1), .val (.ref b9), .val (.int (1 : Int32)), .val (.int (0 : Int32))] [])) (fun _ ks => XS.icmpNo X14.here hx rfl (hb hby at_286) rfl (by decide) ks) ?_
                refine Dn.by (U' := T14.setTop (mkF m 290 #[.val (.int p0), .val (.int p1), .val (.int p2), .val (.int p3), .val (.int p4), .val (.int a1), .val (.int a2), .val (.int la), .val (.int (p4 &&& (3 : Int32))), .val (.int bc1), .val (.int bc2), .val (.int lb), .val (.int pA), .val (.int pB), .val (.int kd), .val (.ref b1), .val (.ref b9), .val (.int (1 : Int32)), .val (.int (0 : Int32))] [(.int (1 : Int32))])) (fun _ ks => XS.iconst X14.here hx rfl (hb hby at_289)  ks) ?_
                refine Dn.by (U' := T14.setTop (mkF m 294 #[.val (.int p0), .val (.int p1), .val (.int p2), .val (.int p3), .val (.int p4), .val (.int a1), .val (.int a2), .val (.int la), .val (.int (p4 &&& (3 : Int32))), .val (.int bc1), .val (.int bc2), .val (.int lb), .val (.int pA), .val (.int pB), .val (.int kd), .val (.ref b1), .val (.ref b9), .val (.int (1 : Int32)), .val (.int (0 : Int32))] [(.int (1 : Int32))])) (fun _ ks => XS.goto X14.here hx rfl (pc0 := 290) (pc' := 294) rfl (hb hby at_290) (by decide) (by decide) ks) ?_
                refine Dn.out X14 (v := (some (.int (1 : Int32)))) (fun h => by rw [Bd.returns] at h; cases h) (BodyLoose.notSynchronized Bd) (fun _ hr => retN X14 hx (t := .boolean) Bd.returns (by simp) (hb hby at_294) hr) (by decide) (by decide) ?_
                rw [e14]
                exact ⟨rfl, N14⟩
              ·
                refine Dn.by (U' := T9.setTop (mkF m 238 #[.val (.int p0), .val (.int p1), .val (.int p2), .val (.int p3), .val (.int p4), .val (.int a1), .val (.int a2), .val (.int la), .val (.int (p4 &&& (3 : Int32))), .val (.int bc1), .val (.int bc2), .val (.int lb), .val (.int pA), .val (.int pB), .val (.int kd), .val (.ref b1), .val (.ref b9), .unset, .unset] [])) (fun _ ks => XS.icmpNo X9.here hx rfl (hb hby at_235) rfl (feq c235_13).1 ks) ?_
                refine Dn.by (U' := T9.setTop (mkF m 240 #[.val (.int p0), .val (.int p1), .val (.int p2), .val (.int p3), .val (.int p4), .val (.int a1), .val (.int a2), .val (.int la), .val (.int (p4 &&& (3 : Int32))), .val (.int bc1), .val (.int bc2), .val (.int lb), .val (.int pA), .val (.int pB), .val (.int kd), .val (.ref b1), .val (.ref b9), .unset, .unset] [(.int a2)])) (fun _ ks => XS.iload X9.here hx rfl (hb hby at_238) rfl ks) ?_
                refine Dn.by (U' := T9.setTop (mkF m 242 #[.val (.int p0), .val (.int p1), .val (.int p2), .val (.int p3), .val (.int p4), .val (.int a1), .val (.int a2), .val (.int la), .val (.int (p4 &&& (3 : Int32))), .val (.int bc1), .val (.int bc2), .val (.int lb), .val (.int pA), .val (.int pB), .val (.int kd), .val (.ref b1), .val (.ref b9), .unset, .unset] [(.int bc2), (.int a2)])) (fun _ ks => XS.iload X9.here hx rfl (hb hby at_240) rfl ks) ?_
                by_cases c242_15 : a2 = bc2
                ·
                  refine Dn.by (U' := T9.setTop (mkF m 245 #[.val (.int p0), .val (.int p1), .val (.int p2), .val (.int p3), .val (.int p4), .val (.int a1), .val (.int a2), .val (.int la), .val (.int (p4 &&& (3 : Int32))), .val (.int bc1), .val (.int bc2), .val (.int lb), .val (.int pA), .val (.int pB), .val (.int kd), .val (.ref b1), .val (.ref b9), .unset, .unset] [])) (fun _ ks => XS.icmpNo X9.here hx rfl (hb hby at_242) rfl (teq c242_15).2 ks) ?_
                  refine Dn.by (U' := T9.setTop (mkF m 246 #[.val (.int p0), .val (.int p1), .val (.int p2), .val (.int p3), .val (.int p4), .val (.int a1), .val (.int a2), .val (.int la), .val (.int (p4 &&& (3 : Int32))), .val (.int bc1), .val (.int bc2), .val (.int lb), .val (.int pA), .val (.int pB), .val (.int kd), .val (.ref b1), .val (.ref b9), .unset, .unset] [(.int (1 : Int32))])) (fun _ ks => XS.iconst X9.here hx rfl (hb hby at_245)  ks) ?_
                  refine Dn.by (U' := T9.setTop (mkF m 250 #[.val (.int p0), .val (.int p1), .val (.int p2), .val (.int p3), .val (.int p4), .val (.int a1), .val (.int a2), .val (.int la), .val (.int (p4 &&& (3 : Int32))), .val (.int bc1), .val (.int bc2), .val (.int lb), .val (.int pA), .val (.int pB), .val (.int kd), .val (.ref b1), .val (.ref b9), .unset, .unset] [(.int (1 : Int32))])) (fun _ ks => XS.goto X9.here hx rfl (pc0 := 246) (pc' := 250) rfl (hb hby at_246) (by decide) (by decide) ks) ?_
                  refine Dn.by (U' := T9.setTop (mkF m 252 #[.val (.int p0), .val (.int p1), .val (.int p2), .val (.int p3), .val (.int p4), .val (.int a1), .val (.int a2), .val (.int la), .val (.int (p4 &&& (3 : Int32))), .val (.int bc1), .val (.int bc2), .val (.int lb), .val (.int pA), .val (.int pB), .val (.int kd), .val (.ref b1), .val (.ref b9), .val (.int (1 : Int32)), .unset] [])) (fun _ ks => XS.istore X9.here hx rfl (hb hby at_250) rfl (l' := #[.val (.int p0), .val (.int p1), .val (.int p2), .val (.int p3), .val (.int p4), .val (.int a1), .val (.int a2), .val (.int la), .val (.int (p4 &&& (3 : Int32))), .val (.int bc1), .val (.int bc2), .val (.int lb), .val (.int pA), .val (.int pB), .val (.int kd), .val (.ref b1), .val (.ref b9), .val (.int (1 : Int32)), .unset]) rfl ks) ?_
                  refine Dn.by (U' := T9.setTop (mkF m 254 #[.val (.int p0), .val (.int p1), .val (.int p2), .val (.int p3), .val (.int p4), .val (.int a1), .val (.int a2), .val (.int la), .val (.int (p4 &&& (3 : Int32))), .val (.int bc1), .val (.int bc2), .val (.int lb), .val (.int pA), .val (.int pB), .val (.int kd), .val (.ref b1), .val (.ref b9), .val (.int (1 : Int32)), .unset] [(.int kd)])) (fun _ ks => XS.iload X9.here hx rfl (hb hby at_252) rfl ks) ?_
                  refine Dn.by (U' := T9.setTop (mkF m 255 #[.val (.int p0), .val (.int p1), .val (.int p2), .val (.int p3), .val (.int p4), .val (.int a1), .val (.int a2), .val (.int la), .val (.int (p4 &&& (3 : Int32))), .val (.int bc1), .val (.int bc2), .val (.int lb), .val (.int pA), .val (.int pB), .val (.int kd), .val (.ref b1), .val (.ref b9), .val (.int (1 : Int32)), .unset] [(.int (1 : Int32)), (.int kd)])) (fun _ ks => XS.iconst X9.here hx rfl (hb hby at_254)  ks) ?_
                  refine Dn.by (U' := T9.setTop (mkF m 274 #[.val (.int p0), .val (.int p1), .val (.int p2), .val (.int p3), .val (.int p4), .val (.int a1), .val (.int a2), .val (.int la), .val (.int (p4 &&& (3 : Int32))), .val (.int bc1), .val (.int bc2), .val (.int lb), .val (.int pA), .val (.int pB), .val (.int kd), .val (.ref b1), .val (.ref b9), .val (.int (1 : Int32)), .unset] [])) (fun _ ks => XS.icmpYes X9.here hx rfl (pc0 := 255) (pc' := 274) rfl (hb hby at_255) rfl (tlt c169_7).2.2.1 (by decide) (by decide) ks) ?_
                  refine Dn.by (U' := T9.setTop (mkF m 275 #[.val (.int p0), .val (.int p1), .val (.int p2), .val (.int p3), .val (.int p4), .val (.int a1), .val (.int a2), .val (.int la), .val (.int (p4 &&& (3 : Int32))), .val (.int bc1), .val (.int bc2), .val (.int lb), .val (.int pA), .val (.int pB), .val (.int kd), .val (.ref b1), .val (.ref b9), .val (.int (1 : Int32)), .unset] [(.int (0 : Int32))])) (fun _ ks => XS.iconst X9.here hx rfl (hb hby at_274)  ks) ?_
                  refine Dn.by (U' := T9.setTop (mkF m 277 #[.val (.int p0), .val (.int p1), .val (.int p2), .val (.int p3), .val (.int p4), .val (.int a1), .val (.int a2), .val (.int la), .val (.int (p4 &&& (3 : Int32))), .val (.int bc1), .val (.int bc2), .val (.int lb), .val (.int pA), .val (.int pB), .val (.int kd), .val (.ref b1), .val (.ref b9), .val (.int (1 : Int32)), .val (.int (0 : Int32))] [])) (fun _ ks => XS.istore X9.here hx rfl (hb hby at_275) rfl (l' := #[.val (.int p0), .val (.int p1), .val (.int p2), .val (.int p3), .val (.int p4), .val (.int a1), .val (.int a2), .val (.int la), .val (.int (p4 &&& (3 : Int32))), .val (.int bc1), .val (.int bc2), .val (.int lb), .val (.int pA), .val (.int pB), .val (.int kd), .val (.ref b1), .val (.ref b9), .val (.int (1 : Int32)), .val (.int (0 : Int32))]) rfl ks) ?_
                  refine Dn.by (U' := T9.setTop (mkF m 279 #[.val (.int p0), .val (.int p1), .val (.int p2), .val (.int p3), .val (.int p4), .val (.int a1), .val (.int a2), .val (.int la), .val (.int (p4 &&& (3 : Int32))), .val (.int bc1), .val (.int bc2), .val (.int lb), .val (.int pA), .val (.int pB), .val (.int kd), .val (.ref b1), .val (.ref b9), .val (.int (1 : Int32)), .val (.int (0 : Int32))] [(.ref b1)])) (fun _ ks => XS.aload X9.here hx rfl (hb hby at_277) rfl rfl ks) ?_
                  refine Dn.by (U' := T9.setTop (mkF m 281 #[.val (.int p0), .val (.int p1), .val (.int p2), .val (.int p3), .val (.int p4), .val (.int a1), .val (.int a2), .val (.int la), .val (.int (p4 &&& (3 : Int32))), .val (.int bc1), .val (.int bc2), .val (.int lb), .val (.int pA), .val (.int pB), .val (.int kd), .val (.ref b1), .val (.ref b9), .val (.int (1 : Int32)), .val (.int (0 : Int32))] [(.ref b9), (.ref b1)])) (fun _ ks => XS.aload X9.here hx rfl (hb hby at_279) rfl rfl ks) ?_
                  obtain ⟨cq16, kq16, qa16, qb16, qc16⟩ := isOf hZ rfl (((A1.keep KK3).keep KK5).keep KK9)
                  obtain ⟨_, _, ⟨T16, L16, k16, n16⟩, -, X16, ⟨Lc16, hQ16, l16, y16, z16⟩, st16⟩ := X9.virtualBack hx (y := (⟨"com/example/ferrywire/ferrywire/wire/HostPort", "equals", "(Ljava/lang/Object;)Z"⟩ : MethodName)) (z := (⟨"com/example/ferrywire/ferrywire/wire/HostPort", "equals", "(Ljava/lang/Object;)Z"⟩ : MethodName)) hown (mvT hZ (hw _ (List.mem_of_getElem? (i := 52) rfl))) (mvT hZ (hw _ (List.mem_of_getElem? (i := 53) rfl))) (notFace_of_selects (args := #[]) (mvT hZ (hw _ (List.mem_of_getElem? (i := 55) rfl)))) (mvT hZ (hw _ (List.mem_of_getElem? (i := 55) rfl))) (mvT hZ (hw _ (List.mem_of_getElem? (i := 54) rfl))) (by decide) (backOf (W := 0) (rm10s l Z a0 hw [] b1 b9  T9.heap n0 z10 EE9) hZ (hw _ (List.mem_of_getElem? (i := 56) rfl)) (hw _ (List.mem_of_getElem? (i := 3) rfl)) (by decide) (by decide)) qa16 qc16 (g := (mkF m 281 #[.val (.int p0), .val (.int p1), .val (.int p2), .val (.int p3), .val (.int p4), .val (.int a1), .val (.int a2), .val (.int la), .val (.int (p4 &&& (3 : Int32))), .val (.int bc1), .val (.int bc2), .val (.int lb), .val (.int pA), .val (.int pB), .val (.int kd), .val (.ref b1), .val (.ref b9), .val (.int (1 : Int32)), .val (.int (0 : Int32))] [(.ref b9), (.ref b1)])) rfl (by rw [hml]; rfl) (Steps.refl _) (argsL := [(.ref b9)]) (rest := []) (lenOf pd2 rfl) rfl (by show 2 * 0 + _ ≤ _; exact Nat.le_of_eq rfl) (hb hby at_281) (fun _ _ => ⟨rfl, rfl, (by decide : 7 + 0 ≤ _), (by decide : 18 + 0 ≤ _)⟩)
                  dsimp only [Pt.U, Pt.locs, Pt.cells, Pt.slots] at X16 l16 y16 z16 st16 hQ16
                  rw [l16, y16, z16] at X16
                  obtain ⟨rfl, N16q, e16⟩ := hQ16
                  have N16 := Fr.app N9 N16q
                  refine Dn.by (U' := T16.setTop (mkF m 284 #[.val (.int p0), .val (.int p1), .val (.int p2), .val (.int p3), .val (.int p4), .val (.int a1), .val (.int a2), .val (.int la), .val (.int (p4 &&& (3 : Int32))), .val (.int bc1), .val (.int bc2), .val (.int lb), .val (.int pA), .val (.int pB), .val (.int kd), .val (.ref b1), .val (.ref b9), .val (.int (1 : Int32)), .val (.int (0 : Int32))] [(.int (0 : Int32))])) (fun _ ks => st16.trans ks) ?_
                  refine Dn.by (U' := T16.setTop (mkF m 286 #[.val (.int p0), .val (.int p1), .val (.int p2), .val (.int p3), .val (.int p4), .val (.int a1), .val (.int a2), .val (.int la), .val (.int (p4 &&& (3 : Int32))), .val (.int bc1), .val (.int bc2), .val (.int lb), .val (.int pA), .val (.int pB), .val (.int kd), .val (.ref b1), .val (.ref b9), .val (.int (1 : Int32)), .val (.int (0 : Int32))] [(.int (0 : Int32)), (.int (0 : Int32))])) (fun _ ks => XS.iload X16.here hx rfl (hb hby at_284) rfl ks) ?_
                  refine Dn.by (U' := T16.setTop (mkF m 289 #[.val (.int p0), .val (.int p1), .val (.int p2), .val (.int p3), .val (.int p4), .val (.int a1), .val (.int a2), .val (.int la), .val (.int (p4 &&& (3 : Int32))), .val (.int bc1), .val (.int bc2), .val (.int lb), .val (.int pA), .val (.int pB), .val (.int kd), .val (.ref b1), .val (.ref b9), .val (.int (1 : Int32)), .val (.int (0 : Int32))] [])) (fun _ ks => XS.icmpNo X16.here hx rfl (hb hby at_286) rfl (by decide) ks) ?_
                  refine Dn.by (U' := T16.setTop (mkF m 290 #[.val (.int p0), .val (.int p1), .val (.int p2), .val (.int p3), .val (.int p4), .val (.int a1), .val (.int a2), .val (.int la), .val (.int (p4 &&& (3 : Int32))), .val (.int bc1), .val (.int bc2), .val (.int lb), .val (.int pA), .val (.int pB), .val (.int kd), .val (.ref b1), .val (.ref b9), .val (.int (1 : Int32)), .val (.int (0 : Int32))] [(.int (1 : Int32))])) (fun _ ks => XS.iconst X16.here hx rfl (hb hby at_289)  ks) ?_
                  refine Dn.by (U' := T16.setTop (mkF m 294 #[.val (.int p0), .val (.int p1), .val (.int p2), .val (.int p3), .val (.int p4), .val (.int a1), .val (.int a2), .val (.int la), .val (.int (p4 &&& (3 : Int32))), .val (.int bc1), .val (.int bc2), .val (.int lb), .val (.int pA), .val (.int pB), .val (.int kd), .val (.ref b1), .val (.ref b9), .val (.int (1 : Int32)), .val (.int (0 : Int32))] [(.int (1 : Int32))])) (fun _ ks => XS.goto X16.here hx rfl (pc0 := 290) (pc' := 294) rfl (hb hby at_290) (by decide) (by decide) ks) ?_
                  refine Dn.out X16 (v := (some (.int (1 : Int32)))) (fun h => by rw [Bd.returns] at h; cases h) (BodyLoose.notSynchronized Bd) (fun _ hr => retN X16 hx (t := .boolean) Bd.returns (by simp) (hb hby at_294) hr) (by decide) (by decide) ?_
                  rw [e16]
                  exact ⟨rfl, N16⟩
                ·
                  refine Dn.by (U' := T9.setTop (mkF m 249 #[.val (.int p0), .val (.int p1), .val (.int p2), .val (.int p3), .val (.int p4), .val (.int a1), .val (.int a2), .val (.int la), .val (.int (p4 &&& (3 : Int32))), .val (.int bc1), .val (.int bc2), .val (.int lb), .val (.int pA), .val (.int pB), .val (.int kd), .val (.ref b1), .val (.ref b9), .unset, .unset] [])) (fun _ ks => XS.icmpYes X9.here hx rfl (pc0 := 242) (pc' := 249) rfl (hb hby at_242) rfl (feq c242_15).2 (by decide) (by decide) ks) ?_
                  refine Dn.by (U' := T9.setTop (mkF m 250 #[.val (.int p0), .val (.int p1), .val (.int p2), .val (.int p3), .val (.int p4), .val (.int a1), .val (.int a2), .val (.int la), .val (.int (p4 &&& (3 : Int32))), .val (.int bc1), .val (.int bc2), .val (.int lb), .val (.int pA), .val (.int pB), .val (.int kd), .val (.ref b1), .val (.ref b9), .unset, .unset] [(.int (0 : Int32))])) (fun _ ks => XS.iconst X9.here hx rfl (hb hby at_249)  ks) ?_
                  refine Dn.by (U' := T9.setTop (mkF m 252 #[.val (.int p0), .val (.int p1), .val (.int p2), .val (.int p3), .val (.int p4), .val (.int a1), .val (.int a2), .val (.int la), .val (.int (p4 &&& (3 : Int32))), .val (.int bc1), .val (.int bc2), .val (.int lb), .val (.int pA), .val (.int pB), .val (.int kd), .val (.ref b1), .val (.ref b9), .val (.int (0 : Int32)), .unset] [])) (fun _ ks => XS.istore X9.here hx rfl (hb hby at_250) rfl (l' := #[.val (.int p0), .val (.int p1), .val (.int p2), .val (.int p3), .val (.int p4), .val (.int a1), .val (.int a2), .val (.int la), .val (.int (p4 &&& (3 : Int32))), .val (.int bc1), .val (.int bc2), .val (.int lb), .val (.int pA), .val (.int pB), .val (.int kd), .val (.ref b1), .val (.ref b9), .val (.int (0 : Int32)), .unset]) rfl ks) ?_
                  refine Dn.by (U' := T9.setTop (mkF m 254 #[.val (.int p0), .val (.int p1), .val (.int p2), .val (.int p3), .val (.int p4), .val (.int a1), .val (.int a2), .val (.int la), .val (.int (p4 &&& (3 : Int32))), .val (.int bc1), .val (.int bc2), .val (.int lb), .val (.int pA), .val (.int pB), .val (.int kd), .val (.ref b1), .val (.ref b9), .val (.int (0 : Int32)), .unset] [(.int kd)])) (fun _ ks => XS.iload X9.here hx rfl (hb hby at_252) rfl ks) ?_
                  refine Dn.by (U' := T9.setTop (mkF m 255 #[.val (.int p0), .val (.int p1), .val (.int p2), .val (.int p3), .val (.int p4), .val (.int a1), .val (.int a2), .val (.int la), .val (.int (p4 &&& (3 : Int32))), .val (.int bc1), .val (.int bc2), .val (.int lb), .val (.int pA), .val (.int pB), .val (.int kd), .val (.ref b1), .val (.ref b9), .val (.int (0 : Int32)), .unset] [(.int (1 : Int32)), (.int kd)])) (fun _ ks => XS.iconst X9.here hx rfl (hb hby at_254)  ks) ?_
                  refine Dn.by (U' := T9.setTop (mkF m 274 #[.val (.int p0), .val (.int p1), .val (.int p2), .val (.int p3), .val (.int p4), .val (.int a1), .val (.int a2), .val (.int la), .val (.int (p4 &&& (3 : Int32))), .val (.int bc1), .val (.int bc2), .val (.int lb), .val (.int pA), .val (.int pB), .val (.int kd), .val (.ref b1), .val (.ref b9), .val (.int (0 : Int32)), .unset] [])) (fun _ ks => XS.icmpYes X9.here hx rfl (pc0 := 255) (pc' := 274) rfl (hb hby at_255) rfl (tlt c169_7).2.2.1 (by decide) (by decide) ks) ?_
                  refine Dn.by (U' := T9.setTop (mkF m 275 #[.val (.int p0), .val (.int p1), .val (.int p2), .val (.int p3), .val (.int p4), .val (.int a1), .val (.int a2), .val (.int la), .val (.int (p4 &&& (3 : Int32))), .val (.int bc1), .val (.int bc2), .val (.int lb), .val (.int pA), .val (.int pB), .val (.int kd), .val (.ref b1), .val (.ref b9), .val (.int (0 : Int32)), .unset] [(.int (0 : Int32))])) (fun _ ks => XS.iconst X9.here hx rfl (hb hby at_274)  ks) ?_
                  refine Dn.by (U' := T9.setTop (mkF m 277 #[.val (.int p0), .val (.int p1), .val (.int p2), .val (.int p3), .val (.int p4), .val (.int a1), .val (.int a2), .val (.int la), .val (.int (p4 &&& (3 : Int32))), .val (.int bc1), .val (.int bc2), .val (.int lb), .val (.int pA), .val (.int pB), .val (.int kd), .val (.ref b1), .val (.ref b9), .val (.int (0 : Int32)), .val (.int (0 : Int32))] [])) (fun _ ks => XS.istore X9.here hx rfl (hb hby at_275) rfl (l' := #[.val (.int p0), .val (.int p1), .val (.int p2), .val (.int p3), .val (.int p4), .val (.int a1), .val (.int a2), .val (.int la), .val (.int (p4 &&& (3 : Int32))), .val (.int bc1), .val (.int bc2), .val (.int lb), .val (.int pA), .val (.int pB), .val (.int kd), .val (.ref b1), .val (.ref b9), .val (.int (0 : Int32)), .val (.int (0 : Int32))]) rfl ks) ?_
                  refine Dn.by (U' := T9.setTop (mkF m 279 #[.val (.int p0), .val (.int p1), .val (.int p2), .val (.int p3), .val (.int p4), .val (.int a1), .val (.int a2), .val (.int la), .val (.int (p4 &&& (3 : Int32))), .val (.int bc1), .val (.int bc2), .val (.int lb), .val (.int pA), .val (.int pB), .val (.int kd), .val (.ref b1), .val (.ref b9), .val (.int (0 : Int32)), .val (.int (0 : Int32))] [(.ref b1)])) (fun _ ks => XS.aload X9.here hx rfl (hb hby at_277) rfl rfl ks) ?_
                  refine Dn.by (U' := T9.setTop (mkF m 281 #[.val (.int p0), .val (.int p1), .val (.int p2), .val (.int p3), .val (.int p4), .val (.int a1), .val (.int a2), .val (.int la), .val (.int (p4 &&& (3 : Int32))), .val (.int bc1), .val (.int bc2), .val (.int lb), .val (.int pA), .val (.int pB), .val (.int kd), .val (.ref b1), .val (.ref b9), .val (.int (0 : Int32)), .val (.int (0 : Int32))] [(.ref b9), (.ref b1)])) (fun _ ks => XS.aload X9.here hx rfl (hb hby at_279) rfl rfl ks) ?_
                  obtain ⟨cq17, kq17, qa17, qb17, qc17⟩ := isOf hZ rfl (((A1.keep KK3).keep KK5).keep KK9)
                  obtain ⟨_, _, ⟨T17, L17, k17, n17⟩, -, X17, ⟨Lc17, hQ17, l17, y17, z17⟩, st17⟩ := X9.virtualBack hx (y := (⟨"com/example/ferrywire/ferrywire/wire/HostPort", "equals", "(Ljava/lang/Object;)Z"⟩ : MethodName)) (z := (⟨"com/example/ferrywire/ferrywire/wire/HostPort", "equals", "(Ljava/lang/Object;)Z"⟩ : MethodName)) hown (mvT hZ (hw _ (List.mem_of_getElem? (i := 52) rfl))) (mvT hZ (hw _ (List.mem_of_getElem? (i := 53) rfl))) (notFace_of_selects (args := #[]) (mvT hZ (hw _ (List.mem_of_getElem? (i := 55) rfl)))) (mvT hZ (hw _ (List.mem_of_getElem? (i := 55) rfl))) (mvT hZ (hw _ (List.mem_of_getElem? (i := 54) rfl))) (by decide) (backOf (W := 0) (rm10s l Z a0 hw [] b1 b9  T9.heap n0 z10 EE9) hZ (hw _ (List.mem_of_getElem? (i := 56) rfl)) (hw _ (List.mem_of_getElem? (i := 3) rfl)) (by decide) (by decide)) qa17 qc17 (g := (mkF m 281 #[.val (.int p0), .val (.int p1), .val (.int p2), .val (.int p3), .val (.int p4), .val (.int a1), .val (.int a2), .val (.int la), .val (.int (p4 &&& (3 : Int32))), .val (.int bc1), .val (.int bc2), .val (.int lb), .val (.int pA), .val (.int pB), .val (.int kd), .val (.ref b1), .val (.ref b9), .val (.int (0 : Int32)), .val (.int (0 : Int32))] [(.ref b9), (.ref b1)])) rfl (by rw [hml]; rfl) (Steps.refl _) (argsL := [(.ref b9)]) (rest := []) (lenOf pd2 rfl) rfl (by show 2 * 0 + _ ≤ _; exact Nat.le_of_eq rfl) (hb hby at_281) (fun _ _ => ⟨rfl, rfl, (by decide : 7 + 0 ≤ _), (by decide : 18 + 0 ≤ _)⟩)
                  dsimp only [Pt.U, Pt.locs, Pt.cells, Pt.slots] at X17 l17 y17 z17 st17 hQ17
                  rw [l17, y17, z17] at X17
                  obtain ⟨rfl, N17q, e17⟩ := hQ17
                  have N17 := Fr.app N9 N17q
                  refine Dn.by (U' := T17.setTop (mkF m 284 #[.val (.int p0), .val (.int p1), .val (.int p2), .val (.int p3), .val (.int p4), .val (.int a1), .val (.int a2), .val (.int la), .val (.int (p4 &&& (3 : Int32))), .val (.int bc1), .val (.int bc2), .val (.int lb), .val (.int pA), .val (.int pB), .val (.int kd), .val (.ref b1), .val (.ref b9), .val (.int (0 : Int32)), .val (.int (0 : Int32))] [(.int (0 : Int32))])) (fun _ ks => st17.trans ks) ?_
                  refine Dn.by (U' := T17.setTop (mkF m 286 #[.val (.int p0), .val (.int p1), .val (.int p2), .val (.int p3), .val (.int p4), .val (.int a1), .val (.int a2), .val (.int la), .val (.int (p4 &&& (3 : Int32))), .val (.int bc1), .val (.int bc2), .val (.int lb), .val (.int pA), .val (.int pB), .val (.int kd), .val (.ref b1), .val (.ref b9), .val (.int (0 : Int32)), .val (.int (0 : Int32))] [(.int (0 : Int32)), (.int (0 : Int32))])) (fun _ ks => XS.iload X17.here hx rfl (hb hby at_284) rfl ks) ?_
                  refine Dn.by (U' := T17.setTop (mkF m 289 #[.val (.int p0), .val (.int p1), .val (.int p2), .val (.int p3), .val (.int p4), .val (.int a1), .val (.int a2), .val (.int la), .val (.int (p4 &&& (3 : Int32))), .val (.int bc1), .val (.int bc2), .val (.int lb), .val (.int pA), .val (.int pB), .val (.int kd), .val (.ref b1), .val (.ref b9), .val (.int (0 : Int32)), .val (.int (0 : Int32))] [])) (fun _ ks => XS.icmpNo X17.here hx rfl (hb hby at_286) rfl (by decide) ks) ?_
                  refine Dn.by (U' := T17.setTop (mkF m 290 #[.val (.int p0), .val (.int p1), .val (.int p2), .val (.int p3), .val (.int p4), .val (.int a1), .val (.int a2), .val (.int la), .val (.int (p4 &&& (3 : Int32))), .val (.int bc1), .val (.int bc2), .val (.int lb), .val (.int pA), .val (.int pB), .val (.int kd), .val (.ref b1), .val (.ref b9), .val (.int (0 : Int32)), .val (.int (0 : Int32))] [(.int (1 : Int32))])) (fun _ ks => XS.iconst X17.here hx rfl (hb hby at_289)  ks) ?_
                  refine Dn.by (U' := T17.setTop (mkF m 294 #[.val (.int p0), .val (.int p1), .val (.int p2), .val (.int p3), .val (.int p4), .val (.int a1), .val (.int a2), .val (.int la), .val (.int (p4 &&& (3 : Int32))), .val (.int bc1), .val (.int bc2), .val (.int lb), .val (.int pA), .val (.int pB), .val (.int kd), .val (.ref b1), .val (.ref b9), .val (.int (0 : Int32)), .val (.int (0 : Int32))] [(.int (1 : Int32))])) (fun _ ks => XS.goto X17.here hx rfl (pc0 := 290) (pc' := 294) rfl (hb hby at_290) (by decide) (by decide) ks) ?_
                  refine Dn.out X17 (v := (some (.int (1 : Int32)))) (fun h => by rw [Bd.returns] at h; cases h) (BodyLoose.notSynchronized Bd) (fun _ hr => retN X17 hx (t := .boolean) Bd.returns (by simp) (hb hby at_294) hr) (by decide) (by decide) ?_
                  rw [e17]
                  exact ⟨rfl, N17⟩
            ·
              refine Dn.by (U' := T9.setTop (mkF m 249 #[.val (.int p0), .val (.int p1), .val (.int p2), .val (.int p3), .val (.int p4), .val (.int a1), .val (.int a2), .val (.int la), .val (.int (p4 &&& (3 : Int32))), .val (.int bc1), .val (.int bc2), .val (.int lb), .val (.int pA), .val (.int pB), .val (.int kd), .val (.ref b1), .val (.ref b9), .unset, .unset] [])) (fun _ ks => XS.icmpYes X9.here hx rfl (pc0 := 229) (pc' := 249) rfl (hb hby at_229) rfl (feq c229_12).2 (by decide) (by decide) ks) ?_
              refine Dn.by (U' := T9.setTop (mkF m 250 #[.val (.int p0), .val (.int p1), .val (.int p2), .val (.int p3), .val (.int p4), .val (.int a1), .val (.int a2), .val (.int la), .val (.int (p4 &&& (3 : Int32))), .val (.int bc1), .val (.int bc2), .val (.int lb), .val (.int pA), .val (.int pB), .val (.int kd), .val (.ref b1), .val (.ref b9), .unset, .unset] [(.int (0 : Int32))])) (fun _ ks => XS.iconst X9.here hx rfl (hb hby at_249)  ks) ?_
              refine Dn.by (U' := T9.setTop (mkF m 252 #[.val (.int p0), .val (.int p1), .val (.int p2), .val (.int p3), .val (.int p4), .val (.int a1), .val (.int a2), .val (.int la), .val (.int (p4 &&& (3 : Int32))), .val (.int bc1), .val (.int bc2), .val (.int lb), .val (.int pA), .val (.int pB), .val (.int kd), .val (.ref b1), .val (.ref b9), .val (.int (0 : Int32)), .unset] [])) (fun _ ks => XS.istore X9.here hx rfl (hb hby at_250) rfl (l' := #[.val (.int p0), .val (.int p1), .val (.int p2), .val (.int p3), .val (.int p4), .val (.int a1), .val (.int a2), .val (.int la), .val (.int (p4 &&& (3 : Int32))), .val (.int bc1), .val (.int bc2), .val (.int lb), .val (.int pA), .val (.int pB), .val (.int kd), .val (.ref b1), .val (.ref b9), .val (.int (0 : Int32)), .unset]) rfl ks) ?_
              refine Dn.by (U' := T9.setTop (mkF m 254 #[.val (.int p0), .val (.int p1), .val (.int p2), .val (.int p3), .val (.int p4), .val (.int a1), .val (.int a2), .val (.int la), .val (.int (p4 &&& (3 : Int32))), .val (.int bc1), .val (.int bc2), .val (.int lb), .val (.int pA), .val (.int pB), .val (.int kd), .val (.ref b1), .val (.ref b9), .val (.int (0 : Int32)), .unset] [(.int kd)])) (fun _ ks => XS.iload X9.here hx rfl (hb hby at_252) rfl ks) ?_
              refine Dn.by (U' := T9.setTop (mkF m 255 #[.val (.int p0), .val (.int p1), .val (.int p2), .val (.int p3), .val (.int p4), .val (.int a1), .val (.int a2), .val (.int la), .val (.int (p4 &&& (3 : Int32))), .val (.int bc1), .val (.int bc2), .val (.int lb), .val (.int pA), .val (.int pB), .val (.int kd), .val (.ref b1), .val (.ref b9), .val (.int (0 : Int32)), .unset] [(.int (1 : Int32)), (.int kd)])) (fun _ ks => XS.iconst X9.here hx rfl (hb hby at_254)  ks) ?_
              refine Dn.by (U' := T9.setTop (mkF m 274 #[.val (.int p0), .val (.int p1), .val (.int p2), .val (.int p3), .val (.int p4), .val (.int a1), .val (.int a2), .val (.int la), .val (.int (p4 &&& (3 : Int32))), .val (.int bc1), .val (.int bc2), .val (.int lb), .val (.int pA), .val (.int pB), .val (.int kd), .val (.ref b1), .val (.ref b9), .val (.int (0 : Int32)), .unset] [])) (fun _ ks => XS.icmpYes X9.here hx rfl (pc0 := 255) (pc' := 274) rfl (hb hby at_255) rfl (tlt c169_7).2.2.1 (by decide) (by decide) ks) ?_
              refine Dn.by (U' := T9.setTop (mkF m 275 #[.val (.int p0), .val (.int p1), .val (.int p2), .val (.int p3), .val (.int p4), .val (.int a1), .val (.int a2), .val (.int la), .val (.int (p4 &&& (3 : Int32))), .val (.int bc1), .val (.int bc2), .val (.int lb), .val (.int pA), .val (.int pB), .val (.int kd), .val (.ref b1), .val (.ref b9), .val (.int (0 : Int32)), .unset] [(.int (0 : Int32))])) (fun _ ks => XS.iconst X9.here hx rfl (hb hby at_274)  ks) ?_
              refine Dn.by (U' := T9.setTop (mkF m 277 #[.val (.int p0), .val (.int p1), .val (.int p2), .val (.int p3), .val (.int p4), .val (.int a1), .val (.int a2), .val (.int la), .val (.int (p4 &&& (3 : Int32))), .val (.int bc1), .val (.int bc2), .val (.int lb), .val (.int pA), .val (.int pB), .val (.int kd), .val (.ref b1), .val (.ref b9), .val (.int (0 : Int32)), .val (.int (0 : Int32))] [])) (fun _ ks => XS.istore X9.here hx rfl (hb hby at_275) rfl (l' := #[.val (.int p0), .val (.int p1), .val (.int p2), .val (.int p3), .val (.int p4), .val (.int a1), .val (.int a2), .val (.int la), .val (.int (p4 &&& (3 : Int32))), .val (.int bc1), .val (.int bc2), .val (.int lb), .val (.int pA), .val (.int pB), .val (.int kd), .val (.ref b1), .val (.ref b9), .val (.int (0 : Int32)), .val (.int (0 : Int32))]) rfl ks) ?_
              refine Dn.by (U' := T9.setTop (mkF m 279 #[.val (.int p0), .val (.int p1), .val (.int p2), .val (.int p3), .val (.int p4), .val (.int a1), .val (.int a2), .val (.int la), .val (.int (p4 &&& (3 : Int32))), .val (.int bc1), .val (.int bc2), .val (.int lb), .val (.int pA), .val (.int pB), .val (.int kd), .val (.ref b1), .val (.ref b9), .val (.int (0 : Int32)), .val (.int (0 : Int32))] [(.ref b1)])) (fun _ ks => XS.aload X9.here hx rfl (hb hby at_277) rfl rfl ks) ?_
              refine Dn.by (U' := T9.setTop (mkF m 281 #[.val (.int p0), .val (.int p1), .val (.int p2), .val (.int p3), .val (.int p4), .val (.int a1), .val (.int a2), .val (.int la), .val (.int (p4 &&& (3 : Int32))), .val (.int bc1), .val (.int bc2), .val (.int lb), .val (.int pA), .val (.int pB), .val (.int kd), .val (.ref b1), .val (.ref b9), .val (.int (0 : Int32)), .val (.int (0 : Int32))] [(.ref b9), (.ref b1)])) (fun _ ks => XS.aload X9.here hx rfl (hb hby at_279) rfl rfl ks) ?_
              obtain ⟨cq18, kq18, qa18, qb18, qc18⟩ := isOf hZ rfl (((A1.keep KK3).keep KK5).keep KK9)
              obtain ⟨_, _, ⟨T18, L18, k18, n18⟩, -, X18, ⟨Lc18, hQ18, l18, y18, z18⟩, st18⟩ := X9.virtualBack hx (y := (⟨"com/example/ferrywire/ferrywire/wire/HostPort", "equals", "(Ljava/lang/Object;)Z"⟩ : MethodName)) (z := (⟨"com/example/ferrywire/ferrywire/wire/HostPort", "equals", "(Ljava/lang/Object;)Z"⟩ : MethodName)) hown (mvT hZ (hw _ (List.mem_of_getElem? (i := 52) rfl))) (mvT hZ (hw _ (List.mem_of_getElem? (i := 53) rfl))) (notFace_of_selects (args := #[]) (mvT hZ (hw _ (List.mem_of_getElem? (i := 55) rfl)))) (mvT hZ (hw _ (List.mem_of_getElem? (i := 55) rfl))) (mvT hZ (hw _ (List.mem_of_getElem? (i := 54) rfl))) (by decide) (backOf (W := 0) (rm10s l Z a0 hw [] b1 b9  T9.heap n0 z10 EE9) hZ (hw _ (List.mem_of_getElem? (i := 56) rfl)) (hw _ (List.mem_of_getElem? (i := 3) rfl)) (by decide) (by decide)) qa18 qc18 (g := (mkF m 281 #[.val (.int p0), .val (.int p1), .val (.int p2), .val (.int p3), .val (.int p4), .val (.int a1), .val (.int a2), .val (.int la), .val (.int (p4 &&& (3 : Int32))), .val (.int bc1), .val (.int bc2), .val (.int lb), .val (.int pA), .val (.int pB), .val (.int kd), .val (.ref b1), .val (.ref b9), .val (.int (0 : Int32)), .val (.int (0 : Int32))] [(.ref b9), (.ref b1)])) rfl (by rw [hml]; rfl) (Steps.refl _) (argsL := [(.ref b9)]) (rest := []) (lenOf pd2 rfl) rfl (by show 2 * 0 + _ ≤ _; exact Nat.le_of_eq rfl) (hb hby at_281) (fun _ _ => ⟨rfl, rfl, (by decide : 7 + 0 ≤ _), (by decide : 18 + 0 ≤ _)⟩)
              dsimp only [Pt.U, Pt.locs, Pt.cells, Pt.slots] at X18 l18 y18 z18 st18 hQ18
              rw [l18, y18, z18] at X18
              obtain ⟨rfl, N18q, e18⟩ := hQ18
              have N18 := Fr.app N9 N18q
              refine Dn.by (U' := T18.setTop (mkF m 284 #[.val (.int p0), .val (.int p1), .val (.int p2), .val (.int p3), .val (.int p4), .val (.int a1), .val (.int a2), .val (.int la), .val (.int (p4 &&& (3 : Int32))), .val (.int bc1), .val (.int bc2), .val (.int lb), .val (.int pA), .val (.int pB), .val (.int kd), .val (.ref b1), .val (.ref b9), .val (.int (0 : Int32)), .val (.int (0 : Int32))] [(.int (0 : Int32))])) (fun _ ks => st18.trans ks) ?_
              refine Dn.by (U' := T18.setTop (mkF m 286 #[.val (.int p0), .val (.int p1), .val (.int p2), .val (.int p3), .val (.int p4), .val (.int a1), .val (.int a2), .val (.int la), .val (.int (p4 &&& (3 : Int32))), .val (.int bc1), .val (.int bc2), .val (.int lb), .val (.int pA), .val (.int pB), .val (.int kd), .val (.ref b1), .val (.ref b9), .val (.int (0 : Int32)), .val (.int (0 : Int32))] [(.int (0 : Int32)), (.int (0 : Int32))])) (fun _ ks => XS.iload X18.here hx rfl (hb hby at_284) rfl ks) ?_
              refine Dn.by (U' := T18.setTop (mkF m 289 #[.val (.int p0), .val (.int p1), .val (.int p2), .val (.int p3), .val (.int p4), .val (.int a1), .val (.int a2), .val (.int la), .val (.int (p4 &&& (3 : Int32))), .val (.int bc1), .val (.int bc2), .val (.int lb), .val (.int pA), .val (.int pB), .val (.int kd), .val (.ref b1), .val (.ref b9), .val (.int (0 : Int32)), .val (.int (0 : Int32))] [])) (fun _ ks => XS.icmpNo X18.here hx rfl (hb hby at_286) rfl (by decide) ks) ?_
              refine Dn.by (U' := T18.setTop (mkF m 290 #[.val (.int p0), .val (.int p1), .val (.int p2), .val (.int p3), .val (.int p4), .val (.int a1), .val (.int a2), .val (.int la), .val (.int (p4 &&& (3 : Int32))), .val (.int bc1), .val (.int bc2), .val (.int lb), .val (.int pA), .val (.int pB), .val (.int kd), .val (.ref b1), .val (.ref b9), .val (.int (0 : Int32)), .val (.int (0 : Int32))] [(.int (1 : Int32))])) (fun _ ks => XS.iconst X18.here hx rfl (hb hby at_289)  ks) ?_
              refine Dn.by (U' := T18.setTop (mkF m 294 #[.val (.int p0), .val (.int p1), .val (.int p2), .val (.int p3), .val (.int p4), .val (.int a1), .val (.int a2), .val (.int la), .val (.int (p4 &&& (3 : Int32))), .val (.int bc1), .val (.int bc2), .val (.int lb), .val (.int pA), .val (.int pB), .val (.int kd), .val (.ref b1), .val (.ref b9), .val (.int (0 : Int32)), .val (.int (0 : Int32))] [(.int (1 : Int32))])) (fun _ ks => XS.goto X18.here hx rfl (pc0 := 290) (pc' := 294) rfl (hb hby at_290) (by decide) (by decide) ks) ?_
              refine Dn.out X18 (v := (some (.int (1 : Int32)))) (fun h => by rw [Bd.returns] at h; cases h) (BodyLoose.notSynchronized Bd) (fun _ hr => retN X18 hx (t := .boolean) Bd.returns (by simp) (hb hby at_294) hr) (by decide) (by decide) ?_
              rw [e18]
              exact ⟨rfl, N18⟩
          ·
            refine Dn.by (U' := T9.setTop (mkF m 249 #[.val (.int p0), .val (.int p1), .val (.int p2), .val (.int p3), .val (.int p4), .val (.int a1), .val (.int a2), .val (.int la), .val (.int (p4 &&& (3 : Int32))), .val (.int bc1), .val (.int bc2), .val (.int lb), .val (.int pA), .val (.int pB), .val (.int kd), .val (.ref b1), .val (.ref b9), .unset, .unset] [])) (fun _ ks => XS.icmpYes X9.here hx rfl (pc0 := 222) (pc' := 249) rfl (hb hby at_222) rfl (feq c222_11).2 (by decide) (by decide) ks) ?_
            refine Dn.by (U' := T9.setTop (mkF m 250 #[.val (.int p0), .val (.int p1), .val (.int p2), .val (.int p3), .val (.int p4), .val (.int a1), .val (.int a2), .val (.int la), .val (.int (p4 &&& (3 : Int32))), .val (.int bc1), .val (.int bc2), .val (.int lb), .val (.int pA), .val (.int pB), .val (.int kd), .val (.ref b1), .val (.ref b9), .unset, .unset] [(.int (0 : Int32))])) (fun _ ks => XS.iconst X9.here hx rfl (hb hby at_249)  ks) ?_
            refine Dn.by (U' := T9.setTop (mkF m 252 #[.val (.int p0), .val (.int p1), .val (.int p2), .val (.int p3), .val (.int p4), .val (.int a1), .val (.int a2), .val (.int la), .val (.int (p4 &&& (3 : Int32))), .val (.int bc1), .val (.int bc2), .val (.int lb), .val (.int pA), .val (.int pB), .val (.int kd), .val (.ref b1), .val (.ref b9), .val (.int (0 : Int32)), .unset] [])) (fun _ ks => XS.istore X9.here hx rfl (hb hby at_250) rfl (l' := #[.val (.int p0), .val (.int p1), .val (.int p2), .val (.int p3), .val (.int p4), .val (.int a1), .val (.int a2), .val (.int la), .val (.int (p4 &&& (3 : Int32))), .val (.int bc1), .val (.int bc2), .val (.int lb), .val (.int pA), .val (.int pB), .val (.int kd), .val (.ref b1), .val (.ref b9), .val (.int (0 : Int32)), .unset]) rfl ks) ?_
            refine Dn.by (U' := T9.setTop (mkF m 254 #[.val (.int p0), .val (.int p1), .val (.int p2), .val (.int p3), .val (.int p4), .val (.int a1), .val (.int a2), .val (.int la), .val (.int (p4 &&& (3 : Int32))), .val (.int bc1), .val (.int bc2), .val (.int lb), .val (.int pA), .val (.int pB), .val (.int kd), .val (.ref b1), .val (.ref b9), .val (.int (0 : Int32)), .unset] [(.int kd)])) (fun _ ks => XS.iload X9.here hx rfl (hb hby at_252) rfl ks) ?_
            refine Dn.by (U' := T9.setTop (mkF m 255 #[.val (.int p0), .val (.int p1), .val (.int p2), .val (.int p3), .val (.int p4), .val (.int a1), .val (.int a2), .val (.int la), .val (.int (p4 &&& (3 : Int32))), .val (.int bc1), .val (.int bc2), .val (.int lb), .val (.int pA), .val (.int pB), .val (.int kd), .val (.ref b1), .val (.ref b9), .val (.int (0 : Int32)), .unset] [(.int (1 : Int32)), (.int kd)])) (fun _ ks => XS.iconst X9.here hx rfl (hb hby at_254)  ks) ?_
            refine Dn.by (U' := T9.setTop (mkF m 274 #[.val (.int p0), .val (.int p1), .val (.int p2), .val (.int p3), .val (.int p4), .val (.int a1), .val (.int a2), .val (.int la), .val (.int (p4 &&& (3 : Int32))), .val (.int bc1), .val (.int bc2), .val (.int lb), .val (.int pA), .val (.int pB), .val (.int kd), .val (.ref b1), .val (.ref b9), .val (.int (0 : Int32)), .unset] [])) (fun _ ks => XS.icmpYes X9.here hx rfl (pc0 := 255) (pc' := 274) rfl (hb hby at_255) rfl (tlt c169_7).2.2.1 (by decide) (by decide) ks) ?_
            refine Dn.by (U' := T9.setTop (mkF m 275 #[.val (.int p0), .val (.int p1), .val (.int p2), .val (.int p3), .val (.int p4), .val (.int a1), .val (.int a2), .val (.int la), .val (.int (p4 &&& (3 : Int32))), .val (.int bc1), .val (.int bc2), .val (.int lb), .val (.int pA), .val (.int pB), .val (.int kd), .val (.ref b1), .val (.ref b9), .val (.int (0 : Int32)), .unset] [(.int (0 : Int32))])) (fun _ ks => XS.iconst X9.here hx rfl (hb hby at_274)  ks) ?_
            refine Dn.by (U' := T9.setTop (mkF m 277 #[.val (.int p0), .val (.int p1), .val (.int p2), .val (.int p3), .val (.int p4), .val (.int a1), .val (.int a2), .val (.int la), .val (.int (p4 &&& (3 : Int32))), .val (.int bc1), .val (.int bc2), .val (.int lb), .val (.int pA), .val (.int pB), .val (.int kd), .val (.ref b1), .val (.ref b9), .val (.int (0 : Int32)), .val (.int (0 : Int32))] [])) (fun _ ks => XS.istore X9.here hx rfl (hb hby at_275) rfl (l' := #[.val (.int p0), .val (.int p1), .val (.int p2), .val (.int p3), .val (.int p4), .val (.int a1), .val (.int a2), .val (.int la), .val (.int (p4 &&& (3 : Int32))), .val (.int bc1), .val (.int bc2), .val (.int lb), .val (.int pA), .val (.int pB), .val (.int kd), .val (.ref b1), .val (.ref b9), .val (.int (0 : Int32)), .val (.int (0 : Int32))]) rfl ks) ?_
            refine Dn.by (U' := T9.setTop (mkF m 279 #[.val (.int p0), .val (.int p1), .val (.int p2), .val (.int p3), .val (.int p4), .val (.int a1), .val (.int a2), .val (.int la), .val (.int (p4 &&& (3 : Int32))), .val (.int bc1), .val (.int bc2), .val (.int lb), .val (.int pA), .val (.int pB), .val (.int kd), .val (.ref b1), .val (.ref b9), .val (.int (0 : Int32)), .val (.int (0 : Int32))] [(.ref b1)])) (fun _ ks => XS.aload X9.here hx rfl (hb hby at_277) rfl rfl ks) ?_
            refine Dn.by (U' := T9.setTop (mkF m 281 #[.val (.int p0), .val (.int p1), .val (.int p2), .val (.int p3), .val (.int p4), .val (.int a1), .val (.int a2), .val (.int la), .val (.int (p4 &&& (3 : Int32))), .val (.int bc1), .val (.int bc2), .val (.int lb), .val (.int pA), .val (.int pB), .val (.int kd), .val (.ref b1), .val (.ref b9), .val (.int (0 : Int32)), .val (.int (0 : Int32))] [(.ref b9), (.ref b1)])) (fun _ ks => XS.aload X9.here hx rfl (hb hby at_279) rfl rfl ks) ?_
            obtain ⟨cq19, kq19, qa19, qb19, qc19⟩ := isOf hZ rfl (((A1.keep KK3).keep KK5).keep KK9)
            obtain ⟨_, _, ⟨T19, L19, k19, n19⟩, -, X19, ⟨Lc19, hQ19, l19, y19, z19⟩, st19⟩ := X9.virtualBack hx (y := (⟨"com/example/ferrywire/ferrywire/wire/HostPort", "equals", "(Ljava/lang/Object;)Z"⟩ : MethodName)) (z := (⟨"com/example/ferrywire/ferrywire/wire/HostPort", "equals", "(Ljava/lang/Object;)Z"⟩ : MethodName)) hown (mvT hZ (hw _ (List.mem_of_getElem? (i := 52) rfl))) (mvT hZ (hw _ (List.mem_of_getElem? (i := 53) rfl))) (notFace_of_selects (args := #[]) (mvT hZ (hw _ (List.mem_of_getElem? (i := 55) rfl)))) (mvT hZ (hw _ (List.mem_of_getElem? (i := 55) rfl))) (mvT hZ (hw _ (List.mem_of_getElem? (i := 54) rfl))) (by decide) (backOf (W := 0) (rm10s l Z a0 hw [] b1 b9  T9.heap n0 z10 EE9) hZ (hw _ (List.mem_of_getElem? (i := 56) rfl)) (hw _ (List.mem_of_getElem? (i := 3) rfl)) (by decide) (by decide)) qa19 qc19 (g := (mkF m 281 #[.val (.int p0), .val (.int p1), .val (.int p2), .val (.int p3), .val (.int p4), .val (.int a1), .val (.int a2), .val (.int la), .val (.int (p4 &&& (3 : Int32))), .val (.int bc1), .val (.int bc2), .val (.int lb), .val (.int pA), .val (.int pB), .val (.int kd), .val (.ref b1), .val (.ref b9), .val (.int (0 : Int32)), .val (.int (0 : Int32))] [(.ref b9), (.ref b1)])) rfl (by rw [hml]; rfl) (Steps.refl _) (argsL := [(.ref b9)]) (rest := []) (lenOf pd2 rfl) rfl (by show 2 * 0 + _ ≤ _; exact Nat.le_of_eq rfl) (hb hby at_281) (fun _ _ => ⟨rfl, rfl, (by decide : 7 + 0 ≤ _), (by decide : 18 + 0 ≤ _)⟩)
            dsimp only [Pt.U, Pt.locs, Pt.cells, Pt.slots] at X19 l19 y19 z19 st19 hQ19
            rw [l19, y19, z19] at X19
            obtain ⟨rfl, N19q, e19⟩ := hQ19
            have N19 := Fr.app N9 N19q
            refine Dn.by (U' := T19.setTop (mkF m 284 #[.val (.int p0), .val (.int p1), .val (.int p2), .val (.int p3), .val (.int p4), .val (.int a1), .val (.int a2), .val (.int la), .val (.int (p4 &&& (3 : Int32))), .val (.int bc1), .val (.int bc2), .val (.int lb), .val (.int pA), .val (.int pB), .val (.int kd), .val (.ref b1), .val (.ref b9), .val (.int (0 : Int32)), .val (.int (0 : Int32))] [(.int (0 : Int32))])) (fun _ ks => st19.trans ks) ?_
            refine Dn.by (U' := T19.setTop (mkF m 286 #[.val (.int p0), .val (.int p1), .val (.int p2), .val (.int p3), .val (.int p4), .val (.int a1), .val (.int a2), .val (.int la), .val (.int (p4 &&& (3 : Int32))), .val (.int bc1), .val (.int bc2), .val (.int lb), .val (.int pA), .val (.int pB), .val (.int kd), .val (.ref b1), .val (.ref b9), .val (.int (0 : Int32)), .val (.int (0 : Int32))] [(.int (0 : Int32)), (.int (0 : Int32))])) (fun _ ks => XS.iload X19.here hx rfl (hb hby at_284) rfl ks) ?_
            refine Dn.by (U' := T19.setTop (mkF m 289 #[.val (.int p0), .val (.int p1), .val (.int p2), .val (.int p3), .val (.int p4), .val (.int a1), .val (.int a2), .val (.int la), .val (.int (p4 &&& (3 : Int32))), .val (.int bc1), .val (.int bc2), .val (.int lb), .val (.int pA), .val (.int pB), .val (.int kd), .val (.ref b1), .val (.ref b9), .val (.int (0 : Int32)), .val (.int (0 : Int32))] [])) (fun _ ks => XS.icmpNo X19.here hx rfl (hb hby at_286) rfl (by decide) ks) ?_
            refine Dn.by (U' := T19.setTop (mkF m 290 #[.val (.int p0), .val (.int p1), .val (.int p2), .val (.int p3), .val (.int p4), .val (.int a1), .val (.int a2), .val (.int la), .val (.int (p4 &&& (3 : Int32))), .val (.int bc1), .val (.int bc2), .val (.int lb), .val (.int pA), .val (.int pB), .val (.int kd), .val (.ref b1), .val (.ref b9), .val (.int (0 : Int32)), .val (.int (0 : Int32))] [(.int (1 : Int32))])) (fun _ ks => XS.iconst X19.here hx rfl (hb hby at_289)  ks) ?_
            refine Dn.by (U' := T19.setTop (mkF m 294 #[.val (.int p0), .val (.int p1), .val (.int p2), .val (.int p3), .val (.int p4), .val (.int a1), .val (.int a2), .val (.int la), .val (.int (p4 &&& (3 : Int32))), .val (.int bc1), .val (.int bc2), .val (.int lb), .val (.int pA), .val (.int pB), .val (.int kd), .val (.ref b1), .val (.ref b9), .val (.int (0 : Int32)), .val (.int (0 : Int32))] [(.int (1 : Int32))])) (fun _ ks => XS.goto X19.here hx rfl (pc0 := 290) (pc' := 294) rfl (hb hby at_290) (by decide) (by decide) ks) ?_
            refine Dn.out X19 (v := (some (.int (1 : Int32)))) (fun h => by rw [Bd.returns] at h; cases h) (BodyLoose.notSynchronized Bd) (fun _ hr => retN X19 hx (t := .boolean) Bd.returns (by simp) (hb hby at_294) hr) (by decide) (by decide) ?_
            rw [e19]
            exact ⟨rfl, N19⟩
        ·
          refine Dn.by (U' := T5.setTop (mkF m 215 #[.val (.int p0), .val (.int p1), .val (.int p2), .val (.int p3), .val (.int p4), .val (.int a1), .val (.int a2), .val (.int la), .val (.int (p4 &&& (3 : Int32))), .val (.int bc1), .val (.int bc2), .val (.int lb), .val (.int pA), .val (.int pB), .val (.int kd), .val (.ref b1), .unset, .unset, .unset] [])) (fun _ ks => XS.icmpYes X5.here hx rfl (pc0 := 198) (pc' := 215) rfl (hb hby at_198) rfl (feq c198_8).2 (by decide) (by decide) ks) ?_
          refine Dn.by (U' := T5.setTop (mkF m 216 #[.val (.int p0), .val (.int p1), .val (.int p2), .val (.int p3), .val (.int p4), .val (.int a1), .val (.int a2), .val (.int la), .val (.int (p4 &&& (3 : Int32))), .val (.int bc1), .val (.int bc2), .val (.int lb), .val (.int pA), .val (.int pB), .val (.int kd), .val (.ref b1), .unset, .unset, .unset] [.null])) (fun _ ks => XS.aconstNull X5.here hx rfl (hb hby at_215)  ks) ?_
          refine Dn.by (U' := T5.setTop (mkF m 218 #[.val (.int p0), .val (.int p1), .val (.int p2), .val (.int p3), .val (.int p4), .val (.int a1), .val (.int a2), .val (.int la), .val (.int (p4 &&& (3 : Int32))), .val (.int bc1), .val (.int bc2), .val (.int lb), .val (.int pA), .val (.int pB), .val (.int kd), .val (.ref b1), .val .null, .unset, .unset] [])) (fun _ ks => XS.astore X5.here hx rfl (hb hby at_216) rfl rfl (l' := #[.val (.int p0), .val (.int p1), .val (.int p2), .val (.int p3), .val (.int p4), .val (.int a1), .val (.int a2), .val (.int la), .val (.int (p4 &&& (3 : Int32))), .val (.int bc1), .val (.int bc2), .val (.int lb), .val (.int pA), .val (.int pB), .val (.int kd), .val (.ref b1), .val .null, .unset, .unset]) rfl ks) ?_
          refine Dn.by (U' := T5.setTop (mkF m 220 #[.val (.int p0), .val (.int p1), .val (.int p2), .val (.int p3), .val (.int p4), .val (.int a1), .val (.int a2), .val (.int la), .val (.int (p4 &&& (3 : Int32))), .val (.int bc1), .val (.int bc2), .val (.int lb), .val (.int pA), .val (.int pB), .val (.int kd), .val (.ref b1), .val .null, .unset, .unset] [(.int la)])) (fun _ ks => XS.iload X5.here hx rfl (hb hby at_218) rfl ks) ?_
          refine Dn.by (U' := T5.setTop (mkF m 222 #[.val (.int p0), .val (.int p1), .val (.int p2), .val (.int p3), .val (.int p4), .val (.int a1), .val (.int a2), .val (.int la), .val (.int (p4 &&& (3 : Int32))), .val (.int bc1), .val (.int bc2), .val (.int lb), .val (.int pA), .val (.int pB), .val (.int kd), .val (.ref b1), .val .null, .unset, .unset] [(.int lb), (.int la)])) (fun _ ks => XS.iload X5.here hx rfl (hb hby at_220) rfl ks) ?_
          by_cases c222_20 : la = lb
          ·
            refine Dn.by (U' := T5.setTop (mkF m 225 #[.val (.int p0), .val (.int p1), .val (.int p2), .val (.int p3), .val (.int p4), .val (.int a1), .val (.int a2), .val (.int la), .val (.int (p4 &&& (3 : Int32))), .val (.int bc1), .val (.int bc2), .val (.int lb), .val (.int pA), .val (.int pB), .val (.int kd), .val (.ref b1), .val .null, .unset, .unset] [])) (fun _ ks => XS.icmpNo X5.here hx rfl (hb hby at_222) rfl (teq c222_20).2 ks) ?_
            refine Dn.by (U' := T5.setTop (mkF m 227 #[.val (.int p0), .val (.int p1), .val (.int p2), .val (.int p3), .val (.int p4), .val (.int a1), .val (.int a2), .val (.int la), .val (.int (p4 &&& (3 : Int32))), .val (.int bc1), .val (.int bc2), .val (.int lb), .val (.int pA), .val (.int pB), .val (.int kd), .val (.ref b1), .val .null, .unset, .unset] [(.int a1)])) (fun _ ks => XS.iload X5.here hx rfl (hb hby at_225) rfl ks) ?_
            refine Dn.by (U' := T5.setTop (mkF m 229 #[.val (.int p0), .val (.int p1), .val (.int p2), .val (.int p3), .val (.int p4), .val (.int a1), .val (.int a2), .val (.int la), .val (.int (p4 &&& (3 : Int32))), .val (.int bc1), .val (.int bc2), .val (.int lb), .val (.int pA), .val (.int pB), .val (.int kd), .val (.ref b1), .val .null, .unset, .unset] [(.int bc1), (.int a1)])) (fun _ ks => XS.iload X5.here hx rfl (hb hby at_227) rfl ks) ?_
            by_cases c229_21 : a1 = bc1
            ·
              refine Dn.by (U' := T5.setTop (mkF m 232 #[.val (.int p0), .val (.int p1), .val (.int p2), .val (.int p3), .val (.int p4), .val (.int a1), .val (.int a2), .val (.int la), .val (.int (p4 &&& (3 : Int32))), .val (.int bc1), .val (.int bc2), .val (.int lb), .val (.int pA), .val (.int pB), .val (.int kd), .val (.ref b1), .val .null, .unset, .unset] [])) (fun _ ks => XS.icmpNo X5.here hx rfl (hb hby at_229) rfl (teq c229_21).2 ks) ?_
              refine Dn.by (U' := T5.setTop (mkF m 234 #[.val (.int p0), .val (.int p1), .val (.int p2), .val (.int p3), .val (.int p4), .val (.int a1), .val (.int a2), .val (.int la), .val (.int (p4 &&& (3 : Int32))), .val (.int bc1), .val (.int bc2), .val (.int lb), .val (.int pA), .val (.int pB), .val (.int kd), .val (.ref b1), .val .null, .unset, .unset] [(.int la)])) (fun _ ks => XS.iload X5.here hx rfl (hb hby at_232) rfl ks) ?_
              refine Dn.by (U' := T5.setTop (mkF m 235 #[.val (.int p0), .val (.int p1), .val (.int p2), .val (.int p3), .val (.int p4), .val (.int a1), .val (.int a2), .val (.int la), .val (.int (p4 &&& (3 : Int32))), .val (.int bc1), .val (.int bc2), .val (.int lb), .val (.int pA), .val (.int pB), .val (.int kd), .val (.ref b1), .val .null, .unset, .unset] [(.int (1 : Int32)), (.int la)])) (fun _ ks => XS.iconst X5.here hx rfl (hb hby at_234)  ks) ?_
              by_cases c235_22 : la = (1 : Int32)
              ·
                refine Dn.by (U' := T5.setTop (mkF m 245 #[.val (.int p0), .val (.int p1), .val (.int p2), .val (.int p3), .val (.int p4), .val (.int a1), .val (.int a2), .val (.int la), .val (.int (p4 &&& (3 : Int32))), .val (.int bc1), .val (.int bc2), .val (.int lb), .val (.int pA), .val (.int pB), .val (.int kd), .val (.ref b1), .val .null, .unset, .unset] [])) (fun _ ks => XS.icmpYes X5.here hx rfl (pc0 := 235) (pc' := 245) rfl (hb hby at_235) rfl (teq c235_22).1 (by decide) (by decide) ks) ?_
                refine Dn.by (U' := T5.setTop (mkF m 246 #[.val (.int p0), .val (.int p1), .val (.int p2), .val (.int p3), .val (.int p4), .val (.int a1), .val (.int a2), .val (.int la), .val (.int (p4 &&& (3 : Int32))), .val (.int bc1), .val (.int bc2), .val (.int lb), .val (.int pA), .val (.int pB), .val (.int kd), .val (.ref b1), .val .null, .unset, .unset] [(.int (1 : Int32))])) (fun _ ks => XS.iconst X5.here hx rfl (hb hby at_245)  ks) ?_
                refine Dn.by (U' := T5.setTop (mkF m 250 #[.val (.int p0), .val (.int p1), .val (.int p2), .val (.int p3), .val (.int p4), .val (.int a1), .val (.int a2), .val (.int la), .val (.int (p4 &&& (3 : Int32))), .val (.int bc1), .val (.int bc2), .val (.int lb), .val (.int pA), .val (.int pB), .val (.int kd), .val (.ref b1), .val .null, .unset, .unset] [(.int (1 : Int32))])) (fun _ ks => XS.goto X5.here hx rfl (pc0 := 246) (pc' := 250) rfl (hb hby at_246) (by decide) (by decide) ks) ?_
                refine Dn.by (U' := T5.setTop (mkF m 252 #[.val (.int p0), .val (.int p1), .val (.int p2), .val (.int p3), .val (.int p4), .val (.int a1), .val (.int a2), .val (.int la), .val (.int (p4 &&& (3 : Int32))), .val (.int bc1), .val (.int bc2), .val (.int lb), .val (.int pA), .val (.int pB), .val (.int kd), .val (.ref b1), .val .null, .val (.int (1 : Int32)), .unset] [])) (fun _ ks => XS.istore X5.here hx rfl (hb hby at_250) rfl (l' := #[.val (.int p0), .val (.int p1), .val (.int p2), .val (.int p3), .val (.int p4), .val (.int a1), .val (.int a2), .val (.int la), .val (.int (p4 &&& (3 : Int32))), .val (.int bc1), .val (.int bc2), .val (.int lb), .val (.int pA), .val (.int pB), .val (.int kd), .val (.ref b1), .val .null, .val (.int (1 : Int32)), .unset]) rfl ks) ?_
                refine Dn.by (U' := T5.setTop (mkF m 254 #[.val (.int p0), .val (.int p1), .val (.int p2), .val (.int p3), .val (.int p4), .val (.int a1), .val (.int a2), .val (.int la), .val (.int (p4 &&& (3 : Int32))), .val (.int bc1), .val (.int bc2), .val (.int lb), .val (.int pA), .val (.int pB), .val (.int kd), .val (.ref b1), .val .null, .val (.int (1 : Int32)), .unset] [(.int kd)])) (fun _ ks => XS.iload X5.here hx rfl (hb hby at_252) rfl ks) ?_
                refine Dn.by (U' := T5.setTop (mkF m 255 #[.val (.int p0), .val (.int p1), .val (.int p2), .val (.int p3), .val (.int p4), .val (.int a1), .val (.int a2), .val (.int la), .val (.int (p4 &&& (3 : Int32))), .val (.int bc1), .val (.int bc2), .val (.int lb), .val (.int pA), .val (.int pB), .val (.int kd), .val (.ref b1), .val .null, .val (.int (1 : Int32)), .unset] [(.int (1 : Int32)), (.int kd)])) (fun _ ks => XS.iconst X5.here hx rfl (hb hby at_254)  ks) ?_
                refine Dn.by (U' := T5.setTop (mkF m 274 #[.val (.int p0), .val (.int p1), .val (.int p2), .val (.int p3), .val (.int p4), .val (.int a1), .val (.int a2), .val (.int la), .val (.int (p4 &&& (3 : Int32))), .val (.int bc1), .val (.int bc2), .val (.int lb), .val (.int pA), .val (.int pB), .val (.int kd), .val (.ref b1), .val .null, .val (.int (1 : Int32)), .unset] [])) (fun _ ks => XS.icmpYes X5.here hx rfl (pc0 := 255) (pc' := 274) rfl (hb hby at_255) rfl (tlt c169_7).2.2.1 (by decide) (by decide) ks) ?_
                refine Dn.by (U' := T5.setTop (mkF m 275 #[.val (.int p0), .val (.int p1), .val (.int p2), .val (.int p3), .val (.int p4), .val (.int a1), .val (.int a2), .val (.int la), .val (.int (p4 &&& (3 : Int32))), .val (.int bc1), .val (.int bc2), .val (.int lb), .val (.int pA), .val (.int pB), .val (.int kd), .val (.ref b1), .val .null, .val (.int (1 : Int32)), .unset] [(.int (0 : Int32))])) (fun _ ks => XS.iconst X5.here hx rfl (hb hby at_274)  ks) ?_
                refine Dn.by (U' := T5.setTop (mkF m 277 #[.val (.int p0), .val (.int p1), .val (.int p2), .val (.int p3), .val (.int p4), .val (.int a1), .val (.int a2), .val (.int la), .val (.int (p4 &&& (3 : Int32))), .val (.int bc1), .val (.int bc2), .val (.int lb), .val (.int pA), .val (.int pB), .val (.int kd), .val (.ref b1), .val .null, .val (.int (1 : Int32)), .val (.int (0 : Int32))] [])) (fun _ ks => XS.istore X5.here hx rfl (hb hby at_275) rfl (l' := #[.val (.int p0), .val (.int p1), .val (.int p2), .val (.int p3), .val (.int p4), .val (.int a1), .val (.int a2), .val (.int la), .val (.int (p4 &&& (3 : Int32))), .val (.int bc1), .val (.int bc2), .val (.int lb), .val (.int pA), .val (.int pB), .val (.int kd), .val (.ref b1), .val .null, .val (.int (1 : Int32)), .val (.int (0 : Int32))]) rfl ks) ?_
                refine Dn.by (U' := T5.setTop (mkF m 279 #[.val (.int p0), .val (.int p1), .val (.int p2), .val (.int p3), .val (.int p4), .val (.int a1), .val (.int a2), .val (.int la), .val (.int (p4 &&& (3 : Int32))), .val (.int bc1), .val (.int bc2), .val (.int lb), .val (.int pA), .val (.int pB), .val (.int kd), .val (.ref b1), .val .null, .val (.int (1 : Int32)), .val (.int (0 : Int32))] [(.ref b1)])) (fun _ ks => XS.aload X5.here hx rfl (hb hby at_277) rfl rfl ks) ?_
                refine Dn.by (U' := T5.setTop (mkF m 281 #[.val (.int p0), .val (.int p1), .val (.int p2), .val (.int p3), .val (.int p4), .val (.int a1), .val (.int a2), .val (.int la), .val (.int (p4 &&& (3 : Int32))), .val (.int bc1), .val (.int bc2), .val (.int lb), .val (.int pA), .val (.int pB), .val (.int kd), .val (.ref b1), .val .null, .val (.int (1 : Int32)), .val (.int (0 : Int32))] [.null, (.ref b1)])) (fun _ ks => XS.aload X5.here hx rfl (hb hby at_279) rfl rfl ks) ?_
                obtain ⟨cq23, kq23, qa23, qb23, qc23⟩ := isOf hZ rfl ((A1.keep KK3).keep KK5)
                obtain ⟨_, _, ⟨T23, L23, k23, n23⟩, -, X23, ⟨Lc23, hQ23, l23, y23, z23⟩, st23⟩ := X5.virtualBack hx (y := (⟨"com/example/ferrywire/ferrywire/wire/HostPort", "equals", "(Ljava/lang/Object;)Z"⟩ : MethodName)) (z := (⟨"com/example/ferrywire/ferrywire/wire/HostPort", "equals", "(Ljava/lang/Object;)Z"⟩ : MethodName)) hown (mvT hZ (hw _ (List.mem_of_getElem? (i := 52) rfl))) (mvT hZ (hw _ (List.mem_of_getElem? (i := 53) rfl))) (notFace_of_selects (args := #[]) (mvT hZ (hw _ (List.mem_of_getElem? (i := 55) rfl)))) (mvT hZ (hw _ (List.mem_of_getElem? (i := 55) rfl))) (mvT hZ (hw _ (List.mem_of_getElem? (i := 54) rfl))) (by decide) (backOf (W := 0) (rm10n l Z a0 hw [] b1  T5.heap n0 z6 ) hZ (hw _ (List.mem_of_getElem? (i := 56) rfl)) (hw _ (List.mem_of_getElem? (i := 3) rfl)) (by decide) (by decide)) qa23 qc23 (g := (mkF m 281 #[.val (.int p0), .val (.int p1), .val (.int p2), .val (.int p3), .val (.int p4), .val (.int a1), .val (.int a2), .val (.int la), .val (.int (p4 &&& (3 : Int32))), .val (.int bc1), .val (.int bc2), .val (.int lb), .val (.int pA), .val (.int pB), .val (.int kd), .val (.ref b1), .val .null, .val (.int (1 : Int32)), .val (.int (0 : Int32))] [.null, (.ref b1)])) rfl (by rw [hml]; rfl) (Steps.refl _) (argsL := [.null]) (rest := []) (lenOf pd2 rfl) rfl (by show 2 * 0 + _ ≤ _; exact Nat.le_of_eq rfl) (hb hby at_281) (fun _ _ => ⟨rfl, rfl, (by decide : 4 + 0 ≤ _), (by decide : 10 + 0 ≤ _)⟩)
                dsimp only [Pt.U, Pt.locs, Pt.cells, Pt.slots] at X23 l23 y23 z23 st23 hQ23
                rw [l23, y23, z23] at X23
                obtain ⟨rfl, N23q, e23⟩ := hQ23
                have N23 := Fr.app N5 N23q
                refine Dn.by (U' := T23.setTop (mkF m 284 #[.val (.int p0), .val (.int p1), .val (.int p2), .val (.int p3), .val (.int p4), .val (.int a1), .val (.int a2), .val (.int la), .val (.int (p4 &&& (3 : Int32))), .val (.int bc1), .val (.int bc2), .val (.int lb), .val (.int pA), .val (.int pB), .val (.int kd), .val (.ref b1), .val .null, .val (.int (1 : Int32)), .val (.int (0 : Int32))] [(.int (0 : Int32))])) (fun _ ks => st23.trans ks) ?_
                refine Dn.by (U' := T23.setTop (mkF m 286 #[.val (.int p0), .val (.int p1), .val (.int p2), .val (.int p3), .val (.int p4), .val (.int a1), .val (.int a2), .val (.int la), .val (.int (p4 &&& (3 : Int32))), .val (.int bc1), .val (.int bc2), .val (.int lb), .val (.int pA), .val (.int pB), .val (.int kd), .val (.ref b1), .val .null, .val (.int (1 : Int32)), .val (.int (0 : Int32))] [(.int (0 : Int32)), (.int (0 : Int32))])) (fun _ ks => XS.iload X23.here hx rfl (hb hby at_284) rfl ks) ?_
                refine Dn.by (U' := T23.setTop (mkF m 289 #[.val (.int p0), .val (.int p1), .val (.int p2), .val (.int p3), .val (.int p4), .val (.int a1), .val (.int a2), .val (.int la), .val (.int (p4 &&& (3 : Int32))), .val (.int bc1), .val (.int bc2), .val (.int lb), .val (.int pA), .val (.int pB), .val (.int kd), .val (.ref b1), .val .null, .val (.int (1 : Int32)), .val (.int (0 : Int32))] [])) (fun _ ks => XS.icmpNo X23.here hx rfl (hb hby at_286) rfl (by decide) ks) ?_
                refine Dn.by (U' := T23.setTop (mkF m 290 #[.val (.int p0), .val (.int p1), .val (.int p2), .val (.int p3), .val (.int p4), .val (.int a1), .val (.int a2), .val (.int la), .val (.int (p4 &&& (3 : Int32))), .val (.int bc1), .val (.int bc2), .val (.int lb), .val (.int pA), .val (.int pB), .val (.int kd), .val (.ref b1), .val .null, .val (.int (1 : Int32)), .val (.int (0 : Int32))] [(.int (1 : Int32))])) (fun _ ks => XS.iconst X23.here hx rfl (hb hby at_289)  ks) ?_
                refine Dn.by (U' := T23.setTop (mkF m 294 #[.val (.int p0), .val (.int p1), .val (.int p2), .val (.int p3), .val (.int p4), .val (.int a1), .val (.int a2), .val (.int la), .val (.int (p4 &&& (3 : Int32))), .val (.int bc1), .val (.int bc2), .val (.int lb), .val (.int pA), .val (.int pB), .val (.int kd), .val (.ref b1), .val .null, .val (.int (1 : Int32)), .val (.int (0 : Int32))] [(.int (1 : Int32))])) (fun _ ks => XS.goto X23.here hx rfl (pc0 := 290) (pc' := 294) rfl (hb hby at_290) (by decide) (by decide) ks) ?_
                refine Dn.out X23 (v := (some (.int (1 : Int32)))) (fun h => by rw [Bd.returns] at h; cases h) (BodyLoose.notSynchronized Bd) (fun _ hr => retN X23 hx (t := .boolean) Bd.returns (by simp) (hb hby at_294) hr) (by decide) (by decide) ?_
                rw [e23]
                exact ⟨rfl, N23⟩
              ·
                refine Dn.by (U' := T5.setTop (mkF m 238 #[.val (.int p0), .val (.int p1), .val (.int p2), .val (.int p3), .val (.int p4), .val (.int a1), .val (.int a2), .val (.int la), .val (.int (p4 &&& (3 : Int32))), .val (.int bc1), .val (.int bc2), .val (.int lb), .val (.int pA), .val (.int pB), .val (.int kd), .val (.ref b1), .val .null, .unset, .unset] [])) (fun _ ks => XS.icmpNo X5.here hx rfl (hb hby at_235) rfl (feq c235_22).1 ks) ?_
                refine Dn.by (U' := T5.setTop (mkF m 240 #[.val (.int p0), .val (.int p1), .val (.int p2), .val (.int p3), .val (.int p4), .val (.int a1), .val (.int a2), .val (.int la), .val (.int (p4 &&& (3 : Int32))), .val (.int bc1), .val (.int bc2), .val (.int lb), .val (.int pA), .val (.int pB), .val (.int kd), .val (.ref b1), .val .null, .unset, .unset] [(.int a2)])) (fun _ ks => XS.iload X5.here hx rfl (hb hby at_238) rfl ks) ?_
                refine Dn.by (U' := T5.setTop (mkF m 242 #[.val (.int p0), .val (.int p1), .val (.int p2), .val (.int p3), .val (.int p4), .val (.int a1), .val (.int a2), .val (.int la), .val (.int (p4 &&& (3 : Int32))), .val (.int bc1), .val (.int bc2), .val (.int lb), .val (.int pA), .val (.int pB), .val (.int kd), .val (.ref b1), .val .null, .unset, .unset] [(.int bc2), (.int a2)])) (fun _ ks => XS.iload X5.here hx rfl (hb hby at_240) rfl ks) ?_
                by_cases c242_24 : a2 = bc2
                ·
                  refine Dn.by (U' := T5.setTop (mkF m 245 #[.val (.int p0), .val (.int p1), .val (.int p2), .val (.int p3), .val (.int p4), .val (.int a1), .val (.int a2), .val (.int la), .val (.int (p4 &&& (3 : Int32))), .val (.int bc1), .val (.int bc2), .val (.int lb), .val (.int pA), .val (.int pB), .val (.int kd), .val (.ref b1), .val .null, .unset, .unset] [])) (fun _ ks => XS.icmpNo X5.here hx rfl (hb hby at_242) rfl (teq c242_24).2 ks) ?_
                  refine Dn.by (U' := T5.setTop (mkF m 246 #[.val (.int p0), .val (.int p1), .val (.int p2), .val (.int p3), .val (.int p4), .val (.int a1), .val (.int a2), .val (.int la), .val (.int (p4 &&& (3 : Int32))), .val (.int bc1), .val (.int bc2), .val (.int lb), .val (.int pA), .val (.int pB), .val (.int kd), .val (.ref b1), .val .null, .unset, .unset] [(.int (1 : Int32))])) (fun _ ks => XS.iconst X5.here hx rfl (hb hby at_245)  ks) ?_
                  refine Dn.by (U' := T5.setTop (mkF m 250 #[.val (.int p0), .val (.int p1), .val (.int p2), .val (.int p3), .val (.int p4), .val (.int a1), .val (.int a2), .val (.int la), .val (.int (p4 &&& (3 : Int32))), .val (.int bc1), .val (.int bc2), .val (.int lb), .val (.int pA), .val (.int pB), .val (.int kd), .val (.ref b1), .val .null, .unset, .unset] [(.int (1 : Int32))])) (fun _ ks => XS.goto X5.here hx rfl (pc0 := 246) (pc' := 250) rfl (hb hby at_246) (by decide) (by decide) ks) ?_
                  refine Dn.by (U' := T5.setTop (mkF m 252 #[.val (.int p0), .val (.int p1), .val (.int p2), .val (.int p3), .val (.int p4), .val (.int a1), .val (.int a2), .val (.int la), .val (.int (p4 &&& (3 : Int32))), .val (.int bc1), .val (.int bc2), .val (.int lb), .val (.int pA), .val (.int pB), .val (.int kd), .val (.ref b1), .val .null, .val (.int (1 : Int32)), .unset] [])) (fun _ ks => XS.istore X5.here hx rfl (hb hby at_250) rfl (l' := #[.val (.int p0), .val (.int p1), .val (.int p2), .val (.int p3), .val (.int p4), .val (.int a1), .val (.int a2), .val (.int la), .val (.int (p4 &&& (3 : Int32))), .val (.int bc1), .val (.int bc2), .val (.int lb), .val (.int pA), .val (.int pB), .val (.int kd), .val (.ref b1), .val .null, .val (.int (1 : Int32)), .unset]) rfl ks) ?_
                  refine Dn.by (U' := T5.setTop (mkF m 254 #[.val (.int p0), .val (.int p1), .val (.int p2), .val (.int p3), .val (.int p4), .val (.int a1), .val (.int a2), .val (.int la), .val (.int (p4 &&& (3 : Int32))), .val (.int bc1), .val (.int bc2), .val (.int lb), .val (.int pA), .val (.int pB), .val (.int kd), .val (.ref b1), .val .null, .val (.int (1 : Int32)), .unset] [(.int kd)])) (fun _ ks => XS.iload X5.here hx rfl (hb hby at_252) rfl ks) ?_
                  refine Dn.by (U' := T5.setTop (mkF m 255 #[.val (.int p0), .val (.int p1), .val (.int p2), .val (.int p3), .val (.int p4), .val (.int a1), .val (.int a2), .val (.int la), .val (.int (p4 &&& (3 : Int32))), .val (.int bc1), .val (.int bc2), .val (.int lb), .val (.int pA), .val (.int pB), .val (.int kd), .val (.ref b1), .val .null, .val (.int (1 : Int32)), .unset] [(.int (1 : Int32)), (.int kd)])) (fun _ ks => XS.iconst X5.here hx rfl (hb hby at_254)  ks) ?_
                  refine Dn.by (U' := T5.setTop (mkF m 274 #[.val (.int p0), .val (.int p1), .val (.int p2), .val (.int p3), .val (.int p4), .val (.int a1), .val (.int a2), .val (.int la), .val (.int (p4 &&& (3 : Int32))), .val (.int bc1), .val (.int bc2), .val (.int lb), .val (.int pA), .val (.int pB), .val (.int kd), .val (.ref b1), .val .null, .val (.int (1 : Int32)), .unset] [])) (fun _ ks => XS.icmpYes X5.here hx rfl (pc0 := 255) (pc' := 274) rfl (hb hby at_255) rfl (tlt c169_7).2.2.1 (by decide) (by decide) ks) ?_
                  refine Dn.by (U' := T5.setTop (mkF m 275 #[.val (.int p0), .val (.int p1), .val (.int p2), .val (.int p3), .val (.int p4), .val (.int a1), .val (.int a2), .val (.int la), .val (.int (p4 &&& (3 : Int32))), .val (.int bc1), .val (.int bc2), .val (.int lb), .val (.int pA), .val (.int pB), .val (.int kd), .val (.ref b1), .val .null, .val (.int (1 : Int32)), .unset] [(.int (0 : Int32))])) (fun _ ks => XS.iconst X5.here hx rfl (hb hby at_274)  ks) ?_
                  refine Dn.by (U' := T5.setTop (mkF m 277 #[.val (.int p0), .val (.int p1), .val (.int p2), .val (.int p3), .val (.int p4), .val (.int a1), .val (.int a2), .val (.int la), .val (.int (p4 &&& (3 : Int32))), .val (.int bc1), .val (.int bc2), .val (.int lb), .val (.int pA), .val (.int pB), .val (.int kd), .val (.ref b1), .val .null, .val (.int (1 : Int32)), .val (.int (0 : Int32))] [])) (fun _ ks => XS.istore X5.here hx rfl (hb hby at_275) rfl (l' := #[.val (.int p0), .val (.int p1), .val (.int p2), .val (.int p3), .val (.int p4), .val (.int a1), .val (.int a2), .val (.int la), .val (.int (p4 &&& (3 : Int32))), .val (.int bc1), .val (.int bc2), .val (.int lb), .val (.int pA), .val (.int pB), .val (.int kd), .val (.ref b1), .val .null, .val (.int (1 : Int32)), .val (.int (0 : Int32))]) rfl ks) ?_
                  refine Dn.by (U' := T5.setTop (mkF m 279 #[.val (.int p0), .val (.int p1), .val (.int p2), .val (.int p3), .val (.int p4), .val (.int a1), .val (.int a2), .val (.int la), .val (.int (p4 &&& (3 : Int32))), .val (.int bc1), .val (.int bc2), .val (.int lb), .val (.int pA), .val (.int pB), .val (.int kd), .val (.ref b1), .val .null, .val (.int (1 : Int32)), .val (.int (0 : Int32))] [(.ref b1)])) (fun _ ks => XS.aload X5.here hx rfl (hb hby at_277) rfl rfl ks) ?_
                  refine Dn.by (U' := T5.setTop (mkF m 281 #[.val (.int p0), .val (.int p1), .val (.int p2), .val (.int p3), .val (.int p4), .val (.int a1), .val (.int a2), .val (.int la), .val (.int (p4 &&& (3 : Int32))), .val (.int bc1), .val (.int bc2), .val (.int lb), .val (.int pA), .val (.int pB), .val (.int kd), .val (.ref b1), .val .null, .val (.int (1 : Int32)), .val (.int (0 : Int32))] [.null, (.ref b1)])) (fun _ ks => XS.aload X5.here hx rfl (hb hby at_279) rfl rfl ks) ?_
                  obtain ⟨cq25, kq25, qa25, qb25, qc25⟩ := isOf hZ rfl ((A1.keep KK3).keep KK5)
                  obtain ⟨_, _, ⟨T25, L25, k25, n25⟩, -, X25, ⟨Lc25, hQ25, l25, y25, z25⟩, st25⟩ := X5.virtualBack hx (y := (⟨"com/example/ferrywire/ferrywire/wire/HostPort", "equals", "(Ljava/lang/Object;)Z"⟩ : MethodName)) (z := (⟨"com/example/ferrywire/ferrywire/wire/HostPort", "equals", "(Ljava/lang/Object;)Z"⟩ : MethodName)) hown (mvT hZ (hw _ (List.mem_of_getElem? (i := 52) rfl))) (mvT hZ (hw _ (List.mem_of_getElem? (i := 53) rfl))) (notFace_of_selects (args := #[]) (mvT hZ (hw _ (List.mem_of_getElem? (i := 55) rfl)))) (mvT hZ (hw _ (List.mem_of_getElem? (i := 55) rfl))) (mvT hZ (hw _ (List.mem_of_getElem? (i := 54) rfl))) (by decide) (backOf (W := 0) (rm10n l Z a0 hw [] b1  T5.heap n0 z6 ) hZ (hw _ (List.mem_of_getElem? (i := 56) rfl)) (hw _ (List.mem_of_getElem? (i := 3) rfl)) (by decide) (by decide)) qa25 qc25 (g := (mkF m 281 #[.val (.int p0), .val (.int p1), .val (.int p2), .val (.int p3), .val (.int p4), .val (.int a1), .val (.int a2), .val (.int la), .val (.int (p4 &&& (3 : Int32))), .val (.int bc1), .val (.int bc2), .val (.int lb), .val (.int pA), .val (.int pB), .val (.int kd), .val (.ref b1), .val .null, .val (.int (1 : Int32)), .val (.int (0 : Int32))] [.null, (.ref b1)])) rfl (by rw [hml]; rfl) (Steps.refl _) (argsL := [.null]) (rest := []) (lenOf pd2 rfl) rfl (by show 2 * 0 + _ ≤ _; exact Nat.le_of_eq rfl) (hb hby at_281) (fun _ _ => ⟨rfl, rfl, (by decide : 4 + 0 ≤ _), (by decide : 10 + 0 ≤ _)⟩)
                  dsimp only [Pt.U, Pt.locs, Pt.cells, Pt.slots] at X25 l25 y25 z25 st25 hQ25
                  rw [l25, y25, z25] at X25
                  obtain ⟨rfl, N25q, e25⟩ := hQ25
                  have N25 := Fr.app N5 N25q
                  refine Dn.by (U' := T25.setTop (mkF m 284 #[.val (.int p0), .val (.int p1), .val (.int p2), .val (.int p3), .val (.int p4), .val (.int a1), .val (.int a2), .val (.int la), .val (.int (p4 &&& (3 : Int32))), .val (.int bc1), .val (.int bc2), .val (.int lb), .val (.int pA), .val (.int pB), .val (.int kd), .val (.ref b1), .val .null, .val (.int (1 : Int32)), .val (.int (0 : Int32))] [(.int (0 : Int32))])) (fun _ ks => st25.trans ks) ?_
                  refine Dn.by (U' := T25.setTop (mkF m 286 #[.val (.int p0), .val (.int p1), .val (.int p2), .val (.int p3), .val (.int p4), .val (.int a1), .val (.int a2), .val (.int la), .val (.int (p4 &&& (3 : Int32))), .val (.int bc1), .val (.int bc2), .val (.int lb), .val (.int pA), .val (.int pB), .val (.int kd), .val (.ref b1), .val .null, .val (.int (1 : Int32)), .val (.int (0 : Int32))] [(.int (0 : Int32)), (.int (0 : Int32))])) (fun _ ks => XS.iload X25.here hx rfl (hb hby at_284) rfl ks) ?_
                  refine Dn.by (U' := T25.setTop (mkF m 289 #[.val (.int p0), .val (.int p1), .val (.int p2), .val (.int p3), .val (.int p4), .val (.int a1), .val (.int a2), .val (.int la), .val (.int (p4 &&& (3 : Int32))), .val (.int bc1), .val (.int bc2), .val (.int lb), .val (.int pA), .val (.int pB), .val (.int kd), .val (.ref b1), .val .null, .val (.int (1 : Int32)), .val (.int (0 : Int32))] [])) (fun _ ks => XS.icmpNo X25.here hx rfl (hb hby at_286) rfl (by decide) ks) ?_
                  refine Dn.by (U' := T25.setTop (mkF m 290 #[.val (.int p0), .val (.int p1), .val (.int p2), .val (.int p3), .val (.int p4), .val (.int a1), .val (.int a2), .val (.int la), .val (.int (p4 &&& (3 : Int32))), .val (.int bc1), .val (.int bc2), .val (.int lb), .val (.int pA), .val (.int pB), .val (.int kd), .val (.ref b1), .val .null, .val (.int (1 : Int32)), .val (.int (0 : Int32))] [(.int (1 : Int32))])) (fun _ ks => XS.iconst X25.here hx rfl (hb hby at_289)  ks) ?_
                  refine Dn.by (U' := T25.setTop (mkF m 294 #[.val (.int p0), .val (.int p1), .val (.int p2), .val (.int p3), .val (.int p4), .val (.int a1), .val (.int a2), .val (.int la), .val (.int (p4 &&& (3 : Int32))), .val (.int bc1), .val (.int bc2), .val (.int lb), .val (.int pA), .val (.int pB), .val (.int kd), .val (.ref b1), .val .null, .val (.int (1 : Int32)), .val (.int (0 : Int32))] [(.int (1 : Int32))])) (fun _ ks => XS.goto X25.here hx rfl (pc0 := 290) (pc' := 294) rfl (hb hby at_290) (by decide) (by decide) ks) ?_
                  refine Dn.out X25 (v := (some (.int (1 : Int32)))) (fun h => by rw [Bd.returns] at h; cases h) (BodyLoose.notSynchronized Bd) (fun _ hr => retN X25 hx (t := .boolean) Bd.returns (by simp) (hb hby at_294) hr) (by decide) (by decide) ?_
                  rw [e25]
                  exact ⟨rfl, N25⟩
                ·
                  refine Dn.by (U' := T5.setTop (mkF m 249 #[.val (.int p0), .val (.int p1), .val (.int p2), .val (.int p3), .val (.int p4), .val (.int a1), .val (.int a2), .val (.int la), .val (.int (p4 &&& (3 : Int32))), .val (.int bc1), .val (.int bc2), .val (.int lb), .val (.int pA), .val (.int pB), .val (.int kd), .val (.ref b1), .val .null, .unset, .unset] [])) (fun _ ks => XS.icmpYes X5.here hx rfl (pc0 := 242) (pc' := 249) rfl (hb hby at_242) rfl (feq c242_24).2 (by decide) (by decide) ks) ?_
                  refine Dn.by (U' := T5.setTop (mkF m 250 #[.val (.int p0), .val (.int p1), .val (.int p2), .val (.int p3), .val (.int p4), .val (.int a1), .val (.int a2), .val (.int la), .val (.int (p4 &&& (3 : Int32))), .val (.int bc1), .val (.int bc2), .val (.int lb), .val (.int pA), .val (.int pB), .val (.int kd), .val (.ref b1), .val .null, .unset, .unset] [(.int (0 : Int32))])) (fun _ ks => XS.iconst X5.here hx rfl (hb hby at_249)  ks) ?_
                  refine Dn.by (U' := T5.setTop (mkF m 252 #[.val (.int p0), .val (.int p1), .val (.int p2), .val (.int p3), .val (.int p4), .val (.int a1), .val (.int a2), .val (.int la), .val (.int (p4 &&& (3 : Int32))), .val (.int bc1), .val (.int bc2), .val (.int lb), .val (.int pA), .val (.int pB), .val (.int kd), .val (.ref b1), .val .null, .val (.int (0 : Int32)), .unset] [])) (fun _ ks => XS.istore X5.here hx rfl (hb hby at_250) rfl (l' := #[.val (.int p0), .val (.int p1), .val (.int p2), .val (.int p3), .val (.int p4), .val (.int a1), .val (.int a2), .val (.int la), .val (.int (p4 &&& (3 : Int32))), .val (.int bc1), .val (.int bc2), .val (.int lb), .val (.int pA), .val (.int pB), .val (.int kd), .val (.ref b1), .val .null, .val (.int (0 : Int32)), .unset]) rfl ks) ?_
                  refine Dn.by (U' := T5.setTop (mkF m 254 #[.val (.int p0), .val (.int p1), .val (.int p2), .val (.int p3), .val (.int p4), .val (.int a1), .val (.int a2), .val (.int la), .val (.int (p4 &&& (3 : Int32))), .val (.int bc1), .val (.int bc2), .val (.int lb), .val (.int pA), .val (.int pB), .val (.int kd), .val (.ref b1), .val .null, .val (.int (0 : Int32)), .unset] [(.int kd)])) (fun _ ks => XS.iload X5.here hx rfl (hb hby at_252) rfl ks) ?_
                  refine Dn.by (U' := T5.setTop (mkF m 255 #[.val (.int p0), .val (.int p1), .val (.int p2), .val (.int p3), .val (.int p4), .val (.int a1), .val (.int a2), .val (.int la), .val (.int (p4 &&& (3 : Int32))), .val (.int bc1), .val (.int bc2), .val (.int lb), .val (.int pA), .val (.int pB), .val (.int kd), .val (.ref b1), .val .null, .val (.int (0 : Int32)), .unset] [(.int (1 : Int32)), (.int kd)])) (fun _ ks => XS.iconst X5.here hx rfl (hb hby at_254)  ks) ?_
                  refine Dn.by (U' := T5.setTop (mkF m 274 #[.val (.int p0), .val (.int p1), .val (.int p2), .val (.int p3), .val (.int p4), .val (.int a1), .val (.int a2), .val (.int la), .val (.int (p4 &&& (3 : Int32))), .val (.int bc1), .val (.int bc2), .val (.int lb), .val (.int pA), .val (.int pB), .val (.int kd), .val (.ref b1), .val .null, .val (.int (0 : Int32)), .unset] [])) (fun _ ks => XS.icmpYes X5.here hx rfl (pc0 := 255) (pc' := 274) rfl (hb hby at_255) rfl (tlt c169_7).2.2.1 (by decide) (by decide) ks) ?_
                  refine Dn.by (U' := T5.setTop (mkF m 275 #[.val (.int p0), .val (.int p1), .val (.int p2), .val (.int p3), .val (.int p4), .val (.int a1), .val (.int a2), .val (.int la), .val (.int (p4 &&& (3 : Int32))), .val (.int bc1), .val (.int bc2), .val (.int lb), .val (.int pA), .val (.int pB), .val (.int kd), .val (.ref b1), .val .null, .val (.int (0 : Int32)), .unset] [(.int (0 : Int32))])) (fun _ ks => XS.iconst X5.here hx rfl (hb hby at_274)  ks) ?_
                  refine Dn.by (U' := T5.setTop (mkF m 277 #[.val (.int p0), .val (.int p1), .val (.int p2), .val (.int p3), .val (.int p4), .val (.int a1), .val (.int a2), .val (.int la), .val (.int (p4 &&& (3 : Int32))), .val (.int bc1), .val (.int bc2), .val (.int lb), .val (.int pA), .val (.int pB), .val (.int kd), .val (.ref b1), .val .null, .val (.int (0 : Int32)), .val (.int (0 : Int32))] [])) (fun _ ks => XS.istore X5.here hx rfl (hb hby at_275) rfl (l' := #[.val (.int p0), .val (.int p1), .val (.int p2), .val (.int p3), .val (.int p4), .val (.int a1), .val (.int a2), .val (.int la), .val (.int (p4 &&& (3 : Int32))), .val (.int bc1), .val (.int bc2), .val (.int lb), .val (.int pA), .val (.int pB), .val (.int kd), .val (.ref b1), .val .null, .val (.int (0 : Int32)), .val (.int (0 : Int32))]) rfl ks) ?_
                  refine Dn.by (U' := T5.setTop (mkF m 279 #[.val (.int p0), .val (.int p1), .val (.int p2), .val (.int p3), .val (.int p4), .val (.int a1), .val (.int a2), .val (.int la), .val (.int (p4 &&& (3 : Int32))), .val (.int bc1), .val (.int bc2), .val (.int lb), .val (.int pA), .val (.int pB), .val (.int kd), .val (.ref b1), .val .null, .val (.int (0 : Int32)), .val (.int (0 : Int32))] [(.ref b1)])) (fun _ ks => XS.aload X5.here hx rfl (hb hby at_277) rfl rfl ks) ?_
                  refine Dn.by (U' := T5.setTop (mkF m 281 #[.val (.int p0), .val (.int p1), .val (.int p2), .val (.int p3), .val (.int p4), .val (.int a1), .val (.int a2), .val (.int la), .val (.int (p4 &&& (3 : Int32))), .val (.int bc1), .val (.int bc2), .val (.int lb), .val (.int pA), .val (.int pB), .val (.int kd), .val (.ref b1), .val .null, .val (.int (0 : Int32)), .val (.int (0 : Int32))] [.null, (.ref b1)])) (fun _ ks => XS.aload X5.here hx rfl (hb hby at_279) rfl rfl ks) ?_
                  obtain ⟨cq26, kq26, qa26, qb26, qc26⟩ := isOf hZ rfl ((A1.keep KK3).keep KK5)
                  obtain ⟨_, _, ⟨T26, L26, k26, n26⟩, -, X26, ⟨Lc26, hQ26, l26, y26, z26⟩, st26⟩ := X5.virtualBack hx (y := (⟨"com/example/ferrywire/ferrywire/wire/HostPort", "equals", "(Ljava/lang/Object;)Z"⟩ : MethodName)) (z := (⟨"com/example/ferrywire/ferrywire/wire/HostPort", "equals", "(Ljava/lang/Object;)Z"⟩ : MethodName)) hown (mvT hZ (hw _ (List.mem_of_getElem? (i := 52) rfl))) (mvT hZ (hw _ (List.mem_of_getElem? (i := 53) rfl))) (notFace_of_selects (args := #[]) (mvT hZ (hw _ (List.mem_of_getElem? (i := 55) rfl)))) (mvT hZ (hw _ (List.mem_of_getElem? (i := 55) rfl))) (mvT hZ (hw _ (List.mem_of_getElem? (i := 54) rfl))) (by decide) (backOf (W := 0) (rm10n l Z a0 hw [] b1  T5.heap n0 z6 ) hZ (hw _ (List.mem_of_getElem? (i := 56) rfl)) (hw _ (List.mem_of_getElem? (i := 3) rfl)) (by decide) (by decide)) qa26 qc26 (g := (mkF m 281 #[.val (.int p0), .val (.int p1), .val (.int p2), .val (.int p3), .val (.int p4), .val (.int a1), .val (.int a2), .val (.int la), .val (.int (p4 &&& (3 : Int32))), .val (.int bc1), .val (.int bc2), .val (.int lb), .val (.int pA), .val (.int pB), .val (.int kd), .val (.ref b1), .val .null, .val (.int (0 : Int32)), .val (.int (0 : Int32))] [.null, (.ref b1)])) rfl (by rw [hml]; rfl) (Steps.refl _) (argsL := [.null]) (rest := []) (lenOf pd2 rfl) rfl (by show 2 * 0 + _ ≤ _; exact Nat.le_of_eq rfl) (hb hby at_281) (fun _ _ => ⟨rfl, rfl, (by decide : 4 + 0 ≤ _), (by decide : 10 + 0 ≤ _)⟩)
                  dsimp only [Pt.U, Pt.locs, Pt.cells, Pt.slots] at X26 l26 y26 z26 st26 hQ26
                  rw [l26, y26, z26] at X26
                  obtain ⟨rfl, N26q, e26⟩ := hQ26
                  have N26 := Fr.app N5 N26q
                  refine Dn.by (U' := T26.setTop (mkF m 284 #[.val (.int p0), .val (.int p1), .val (.int p2), .val (.int p3), .val (.int p4), .val (.int a1), .val (.int a2), .val (.int la), .val (.int (p4 &&& (3 : Int32))), .val (.int bc1), .val (.int bc2), .val (.int lb), .val (.int pA), .val (.int pB), .val (.int kd), .val (.ref b1), .val .null, .val (.int (0 : Int32)), .val (.int (0 : Int32))] [(.int (0 : Int32))])) (fun _ ks => st26.trans ks) ?_
                  refine Dn.by (U' := T26.setTop (mkF m 286 #[.val (.int p0), .val (.int p1), .val (.int p2), .val (.int p3), .val (.int p4), .val (.int a1), .val (.int a2), .val (.int la), .val (.int (p4 &&& (3 : Int32))), .val (.int bc1), .val (.int bc2), .val (.int lb), .val (.int pA), .val (.int pB), .val (.int kd), .val (.ref b1), .val .null, .val (.int (0 : Int32)), .val (.int (0 : Int32))] [(.int (0 : Int32)), (.int (0 : Int32))])) (fun _ ks => XS.iload X26.here hx rfl (hb hby at_284) rfl ks) ?_
                  refine Dn.by (U' := T26.setTop (mkF m 289 #[.val (.int p0), .val (.int p1), .val (.int p2), .val (.int p3), .val (.int p4), .val (.int a1), .val (.int a2), .val (.int la), .val (.int (p4 &&& (3 : Int32))), .val (.int bc1), .val (.int bc2), .val (.int lb), .val (.int pA), .val (.int pB), .val (.int kd), .val (.ref b1), .val .null, .val (.int (0 : Int32)), .val (.int (0 : Int32))] [])) (fun _ ks => XS.icmpNo X26.here hx rfl (hb hby at_286) rfl (by decide) ks) ?_
                  refine Dn.by (U' := T26.setTop (mkF m 290 #[.val (.int p0), .val (.int p1), .val (.int p2), .val (.int p3), .val (.int p4), .val (.int a1), .val (.int a2), .val (.int la), .val (.int (p4 &&& (3 : Int32))), .val (.int bc1), .val (.int bc2), .val (.int lb), .val (.int pA), .val (.int pB), .val (.int kd), .val (.ref b1), .val .null, .val (.int (0 : Int32)), .val (.int (0 : Int32))] [(.int (1 : Int32))])) (fun _ ks => XS.iconst X26.here hx rfl (hb hby at_289)  ks) ?_
                  refine Dn.by (U' := T26.setTop (mkF m 294 #[.val (.int p0), .val (.int p1), .val (.int p2), .val (.int p3), .val (.int p4), .val (.int a1), .val (.int a2), .val (.int la), .val (.int (p4 &&& (3 : Int32))), .val (.int bc1), .val (.int bc2), .val (.int lb), .val (.int pA), .val (.int pB), .val (.int kd), .val (.ref b1), .val .null, .val (.int (0 : Int32)), .val (.int (0 : Int32))] [(.int (1 : Int32))])) (fun _ ks => XS.goto X26.here hx rfl (pc0 := 290) (pc' := 294) rfl (hb hby at_290) (by decide) (by decide) ks) ?_
                  refine Dn.out X26 (v := (some (.int (1 : Int32)))) (fun h => by rw [Bd.returns] at h; cases h) (BodyLoose.notSynchronized Bd) (fun _ hr => retN X26 hx (t := .boolean) Bd.returns (by simp) (hb hby at_294) hr) (by decide) (by decide) ?_
                  rw [e26]
                  exact ⟨rfl, N26⟩
            ·
              refine Dn.by (U' := T5.setTop (mkF m 249 #[.val (.int p0), .val (.int p1), .val (.int p2), .val (.int p3), .val (.int p4), .val (.int a1), .val (.int a2), .val (.int la), .val (.int (p4 &&& (3 : Int32))), .val (.int bc1), .val (.int bc2), .val (.int lb), .val (.int pA), .val (.int pB), .val (.int kd), .val (.ref b1), .val .null, .unset, .unset] [])) (fun _ ks => XS.icmpYes X5.here hx rfl (pc0 := 229) (pc' := 249) rfl (hb hby at_229) rfl (feq c229_21).2 (by decide) (by decide) ks) ?_
              refine Dn.by (U' := T5.setTop (mkF m 250 #[.val (.int p0), .val (.int p1), .val (.int p2), .val (.int p3), .val (.int p4), .val (.int a1), .val (.int a2), .val (.int la), .val (.int (p4 &&& (3 : Int32))), .val (.int bc1), .val (.int bc2), .val (.int lb), .val (.int pA), .val (.int pB), .val (.int kd), .val (.ref b1), .val .null, .unset, .unset] [(.int (0 : Int32))])) (fun _ ks => XS.iconst X5.here hx rfl (hb hby at_249)  ks) ?_
              refine Dn.by (U' := T5.setTop (mkF m 252 #[.val (.int p0), .val (.int p1), .val (.int p2), .val (.int p3), .val (.int p4), .val (.int a1), .val (.int a2), .val (.int la), .val (.int (p4 &&& (3 : Int32))), .val (.int bc1), .val (.int bc2), .val (.int lb), .val (.int pA), .val (.int pB), .val (.int kd), .val (.ref b1), .val .null, .val (.int (0 : Int32)), .unset] [])) (fun _ ks => XS.istore X5.here hx rfl (hb hby at_250) rfl (l' := #[.val (.int p0), .val (.int p1), .val (.int p2), .val (.int p3), .val (.int p4), .val (.int a1), .val (.int a2), .val (.int la), .val (.int (p4 &&& (3 : Int32))), .val (.int bc1), .val (.int bc2), .val (.int lb), .val (.int pA), .val (.int pB), .val (.int kd), .val (.ref b1), .val .null, .val (.int (0 : Int32)), .unset]) rfl ks) ?_
              refine Dn.by (U' := T5.setTop (mkF m 254 #[.val (.int p0), .val (.int p1), .val (.int p2), .val (.int p3), .val (.int p4), .val (.int a1), .val (.int a2), .val (.int la), .val (.int (p4 &&& (3 : Int32))), .val (.int bc1), .val (.int bc2), .val (.int lb), .val (.int pA), .val (.int pB), .val (.int kd), .val (.ref b1), .val .null, .val (.int (0 : Int32)), .unset] [(.int kd)])) (fun _ ks => XS.iload X5.here hx rfl (hb hby at_252) rfl ks) ?_
              refine Dn.by (U' := T5.setTop (mkF m 255 #[.val (.int p0), .val (.int p1), .val (.int p2), .val (.int p3), .val (.int p4), .val (.int a1), .val (.int a2), .val (.int la), .val (.int (p4 &&& (3 : Int32))), .val (.int bc1), .val (.int bc2), .val (.int lb), .val (.int pA), .val (.int pB), .val (.int kd), .val (.ref b1), .val .null, .val (.int (0 : Int32)), .unset] [(.int (1 : Int32)), (.int kd)])) (fun _ ks => XS.iconst X5.here hx rfl (hb hby at_254)  ks) ?_
              refine Dn.by (U' := T5.setTop (mkF m 274 #[.val (.int p0), .val (.int p1), .val (.int p2), .val (.int p3), .val (.int p4), .val (.int a1), .val (.int a2), .val (.int la), .val (.int (p4 &&& (3 : Int32))), .val (.int bc1), .val (.int bc2), .val (.int lb), .val (.int pA), .val (.int pB), .val (.int kd), .val (.ref b1), .val .null, .val (.int (0 : Int32)), .unset] [])) (fun _ ks => XS.icmpYes X5.here hx rfl (pc0 := 255) (pc' := 274) rfl (hb hby at_255) rfl (tlt c169_7).2.2.1 (by decide) (by decide) ks) ?_
              refine Dn.by (U' := T5.setTop (mkF m 275 #[.val (.int p0), .val (.int p1), .val (.int p2), .val (.int p3), .val (.int p4), .val (.int a1), .val (.int a2), .val (.int la), .val (.int (p4 &&& (3 : Int32))), .val (.int bc1), .val (.int bc2), .val (.int lb), .val (.int pA), .val (.int pB), .val (.int kd), .val (.ref b1), .val .null, .val (.int (0 : Int32)), .unset] [(.int (0 : Int32))])) (fun _ ks => XS.iconst X5.here hx rfl (hb hby at_274)  ks) ?_
              refine Dn.by (U' := T5.setTop (mkF m 277 #[.val (.int p0), .val (.int p1), .val (.int p2), .val (.int p3), .val (.int p4), .val (.int a1), .val (.int a2), .val (.int la), .val (.int (p4 &&& (3 : Int32))), .val (.int bc1), .val (.int bc2), .val (.int lb), .val (.int pA), .val (.int pB), .val (.int kd), .val (.ref b1), .val .null, .val (.int (0 : Int32)), .val (.int (0 : Int32))] [])) (fun _ ks => XS.istore X5.here hx rfl (hb hby at_275) rfl (l' := #[.val (.int p0), .val (.int p1), .val (.int p2), .val (.int p3), .val (.int p4), .val (.int a1), .val (.int a2), .val (.int la), .val (.int (p4 &&& (3 : Int32))), .val (.int bc1), .val (.int bc2), .val (.int lb), .val (.int pA), .val (.int pB), .val (.int kd), .val (.ref b1), .val .null, .val (.int (0 : Int32)), .val (.int (0 : Int32))]) rfl ks) ?_
              refine Dn.by (U' := T5.setTop (mkF m 279 #[.val (.int p0), .val (.int p1), .val (.int p2), .val (.int p3), .val (.int p4), .val (.int a1), .val (.int a2), .val (.int la), .val (.int (p4 &&& (3 : Int32))), .val (.int bc1), .val (.int bc2), .val (.int lb), .val (.int pA), .val (.int pB), .val (.int kd), .val (.ref b1), .val .null, .val (.int (0 : Int32)), .val (.int (0 : Int32))] [(.ref b1)])) (fun _ ks => XS.aload X5.here hx rfl (hb hby at_277) rfl rfl ks) ?_
              refine Dn.by (U' := T5.setTop (mkF m 281 #[.val (.int p0), .val (.int p1), .val (.int p2), .val (.int p3), .val (.int p4), .val (.int a1), .val (.int a2), .val (.int la), .val (.int (p4 &&& (3 : Int32))), .val (.int bc1), .val (.int bc2), .val (.int lb), .val (.int pA), .val (.int pB), .val (.int kd), .val (.ref b1), .val .null, .val (.int (0 : Int32)), .val (.int (0 : Int32))] [.null, (.ref b1)])) (fun _ ks => XS.aload X5.here hx rfl (hb hby at_279) rfl rfl ks) ?_
              obtain ⟨cq27, kq27, qa27, qb27, qc27⟩ := isOf hZ rfl ((A1.keep KK3).keep KK5)
              obtain ⟨_, _, ⟨T27, L27, k27, n27⟩, -, X27, ⟨Lc27, hQ27, l27, y27, z27⟩, st27⟩ := X5.virtualBack hx (y := (⟨"com/example/ferrywire/ferrywire/wire/HostPort", "equals", "(Ljava/lang/Object;)Z"⟩ : MethodName)) (z := (⟨"com/example/ferrywire/ferrywire/wire/HostPort", "equals", "(Ljava/lang/Object;)Z"⟩ : MethodName)) hown (mvT hZ (hw _ (List.mem_of_getElem? (i := 52) rfl))) (mvT hZ (hw _ (List.mem_of_getElem? (i := 53) rfl))) (notFace_of_selects (args := #[]) (mvT hZ (hw _ (List.mem_of_getElem? (i := 55) rfl)))) (mvT hZ (hw _ (List.mem_of_getElem? (i := 55) rfl))) (mvT hZ (hw _ (List.mem_of_getElem? (i := 54) rfl))) (by decide) (backOf (W := 0) (rm10n l Z a0 hw [] b1  T5.heap n0 z6 ) hZ (hw _ (List.mem_of_getElem? (i := 56) rfl)) (hw _ (List.mem_of_getElem? (i := 3) rfl)) (by decide) (by decide)) qa27 qc27 (g := (mkF m 281 #[.val (.int p0), .val (.int p1), .val (.int p2), .val (.int p3), .val (.int p4), .val (.int a1), .val (.int a2), .val (.int la), .val (.int (p4 &&& (3 : Int32))), .val (.int bc1), .val (.int bc2), .val (.int lb), .val (.int pA), .val (.int pB), .val (.int kd), .val (.ref b1), .val .null, .val (.int (0 : Int32)), .val (.int (0 : Int32))] [.null, (.ref b1)])) rfl (by rw [hml]; rfl) (Steps.refl _) (argsL := [.null]) (rest := []) (lenOf pd2 rfl) rfl (by show 2 * 0 + _ ≤ _; exact Nat.le_of_eq rfl) (hb hby at_281) (fun _ _ => ⟨rfl, rfl, (by decide : 4 + 0 ≤ _), (by decide : 10 + 0 ≤ _)⟩)
              dsimp only [Pt.U, Pt.locs, Pt.cells, Pt.slots] at X27 l27 y27 z27 st27 hQ27
              rw [l27, y27, z27] at X27
              obtain ⟨rfl, N27q, e27⟩ := hQ27
              have N27 := Fr.app N5 N27q
              refine Dn.by (U' := T27.setTop (mkF m 284 #[.val (.int p0), .val (.int p1), .val (.int p2), .val (.int p3), .val (.int p4), .val (.int a1), .val (.int a2), .val (.int la), .val (.int (p4 &&& (3 : Int32))), .val (.int bc1), .val (.int bc2), .val (.int lb), .val (.int pA), .val (.int pB), .val (.int kd), .val (.ref b1), .val .null, .val (.int (0 : Int32)), .val (.int (0 : Int32))] [(.int (0 : Int32))])) (fun _ ks => st27.trans ks) ?_
              refine Dn.by (U' := T27.setTop (mkF m 286 #[.val (.int p0), .val (.int p1), .val (.int p2), .val (.int p3), .val (.int p4), .val (.int a1), .val (.int a2), .val (.int la), .val (.int (p4 &&& (3 : Int32))), .val (.int bc1), .val (.int bc2), .val (.int lb), .val (.int pA), .val (.int pB), .val (.int kd), .val (.ref b1), .val .null, .val (.int (0 : Int32)), .val (.int (0 : Int32))] [(.int (0 : Int32)), (.int (0 : Int32))])) (fun _ ks => XS.iload X27.here hx rfl (hb hby at_284) rfl ks) ?_
              refine Dn.by (U' := T27.setTop (mkF m 289 #[.val (.int p0), .val (.int p1), .val (.int p2), .val (.int p3), .val (.int p4), .val (.int a1), .val (.int a2), .val (.int la), .val (.int (p4 &&& (3 : Int32))), .val (.int bc1), .val (.int bc2), .val (.int lb), .val (.int pA), .val (.int pB), .val (.int kd), .val (.ref b1), .val .null, .val (.int (0 : Int32)), .val (.int (0 : Int32))] [])) (fun _ ks => XS.icmpNo X27.here hx rfl (hb hby at_286) rfl (by decide) ks) ?_
              refine Dn.by (U' := T27.setTop (mkF m 290 #[.val (.int p0), .val (.int p1), .val (.int p2), .val (.int p3), .val (.int p4), .val (.int a1), .val (.int a2), .val (.int la), .val (.int (p4 &&& (3 : Int32))), .val (.int bc1), .val (.int bc2), .val (.int lb), .val (.int pA), .val (.int pB), .val (.int kd), .val (.ref b1), .val .null, .val (.int (0 : Int32)), .val (.int (0 : Int32))] [(.int (1 : Int32))])) (fun _ ks => XS.iconst X27.here hx rfl (hb hby at_289)  ks) ?_
              refine Dn.by (U' := T27.setTop (mkF m 294 #[.val (.int p0), .val (.int p1), .val (.int p2), .val (.int p3), .val (.int p4), .val (.int a1), .val (.int a2), .val (.int la), .val (.int (p4 &&& (3 : Int32))), .val (.int bc1), .val (.int bc2), .val (.int lb), .val (.int pA), .val (.int pB), .val (.int kd), .val (.ref b1), .val .null, .val (.int (0 : Int32)), .val (.int (0 : Int32))] [(.int (1 : Int32))])) (fun _ ks => XS.goto X27.here hx rfl (pc0 := 290) (pc' := 294) rfl (hb hby at_290) (by decide) (by decide) ks) ?_
              refine Dn.out X27 (v := (some (.int (1 : Int32)))) (fun h => by rw [Bd.returns] at h; cases h) (BodyLoose.notSynchronized Bd) (fun _ hr => retN X27 hx (t := .boolean) Bd.returns (by simp) (hb hby at_294) hr) (by decide) (by decide) ?_
              rw [e27]
              exact ⟨rfl, N27⟩
          ·
            refine Dn.by (U' := T5.setTop (mkF m 249 #[.val (.int p0), .val (.int p1), .val (.int p2), .val (.int p3), .val (.int p4), .val (.int a1), .val (.int a2), .val (.int la), .val (.int (p4 &&& (3 : Int32))), .val (.int bc1), .val (.int bc2), .val (.int lb), .val (.int pA), .val (.int pB), .val (.int kd), .val (.ref b1), .val .null, .unset, .unset] [])) (fun _ ks => XS.icmpYes X5.here hx rfl (pc0 := 222) (pc' := 249) rfl (hb hby at_222) rfl (feq c222_20).2 (by decide) (by decide) ks) ?_
            refine Dn.by (U' := T5.setTop (mkF m 250 #[.val (.int p0), .val (.int p1), .val (.int p2), .val (.int p3), .val (.int p4), .val (.int a1), .val (.int a2), .val (.int la), .val (.int (p4 &&& (3 : Int32))), .val (.int bc1), .val (.int bc2), .val (.int lb), .val (.int pA), .val (.int pB), .val (.int kd), .val (.ref b1), .val .null, .unset, .unset] [(.int (0 : Int32))])) (fun _ ks => XS.iconst X5.here hx rfl (hb hby at_249)  ks) ?_
            refine Dn.by (U' := T5.setTop (mkF m 252 #[.val (.int p0), .val (.int p1), .val (.int p2), .val (.int p3), .val (.int p4), .val (.int a1), .val (.int a2), .val (.int la), .val (.int (p4 &&& (3 : Int32))), .val (.int bc1), .val (.int bc2), .val (.int lb), .val (.int pA), .val (.int pB), .val (.int kd), .val (.ref b1), .val .null, .val (.int (0 : Int32)), .unset] [])) (fun _ ks => XS.istore X5.here hx rfl (hb hby at_250) rfl (l' := #[.val (.int p0), .val (.int p1), .val (.int p2), .val (.int p3), .val (.int p4), .val (.int a1), .val (.int a2), .val (.int la), .val (.int (p4 &&& (3 : Int32))), .val (.int bc1), .val (.int bc2), .val (.int lb), .val (.int pA), .val (.int pB), .val (.int kd), .val (.ref b1), .val .null, .val (.int (0 : Int32)), .unset]) rfl ks) ?_
            refine Dn.by (U' := T5.setTop (mkF m 254 #[.val (.int p0), .val (.int p1), .val (.int p2), .val (.int p3), .val (.int p4), .val (.int a1), .val (.int a2), .val (.int la), .val (.int (p4 &&& (3 : Int32))), .val (.int bc1), .val (.int bc2), .val (.int lb), .val (.int pA), .val (.int pB), .val (.int kd), .val (.ref b1), .val .null, .val (.int (0 : Int32)), .unset] [(.int kd)])) (fun _ ks => XS.iload X5.here hx rfl (hb hby at_252) rfl ks) ?_
            refine Dn.by (U' := T5.setTop (mkF m 255 #[.val (.int p0), .val (.int p1), .val (.int p2), .val (.int p3), .val (.int p4), .val (.int a1), .val (.int a2), .val (.int la), .val (.int (p4 &&& (3 : Int32))), .val (.int bc1), .val (.int bc2), .val (.int lb), .val (.int pA), .val (.int pB), .val (.int kd), .val (.ref b1), .val .null, .val (.int (0 : Int32)), .unset] [(.int (1 : Int32)), (.int kd)])) (fun _ ks => XS.iconst X5.here hx rfl (hb hby at_254)  ks) ?_
            refine Dn.by (U' := T5.setTop (mkF m 274 #[.val (.int p0), .val (.int p1), .val (.int p2), .val (.int p3), .val (.int p4), .val (.int a1), .val (.int a2), .val (.int la), .val (.int (p4 &&& (3 : Int32))), .val (.int bc1), .val (.int bc2), .val (.int lb), .val (.int pA), .val (.int pB), .val (.int kd), .val (.ref b1), .val .null, .val (.int (0 : Int32)), .unset] [])) (fun _ ks => XS.icmpYes X5.here hx rfl (pc0 := 255) (pc' := 274) rfl (hb hby at_255) rfl (tlt c169_7).2.2.1 (by decide) (by decide) ks) ?_
            refine Dn.by (U' := T5.setTop (mkF m 275 #[.val (.int p0), .val (.int p1), .val (.int p2), .val (.int p3), .val (.int p4), .val (.int a1), .val (.int a2), .val (.int la), .val (.int (p4 &&& (3 : Int32))), .val (.int bc1), .val (.int bc2), .val (.int lb), .val (.int pA), .val (.int pB), .val (.int kd), .val (.ref b1), .val .null, .val (.int (0 : Int32)), .unset] [(.int (0 : Int32))])) (fun _ ks => XS.iconst X5.here hx rfl (hb hby at_274)  ks) ?_
            refine Dn.by (U' := T5.setTop (mkF m 277 #[.val (.int p0), .val (.int p1), .val (.int p2), .val (.int p3), .val (.int p4), .val (.int a1), .val (.int a2), .val (.int la), .val (.int (p4 &&& (3 : Int32))), .val (.int bc1), .val (.int bc2), .val (.int lb), .val (.int pA), .val (.int pB), .val (.int kd), .val (.ref b1), .val .null, .val (.int (0 : Int32)), .val (.int (0 : Int32))] [])) (fun _ ks => XS.istore X5.here hx rfl (hb hby at_275) rfl (l' := #[.val (.int p0), .val (.int p1), .val (.int p2), .val (.int p3), .val (.int p4), .val (.int a1), .val (.int a2), .val (.int la), .val (.int (p4 &&& (3 : Int32))), .val (.int bc1), .val (.int bc2), .val (.int lb), .val (.int pA), .val (.int pB), .val (.int kd), .val (.ref b1), .val .null, .val (.int (0 : Int32)), .val (.int (0 : Int32))]) rfl ks) ?_
            refine Dn.by (U' := T5.setTop (mkF m 279 #[.val (.int p0), .val (.int p1), .val (.int p2), .val (.int p3), .val (.int p4), .val (.int a1), .val (.int a2), .val (.int la), .val (.int (p4 &&& (3 : Int32))), .val (.int bc1), .val (.int bc2), .val (.int lb), .val (.int pA), .val (.int pB), .val (.int kd), .val (.ref b1), .val .null, .val (.int (0 : Int32)), .val (.int (0 : Int32))] [(.ref b1)])) (fun _ ks => XS.aload X5.here hx rfl (hb hby at_277) rfl rfl ks) ?_
            refine Dn.by (U' := T5.setTop (mkF m 281 #[.val (.int p0), .val (.int p1), .val (.int p2), .val (.int p3), .val (.int p4), .val (.int a1), .val (.int a2), .val (.int la), .val (.int (p4 &&& (3 : Int32))), .val (.int bc1), .val (.int bc2), .val (.int lb), .val (.int pA), .val (.int pB), .val (.int kd), .val (.ref b1), .val .null, .val (.int (0 : Int32)), .val (.int (0 : Int32))] [.null, (.ref b1)])) (fun _ ks => XS.aload X5.here hx rfl (hb hby at_279) rfl rfl ks) ?_
            obtain ⟨cq28, kq28, qa28, qb28, qc28⟩ := isOf hZ rfl ((A1.keep KK3).keep KK5)
            obtain ⟨_, _, ⟨T28, L28, k28, n28⟩, -, X28, ⟨Lc28, hQ28, l28, y28, z28⟩, st28⟩ := X5.virtualBack hx (y := (⟨"com/example/ferrywire/ferrywire/wire/HostPort", "equals", "(Ljava/lang/Object;)Z"⟩ : MethodName)) (z := (⟨"com/example/ferrywire/ferrywire/wire/HostPort", "equals", "(Ljava/lang/Object;)Z"⟩ : MethodName)) hown (mvT hZ (hw _ (List.mem_of_getElem? (i := 52) rfl))) (mvT hZ (hw _ (List.mem_of_getElem? (i := 53) rfl))) (notFace_of_selects (args := #[]) (mvT hZ (hw _ (List.mem_of_getElem? (i := 55) rfl)))) (mvT hZ (hw _ (List.mem_of_getElem? (i := 55) rfl))) (mvT hZ (hw _ (List.mem_of_getElem? (i := 54) rfl))) (by decide) (backOf (W := 0) (rm10n l Z a0 hw [] b1  T5.heap n0 z6 ) hZ (hw _ (List.mem_of_getElem? (i := 56) rfl)) (hw _ (List.mem_of_getElem? (i := 3) rfl)) (by decide) (by decide)) qa28 qc28 (g := (mkF m 281 #[.val (.int p0), .val (.int p1), .val (.int p2), .val (.int p3), .val (.int p4), .val (.int a1), .val (.int a2), .val (.int la), .val (.int (p4 &&& (3 : Int32))), .val (.int bc1), .val (.int bc2), .val (.int lb), .val (.int pA), .val (.int pB), .val (.int kd), .val (.ref b1), .val .null, .val (.int (0 : Int32)), .val (.int (0 : Int32))] [.null, (.ref b1)])) rfl (by rw [hml]; rfl) (Steps.refl _) (argsL := [.null]) (rest := []) (lenOf pd2 rfl) rfl (by show 2 * 0 + _ ≤ _; exact Nat.le_of_eq rfl) (hb hby at_281) (fun _ _ => ⟨rfl, rfl, (by decide : 4 + 0 ≤ _), (by decide : 10 + 0 ≤ _)⟩)
            dsimp only [Pt.U, Pt.locs, Pt.cells, Pt.slots] at X28 l28 y28 z28 st28 hQ28
            rw [l28, y28, z28] at X28
            obtain ⟨rfl, N28q, e28⟩ := hQ28
            have N28 := Fr.app N5 N28q
            refine Dn.by (U' := T28.setTop (mkF m 284 #[.val (.int p0), .val (.int p1), .val (.int p2), .val (.int p3), .val (.int p4), .val (.int a1), .val (.int a2), .val (.int la), .val (.int (p4 &&& (3 : Int32))), .val (.int bc1), .val (.int bc2), .val (.int lb), .val (.int pA), .val (.int pB), .val (.int kd), .val (.ref b1), .val .null, .val (.int (0 : Int32)), .val (.int (0 : Int32))] [(.int (0 : Int32))])) (fun _ ks => st28.trans ks) ?_
            refine Dn.by (U' := T28.setTop (mkF m 286 #[.val (.int p0), .val (.int p1), .val (.int p2), .val (.int p3), .val (.int p4), .val (.int a1), .val (.int a2), .val (.int la), .val (.int (p4 &&& (3 : Int32))), .val (.int bc1), .val (.int bc2), .val (.int lb), .val (.int pA), .val (.int pB), .val (.int kd), .val (.ref b1), .val .null, .val (.int (0 : Int32)), .val (.int (0 : Int32))] [(.int (0 : Int32)), (.int (0 : Int32))])) (fun _ ks => XS.iload X28.here hx rfl (hb hby at_284) rfl ks) ?_
            refine Dn.by (U' := T28.setTop (mkF m 289 #[.val (.int p0), .val (.int p1), .val (.int p2), .val (.int p3), .val (.int p4), .val (.int a1), .val (.int a2), .val (.int la), .val (.int (p4 &&& (3 : Int32))), .val (.int bc1), .val (.int bc2), .val (.int lb), .val (.int pA), .val (.int pB), .val (.int kd), .val (.ref b1), .val .null, .val (.int (0 : Int32)), .val (.int (0 : Int32))] [])) (fun _ ks => XS.icmpNo X28.here hx rfl (hb hby at_286) rfl (by decide) ks) ?_
            refine Dn.by (U' := T28.setTop (mkF m 290 #[.val (.int p0), .val (.int p1), .val (.int p2), .val (.int p3), .val (.int p4), .val (.int a1), .val (.int a2), .val (.int la), .val (.int (p4 &&& (3 : Int32))), .val (.int bc1), .val (.int bc2), .val (.int lb), .val (.int pA), .val (.int pB), .val (.int kd), .val (.ref b1), .val .null, .val (.int (0 : Int32)), .val (.int (0 : Int32))] [(.int (1 : Int32))])) (fun _ ks => XS.iconst X28.here hx rfl (hb hby at_289)  ks) ?_
            refine Dn.by (U' := T28.setTop (mkF m 294 #[.val (.int p0), .val (.int p1), .val (.int p2), .val (.int p3), .val (.int p4), .val (.int a1), .val (.int a2), .val (.int la), .val (.int (p4 &&& (3 : Int32))), .val (.int bc1), .val (.int bc2), .val (.int lb), .val (.int pA), .val (.int pB), .val (.int kd), .val (.ref b1), .val .null, .val (.int (0 : Int32)), .val (.int (0 : Int32))] [(.int (1 : Int32))])) (fun _ ks => XS.goto X28.here hx rfl (pc0 := 290) (pc' := 294) rfl (hb hby at_290) (by decide) (by decide) ks) ?_
            refine Dn.out X28 (v := (some (.int (1 : Int32)))) (fun h => by rw [Bd.returns] at h; cases h) (BodyLoose.notSynchronized Bd) (fun _ hr => retN X28 hx (t := .boolean) Bd.returns (by simp) (hb hby at_294) hr) (by decide) (by decide) ?_
            rw [e28]
            exact ⟨rfl, N28⟩
      ·
        refine Dn.by (U' := T5.setTop (mkF m 172 #[.val (.int p0), .val (.int p1), .val (.int p2), .val (.int p3), .val (.int p4), .val (.int a1), .val (.int a2), .val (.int la), .val (.int (p4 &&& (3 : Int32))), .val (.int bc1), .val (.int bc2), .val (.int lb), .val (.int pA), .val (.int pB), .val (.int kd), .val (.ref b1), .unset, .unset, .unset] [])) (fun _ ks => XS.icmpNo X5.here hx rfl (hb hby at_169) rfl (flt c169_7).2.2.1 ks) ?_
        obtain ⟨T29, h29, X29, e29, E29, A29, D29, -, st29⟩ := newO X5 hx hZ hown (hw _ (List.mem_of_getElem? (i := 1) rfl)) (hw _ (List.mem_of_getElem? (i := 2) rfl)) (hw _ (List.mem_of_getElem? (i := 3) rfl)) rfl (g := (mkF m 172 #[.val (.int p0), .val (.int p1), .val (.int p2), .val (.int p3), .val (.int p4), .val (.int a1), .val (.int a2), .val (.int la), .val (.int (p4 &&& (3 : Int32))), .val (.int bc1), .val (.int bc2), .val (.int lb), .val (.int pA), .val (.int pB), .val (.int kd), .val (.ref b1), .unset, .unset, .unset] [])) rfl (hb hby at_172) (by decide) (by decide)
        obtain ⟨b29, g29⟩ : ∃ z, z = T5.heap.size := ⟨_, rfl⟩
        rw [← g29] at A29 D29 st29
        have g_b29 : n0 ≤ b29 := Nat.le_trans z6 (Nat.le_of_eq g29.symm)
        have sz_b29 : h0.size ≤ b29 := Nat.le_trans K6.1 (Nat.le_of_eq g29.symm)
        have ne_b1_b29 : b1 ≠ b29 := Nat.ne_of_lt (Nat.lt_of_lt_of_le ((A1.keep KK3).keep KK5).lt (Nat.le_of_eq g29.symm))
        have ne_b3_b29 : b3 ≠ b29 := Nat.ne_of_lt (Nat.lt_of_lt_of_le (EE3.keep KK5).lt (Nat.le_of_eq g29.symm))
        have ne_t3_b29 : t3 ≠ b29 := Nat.ne_of_lt (Nat.lt_of_lt_of_le (VV3.keep KK5 (ninS (Ne.symm ne_b1_t3) nin0)).lt (Nat.le_of_eq g29.symm))
        have K30 : Keep h0 h29 [] := (K6.ext E29)
        have z30 : n0 ≤ h29.size := (Nat.le_trans z6 E29.1)
        have O30 : Old Z n0 h29 := O6.ext E29
        have F_host_b29 : Fld Z h29 b29 "com/example/ferrywire/ferrywire/wire/HostPort" "host" "Ljava/lang/String;" .null := D29 (Or.inr (hw _ (List.mem_of_getElem? (i := 49) rfl))) (ty := (.object "java/lang/String")) (by decide)
        have F_port_b29 : Fld Z h29 b29 "com/example/ferrywire/ferrywire/wire/HostPort" "port" "I" (.int (0 : Int32)) := D29 (Or.inr (hw _ (List.mem_of_getElem? (i := 51) rfl))) (ty := .int) (by decide)
        refine Dn.by (U' := T29.setTop (mkF m 175 #[.val (.int p0), .val (.int p1), .val (.int p2), .val (.int p3), .val (.int p4), .val (.int a1), .val (.int a2), .val (.int la), .val (.int (p4 &&& (3 : Int32))), .val (.int bc1), .val (.int bc2), .val (.int lb), .val (.int pA), .val (.int pB), .val (.int kd), .val (.ref b1), .unset, .unset, .unset] [(.ref b29)])) st29 ?_
        refine Dn.by (U' := T29.setTop (mkF m 176 #[.val (.int p0), .val (.int p1), .val (.int p2), .val (.int p3), .val (.int p4), .val (.int a1), .val (.int a2), .val (.int la), .val (.int (p4 &&& (3 : Int32))), .val (.int bc1), .val (.int bc2), .val (.int lb), .val (.int pA), .val (.int pB), .val (.int kd), .val (.ref b1), .unset, .unset, .unset] [(.ref b29), (.ref b29)])) (fun _ ks => XS.dup X29.here hx rfl (hb hby at_175) rfl rfl ks) ?_
        refine Dn.by (U' := T29.setTop (mkF m 178 #[.val (.int p0), .val (.int p1), .val (.int p2), .val (.int p3), .val (.int p4), .val (.int a1), .val (.int a2), .val (.int la), .val (.int (p4 &&& (3 : Int32))), .val (.int bc1), .val (.int bc2), .val (.int lb), .val (.int pA), .val (.int pB), .val (.int kd), .val (.ref b1), .unset, .unset, .unset] [(.int bc1), (.ref b29), (.ref b29)])) (fun _ ks => XS.iload X29.here hx rfl (hb hby at_176) rfl ks) ?_
        refine Dn.by (U' := T29.setTop (mkF m 180 #[.val (.int p0), .val (.int p1), .val (.int p2), .val (.int p3), .val (.int p4), .val (.int a1), .val (.int a2), .val (.int la), .val (.int (p4 &&& (3 : Int32))), .val (.int bc1), .val (.int bc2), .val (.int lb), .val (.int pA), .val (.int pB), .val (.int kd), .val (.ref b1), .unset, .unset, .unset] [(.int bc2), (.int bc1), (.ref b29), (.ref b29)])) (fun _ ks => XS.iload X29.here hx rfl (hb hby at_178) rfl ks) ?_
        refine Dn.by (U' := T29.setTop (mkF m 182 #[.val (.int p0), .val (.int p1), .val (.int p2), .val (.int p3), .val (.int p4), .val (.int a1), .val (.int a2), .val (.int la), .val (.int (p4 &&& (3 : Int32))), .val (.int bc1), .val (.int bc2), .val (.int lb), .val (.int pA), .val (.int pB), .val (.int kd), .val (.ref b1), .unset, .unset, .unset] [(.int lb), (.int bc2), (.int bc1), (.ref b29), (.ref b29)])) (fun _ ks => XS.iload X29.here hx rfl (hb hby at_180) rfl ks) ?_
        obtain ⟨_, _, ⟨T31, L31, k31, n31⟩, -, X31, ⟨Lc31, hQ31, l31, y31, z31⟩, st31⟩ := Jvm.LawKit.callS X29 hx (y := (⟨"com/example/ferrywire/ferrywire/wire/HostPortEqualsPinLaw", "make", "(CCI)Ljava/lang/String;"⟩ : MethodName)) hown (mvT hZ (hw _ (List.mem_of_getElem? (i := 4) rfl))) (mvT hZ (hw _ (List.mem_of_getElem? (i := 5) rfl))) (mvT hZ (hw _ (List.mem_of_getElem? (i := 6) rfl))) (mvT hZ (hw _ (List.mem_of_getElem? (i := 7) rfl))) (by decide) (backOf (W := 2) (rm1 l Z a0 hw [] bc1 bc2 lb cs h29 n0 z30 (S_cs.ext O30.2) hcs hbc1 hbc2) hZ (hw _ (List.mem_of_getElem? (i := 7) rfl)) (hw _ (List.mem_of_getElem? (i := 6) rfl)) (by decide) (by decide)) (g := (mkF m 182 #[.val (.int p0), .val (.int p1), .val (.int p2), .val (.int p3), .val (.int p4), .val (.int a1), .val (.int a2), .val (.int la), .val (.int (p4 &&& (3 : Int32))), .val (.int bc1), .val (.int bc2), .val (.int lb), .val (.int pA), .val (.int pB), .val (.int kd), .val (.ref b1), .unset, .unset, .unset] [(.int lb), (.int bc2), (.int bc1), (.ref b29), (.ref b29)])) rfl (by rw [hml]; rfl) (argsL := [(.int bc1), (.int bc2), (.int lb)]) (rest := [(.ref b29), (.ref b29)]) (lenOf pd3 rfl) rfl (by show 2 * 0 + _ ≤ _; exact Nat.le_of_eq rfl) (hb hby at_182) (fun _ _ => ⟨rfl, e29, (by decide : 5 + 3 ≤ _), (by decide : 12 + 8 ≤ _)⟩)
        dsimp only [Pt.U, Pt.locs, Pt.cells, Pt.slots] at X31 l31 y31 z31 st31 hQ31
        rw [l31, y31, z31] at X31
        obtain ⟨b31, t31, kb31, rfl, N31q, zb31, zt31, KK31, EE31, FC31, FV31, VV31⟩ := hQ31
        have N31 := Fr.app N5 N31q
        have g_b31 : n0 ≤ b31 := Nat.le_trans z30 zb31
        have sz_b31 : h0.size ≤ b31 := Nat.le_trans K30.1 zb31
        have ne_b1_b31 : b1 ≠ b31 := Nat.ne_of_lt (Nat.lt_of_lt_of_le (((A1.keep KK3).keep KK5).ext E29).lt zb31)
        have ne_b3_b31 : b3 ≠ b31 := Nat.ne_of_lt (Nat.lt_of_lt_of_le ((EE3.keep KK5).ext E29).lt zb31)
        have ne_t3_b31 : t3 ≠ b31 := Nat.ne_of_lt (Nat.lt_of_lt_of_le ((VV3.keep KK5 (ninS (Ne.symm ne_b1_t3) nin0)).ext E29).lt zb31)
        have ne_b29_b31 : b29 ≠ b31 := Nat.ne_of_lt (Nat.lt_of_lt_of_le A29.lt zb31)
        have g_t31 : n0 ≤ t31 := Nat.le_trans z30 zt31
        have sz_t31 : h0.size ≤ t31 := Nat.le_trans K30.1 zt31
        have ne_b1_t31 : b1 ≠ t31 := Nat.ne_of_lt (Nat.lt_of_lt_of_le (((A1.keep KK3).keep KK5).ext E29).lt zt31)
        have ne_b3_t31 : b3 ≠ t31 := Nat.ne_of_lt (Nat.lt_of_lt_of_le ((EE3.keep KK5).ext E29).lt zt31)
        have ne_t3_t31 : t3 ≠ t31 := Nat.ne_of_lt (Nat.lt_of_lt_of_le ((VV3.keep KK5 (ninS (Ne.symm ne_b1_t3) nin0)).ext E29).lt zt31)
        have ne_b29_t31 : b29 ≠ t31 := Nat.ne_of_lt (Nat.lt_of_lt_of_le A29.lt zt31)
        have K32 : Keep h0 T31.heap [] := (K30.trans KK31 all0)
        have z32 : n0 ≤ T31.heap.size := (Nat.le_trans z30 KK31.1)
        have O32 : Old Z n0 T31.heap := O30.keep KK31 all0
        refine Dn.by (U' := T31.setTop (mkF m 185 #[.val (.int p0), .val (.int p1), .val (.int p2), .val (.int p3), .val (.int p4), .val (.int a1), .val (.int a2), .val (.int la), .val (.int (p4 &&& (3 : Int32))), .val (.int bc1), .val (.int bc2), .val (.int lb), .val (.int pA), .val (.int pB), .val (.int kd), .val (.ref b1), .unset, .unset, .unset] [(.ref b31), (.ref b29), (.ref b29)])) st31 ?_
        refine Dn.by (U' := T31.setTop (mkF m 187 #[.val (.int p0), .val (.int p1), .val (.int p2), .val (.int p3), .val (.int p4), .val (.int a1), .val (.int a2), .val (.int la), .val (.int (p4 &&& (3 : Int32))), .val (.int bc1), .val (.int bc2), .val (.int lb), .val (.int pA), .val (.int pB), .val (.int kd), .val (.ref b1), .unset, .unset, .unset] [(.int pB), (.ref b31), (.ref b29), (.ref b29)])) (fun _ ks => XS.iload X31.here hx rfl (hb hby at_185) rfl ks) ?_
        obtain ⟨_, _, ⟨T33, L33, k33, n33⟩, -, X33, ⟨Lc33, hQ33, l33, y33, z33⟩, st33⟩ := X31.specialBack hx (y := (⟨"com/example/ferrywire/ferrywire/wire/HostPort", "<init>", "(Ljava/lang/String;I)V"⟩ : MethodName)) rfl hown (mvT hZ (hw _ (List.mem_of_getElem? (i := 38) rfl))) (mvT hZ (hw _ (List.mem_of_getElem? (i := 39) rfl))) (mvT hZ (hw _ (List.mem_of_getElem? (i := 40) rfl))) (by decide) (backOf (W := 1) (rm8 l Z a0 hw [] b29 b31 pB t31 kb31 (mkS bc1 bc2 lb) (.null : Value) ((.int (0 : Int32)) : Value) T31.heap n0 z32 EE31 FC31 FV31 VV31 (own_mkp bc1 bc2 lb hbc1 hbc2) (own_mkl bc1 bc2 lb) (own_mkz bc1 bc2 lb) hpB g_b29 (A29.keep KK31) (F_host_b29.keep KK31 nin0) (F_port_b29.keep KK31 nin0)) hZ (hw _ (List.mem_of_getElem? (i := 40) rfl)) (hw _ (List.mem_of_getElem? (i := 3) rfl)) (by decide) (by decide)) (g := (mkF m 187 #[.val (.int p0), .val (.int p1), .val (.int p2), .val (.int p3), .val (.int p4), .val (.int a1), .val (.int a2), .val (.int la), .val (.int (p4 &&& (3 : Int32))), .val (.int bc1), .val (.int bc2), .val (.int lb), .val (.int pA), .val (.int pB), .val (.int kd), .val (.ref b1), .unset, .unset, .unset] [(.int pB), (.ref b31), (.ref b29), (.ref b29)])) rfl (by rw [hml]; rfl) (Steps.refl _) (a := b29) (argsL := [(.ref b31), (.int pB)]) (rest := [(.ref b29)]) (lenOf pd4 rfl) rfl (by show 2 * 0 + _ ≤ _; exact Nat.le_of_eq rfl) (hb hby at_187) (fun _ _ => ⟨rfl, rfl, (by decide : 8 + 0 ≤ _), (by decide : 20 + 0 ≤ _)⟩)
        dsimp only [Pt.U, Pt.locs, Pt.cells, Pt.slots] at X33 l33 y33 z33 st33 hQ33
        rw [l33, y33, z33] at X33
        obtain ⟨rfl, N33q, KK33, EE33, FF33_0, FF33_1⟩ := hQ33
        have N33 := Fr.app N31 N33q
        have K34 : Keep h0 T33.heap [] := (K32.trans KK33 (allS (Or.inr sz_b29) all0))
        have z34 : n0 ≤ T33.heap.size := (Nat.le_trans z32 KK33.1)
        have O34 : Old Z n0 T33.heap := O32.keep KK33 (allS g_b29 all0)
        refine Dn.by (U' := T33.setTop (mkF m 190 #[.val (.int p0), .val (.int p1), .val (.int p2), .val (.int p3), .val (.int p4), .val (.int a1), .val (.int a2), .val (.int la), .val (.int (p4 &&& (3 : Int32))), .val (.int bc1), .val (.int bc2), .val (.int lb), .val (.int pA), .val (.int pB), .val (.int kd), .val (.ref b1), .unset, .unset, .unset] [(.ref b29)])) (fun _ ks => st33.trans ks) ?_
        refine Dn.by (U' := T33.setTop (mkF m 192 #[.val (.int p0), .val (.int p1), .val (.int p2), .val (.int p3), .val (.int p4), .val (.int a1), .val (.int a2), .val (.int la), .val (.int (p4 &&& (3 : Int32))), .val (.int bc1), .val (.int bc2), .val (.int lb), .val (.int pA), .val (.int pB), .val (.int kd), .val (.ref b1), .val (.ref b29), .unset, .unset] [])) (fun _ ks => XS.astore X33.here hx rfl (hb hby at_190) rfl rfl (l' := #[.val (.int p0), .val (.int p1), .val (.int p2), .val (.int p3), .val (.int p4), .val (.int a1), .val (.int a2), .val (.int la), .val (.int (p4 &&& (3 : Int32))), .val (.int bc1), .val (.int bc2), .val (.int lb), .val (.int pA), .val (.int pB), .val (.int kd), .val (.ref b1), .val (.ref b29), .unset, .unset]) rfl ks) ?_
        refine Dn.by (U' := T33.setTop (mkF m 218 #[.val (.int p0), .val (.int p1), .val (.int p2), .val (.int p3), .val (.int p4), .val (.int a1), .val (.int a2), .val (.int la), .val (.int (p4 &&& (3 : Int32))), .val (.int bc1), .val (.int bc2), .val (.int lb), .val (.int pA), .val (.int pB), .val (.int kd), .val (.ref b1), .val (.ref b29), .unset, .unset] [])) (fun _ ks => XS.goto X33.here hx rfl (pc0 := 192) (pc' := 218) rfl (hb hby at_192) (by decide) (by decide) ks) ?_
        refine Dn.by (U' := T33.setTop (mkF m 220 #[.val (.int p0), .val (.int p1), .val (.int p2), .val (.int p3), .val (.int p4), .val (.int a1), .val (.int a2), .val (.int la), .val (.int (p4 &&& (3 : Int32))), .val (.int bc1), .val (.int bc2), .val (.int lb), .val (.int pA), .val (.int pB), .val (.int kd), .val (.ref b1), .val (.ref b29), .unset, .unset] [(.int la)])) (fun _ ks => XS.iload X33.here hx rfl (hb hby at_218) rfl ks) ?_
        refine Dn.by (U' := T33.setTop (mkF m 222 #[.val (.int p0), .val (.int p1), .val (.int p2), .val (.int p3), .val (.int p4), .val (.int a1), .val (.int a2), .val (.int la), .val (.int (p4 &&& (3 : Int32))), .val (.int bc1), .val (.int bc2), .val (.int lb), .val (.int pA), .val (.int pB), .val (.int kd), .val (.ref b1), .val (.ref b29), .unset, .unset] [(.int lb), (.int la)])) (fun _ ks => XS.iload X33.here hx rfl (hb hby at_220) rfl ks) ?_
        by_cases c222_35 : la = lb
        ·
          refine Dn.by (U' := T33.setTop (mkF m 225 #[.val (.int p0), .val (.int p1), .val (.int p2), .val (.int p3), .val (.int p4), .val (.int a1), .val (.int a2), .val (.int la), .val (.int (p4 &&& (3 : Int32))), .val (.int bc1), .val (.int bc2), .val (.int lb), .val (.int pA), .val (.int pB), .val (.int kd), .val (.ref b1), .val (.ref b29), .unset, .unset] [])) (fun _ ks => XS.icmpNo X33.here hx rfl (hb hby at_222) rfl (teq c222_35).2 ks) ?_
          refine Dn.by (U' := T33.setTop (mkF m 227 #[.val (.int p0), .val (.int p1), .val (.int p2), .val (.int p3), .val (.int p4), .val (.int a1), .val (.int a2), .val (.int la), .val (.int (p4 &&& (3 : Int32))), .val (.int bc1), .val (.int bc2), .val (.int lb), .val (.int pA), .val (.int pB), .val (.int kd), .val (.ref b1), .val (.ref b29), .unset, .unset] [(.int a1)])) (fun _ ks => XS.iload X33.here hx rfl (hb hby at_225) rfl ks) ?_
          refine Dn.by (U' := T33.setTop (mkF m 229 #[.val (.int p0), .val (.int p1), .val (.int p2), .val (.int p3), .val (.int p4), .val (.int a1), .val (.int a2), .val (.int la), .val (.int (p4 &&& (3 : Int32))), .val (.int bc1), .val (.int bc2), .val (.int lb), .val (.int pA), .val (.int pB), .val (.int kd), .val (.ref b1), .val (.ref b29), .unset, .unset] [(.int bc1), (.int a1)])) (fun _ ks => XS.iload X33.here hx rfl (hb hby at_227) rfl ks) ?_
          by_cases c229_36 : a1 = bc1
          ·
            refine Dn.by (U' := T33.setTop (mkF m 232 #[.val (.int p0), .val (.int p1), .val (.int p2), .val (.int p3), .val (.int p4), .val (.int a1), .val (.int a2), .val (.int la), .val (.int (p4 &&& (3 : Int32))), .val (.int bc1), .val (.int bc2), .val (.int lb), .val (.int pA), .val (.int pB), .val (.int kd), .val (.ref b1), .val (.ref b29), .unset, .unset] [])) (fun _ ks => XS.icmpNo X33.here hx rfl (hb hby at_229) rfl (teq c229_36).2 ks) ?_
            refine Dn.by (U' := T33.setTop (mkF m 234 #[.val (.int p0), .val (.int p1), .val (.int p2), .val (.int p3), .val (.int p4), .val (.int a1), .val (.int a2), .val (.int la), .val (.int (p4 &&& (3 : Int32))), .val (.int bc1), .val (.int bc2), .val (.int lb), .val (.int pA), .val (.int pB), .val (.int kd), .val (.ref b1), .val (.ref b29), .unset, .unset] [(.int la)])) (fun _ ks => XS.iload X33.here hx rfl (hb hby at_232) rfl ks) ?_
            refine Dn.by (U' := T33.setTop (mkF m 235 #[.val (.int p0), .val (.int p1), .val (.int p2), .val (.int p3), .val (.int p4), .val (.int a1), .val (.int a2), .val (.int la), .val (.int (p4 &&& (3 : Int32))), .val (.int bc1), .val (.int bc2), .val (.int lb), .val (.int pA), .val (.int pB), .val (.int kd), .val (.ref b1), .val (.ref b29), .unset, .unset] [(.int (1 : Int32)), (.int la)])) (fun _ ks => XS.iconst X33.here hx rfl (hb hby at_234)  ks) ?_
            by_cases c235_37 : la = (1 : Int32)
            ·
              refine Dn.by (U' := T33.setTop (mkF m 245 #[.val (.int p0), .val (.int p1), .val (.int p2), .val (.int p3), .val (.int p4), .val (.int a1), .val (.int a2), .val (.int la), .val (.int (p4 &&& (3 : Int32))), .val (.int bc1), .val (.int bc2), .val (.int lb), .val (.int pA), .val (.int pB), .val (.int kd), .val (.ref b1), .val (.ref b29), .unset, .unset] [])) (fun _ ks => XS.icmpYes X33.here hx rfl (pc0 := 235) (pc' := 245) rfl (hb hby at_235) rfl (teq c235_37).1 (by decide) (by decide) ks) ?_
              refine Dn.by (U' := T33.setTop (mkF m 246 #[.val (.int p0), .val (.int p1), .val (.int p2), .val (.int p3), .val (.int p4), .val (.int a1), .val (.int a2), .val (.int la), .val (.int (p4 &&& (3 : Int32))), .val (.int bc1), .val (.int bc2), .val (.int lb), .val (.int pA), .val (.int pB), .val (.int kd), .val (.ref b1), .val (.ref b29), .unset, .unset] [(.int (1 : Int32))])) (fun _ ks => XS.iconst X33.here hx rfl (hb hby at_245)  ks) ?_
              refine Dn.by (U' := T33.setTop (mkF m 250 #[.val (.int p0), .val (.int p1), .val (.int p2), .val (.int p3), .val (.int p4), .val (.int a1), .val (.int a2), .val (.int la), .val (.int (p4 &&& (3 : Int32))), .val (.int bc1), .val (.int bc2), .val (.int lb), .val (.int pA), .val (.int pB), .val (.int kd), .val (.ref b1), .val (.ref b29), .unset, .unset] [(.int (1 : Int32))])) (fun _ ks => XS.goto X33.here hx rfl (pc0 := 246) (pc' := 250) rfl (hb hby at_246) (by decide) (by decide) ks) ?_
              refine Dn.by (U' := T33.setTop (mkF m 252 #[.val (.int p0), .val (.int p1), .val (.int p2), .val (.int p3), .val (.int p4), .val (.int a1), .val (.int a2), .val (.int la), .val (.int (p4 &&& (3 : Int32))), .val (.int bc1), .val (.int bc2), .val (.int lb), .val (.int pA), .val (.int pB), .val (.int kd), .val (.ref b1), .val (.ref b29), .val (.int (1 : Int32)), .unset] [])) (fun _ ks => XS.istore X33.here hx rfl (hb hby at_250) rfl (l' := #[.val (.int p0), .val (.int p1), .val (.int p2), .val (.int p3), .val (.int p4), .val (.int a1), .val (.int a2), .val (.int la), .val (.int (p4 &&& (3 : Int32))), .val (.int bc1), .val (.int bc2), .val (.int lb), .val (.int pA), .val (.int pB), .val (.int kd), .val (.ref b1), .val (.ref b29), .val (.int (1 : Int32)), .unset]) rfl ks) ?_
              refine Dn.by (U' := T33.setTop (mkF m 254 #[.val (.int p0), .val (.int p1), .val (.int p2), .val (.int p3), .val (.int p4), .val (.int a1), .val (.int a2), .val (.int la), .val (.int (p4 &&& (3 : Int32))), .val (.int bc1), .val (.int bc2), .val (.int lb), .val (.int pA), .val (.int pB), .val (.int kd), .val (.ref b1), .val (.ref b29), .val (.int (1 : Int32)), .unset] [(.int kd)])) (fun _ ks => XS.iload X33.here hx rfl (hb hby at_252) rfl ks) ?_
              refine Dn.by (U' := T33.setTop (mkF m 255 #[.val (.int p0), .val (.int p1), .val (.int p2), .val (.int p3), .val (.int p4), .val (.int a1), .val (.int a2), .val (.int la), .val (.int (p4 &&& (3 : Int32))), .val (.int bc1), .val (.int bc2), .val (.int lb), .val (.int pA), .val (.int pB), .val (.int kd), .val (.ref b1), .val (.ref b29), .val (.int (1 : Int32)), .unset] [(.int (1 : Int32)), (.int kd)])) (fun _ ks => XS.iconst X33.here hx rfl (hb hby at_254)  ks) ?_
              refine Dn.by (U' := T33.setTop (mkF m 258 #[.val (.int p0), .val (.int p1), .val (.int p2), .val (.int p3), .val (.int p4), .val (.int a1), .val (.int a2), .val (.int la), .val (.int (p4 &&& (3 : Int32))), .val (.int bc1), .val (.int bc2), .val (.int lb), .val (.int pA), .val (.int pB), .val (.int kd), .val (.ref b1), .val (.ref b29), .val (.int (1 : Int32)), .unset] [])) (fun _ ks => XS.icmpNo X33.here hx rfl (hb hby at_255) rfl (flt c169_7).2.2.1 ks) ?_
              refine Dn.by (U' := T33.setTop (mkF m 260 #[.val (.int p0), .val (.int p1), .val (.int p2), .val (.int p3), .val (.int p4), .val (.int a1), .val (.int a2), .val (.int la), .val (.int (p4 &&& (3 : Int32))), .val (.int bc1), .val (.int bc2), .val (.int lb), .val (.int pA), .val (.int pB), .val (.int kd), .val (.ref b1), .val (.ref b29), .val (.int (1 : Int32)), .unset] [(.int (1 : Int32))])) (fun _ ks => XS.iload X33.here hx rfl (hb hby at_258) rfl ks) ?_
              refine Dn.by (U' := T33.setTop (mkF m 263 #[.val (.int p0), .val (.int p1), .val (.int p2), .val (.int p3), .val (.int p4), .val (.int a1), .val (.int a2), .val (.int la), .val (.int (p4 &&& (3 : Int32))), .val (.int bc1), .val (.int bc2), .val (.int lb), .val (.int pA), .val (.int pB), .val (.int kd), .val (.ref b1), .val (.ref b29), .val (.int (1 : Int32)), .unset] [])) (fun _ ks => XS.ifNo X33.here hx rfl (hb hby at_260) rfl (by decide) ks) ?_
              refine Dn.by (U' := T33.setTop (mkF m 265 #[.val (.int p0), .val (.int p1), .val (.int p2), .val (.int p3), .val (.int p4), .val (.int a1), .val (.int a2), .val (.int la), .val (.int (p4 &&& (3 : Int32))), .val (.int bc1), .val (.int bc2), .val (.int lb), .val (.int pA), .val (.int pB), .val (.int kd), .val (.ref b1), .val (.ref b29), .val (.int (1 : Int32)), .unset] [(.int pA)])) (fun _ ks => XS.iload X33.here hx rfl (hb hby at_263) rfl ks) ?_
              refine Dn.by (U' := T33.setTop (mkF m 267 #[.val (.int p0), .val (.int p1), .val (.int p2), .val (.int p3), .val (.int p4), .val (.int a1), .val (.int a2), .val (.int la), .val (.int (p4 &&& (3 : Int32))), .val (.int bc1), .val (.int bc2), .val (.int lb), .val (.int pA), .val (.int pB), .val (.int kd), .val (.ref b1), .val (.ref b29), .val (.int (1 : Int32)), .unset] [(.int pB), (.int pA)])) (fun _ ks => XS.iload X33.here hx rfl (hb hby at_265) rfl ks) ?_
              by_cases c267_38 : pA = pB
              ·
                refine Dn.by (U' := T33.setTop (mkF m 270 #[.val (.int p0), .val (.int p1), .val (.int p2), .val (.int p3), .val (.int p4), .val (.int a1), .val (.int a2), .val (.int la), .val (.int (p4 &&& (3 : Int32))), .val (.int bc1), .val (.int bc2), .val (.int lb), .val (.int pA), .val (.int pB), .val (.int kd), .val (.ref b1), .val (.ref b29), .val (.int (1 : Int32)), .unset] [])) (fun _ ks => XS.icmpNo X33.here hx rfl (hb hby at_267) rfl (teq c267_38).2 ks) ?_
                refine Dn.by (U' := T33.setTop (mkF m 271 #[.val (.int p0), .val (.int p1), .val (.int p2), .val (.int p3), .val (.int p4), .val (.int a1), .val (.int a2), .val (.int la), .val (.int (p4 &&& (3 : Int32))), .val (.int bc1), .val (.int bc2), .val (.int lb), .val (.int pA), .val (.int pB), .val (.int kd), .val (.ref b1), .val (.ref b29), .val (.int (1 : Int32)), .unset] [(.int (1 : Int32))])) (fun _ ks => XS.iconst X33.here hx rfl (hb hby at_270)  ks) ?_
                refine Dn.by (U' := T33.setTop (mkF m 275 #[.val (.int p0), .val (.int p1), .val (.int p2), .val (.int p3), .val (.int p4), .val (.int a1), .val (.int a2), .val (.int la), .val (.int (p4 &&& (3 : Int32))), .val (.int bc1), .val (.int bc2), .val (.int lb), .val (.int pA), .val (.int pB), .val (.int kd), .val (.ref b1), .val (.ref b29), .val (.int (1 : Int32)), .unset] [(.int (1 : Int32))])) (fun _ ks => XS.goto X33.here hx rfl (pc0 := 271) (pc' := 275) rfl (hb hby at_271) (by decide) (by decide) ks) ?_
                refine Dn.by (U' := T33.setTop (mkF m 277 #[.val (.int p0), .val (.int p1), .val (.int p2), .val (.int p3), .val (.int p4), .val (.int a1), .val (.int a2), .val (.int la), .val (.int (p4 &&& (3 : Int32))), .val (.int bc1), .val (.int bc2), .val (.int lb), .val (.int pA), .val (.int pB), .val (.int kd), .val (.ref b1), .val (.ref b29), .val (.int (1 : Int32)), .val (.int (1 : Int32))] [])) (fun _ ks => XS.istore X33.here hx rfl (hb hby at_275) rfl (l' := #[.val (.int p0), .val (.int p1), .val (.int p2), .val (.int p3), .val (.int p4), .val (.int a1), .val (.int a2), .val (.int la), .val (.int (p4 &&& (3 : Int32))), .val (.int bc1), .val (.int bc2), .val (.int lb), .val (.int pA), .val (.int pB), .val (.int kd), .val (.ref b1), .val (.ref b29), .val (.int (1 : Int32)), .val (.int (1 : Int32))]) rfl ks) ?_
                refine Dn.by (U' := T33.setTop (mkF m 279 #[.val (.int p0), .val (.int p1), .val (.int p2), .val (.int p3), .val (.int p4), .val (.int a1), .val (.int a2), .val (.int la), .val (.int (p4 &&& (3 : Int32))), .val (.int bc1), .val (.int bc2), .val (.int lb), .val (.int pA), .val (.int pB), .val (.int kd), .val (.ref b1), .val (.ref b29), .val (.int (1 : Int32)), .val (.int (1 : Int32))] [(.ref b1)])) (fun _ ks => XS.aload X33.here hx rfl (hb hby at_277) rfl rfl ks) ?_
                refine Dn.by (U' := T33.setTop (mkF m 281 #[.val (.int p0), .val (.int p1), .val (.int p2), .val (.int p3), .val (.int p4), .val (.int a1), .val (.int a2), .val (.int la), .val (.int (p4 &&& (3 : Int32))), .val (.int bc1), .val (.int bc2), .val (.int lb), .val (.int pA), .val (.int pB), .val (.int kd), .val (.ref b1), .val (.ref b29), .val (.int (1 : Int32)), .val (.int (1 : Int32))] [(.ref b29), (.ref b1)])) (fun _ ks => XS.aload X33.here hx rfl (hb hby at_279) rfl rfl ks) ?_
                obtain ⟨cq39, kq39, qa39, qb39, qc39⟩ := isOf hZ rfl (((((A1.keep KK3).keep KK5).ext E29).keep KK31).keep KK33)
                obtain ⟨_, _, ⟨T39, L39, k39, n39⟩, -, X39, ⟨Lc39, hQ39, l39, y39, z39⟩, st39⟩ := X33.virtualBack hx (y := (⟨"com/example/ferrywire/ferrywire/wire/HostPort", "equals", "(Ljava/lang/Object;)Z"⟩ : MethodName)) (z := (⟨"com/example/ferrywire/ferrywire/wire/HostPort", "equals", "(Ljava/lang/Object;)Z"⟩ : MethodName)) hown (mvT hZ (hw _ (List.mem_of_getElem? (i := 52) rfl))) (mvT hZ (hw _ (List.mem_of_getElem? (i := 53) rfl))) (notFace_of_selects (args := #[]) (mvT hZ (hw _ (List.mem_of_getElem? (i := 55) rfl)))) (mvT hZ (hw _ (List.mem_of_getElem? (i := 55) rfl))) (mvT hZ (hw _ (List.mem_of_getElem? (i := 54) rfl))) (by decide) (backOf (W := 0) (rm10 l Z a0 hw [] b1 b29 cs b3 pA b31 pB t3 kb3 (mkS a1 a2 la) t31 kb31 (mkS bc1 bc2 lb) T33.heap n0 z34 (S_cs.ext O34.2) hcs (((FF5_0.ext E29).keep KK31 nin0).keep KK33 (ninS ne_b1_b29 nin0)) (((FF5_1.ext E29).keep KK31 nin0).keep KK33 (ninS ne_b1_b29 nin0)) FF33_0 FF33_1 ((A29.keep KK31).keep KK33) ((((EE3.keep KK5).ext E29).keep KK31).keep KK33) ((((FC3.keep KK5 (ninS (Ne.symm ne_b1_b3) nin0)).ext E29).keep KK31 nin0).keep KK33 (ninS ne_b3_b29 nin0)) ((((FV3.keep KK5 (ninS (Ne.symm ne_b1_b3) nin0)).ext E29).keep KK31 nin0).keep KK33 (ninS ne_b3_b29 nin0)) ((((VV3.keep KK5 (ninS (Ne.symm ne_b1_t3) nin0)).ext E29).keep KK31 nin0).keep KK33 (ninS ne_t3_b29 nin0)) (own_mkp a1 a2 la ha1 ha2) (own_mkl a1 a2 la) (own_mkz a1 a2 la) (EE31.keep KK33) (FC31.keep KK33 (ninS (Ne.symm ne_b29_b31) nin0)) (FV31.keep KK33 (ninS (Ne.symm ne_b29_b31) nin0)) (VV31.keep KK33 (ninS (Ne.symm ne_b29_t31) nin0)) (own_mkp bc1 bc2 lb hbc1 hbc2) (own_mkl bc1 bc2 lb) (own_mkz bc1 bc2 lb)) hZ (hw _ (List.mem_of_getElem? (i := 56) rfl)) (hw _ (List.mem_of_getElem? (i := 3) rfl)) (by decide) (by decide)) qa39 qc39 (g := (mkF m 281 #[.val (.int p0), .val (.int p1), .val (.int p2), .val (.int p3), .val (.int p4), .val (.int a1), .val (.int a2), .val (.int la), .val (.int (p4 &&& (3 : Int32))), .val (.int bc1), .val (.int bc2), .val (.int lb), .val (.int pA), .val (.int pB), .val (.int kd), .val (.ref b1), .val (.ref b29), .val (.int (1 : Int32)), .val (.int (1 : Int32))] [(.ref b29), (.ref b1)])) rfl (by rw [hml]; rfl) (Steps.refl _) (argsL := [(.ref b29)]) (rest := []) (lenOf pd2 rfl) rfl (by show 2 * 0 + _ ≤ _; exact Nat.le_of_eq rfl) (hb hby at_281) (fun _ _ => ⟨rfl, rfl, (by decide : 8 + 0 ≤ _), (by decide : 20 + 0 ≤ _)⟩)
                dsimp only [Pt.U, Pt.locs, Pt.cells, Pt.slots] at X39 l39 y39 z39 st39 hQ39
                rw [l39, y39, z39] at X39
                obtain ⟨rfl, N39q, e39⟩ := hQ39
                have N39 := Fr.app N33 N39q
                refine Dn.by (U' := T39.setTop (mkF m 284 #[.val (.int p0), .val (.int p1), .val (.int p2), .val (.int p3), .val (.int p4), .val (.int a1), .val (.int a2), .val (.int la), .val (.int (p4 &&& (3 : Int32))), .val (.int bc1), .val (.int bc2), .val (.int lb), .val (.int pA), .val (.int pB), .val (.int kd), .val (.ref b1), .val (.ref b29), .val (.int (1 : Int32)), .val (.int (1 : Int32))] [(.int (hpE b1 b29 cs b3 pA b31 pB t3 kb3 (mkS a1 a2 la) t31 kb31 (mkS bc1 bc2 lb)))])) (fun _ ks => st39.trans ks) ?_
                refine Dn.by (U' := T39.setTop (mkF m 286 #[.val (.int p0), .val (.int p1), .val (.int p2), .val (.int p3), .val (.int p4), .val (.int a1), .val (.int a2), .val (.int la), .val (.int (p4 &&& (3 : Int32))), .val (.int bc1), .val (.int bc2), .val (.int lb), .val (.int pA), .val (.int pB), .val (.int kd), .val (.ref b1), .val (.ref b29), .val (.int (1 : Int32)), .val (.int (1 : Int32))] [(.int (1 : Int32)), (.int (hpE b1 b29 cs b3 pA b31 pB t3 kb3 (mkS a1 a2 la) t31 kb31 (mkS bc1 bc2 lb)))])) (fun _ ks => XS.iload X39.here hx rfl (hb hby at_284) rfl ks) ?_
                refine Dn.by (U' := T39.setTop (mkF m 289 #[.val (.int p0), .val (.int p1), .val (.int p2), .val (.int p3), .val (.int p4), .val (.int a1), .val (.int a2), .val (.int la), .val (.int (p4 &&& (3 : Int32))), .val (.int bc1), .val (.int bc2), .val (.int lb), .val (.int pA), .val (.int pB), .val (.int kd), .val (.ref b1), .val (.ref b29), .val (.int (1 : Int32)), .val (.int (1 : Int32))] [])) (fun _ ks => XS.icmpNo X39.here hx rfl (hb hby at_286) rfl (teq (by unfold hpE; rw [own_e1 _ _ _ _ _ _ c222_35 c229_36 (Or.inl c235_37)]; exact (if_neg (by decide)).trans (if_pos c267_38))).2 ks) ?_
                refine Dn.by (U' := T39.setTop (mkF m 290 #[.val (.int p0), .val (.int p1), .val (.int p2), .val (.int p3), .val (.int p4), .val (.int a1), .val (.int a2), .val (.int la), .val (.int (p4 &&& (3 : Int32))), .val (.int bc1), .val (.int bc2), .val (.int lb), .val (.int pA), .val (.int pB), .val (.int kd), .val (.ref b1), .val (.ref b29), .val (.int (1 : Int32)), .val (.int (1 : Int32))] [(.int (1 : Int32))])) (fun _ ks => XS.iconst X39.here hx rfl (hb hby at_289)  ks) ?_
                refine Dn.by (U' := T39.setTop (mkF m 294 #[.val (.int p0), .val (.int p1), .val (.int p2), .val (.int p3), .val (.int p4), .val (.int a1), .val (.int a2), .val (.int la), .val (.int (p4 &&& (3 : Int32))), .val (.int bc1), .val (.int bc2), .val (.int lb), .val (.int pA), .val (.int pB), .val (.int kd), .val (.ref b1), .val (.ref b29), .val (.int (1 : Int32)), .val (.int (1 : Int32))] [(.int (1 : Int32))])) (fun _ ks => XS.goto X39.here hx rfl (pc0 := 290) (pc' := 294) rfl (hb hby at_290) (by decide) (by decide) ks) ?_
                refine Dn.out X39 (v := (some (.int (1 : Int32)))) (fun h => by rw [Bd.returns] at h; cases h) (BodyLoose.notSynchronized Bd) (fun _ hr => retN X39 hx (t := .boolean) Bd.returns (by simp) (hb hby at_294) hr) (by decide) (by decide) ?_
                rw [e39]
                exact ⟨rfl, N39⟩
              ·
                refine Dn.by (U' := T33.setTop (mkF m 274 #[.val (.int p0), .val (.int p1), .val (.int p2), .val (.int p3), .val (.int p4), .val (.int a1), .val (.int a2), .val (.int la), .val (.int (p4 &&& (3 : Int32))), .val (.int bc1), .val (.int bc2), .val (.int lb), .val (.int pA), .val (.int pB), .val (.int kd), .val (.ref b1), .val (.ref b29), .val (.int (1 : Int32)), .unset] [])) (fun _ ks => XS.icmpYes X33.here hx rfl (pc0 := 267) (pc' := 274) rfl (hb hby at_267) rfl (feq c267_38).2 (by decide) (by decide) ks) ?_
                refine Dn.by (U' := T33.setTop (mkF m 275 #[.val (.int p0), .val (.int p1), .val (.int p2), .val (.int p3), .val (.int p4), .val (.int a1), .val (.int a2), .val (.int la), .val (.int (p4 &&& (3 : Int32))), .val (.int bc1), .val (.int bc2), .val (.int lb), .val (.int pA), .val (.int pB), .val (.int kd), .val (.ref b1), .val (.ref b29), .val (.int (1 : Int32)), .unset] [(.int (0 : Int32))])) (fun _ ks => XS.iconst X33.here hx rfl (hb hby at_274)  ks) ?_
                refine Dn.by (U' := T33.setTop (mkF m 277 #[.val (.int p0), .val (.int p1), .val (.int p2), .val (.int p3), .val (.int p4), .val (.int a1), .val (.int a2), .val (.int la), .val (.int (p4 &&& (3 : Int32))), .val (.int bc1), .val (.int bc2), .val (.int lb), .val (.int pA), .val (.int pB), .val (.int kd), .val (.ref b1), .val (.ref b29), .val (.int (1 : Int32)), .val (.int (0 : Int32))] [])) (fun _ ks => XS.istore X33.here hx rfl (hb hby at_275) rfl (l' := #[.val (.int p0), .val (.int p1), .val (.int p2), .val (.int p3), .val (.int p4), .val (.int a1), .val (.int a2), .val (.int la), .val (.int (p4 &&& (3 : Int32))), .val (.int bc1), .val (.int bc2), .val (.int lb), .val (.int pA), .val (.int pB), .val (.int kd), .val (.ref b1), .val (.ref b29), .val (.int (1 : Int32)), .val (.int (0 : Int32))]) rfl ks) ?_
                refine Dn.by (U' := T33.setTop (mkF m 279 #[.val (.int p0), .val (.int p1), .val (.int p2), .val (.int p3), .val (.int p4), .val (.int a1), .val (.int a2), .val (.int la), .val (.int (p4 &&& (3 : Int32))), .val (.int bc1), .val (.int bc2), .val (.int lb), .val (.int pA), .val (.int pB), .val (.int kd), .val (.ref b1), .val (.ref b29), .val (.int (1 : Int32)), .val (.int (0 : Int32))] [(.ref b1)])) (fun _ ks => XS.aload X33.here hx rfl (hb hby at_277) rfl rfl ks) ?_
                refine Dn.by (U' := T33.setTop (mkF m 281 #[.val (.int p0), .val (.int p1), .val (.int p2), .val (.int p3), .val (.int p4), .val (.int a1), .val (.int a2), .val (.int la), .val (.int (p4 &&& (3 : Int32))), .val (.int bc1), .val (.int bc2), .val (.int lb), .val (.int pA), .val (.int pB), .val (.int kd), .val (.ref b1), .val (.ref b29), .val (.int (1 : Int32)), .val (.int (0 : Int32))] [(.ref b29), (.ref b1)])) (fun _ ks => XS.aload X33.here hx rfl (hb hby at_279) rfl rfl ks) ?_
                obtain ⟨cq40, kq40, qa40, qb40, qc40⟩ := isOf hZ rfl (((((A1.keep KK3).keep KK5).ext E29).keep KK31).keep KK33)
                obtain ⟨_, _, ⟨T40, L40, k40, n40⟩, -, X40, ⟨Lc40, hQ40, l40, y40, z40⟩, st40⟩ := X33.virtualBack hx (y := (⟨"com/example/ferrywire/ferrywire/wire/HostPort", "equals", "(Ljava/lang/Object;)Z"⟩ : MethodName)) (z := (⟨"com/example/ferrywire/ferrywire/wire/HostPort", "equals", "(Ljava/lang/Object;)Z"⟩ : MethodName)) hown (mvT hZ (hw _ (List.mem_of_getElem? (i := 52) rfl))) (mvT hZ (hw _ (List.mem_of_getElem? (i := 53) rfl))) (notFace_of_selects (args := #[]) (mvT hZ (hw _ (List.mem_of_getElem? (i := 55) rfl)))) (mvT hZ (hw _ (List.mem_of_getElem? (i := 55) rfl))) (mvT hZ (hw _ (List.mem_of_getElem? (i := 54) rfl))) (by decide) (backOf (W := 0) (rm10 l Z a0 hw [] b1 b29 cs b3 pA b31 pB t3 kb3 (mkS a1 a2 la) t31 kb31 (mkS bc1 bc2 lb) T33.heap n0 z34 (S_cs.ext O34.2) hcs (((FF5_0.ext E29).keep KK31 nin0).keep KK33 (ninS ne_b1_b29 nin0)) (((FF5_1.ext E29).keep KK31 nin0).keep KK33 (ninS ne_b1_b29 nin0)) FF33_0 FF33_1 ((A29.keep KK31).keep KK33) ((((EE3.keep KK5).ext E29).keep KK31).keep KK33) ((((FC3.keep KK5 (ninS (Ne.symm ne_b1_b3) nin0)).ext E29).keep KK31 nin0).keep KK33 (ninS ne_b3_b29 nin0)) ((((FV3.keep KK5 (ninS (Ne.symm ne_b1_b3) nin0)).ext E29).keep KK31 nin0).keep KK33 (ninS ne_b3_b29 nin0)) ((((VV3.keep KK5 (ninS (Ne.symm ne_b1_t3) nin0)).ext E29).keep KK31 nin0).keep KK33 (ninS ne_t3_b29 nin0)) (own_mkp a1 a2 la ha1 ha2) (own_mkl a1 a2 la) (own_mkz a1 a2 la) (EE31.keep KK33) (FC31.keep KK33 (ninS (Ne.symm ne_b29_b31) nin0)) (FV31.keep KK33 (ninS (Ne.symm ne_b29_b31) nin0)) (VV31.keep KK33 (ninS (Ne.symm ne_b29_t31) nin0)) (own_mkp bc1 bc2 lb hbc1 hbc2) (own_mkl bc1 bc2 lb) (own_mkz bc1 bc2 lb)) hZ (hw _ (List.mem_of_getElem? (i := 56) rfl)) (hw _ (List.mem_of_getElem? (i := 3) rfl)) (by decide) (by decide)) qa40 qc40 (g := (mkF m 281 #[.val (.int p0), .val (.int p1), .val (.int p2), .val (.int p3), .val (.int p4), .val (.int a1), .val (.int a2), .val (.int la), .val (.int (p4 &&& (3 : Int32))), .val (.int bc1), .val (.int bc2), .val (.int lb), .val (.int pA), .val (.int pB), .val (.int kd), .val (.ref b1), .val (.ref b29), .val (.int (1 : Int32)), .val (.int (0 : Int32))] [(.ref b29), (.ref b1)])) rfl (by rw [hml]; rfl) (Steps.refl _) (argsL := [(.ref b29)]) (rest := []) (lenOf pd2 rfl) rfl (by show 2 * 0 + _ ≤ _; exact Nat.le_of_eq rfl) (hb hby at_281) (fun _ _ => ⟨rfl, rfl, (by decide : 8 + 0 ≤ _), (by decide : 20 + 0 ≤ _)⟩)
                dsimp only [Pt.U, Pt.locs, Pt.cells, Pt.slots] at X40 l40 y40 z40 st40 hQ40
                rw [l40, y40, z40] at X40
                obtain ⟨rfl, N40q, e40⟩ := hQ40
                have N40 := Fr.app N33 N40q
                refine Dn.by (U' := T40.setTop (mkF m 284 #[.val (.int p0), .val (.int p1), .val (.int p2), .val (.int p3), .val (.int p4), .val (.int a1), .val (.int a2), .val (.int la), .val (.int (p4 &&& (3 : Int32))), .val (.int bc1), .val (.int bc2), .val (.int lb), .val (.int pA), .val (.int pB), .val (.int kd), .val (.ref b1), .val (.ref b29), .val (.int (1 : Int32)), .val (.int (0 : Int32))] [(.int (hpE b1 b29 cs b3 pA b31 pB t3 kb3 (mkS a1 a2 la) t31 kb31 (mkS bc1 bc2 lb)))])) (fun _ ks => st40.trans ks) ?_
                refine Dn.by (U' := T40.setTop (mkF m 286 #[.val (.int p0), .val (.int p1), .val (.int p2), .val (.int p3), .val (.int p4), .val (.int a1), .val (.int a2), .val (.int la), .val (.int (p4 &&& (3 : Int32))), .val (.int bc1), .val (.int bc2), .val (.int lb), .val (.int pA), .val (.int pB), .val (.int kd), .val (.ref b1), .val (.ref b29), .val (.int (1 : Int32)), .val (.int (0 : Int32))] [(.int (0 : Int32)), (.int (hpE b1 b29 cs b3 pA b31 pB t3 kb3 (mkS a1 a2 la) t31 kb31 (mkS bc1 bc2 lb)))])) (fun _ ks => XS.iload X40.here hx rfl (hb hby at_284) rfl ks) ?_
                refine Dn.by (U' := T40.setTop (mkF m 289 #[.val (.int p0), .val (.int p1), .val (.int p2), .val (.int p3), .val (.int p4), .val (.int a1), .val (.int a2), .val (.int la), .val (.int (p4 &&& (3 : Int32))), .val (.int bc1), .val (.int bc2), .val (.int lb), .val (.int pA), .val (.int pB), .val (.int kd), .val (.ref b1), .val (.ref b29), .val (.int (1 : Int32)), .val (.int (0 : Int32))] [])) (fun _ ks => XS.icmpNo X40.here hx rfl (hb hby at_286) rfl (teq (by unfold hpE; rw [own_e1 _ _ _ _ _ _ c222_35 c229_36 (Or.inl c235_37)]; exact (if_neg (by decide)).trans (if_neg c267_38))).2 ks) ?_
                refine Dn.by (U' := T40.setTop (mkF m 290 #[.val (.int p0), .val (.int p1), .val (.int p2), .val (.int p3), .val (.int p4), .val (.int a1), .val (.int a2), .val (.int la), .val (.int (p4 &&& (3 : Int32))), .val (.int bc1), .val (.int bc2), .val (.int lb), .val (.int pA), .val (.int pB), .val (.int kd), .val (.ref b1), .val (.ref b29), .val (.int (1 : Int32)), .val (.int (0 : Int32))] [(.int (1 : Int32))])) (fun _ ks => XS.iconst X40.here hx rfl (hb hby at_289)  ks) ?_
                refine Dn.by (U' := T40.setTop (mkF m 294 #[.val (.int p0), .val (.int p1), .val (.int p2), .val (.int p3), .val (.int p4), .val (.int a1), .val (.int a2), .val (.int la), .val (.int (p4 &&& (3 : Int32))), .val (.int bc1), .val (.int bc2), .val (.int lb), .val (.int pA), .val (.int pB), .val (.int kd), .val (.ref b1), .val (.ref b29), .val (.int (1 : Int32)), .val (.int (0 : Int32))] [(.int (1 : Int32))])) (fun _ ks => XS.goto X40.here hx rfl (pc0 := 290) (pc' := 294) rfl (hb hby at_290) (by decide) (by decide) ks) ?_
                refine Dn.out X40 (v := (some (.int (1 : Int32)))) (fun h => by rw [Bd.returns] at h; cases h) (BodyLoose.notSynchronized Bd) (fun _ hr => retN X40 hx (t := .boolean) Bd.returns (by simp) (hb hby at_294) hr) (by decide) (by decide) ?_
                rw [e40]
                exact ⟨rfl, N40⟩
            ·
              refine Dn.by (U' := T33.setTop (mkF m 238 #[.val (.int p0), .val (.int p1), .val (.int p2), .val (.int p3), .val (.int p4), .val (.int a1), .val (.int a2), .val (.int la), .val (.int (p4 &&& (3 : Int32))), .val (.int bc1), .val (.int bc2), .val (.int lb), .val (.int pA), .val (.int pB), .val (.int kd), .val (.ref b1), .val (.ref b29), .unset, .unset] [])) (fun _ ks => XS.icmpNo X33.here hx rfl (hb hby at_235) rfl (feq c235_37).1 ks) ?_
              refine Dn.by (U' := T33.setTop (mkF m 240 #[.val (.int p0), .val (.int p1), .val (.int p2), .val (.int p3), .val (.int p4), .val (.int a1), .val (.int a2), .val (.int la), .val (.int (p4 &&& (3 : Int32))), .val (.int bc1), .val (.int bc2), .val (.int lb), .val (.int pA), .val (.int pB), .val (.int kd), .val (.ref b1), .val (.ref b29), .unset, .unset] [(.int a2)])) (fun _ ks => XS.iload X33.here hx rfl (hb hby at_238) rfl ks) ?_
              refine Dn.by (U' := T33.setTop (mkF m 242 #[.val (.int p0), .val (.int p1), .val (.int p2), .val (.int p3), .val (.int p4), .val (.int a1), .val (.int a2), .val (.int la), .val (.int (p4 &&& (3 : Int32))), .val (.int bc1), .val (.int bc2), .val (.int lb), .val (.int pA), .val (.int pB), .val (.int kd), .val (.ref b1), .val (.ref b29), .unset, .unset] [(.int bc2), (.int a2)])) (fun _ ks => XS.iload X33.here hx rfl (hb hby at_240) rfl ks) ?_
              by_cases c242_41 : a2 = bc2
              ·
                refine Dn.by (U' := T33.setTop (mkF m 245 #[.val (.int p0), .val (.int p1), .val (.int p2), .val (.int p3), .val (.int p4), .val (.int a1), .val (.int a2), .val (.int la), .val (.int (p4 &&& (3 : Int32))), .val (.int bc1), .val (.int bc2), .val (.int lb), .val (.int pA), .val (.int pB), .val (.int kd), .val (.ref b1), .val (.ref b29), .unset, .unset] [])) (fun _ ks => XS.icmpNo X33.here hx rfl (hb hby at_242) rfl (teq c242_41).2 ks) ?_
                refine Dn.by (U' := T33.setTop (mkF m 246 #[.val (.int p0), .val (.int p1), .val (.int p2), .val (.int p3), .val (.int p4), .val (.int a1), .val (.int a2), .val (.int la), .val (.int (p4 &&& (3 : Int32))), .val (.int bc1), .val (.int bc2), .val (.int lb), .val (.int pA), .val (.int pB), .val (.int kd), .val (.ref b1), .val (.ref b29), .unset, .unset] [(.int (1 : Int32))])) (fun _ ks => XS.iconst X33.here hx rfl (hb hby at_245)  ks) ?_
                refine Dn.by (U' := T33.setTop (mkF m 250 #[.val (.int p0), .val (.int p1), .val (.int p2), .val (.int p3), .val (.int p4), .val (.int a1), .val (.int a2), .val (.int la), .val (.int (p4 &&& (3 : Int32))), .val (.int bc1), .val (.int bc2), .val (.int lb), .val (.int pA), .val (.int pB), .val (.int kd), .val (.ref b1), .val (.ref b29), .unset, .unset] [(.int (1 : Int32))])) (fun _ ks => XS.goto X33.here hx rfl (pc0 := 246) (pc' := 250) rfl (hb hby at_246) (by decide) (by decide) ks) ?_
                refine Dn.by (U' := T33.setTop (mkF m 252 #[.val (.int p0), .val (.int p1), .val (.int p2), .val (.int p3), .val (.int p4), .val (.int a1), .val (.int a2), .val (.int la), .val (.int (p4 &&& (3 : Int32))), .val (.int bc1), .val (.int bc2), .val (.int lb), .val (.int pA), .val (.int pB), .val (.int kd), .val (.ref b1), .val (.ref b29), .val (.int (1 : Int32)), .unset] [])) (fun _ ks => XS.istore X33.here hx rfl (hb hby at_250) rfl (l' := #[.val (.int p0), .val (.int p1), .val (.int p2), .val (.int p3), .val (.int p4), .val (.int a1), .val (.int a2), .val (.int la), .val (.int (p4 &&& (3 : Int32))), .val (.int bc1), .val (.int bc2), .val (.int lb), .val (.int pA), .val (.int pB), .val (.int kd), .val (.ref b1), .val (.ref b29), .val (.int (1 : Int32)), .unset]) rfl ks) ?_
                refine Dn.by (U' := T33.setTop (mkF m 254 #[.val (.int p0), .val (.int p1), .val (.int p2), .val (.int p3), .val (.int p4), .val (.int a1), .val (.int a2), .val (.int la), .val (.int (p4 &&& (3 : Int32))), .val (.int bc1), .val (.int bc2), .val (.int lb), .val (.int pA), .val (.int pB), .val (.int kd), .val (.ref b1), .val (.ref b29), .val (.int (1 : Int32)), .unset] [(.int kd)])) (fun _ ks => XS.iload X33.here hx rfl (hb hby at_252) rfl ks) ?_
                refine Dn.by (U' := T33.setTop (mkF m 255 #[.val (.int p0), .val (.int p1), .val (.int p2), .val (.int p3), .val (.int p4), .val (.int a1), .val (.int a2), .val (.int la), .val (.int (p4 &&& (3 : Int32))), .val (.int bc1), .val (.int bc2), .val (.int lb), .val (.int pA), .val (.int pB), .val (.int kd), .val (.ref b1), .val (.ref b29), .val (.int (1 : Int32)), .unset] [(.int (1 : Int32)), (.int kd)])) (fun _ ks => XS.iconst X33.here hx rfl (hb hby at_254)  ks) ?_
                refine Dn.by (U' := T33.setTop (mkF m 258 #[.val (.int p0), .val (.int p1), .val (.int p2), .val (.int p3), .val (.int p4), .val (.int a1), .val (.int a2), .val (.int la), .val (.int (p4 &&& (3 : Int32))), .val (.int bc1), .val (.int bc2), .val (.int lb), .val (.int pA), .val (.int pB), .val (.int kd), .val (.ref b1), .val (.ref b29), .val (.int (1 : Int32)), .unset] [])) (fun _ ks => XS.icmpNo X33.here hx rfl (hb hby at_255) rfl (flt c169_7).2.2.1 ks) ?_
                refine Dn.by (U' := T33.setTop (mkF m 260 #[.val (.int p0), .val (.int p1), .val (.int p2), .val (.int p3), .val (.int p4), .val (.int a1), .val (.int a2), .val (.int la), .val (.int (p4 &&& (3 : Int32))), .val (.int bc1), .val (.int bc2), .val (.int lb), .val (.int pA), .val (.int pB), .val (.int kd), .val (.ref b1), .val (.ref b29), .val (.int (1 : Int32)), .unset] [(.int (1 : Int32))])) (fun _ ks => XS.iload X33.here hx rfl (hb hby at_258) rfl ks) ?_
                refine Dn.by (U' := T33.setTop (mkF m 263 #[.val (.int p0), .val (.int p1), .val (.int p2), .val (.int p3), .val (.int p4), .val (.int a1), .val (.int a2), .val (.int la), .val (.int (p4 &&& (3 : Int32))), .val (.int bc1), .val (.int bc2), .val (.int lb), .val (.int pA), .val (.int pB), .val (.int kd), .val (.ref b1), .val (.ref b29), .val (.int (1 : Int32)), .unset] [])) (fun _ ks => XS.ifNo X33.here hx rfl (hb hby at_260) rfl (by decide) ks) ?_
                refine Dn.by (U' := T33.setTop (mkF m 265 #[.val (.int p0), .val (.int p1), .val (.int p2), .val (.int p3), .val (.int p4), .val (.int a1), .val (.int a2), .val (.int la), .val (.int (p4 &&& (3 : Int32))), .val (.int bc1), .val (.int bc2), .val (.int lb), .val (.int pA), .val (.int pB), .val (.int kd), .val (.ref b1), .val (.ref b29), .val (.int (1 : Int32)), .unset] [(.int pA)])) (fun _ ks => XS.iload X33.here hx rfl (hb hby at_263) rfl ks) ?_
                refine Dn.by (U' := T33.setTop (mkF m 267 #[.val (.int p0), .val (.int p1), .val (.int p2), .val (.int p3), .val (.int p4), .val (.int a1), .val (.int a2), .val (.int la), .val (.int (p4 &&& (3 : Int32))), .val (.int bc1), .val (.int bc2), .val (.int lb), .val (.int pA), .val (.int pB), .val (.int kd), .val (.ref b1), .val (.ref b29), .val (.int (1 : Int32)), .unset] [(.int pB), (.int pA)])) (fun _ ks => XS.iload X33.here hx rfl (hb hby at_265) rfl ks) ?_
                by_cases c267_42 : pA = pB
                ·
                  refine Dn.by (U' := T33.setTop (mkF m 270 #[.val (.int p0), .val (.int p1), .val (.int p2), .val (.int p3), .val (.int p4), .val (.int a1), .val (.int a2), .val (.int la), .val (.int (p4 &&& (3 : Int32))), .val (.int bc1), .val (.int bc2), .val (.int lb), .val (.int pA), .val (.int pB), .val (.int kd), .val (.ref b1), .val (.ref b29), .val (.int (1 : Int32)), .unset] [])) (fun _ ks => XS.icmpNo X33.here hx rfl (hb hby at_267) rfl (teq c267_42).2 ks) ?_
                  refine Dn.by (U' := T33.setTop (mkF m 271 #[.val (.int p0), .val (.int p1), .val (.int p2), .val (.int p3), .val (.int p4), .val (.int a1), .val (.int a2), .val (.int la), .val (.int (p4 &&& (3 : Int32))), .val (.int bc1), .val (.int bc2), .val (.int lb), .val (.int pA), .val (.int pB), .val (.int kd), .val (.ref b1), .val (.ref b29), .val (.int (1 : Int32)), .unset] [(.int (1 : Int32))])) (fun _ ks => XS.iconst X33.here hx rfl (hb hby at_270)  ks) ?_
                  refine Dn.by (U' := T33.setTop (mkF m 275 #[.val (.int p0), .val (.int p1), .val (.int p2), .val (.int p3), .val (.int p4), .val (.int a1), .val (.int a2), .val (.int la), .val (.int (p4 &&& (3 : Int32))), .val (.int bc1), .val (.int bc2), .val (.int lb), .val (.int pA), .val (.int pB), .val (.int kd), .val (.ref b1), .val (.ref b29), .val (.int (1 : Int32)), .unset] [(.int (1 : Int32))])) (fun _ ks => XS.goto X33.here hx rfl (pc0 := 271) (pc' := 275) rfl (hb hby at_271) (by decide) (by decide) ks) ?_
                  refine Dn.by (U' := T33.setTop (mkF m 277 #[.val (.int p0), .val (.int p1), .val (.int p2), .val (.int p3), .val (.int p4), .val (.int a1), .val (.int a2), .val (.int la), .val (.int (p4 &&& (3 : Int32))), .val (.int bc1), .val (.int bc2), .val (.int lb), .val (.int pA), .val (.int pB), .val (.int kd), .val (.ref b1), .val (.ref b29), .val (.int (1 : Int32)), .val (.int (1 : Int32))] [])) (fun _ ks => XS.istore X33.here hx rfl (hb hby at_275) rfl (l' := #[.val (.int p0), .val (.int p1), .val (.int p2), .val (.int p3), .val (.int p4), .val (.int a1), .val (.int a2), .val (.int la), .val (.int (p4 &&& (3 : Int32))), .val (.int bc1), .val (.int bc2), .val (.int lb), .val (.int pA), .val (.int pB), .val (.int kd), .val (.ref b1), .val (.ref b29), .val (.int (1 : Int32)), .val (.int (1 : Int32))]) rfl ks) ?_
                  refine Dn.by (U' := T33.setTop (mkF m 279 #[.val (.int p0), .val (.int p1), .val (.int p2), .val (.int p3), .val (.int p4), .val (.int a1), .val (.int a2), .val (.int la), .val (.int (p4 &&& (3 : Int32))), .val (.int bc1), .val (.int bc2), .val (.int lb), .val (.int pA), .val (.int pB), .val (.int kd), .val (.ref b1), .val (.ref b29), .val (.int (1 : Int32)), .val (.int (1 : Int32))] [(.ref b1)])) (fun _ ks => XS.aload X33.here hx rfl (hb hby at_277) rfl rfl ks) ?_
                  refine Dn.by (U' := T33.setTop (mkF m 281 #[.val (.int p0), .val (.int p1), .val (.int p2), .val (.int p3), .val (.int p4), .val (.int a1), .val (.int a2), .val (.int la), .val (.int (p4 &&& (3 : Int32))), .val (.int bc1), .val (.int bc2), .val (.int lb), .val (.int pA), .val (.int pB), .val (.int kd), .val (.ref b1), .val (.ref b29), .val (.int (1 : Int32)), .val (.int (1 : Int32))] [(.ref b29), (.ref b1)])) (fun _ ks => XS.aload X33.here hx rfl (hb hby at_279) rfl rfl ks) ?_
                  obtain ⟨cq43, kq43, qa43, qb43, qc43⟩ := isOf hZ rfl (((((A1.keep KK3).keep KK5).ext E29).keep KK31).keep KK33)
                  obtain ⟨_, _, ⟨T43, L43, k43, n43⟩, -, X43, ⟨Lc43, hQ43, l43, y43, z43⟩, st43⟩ := X33.virtualBack hx (y := (⟨"com/example/ferrywire/ferrywire/wire/HostPort", "equals", "(Ljava/lang/Object;)Z"⟩ : MethodName)) (z := (⟨"com/example/ferrywire/ferrywire/wire/HostPort", "equals", "(Ljava/lang/Object;)Z"⟩ : MethodName)) hown (mvT hZ (hw _ (List.mem_of_getElem? (i := 52) rfl))) (mvT hZ (hw _ (List.mem_of_getElem? (i := 53) rfl))) (notFace_of_selects (args := #[]) (mvT hZ (hw _ (List.mem_of_getElem? (i := 55) rfl)))) (mvT hZ (hw _ (List.mem_of_getElem? (i := 55) rfl))) (mvT hZ (hw _ (List.mem_of_getElem? (i := 54) rfl))) (by decide) (backOf (W := 0) (rm10 l Z a0 hw [] b1 b29 cs b3 pA b31 pB t3 kb3 (mkS a1 a2 la) t31 kb31 (mkS bc1 bc2 lb) T33.heap n0 z34 (S_cs.ext O34.2) hcs (((FF5_0.ext E29).keep KK31 nin0).keep KK33 (ninS ne_b1_b29 nin0)) (((FF5_1.ext E29).keep KK31 nin0).keep KK33 (ninS ne_b1_b29 nin0)) FF33_0 FF33_1 ((A29.keep KK31).keep KK33) ((((EE3.keep KK5).ext E29).keep KK31).keep KK33) ((((FC3.keep KK5 (ninS (Ne.symm ne_b1_b3) nin0)).ext E29).keep KK31 nin0).keep KK33 (ninS ne_b3_b29 nin0)) ((((FV3.keep KK5 (ninS (Ne.symm ne_b1_b3) nin0)).ext E29).keep KK31 nin0).keep KK33 (ninS ne_b3_b29 nin0)) ((((VV3.keep KK5 (ninS (Ne.symm ne_b1_t3) nin0)).ext E29).keep KK31 nin0).keep KK33 (ninS ne_t3_b29 nin0)) (own_mkp a1 a2 la ha1 ha2) (own_mkl a1 a2 la) (own_mkz a1 a2 la) (EE31.keep KK33) (FC31.keep KK33 (ninS (Ne.symm ne_b29_b31) nin0)) (FV31.keep KK33 (ninS (Ne.symm ne_b29_b31) nin0)) (VV31.keep KK33 (ninS (Ne.symm ne_b29_t31) nin0)) (own_mkp bc1 bc2 lb hbc1 hbc2) (own_mkl bc1 bc2 lb) (own_mkz bc1 bc2 lb)) hZ (hw _ (List.mem_of_getElem? (i := 56) rfl)) (hw _ (List.mem_of_getElem? (i := 3) rfl)) (by decide) (by decide)) qa43 qc43 (g := (mkF m 281 #[.val (.int p0), .val (.int p1), .val (.int p2), .val (.int p3), .val (.int p4), .val (.int a1), .val (.int a2), .val (.int la), .val (.int (p4 &&& (3 : Int32))), .val (.int bc1), .val (.int bc2), .val (.int lb), .val (.int pA), .val (.int pB), .val (.int kd), .val (.ref b1), .val (.ref b29), .val (.int (1 : Int32)), .val (.int (1 : Int32))] [(.ref b29), (.ref b1)])) rfl (by rw [hml]; rfl) (Steps.refl _) (argsL := [(.ref b29)]) (rest := []) (lenOf pd2 rfl) rfl (by show 2 * 0 + _ ≤ _; exact Nat.le_of_eq rfl) (hb hby at_281) (fun _ _ => ⟨rfl, rfl, (by decide : 8 + 0 ≤ _), (by decide : 20 + 0 ≤ _)⟩)
                  dsimp only [Pt.U, Pt.locs, Pt.cells, Pt.slots] at X43 l43 y43 z43 st43 hQ43
                  rw [l43, y43, z43] at X43
                  obtain ⟨rfl, N43q, e43⟩ := hQ43
                  have N43 := Fr.app N33 N43q
                  refine Dn.by (U' := T43.setTop (mkF m 284 #[.val (.int p0), .val (.int p1), .val (.int p2), .val (.int p3), .val (.int p4), .val (.int a1), .val (.int a2), .val (.int la), .val (.int (p4 &&& (3 : Int32))), .val (.int bc1), .val (.int bc2), .val (.int lb), .val (.int pA), .val (.int pB), .val (.int kd), .val (.ref b1), .val (.ref b29), .val (.int (1 : Int32)), .val (.int (1 : Int32))] [(.int (hpE b1 b29 cs b3 pA b31 pB t3 kb3 (mkS a1 a2 la) t31 kb31 (mkS bc1 bc2 lb)))])) (fun _ ks => st43.trans ks) ?_
                  refine Dn.by (U' := T43.setTop (mkF m 286 #[.val (.int p0), .val (.int p1), .val (.int p2), .val (.int p3), .val (.int p4), .val (.int a1), .val (.int a2), .val (.int la), .val (.int (p4 &&& (3 : Int32))), .val (.int bc1), .val (.int bc2), .val (.int lb), .val (.int pA), .val (.int pB), .val (.int kd), .val (.ref b1), .val (.ref b29), .val (.int (1 : Int32)), .val (.int (1 : Int32))] [(.int (1 : Int32)), (.int (hpE b1 b29 cs b3 pA b31 pB t3 kb3 (mkS a1 a2 la) t31 kb31 (mkS bc1 bc2 lb)))])) (fun _ ks => XS.iload X43.here hx rfl (hb hby at_284) rfl ks) ?_
                  refine Dn.by (U' := T43.setTop (mkF m 289 #[.val (.int p0), .val (.int p1), .val (.int p2), .val (.int p3), .val (.int p4), .val (.int a1), .val (.int a2), .val (.int la), .val (.int (p4 &&& (3 : Int32))), .val (.int bc1), .val (.int bc2), .val (.int lb), .val (.int pA), .val (.int pB), .val (.int kd), .val (.ref b1), .val (.ref b29), .val (.int (1 : Int32)), .val (.int (1 : Int32))] [])) (fun _ ks => XS.icmpNo X43.here hx rfl (hb hby at_286) rfl (teq (by unfold hpE; rw [own_e1 _ _ _ _ _ _ c222_35 c229_36 (Or.inr c242_41)]; exact (if_neg (by decide)).trans (if_pos c267_42))).2 ks) ?_
                  refine Dn.by (U' := T43.setTop (mkF m 290 #[.val (.int p0), .val (.int p1), .val (.int p2), .val (.int p3), .val (.int p4), .val (.int a1), .val (.int a2), .val (.int la), .val (.int (p4 &&& (3 : Int32))), .val (.int bc1), .val (.int bc2), .val (.int lb), .val (.int pA), .val (.int pB), .val (.int kd), .val (.ref b1), .val (.ref b29), .val (.int (1 : Int32)), .val (.int (1 : Int32))] [(.int (1 : Int32))])) (fun _ ks => XS.iconst X43.here hx rfl (hb hby at_289)  ks) ?_
                  refine Dn.by (U' := T43.setTop (mkF m 294 #[.val (.int p0), .val (.int p1), .val (.int p2), .val (.int p3), .val (.int p4), .val (.int a1), .val (.int a2), .val (.int la), .val (.int (p4 &&& (3 : Int32))), .val (.int bc1), .val (.int bc2), .val (.int lb), .val (.int pA), .val (.int pB), .val (.int kd), .val (.ref b1), .val (.ref b29), .val (.int (1 : Int32)), .val (.int (1 : Int32))] [(.int (1 : Int32))])) (fun _ ks => XS.goto X43.here hx rfl (pc0 := 290) (pc' := 294) rfl (hb hby at_290) (by decide) (by decide) ks) ?_
                  refine Dn.out X43 (v := (some (.int (1 : Int32)))) (fun h => by rw [Bd.returns] at h; cases h) (BodyLoose.notSynchronized Bd) (fun _ hr => retN X43 hx (t := .boolean) Bd.returns (by simp) (hb hby at_294) hr) (by decide) (by decide) ?_
                  rw [e43]
                  exact ⟨rfl, N43⟩
                ·
                  refine Dn.by (U' := T33.setTop (mkF m 274 #[.val (.int p0), .val (.int p1), .val (.int p2), .val (.int p3), .val (.int p4), .val (.int a1), .val (.int a2), .val (.int la), .val (.int (p4 &&& (3 : Int32))), .val (.int bc1), .val (.int bc2), .val (.int lb), .val (.int pA), .val (.int pB), .val (.int kd), .val (.ref b1), .val (.ref b29), .val (.int (1 : Int32)), .unset] [])) (fun _ ks => XS.icmpYes X33.here hx rfl (pc0 := 267) (pc' := 274) rfl (hb hby at_267) rfl (feq c267_42).2 (by decide) (by decide) ks) ?_
                  refine Dn.by (U' := T33.setTop (mkF m 275 #[.val (.int p0), .val (.int p1), .val (.int p2), .val (.int p3), .val (.int p4), .val (.int a1), .val (.int a2), .val (.int la), .val (.int (p4 &&& (3 : Int32))), .val (.int bc1), .val (.int bc2), .val (.int lb), .val (.int pA), .val (.int pB), .val (.int kd), .val (.ref b1), .val (.ref b29), .val (.int (1 : Int32)), .unset] [(.int (0 : Int32))])) (fun _ ks => XS.iconst X33.here hx rfl (hb hby at_274)  ks) ?_
                  refine Dn.by (U' := T33.setTop (mkF m 277 #[.val (.int p0), .val (.int p1), .val (.int p2), .val (.int p3), .val (.int p4), .val (.int a1), .val (.int a2), .val (.int la), .val (.int (p4 &&& (3 : Int32))), .val (.int bc1), .val (.int bc2), .val (.int lb), .val (.int pA), .val (.int pB), .val (.int kd), .val (.ref b1), .val (.ref b29), .val (.int (1 : Int32)), .val (.int (0 : Int32))] [])) (fun _ ks => XS.istore X33.here hx rfl (hb hby at_275) rfl (l' := #[.val (.int p0), .val (.int p1), .val (.int p2), .val (.int p3), .val (.int p4), .val (.int a1), .val (.int a2), .val (.int la), .val (.int (p4 &&& (3 : Int32))), .val (.int bc1), .val (.int bc2), .val (.int lb), .val (.int pA), .val (.int pB), .val (.int kd), .val (.ref b1), .val (.ref b29), .val (.int (1 : Int32)), .val (.int (0 : Int32))]) rfl ks) ?_
                  refine Dn.by (U' := T33.setTop (mkF m 279 #[.val (.int p0), .val (.int p1), .val (.int p2), .val (.int p3), .val (.int p4), .val (.int a1), .val (.int a2), .val (.int la), .val (.int (p4 &&& (3 : Int32))), .val (.int bc1), .val (.int bc2), .val (.int lb), .val (.int pA), .val (.int pB), .val (.int kd), .val (.ref b1), .val (.ref b29), .val (.int (1 : Int32)), .val (.int (0 : Int32))] [(.ref b1)])) (fun _ ks => XS.aload X33.here hx rfl (hb hby at_277) rfl rfl ks) ?_
                  refine Dn.by (U' := T33.setTop (mkF m 281 #[.val (.int p0), .val (.int p1), .val (.int p2), .val (.int p3), .val (.int p4), .val (.int a1), .val (.int a2), .val (.int la), .val (.int (p4 &&& (3 : Int32))), .val (.int bc1), .val (.int bc2), .val (.int lb), .val (.int pA), .val (.int pB), .val (.int kd), .val (.ref b1), .val (.ref b29), .val (.int (1 : Int32)), .val (.int (0 : Int32))] [(.ref b29), (.ref b1)])) (fun _ ks => XS.aload X33.here hx rfl (hb hby at_279) rfl rfl ks) ?_
                  obtain ⟨cq44, kq44, qa44, qb44, qc44⟩ := isOf hZ rfl (((((A1.keep KK3).keep KK5).ext E29).keep KK31).keep KK33)
                  obtain ⟨_, _, ⟨T44, L44, k44, n44⟩, -, X44, ⟨Lc44, hQ44, l44, y44, z44⟩, st44⟩ := X33.virtualBack hx (y := (⟨"com/example/ferrywire/ferrywire/wire/HostPort", "equals", "(Ljava/lang/Object;)Z"⟩ : MethodName)) (z := (⟨"com/example/ferrywire/ferrywire/wire/HostPort", "equals", "(Ljava/lang/Object;)Z"⟩ : MethodName)) hown (mvT hZ (hw _ (List.mem_of_getElem? (i := 52) rfl))) (mvT hZ (hw _ (List.mem_of_getElem? (i := 53) rfl))) (notFace_of_selects (args := #[]) (mvT hZ (hw _ (List.mem_of_getElem? (i := 55) rfl)))) (mvT hZ (hw _ (List.mem_of_getElem? (i := 55) rfl))) (mvT hZ (hw _ (List.mem_of_getElem? (i := 54) rfl))) (by decide) (backOf (W := 0) (rm10 l Z a0 hw [] b1 b29 cs b3 pA b31 pB t3 kb3 (mkS a1 a2 la) t31 kb31 (mkS bc1 bc2 lb) T33.heap n0 z34 (S_cs.ext O34.2) hcs (((FF5_0.ext E29).keep KK31 nin0).keep KK33 (ninS ne_b1_b29 nin0)) (((FF5_1.ext E29).keep KK31 nin0).keep KK33 (ninS ne_b1_b29 nin0)) FF33_0 FF33_1 ((A29.keep KK31).keep KK33) ((((EE3.keep KK5).ext E29).keep KK31).keep KK33) ((((FC3.keep KK5 (ninS (Ne.symm ne_b1_b3) nin0)).ext E29).keep KK31 nin0).keep KK33 (ninS ne_b3_b29 nin0)) ((((FV3.keep KK5 (ninS (Ne.symm ne_b1_b3) nin0)).ext E29).keep KK31 nin0).keep KK33 (ninS ne_b3_b29 nin0)) ((((VV3.keep KK5 (ninS (Ne.symm ne_b1_t3) nin0)).ext E29).keep KK31 nin0).keep KK33 (ninS ne_t3_b29 nin0)) (own_mkp a1 a2 la ha1 ha2) (own_mkl a1 a2 la) (own_mkz a1 a2 la) (EE31.keep KK33) (FC31.keep KK33 (ninS (Ne.symm ne_b29_b31) nin0)) (FV31.keep KK33 (ninS (Ne.symm ne_b29_b31) nin0)) (VV31.keep KK33 (ninS (Ne.symm ne_b29_t31) nin0)) (own_mkp bc1 bc2 lb hbc1 hbc2) (own_mkl bc1 bc2 lb) (own_mkz bc1 bc2 lb)) hZ (hw _ (List.mem_of_getElem? (i := 56) rfl)) (hw _ (List.mem_of_getElem? (i := 3) rfl)) (by decide) (by decide)) qa44 qc44 (g := (mkF m 281 #[.val (.int p0), .val (.int p1), .val (.int p2), .val (.int p3), .val (.int p4), .val (.int a1), .val (.int a2), .val (.int la), .val (.int (p4 &&& (3 : Int32))), .val (.int bc1), .val (.int bc2), .val (.int lb), .val (.int pA), .val (.int pB), .val (.int kd), .val (.ref b1), .val (.ref b29), .val (.int (1 : Int32)), .val (.int (0 : Int32))] [(.ref b29), (.ref b1)])) rfl (by rw [hml]; rfl) (Steps.refl _) (argsL := [(.ref b29)]) (rest := []) (lenOf pd2 rfl) rfl (by show 2 * 0 + _ ≤ _; exact Nat.le_of_eq rfl) (hb hby at_281) (fun _ _ => ⟨rfl, rfl, (by decide : 8 + 0 ≤ _), (by decide : 20 + 0 ≤ _)⟩)
                  dsimp only [Pt.U, Pt.locs, Pt.cells, Pt.slots] at X44 l44 y44 z44 st44 hQ44
                  rw [l44, y44, z44] at X44
                  obtain ⟨rfl, N44q, e44⟩ := hQ44
                  have N44 := Fr.app N33 N44q
                  refine Dn.by (U' := T44.setTop (mkF m 284 #[.val (.int p0), .val (.int p1), .val (.int p2), .val (.int p3), .val (.int p4), .val (.int a1), .val (.int a2), .val (.int la), .val (.int (p4 &&& (3 : Int32))), .val (.int bc1), .val (.int bc2), .val (.int lb), .val (.int pA), .val (.int pB), .val (.int kd), .val (.ref b1), .val (.ref b29), .val (.int (1 : Int32)), .val (.int (0 : Int32))] [(.int (hpE b1 b29 cs b3 pA b31 pB t3 kb3 (mkS a1 a2 la) t31 kb31 (mkS bc1 bc2 lb)))])) (fun _ ks => st44.trans ks) ?_
                  refine Dn.by (U' := T44.setTop (mkF m 286 #[.val (.int p0), .val (.int p1), .val (.int p2), .val (.int p3), .val (.int p4), .val (.int a1), .val (.int a2), .val (.int la), .val (.int (p4 &&& (3 : Int32))), .val (.int bc1), .val (.int bc2), .val (.int lb), .val (.int pA), .val (.int pB), .val (.int kd), .val (.ref b1), .val (.ref b29), .val (.int (1 : Int32)), .val (.int (0 : Int32))] [(.int (0 : Int32)), (.int (hpE b1 b29 cs b3 pA b31 pB t3 kb3 (mkS a1 a2 la) t31 kb31 (mkS bc1 bc2 lb)))])) (fun _ ks => XS.iload X44.here hx rfl (hb hby at_284) rfl ks) ?_
                  refine Dn.by (U' := T44.setTop (mkF m 289 #[.val (.int p0), .val (.int p1), .val (.int p2), .val (.int p3), .val (.int p4), .val (.int a1), .val (.int a2), .val (.int la), .val (.int (p4 &&& (3 : Int32))), .val (.int bc1), .val (.int bc2), .val (.int lb), .val (.int pA), .val (.int pB), .val (.int kd), .val (.ref b1), .val (.ref b29), .val (.int (1 : Int32)), .val (.int (0 : Int32))] [])) (fun _ ks => XS.icmpNo X44.here hx rfl (hb hby at_286) rfl (teq (by unfold hpE; rw [own_e1 _ _ _ _ _ _ c222_35 c229_36 (Or.inr c242_41)]; exact (if_neg (by decide)).trans (if_neg c267_42))).2 ks) ?_
                  refine Dn.by (U' := T44.setTop (mkF m 290 #[.val (.int p0), .val (.int p1), .val (.int p2), .val (.int p3), .val (.int p4), .val (.int a1), .val (.int a2), .val (.int la), .val (.int (p4 &&& (3 : Int32))), .val (.int bc1), .val (.int bc2), .val (.int lb), .val (.int pA), .val (.int pB), .val (.int kd), .val (.ref b1), .val (.ref b29), .val (.int (1 : Int32)), .val (.int (0 : Int32))] [(.int (1 : Int32))])) (fun _ ks => XS.iconst X44.here hx rfl (hb hby at_289)  ks) ?_
                  refine Dn.by (U' := T44.setTop (mkF m 294 #[.val (.int p0), .val (.int p1), .val (.int p2), .val (.int p3), .val (.int p4), .val (.int a1), .val (.int a2), .val (.int la), .val (.int (p4 &&& (3 : Int32))), .val (.int bc1), .val (.int bc2), .val (.int lb), .val (.int pA), .val (.int pB), .val (.int kd), .val (.ref b1), .val (.ref b29), .val (.int (1 : Int32)), .val (.int (0 : Int32))] [(.int (1 : Int32))])) (fun _ ks => XS.goto X44.here hx rfl (pc0 := 290) (pc' := 294) rfl (hb hby at_290) (by decide) (by decide) ks) ?_
                  refine Dn.out X44 (v := (some (.int (1 : Int32)))) (fun h => by rw [Bd.returns] at h; cases h) (BodyLoose.notSynchronized Bd) (fun _ hr => retN X44 hx (t := .boolean) Bd.returns (by simp) (hb hby at_294) hr) (by decide) (by decide) ?_
                  rw [e44]
                  exact ⟨rfl, N44⟩
              ·
                refine Dn.by (U' := T33.setTop (mkF m 249 #[.val (.int p0), .val (.int p1), .val (.int p2), .val (.int p3), .val (.int p4), .val (.int a1), .val (.int a2), .val (.int la), .val (.int (p4 &&& (3 : Int32))), .val (.int bc1), .val (.int bc2), .val (.int lb), .val (.int pA), .val (.int pB), .val (.int kd), .val (.ref b1), .val (.ref b29), .unset, .unset] [])) (fun _ ks => XS.icmpYes X33.here hx rfl (pc0 := 242) (pc' := 249) rfl (hb hby at_242) rfl (feq c242_41).2 (by decide) (by decide) ks) ?_
                refine Dn.by (U' := T33.setTop (mkF m 250 #[.val (.int p0), .val (.int p1), .val (.int p2), .val (.int p3), .val (.int p4), .val (.int a1), .val (.int a2), .val (.int la), .val (.int (p4 &&& (3 : Int32))), .val (.int bc1), .val (.int bc2), .val (.int lb), .val (.int pA), .val (.int pB), .val (.int kd), .val (.ref b1), .val (.ref b29), .unset, .unset] [(.int (0 : Int32))])) (fun _ ks => XS.iconst X33.here hx rfl (hb hby at_249)  ks) ?_
                refine Dn.by (U' := T33.setTop (mkF m 252 #[.val (.int p0), .val (.int p1), .val (.int p2), .val (.int p3), .val (.int p4), .val (.int a1), .val (.int a2), .val (.int la), .val (.int (p4 &&& (3 : Int32))), .val (.int bc1), .val (.int bc2), .val (.int lb), .val (.int pA), .val (.int pB), .val (.int kd), .val (.ref b1), .val (.ref b29), .val (.int (0 : Int32)), .unset] [])) (fun _ ks => XS.istore X33.here hx rfl (hb hby at_250) rfl (l' := #[.val (.int p0), .val (.int p1), .val (.int p2), .val (.int p3), .val (.int p4), .val (.int a1), .val (.int a2), .val (.int la), .val (.int (p4 &&& (3 : Int32))), .val (.int bc1), .val (.int bc2), .val (.int lb), .val (.int pA), .val (.int pB), .val (.int kd), .val (.ref b1), .val (.ref b29), .val (.int (0 : Int32)), .unset]) rfl ks) ?_
                refine Dn.by (U' := T33.setTop (mkF m 254 #[.val (.int p0), .val (.int p1), .val (.int p2), .val (.int p3), .val (.int p4), .val (.int a1), .val (.int a2), .val (.int la), .val (.int (p4 &&& (3 : Int32))), .val (.int bc1), .val (.int bc2), .val (.int lb), .val (.int pA), .val (.int pB), .val (.int kd), .val (.ref b1), .val (.ref b29), .val (.int (0 : Int32)), .unset] [(.int kd)])) (fun _ ks => XS.iload X33.here hx rfl (hb hby at_252) rfl ks) ?_
                refine Dn.by (U' := T33.setTop (mkF m 255 #[.val (.int p0), .val (.int p1), .val (.int p2), .val (.int p3), .val (.int p4), .val (.int a1), .val (.int a2), .val (.int la), .val (.int (p4 &&& (3 : Int32))), .val (.int bc1), .val (.int bc2), .val (.int lb), .val (.int pA), .val (.int pB), .val (.int kd), .val (.ref b1), .val (.ref b29), .val (.int (0 : Int32)), .unset] [(.int (1 : Int32)), (.int kd)])) (fun _ ks => XS.iconst X33.here hx rfl (hb hby at_254)  ks) ?_
                refine Dn.by (U' := T33.setTop (mkF m 258 #[.val (.int p0), .val (.int p1), .val (.int p2), .val (.int p3), .val (.int p4), .val (.int a1), .val (.int a2), .val (.int la), .val (.int (p4 &&& (3 : Int32))), .val (.int bc1), .val (.int bc2), .val (.int lb), .val (.int pA), .val (.int pB), .val (.int kd), .val (.ref b1), .val (.ref b29), .val (.int (0 : Int32)), .unset] [])) (fun _ ks => XS.icmpNo X33.here hx rfl (hb hby at_255) rfl (flt c169_7).2.2.1 ks) ?_
                refine Dn.by (U' := T33.setTop (mkF m 260 #[.val (.int p0), .val (.int p1), .val (.int p2), .val (.int p3), .val (.int p4), .val (.int a1), .val (.int a2), .val (.int la), .val (.int (p4 &&& (3 : Int32))), .val (.int bc1), .val (.int bc2), .val (.int lb), .val (.int pA), .val (.int pB), .val (.int kd), .val (.ref b1), .val (.ref b29), .val (.int (0 : Int32)), .unset] [(.int (0 : Int32))])) (fun _ ks => XS.iload X33.here hx rfl (hb hby at_258) rfl ks) ?_
                refine Dn.by (U' := T33.setTop (mkF m 274 #[.val (.int p0), .val (.int p1), .val (.int p2), .val (.int p3), .val (.int p4), .val (.int a1), .val (.int a2), .val (.int la), .val (.int (p4 &&& (3 : Int32))), .val (.int bc1), .val (.int bc2), .val (.int lb), .val (.int pA), .val (.int pB), .val (.int kd), .val (.ref b1), .val (.ref b29), .val (.int (0 : Int32)), .unset] [])) (fun _ ks => XS.ifYes X33.here hx rfl (pc0 := 260) (pc' := 274) rfl (hb hby at_260) rfl (by decide) (by decide) (by decide) ks) ?_
                refine Dn.by (U' := T33.setTop (mkF m 275 #[.val (.int p0), .val (.int p1), .val (.int p2), .val (.int p3), .val (.int p4), .val (.int a1), .val (.int a2), .val (.int la), .val (.int (p4 &&& (3 : Int32))), .val (.int bc1), .val (.int bc2), .val (.int lb), .val (.int pA), .val (.int pB), .val (.int kd), .val (.ref b1), .val (.ref b29), .val (.int (0 : Int32)), .unset] [(.int (0 : Int32))])) (fun _ ks => XS.iconst X33.here hx rfl (hb hby at_274)  ks) ?_
                refine Dn.by (U' := T33.setTop (mkF m 277 #[.val (.int p0), .val (.int p1), .val (.int p2), .val (.int p3), .val (.int p4), .val (.int a1), .val (.int a2), .val (.int la), .val (.int (p4 &&& (3 : Int32))), .val (.int bc1), .val (.int bc2), .val (.int lb), .val (.int pA), .val (.int pB), .val (.int kd), .val (.ref b1), .val (.ref b29), .val (.int (0 : Int32)), .val (.int (0 : Int32))] [])) (fun _ ks => XS.istore X33.here hx rfl (hb hby at_275) rfl (l' := #[.val (.int p0), .val (.int p1), .val (.int p2), .val (.int p3), .val (.int p4), .val (.int a1), .val (.int a2), .val (.int la), .val (.int (p4 &&& (3 : Int32))), .val (.int bc1), .val (.int bc2), .val (.int lb), .val (.int pA), .val (.int pB), .val (.int kd), .val (.ref b1), .val (.ref b29), .val (.int (0 : Int32)), .val (.int (0 : Int32))]) rfl ks) ?_
                refine Dn.by (U' := T33.setTop (mkF m 279 #[.val (.int p0), .val (.int p1), .val (.int p2), .val (.int p3), .val (.int p4), .val (.int a1), .val (.int a2), .val (.int la), .val (.int (p4 &&& (3 : Int32))), .val (.int bc1), .val (.int bc2), .val (.int lb), .val (.int pA), .val (.int pB), .val (.int kd), .val (.ref b1), .val (.ref b29), .val (.int (0 : Int32)), .val (.int (0 : Int32))] [(.ref b1)])) (fun _ ks => XS.aload X33.here hx rfl (hb hby at_277) rfl rfl ks) ?_
                refine Dn.by (U' := T33.setTop (mkF m 281 #[.val (.int p0), .val (.int p1), .val (.int p2), .val (.int p3), .val (.int p4), .val (.int a1), .val (.int a2), .val (.int la), .val (.int (p4 &&& (3 : Int32))), .val (.int bc1), .val (.int bc2), .val (.int lb), .val (.int pA), .val (.int pB), .val (.int kd), .val (.ref b1), .val (.ref b29), .val (.int (0 : Int32)), .val (.int (0 : Int32))] [(.ref b29), (.ref b1)])) (fun _ ks => XS.aload X33.here hx rfl (hb hby at_279) rfl rfl ks) ?_
                obtain ⟨cq45, kq45, qa45, qb45, qc45⟩ := isOf hZ rfl (((((A1.keep KK3).keep KK5).ext E29).keep KK31).keep KK33)
                obtain ⟨_, _, ⟨T45, L45, k45, n45⟩, -, X45, ⟨Lc45, hQ45, l45, y45, z45⟩, st45⟩ := X33.virtualBack hx (y := (⟨"com/example/ferrywire/ferrywire/wire/HostPort", "equals", "(Ljava/lang/Object;)Z"⟩ : MethodName)) (z := (⟨"com/example/ferrywire/ferrywire/wire/HostPort", "equals", "(Ljava/lang/Object;)Z"⟩ : MethodName)) hown (mvT hZ (hw _ (List.mem_of_getElem? (i := 52) rfl))) (mvT hZ (hw _ (List.mem_of_getElem? (i := 53) rfl))) (notFace_of_selects (args := #[]) (mvT hZ (hw _ (List.mem_of_getElem? (i := 55) rfl)))) (mvT hZ (hw _ (List.mem_of_getElem? (i := 55) rfl))) (mvT hZ (hw _ (List.mem_of_getElem? (i := 54) rfl))) (by decide) (backOf (W := 0) (rm10 l Z a0 hw [] b1 b29 cs b3 pA b31 pB t3 kb3 (mkS a1 a2 la) t31 kb31 (mkS bc1 bc2 lb) T33.heap n0 z34 (S_cs.ext O34.2) hcs (((FF5_0.ext E29).keep KK31 nin0).keep KK33 (ninS ne_b1_b29 nin0)) (((FF5_1.ext E29).keep KK31 nin0).keep KK33 (ninS ne_b1_b29 nin0)) FF33_0 FF33_1 ((A29.keep KK31).keep KK33) ((((EE3.keep KK5).ext E29).keep KK31).keep KK33) ((((FC3.keep KK5 (ninS (Ne.symm ne_b1_b3) nin0)).ext E29).keep KK31 nin0).keep KK33 (ninS ne_b3_b29 nin0)) ((((FV3.keep KK5 (ninS (Ne.symm ne_b1_b3) nin0)).ext E29).keep KK31 nin0).keep KK33 (ninS ne_b3_b29 nin0)) ((((VV3.keep KK5 (ninS (Ne.symm ne_b1_t3) nin0)).ext E29).keep KK31 nin0).keep KK33 (ninS ne_t3_b29 nin0)) (own_mkp a1 a2 la ha1 ha2) (own_mkl a1 a2 la) (own_mkz a1 a2 la) (EE31.keep KK33) (FC31.keep KK33 (ninS (Ne.symm ne_b29_b31) nin0)) (FV31.keep KK33 (ninS (Ne.symm ne_b29_b31) nin0)) (VV31.keep KK33 (ninS (Ne.symm ne_b29_t31) nin0)) (own_mkp bc1 bc2 lb hbc1 hbc2) (own_mkl bc1 bc2 lb) (own_mkz bc1 bc2 lb)) hZ (hw _ (List.mem_of_getElem? (i := 56) rfl)) (hw _ (List.mem_of_getElem? (i := 3) rfl)) (by decide) (by decide)) qa45 qc45 (g := (mkF m 281 #[.val (.int p0), .val (.int p1), .val (.int p2), .val (.int p3), .val (.int p4), .val (.int a1), .val (.int a2), .val (.int la), .val (.int (p4 &&& (3 : Int32))), .val (.int bc1), .val (.int bc2), .val (.int lb), .val (.int pA), .val (.int pB), .val (.int kd), .val (.ref b1), .val (.ref b29), .val (.int (0 : Int32)), .val (.int (0 : Int32))] [(.ref b29), (.ref b1)])) rfl (by rw [hml]; rfl) (Steps.refl _) (argsL := [(.ref b29)]) (rest := []) (lenOf pd2 rfl) rfl (by show 2 * 0 + _ ≤ _; exact Nat.le_of_eq rfl) (hb hby at_281) (fun _ _ => ⟨rfl, rfl, (by decide : 8 + 0 ≤ _), (by decide : 20 + 0 ≤ _)⟩)
                dsimp only [Pt.U, Pt.locs, Pt.cells, Pt.slots] at X45 l45 y45 z45 st45 hQ45
                rw [l45, y45, z45] at X45
                obtain ⟨rfl, N45q, e45⟩ := hQ45
                have N45 := Fr.app N33 N45q
                refine Dn.by (U' := T45.setTop (mkF m 284 #[.val (.int p0), .val (.int p1), .val (.int p2), .val (.int p3), .val (.int p4), .val (.int a1), .val (.int a2), .val (.int la), .val (.int (p4 &&& (3 : Int32))), .val (.int bc1), .val (.int bc2), .val (.int lb), .val (.int pA), .val (.int pB), .val (.int kd), .val (.ref b1), .val (.ref b29), .val (.int (0 : Int32)), .val (.int (0 : Int32))] [(.int (hpE b1 b29 cs b3 pA b31 pB t3 kb3 (mkS a1 a2 la) t31 kb31 (mkS bc1 bc2 lb)))])) (fun _ ks => st45.trans ks) ?_
                refine Dn.by (U' := T45.setTop (mkF m 286 #[.val (.int p0), .val (.int p1), .val (.int p2), .val (.int p3), .val (.int p4), .val (.int a1), .val (.int a2), .val (.int la), .val (.int (p4 &&& (3 : Int32))), .val (.int bc1), .val (.int bc2), .val (.int lb), .val (.int pA), .val (.int pB), .val (.int kd), .val (.ref b1), .val (.ref b29), .val (.int (0 : Int32)), .val (.int (0 : Int32))] [(.int (0 : Int32)), (.int (hpE b1 b29 cs b3 pA b31 pB t3 kb3 (mkS a1 a2 la) t31 kb31 (mkS bc1 bc2 lb)))])) (fun _ ks => XS.iload X45.here hx rfl (hb hby at_284) rfl ks) ?_
                refine Dn.by (U' := T45.setTop (mkF m 289 #[.val (.int p0), .val (.int p1), .val (.int p2), .val (.int p3), .val (.int p4), .val (.int a1), .val (.int a2), .val (.int la), .val (.int (p4 &&& (3 : Int32))), .val (.int bc1), .val (.int bc2), .val (.int lb), .val (.int pA), .val (.int pB), .val (.int kd), .val (.ref b1), .val (.ref b29), .val (.int (0 : Int32)), .val (.int (0 : Int32))] [])) (fun _ ks => XS.icmpNo X45.here hx rfl (hb hby at_286) rfl (teq (by unfold hpE; rw [own_e0 _ _ _ _ _ _ hla hlb (Or.inr (Or.inr ⟨c235_37, c242_41⟩))]; rfl)).2 ks) ?_
                refine Dn.by (U' := T45.setTop (mkF m 290 #[.val (.int p0), .val (.int p1), .val (.int p2), .val (.int p3), .val (.int p4), .val (.int a1), .val (.int a2), .val (.int la), .val (.int (p4 &&& (3 : Int32))), .val (.int bc1), .val (.int bc2), .val (.int lb), .val (.int pA), .val (.int pB), .val (.int kd), .val (.ref b1), .val (.ref b29), .val (.int (0 : Int32)), .val (.int (0 : Int32))] [(.int (1 : Int32))])) (fun _ ks => XS.iconst X45.here hx rfl (hb hby at_289)  ks) ?_
                refine Dn.by (U' := T45.setTop (mkF m 294 #[.val (.int p0), .val (.int p1), .val (.int p2), .val (.int p3), .val (.int p4), .val (.int a1), .val (.int a2), .val (.int la), .val (.int (p4 &&& (3 : Int32))), .val (.int bc1), .val (.int bc2), .val (.int lb), .val (.int pA), .val (.int pB), .val (.int kd), .val (.ref b1), .val (.ref b29), .val (.int (0 : Int32)), .val (.int (0 : Int32))] [(.int (1 : Int32))])) (fun _ ks => XS.goto X45.here hx rfl (pc0 := 290) (pc' := 294) rfl (hb hby at_290) (by decide) (by decide) ks) ?_
                refine Dn.out X45 (v := (some (.int (1 : Int32)))) (fun h => by rw [Bd.returns] at h; cases h) (BodyLoose.notSynchronized Bd) (fun _ hr => retN X45 hx (t := .boolean) Bd.returns (by simp) (hb hby at_294) hr) (by decide) (by decide) ?_
                rw [e45]
                exact ⟨rfl, N45⟩
          ·
            refine Dn.by (U' := T33.setTop (mkF m 249 #[.val (.int p0), .val (.int p1), .val (.int p2), .val (.int p3), .val (.int p4), .val (.int a1), .val (.int a2), .val (.int la), .val (.int (p4 &&& (3 : Int32))), .val (.int bc1), .val (.int bc2), .val (.int lb), .val (.int pA), .val (.int pB), .val (.int kd), .val (.ref b1), .val (.ref b29), .unset, .unset] [])) (fun _ ks => XS.icmpYes X33.here hx rfl (pc0 := 229) (pc' := 249) rfl (hb hby at_229) rfl (feq c229_36).2 (by decide) (by decide) ks) ?_
            refine Dn.by (U' := T33.setTop (mkF m 250 #[.val (.int p0), .val (.int p1), .val (.int p2), .val (.int p3), .val (.int p4), .val (.int a1), .val (.int a2), .val (.int la), .val (.int (p4 &&& (3 : Int32))), .val (.int bc1), .val (.int bc2), .val (.int lb), .val (.int pA), .val (.int pB), .val (.int kd), .val (.ref b1), .val (.ref b29), .unset, .unset] [(.int (0 : Int32))])) (fun _ ks => XS.iconst X33.here hx rfl (hb hby at_249)  ks) ?_
            refine Dn.by (U' := T33.setTop (mkF m 252 #[.val (.int p0), .val (.int p1), .val (.int p2), .val (.int p3), .val (.int p4), .val (.int a1), .val (.int a2), .val (.int la), .val (.int (p4 &&& (3 : Int32))), .val (.int bc1), .val (.int bc2), .val (.int lb), .val (.int pA), .val (.int pB), .val (.int kd), .val (.ref b1), .val (.ref b29), .val (.int (0 : Int32)), .unset] [])) (fun _ ks => XS.istore X33.here hx rfl (hb hby at_250) rfl (l' := #[.val (.int p0), .val (.int p1), .val (.int p2), .val (.int p3), .val (.int p4), .val (.int a1), .val (.int a2), .val (.int la), .val (.int (p4 &&& (3 : Int32))), .val (.int bc1), .val (.int bc2), .val (.int lb), .val (.int pA), .val (.int pB), .val (.int kd), .val (.ref b1), .val (.ref b29), .val (.int (0 : Int32)), .unset]) rfl ks) ?_
            refine Dn.by (U' := T33.setTop (mkF m 254 #[.val (.int p0), .val (.int p1), .val (.int p2), .val (.int p3), .val (.int p4), .val (.int a1), .val (.int a2), .val (.int la), .val (.int (p4 &&& (3 : Int32))), .val (.int bc1), .val (.int bc2), .val (.int lb), .val (.int pA), .val (.int pB), .val (.int kd), .val (.ref b1), .val (.ref b29), .val (.int (0 : Int32)), .unset] [(.int kd)])) (fun _ ks => XS.iload X33.here hx rfl (hb hby at_252) rfl ks) ?_
            refine Dn.by (U' := T33.setTop (mkF m 255 #[.val (.int p0), .val (.int p1), .val (.int p2), .val (.int p3), .val (.int p4), .val (.int a1), .val (.int a2), .val (.int la), .val (.int (p4 &&& (3 : Int32))), .val (.int bc1), .val (.int bc2), .val (.int lb), .val (.int pA), .val (.int pB), .val (.int kd), .val (.ref b1), .val (.ref b29), .val (.int (0 : Int32)), .unset] [(.int (1 : Int32)), (.int kd)])) (fun _ ks => XS.iconst X33.here hx rfl (hb hby at_254)  ks) ?_
            refine Dn.by (U' := T33.setTop (mkF m 258 #[.val (.int p0), .val (.int p1), .val (.int p2), .val (.int p3), .val (.int p4), .val (.int a1), .val (.int a2), .val (.int la), .val (.int (p4 &&& (3 : Int32))), .val (.int bc1), .val (.int bc2), .val (.int lb), .val (.int pA), .val (.int pB), .val (.int kd), .val (.ref b1), .val (.ref b29), .val (.int (0 : Int32)), .unset] [])) (fun _ ks => XS.icmpNo X33.here hx rfl (hb hby at_255) rfl (flt c169_7).2.2.1 ks) ?_
            refine Dn.by (U' := T33.setTop (mkF m 260 #[.val (.int p0), .val (.int p1), .val (.int p2), .val (.int p3), .val (.int p4), .val (.int a1), .val (.int a2), .val (.int la), .val (.int (p4 &&& (3 : Int32))), .val (.int bc1), .val (.int bc2), .val (.int lb), .val (.int pA), .val (.int pB), .val (.int kd), .val (.ref b1), .val (.ref b29), .val (.int (0 : Int32)), .unset] [(.int (0 : Int32))])) (fun _ ks => XS.iload X33.here hx rfl (hb hby at_258) rfl ks) ?_
            refine Dn.by (U' := T33.setTop (mkF m 274 #[.val (.int p0), .val (.int p1), .val (.int p2), .val (.int p3), .val (.int p4), .val (.int a1), .val (.int a2), .val (.int la), .val (.int (p4 &&& (3 : Int32))), .val (.int bc1), .val (.int bc2), .val (.int lb), .val (.int pA), .val (.int pB), .val (.int kd), .val (.ref b1), .val (.ref b29), .val (.int (0 : Int32)), .unset] [])) (fun _ ks => XS.ifYes X33.here hx rfl (pc0 := 260) (pc' := 274) rfl (hb hby at_260) rfl (by decide) (by decide) (by decide) ks) ?_
            refine Dn.by (U' := T33.setTop (mkF m 275 #[.val (.int p0), .val (.int p1), .val (.int p2), .val (.int p3), .val (.int p4), .val (.int a1), .val (.int a2), .val (.int la), .val (.int (p4 &&& (3 : Int32))), .val (.int bc1), .val (.int bc2), .val (.int lb), .val (.int pA), .val (.int pB), .val (.int kd), .val (.ref b1), .val (.ref b29), .val (.int (0 : Int32)), .unset] [(.int (0 : Int32))])) (fun _ ks => XS.iconst X33.here hx rfl (hb hby at_274)  ks) ?_
            refine Dn.by (U' := T33.setTop (mkF m 277 #[.val (.int p0), .val (.int p1), .val (.int p2), .val (.int p3), .val (.int p4), .val (.int a1), .val (.int a2), .val (.int la), .val (.int (p4 &&& (3 : Int32))), .val (.int bc1), .val (.int bc2), .val (.int lb), .val (.int pA), .val (.int pB), .val (.int kd), .val (.ref b1), .val (.ref b29), .val (.int (0 : Int32)), .val (.int (0 : Int32))] [])) (fun _ ks => XS.istore X33.here hx rfl (hb hby at_275) rfl (l' := #[.val (.int p0), .val (.int p1), .val (.int p2), .val (.int p3), .val (.int p4), .val (.int a1), .val (.int a2), .val (.int la), .val (.int (p4 &&& (3 : Int32))), .val (.int bc1), .val (.int bc2), .val (.int lb), .val (.int pA), .val (.int pB), .val (.int kd), .val (.ref b1), .val (.ref b29), .val (.int (0 : Int32)), .val (.int (0 : Int32))]) rfl ks) ?_
            refine Dn.by (U' := T33.setTop (mkF m 279 #[.val (.int p0), .val (.int p1), .val (.int p2), .val (.int p3), .val (.int p4), .val (.int a1), .val (.int a2), .val (.int la), .val (.int (p4 &&& (3 : Int32))), .val (.int bc1), .val (.int bc2), .val (.int lb), .val (.int pA), .val (.int pB), .val (.int kd), .val (.ref b1), .val (.ref b29), .val (.int (0 : Int32)), .val (.int (0 : Int32))] [(.ref b1)])) (fun _ ks => XS.aload X33.here hx rfl (hb hby at_277) rfl rfl ks) ?_
            refine Dn.by (U' := T33.setTop (mkF m 281 #[.val (.int p0), .val (.int p1), .val (.int p2), .val (.int p3), .val (.int p4), .val (.int a1), .val (.int a2), .val (.int la), .val (.int (p4 &&& (3 : Int32))), .val (.int bc1), .val (.int bc2), .val (.int lb), .val (.int pA), .val (.int pB), .val (.int kd), .val (.ref b1), .val (.ref b29), .val (.int (0 : Int32)), .val (.int (0 : Int32))] [(.ref b29), (.ref b1)])) (fun _ ks => XS.aload X33.here hx rfl (hb hby at_279) rfl rfl ks) ?_
            obtain ⟨cq46, kq46, qa46, qb46, qc46⟩ := isOf hZ rfl (((((A1.keep KK3).keep KK5).ext E29).keep KK31).keep KK33)
            obtain ⟨_, _, ⟨T46, L46, k46, n46⟩, -, X46, ⟨Lc46, hQ46, l46, y46, z46⟩, st46⟩ := X33.virtualBack hx (y := (⟨"com/example/ferrywire/ferrywire/wire/HostPort", "equals", "(Ljava/lang/Object;)Z"⟩ : MethodName)) (z := (⟨"com/example/ferrywire/ferrywire/wire/HostPort", "equals", "(Ljava/lang/Object;)Z"⟩ : MethodName)) hown (mvT hZ (hw _ (List.mem_of_getElem? (i := 52) rfl))) (mvT hZ (hw _ (List.mem_of_getElem? (i := 53) rfl))) (notFace_of_selects (args := #[]) (mvT hZ (hw _ (List.mem_of_getElem? (i := 55) rfl)))) (mvT hZ (hw _ (List.mem_of_getElem? (i := 55) rfl))) (mvT hZ (hw _ (List.mem_of_getElem? (i := 54) rfl))) (by decide) (backOf (W := 0) (rm10 l Z a0 hw [] b1 b29 cs b3 pA b31 pB t3 kb3 (mkS a1 a2 la) t31 kb31 (mkS bc1 bc2 lb) T33.heap n0 z34 (S_cs.ext O34.2) hcs (((FF5_0.ext E29).keep KK31 nin0).keep KK33 (ninS ne_b1_b29 nin0)) (((FF5_1.ext E29).keep KK31 nin0).keep KK33 (ninS ne_b1_b29 nin0)) FF33_0 FF33_1 ((A29.keep KK31).keep KK33) ((((EE3.keep KK5).ext E29).keep KK31).keep KK33) ((((FC3.keep KK5 (ninS (Ne.symm ne_b1_b3) nin0)).ext E29).keep KK31 nin0).keep KK33 (ninS ne_b3_b29 nin0)) ((((FV3.keep KK5 (ninS (Ne.symm ne_b1_b3) nin0)).ext E29).keep KK31 nin0).keep KK33 (ninS ne_b3_b29 nin0)) ((((VV3.keep KK5 (ninS (Ne.symm ne_b1_t3) nin0)).ext E29).keep KK31 nin0).keep KK33 (ninS ne_t3_b29 nin0)) (own_mkp a1 a2 la ha1 ha2) (own_mkl a1 a2 la) (own_mkz a1 a2 la) (EE31.keep KK33) (FC31.keep KK33 (ninS (Ne.symm ne_b29_b31) nin0)) (FV31.keep KK33 (ninS (Ne.symm ne_b29_b31) nin0)) (VV31.keep KK33 (ninS (Ne.symm ne_b29_t31) nin0)) (own_mkp bc1 bc2 lb hbc1 hbc2) (own_mkl bc1 bc2 lb) (own_mkz bc1 bc2 lb)) hZ (hw _ (List.mem_of_getElem? (i := 56) rfl)) (hw _ (List.mem_of_getElem? (i := 3) rfl)) (by decide) (by decide)) qa46 qc46 (g := (mkF m 281 #[.val (.int p0), .val (.int p1), .val (.int p2), .val (.int p3), .val (.int p4), .val (.int a1), .val (.int a2), .val (.int la), .val (.int (p4 &&& (3 : Int32))), .val (.int bc1), .val (.int bc2), .val (.int lb), .val (.int pA), .val (.int pB), .val (.int kd), .val (.ref b1), .val (.ref b29), .val (.int (0 : Int32)), .val (.int (0 : Int32))] [(.ref b29), (.ref b1)])) rfl (by rw [hml]; rfl) (Steps.refl _) (argsL := [(.ref b29)]) (rest := []) (lenOf pd2 rfl) rfl (by show 2 * 0 + _ ≤ _; exact Nat.le_of_eq rfl) (hb hby at_281) (fun _ _ => ⟨rfl, rfl, (by decide : 8 + 0 ≤ _), (by decide : 20 + 0 ≤ _)⟩)
            dsimp only [Pt.U, Pt.locs, Pt.cells, Pt.slots] at X46 l46 y46 z46 st46 hQ46
            rw [l46, y46, z46] at X46
            obtain ⟨rfl, N46q, e46⟩ := hQ46
            have N46 := Fr.app N33 N46q
            refine Dn.by (U' := T46.setTop (mkF m 284 #[.val (.int p0), .val (.int p1), .val (.int p2), .val (.int p3), .val (.int p4), .val (.int a1), .val (.int a2), .val (.int la), .val (.int (p4 &&& (3 : Int32))), .val (.int bc1), .val (.int bc2), .val (.int lb), .val (.int pA), .val (.int pB), .val (.int kd), .val (.ref b1), .val (.ref b29), .val (.int (0 : Int32)), .val (.int (0 : Int32))] [(.int (hpE b1 b29 cs b3 pA b31 pB t3 kb3 (mkS a1 a2 la) t31 kb31 (mkS bc1 bc2 lb)))])) (fun _ ks => st46.trans ks) ?_
            refine Dn.by (U' := T46.setTop (mkF m 286 #[.val (.int p0), .val (.int p1), .val (.int p2), .val (.int p3), .val (.int p4), .val (.int a1), .val (.int a2), .val (.int la), .val (.int (p4 &&& (3 : Int32))), .val (.int bc1), .val (.int bc2), .val (.int lb), .val (.int pA), .val (.int pB), .val (.int kd), .val (.ref b1), .val (.ref b29), .val (.int (0 : Int32)), .val (.int (0 : Int32))] [(.int (0 : Int32)), (.int (hpE b1 b29 cs b3 pA b31 pB t3 kb3 (mkS a1 a2 la) t31 kb31 (mkS bc1 bc2 lb)))])) (fun _ ks => XS.iload X46.here hx rfl (hb hby at_284) rfl ks) ?_
            refine Dn.by (U' := T46.setTop (mkF m 289 #[.val (.int p0), .val (.int p1), .val (.int p2), .val (.int p3), .val (.int p4), .val (.int a1), .val (.int a2), .val (.int la), .val (.int (p4 &&& (3 : Int32))), .val (.int bc1), .val (.int bc2), .val (.int lb), .val (.int pA), .val (.int pB), .val (.int kd), .val (.ref b1), .val (.ref b29), .val (.int (0 : Int32)), .val (.int (0 : Int32))] [])) (fun _ ks => XS.icmpNo X46.here hx rfl (hb hby at_286) rfl (teq (by unfold hpE; rw [own_e0 _ _ _ _ _ _ hla hlb (Or.inr (Or.inl c229_36))]; rfl)).2 ks) ?_
            refine Dn.by (U' := T46.setTop (mkF m 290 #[.val (.int p0), .val (.int p1), .val (.int p2), .val (.int p3), .val (.int p4), .val (.int a1), .val (.int a2), .val (.int la), .val (.int (p4 &&& (3 : Int32))), .val (.int bc1), .val (.int bc2), .val (.int lb), .val (.int pA), .val (.int pB), .val (.int kd), .val (.ref b1), .val (.ref b29), .val (.int (0 : Int32)), .val (.int (0 : Int32))] [(.int (1 : Int32))])) (fun _ ks => XS.iconst X46.here hx rfl (hb hby at_289)  ks) ?_
            refine Dn.by (U' := T46.setTop (mkF m 294 #[.val (.int p0), .val (.int p1), .val (.int p2), .val (.int p3), .val (.int p4), .val (.int a1), .val (.int a2), .val (.int la), .val (.int (p4 &&& (3 : Int32))), .val (.int bc1), .val (.int bc2), .val (.int lb), .val (.int pA), .val (.int pB), .val (.int kd), .val (.ref b1), .val (.ref b29), .val (.int (0 : Int32)), .val (.int (0 : Int32))] [(.int (1 : Int32))])) (fun _ ks => XS.goto X46.here hx rfl (pc0 := 290) (pc' := 294) rfl (hb hby at_290) (by decide) (by decide) ks) ?_
            refine Dn.out X46 (v := (some (.int (1 : Int32)))) (fun h => by rw [Bd.returns] at h; cases h) (BodyLoose.notSynchronized Bd) (fun _ hr => retN X46 hx (t := .boolean) Bd.returns (by simp) (hb hby at_294) hr) (by decide) (by decide) ?_
            rw [e46]
            exact ⟨rfl, N46⟩
        ·
          refine Dn.by (U' := T33.setTop (mkF m 249 #[.val (.int p0), .val (.int p1), .val (.int p2), .val (.int p3), .val (.int p4), .val (.int a1), .val (.int a2), .val (.int la), .val (.int (p4 &&& (3 : Int32))), .val (.int bc1), .val (.int bc2), .val (.int lb), .val (.int pA), .val (.int pB), .val (.int kd), .val (.ref b1), .val (.ref b29), .unset, .unset] [])) (fun _ ks => XS.icmpYes X33.here hx rfl (pc0 := 222) (pc' := 249) rfl (hb hby at_222) rfl (feq c222_35).2 (by decide) (by decide) ks) ?_
          refine Dn.by (U' := T33.setTop (mkF m 250 #[.val (.int p0), .val (.int p1), .val (.int p2), .val (.int p3), .val (.int p4), .val (.int a1), .val (.int a2), .val (.int la), .val (.int (p4 &&& (3 : Int32))), .val (.int bc1), .val (.int bc2), .val (.int lb), .val (.int pA), .val (.int pB), .val (.int kd), .val (.ref b1), .val (.ref b29), .unset, .unset] [(.int (0 : Int32))])) (fun _ ks => XS.iconst X33.here hx rfl (hb hby at_249)  ks) ?_
          refine Dn.by (U' := T33.setTop (mkF m 252 #[.val (.int p0), .val (.int p1), .val (.int p2), .val (.int p3), .val (.int p4), .val (.int a1), .val (.int a2), .val (.int la), .val (.int (p4 &&& (3 : Int32))), .val (.int bc1), .val (.int bc2), .val (.int lb), .val (.int pA), .val (.int pB), .val (.int kd), .val (.ref b1), .val (.ref b29), .val (.int (0 : Int32)), .unset] [])) (fun _ ks => XS.istore X33.here hx rfl (hb hby at_250) rfl (l' := #[.val (.int p0), .val (.int p1), .val (.int p2), .val (.int p3), .val (.int p4), .val (.int a1), .val (.int a2), .val (.int la), .val (.int (p4 &&& (3 : Int32))), .val (.int bc1), .val (.int bc2), .val (.int lb), .val (.int pA), .val (.int pB), .val (.int kd), .val (.ref b1), .val (.ref b29), .val (.int (0 : Int32)), .unset]) rfl ks) ?_
          refine Dn.by (U' := T33.setTop (mkF m 254 #[.val (.int p0), .val (.int p1), .val (.int p2), .val (.int p3), .val (.int p4), .val (.int a1), .val (.int a2), .val (.int la), .val (.int (p4 &&& (3 : Int32))), .val (.int bc1), .val (.int bc2), .val (.int lb), .val (.int pA), .val (.int pB), .val (.int kd), .val (.ref b1), .val (.ref b29), .val (.int (0 : Int32)), .unset] [(.int kd)])) (fun _ ks => XS.iload X33.here hx rfl (hb hby at_252) rfl ks) ?_
          refine Dn.by (U' := T33.setTop (mkF m 255 #[.val (.int p0), .val (.int p1), .val (.int p2), .val (.int p3), .val (.int p4), .val (.int a1), .val (.int a2), .val (.int la), .val (.int (p4 &&& (3 : Int32))), .val (.int bc1), .val (.int bc2), .val (.int lb), .val (.int pA), .val (.int pB), .val (.int kd), .val (.ref b1), .val (.ref b29), .val (.int (0 : Int32)), .unset] [(.int (1 : Int32)), (.int kd)])) (fun _ ks => XS.iconst X33.here hx rfl (hb hby at_254)  ks) ?_
          refine Dn.by (U' := T33.setTop (mkF m 258 #[.val (.int p0), .val (.int p1), .val (.int p2), .val (.int p3), .val (.int p4), .val (.int a1), .val (.int a2), .val (.int la), .val (.int (p4 &&& (3 : Int32))), .val (.int bc1), .val (.int bc2), .val (.int lb), .val (.int pA), .val (.int pB), .val (.int kd), .val (.ref b1), .val (.ref b29), .val (.int (0 : Int32)), .unset] [])) (fun _ ks => XS.icmpNo X33.here hx rfl (hb hby at_255) rfl (flt c169_7).2.2.1 ks) ?_
          refine Dn.by (U' := T33.setTop (mkF m 260 #[.val (.int p0), .val (.int p1), .val (.int p2), .val (.int p3), .val (.int p4), .val (.int a1), .val (.int a2), .val (.int la), .val (.int (p4 &&& (3 : Int32))), .val (.int bc1), .val (.int bc2), .val (.int lb), .val (.int pA), .val (.int pB), .val (.int kd), .val (.ref b1), .val (.ref b29), .val (.int (0 : Int32)), .unset] [(.int (0 : Int32))])) (fun _ ks => XS.iload X33.here hx rfl (hb hby at_258) rfl ks) ?_
          refine Dn.by (U' := T33.setTop (mkF m 274 #[.val (.int p0), .val (.int p1), .val (.int p2), .val (.int p3), .val (.int p4), .val (.int a1), .val (.int a2), .val (.int la), .val (.int (p4 &&& (3 : Int32))), .val (.int bc1), .val (.int bc2), .val (.int lb), .val (.int pA), .val (.int pB), .val (.int kd), .val (.ref b1), .val (.ref b29), .val (.int (0 : Int32)), .unset] [])) (fun _ ks => XS.ifYes X33.here hx rfl (pc0 := 260) (pc' := 274) rfl (hb hby at_260) rfl (by decide) (by decide) (by decide) ks) ?_
          refine Dn.by (U' := T33.setTop (mkF m 275 #[.val (.int p0), .val (.int p1), .val (.int p2), .val (.int p3), .val (.int p4), .val (.int a1), .val (.int a2), .val (.int la), .val (.int (p4 &&& (3 : Int32))), .val (.int bc1), .val (.int bc2), .val (.int lb), .val (.int pA), .val (.int pB), .val (.int kd), .val (.ref b1), .val (.ref b29), .val (.int (0 : Int32)), .unset] [(.int (0 : Int32))])) (fun _ ks => XS.iconst X33.here hx rfl (hb hby at_274)  ks) ?_
          refine Dn.by (U' := T33.setTop (mkF m 277 #[.val (.int p0), .val (.int p1), .val (.int p2), .val (.int p3), .val (.int p4), .val (.int a1), .val (.int a2), .val (.int la), .val (.int (p4 &&& (3 : Int32))), .val (.int bc1), .val (.int bc2), .val (.int lb), .val (.int pA), .val (.int pB), .val (.int kd), .val (.ref b1), .val (.ref b29), .val (.int (0 : Int32)), .val (.int (0 : Int32))] [])) (fun _ ks => XS.istore X33.here hx rfl (hb hby at_275) rfl (l' := #[.val (.int p0), .val (.int p1), .val (.int p2), .val (.int p3), .val (.int p4), .val (.int a1), .val (.int a2), .val (.int la), .val (.int (p4 &&& (3 : Int32))), .val (.int bc1), .val (.int bc2), .val (.int lb), .val (.int pA), .val (.int pB), .val (.int kd), .val (.ref b1), .val (.ref b29), .val (.int (0 : Int32)), .val (.int (0 : Int32))]) rfl ks) ?_
          refine Dn.by (U' := T33.setTop (mkF m 279 #[.val (.int p0), .val (.int p1), .val (.int p2), .val (.int p3), .val (.int p4), .val (.int a1), .val (.int a2), .val (.int la), .val (.int (p4 &&& (3 : Int32))), .val (.int bc1), .val (.int bc2), .val (.int lb), .val (.int pA), .val (.int pB), .val (.int kd), .val (.ref b1), .val (.ref b29), .val (.int (0 : Int32)), .val (.int (0 : Int32))] [(.ref b1)])) (fun _ ks => XS.aload X33.here hx rfl (hb hby at_277) rfl rfl ks) ?_
          refine Dn.by (U' := T33.setTop (mkF m 281 #[.val (.int p0), .val (.int p1), .val (.int p2), .val (.int p3), .val (.int p4), .val (.int a1), .val (.int a2), .val (.int la), .val (.int (p4 &&& (3 : Int32))), .val (.int bc1), .val (.int bc2), .val (.int lb), .val (.int pA), .val (.int pB), .val (.int kd), .val (.ref b1), .val (.ref b29), .val (.int (0 : Int32)), .val (.int (0 : Int32))] [(.ref b29), (.ref b1)])) (fun _ ks => XS.aload X33.here hx rfl (hb hby at_279) rfl rfl ks) ?_
          obtain ⟨cq47, kq47, qa47, qb47, qc47⟩ := isOf hZ rfl (((((A1.keep KK3).keep KK5).ext E29).keep KK31).keep KK33)
          obtain ⟨_, _, ⟨T47, L47, k47, n47⟩, -, X47, ⟨Lc47, hQ47, l47, y47, z47⟩, st47⟩ := X33.virtualBack hx (y := (⟨"com/example/ferrywire/ferrywire/wire/HostPort", "equals", "(Ljava/lang/Object;)Z"⟩ : MethodName)) (z := (⟨"com/example/ferrywire/ferrywire/wire/HostPort", "equals", "(Ljava/lang/Object;)Z"⟩ : MethodName)) hown (mvT hZ (hw _ (List.mem_of_getElem? (i := 52) rfl))) (mvT hZ (hw _ (List.mem_of_getElem? (i := 53) rfl))) (notFace_of_selects (args := #[]) (mvT hZ (hw _ (List.mem_of_getElem? (i := 55) rfl)))) (mvT hZ (hw _ (List.mem_of_getElem? (i := 55) rfl))) (mvT hZ (hw _ (List.mem_of_getElem? (i := 54) rfl))) (by decide) (backOf (W := 0) (rm10 l Z a0 hw [] b1 b29 cs b3 pA b31 pB t3 kb3 (mkS a1 a2 la) t31 kb31 (mkS bc1 bc2 lb) T33.heap n0 z34 (S_cs.ext O34.2) hcs (((FF5_0.ext E29).keep KK31 nin0).keep KK33 (ninS ne_b1_b29 nin0)) (((FF5_1.ext E29).keep KK31 nin0).keep KK33 (ninS ne_b1_b29 nin0)) FF33_0 FF33_1 ((A29.keep KK31).keep KK33) ((((EE3.keep KK5).ext E29).keep KK31).keep KK33) ((((FC3.keep KK5 (ninS (Ne.symm ne_b1_b3) nin0)).ext E29).keep KK31 nin0).keep KK33 (ninS ne_b3_b29 nin0)) ((((FV3.keep KK5 (ninS (Ne.symm ne_b1_b3) nin0)).ext E29).keep KK31 nin0).keep KK33 (ninS ne_b3_b29 nin0)) ((((VV3.keep KK5 (ninS (Ne.symm ne_b1_t3) nin0)).ext E29).keep KK31 nin0).keep KK33 (ninS ne_t3_b29 nin0)) (own_mkp a1 a2 la ha1 ha2) (own_mkl a1 a2 la) (own_mkz a1 a2 la) (EE31.keep KK33) (FC31.keep KK33 (ninS (Ne.symm ne_b29_b31) nin0)) (FV31.keep KK33 (ninS (Ne.symm ne_b29_b31) nin0)) (VV31.keep KK33 (ninS (Ne.symm ne_b29_t31) nin0)) (own_mkp bc1 bc2 lb hbc1 hbc2) (own_mkl bc1 bc2 lb) (own_mkz bc1 bc2 lb)) hZ (hw _ (List.mem_of_getElem? (i := 56) rfl)) (hw _ (List.mem_of_getElem? (i := 3) rfl)) (by decide) (by decide)) qa47 qc47 (g := (mkF m 281 #[.val (.int p0), .val (.int p1), .val (.int p2), .val (.int p3), .val (.int p4), .val (.int a1), .val (.int a2), .val (.int la), .val (.int (p4 &&& (3 : Int32))), .val (.int bc1), .val (.int bc2), .val (.int lb), .val (.int pA), .val (.int pB), .val (.int kd), .val (.ref b1), .val (.ref b29), .val (.int (0 : Int32)), .val (.int (0 : Int32))] [(.ref b29), (.ref b1)])) rfl (by rw [hml]; rfl) (Steps.refl _) (argsL := [(.ref b29)]) (rest := []) (lenOf pd2 rfl) rfl (by show 2 * 0 + _ ≤ _; exact Nat.le_of_eq rfl) (hb hby at_281) (fun _ _ => ⟨rfl, rfl, (by decide : 8 + 0 ≤ _), (by decide : 20 + 0 ≤ _)⟩)
          dsimp only [Pt.U, Pt.locs, Pt.cells, Pt.slots] at X47 l47 y47 z47 st47 hQ47
          rw [l47, y47, z47] at X47
          obtain ⟨rfl, N47q, e47⟩ := hQ47
          have N47 := Fr.app N33 N47q
          refine Dn.by (U' := T47.setTop (mkF m 284 #[.val (.int p0), .val (.int p1), .val (.int p2), .val (.int p3), .val (.int p4), .val (.int a1), .val (.int a2), .val (.int la), .val (.int (p4 &&& (3 : Int32))), .val (.int bc1), .val (.int bc2), .val (.int lb), .val (.int pA), .val (.int pB), .val (.int kd), .val (.ref b1), .val (.ref b29), .val (.int (0 : Int32)), .val (.int (0 : Int32))] [(.int (hpE b1 b29 cs b3 pA b31 pB t3 kb3 (mkS a1 a2 la) t31 kb31 (mkS bc1 bc2 lb)))])) (fun _ ks => st47.trans ks) ?_
          refine Dn.by (U' := T47.setTop (mkF m 286 #[.val (.int p0), .val (.int p1), .val (.int p2), .val (.int p3), .val (.int p4), .val (.int a1), .val (.int a2), .val (.int la), .val (.int (p4 &&& (3 : Int32))), .val (.int bc1), .val (.int bc2), .val (.int lb), .val (.int pA), .val (.int pB), .val (.int kd), .val (.ref b1), .val (.ref b29), .val (.int (0 : Int32)), .val (.int (0 : Int32))] [(.int (0 : Int32)), (.int (hpE b1 b29 cs b3 pA b31 pB t3 kb3 (mkS a1 a2 la) t31 kb31 (mkS bc1 bc2 lb)))])) (fun _ ks => XS.iload X47.here hx rfl (hb hby at_284) rfl ks) ?_
          refine Dn.by (U' := T47.setTop (mkF m 289 #[.val (.int p0), .val (.int p1), .val (.int p2), .val (.int p3), .val (.int p4), .val (.int a1), .val (.int a2), .val (.int la), .val (.int (p4 &&& (3 : Int32))), .val (.int bc1), .val (.int bc2), .val (.int lb), .val (.int pA), .val (.int pB), .val (.int kd), .val (.ref b1), .val (.ref b29), .val (.int (0 : Int32)), .val (.int (0 : Int32))] [])) (fun _ ks => XS.icmpNo X47.here hx rfl (hb hby at_286) rfl (teq (by unfold hpE; rw [own_e0 _ _ _ _ _ _ hla hlb (Or.inl c222_35)]; rfl)).2 ks) ?_
          refine Dn.by (U' := T47.setTop (mkF m 290 #[.val (.int p0), .val (.int p1), .val (.int p2), .val (.int p3), .val (.int p4), .val (.int a1), .val (.int a2), .val (.int la), .val (.int (p4 &&& (3 : Int32))), .val (.int bc1), .val (.int bc2), .val (.int lb), .val (.int pA), .val (.int pB), .val (.int kd), .val (.ref b1), .val (.ref b29), .val (.int (0 : Int32)), .val (.int (0 : Int32))] [(.int (1 : Int32))])) (fun _ ks => XS.iconst X47.here hx rfl (hb hby at_289)  ks) ?_
          refine Dn.by (U' := T47.setTop (mkF m 294 #[.val (.int p0), .val (.int p1), .val (.int p2), .val (.int p3), .val (.int p4), .val (.int a1), .val (.int a2), .val (.int la), .val (.int (p4 &&& (3 : Int32))), .val (.int bc1), .val (.int bc2), .val (.int lb), .val (.int pA), .val (.int pB), .val (.int kd), .val (.ref b1), .val (.ref b29), .val (.int (0 : Int32)), .val (.int (0 : Int32))] [(.int (1 : Int32))])) (fun _ ks => XS.goto X47.here hx rfl (pc0 := 290) (pc' := 294) rfl (hb hby at_290) (by decide) (by decide) ks) ?_
          refine Dn.out X47 (v := (some (.int (1 : Int32)))) (fun h => by rw [Bd.returns] at h; cases h) (BodyLoose.notSynchronized Bd) (fun _ hr => retN X47 hx (t := .boolean) Bd.returns (by simp) (hb hby at_294) hr) (by decide) (by decide) ?_
          rw [e47]
          exact ⟨rfl, N47⟩
    by_cases c124_48 : (((p4.toUInt32 >>> ((2 : Int32) &&& 31).toUInt32).toInt32) &&& (1 : Int32)) = (0 : Int32)
    ·
      refine Dn.by (U' := s₁.setTop (mkF m 132 #[.val (.int p0), .val (.int p1), .val (.int p2), .val (.int p3), .val (.int p4), .val (.int a1), .val (.int a2), .val (.int la), .val (.int (p4 &&& (3 : Int32))), .val (.int bc1), .val (.int bc2), .val (.int lb), .val (.int pA), .unset, .unset, .unset, .unset, .unset, .unset] [])) (fun _ ks => XS.ifYes X0.here hx rfl (pc0 := 124) (pc' := 132) rfl (hb hby at_124) rfl ((if0 _ _).trans (teq c124_48).1) (by decide) (by decide) ks) ?_
      refine Dn.by (U' := s₁.setTop (mkF m 133 #[.val (.int p0), .val (.int p1), .val (.int p2), .val (.int p3), .val (.int p4), .val (.int a1), .val (.int a2), .val (.int la), .val (.int (p4 &&& (3 : Int32))), .val (.int bc1), .val (.int bc2), .val (.int lb), .val (.int pA), .unset, .unset, .unset, .unset, .unset, .unset] [(.int p3)])) (fun _ ks => XS.iloadN X0.here hx rfl (hb hby at_132) rfl ks) ?_
      refine Dn.by (U' := s₁.setTop (mkF m 135 #[.val (.int p0), .val (.int p1), .val (.int p2), .val (.int p3), .val (.int p4), .val (.int a1), .val (.int a2), .val (.int la), .val (.int (p4 &&& (3 : Int32))), .val (.int bc1), .val (.int bc2), .val (.int lb), .val (.int pA), .unset, .unset, .unset, .unset, .unset, .unset] [(.int (65535 : Int32)), (.int p3)])) (X0.ldcInt hx hown (mvT hZ (hw _ (List.mem_of_getElem? (i := 0) rfl))) (g := (mkF m 133 #[.val (.int p0), .val (.int p1), .val (.int p2), .val (.int p3), .val (.int p4), .val (.int a1), .val (.int a2), .val (.int la), .val (.int (p4 &&& (3 : Int32))), .val (.int bc1), .val (.int bc2), .val (.int lb), .val (.int pA), .unset, .unset, .unset, .unset, .unset, .unset] [(.int p3)])) rfl (hb hby at_133)) ?_
      refine Dn.by (U' := s₁.setTop (mkF m 136 #[.val (.int p0), .val (.int p1), .val (.int p2), .val (.int p3), .val (.int p4), .val (.int a1), .val (.int a2), .val (.int la), .val (.int (p4 &&& (3 : Int32))), .val (.int bc1), .val (.int bc2), .val (.int lb), .val (.int pA), .unset, .unset, .unset, .unset, .unset, .unset] [(.int (p3 &&& (65535 : Int32)))])) (fun _ ks => XS.iand X0.here hx rfl (hb hby at_135) rfl ks) ?_
      exact J2 _ (own_port _)
    ·
      refine Dn.by (U' := s₁.setTop (mkF m 127 #[.val (.int p0), .val (.int p1), .val (.int p2), .val (.int p3), .val (.int p4), .val (.int a1), .val (.int a2), .val (.int la), .val (.int (p4 &&& (3 : Int32))), .val (.int bc1), .val (.int bc2), .val (.int lb), .val (.int pA), .unset, .unset, .unset, .unset, .unset, .unset] [])) (fun _ ks => XS.ifNo X0.here hx rfl (hb hby at_124) rfl ((if0 _ _).trans (feq c124_48).1) ks) ?_
      refine Dn.by (U' := s₁.setTop (mkF m 129 #[.val (.int p0), .val (.int p1), .val (.int p2), .val (.int p3), .val (.int p4), .val (.int a1), .val (.int a2), .val (.int la), .val (.int (p4 &&& (3 : Int32))), .val (.int bc1), .val (.int bc2), .val (.int lb), .val (.int pA), .unset, .unset, .unset, .unset, .unset, .unset] [(.int pA)])) (fun _ ks => XS.iload X0.here hx rfl (hb hby at_127) rfl ks) ?_
      refine Dn.by (U' := s₁.setTop (mkF m 136 #[.val (.int p0), .val (.int p1), .val (.int p2), .val (.int p3), .val (.int p4), .val (.int a1), .val (.int a2), .val (.int la), .val (.int (p4 &&& (3 : Int32))), .val (.int bc1), .val (.int bc2), .val (.int lb), .val (.int pA), .unset, .unset, .unset, .unset, .unset, .unset] [(.int pA)])) (fun _ ks => XS.goto X0.here hx rfl (pc0 := 129) (pc' := 136) rfl (hb hby at_129) (by decide) (by decide) ks) ?_
      exact J2 _ hpA
  by_cases c37_49 : (p4 &&& (3 : Int32)) = (0 : Int32)
  ·
    refine Dn.by (U' := s₁.setTop (mkF m 40 #[.val (.int p0), .val (.int p1), .val (.int p2), .val (.int p3), .val (.int p4), .val (.int a1), .val (.int a2), .val (.int la), .val (.int (p4 &&& (3 : Int32))), .unset, .unset, .unset, .unset, .unset, .unset, .unset, .unset, .unset, .unset] [])) (fun _ ks => XS.ifNo X0.here hx rfl (hb hby at_37) rfl ((if0 _ _).trans (teq c37_49).2) ks) ?_
    refine Dn.by (U' := s₁.setTop (mkF m 42 #[.val (.int p0), .val (.int p1), .val (.int p2), .val (.int p3), .val (.int p4), .val (.int a1), .val (.int a2), .val (.int la), .val (.int (p4 &&& (3 : Int32))), .unset, .unset, .unset, .unset, .unset, .unset, .unset, .unset, .unset, .unset] [(.int a1)])) (fun _ ks => XS.iload X0.here hx rfl (hb hby at_40) rfl ks) ?_
    refine Dn.by (U' := s₁.setTop (mkF m 44 #[.val (.int p0), .val (.int p1), .val (.int p2), .val (.int p3), .val (.int p4), .val (.int a1), .val (.int a2), .val (.int la), .val (.int (p4 &&& (3 : Int32))), .val (.int a1), .unset, .unset, .unset, .unset, .unset, .unset, .unset, .unset, .unset] [])) (fun _ ks => XS.istore X0.here hx rfl (hb hby at_42) rfl (l' := #[.val (.int p0), .val (.int p1), .val (.int p2), .val (.int p3), .val (.int p4), .val (.int a1), .val (.int a2), .val (.int la), .val (.int (p4 &&& (3 : Int32))), .val (.int a1), .unset, .unset, .unset, .unset, .unset, .unset, .unset, .unset, .unset]) rfl ks) ?_
    refine Dn.by (U' := s₁.setTop (mkF m 46 #[.val (.int p0), .val (.int p1), .val (.int p2), .val (.int p3), .val (.int p4), .val (.int a1), .val (.int a2), .val (.int la), .val (.int (p4 &&& (3 : Int32))), .val (.int a1), .unset, .unset, .unset, .unset, .unset, .unset, .unset, .unset, .unset] [(.int a2)])) (fun _ ks => XS.iload X0.here hx rfl (hb hby at_44) rfl ks) ?_
    refine Dn.by (U' := s₁.setTop (mkF m 48 #[.val (.int p0), .val (.int p1), .val (.int p2), .val (.int p3), .val (.int p4), .val (.int a1), .val (.int a2), .val (.int la), .val (.int (p4 &&& (3 : Int32))), .val (.int a1), .val (.int a2), .unset, .unset, .unset, .unset, .unset, .unset, .unset, .unset] [])) (fun _ ks => XS.istore X0.here hx rfl (hb hby at_46) rfl (l' := #[.val (.int p0), .val (.int p1), .val (.int p2), .val (.int p3), .val (.int p4), .val (.int a1), .val (.int a2), .val (.int la), .val (.int (p4 &&& (3 : Int32))), .val (.int a1), .val (.int a2), .unset, .unset, .unset, .unset, .unset, .unset, .unset, .unset]) rfl ks) ?_
    refine Dn.by (U' := s₁.setTop (mkF m 50 #[.val (.int p0), .val (.int p1), .val (.int p2), .val (.int p3), .val (.int p4), .val (.int a1), .val (.int a2), .val (.int la), .val (.int (p4 &&& (3 : Int32))), .val (.int a1), .val (.int a2), .unset, .unset, .unset, .unset, .unset, .unset, .unset, .unset] [(.int la)])) (fun _ ks => XS.iload X0.here hx rfl (hb hby at_48) rfl ks) ?_
    refine Dn.by (U' := s₁.setTop (mkF m 52 #[.val (.int p0), .val (.int p1), .val (.int p2), .val (.int p3), .val (.int p4), .val (.int a1), .val (.int a2), .val (.int la), .val (.int (p4 &&& (3 : Int32))), .val (.int a1), .val (.int a2), .val (.int la), .unset, .unset, .unset, .unset, .unset, .unset, .unset] [])) (fun _ ks => XS.istore X0.here hx rfl (hb hby at_50) rfl (l' := #[.val (.int p0), .val (.int p1), .val (.int p2), .val (.int p3), .val (.int p4), .val (.int a1), .val (.int a2), .val (.int la), .val (.int (p4 &&& (3 : Int32))), .val (.int a1), .val (.int a2), .val (.int la), .unset, .unset, .unset, .unset, .unset, .unset, .unset]) rfl ks) ?_
    refine Dn.by (U' := s₁.setTop (mkF m 112 #[.val (.int p0), .val (.int p1), .val (.int p2), .val (.int p3), .val (.int p4), .val (.int a1), .val (.int a2), .val (.int la), .val (.int (p4 &&& (3 : Int32))), .val (.int a1), .val (.int a2), .val (.int la), .unset, .unset, .unset, .unset, .unset, .unset, .unset] [])) (fun _ ks => XS.goto X0.here hx rfl (pc0 := 52) (pc' := 112) rfl (hb hby at_52) (by decide) (by decide) ks) ?_
    exact J _ _ _ ha1 ha2 hla
  ·
    refine Dn.by (U' := s₁.setTop (mkF m 55 #[.val (.int p0), .val (.int p1), .val (.int p2), .val (.int p3), .val (.int p4), .val (.int a1), .val (.int a2), .val (.int la), .val (.int (p4 &&& (3 : Int32))), .unset, .unset, .unset, .unset, .unset, .unset, .unset, .unset, .unset, .unset] [])) (fun _ ks => XS.ifYes X0.here hx rfl (pc0 := 37) (pc' := 55) rfl (hb hby at_37) rfl ((if0 _ _).trans (feq c37_49).2) (by decide) (by decide) ks) ?_
    refine Dn.by (U' := s₁.setTop (mkF m 57 #[.val (.int p0), .val (.int p1), .val (.int p2), .val (.int p3), .val (.int p4), .val (.int a1), .val (.int a2), .val (.int la), .val (.int (p4 &&& (3 : Int32))), .unset, .unset, .unset, .unset, .unset, .unset, .unset, .unset, .unset, .unset] [(.int (p4 &&& (3 : Int32)))])) (fun _ ks => XS.iload X0.here hx rfl (hb hby at_55) rfl ks) ?_
    refine Dn.by (U' := s₁.setTop (mkF m 58 #[.val (.int p0), .val (.int p1), .val (.int p2), .val (.int p3), .val (.int p4), .val (.int a1), .val (.int a2), .val (.int la), .val (.int (p4 &&& (3 : Int32))), .unset, .unset, .unset, .unset, .unset, .unset, .unset, .unset, .unset, .unset] [(.int (1 : Int32)), (.int (p4 &&& (3 : Int32)))])) (fun _ ks => XS.iconst X0.here hx rfl (hb hby at_57)  ks) ?_
    by_cases c58_50 : (p4 &&& (3 : Int32)) = (1 : Int32)
    ·
      refine Dn.by (U' := s₁.setTop (mkF m 61 #[.val (.int p0), .val (.int p1), .val (.int p2), .val (.int p3), .val (.int p4), .val (.int a1), .val (.int a2), .val (.int la), .val (.int (p4 &&& (3 : Int32))), .unset, .unset, .unset, .unset, .unset, .unset, .unset, .unset, .unset, .unset] [])) (fun _ ks => XS.icmpNo X0.here hx rfl (hb hby at_58) rfl (teq c58_50).2 ks) ?_
      refine Dn.by (U' := s₁.setTop (mkF m 63 #[.val (.int p0), .val (.int p1), .val (.int p2), .val (.int p3), .val (.int p4), .val (.int a1), .val (.int a2), .val (.int la), .val (.int (p4 &&& (3 : Int32))), .unset, .unset, .unset, .unset, .unset, .unset, .unset, .unset, .unset, .unset] [(.int a1)])) (fun _ ks => XS.iload X0.here hx rfl (hb hby at_61) rfl ks) ?_
      refine Dn.by (U' := s₁.setTop (mkF m 65 #[.val (.int p0), .val (.int p1), .val (.int p2), .val (.int p3), .val (.int p4), .val (.int a1), .val (.int a2), .val (.int la), .val (.int (p4 &&& (3 : Int32))), .val (.int a1), .unset, .unset, .unset, .unset, .unset, .unset, .unset, .unset, .unset] [])) (fun _ ks => XS.istore X0.here hx rfl (hb hby at_63) rfl (l' := #[.val (.int p0), .val (.int p1), .val (.int p2), .val (.int p3), .val (.int p4), .val (.int a1), .val (.int a2), .val (.int la), .val (.int (p4 &&& (3 : Int32))), .val (.int a1), .unset, .unset, .unset, .unset, .unset, .unset, .unset, .unset, .unset]) rfl ks) ?_
      refine Dn.by (U' := s₁.setTop (mkF m 66 #[.val (.int p0), .val (.int p1), .val (.int p2), .val (.int p3), .val (.int p4), .val (.int a1), .val (.int a2), .val (.int la), .val (.int (p4 &&& (3 : Int32))), .val (.int a1), .unset, .unset, .unset, .unset, .unset, .unset, .unset, .unset, .unset] [(.int p1)])) (fun _ ks => XS.iloadN X0.here hx rfl (hb hby at_65) rfl ks) ?_
      refine Dn.by (U' := s₁.setTop (mkF m 68 #[.val (.int p0), .val (.int p1), .val (.int p2), .val (.int p3), .val (.int p4), .val (.int a1), .val (.int a2), .val (.int la), .val (.int (p4 &&& (3 : Int32))), .val (.int a1), .unset, .unset, .unset, .unset, .unset, .unset, .unset, .unset, .unset] [(.int (8 : Int32)), (.int p1)])) (fun _ ks => XS.bipush X0.here hx rfl (hb hby at_66)  ks) ?_
      refine Dn.by (U' := s₁.setTop (mkF m 69 #[.val (.int p0), .val (.int p1), .val (.int p2), .val (.int p3), .val (.int p4), .val (.int a1), .val (.int a2), .val (.int la), .val (.int (p4 &&& (3 : Int32))), .val (.int a1), .unset, .unset, .unset, .unset, .unset, .unset, .unset, .unset, .unset] [(.int ((p1.toUInt32 >>> ((8 : Int32) &&& 31).toUInt32).toInt32))])) (fun _ ks => XS.iushr X0.here hx rfl (hb hby at_68) rfl ks) ?_
      refine Dn.by (U' := s₁.setTop (mkF m 72 #[.val (.int p0), .val (.int p1), .val (.int p2), .val (.int p3), .val (.int p4), .val (.int a1), .val (.int a2), .val (.int la), .val (.int (p4 &&& (3 : Int32))), .val (.int a1), .unset, .unset, .unset, .unset, .unset, .unset, .unset, .unset, .unset] [(.int (255 : Int32)), (.int ((p1.toUInt32 >>> ((8 : Int32) &&& 31).toUInt32).toInt32))])) (fun _ ks => XS.sipush X0.here hx rfl (hb hby at_69)  ks) ?_
      refine Dn.by (U' := s₁.setTop (mkF m 73 #[.val (.int p0), .val (.int p1), .val (.int p2), .val (.int p3), .val (.int p4), .val (.int a1), .val (.int a2), .val (.int la), .val (.int (p4 &&& (3 : Int32))), .val (.int a1), .unset, .unset, .unset, .unset, .unset, .unset, .unset, .unset, .unset] [(.int (((p1.toUInt32 >>> ((8 : Int32) &&& 31).toUInt32).toInt32) &&& (255 : Int32)))])) (fun _ ks => XS.iand X0.here hx rfl (hb hby at_72) rfl ks) ?_
      refine Dn.by (U' := s₁.setTop (mkF m 74 #[.val (.int p0), .val (.int p1), .val (.int p2), .val (.int p3), .val (.int p4), .val (.int a1), .val (.int a2), .val (.int la), .val (.int (p4 &&& (3 : Int32))), .val (.int a1), .unset, .unset, .unset, .unset, .unset, .unset, .unset, .unset, .unset] [(.int ((((p1.toUInt32 >>> ((8 : Int32) &&& 31).toUInt32).toInt32) &&& (255 : Int32)).toUInt32.toUInt16.toUInt32.toInt32))])) (fun _ ks => XS.i2c X0.here hx rfl (hb hby at_73) rfl ks) ?_
      refine Dn.by (U' := s₁.setTop (mkF m 76 #[.val (.int p0), .val (.int p1), .val (.int p2), .val (.int p3), .val (.int p4), .val (.int a1), .val (.int a2), .val (.int la), .val (.int (p4 &&& (3 : Int32))), .val (.int a1), .val (.int ((((p1.toUInt32 >>> ((8 : Int32) &&& 31).toUInt32).toInt32) &&& (255 : Int32)).toUInt32.toUInt16.toUInt32.toInt32)), .unset, .unset, .unset, .unset, .unset, .unset, .unset, .unset] [])) (fun _ ks => XS.istore X0.here hx rfl (hb hby at_74) rfl (l' := #[.val (.int p0), .val (.int p1), .val (.int p2), .val (.int p3), .val (.int p4), .val (.int a1), .val (.int a2), .val (.int la), .val (.int (p4 &&& (3 : Int32))), .val (.int a1), .val (.int ((((p1.toUInt32 >>> ((8 : Int32) &&& 31).toUInt32).toInt32) &&& (255 : Int32)).toUInt32.toUInt16.toUInt32.toInt32)), .unset, .unset, .unset, .unset, .unset, .unset, .unset, .unset]) rfl ks) ?_
      refine Dn.by (U' := s₁.setTop (mkF m 78 #[.val (.int p0), .val (.int p1), .val (.int p2), .val (.int p3), .val (.int p4), .val (.int a1), .val (.int a2), .val (.int la), .val (.int (p4 &&& (3 : Int32))), .val (.int a1), .val (.int ((((p1.toUInt32 >>> ((8 : Int32) &&& 31).toUInt32).toInt32) &&& (255 : Int32)).toUInt32.toUInt16.toUInt32.toInt32)), .unset, .unset, .unset, .unset, .unset, .unset, .unset, .unset] [(.int la)])) (fun _ ks => XS.iload X0.here hx rfl (hb hby at_76) rfl ks) ?_
      refine Dn.by (U' := s₁.setTop (mkF m 80 #[.val (.int p0), .val (.int p1), .val (.int p2), .val (.int p3), .val (.int p4), .val (.int a1), .val (.int a2), .val (.int la), .val (.int (p4 &&& (3 : Int32))), .val (.int a1), .val (.int ((((p1.toUInt32 >>> ((8 : Int32) &&& 31).toUInt32).toInt32) &&& (255 : Int32)).toUInt32.toUInt16.toUInt32.toInt32)), .val (.int la), .unset, .unset, .unset, .unset, .unset, .unset, .unset] [])) (fun _ ks => XS.istore X0.here hx rfl (hb hby at_78) rfl (l' := #[.val (.int p0), .val (.int p1), .val (.int p2), .val (.int p3), .val (.int p4), .val (.int a1), .val (.int a2), .val (.int la), .val (.int (p4 &&& (3 : Int32))), .val (.int a1), .val (.int ((((p1.toUInt32 >>> ((8 : Int32) &&& 31).toUInt32).toInt32) &&& (255 : Int32)).toUInt32.toUInt16.toUInt32.toInt32)), .val (.int la), .unset, .unset, .unset, .unset, .unset, .unset, .unset]) rfl ks) ?_
      refine Dn.by (U' := s₁.setTop (mkF m 112 #[.val (.int p0), .val (.int p1), .val (.int p2), .val (.int p3), .val (.int p4), .val (.int a1), .val (.int a2), .val (.int la), .val (.int (p4 &&& (3 : Int32))), .val (.int a1), .val (.int ((((p1.toUInt32 >>> ((8 : Int32) &&& 31).toUInt32).toInt32) &&& (255 : Int32)).toUInt32.toUInt16.toUInt32.toInt32)), .val (.int la), .unset, .unset, .unset, .unset, .unset, .unset, .unset] [])) (fun _ ks => XS.goto X0.here hx rfl (pc0 := 80) (pc' := 112) rfl (hb hby at_80) (by decide) (by decide) ks) ?_
      exact J _ _ _ ha1 (own_ch _) hla
    ·
      refine Dn.by (U' := s₁.setTop (mkF m 83 #[.val (.int p0), .val (.int p1), .val (.int p2), .val (.int p3), .val (.int p4), .val (.int a1), .val (.int a2), .val (.int la), .val (.int (p4 &&& (3 : Int32))), .unset, .unset, .unset, .unset, .unset, .unset, .unset, .unset, .unset, .unset] [])) (fun _ ks => XS.icmpYes X0.here hx rfl (pc0 := 58) (pc' := 83) rfl (hb hby at_58) rfl (feq c58_50).2 (by decide) (by decide) ks) ?_
      refine Dn.by (U' := s₁.setTop (mkF m 84 #[.val (.int p0), .val (.int p1), .val (.int p2), .val (.int p3), .val (.int p4), .val (.int a1), .val (.int a2), .val (.int la), .val (.int (p4 &&& (3 : Int32))), .unset, .unset, .unset, .unset, .unset, .unset, .unset, .unset, .unset, .unset] [(.int p1)])) (fun _ ks => XS.iloadN X0.here hx rfl (hb hby at_83) rfl ks) ?_
      refine Dn.by (U' := s₁.setTop (mkF m 87 #[.val (.int p0), .val (.int p1), .val (.int p2), .val (.int p3), .val (.int p4), .val (.int a1), .val (.int a2), .val (.int la), .val (.int (p4 &&& (3 : Int32))), .unset, .unset, .unset, .unset, .unset, .unset, .unset, .unset, .unset, .unset] [(.int (255 : Int32)), (.int p1)])) (fun _ ks => XS.sipush X0.here hx rfl (hb hby at_84)  ks) ?_
      refine Dn.by (U' := s₁.setTop (mkF m 88 #[.val (.int p0), .val (.int p1), .val (.int p2), .val (.int p3), .val (.int p4), .val (.int a1), .val (.int a2), .val (.int la), .val (.int (p4 &&& (3 : Int32))), .unset, .unset, .unset, .unset, .unset, .unset, .unset, .unset, .unset, .unset] [(.int (p1 &&& (255 : Int32)))])) (fun _ ks => XS.iand X0.here hx rfl (hb hby at_87) rfl ks) ?_
      refine Dn.by (U' := s₁.setTop (mkF m 89 #[.val (.int p0), .val (.int p1), .val (.int p2), .val (.int p3), .val (.int p4), .val (.int a1), .val (.int a2), .val (.int la), .val (.int (p4 &&& (3 : Int32))), .unset, .unset, .unset, .unset, .unset, .unset, .unset, .unset, .unset, .unset] [(.int ((p1 &&& (255 : Int32)).toUInt32.toUInt16.toUInt32.toInt32))])) (fun _ ks => XS.i2c X0.here hx rfl (hb hby at_88) rfl ks) ?_
      refine Dn.by (U' := s₁.setTop (mkF m 91 #[.val (.int p0), .val (.int p1), .val (.int p2), .val (.int p3), .val (.int p4), .val (.int a1), .val (.int a2), .val (.int la), .val (.int (p4 &&& (3 : Int32))), .val (.int ((p1 &&& (255 : Int32)).toUInt32.toUInt16.toUInt32.toInt32)), .unset, .unset, .unset, .unset, .unset, .unset, .unset, .unset, .unset] [])) (fun _ ks => XS.istore X0.here hx rfl (hb hby at_89) rfl (l' := #[.val (.int p0), .val (.int p1), .val (.int p2), .val (.int p3), .val (.int p4), .val (.int a1), .val (.int a2), .val (.int la), .val (.int (p4 &&& (3 : Int32))), .val (.int ((p1 &&& (255 : Int32)).toUInt32.toUInt16.toUInt32.toInt32)), .unset, .unset, .unset, .unset, .unset, .unset, .unset, .unset, .unset]) rfl ks) ?_
      refine Dn.by (U' := s₁.setTop (mkF m 92 #[.val (.int p0), .val (.int p1), .val (.int p2), .val (.int p3), .val (.int p4), .val (.int a1), .val (.int a2), .val (.int la), .val (.int (p4 &&& (3 : Int32))), .val (.int ((p1 &&& (255 : Int32)).toUInt32.toUInt16.toUInt32.toInt32)), .unset, .unset, .unset, .unset, .unset, .unset, .unset, .unset, .unset] [(.int p1)])) (fun _ ks => XS.iloadN X0.here hx rfl (hb hby at_91) rfl ks) ?_
      refine Dn.by (U' := s₁.setTop (mkF m 94 #[.val (.int p0), .val (.int p1), .val (.int p2), .val (.int p3), .val (.int p4), .val (.int a1), .val (.int a2), .val (.int la), .val (.int (p4 &&& (3 : Int32))), .val (.int ((p1 &&& (255 : Int32)).toUInt32.toUInt16.toUInt32.toInt32)), .unset, .unset, .unset, .unset, .unset, .unset, .unset, .unset, .unset] [(.int (8 : Int32)), (.int p1)])) (fun _ ks => XS.bipush X0.here hx rfl (hb hby at_92)  ks) ?_
      refine Dn.by (U' := s₁.setTop (mkF m 95 #[.val (.int p0), .val (.int p1), .val (.int p2), .val (.int p3), .val (.int p4), .val (.int a1), .val (.int a2), .val (.int la), .val (.int (p4 &&& (3 : Int32))), .val (.int ((p1 &&& (255 : Int32)).toUInt32.toUInt16.toUInt32.toInt32)), .unset, .unset, .unset, .unset, .unset, .unset, .unset, .unset, .unset] [(.int ((p1.toUInt32 >>> ((8 : Int32) &&& 31).toUInt32).toInt32))])) (fun _ ks => XS.iushr X0.here hx rfl (hb hby at_94) rfl ks) ?_
      refine Dn.by (U' := s₁.setTop (mkF m 98 #[.val (.int p0), .val (.int p1), .val (.int p2), .val (.int p3), .val (.int p4), .val (.int a1), .val (.int a2), .val (.int la), .val (.int (p4 &&& (3 : Int32))), .val (.int ((p1 &&& (255 : Int32)).toUInt32.toUInt16.toUInt32.toInt32)), .unset, .unset, .unset, .unset, .unset, .unset, .unset, .unset, .unset] [(.int (255 : Int32)), (.int ((p1.toUInt32 >>> ((8 : Int32) &&& 31).toUInt32).toInt32))])) (fun _ ks => XS.sipush X0.here hx rfl (hb hby at_95)  ks) ?_
      refine Dn.by (U' := s₁.setTop (mkF m 99 #[.val (.int p0), .val (.int p1), .val (.int p2), .val (.int p3), .val (.int p4), .val (.int a1), .val (.int a2), .val (.int la), .val (.int (p4 &&& (3 : Int32))), .val (.int ((p1 &&& (255 : Int32)).toUInt32.toUInt16.toUInt32.toInt32)), .unset, .unset, .unset, .unset, .unset, .unset, .unset, .unset, .unset] [(.int (((p1.toUInt32 >>> ((8 : Int32) &&& 31).toUInt32).toInt32) &&& (255 : Int32)))])) (fun _ ks => XS.iand X0.here hx rfl (hb hby at_98) rfl ks) ?_
      refine Dn.by (U' := s₁.setTop (mkF m 100 #[.val (.int p0), .val (.int p1), .val (.int p2), .val (.int p3), .val (.int p4), .val (.int a1), .val (.int a2), .val (.int la), .val (.int (p4 &&& (3 : Int32))), .val (.int ((p1 &&& (255 : Int32)).toUInt32.toUInt16.toUInt32.toInt32)), .unset, .unset, .unset, .unset, .unset, .unset, .unset, .unset, .unset] [(.int ((((p1.toUInt32 >>> ((8 : Int32) &&& 31).toUInt32).toInt32) &&& (255 : Int32)).toUInt32.toUInt16.toUInt32.toInt32))])) (fun _ ks => XS.i2c X0.here hx rfl (hb hby at_99) rfl ks) ?_
      refine Dn.by (U' := s₁.setTop (mkF m 102 #[.val (.int p0), .val (.int p1), .val (.int p2), .val (.int p3), .val (.int p4), .val (.int a1), .val (.int a2), .val (.int la), .val (.int (p4 &&& (3 : Int32))), .val (.int ((p1 &&& (255 : Int32)).toUInt32.toUInt16.toUInt32.toInt32)), .val (.int ((((p1.toUInt32 >>> ((8 : Int32) &&& 31).toUInt32).toInt32) &&& (255 : Int32)).toUInt32.toUInt16.toUInt32.toInt32)), .unset, .unset, .unset, .unset, .unset, .unset, .unset, .unset] [])) (fun _ ks => XS.istore X0.here hx rfl (hb hby at_100) rfl (l' := #[.val (.int p0), .val (.int p1), .val (.int p2), .val (.int p3), .val (.int p4), .val (.int a1), .val (.int a2), .val (.int la), .val (.int (p4 &&& (3 : Int32))), .val (.int ((p1 &&& (255 : Int32)).toUInt32.toUInt16.toUInt32.toInt32)), .val (.int ((((p1.toUInt32 >>> ((8 : Int32) &&& 31).toUInt32).toInt32) &&& (255 : Int32)).toUInt32.toUInt16.toUInt32.toInt32)), .unset, .unset, .unset, .unset, .unset, .unset, .unset, .unset]) rfl ks) ?_
      refine Dn.by (U' := s₁.setTop (mkF m 103 #[.val (.int p0), .val (.int p1), .val (.int p2), .val (.int p3), .val (.int p4), .val (.int a1), .val (.int a2), .val (.int la), .val (.int (p4 &&& (3 : Int32))), .val (.int ((p1 &&& (255 : Int32)).toUInt32.toUInt16.toUInt32.toInt32)), .val (.int ((((p1.toUInt32 >>> ((8 : Int32) &&& 31).toUInt32).toInt32) &&& (255 : Int32)).toUInt32.toUInt16.toUInt32.toInt32)), .unset, .unset, .unset, .unset, .unset, .unset, .unset, .unset] [(.int (1 : Int32))])) (fun _ ks => XS.iconst X0.here hx rfl (hb hby at_102)  ks) ?_
      refine Dn.by (U' := s₁.setTop (mkF m 104 #[.val (.int p0), .val (.int p1), .val (.int p2), .val (.int p3), .val (.int p4), .val (.int a1), .val (.int a2), .val (.int la), .val (.int (p4 &&& (3 : Int32))), .val (.int ((p1 &&& (255 : Int32)).toUInt32.toUInt16.toUInt32.toInt32)), .val (.int ((((p1.toUInt32 >>> ((8 : Int32) &&& 31).toUInt32).toInt32) &&& (255 : Int32)).toUInt32.toUInt16.toUInt32.toInt32)), .unset, .unset, .unset, .unset, .unset, .unset, .unset, .unset] [(.int p1), (.int (1 : Int32))])) (fun _ ks => XS.iloadN X0.here hx rfl (hb hby at_103) rfl ks) ?_
      refine Dn.by (U' := s₁.setTop (mkF m 106 #[.val (.int p0), .val (.int p1), .val (.int p2), .val (.int p3), .val (.int p4), .val (.int a1), .val (.int a2), .val (.int la), .val (.int (p4 &&& (3 : Int32))), .val (.int ((p1 &&& (255 : Int32)).toUInt32.toUInt16.toUInt32.toInt32)), .val (.int ((((p1.toUInt32 >>> ((8 : Int32) &&& 31).toUInt32).toInt32) &&& (255 : Int32)).toUInt32.toUInt16.toUInt32.toInt32)), .unset, .unset, .unset, .unset, .unset, .unset, .unset, .unset] [(.int (16 : Int32)), (.int p1), (.int (1 : Int32))])) (fun _ ks => XS.bipush X0.here hx rfl (hb hby at_104)  ks) ?_
      refine Dn.by (U' := s₁.setTop (mkF m 107 #[.val (.int p0), .val (.int p1), .val (.int p2), .val (.int p3), .val (.int p4), .val (.int a1), .val (.int a2), .val (.int la), .val (.int (p4 &&& (3 : Int32))), .val (.int ((p1 &&& (255 : Int32)).toUInt32.toUInt16.toUInt32.toInt32)), .val (.int ((((p1.toUInt32 >>> ((8 : Int32) &&& 31).toUInt32).toInt32) &&& (255 : Int32)).toUInt32.toUInt16.toUInt32.toInt32)), .unset, .unset, .unset, .unset, .unset, .unset, .unset, .unset] [(.int ((p1.toUInt32 >>> ((16 : Int32) &&& 31).toUInt32).toInt32)), (.int (1 : Int32))])) (fun _ ks => XS.iushr X0.here hx rfl (hb hby at_106) rfl ks) ?_
      refine Dn.by (U' := s₁.setTop (mkF m 108 #[.val (.int p0), .val (.int p1), .val (.int p2), .val (.int p3), .val (.int p4), .val (.int a1), .val (.int a2), .val (.int la), .val (.int (p4 &&& (3 : Int32))), .val (.int ((p1 &&& (255 : Int32)).toUInt32.toUInt16.toUInt32.toInt32)), .val (.int ((((p1.toUInt32 >>> ((8 : Int32) &&& 31).toUInt32).toInt32) &&& (255 : Int32)).toUInt32.toUInt16.toUInt32.toInt32)), .unset, .unset, .unset, .unset, .unset, .unset, .unset, .unset] [(.int (1 : Int32)), (.int ((p1.toUInt32 >>> ((16 : Int32) &&& 31).toUInt32).toInt32)), (.int (1 : Int32))])) (fun _ ks => XS.iconst X0.here hx rfl (hb hby at_107)  ks) ?_
      refine Dn.by (U' := s₁.setTop (mkF m 109 #[.val (.int p0), .val (.int p1), .val (.int p2), .val (.int p3), .val (.int p4), .val (.int a1), .val (.int a2), .val (.int la), .val (.int (p4 &&& (3 : Int32))), .val (.int ((p1 &&& (255 : Int32)).toUInt32.toUInt16.toUInt32.toInt32)), .val (.int ((((p1.toUInt32 >>> ((8 : Int32) &&& 31).toUInt32).toInt32) &&& (255 : Int32)).toUInt32.toUInt16.toUInt32.toInt32)), .unset, .unset, .unset, .unset, .unset, .unset, .unset, .unset] [(.int (((p1.toUInt32 >>> ((16 : Int32) &&& 31).toUInt32).toInt32) &&& (1 : Int32))), (.int (1 : Int32))])) (fun _ ks => XS.iand X0.here hx rfl (hb hby at_108) rfl ks) ?_
      refine Dn.by (U' := s₁.setTop (mkF m 110 #[.val (.int p0), .val (.int p1), .val (.int p2), .val (.int p3), .val (.int p4), .val (.int a1), .val (.int a2), .val (.int la), .val (.int (p4 &&& (3 : Int32))), .val (.int ((p1 &&& (255 : Int32)).toUInt32.toUInt16.toUInt32.toInt32)), .val (.int ((((p1.toUInt32 >>> ((8 : Int32) &&& 31).toUInt32).toInt32) &&& (255 : Int32)).toUInt32.toUInt16.toUInt32.toInt32)), .unset, .unset, .unset, .unset, .unset, .unset, .unset, .unset] [(.int ((1 : Int32) + (((p1.toUInt32 >>> ((16 : Int32) &&& 31).toUInt32).toInt32) &&& (1 : Int32))))])) (fun _ ks => XS.iadd X0.here hx rfl (hb hby at_109) rfl ks) ?_
      refine Dn.by (U' := s₁.setTop (mkF m 112 #[.val (.int p0), .val (.int p1), .val (.int p2), .val (.int p3), .val (.int p4), .val (.int a1), .val (.int a2), .val (.int la), .val (.int (p4 &&& (3 : Int32))), .val (.int ((p1 &&& (255 : Int32)).toUInt32.toUInt16.toUInt32.toInt32)), .val (.int ((((p1.toUInt32 >>> ((8 : Int32) &&& 31).toUInt32).toInt32) &&& (255 : Int32)).toUInt32.toUInt16.toUInt32.toInt32)), .val (.int ((1 : Int32) + (((p1.toUInt32 >>> ((16 : Int32) &&& 31).toUInt32).toInt32) &&& (1 : Int32)))), .unset, .unset, .unset, .unset, .unset, .unset, .unset] [])) (fun _ ks => XS.istore X0.here hx rfl (hb hby at_110) rfl (l' := #[.val (.int p0), .val (.int p1), .val (.int p2), .val (.int p3), .val (.int p4), .val (.int a1), .val (.int a2), .val (.int la), .val (.int (p4 &&& (3 : Int32))), .val (.int ((p1 &&& (255 : Int32)).toUInt32.toUInt16.toUInt32.toInt32)), .val (.int ((((p1.toUInt32 >>> ((8 : Int32) &&& 31).toUInt32).toInt32) &&& (255 : Int32)).toUInt32.toUInt16.toUInt32.toInt32)), .val (.int ((1 : Int32) + (((p1.toUInt32 >>> ((16 : Int32) &&& 31).toUInt32).toInt32) &&& (1 : Int32)))), .unset, .unset, .unset, .unset, .unset, .unset, .unset]) rfl ks) ?_
      exact J _ _ _ (own_ch _) (own_ch _) (own_len _)
set_option maxRecDepth 65536 in
set_option maxHeartbeats 40000000 in
theorem comes_1 {Post : Tables → Env → Array Value → State → Outcome → State → Prop} (hpost : ∀ tb e args s v u, (limb_1_1.after args s (.returned v) u = true ∧ limb_1_2.after args s (.returned v) u = true ∧ True) → FrameEnd s (.returned v) u (Jvm.fieldLocs frame_1_writes args s ++ Jvm.arrayLocs frame_1_arrays args s ++ Jvm.staticLocs frame_1_statics s) 24 128 → Post tb e args s (.returned v) u) :
    ArmFor flags0 classFile x code maxLocals ret World_1 tables_1 room_1 Calls_1 rest_1 Pre_1 Post := by
  intro l hfl _ _ p e ha hc hk s m args below hf hA hF happ hP
  obtain ⟨hcalls, hrest, hpre⟩ := hP
  obtain ⟨-, -, -, hnamed, -, -, -, hat⟩ := (Spec.applies_iff hf).mp happ
  obtain ⟨hg, hn⟩ := and_e (Cond.before_iff.mp (show (Jvm.Cond.and given_1 narrow_1).before args s = true from hpre))
  obtain ⟨gg1, gg2⟩ := and_e hg
  obtain ⟨gg3, gg4⟩ := and_e gg2
  obtain ⟨gg5, gg6⟩ := and_e gg4
  obtain ⟨gg7, gg8⟩ := and_e gg6
  obtain ⟨gg9, gg10⟩ := and_e gg8
  obtain ⟨w0, w1, w2, w3, w4, rfl⟩ : ∃ w0 w1 w2 w3 w4 : Value, args = #[w0, w1, w2, w3, w4] := by
    have hs : args.size = 5 := by simpa [Cond.value, given_1] using gg1
    obtain ⟨L⟩ := args
    match L, hs with
    | [w0, w1, w2, w3, w4], _ => exact ⟨w0, w1, w2, w3, w4, rfl⟩
  have hw := fun d (hd : d ∈ tables_1) => atoms_spec (ws := Jvm.Cond.code x code maxLocals ret :: tables_1) hat d (List.mem_cons_of_mem _ hd)
  have hfit : Fit s := fun {y c} hc i hi => by
    obtain ⟨ha, rfl⟩ := Array.getElem?_eq_some_iff.mp hc
    have q := List.all_eq_true.mp ((Array.all_eq_true_iff_forall_mem.mp hF) _ (Array.getElem_mem ha)) i (List.mem_range.mpr hi)
    simpa [Array.getElem?_eq_getElem hi] using q
  obtain ⟨hsets, hown0⟩ := atoms_of _ (rest_1_c_eq ▸ (show rest_1_c.before _ s = true from hrest))
  have hr0 := Cond.before_iff.mp hown0
  obtain ⟨i0, ei0⟩ := is_v gg3
  obtain rfl : w0 = (.int i0) := Option.some.inj ei0
  obtain ⟨i1, ei1⟩ := is_v gg5
  obtain rfl : w1 = (.int i1) := Option.some.inj ei1
  obtain ⟨i2, ei2⟩ := is_v gg7
  obtain rfl : w2 = (.int i2) := Option.some.inj ei2
  obtain ⟨i3, ei3⟩ := is_v gg9
  obtain rfl : w3 = (.int i3) := Option.some.inj ei3
  obtain ⟨i4, ei4⟩ := is_v gg10
  obtain rfl : w4 = (.int i4) := Option.some.inj ei4
  obtain ⟨cs, ev_cs⟩ := is_v (Cond.before_iff.mp (hsets _ (List.mem_of_getElem? (i := 1) rfl)))
  have S_cs := Sta.start ev_cs (Or.inl (hsets _ (List.mem_of_getElem? (i := 0) rfl)))
  have hcs : ¬ cs = (0 : Int32) := gotF (Cond.eq_ints ev_cs (Term.int_eval (0))) (not_v (Cond.before_iff.mp (hsets _ (List.mem_of_getElem? (i := 2) rfl))))
  obtain ⟨n, o, h1, h2, h3, _, L, rfl, ⟨rfl, N⟩, hq⟩ := rm0 l s _ hw tables_1 i0 i1 i2 i3 i4 cs s.heap s.heap.size (Nat.le_refl _) (Old.start s) S_cs hcs p e ha hc hk s m _ below hf ((Spec.applies_iff_loose hf).mp happ).1 ⟨rfl, State.Warmed39.refl s, rfl⟩ trivial
  refine ⟨n, _, h1, h2, h3, hpost _ _ _ _ _ _ ⟨Cond.after_iff.mpr rfl, Cond.after_iff.mpr (eq_i res_at (Term.int_eval (1)) rfl), trivial⟩ ⟨hq.1, hq.2.1, (hq.2.2.sift fun y hy => Or.inr (N y hy)).mono (by decide) (by decide)⟩⟩
theorem main_1_1 : Claimed_1_1 := comes_1 fun _ _ _ _ _ _ h hF => ⟨h.1, hF⟩
theorem main_1_2 : Claimed_1_2 := comes_1 fun _ _ _ _ _ _ h hF => ⟨h.2.1, hF⟩
end Jvm.Pilot.@@N@@
namespace Jvm.Pilot.@@N@@
open Jvm Jvm.ClassFile Sem Op Lib Jvm.Free Jvm.Stand Jvm.Pilot.@@N@@.Jvm.D
/-! MADE BY PROGRAM (witnessworld.py) out of the Statement's table words and the real class files: 20 classes; the members and pool entries that the words name. The judged class is class 1, her method 1. -/
namespace start1
open Jvm.ClassFile
def u (s : String) : CpInfo := .utf8 (stringToUtf16 s)
/-- a pool by its gaps: so many unusable entries, then the entry; so many at the end -/
def gap : Nat → List CpInfo → List CpInfo
  | 0, r => r
  | n + 1, r => .unusable :: gap n r
def poolList (es : List (Nat × CpInfo)) (last : Nat) : List CpInfo := es.foldr (fun e r => gap e.1 (e.2 :: r)) (gap last [])
def pool (es : List (Nat × CpInfo)) (last : Nat) : Array CpInfo := ⟨poolList es last⟩
def fileOf (pool : Array CpInfo) (this : Nat) (attrs : Array Attribute := #[]) (ms : Array MethodInfo := #[]) (fl : Nat := 33) (sup : Nat := 0) (ifs : Array Nat := #[]) (fds : Array FieldInfo := #[]) : ClassFile where
  minorVersion := 0
  majorVersion := 65
  constantPool := pool
  accessFlags := fl
  thisClass := this
  superClass := sup
  interfaces := ifs
  fields := fds
  methods := ms
  attributes := attrs
def plain (name : String) (sup : Option ClassId) : Class where
  name := name
  kind := .ordinary
  loader := none
  accessFlags := 33
  super := sup
  interfaces := #[]
  cf := none
  fields := #[]
  methods := #[]
  instanceTypes := #[]
  staticTypes := #[]
  resolved := #[]
  callSites := []
  init := .initialized
  statics := none
  mirror := none

def pool0 : Array CpInfo := pool [(5, u "<init>"), (0, u "()V"), (1, .class_ 10), (1, u "java/lang/Object")] 113

def k0c0 : Code := { maxStack := 0, maxLocals := 1, code := object_method_1_code, exceptionTable := #[], attributes := #[] }
def k0m0 : Method := { name := "<init>", desc := "()V", sig := { parameters := [], returnType := none }, accessFlags := 1, code := some k0c0 }
/-- java/lang/Object -/
def k0 : Class := { plain "java/lang/Object" none with
  accessFlags := 33
  interfaces := #[]
  cf := some (fileOf pool0 8 #[] #[{ accessFlags := 1, nameIndex := 5, descriptorIndex := 6, attributes := #[] }] 33 0 #[] #[])
  fields := #[]
  methods := #[k0m0]
  instanceTypes := #[]
  staticTypes := #[]
  resolved := Array.replicate 124 none
  statics := none }

def pool1 : Array CpInfo := pool [(2, .class_ 4), (1, u "java/lang/Object"), (0, u "<init>"), (0, u "()V"), (0, .integer 65535), (0, .class_ 9), (0, u "com/example/ferrywire/ferrywire/wire/HostPort"), (0, .methodref 11 12), (0, .class_ 13), (0, .nameAndType 14 15), (0, u "com/example/ferrywire/ferrywire/wire/HostPortEqualsPinLaw"), (0, u "make"), (0, u "(CCI)Ljava/lang/String;"), (0, .methodref 8 17), (0, .nameAndType 5 18), (0, u "(Ljava/lang/String;I)V"), (0, .methodref 8 20), (0, .nameAndType 21 22), (0, u "equals"), (0, u "(Ljava/lang/Object;)Z"), (0, .class_ 24), (0, u "java/lang/String"), (0, .methodref 23 26), (0, .nameAndType 5 27), (0, u "([C)V"), (2, u "law"), (0, u "(IIIII)Z")] 3

def k1m0 : Method := { name := "<init>", desc := "()V", sig := { parameters := [], returnType := none }, accessFlags := 1, code := none }
def k1c1 : Code := { maxStack := 5, maxLocals := 19, code := code, exceptionTable := #[], attributes := #[] }
def k1m1 : Method := { name := "law", desc := "(IIIII)Z", sig := { parameters := [.int, .int, .int, .int, .int], returnType := some .boolean }, accessFlags := 9, code := some k1c1 }
def k1c2 : Code := { maxStack := 6, maxLocals := 3, code := method_3_code, exceptionTable := #[], attributes := #[] }
def k1m2 : Method := { name := "make", desc := "(CCI)Ljava/lang/String;", sig := { parameters := [.char, .char, .int], returnType := some (.object "java/lang/String") }, accessFlags := 10, code := some k1c2 }
/-- com/example/ferrywire/ferrywire/wire/HostPortEqualsPinLaw -/
def k1 : Class := { plain "com/example/ferrywire/ferrywire/wire/HostPortEqualsPinLaw" (some 0) with
  accessFlags := 49
  interfaces := #[]
  cf := some (fileOf pool1 11 #[] #[{ accessFlags := 1, nameIndex := 5, descriptorIndex := 6, attributes := #[] }, { accessFlags := 9, nameIndex := 30, descriptorIndex := 31, attributes := #[] }, { accessFlags := 10, nameIndex := 14, descriptorIndex := 15, attributes := #[] }] 49 2 #[] #[])
  fields := #[]
  methods := #[k1m0, k1m1, k1m2]
  instanceTypes := #[]
  staticTypes := #[]
  resolved := Array.replicate 35 none
  statics := none }

def pool2 : Array CpInfo := pool [(1, .methodref 2 3), (0, .class_ 4), (0, .nameAndType 5 6), (0, u "java/lang/Object"), (0, u "<init>"), (0, u "()V"), (0, .methodref 8 9), (0, .class_ 10), (0, .nameAndType 11 12), (0, u "java/lang/String"), (0, u "isEmpty"), (0, u "()Z"), (7, .integer 65535), (4, .fieldref 26 27), (0, .class_ 28), (0, .nameAndType 29 30), (0, u "com/example/ferrywire/ferrywire/wire/HostPort"), (0, u "host"), (0, u "Ljava/lang/String;"), (0, .fieldref 26 32), (0, .nameAndType 33 34), (0, u "port"), (0, u "I"), (2, u "FORM"), (0, u "Ljava/util/regex/Pattern;"), (39, u "(Ljava/lang/String;I)V"), (0, .methodref 8 80), (0, .nameAndType 81 82), (0, u "equals"), (0, u "(Ljava/lang/Object;)Z")] 50

def k2c0 : Code := { maxStack := 3, maxLocals := 3, code := prog_34_method_1_code, exceptionTable := #[], attributes := #[] }
def k2m0 : Method := { name := "<init>", desc := "(Ljava/lang/String;I)V", sig := { parameters := [(.object "java/lang/String"), .int], returnType := none }, accessFlags := 1, code := some k2c0 }
def k2c1 : Code := { maxStack := 2, maxLocals := 3, code := prog_34_method_5_code, exceptionTable := #[], attributes := #[] }
def k2m1 : Method := { name := "equals", desc := "(Ljava/lang/Object;)Z", sig := { parameters := [(.object "java/lang/Object")], returnType := some .boolean }, accessFlags := 1, code := some k2c1 }
/-- com/example/ferrywire/ferrywire/wire/HostPort -/
def k2 : Class := { plain "com/example/ferrywire/ferrywire/wire/HostPort" (some 0) with
  accessFlags := 49
  interfaces := #[]
  cf := some (fileOf pool2 26 #[] #[{ accessFlags := 1, nameIndex := 5, descriptorIndex := 78, attributes := #[] }, { accessFlags := 1, nameIndex := 81, descriptorIndex := 82, attributes := #[] }] 49 2 #[] #[{ accessFlags := 26, nameIndex := 37, descriptorIndex := 38, attributes := #[] }, { accessFlags := 18, nameIndex := 29, descriptorIndex := 30, attributes := #[] }, { accessFlags := 18, nameIndex := 33, descriptorIndex := 34, attributes := #[] }])
  fields := #[{ name := "FORM", type := (.object "java/util/regex/Pattern"), accessFlags := 26, slot := 0, constantValue := 0 }, { name := "host", type := (.object "java/lang/String"), accessFlags := 18, slot := 0, constantValue := 0 }, { name := "port", type := .int, accessFlags := 18, slot := 1, constantValue := 0 }]
  methods := #[k2m0, k2m1]
  instanceTypes := #[(.object "java/lang/String"), .int]
  staticTypes := #[(.object "java/util/regex/Pattern")]
  resolved := Array.replicate 133 none
  statics := none }

def pool3 : Array CpInfo := pool [(1, .class_ 2), (0, u "java/io/Serializable"), (0, .class_ 4), (0, u "java/lang/Object")] 2

/-- java/io/Serializable -/
def k3 : Class := { plain "java/io/Serializable" (some 0) with
  accessFlags := 1537
  interfaces := #[]
  cf := some (fileOf pool3 1 #[] #[] 1537 3 #[] #[])
  fields := #[]
  methods := #[]
  instanceTypes := #[]
  staticTypes := #[]
  resolved := Array.replicate 7 none
  statics := none }

def pool4 : Array CpInfo := pool [(1, .class_ 2), (0, u "java/lang/Comparable"), (0, .class_ 4), (0, u "java/lang/Object")] 7

/-- java/lang/Comparable -/
def k4 : Class := { plain "java/lang/Comparable" (some 0) with
  accessFlags := 1537
  interfaces := #[]
  cf := some (fileOf pool4 1 #[] #[] 1537 3 #[] #[])
  fields := #[]
  methods := #[]
  instanceTypes := #[]
  staticTypes := #[]
  resolved := Array.replicate 12 none
  statics := none }

def pool5 : Array CpInfo := pool [(2, .class_ 4), (1, u "java/lang/CharSequence"), (42, .class_ 48), (0, u "java/lang/CharSequence$1CodePointIterator"), (10, .class_ 60), (0, u "java/lang/CharSequence$1CharIterator"), (5, .class_ 67), (0, u "java/lang/Object")] 63

/-- java/lang/CharSequence -/
def k5 : Class := { plain "java/lang/CharSequence" (some 0) with
  accessFlags := 1537
  interfaces := #[]
  cf := some (fileOf pool5 2 #[.nestMembers #[47, 59]] #[] 1537 66 #[] #[])
  fields := #[]
  methods := #[]
  instanceTypes := #[]
  staticTypes := #[]
  resolved := Array.replicate 131 none
  statics := none }

def pool6 : Array CpInfo := pool [(1, .class_ 2), (0, u "java/lang/constant/Constable"), (0, .class_ 4), (0, u "java/lang/Object")] 6

/-- java/lang/constant/Constable -/
def k6 : Class := { plain "java/lang/constant/Constable" (some 0) with
  accessFlags := 1537
  interfaces := #[]
  cf := some (fileOf pool6 1 #[] #[] 1537 3 #[] #[])
  fields := #[]
  methods := #[]
  instanceTypes := #[]
  staticTypes := #[]
  resolved := Array.replicate 11 none
  statics := none }

def pool7 : Array CpInfo := pool [(1, .class_ 2), (0, u "java/lang/constant/ConstantDesc"), (0, .class_ 4), (0, u "java/lang/Object")] 32

/-- java/lang/constant/ConstantDesc -/
def k7 : Class := { plain "java/lang/constant/ConstantDesc" (some 0) with
  accessFlags := 1537
  interfaces := #[]
  cf := some (fileOf pool7 1 #[] #[] 1537 3 #[] #[])
  fields := #[]
  methods := #[]
  instanceTypes := #[]
  staticTypes := #[]
  resolved := Array.replicate 37 none
  statics := none }

def pool8 : Array CpInfo := pool [(1, .methodref 2 3), (0, .class_ 4), (0, .nameAndType 5 6), (0, u "java/lang/Object"), (0, u "<init>"), (0, u "()V"), (2, .fieldref 10 11), (0, .class_ 12), (0, .nameAndType 13 14), (0, u "java/lang/String"), (0, u "value"), (0, u "[B"), (0, .fieldref 10 16), (0, .nameAndType 17 18), (0, u "coder"), (0, u "B"), (2, u "hash"), (0, u "I"), (2, u "hashIsZero"), (0, u "Z"), (0, .methodref 10 28), (0, .nameAndType 5 29), (0, u "([CIILjava/lang/Void;)V"), (8, .fieldref 10 39), (0, .nameAndType 40 26), (0, u "COMPACT_STRINGS"), (1, .class_ 44), (1, u "java/lang/StringUTF16"), (0, u "compress"), (1, .methodref 42 48), (0, .nameAndType 49 50), (0, u "coderFromArrayLen"), (0, u "([BI)B"), (56, .class_ 109), (1, u "java/lang/StringLatin1"), (32, u "()Z"), (34, .methodref 42 178), (0, .nameAndType 45 179), (0, u "([CII)[B"), (361, .methodref 107 542), (0, .nameAndType 543 544), (0, u "equals"), (0, u "([B[B)Z"), (28, u "(Ljava/lang/Object;)Z"), (1, .class_ 576), (0, u "java/lang/CharSequence"), (22, u "CASE_INSENSITIVE_ORDER"), (0, u "Ljava/util/Comparator;"), (91, u "isEmpty"), (317, u "([C)V"), (90, u "serialPersistentFields"), (0, u "[Ljava/io/ObjectStreamField;"), (0, .class_ 1104), (0, u "java/lang/String$CaseInsensitiveComparator"), (1, .class_ 1107), (0, u "java/io/Serializable"), (0, .class_ 1109), (0, u "java/lang/Comparable"), (0, .class_ 1111), (0, u "java/lang/constant/Constable"), (0, .class_ 1113), (0, u "java/lang/constant/ConstantDesc"), (2, u "serialVersionUID"), (0, u "J"), (3, u "REPL"), (0, u "C"), (2, u "LATIN1"), (1, u "UTF16")] 323

def k8m0 : Method := { name := "<init>", desc := "()V", sig := { parameters := [], returnType := none }, accessFlags := 1, code := none }
def k8c1 : Code := { maxStack := 5, maxLocals := 2, code := jdk_42_method_3_code, exceptionTable := #[], attributes := #[] }
def k8m1 : Method := { name := "<init>", desc := "([C)V", sig := { parameters := [(.array .char)], returnType := none }, accessFlags := 1, code := some k8c1 }
def k8c2 : Code := { maxStack := 1, maxLocals := 1, code := jdk_42_method_55_code, exceptionTable := #[], attributes := #[] }
def k8m2 : Method := { name := "isEmpty", desc := "()Z", sig := { parameters := [], returnType := some .boolean }, accessFlags := 1, code := some k8c2 }
def k8c3 : Code := { maxStack := 2, maxLocals := 3, code := jdk_42_method_66_code, exceptionTable := #[], attributes := #[] }
def k8m3 : Method := { name := "equals", desc := "(Ljava/lang/Object;)Z", sig := { parameters := [(.object "java/lang/Object")], returnType := some .boolean }, accessFlags := 1, code := some k8c3 }
def k8c4 : Code := { maxStack := 4, maxLocals := 6, code := jdk_42_method_149_code, exceptionTable := #[], attributes := #[] }
def k8m4 : Method := { name := "<init>", desc := "([CIILjava/lang/Void;)V", sig := { parameters := [(.array .char), .int, .int, (.object "java/lang/Void")], returnType := none }, accessFlags := 2, code := some k8c4 }
/-- java/lang/String -/
def k8 : Class := { plain "java/lang/String" (some 0) with
  accessFlags := 49
  interfaces := #[3, 4, 5, 6, 7]
  cf := some (fileOf pool8 10 #[.nestMembers #[1103]] #[{ accessFlags := 1, nameIndex := 5, descriptorIndex := 6, attributes := #[] }, { accessFlags := 1, nameIndex := 5, descriptorIndex := 1010, attributes := #[] }, { accessFlags := 1, nameIndex := 692, descriptorIndex := 142, attributes := #[] }, { accessFlags := 1, nameIndex := 543, descriptorIndex := 573, attributes := #[] }, { accessFlags := 2, nameIndex := 5, descriptorIndex := 29, attributes := #[] }] 49 2 #[1106, 1108, 575, 1110, 1112] #[{ accessFlags := 18, nameIndex := 13, descriptorIndex := 14, attributes := #[] }, { accessFlags := 18, nameIndex := 17, descriptorIndex := 18, attributes := #[] }, { accessFlags := 2, nameIndex := 21, descriptorIndex := 22, attributes := #[] }, { accessFlags := 2, nameIndex := 25, descriptorIndex := 26, attributes := #[] }, { accessFlags := 26, nameIndex := 1116, descriptorIndex := 1117, attributes := #[] }, { accessFlags := 24, nameIndex := 40, descriptorIndex := 26, attributes := #[] }, { accessFlags := 26, nameIndex := 1101, descriptorIndex := 1102, attributes := #[] }, { accessFlags := 26, nameIndex := 1121, descriptorIndex := 1122, attributes := #[] }, { accessFlags := 25, nameIndex := 599, descriptorIndex := 600, attributes := #[] }, { accessFlags := 24, nameIndex := 1125, descriptorIndex := 18, attributes := #[] }, { accessFlags := 24, nameIndex := 1127, descriptorIndex := 18, attributes := #[] }])
  fields := #[{ name := "value", type := (.array .byte), accessFlags := 18, slot := 0, constantValue := 0 }, { name := "coder", type := .byte, accessFlags := 18, slot := 1, constantValue := 0 }, { name := "hash", type := .int, accessFlags := 2, slot := 2, constantValue := 0 }, { name := "hashIsZero", type := .boolean, accessFlags := 2, slot := 3, constantValue := 0 }, { name := "serialVersionUID", type := .long, accessFlags := 26, slot := 0, constantValue := 0 }, { name := "COMPACT_STRINGS", type := .boolean, accessFlags := 24, slot := 1, constantValue := 0 }, { name := "serialPersistentFields", type := (.array (.object "java/io/ObjectStreamField")), accessFlags := 26, slot := 2, constantValue := 0 }, { name := "REPL", type := .char, accessFlags := 26, slot := 3, constantValue := 0 }, { name := "CASE_INSENSITIVE_ORDER", type := (.object "java/util/Comparator"), accessFlags := 25, slot := 4, constantValue := 0 }, { name := "LATIN1", type := .byte, accessFlags := 24, slot := 5, constantValue := 0 }, { name := "UTF16", type := .byte, accessFlags := 24, slot := 6, constantValue := 0 }]
  methods := #[k8m0, k8m1, k8m2, k8m3, k8m4]
  instanceTypes := #[(.array .byte), .byte, .int, .boolean]
  staticTypes := #[.long, .boolean, (.array (.object "java/io/ObjectStreamField")), .char, (.object "java/util/Comparator"), .byte, .byte]
  resolved := Array.replicate 1451 none
  statics := some 0 }

def pool9 : Array CpInfo := pool [(6, .class_ 8), (1, u "java/lang/Object"), (0, u "<init>"), (0, u "()V"), (1, .class_ 14), (1, u "java/lang/StringUTF16"), (31, u "$assertionsDisabled"), (0, u "Z"), (13, u "HI_BYTE_SHIFT"), (0, u "I"), (2, u "LO_BYTE_SHIFT"), (49, .methodref 12 116), (0, .nameAndType 117 118), (0, u "compress"), (0, u "([CI[BII)I"), (3, u "([CII)[B"), (138, u "coderFromArrayLen"), (0, u "([BI)B"), (106, .class_ 371), (1, u "java/lang/StringUTF16$LinesSpliterator"), (58, u "MAX_LENGTH"), (196, .class_ 628), (0, u "java/lang/StringUTF16$CodePointsSpliterator"), (0, .class_ 630), (0, u "java/lang/StringUTF16$CharsSpliterator")] 4

def k9m0 : Method := { name := "<init>", desc := "()V", sig := { parameters := [], returnType := none }, accessFlags := 0, code := none }
def k9c1 : Code := { maxStack := 2, maxLocals := 2, code := jdk_52_method_15_code, exceptionTable := #[], attributes := #[] }
def k9m1 : Method := { name := "coderFromArrayLen", desc := "([BI)B", sig := { parameters := [(.array .byte), .int], returnType := some .byte }, accessFlags := 8, code := some k9c1 }
def k9c2 : Code := { maxStack := 5, maxLocals := 6, code := jdk_52_method_16_code, exceptionTable := #[], attributes := #[] }
def k9m2 : Method := { name := "compress", desc := "([CII)[B", sig := { parameters := [(.array .char), .int, .int], returnType := some (.array .byte) }, accessFlags := 9, code := some k9c2 }
def k9c3 : Code := { maxStack := 3, maxLocals := 7, code := jdk_52_method_21_code, exceptionTable := #[], attributes := #[] }
def k9m3 : Method := { name := "compress", desc := "([CI[BII)I", sig := { parameters := [(.array .char), .int, (.array .byte), .int, .int], returnType := some .int }, accessFlags := 9, code := some k9c3 }
/-- java/lang/StringUTF16 -/
def k9 : Class := { plain "java/lang/StringUTF16" (some 0) with
  accessFlags := 48
  interfaces := #[]
  cf := some (fileOf pool9 12 #[.nestMembers #[627, 629, 369]] #[{ accessFlags := 0, nameIndex := 9, descriptorIndex := 10, attributes := #[] }, { accessFlags := 8, nameIndex := 261, descriptorIndex := 262, attributes := #[] }, { accessFlags := 9, nameIndex := 117, descriptorIndex := 122, attributes := #[] }, { accessFlags := 9, nameIndex := 117, descriptorIndex := 118, attributes := #[] }] 48 6 #[] #[{ accessFlags := 26, nameIndex := 61, descriptorIndex := 62, attributes := #[] }, { accessFlags := 26, nameIndex := 65, descriptorIndex := 62, attributes := #[] }, { accessFlags := 24, nameIndex := 430, descriptorIndex := 62, attributes := #[] }, { accessFlags := 4120, nameIndex := 46, descriptorIndex := 47, attributes := #[] }])
  fields := #[{ name := "HI_BYTE_SHIFT", type := .int, accessFlags := 26, slot := 0, constantValue := 0 }, { name := "LO_BYTE_SHIFT", type := .int, accessFlags := 26, slot := 1, constantValue := 0 }, { name := "MAX_LENGTH", type := .int, accessFlags := 24, slot := 2, constantValue := 0 }, { name := "$assertionsDisabled", type := .boolean, accessFlags := 4120, slot := 3, constantValue := 0 }]
  methods := #[k9m0, k9m1, k9m2, k9m3]
  instanceTypes := #[]
  staticTypes := #[.int, .int, .int, .boolean]
  resolved := Array.replicate 635 none
  statics := none }

def pool10 : Array CpInfo := pool [(4, .class_ 6), (1, u "java/lang/Object"), (0, u "<init>"), (0, u "()V"), (5, .class_ 16), (1, u "java/lang/StringLatin1"), (104, u "$assertionsDisabled"), (0, u "Z"), (98, .class_ 223), (1, u "java/lang/StringLatin1$LinesSpliterator"), (57, u "equals"), (0, u "([B[B)Z"), (107, .class_ 391), (0, u "java/lang/StringLatin1$CharsSpliterator")] 3

def k10m0 : Method := { name := "<init>", desc := "()V", sig := { parameters := [], returnType := none }, accessFlags := 0, code := none }
def k10c1 : Code := { maxStack := 3, maxLocals := 3, code := jdk_43_method_13_code, exceptionTable := #[], attributes := #[] }
def k10m1 : Method := { name := "equals", desc := "([B[B)Z", sig := { parameters := [(.array .byte), (.array .byte)], returnType := some .boolean }, accessFlags := 9, code := some k10c1 }
/-- java/lang/StringLatin1 -/
def k10 : Class := { plain "java/lang/StringLatin1" (some 0) with
  accessFlags := 48
  interfaces := #[]
  cf := some (fileOf pool10 14 #[.nestMembers #[390, 221]] #[{ accessFlags := 0, nameIndex := 7, descriptorIndex := 8, attributes := #[] }, { accessFlags := 9, nameIndex := 281, descriptorIndex := 282, attributes := #[] }] 48 4 #[] #[{ accessFlags := 4120, nameIndex := 121, descriptorIndex := 122, attributes := #[] }])
  fields := #[{ name := "$assertionsDisabled", type := .boolean, accessFlags := 4120, slot := 0, constantValue := 0 }]
  methods := #[k10m0, k10m1]
  instanceTypes := #[]
  staticTypes := #[.boolean]
  resolved := Array.replicate 395 none
  statics := none }

def pool11 : Array CpInfo := pool [(2, .class_ 4), (1, u "java/lang/Object"), (0, u "<init>"), (0, u "()V"), (17, .class_ 26), (1, u "jdk/internal/util/Preconditions"), (28, .class_ 56), (0, u "jdk/internal/util/Preconditions$4"), (57, .class_ 115), (0, u "jdk/internal/util/Preconditions$1"), (7, u "SIOOBE_FORMATTER"), (0, u "Ljava/util/function/BiFunction;"), (0, .class_ 126), (0, u "jdk/internal/util/Preconditions$2"), (3, u "AIOOBE_FORMATTER"), (0, .class_ 132), (0, u "jdk/internal/util/Preconditions$3"), (3, u "IOOBE_FORMATTER")] 57

def k11m0 : Method := { name := "<init>", desc := "()V", sig := { parameters := [], returnType := none }, accessFlags := 1, code := none }
/-- jdk/internal/util/Preconditions -/
def k11 : Class := { plain "jdk/internal/util/Preconditions" (some 0) with
  accessFlags := 33
  interfaces := #[]
  cf := some (fileOf pool11 24 #[.nestMembers #[55, 131, 125, 114]] #[{ accessFlags := 1, nameIndex := 5, descriptorIndex := 6, attributes := #[] }] 33 2 #[] #[{ accessFlags := 25, nameIndex := 123, descriptorIndex := 124, attributes := #[] }, { accessFlags := 25, nameIndex := 130, descriptorIndex := 124, attributes := #[] }, { accessFlags := 25, nameIndex := 136, descriptorIndex := 124, attributes := #[] }])
  fields := #[{ name := "SIOOBE_FORMATTER", type := (.object "java/util/function/BiFunction"), accessFlags := 25, slot := 0, constantValue := 0 }, { name := "AIOOBE_FORMATTER", type := (.object "java/util/function/BiFunction"), accessFlags := 25, slot := 1, constantValue := 0 }, { name := "IOOBE_FORMATTER", type := (.object "java/util/function/BiFunction"), accessFlags := 25, slot := 2, constantValue := 0 }]
  methods := #[k11m0]
  instanceTypes := #[]
  staticTypes := #[(.object "java/util/function/BiFunction"), (.object "java/util/function/BiFunction"), (.object "java/util/function/BiFunction")]
  resolved := Array.replicate 194 none
  statics := some 1 }

def pool12 : Array CpInfo := pool [(9, u "<init>"), (6, .class_ 18), (1, u "java/lang/Object"), (0, u "()V"), (1, .class_ 23), (1, u "jdk/internal/util/ArraysSupport"), (0, u "LOG2_ARRAY_LONG_INDEX_SCALE"), (0, u "I"), (2, u "U"), (0, u "Ljdk/internal/misc/Unsafe;"), (8, u "BIG_ENDIAN"), (0, u "Z"), (8, u "LOG2_BYTE_BIT_SIZE"), (4, u "LOG2_ARRAY_INT_INDEX_SCALE"), (54, u "JLA"), (0, u "Ljdk/internal/access/JavaLangAccess;"), (11, u "LOG2_ARRAY_BOOLEAN_INDEX_SCALE"), (9, u "LOG2_ARRAY_BYTE_INDEX_SCALE"), (5, u "LOG2_ARRAY_CHAR_INDEX_SCALE"), (5, u "LOG2_ARRAY_SHORT_INDEX_SCALE"), (18, u "LOG2_ARRAY_FLOAT_INDEX_SCALE"), (24, u "LOG2_ARRAY_DOUBLE_INDEX_SCALE"), (89, u "T_BOOLEAN"), (2, u "T_CHAR"), (1, u "T_FLOAT"), (1, u "T_DOUBLE"), (1, u "T_BYTE"), (1, u "T_SHORT"), (1, u "T_INT"), (1, u "T_LONG"), (1, u "SOFT_MAX_ARRAY_LENGTH")] 83

def k12m0 : Method := { name := "<init>", desc := "()V", sig := { parameters := [], returnType := none }, accessFlags := 2, code := none }
/-- jdk/internal/util/ArraysSupport -/
def k12 : Class := { plain "jdk/internal/util/ArraysSupport" (some 0) with
  accessFlags := 33
  interfaces := #[]
  cf := some (fileOf pool12 21 #[] #[{ accessFlags := 2, nameIndex := 9, descriptorIndex := 19, attributes := #[] }] 33 16 #[] #[{ accessFlags := 24, nameIndex := 28, descriptorIndex := 29, attributes := #[] }, { accessFlags := 26, nameIndex := 38, descriptorIndex := 39, attributes := #[] }, { accessFlags := 25, nameIndex := 121, descriptorIndex := 25, attributes := #[] }, { accessFlags := 25, nameIndex := 131, descriptorIndex := 25, attributes := #[] }, { accessFlags := 25, nameIndex := 137, descriptorIndex := 25, attributes := #[] }, { accessFlags := 25, nameIndex := 143, descriptorIndex := 25, attributes := #[] }, { accessFlags := 25, nameIndex := 53, descriptorIndex := 25, attributes := #[] }, { accessFlags := 25, nameIndex := 24, descriptorIndex := 25, attributes := #[] }, { accessFlags := 25, nameIndex := 162, descriptorIndex := 25, attributes := #[] }, { accessFlags := 25, nameIndex := 187, descriptorIndex := 25, attributes := #[] }, { accessFlags := 26, nameIndex := 48, descriptorIndex := 25, attributes := #[] }, { accessFlags := 25, nameIndex := 277, descriptorIndex := 25, attributes := #[] }, { accessFlags := 25, nameIndex := 280, descriptorIndex := 25, attributes := #[] }, { accessFlags := 25, nameIndex := 282, descriptorIndex := 25, attributes := #[] }, { accessFlags := 25, nameIndex := 284, descriptorIndex := 25, attributes := #[] }, { accessFlags := 25, nameIndex := 286, descriptorIndex := 25, attributes := #[] }, { accessFlags := 25, nameIndex := 288, descriptorIndex := 25, attributes := #[] }, { accessFlags := 25, nameIndex := 290, descriptorIndex := 25, attributes := #[] }, { accessFlags := 25, nameIndex := 292, descriptorIndex := 25, attributes := #[] }, { accessFlags := 26, nameIndex := 108, descriptorIndex := 109, attributes := #[] }, { accessFlags := 25, nameIndex := 294, descriptorIndex := 25, attributes := #[] }])
  fields := #[{ name := "U", type := (.object "jdk/internal/misc/Unsafe"), accessFlags := 24, slot := 0, constantValue := 0 }, { name := "BIG_ENDIAN", type := .boolean, accessFlags := 26, slot := 1, constantValue := 0 }, { name := "LOG2_ARRAY_BOOLEAN_INDEX_SCALE", type := .int, accessFlags := 25, slot := 2, constantValue := 0 }, { name := "LOG2_ARRAY_BYTE_INDEX_SCALE", type := .int, accessFlags := 25, slot := 3, constantValue := 0 }, { name := "LOG2_ARRAY_CHAR_INDEX_SCALE", type := .int, accessFlags := 25, slot := 4, constantValue := 0 }, { name := "LOG2_ARRAY_SHORT_INDEX_SCALE", type := .int, accessFlags := 25, slot := 5, constantValue := 0 }, { name := "LOG2_ARRAY_INT_INDEX_SCALE", type := .int, accessFlags := 25, slot := 6, constantValue := 0 }, { name := "LOG2_ARRAY_LONG_INDEX_SCALE", type := .int, accessFlags := 25, slot := 7, constantValue := 0 }, { name := "LOG2_ARRAY_FLOAT_INDEX_SCALE", type := .int, accessFlags := 25, slot := 8, constantValue := 0 }, { name := "LOG2_ARRAY_DOUBLE_INDEX_SCALE", type := .int, accessFlags := 25, slot := 9, constantValue := 0 }, { name := "LOG2_BYTE_BIT_SIZE", type := .int, accessFlags := 26, slot := 10, constantValue := 0 }, { name := "T_BOOLEAN", type := .int, accessFlags := 25, slot := 11, constantValue := 0 }, { name := "T_CHAR", type := .int, accessFlags := 25, slot := 12, constantValue := 0 }, { name := "T_FLOAT", type := .int, accessFlags := 25, slot := 13, constantValue := 0 }, { name := "T_DOUBLE", type := .int, accessFlags := 25, slot := 14, constantValue := 0 }, { name := "T_BYTE", type := .int, accessFlags := 25, slot := 15, constantValue := 0 }, { name := "T_SHORT", type := .int, accessFlags := 25, slot := 16, constantValue := 0 }, { name := "T_INT", type := .int, accessFlags := 25, slot := 17, constantValue := 0 }, { name := "T_LONG", type := .int, accessFlags := 25, slot := 18, constantValue := 0 }, { name := "JLA", type := (.object "jdk/internal/access/JavaLangAccess"), accessFlags := 26, slot := 19, constantValue := 0 }, { name := "SOFT_MAX_ARRAY_LENGTH", type := .int, accessFlags := 25, slot := 20, constantValue := 0 }]
  methods := #[k12m0]
  instanceTypes := #[]
  staticTypes := #[(.object "jdk/internal/misc/Unsafe"), .boolean, .int, .int, .int, .int, .int, .int, .int, .int, .int, .int, .int, .int, .int, .int, .int, .int, .int, (.object "jdk/internal/access/JavaLangAccess"), .int]
  resolved := Array.replicate 378 none
  statics := none }

def pool13 : Array CpInfo := pool [(1, u "java/lang/Cloneable"), (0, .class_ 1), (0, u "java/lang/Object"), (0, .class_ 3)] 3

/-- java/lang/Cloneable -/
def k13 : Class := { plain "java/lang/Cloneable" (some 0) with
  accessFlags := 1537
  interfaces := #[]
  cf := some (fileOf pool13 2 #[] #[] 1537 4 #[] #[])
  fields := #[]
  methods := #[]
  instanceTypes := #[]
  staticTypes := #[]
  resolved := Array.replicate 8 none
  statics := none }

/-- the primitive byte -/
def k14 : Class := { plain "byte" none with kind := .primitive 'B', accessFlags := 0x411 }
/-- [B -/
def k15 : Class := { plain "[B" (some 0) with kind := .array 14 .byte, interfaces := #[13, 3], accessFlags := 1041 }

/-- the primitive char -/
def k16 : Class := { plain "char" none with kind := .primitive 'C', accessFlags := 0x411 }
/-- [C -/
def k17 : Class := { plain "[C" (some 0) with kind := .array 16 .char, interfaces := #[13, 3], accessFlags := 1041 }

/-- the primitive int -/
def k18 : Class := { plain "int" none with kind := .primitive 'I', accessFlags := 0x411 }
/-- [I -/
def k19 : Class := { plain "[I" (some 0) with kind := .array 18 .int, interfaces := #[13, 3], accessFlags := 1041 }

def heap : Heap := #[{ cls := 8, slots := #[.long 0, .int 1, .null, .int 0, .null, .int 0, .int 0], vm := .statics 8 },
  { cls := 11, slots := #[.null, .null, .null], vm := .statics 11 }]
def classes : Array Class := #[k0, k1, k2, k3, k4, k5, k6, k7, k8, k9, k10, k11, k12, k13, k14, k15, k16, k17, k18, k19]
def interned : List (Array UInt16 × Addr) := []
def slotsUsed : Nat := 10
def theMethod : MethodId := ⟨1, 1⟩
def args0 : Array Value := #[.int 5, .int 6, .int 7, .int 8, .int 0]
def aboutOver (below : List Frame) : State where
  vm := { classes := classes, interned := interned.toArray }
  heap := heap
  slotsUsed := slotsUsed
  threads := #[{ frames := .invoking theMethod args0 :: below }]
def below0 : List Frame := [.native { method := ⟨0, 0⟩, args := #[] }]
def about1 : State := aboutOver below0
def p0 : Program := .bare "" "" ""
def e0 : Env := launch0.env 0 0 0
theorem w_frames : about1.frames = Frame.invoking theMethod args0 :: below0 := rfl
set_option maxRecDepth 65536 in
theorem w_args : argsFit about1.vm theMethod args0 = true := by decide +kernel
set_option maxRecDepth 65536 in
theorem w_heap : heapFits about1 = true := by decide +kernel
set_option maxRecDepth 65536 in
theorem w_runnable : about1.curStatus? = some .runnable := by decide +kernel
set_option maxRecDepth 65536 in
theorem w_alone : about1.alone = true := by decide +kernel
set_option maxRecDepth 65536 in
theorem w_named : about1.methodNamed? x = some theMethod := by decide +kernel
set_option maxRecDepth 65536 in
theorem w_hears : about1.hears theMethod below0 = true := by decide +kernel
set_option maxRecDepth 65536 in
theorem w_ripe : about1.ripe theMethod args0 below0 = true := by decide +kernel
theorem w_running : about1.status = .running := rfl
set_option maxRecDepth 65536 in
theorem w_room : about1.hasRoom e0.platform room_1 = true :=
  launch0.hasRoom_least _ room_1 (by decide +kernel) (by decide +kernel) (by decide +kernel) (by decide +kernel) (by decide +kernel) (by decide +kernel)
theorem allAtoms_all (ts : List Jvm.Cond) (a : Array Jvm.Value) (st : Jvm.State) : (allAtoms ts).before a st = ts.all (fun c => c.before a st) := by
  induction ts with
  | nil => rfl
  | cons c t ih =>
    show (Jvm.Cond.and c (allAtoms t)).before a st = _
    rw [Jvm.Cond.before_and, ih, List.all_cons]
def words1 : List Jvm.Cond := Jvm.Cond.code x code maxLocals ret :: tables_1
/-- a 'code' word, met by the world's own term for the bytes: nothing is compared byte by byte -/
theorem code_word {y : MethodName} {bytes : ByteArray} {mx : Nat} {rt : Option FieldType} {a : Array Value} {s : State} {m : MethodId} {meth : Method} {c : Code} (h1 : s.methodNamed? y = some m) (h2 : s.vm.method? m = some meth) (h3 : meth.code = some c) (h4 : c.code = bytes)
    (h5 : (c.maxLocals == mx && c.exceptionTable.isEmpty && decide (c.maxStack ≤ mostOperands) && decide (meth.sig.returnType = rt) && !meth.locks && decide (parseMethodDescriptor y.desc = some meth.sig)) = true) : (Jvm.Cond.code y bytes mx rt).before a s = true := by
  simp only [Bool.and_eq_true, beq_iff_eq, Bool.not_eq_true', decide_eq_true_eq] at h5
  obtain ⟨⟨⟨⟨⟨g1, g2⟩, g3⟩, g4⟩, g5⟩, g6⟩ := h5
  simp [Cond.before, Cond.holds, Cond.value, h1, h2, h3, h4, g1, g2, g3, g4, g5, g6]
def isCode : Jvm.Cond → Bool
  | .code _ _ _ _ => true
  | _ => false
theorem all_split {L : List Jvm.Cond} {P : Jvm.Cond → Bool} (h1 : L.all (fun c => isCode c || P c) = true) (h2 : ∀ c ∈ L.filter isCode, P c = true) : L.all P = true := by
  refine List.all_eq_true.mpr fun c hc => ?_
  have h := List.all_eq_true.mp h1 c hc
  rcases Bool.eq_false_or_eq_true (isCode c) with hi | hi
  · exact h2 c (List.mem_filter.mpr ⟨hc, hi⟩)
  · simpa [hi] using h
set_option maxRecDepth 65536 in
theorem w_c0 : (Jvm.Cond.code x code maxLocals ret).before args0 about1 = true := code_word (m := ⟨1, 1⟩) (meth := k1m1) (c := k1c1) (by decide +kernel) rfl rfl rfl (by decide +kernel)
set_option maxRecDepth 65536 in
theorem w_c1 : (Jvm.Cond.code ({ cls := "com/example/ferrywire/ferrywire/wire/HostPortEqualsPinLaw", name := "make", desc := "(CCI)Ljava/lang/String;" } : Jvm.MethodName) method_3_code (3 : Nat) (Option.some (Jvm.ClassFile.FieldType.object "java/lang/String"))).before args0 about1 = true := code_word (m := ⟨1, 2⟩) (meth := k1m2) (c := k1c2) (by decide +kernel) rfl rfl rfl (by decide +kernel)
set_option maxRecDepth 65536 in
theorem w_c2 : (Jvm.Cond.code ({ cls := "java/lang/String", name := "<init>", desc := "([C)V" } : Jvm.MethodName) jdk_42_method_3_code (2 : Nat) (Option.none : Option Jvm.ClassFile.FieldType)).before args0 about1 = true := code_word (m := ⟨8, 1⟩) (meth := k8m1) (c := k8c1) (by decide +kernel) rfl rfl rfl (by decide +kernel)
set_option maxRecDepth 65536 in
theorem w_c3 : (Jvm.Cond.code ({ cls := "java/lang/String", name := "<init>", desc := "([CIILjava/lang/Void;)V" } : Jvm.MethodName) jdk_42_method_149_code (6 : Nat) (Option.none : Option Jvm.ClassFile.FieldType)).before args0 about1 = true := code_word (m := ⟨8, 4⟩) (meth := k8m4) (c := k8c4) (by decide +kernel) rfl rfl rfl (by decide +kernel)
set_option maxRecDepth 65536 in
theorem w_c4 : (Jvm.Cond.code ({ cls := "java/lang/Object", name := "<init>", desc := "()V" } : Jvm.MethodName) object_method_1_code (1 : Nat) (Option.none : Option Jvm.ClassFile.FieldType)).before args0 about1 = true := code_word (m := ⟨0, 0⟩) (meth := k0m0) (c := k0c0) (by decide +kernel) rfl rfl rfl (by decide +kernel)
set_option maxRecDepth 65536 in
theorem w_c5 : (Jvm.Cond.code ({ cls := "java/lang/StringUTF16", name := "compress", desc := "([CII)[B" } : Jvm.MethodName) jdk_52_method_16_code (6 : Nat) (Option.some (Jvm.ClassFile.FieldType.array Jvm.ClassFile.FieldType.byte))).before args0 about1 = true := code_word (m := ⟨9, 2⟩) (meth := k9m2) (c := k9c2) (by decide +kernel) rfl rfl rfl (by decide +kernel)
set_option maxRecDepth 65536 in
theorem w_c6 : (Jvm.Cond.code ({ cls := "java/lang/StringUTF16", name := "compress", desc := "([CI[BII)I" } : Jvm.MethodName) jdk_52_method_21_code (7 : Nat) (Option.some Jvm.ClassFile.FieldType.int)).before args0 about1 = true := code_word (m := ⟨9, 3⟩) (meth := k9m3) (c := k9c3) (by decide +kernel) rfl rfl rfl (by decide +kernel)
set_option maxRecDepth 65536 in
theorem w_c7 : (Jvm.Cond.code ({ cls := "java/lang/StringUTF16", name := "coderFromArrayLen", desc := "([BI)B" } : Jvm.MethodName) jdk_52_method_15_code (2 : Nat) (Option.some Jvm.ClassFile.FieldType.byte)).before args0 about1 = true := code_word (m := ⟨9, 1⟩) (meth := k9m1) (c := k9c1) (by decide +kernel) rfl rfl rfl (by decide +kernel)
set_option maxRecDepth 65536 in
theorem w_c8 : (Jvm.Cond.code ({ cls := "com/example/ferrywire/ferrywire/wire/HostPort", name := "<init>", desc := "(Ljava/lang/String;I)V" } : Jvm.MethodName) prog_34_method_1_code (3 : Nat) (Option.none : Option Jvm.ClassFile.FieldType)).before args0 about1 = true := code_word (m := ⟨2, 0⟩) (meth := k2m0) (c := k2c0) (by decide +kernel) rfl rfl rfl (by decide +kernel)
set_option maxRecDepth 65536 in
theorem w_c9 : (Jvm.Cond.code ({ cls := "java/lang/String", name := "isEmpty", desc := "()Z" } : Jvm.MethodName) jdk_42_method_55_code (1 : Nat) (Option.some Jvm.ClassFile.FieldType.boolean)).before args0 about1 = true := code_word (m := ⟨8, 2⟩) (meth := k8m2) (c := k8c2) (by decide +kernel) rfl rfl rfl (by decide +kernel)
set_option maxRecDepth 65536 in
theorem w_c10 : (Jvm.Cond.code ({ cls := "com/example/ferrywire/ferrywire/wire/HostPort", name := "equals", desc := "(Ljava/lang/Object;)Z" } : Jvm.MethodName) prog_34_method_5_code (3 : Nat) (Option.some Jvm.ClassFile.FieldType.boolean)).before args0 about1 = true := code_word (m := ⟨2, 1⟩) (meth := k2m1) (c := k2c1) (by decide +kernel) rfl rfl rfl (by decide +kernel)
set_option maxRecDepth 65536 in
theorem w_c11 : (Jvm.Cond.code ({ cls := "java/lang/String", name := "equals", desc := "(Ljava/lang/Object;)Z" } : Jvm.MethodName) jdk_42_method_66_code (3 : Nat) (Option.some Jvm.ClassFile.FieldType.boolean)).before args0 about1 = true := code_word (m := ⟨8, 3⟩) (meth := k8m3) (c := k8c3) (by decide +kernel) rfl rfl rfl (by decide +kernel)
set_option maxRecDepth 65536 in
theorem w_c12 : (Jvm.Cond.code ({ cls := "java/lang/StringLatin1", name := "equals", desc := "([B[B)Z" } : Jvm.MethodName) jdk_43_method_13_code (3 : Nat) (Option.some Jvm.ClassFile.FieldType.boolean)).before args0 about1 = true := code_word (m := ⟨10, 1⟩) (meth := k10m1) (c := k10c1) (by decide +kernel) rfl rfl rfl (by decide +kernel)
def codes1 : List Jvm.Cond := [Jvm.Cond.code x code maxLocals ret, Jvm.Cond.code ({ cls := "com/example/ferrywire/ferrywire/wire/HostPortEqualsPinLaw", name := "make", desc := "(CCI)Ljava/lang/String;" } : Jvm.MethodName) method_3_code (3 : Nat) (Option.some (Jvm.ClassFile.FieldType.object "java/lang/String")), Jvm.Cond.code ({ cls := "java/lang/String", name := "<init>", desc := "([C)V" } : Jvm.MethodName) jdk_42_method_3_code (2 : Nat) (Option.none : Option Jvm.ClassFile.FieldType), Jvm.Cond.code ({ cls := "java/lang/String", name := "<init>", desc := "([CIILjava/lang/Void;)V" } : Jvm.MethodName) jdk_42_method_149_code (6 : Nat) (Option.none : Option Jvm.ClassFile.FieldType), Jvm.Cond.code ({ cls := "java/lang/Object", name := "<init>", desc := "()V" } : Jvm.MethodName) object_method_1_code (1 : Nat) (Option.none : Option Jvm.ClassFile.FieldType), Jvm.Cond.code ({ cls := "java/lang/StringUTF16", name := "compress", desc := "([CII)[B" } : Jvm.MethodName) jdk_52_method_16_code (6 : Nat) (Option.some (Jvm.ClassFile.FieldType.array Jvm.ClassFile.FieldType.byte)), Jvm.Cond.code ({ cls := "java/lang/StringUTF16", name := "compress", desc := "([CI[BII)I" } : Jvm.MethodName) jdk_52_method_21_code (7 : Nat) (Option.some Jvm.ClassFile.FieldType.int), Jvm.Cond.code ({ cls := "java/lang/StringUTF16", name := "coderFromArrayLen", desc := "([BI)B" } : Jvm.MethodName) jdk_52_method_15_code (2 : Nat) (Option.some Jvm.ClassFile.FieldType.byte), Jvm.Cond.code ({ cls := "com/example/ferrywire/ferrywire/wire/HostPort", name := "<init>", desc := "(Ljava/lang/String;I)V" } : Jvm.MethodName) prog_34_method_1_code (3 : Nat) (Option.none : Option Jvm.ClassFile.FieldType), Jvm.Cond.code ({ cls := "java/lang/String", name := "isEmpty", desc := "()Z" } : Jvm.MethodName) jdk_42_method_55_code (1 : Nat) (Option.some Jvm.ClassFile.FieldType.boolean), Jvm.Cond.code ({ cls := "com/example/ferrywire/ferrywire/wire/HostPort", name := "equals", desc := "(Ljava/lang/Object;)Z" } : Jvm.MethodName) prog_34_method_5_code (3 : Nat) (Option.some Jvm.ClassFile.FieldType.boolean), Jvm.Cond.code ({ cls := "java/lang/String", name := "equals", desc := "(Ljava/lang/Object;)Z" } : Jvm.MethodName) jdk_42_method_66_code (3 : Nat) (Option.some Jvm.ClassFile.FieldType.boolean), Jvm.Cond.code ({ cls := "java/lang/StringLatin1", name := "equals", desc := "([B[B)Z" } : Jvm.MethodName) jdk_43_method_13_code (3 : Nat) (Option.some Jvm.ClassFile.FieldType.boolean)]
set_option maxRecDepth 65536 in
theorem codes_eq : words1.filter isCode = codes1 := rfl
theorem w_codes : ∀ c ∈ words1.filter isCode, c.before args0 about1 = true := by
  rw [codes_eq]
  intro c hc
  simp only [codes1, List.mem_cons, List.not_mem_nil, or_false] at hc
  rcases hc with rfl | rfl | rfl | rfl | rfl | rfl | rfl | rfl | rfl | rfl | rfl | rfl | rfl
  · exact w_c0
  · exact w_c1
  · exact w_c2
  · exact w_c3
  · exact w_c4
  · exact w_c5
  · exact w_c6
  · exact w_c7
  · exact w_c8
  · exact w_c9
  · exact w_c10
  · exact w_c11
  · exact w_c12
set_option maxRecDepth 65536 in
theorem w_t1 : (words1.take 24).all (fun c => isCode c || c.before args0 about1) = true := by decide +kernel
set_option maxRecDepth 65536 in
theorem w_t2 : ((words1.drop 24).take 24).all (fun c => isCode c || c.before args0 about1) = true := by decide +kernel
set_option maxRecDepth 65536 in
theorem w_t3 : ((words1.drop 24).drop 24).all (fun c => isCode c || c.before args0 about1) = true := by decide +kernel
theorem w_tables : (allAtoms (Jvm.Cond.code x code maxLocals ret :: tables_1)).before args0 about1 = true := by
  rw [allAtoms_all]
  show words1.all (fun c => c.before args0 about1) = true
  refine all_split ?_ w_codes
  rw [← List.take_append_drop 24 words1, List.all_append, w_t1, ← List.take_append_drop 24 (words1.drop 24), List.all_append, w_t2, w_t3]
  rfl
set_option maxRecDepth 65536 in
theorem w_rest : rest_1_c.before args0 about1 = true := by decide +kernel
set_option maxRecDepth 65536 in
theorem w_case : (Jvm.Cond.and given_1 narrow_1).before args0 about1 = true := by decide +kernel
theorem w_applies : (headSpec (Jvm.Cond.code x code maxLocals ret :: tables_1) room_1).applies x e0.platform about1 = true :=
  (Spec.applies_iff w_frames).mpr ⟨w_running, w_runnable, w_alone, w_named, w_hears, w_ripe, w_room, w_tables⟩
theorem atStart : AtStart classFile x code maxLocals ret World_1 tables_1 room_1 Calls_1 rest_1 Pre_1 launch0 p0 e0 about1 theMethod args0 below0 :=
  ⟨lists_1, trivial, launch0.admits_env _ _ _, launch0.least_env, fairChoices_fair.cas, fairChoices_fair.clock, w_frames, w_args, w_heap, w_applies, trivial, w_rest, w_case⟩
end start1
theorem witness_1 : WitnessClaimed_1 := ⟨start1.p0, start1.e0, start1.about1, start1.theMethod, start1.args0, start1.below0, start1.atStart⟩
end Jvm.Pilot.@@N@@
