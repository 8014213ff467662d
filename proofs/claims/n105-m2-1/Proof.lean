import JvmDerived
import JvmDerived.Pilot.@@N@@Statement
import JvmDerived.Pilot.@@N@@Code
set_option linter.unusedVariables false
set_option linter.unusedSimpArgs false
/- laws to paste: Road.backV (cut by pick.py; bodies as the Statement names them) -/
namespace Jvm.Pilot.@@N@@
namespace StrChars
open Jvm Sem ClassFile Op Lib Jvm.Stand Jvm.Free.XT Jvm.Free.ALB Jvm.Free.JM Jvm.Free
open Jvm.Lib.Cold (StaticIs)
/-- a char array whose places are chars -/
def Ch (a : Addr) (A : Cell) (U : State) : Prop := Arr .char a A U ∧ Typed .char A
theorem Ch.mv {a : Addr} {A : Cell} {U U' : State} (h : Ch a A U) (hal : U.vm.Alike U'.vm) (hh : U'.heap = U.heap) : Ch a A U' := ⟨h.1.mv hal hh, h.2⟩
theorem Ch.keep {a : Addr} {A : Cell} {U U' : State} (h : Ch a A U) (hal : U.vm.Alike U'.vm) (hk : U'.heap[a]? = some A) : Ch a A U' := ⟨h.1.keep hal hk, h.2⟩
/-- what place i of a char[]'s cell holds -/
def cv (A : Cell) (i : Nat) : Int32 := match A.slots[i]? with | some (.int x) => x | _ => 0
theorem Ch.get {a : Addr} {A : Cell} {U : State} (h : Ch a A U) {i : Nat} (hi : i < A.slots.size) : A.slots[i]? = some (.int (cv A i)) := by
  have e := Array.getElem?_eq_getElem hi
  have f := h.2 i _ e
  unfold cv; rw [e]
  generalize A.slots[i] = v at f
  cases v <;> simp [fits] at f ⊢
/-- the byte that i2b leaves of a char -/
def lo8 (x : Int32) : Int32 := x.toInt8.toInt32
theorem fits_lo8 (y : Int32) : fits .byte (.int (lo8 y)) = true := by
  have h1 := y.toInt8.le_toInt
  have h2 := y.toInt8.toInt_lt
  simp only [lo8, fits, Bool.and_eq_true, decide_eq_true_eq, Int32.le_iff_toInt_le, Int8.toInt_toInt32, show (-128 : Int32).toInt = -128 from by decide, show (127 : Int32).toInt = 127 from by decide]
  omega
/-- A' is A but that each place j of lo .. hi - 1 holds f j -/
def Laid (A A' : Cell) (lo hi : Nat) (f : Nat → Value) : Prop := A'.cls = A.cls ∧ A'.vm = A.vm ∧ A'.slots.size = A.slots.size ∧ ∀ i, A'.slots[i]? = if lo ≤ i ∧ i < hi then some (f i) else A.slots[i]?
theorem Laid.zero (A : Cell) (lo : Nat) (f : Nat → Value) : Laid A A lo (lo + 0) f := ⟨rfl, rfl, rfl, fun i => by rw [if_neg (by omega)]⟩
theorem Laid.step {A Ak : Cell} {lo k : Nat} {f : Nat → Value} {v : Value} (h : Laid A Ak lo k f) (hlo : lo ≤ k) (hk : k < Ak.slots.size) (hv : v = f k) : Laid A (Ak.setSlot k v) lo (k + 1) f := by
  refine ⟨h.1, h.2.1, by simpa [Cell.setSlot] using h.2.2.1, fun i => ?_⟩
  by_cases e : k = i
  · subst e; rw [Cell.slots_setSlot_self v hk, if_pos (by omega), hv]
  · rw [Cell.slots_setSlot_ne v e, h.2.2.2 i]
    by_cases q : lo ≤ i ∧ i < k
    · rw [if_pos q, if_pos (by omega)]
    · rw [if_neg q, if_neg (by omega)]
def U16 : String := "java/lang/StringUTF16"
namespace Cmp5
def yN : MethodName := ⟨"java/lang/StringUTF16", "compress", "([CI[BII)I"⟩
abbrev yB : ByteArray := jdk_52_method_21_code
theorem d0 : decode yB 0 = .ok (.iconst 0, 1) := by decide +kernel
theorem d1 : decode yB 1 = .ok (.istore 5, 2) := by decide +kernel
theorem d3 : decode yB 3 = .ok (.iload 5, 2) := by decide +kernel
theorem d5 : decode yB 5 = .ok (.iload 4, 2) := by decide +kernel
theorem d7 : decode yB 7 = .ok (.if_icmp (.ge) 37, 3) := by decide +kernel
theorem d10 : decode yB 10 = .ok (.aload_n 0, 1) := by decide +kernel
theorem d11 : decode yB 11 = .ok (.iload_n 1, 1) := by decide +kernel
theorem d12 : decode yB 12 = .ok (.caload, 1) := by decide +kernel
theorem d13 : decode yB 13 = .ok (.istore 6, 2) := by decide +kernel
theorem d15 : decode yB 15 = .ok (.iload 6, 2) := by decide +kernel
theorem d17 : decode yB 17 = .ok (.sipush 255, 3) := by decide +kernel
theorem d20 : decode yB 20 = .ok (.if_icmp (.le) 6, 3) := by decide +kernel
theorem d26 : decode yB 26 = .ok (.aload_n 2, 1) := by decide +kernel
theorem d27 : decode yB 27 = .ok (.iload_n 3, 1) := by decide +kernel
theorem d28 : decode yB 28 = .ok (.iload 6, 2) := by decide +kernel
theorem d30 : decode yB 30 = .ok (.i2b, 1) := by decide +kernel
theorem d31 : decode yB 31 = .ok (.bastore, 1) := by decide +kernel
theorem d32 : decode yB 32 = .ok (.iinc 1 1, 3) := by decide +kernel
theorem d35 : decode yB 35 = .ok (.iinc 3 1, 3) := by decide +kernel
theorem d38 : decode yB 38 = .ok (.iinc 5 1, 3) := by decide +kernel
theorem d41 : decode yB 41 = .ok (.goto (-38), 3) := by decide +kernel
theorem d44 : decode yB 44 = .ok (.iload 4, 2) := by decide +kernel
theorem d46 : decode yB 46 = .ok (.ireturn, 1) := by decide +kernel
def site : List Cond := []
def tab : Cond := tabOf yN yB 7 (some .int) site
def P (b : Addr) (A : Cell) (d : Addr) (B : Cell) (o q len : Nat) (args : Array Value) (s : State) : Prop := args = #[.ref b, .int (Int32.ofNat o), .ref d, .int (Int32.ofNat q), .int (Int32.ofNat len)] ∧ Ch b A s ∧ Arr .byte d B s ∧ b ≠ d ∧ o + len ≤ A.slots.size ∧ q + len ≤ B.slots.size ∧ ∀ i, i < len → ¬ 255 < cv A (o + i)
def E (b : Addr) (A : Cell) (d : Addr) (B : Cell) (o q len : Nat) (r : Option Value) (s u : State) : Prop := r = some (.int (Int32.ofNat len)) ∧ ∃ B', Put d B' s u ∧ Laid B B' q (q + len) (fun j => Value.int (lo8 (cv A (o + (j - q)))))
/-- no char of the range above 255: len; the places written hold each char's low byte -/
theorem law (l : Launch) (b : Addr) (A : Cell) (d : Addr) (B : Cell) (o q len : Nat) : Law l yN 5 5 0 0 yB 7 (some .int) site (P b A d B o q len) (E b A d B o q len) (copyLocs d q len) 0 0 := by
  refine Law.of_walk (plainFor_of_name (by decide +kernel)) (by decide +kernel) (by decide +kernel) (by decide) (fun _ _ h => by rw [h.1]; rfl) (fun _ U U' hal hh h => ⟨h.1, h.2.1.mv hal hh, h.2.2.1.mv hal hh, h.2.2.2⟩) (fun r U U' V V' h1 hal h2 h => ⟨h.1, h.2.elim fun B' q => ⟨B', q.1.mv h1 h2, q.2⟩⟩) ?_
  intro p e s m args below meth c s₁ X0 hexec hbytes hml hret hlk hnm hown hh0 W hP
  obtain ⟨rfl, hA, hB, hne, l1, l2, hp⟩ := hP
  have c1 : Steps p.tables e below (s₁.setTop (entryFrame m #[.ref b, .int (Int32.ofNat o), .ref d, .int (Int32.ofNat q), .int (Int32.ofNat len)] 7)) (s₁.setTop (mkF m 0 #[.val (.ref b), .val (.int (Int32.ofNat o)), .val (.ref d), .val (.int (Int32.ofNat q)), .val (.int (Int32.ofNat len)), .unset, .unset] [])) := entry rfl
  have hA0 := hA.1.mv X0.warmed.alike hh0
  have hB0 := hB.mv X0.warmed.alike hh0
  have a31 := hA.1.2.2.2
  have c2 : Steps p.tables e below (s₁.setTop (entryFrame m #[.ref b, .int (Int32.ofNat o), .ref d, .int (Int32.ofNat q), .int (Int32.ofNat len)] 7)) (s₁.setTop (mkF m 3 #[.val (.ref b), .val (.int (Int32.ofNat o)), .val (.ref d), .val (.int (Int32.ofNat q)), .val (.int (Int32.ofNat len)), .val (.int 0), .unset] [])) := c1.trans (by
    refine iconstV X0.here hexec rfl 0 (hb hbytes d0) (by decide) ?_
    refine XS.istore X0.here hexec rfl (hb hbytes d1) rfl rfl ?_
    exact Steps.refl _)
  have loop : ∀ (r i : Nat), i + r = len → ∀ (z : Slot), (z = .unset ∨ ∃ w, z = .val w ∧ w.category = 1) → ∀ (Tl : State) (Bk : Cell), Stand p l e { frames := 0, locals := 0, cells := 0, slots := 0 } s m #[.ref b, .int (Int32.ofNat o), .ref d, .int (Int32.ofNat q), .int (Int32.ofNat len)] below meth c Tl ([] ++ copyLocs d q i) 0 0 → Put d Bk s₁ Tl → Laid B Bk q (q + i) (fun j => Value.int (lo8 (cv A (o + (j - q))))) →
      Steps p.tables e below (s₁.setTop (entryFrame m #[.ref b, .int (Int32.ofNat o), .ref d, .int (Int32.ofNat q), .int (Int32.ofNat len)] 7)) (Tl.setTop (mkF m 3 #[.val (.ref b), .val (.int (Int32.ofNat (o + i))), .val (.ref d), .val (.int (Int32.ofNat (q + i))), .val (.int (Int32.ofNat len)), .val (.int (Int32.ofNat i)), z] [])) → ∃ (T' : State) (B' : Cell) (z' : Slot), Stand p l e { frames := 0, locals := 0, cells := 0, slots := 0 } s m #[.ref b, .int (Int32.ofNat o), .ref d, .int (Int32.ofNat q), .int (Int32.ofNat len)] below meth c T' ([] ++ copyLocs d q len) 0 0 ∧ Put d B' s₁ T' ∧ Laid B B' q (q + len) (fun j => Value.int (lo8 (cv A (o + (j - q))))) ∧
      Steps p.tables e below (s₁.setTop (entryFrame m #[.ref b, .int (Int32.ofNat o), .ref d, .int (Int32.ofNat q), .int (Int32.ofNat len)] 7)) (T'.setTop (mkF m 3 #[.val (.ref b), .val (.int (Int32.ofNat (o + len))), .val (.ref d), .val (.int (Int32.ofNat (q + len))), .val (.int (Int32.ofNat len)), .val (.int (Int32.ofNat len)), z'] [])) := by
    intro r
    induction r with
    | zero =>
      intro i hi z hz Tl Bk Xl pl fl cl
      have hil : i = len := by omega
      rw [hil] at Xl fl cl
      exact ⟨Tl, Bk, z, Xl, pl, fl, cl⟩
    | succ r ih =>
      intro i hi z hz Tl Bk Xl pl fl cl
      have all := X0.warmed.alike.symm.trans Xl.warmed.alike
      have hAl := hA0.keep all (pl.other hne hA0.1)
      have hBk := hB0.like all pl.1 fl.1 fl.2.1 fl.2.2.1
      have hlt : q + i < Bk.slots.size := by rw [fl.2.2.1]; omega
      have c3 : Steps p.tables e below (s₁.setTop (entryFrame m #[.ref b, .int (Int32.ofNat o), .ref d, .int (Int32.ofNat q), .int (Int32.ofNat len)] 7)) (Tl.setTop (mkF m 12 #[.val (.ref b), .val (.int (Int32.ofNat (o + i))), .val (.ref d), .val (.int (Int32.ofNat (q + i))), .val (.int (Int32.ofNat len)), .val (.int (Int32.ofNat i)), z] [.int (Int32.ofNat (o + i)), .ref b])) := cl.trans (by
        refine XS.iload Xl.here hexec rfl (hb hbytes d3) rfl ?_
        refine XS.iload Xl.here hexec rfl (hb hbytes d5) rfl ?_
        refine XS.icmpNo Xl.here hexec rfl (hb hbytes d7) rfl (ii_ge_f (lt32 (by omega) (by omega))) ?_
        refine XS.aloadN Xl.here hexec rfl (hb hbytes d10) rfl rfl ?_
        refine XS.iloadN Xl.here hexec rfl (hb hbytes d11) rfl ?_
        exact Steps.refl _)
      have c4 : Steps p.tables e below (s₁.setTop (entryFrame m #[.ref b, .int (Int32.ofNat o), .ref d, .int (Int32.ofNat q), .int (Int32.ofNat len)] 7)) (Tl.setTop (mkF m 13 #[.val (.ref b), .val (.int (Int32.ofNat (o + i))), .val (.ref d), .val (.int (Int32.ofNat (q + i))), .val (.int (Int32.ofNat len)), .val (.int (Int32.ofNat i)), z] [.int (cv A (o + i))])) := c3.trans (by
        refine Xl.aget hexec hAl rfl (hA.get (i := o + i) (by omega)) rfl rfl (hb hbytes d12) ?_
        exact Steps.refl _)
      have c5 : Steps p.tables e below (s₁.setTop (entryFrame m #[.ref b, .int (Int32.ofNat o), .ref d, .int (Int32.ofNat q), .int (Int32.ofNat len)] 7)) (Tl.setTop (mkF m 15 #[.val (.ref b), .val (.int (Int32.ofNat (o + i))), .val (.ref d), .val (.int (Int32.ofNat (q + i))), .val (.int (Int32.ofNat len)), .val (.int (Int32.ofNat i)), .val (.int (cv A (o + i)))] [])) := c4.trans (by
        refine XS.istoreS Xl.here hexec rfl (hb hbytes d13) rfl rfl hz ?_
        exact Steps.refl _)
      have c6 : Steps p.tables e below (s₁.setTop (entryFrame m #[.ref b, .int (Int32.ofNat o), .ref d, .int (Int32.ofNat q), .int (Int32.ofNat len)] 7)) (Tl.setTop (mkF m 31 #[.val (.ref b), .val (.int (Int32.ofNat (o + i))), .val (.ref d), .val (.int (Int32.ofNat (q + i))), .val (.int (Int32.ofNat len)), .val (.int (Int32.ofNat i)), .val (.int (cv A (o + i)))] [.int (lo8 (cv A (o + i))), .int (Int32.ofNat (q + i)), .ref d])) := c5.trans (by
        refine XS.iload Xl.here hexec rfl (hb hbytes d15) rfl ?_
        refine sipushV Xl.here hexec rfl 255 (hb hbytes d17) (by decide) ?_
        refine XS.icmpYes Xl.here hexec rfl (pc0 := 20) rfl (hb hbytes d20) rfl (ii_le_t (hp i (by omega))) (by decide) rfl ?_
        refine XS.aloadN Xl.here hexec rfl (hb hbytes d26) rfl rfl ?_
        refine XS.iloadN Xl.here hexec rfl (hb hbytes d27) rfl ?_
        refine XS.iload Xl.here hexec rfl (hb hbytes d28) rfl ?_
        refine i2b Xl.here hexec rfl (hb hbytes d30) rfl ?_
        exact Steps.refl _)
      obtain ⟨T7, X7, p7, st7⟩ := Xl.aput hexec hBk rfl hlt rfl (fits_lo8 (cv A (o + i))) (g := (mkF m 31 #[.val (.ref b), .val (.int (Int32.ofNat (o + i))), .val (.ref d), .val (.int (Int32.ofNat (q + i))), .val (.int (Int32.ofNat len)), .val (.int (Int32.ofNat i)), .val (.int (cv A (o + i)))] [.int (lo8 (cv A (o + i))), .int (Int32.ofNat (q + i)), .ref d])) rfl (rest := []) rfl (hb hbytes d31)
      have c8 : Steps p.tables e below (s₁.setTop (entryFrame m #[.ref b, .int (Int32.ofNat o), .ref d, .int (Int32.ofNat q), .int (Int32.ofNat len)] 7)) (T7.setTop (mkF m 32 #[.val (.ref b), .val (.int (Int32.ofNat (o + i))), .val (.ref d), .val (.int (Int32.ofNat (q + i))), .val (.int (Int32.ofNat len)), .val (.int (Int32.ofNat i)), .val (.int (cv A (o + i)))] [])) := c6.trans (st7 _ (Steps.refl _))
      have c9 : Steps p.tables e below (s₁.setTop (entryFrame m #[.ref b, .int (Int32.ofNat o), .ref d, .int (Int32.ofNat q), .int (Int32.ofNat len)] 7)) (T7.setTop (mkF m 3 #[.val (.ref b), .val (.int (Int32.ofNat (o + i) + 1)), .val (.ref d), .val (.int (Int32.ofNat (q + i) + 1)), .val (.int (Int32.ofNat len)), .val (.int (Int32.ofNat i + 1)), .val (.int (cv A (o + i)))] [])) := c8.trans (by
        refine iincV X7.here hexec rfl 1 (hb hbytes d32) (by decide) rfl rfl ?_
        refine iincV X7.here hexec rfl 1 (hb hbytes d35) (by decide) rfl rfl ?_
        refine iincV X7.here hexec rfl 1 (hb hbytes d38) (by decide) rfl rfl ?_
        refine XS.goto X7.here hexec rfl (pc0 := 41) rfl (hb hbytes d41) (by decide) rfl ?_
        exact Steps.refl _)
      have c10 : Steps p.tables e below (s₁.setTop (entryFrame m #[.ref b, .int (Int32.ofNat o), .ref d, .int (Int32.ofNat q), .int (Int32.ofNat len)] 7)) (T7.setTop (mkF m 3 #[.val (.ref b), .val (.int (Int32.ofNat (o + (i + 1)))), .val (.ref d), .val (.int (Int32.ofNat (q + (i + 1)))), .val (.int (Int32.ofNat len)), .val (.int (Int32.ofNat (i + 1))), .val (.int (cv A (o + i)))] [])) := by
        have := c9
        rw [succ32, succ32, succ32] at this
        exact this
      exact ih (i + 1) (by omega) _ (Or.inr ⟨_, rfl, rfl⟩) T7 _ (by rw [copyLocs_step, ← List.append_assoc]; exact X7) (pl.trans p7) (fl.step (by omega) hlt (by simp)) c10
  obtain ⟨T9, B9, z9, X9, p9, f9, g9⟩ := loop len 0 (by omega) .unset (Or.inl rfl) s₁ B (by simpa [copyLocs] using X0) ⟨hB0.1, fun _ _ => rfl, rfl⟩ (Laid.zero _ _ _) c2
  have c11 : Steps p.tables e below (s₁.setTop (entryFrame m #[.ref b, .int (Int32.ofNat o), .ref d, .int (Int32.ofNat q), .int (Int32.ofNat len)] 7)) (T9.setTop (mkF m 46 #[.val (.ref b), .val (.int (Int32.ofNat (o + len))), .val (.ref d), .val (.int (Int32.ofNat (q + len))), .val (.int (Int32.ofNat len)), .val (.int (Int32.ofNat len)), z9] [.int (Int32.ofNat len)])) := g9.trans (by
    refine XS.iload X9.here hexec rfl (hb hbytes d3) rfl ?_
    refine XS.iload X9.here hexec rfl (hb hbytes d5) rfl ?_
    refine XS.icmpYes X9.here hexec rfl (pc0 := 7) rfl (hb hbytes d7) rfl (ii_ge_t (nlt32 (by omega) (Nat.le_refl _))) (by decide) rfl ?_
    refine XS.iload X9.here hexec rfl (hb hbytes d44) rfl ?_
    exact Steps.refl _)
  exact ⟨T9, some (.int (Int32.ofNat len)), _, _, _, X9, by simp, rfl, rfl, (fun h => by cases h), ⟨rfl, B9, p9.from hh0, f9⟩, fun fs hl => c11.trans (X9.ireturnOut hexec hret rfl (Or.inl rfl) (hb hbytes d46) hl)⟩
end Cmp5
namespace Cmp3
def yN : MethodName := ⟨"java/lang/StringUTF16", "compress", "([CII)[B"⟩
abbrev yB : ByteArray := jdk_52_method_16_code
theorem d0 : decode yB 0 = .ok (.iload_n 2, 1) := by decide +kernel
theorem d1 : decode yB 1 = .ok (.newarray .byte, 2) := by decide +kernel
theorem d3 : decode yB 3 = .ok (.astore_n 3, 1) := by decide +kernel
theorem d4 : decode yB 4 = .ok (.aload_n 0, 1) := by decide +kernel
theorem d5 : decode yB 5 = .ok (.iload_n 1, 1) := by decide +kernel
theorem d6 : decode yB 6 = .ok (.aload_n 3, 1) := by decide +kernel
theorem d7 : decode yB 7 = .ok (.iconst 0, 1) := by decide +kernel
theorem d8 : decode yB 8 = .ok (.iload_n 2, 1) := by decide +kernel
theorem d9 : decode yB 9 = .ok (.invokestatic 115, 3) := by decide +kernel
theorem d12 : decode yB 12 = .ok (.istore 4, 2) := by decide +kernel
theorem d14 : decode yB 14 = .ok (.iload 4, 2) := by decide +kernel
theorem d16 : decode yB 16 = .ok (.iload_n 2, 1) := by decide +kernel
theorem d17 : decode yB 17 = .ok (.if_icmp (.eq) 40, 3) := by decide +kernel
theorem d57 : decode yB 57 = .ok (.aload_n 3, 1) := by decide +kernel
theorem d58 : decode yB 58 = .ok (.areturn, 1) := by decide +kernel
def site : List Cond := [.arrayClass .byte, Cmp5.tab] ++ staticW U16 115 Cmp5.yN
def tab : Cond := tabOf yN yB 6 (some (.array .byte)) site
def P (b : Addr) (A : Cell) (o len : Nat) (args : Array Value) (s : State) : Prop := args = #[.ref b, .int (Int32.ofNat o), .int (Int32.ofNat len)] ∧ Ch b A s ∧ o + len ≤ A.slots.size ∧ len ≤ 536870912 ∧ ∀ i, i < len → ¬ 255 < cv A (o + i)
def E (b : Addr) (A : Cell) (o len : Nat) (r : Option Value) (s u : State) : Prop := NewArr .byte "[B" len (fun j => .int (lo8 (cv A (o + j)))) r s u ∧ u.heap.size = s.heap.size + 1
/-- no char of the range above 255: a new byte[] of their low bytes -/
theorem law (l : Launch) (b : Addr) (A : Cell) (o len : Nat) : Law l yN 3 3 1 18 yB 6 (some (.array .byte)) site (P b A o len) (E b A o len) [] 1 len := by
  refine Law.of_walk (plainFor_of_name (by decide +kernel)) (by decide +kernel) (by decide +kernel) (by decide) (fun _ _ h => by rw [h.1]; rfl) (fun _ U U' hal hh h => ⟨h.1, h.2.1.mv hal hh, h.2.2⟩) (fun r U U' V V' h1 hal h2 h => ⟨NewArr.mv r U U' V V' h1 hal h2 h.1, by rw [h1, h2]; exact h.2⟩) ?_
  intro p e s m args below meth c s₁ X0 hexec hbytes hml hret hlk hnm hown hh0 W hP
  obtain ⟨rfl, hA, l1, l2, hp⟩ := hP
  have a31 := hA.1.2.2.2
  have c1 : Steps p.tables e below (s₁.setTop (entryFrame m #[.ref b, .int (Int32.ofNat o), .int (Int32.ofNat len)] 6)) (s₁.setTop (mkF m 0 #[.val (.ref b), .val (.int (Int32.ofNat o)), .val (.int (Int32.ofNat len)), .unset, .unset, .unset] [])) := entry rfl
  have c2 : Steps p.tables e below (s₁.setTop (entryFrame m #[.ref b, .int (Int32.ofNat o), .int (Int32.ofNat len)] 6)) (s₁.setTop (mkF m 1 #[.val (.ref b), .val (.int (Int32.ofNat o)), .val (.int (Int32.ofNat len)), .unset, .unset, .unset] [.int (Int32.ofNat len)])) := c1.trans (by
    refine XS.iloadN X0.here hexec rfl (hb hbytes d0) rfl ?_
    exact Steps.refl _)
  obtain ⟨T3, B3, X3, ba3, bs3, bv3, bh3, bf3, st3⟩ := X0.anew hexec (atype := .byte) (wk W (.arrayClass .byte)) rfl (by show len * 1 ≤ _; omega) (by omega) (g := (mkF m 1 #[.val (.ref b), .val (.int (Int32.ofNat o)), .val (.int (Int32.ofNat len)), .unset, .unset, .unset] [.int (Int32.ofNat len)])) rfl (hb hbytes d1) (rest := []) rfl (Nat.le_refl _) (by show 0 + len ≤ len; omega)
  rw [hh0] at ba3 st3
  have kp3 : XT.Kept s T3 := (XT.Kept.of_eq hh0).push bh3
  have hA3 := hA.keep X3.warmed.alike (kp3 _ _ hA.1.1)
  have hne : b ≠ s.heap.size := hA.1.ne
  have c4 : Steps p.tables e below (s₁.setTop (entryFrame m #[.ref b, .int (Int32.ofNat o), .int (Int32.ofNat len)] 6)) (T3.setTop (mkF m 3 #[.val (.ref b), .val (.int (Int32.ofNat o)), .val (.int (Int32.ofNat len)), .unset, .unset, .unset] [.ref s.heap.size])) := c2.trans (st3 _ (Steps.refl _))
  have c5 : Steps p.tables e below (s₁.setTop (entryFrame m #[.ref b, .int (Int32.ofNat o), .int (Int32.ofNat len)] 6)) (T3.setTop (mkF m 9 #[.val (.ref b), .val (.int (Int32.ofNat o)), .val (.int (Int32.ofNat len)), .val (.ref s.heap.size), .unset, .unset] [.int (Int32.ofNat len), .int 0, .ref s.heap.size, .int (Int32.ofNat o), .ref b])) := c4.trans (by
    refine XS.astoreN X3.here hexec rfl (hb hbytes d3) rfl rfl rfl ?_
    refine XS.aloadN X3.here hexec rfl (hb hbytes d4) rfl rfl ?_
    refine XS.iloadN X3.here hexec rfl (hb hbytes d5) rfl ?_
    refine XS.aloadN X3.here hexec rfl (hb hbytes d6) rfl rfl ?_
    refine iconstV X3.here hexec rfl 0 (hb hbytes d7) (by decide) ?_
    refine XS.iloadN X3.here hexec rfl (hb hbytes d8) rfl ?_
    exact Steps.refl _)
  obtain ⟨v6, T6, X6, E6, g6⟩ := X3.callS hexec (Cmp5.law l b A s.heap.size B3 o 0 len) hown (wks W (staticW U16 115 Cmp5.yN)) (wk W Cmp5.tab) (W := 0) (Nat.le_of_ble_eq_true rfl) (Nat.le_of_ble_eq_true rfl) (Nat.le_refl _) (by show 0 + len + 0 ≤ len; omega) (g := (mkF m 9 #[.val (.ref b), .val (.int (Int32.ofNat o)), .val (.int (Int32.ofNat len)), .val (.ref s.heap.size), .unset, .unset] [.int (Int32.ofNat len), .int (Int32.ofNat 0), .ref s.heap.size, .int (Int32.ofNat o), .ref b])) rfl (by rw [hml]; rfl) c5 (argsL := [.ref b, .int (Int32.ofNat o), .ref s.heap.size, .int (Int32.ofNat 0), .int (Int32.ofNat len)]) (rest := []) rfl rfl (by show 2 * 0 + 0 ≤ _; decide) (hb hbytes d9) (⟨rfl, hA3, ba3, hne, l1, by rw [bs3]; simp, hp⟩)
  obtain ⟨rfl, B6, p6, f6⟩ := E6
  have c7 : Steps p.tables e below (s₁.setTop (entryFrame m #[.ref b, .int (Int32.ofNat o), .int (Int32.ofNat len)] 6)) (T6.setTop (mkF m 12 #[.val (.ref b), .val (.int (Int32.ofNat o)), .val (.int (Int32.ofNat len)), .val (.ref s.heap.size), .unset, .unset] [.int (Int32.ofNat len)])) := g6
  have c8 : Steps p.tables e below (s₁.setTop (entryFrame m #[.ref b, .int (Int32.ofNat o), .int (Int32.ofNat len)] 6)) (T6.setTop (mkF m 58 #[.val (.ref b), .val (.int (Int32.ofNat o)), .val (.int (Int32.ofNat len)), .val (.ref s.heap.size), .val (.int (Int32.ofNat len)), .unset] [.ref s.heap.size])) := c7.trans (by
    refine XS.istore X6.here hexec rfl (hb hbytes d12) rfl rfl ?_
    refine XS.iload X6.here hexec rfl (hb hbytes d14) rfl ?_
    refine XS.iloadN X6.here hexec rfl (hb hbytes d16) rfl ?_
    refine XS.icmpYes X6.here hexec rfl (pc0 := 17) rfl (hb hbytes d17) rfl (ii_eq_t rfl) (by decide) rfl ?_
    refine XS.aloadN X6.here hexec rfl (hb hbytes d57) rfl rfl ?_
    exact Steps.refl _)
  have X8 := X6.wide (L' := []) (cells' := 1) (slots' := len) (fun x hx hlt => by
    simp only [List.nil_append, copyLocs, List.mem_map, List.mem_range] at hx
    obtain ⟨i, -, rfl⟩ := hx
    exact absurd hlt (Nat.lt_irrefl _)) (Nat.le_refl _) (by omega)
  exact ⟨T6, some (.ref s.heap.size), _, _, _, X8, rfl, rfl, rfl, (fun h => by cases h), ⟨⟨rfl, B6, ba3.like (X3.warmed.alike.symm.trans X6.warmed.alike) p6.1 f6.1 f6.2.1 f6.2.2.1, f6.2.1.trans bv3, by rw [X6.warmed.alike.findClass, f6.1]; exact bf3, by rw [f6.2.2.1, bs3]; simp, fun j hj => by rw [f6.2.2.2 j, if_pos (by omega)]; rfl, kp3.put p6 (Nat.le_refl _)⟩, by rw [p6.2.2, bh3, hh0]; simp⟩, fun fs hl => c8.trans (X8.areturnOut hexec rfl hret rfl (hb hbytes d58) hl)⟩
end Cmp3
namespace CodL
def yN : MethodName := ⟨"java/lang/StringUTF16", "coderFromArrayLen", "([BI)B"⟩
abbrev yB : ByteArray := jdk_52_method_15_code
theorem d0 : decode yB 0 = .ok (.iload_n 1, 1) := by decide +kernel
theorem d1 : decode yB 1 = .ok (.aload_n 0, 1) := by decide +kernel
theorem d2 : decode yB 2 = .ok (.arraylength, 1) := by decide +kernel
theorem d3 : decode yB 3 = .ok (.isub, 1) := by decide +kernel
theorem d4 : decode yB 4 = .ok (.bipush 31, 2) := by decide +kernel
theorem d6 : decode yB 6 = .ok (.iushr, 1) := by decide +kernel
theorem d7 : decode yB 7 = .ok (.i2b, 1) := by decide +kernel
theorem d8 : decode yB 8 = .ok (.ireturn, 1) := by decide +kernel
def site : List Cond := []
def tab : Cond := tabOf yN yB 2 (some .byte) site
def P (d : Addr) (B : Cell) (args : Array Value) (s : State) : Prop := args = #[.ref d, .int (Int32.ofNat B.slots.size)] ∧ Arr .byte d B s
def E (r : Option Value) (s u : State) : Prop := XT.PureE (some (.int 0)) r s u
/-- an array as long as the number of chars: LATIN1 -/
theorem law (l : Launch) (d : Addr) (B : Cell) : Law l yN 2 2 0 0 yB 2 (some .byte) site (P d B) E [] 0 0 := by
  refine Law.of_walk (plainFor_of_name (by decide +kernel)) (by decide +kernel) (by decide +kernel) (by decide) (fun _ _ h => by rw [h.1]; rfl) (fun _ U U' hal hh h => ⟨h.1, h.2.mv hal hh⟩) (fun r U U' V V' h1 hal h2 h => XT.PureE.mv r U U' V V' h1 hal h2 h) ?_
  intro p e s m args below meth c s₁ X0 hexec hbytes hml hret hlk hnm hown hh0 W hP
  obtain ⟨rfl, hB⟩ := hP
  have hB0 := hB.mv X0.warmed.alike hh0
  have c1 : Steps p.tables e below (s₁.setTop (entryFrame m #[.ref d, .int (Int32.ofNat B.slots.size)] 2)) (s₁.setTop (mkF m 0 #[.val (.ref d), .val (.int (Int32.ofNat B.slots.size))] [])) := entry rfl
  have c2 : Steps p.tables e below (s₁.setTop (entryFrame m #[.ref d, .int (Int32.ofNat B.slots.size)] 2)) (s₁.setTop (mkF m 2 #[.val (.ref d), .val (.int (Int32.ofNat B.slots.size))] [.ref d, .int (Int32.ofNat B.slots.size)])) := c1.trans (by
    refine XS.iloadN X0.here hexec rfl (hb hbytes d0) rfl ?_
    refine XS.aloadN X0.here hexec rfl (hb hbytes d1) rfl rfl ?_
    exact Steps.refl _)
  have c3 : Steps p.tables e below (s₁.setTop (entryFrame m #[.ref d, .int (Int32.ofNat B.slots.size)] 2)) (s₁.setTop (mkF m 8 #[.val (.ref d), .val (.int (Int32.ofNat B.slots.size))] [.int (lo8 (ushr (Int32.ofNat B.slots.size - Int32.ofNat B.slots.size) 31))])) := c2.trans (by
    refine X0.alen hexec hB0 rfl rfl (hb hbytes d2) ?_
    refine XS.isub X0.here hexec rfl (hb hbytes d3) rfl ?_
    refine bipushV X0.here hexec rfl 31 (hb hbytes d4) (by decide) ?_
    refine iushr X0.here hexec rfl (hb hbytes d6) rfl ?_
    refine i2b X0.here hexec rfl (hb hbytes d7) rfl ?_
    exact Steps.refl _)
  have e0 : lo8 (ushr (Int32.ofNat B.slots.size - Int32.ofNat B.slots.size) 31) = 0 := by rw [Int32.sub_self]; decide
  rw [e0] at c3
  exact ⟨s₁, some (.int 0), _, _, _, X0, rfl, rfl, rfl, (fun h => by cases h), ⟨rfl, hh0⟩, fun fs hl => c3.trans (X0.ireturnOut hexec hret rfl (Or.inr (Or.inr (Or.inl rfl))) (hb hbytes d8) hl)⟩
end CodL
/-- the String at a is Latin-1 over a new byte[] (the heap's one new cell): the low bytes of the len chars of A from o on; every cell but a is kept -/
def Got (a : Addr) (D : Cell) (fV fC : Field) (A : Cell) (o len : Nat) (r : Option Value) (s u : State) : Prop := r = none ∧ ∃ D' V : Cell, Blank "java/lang/String" a D' u ∧ Same D D' [fV.slot, fC.slot] ∧ D'.slots[fV.slot]? = some (.ref s.heap.size) ∧ D'.slots[fC.slot]? = some (.int 0) ∧ Arr .byte s.heap.size V u ∧ V.vm = .none ∧ u.vm.findClass "[B" = some V.cls ∧ V.slots.size = len ∧ (∀ j, j < len → V.slots[j]? = some (.int (lo8 (cv A (o + j))))) ∧ (∀ (y : Addr) (c : Cell), y ≠ a → s.heap[y]? = some c → u.heap[y]? = some c) ∧ u.heap.size = s.heap.size + 1
theorem Got.mv {a : Addr} {D A : Cell} {fV fC : Field} {o len : Nat} : ∀ r (U U' V V' : State), U'.heap = U.heap → V.vm.Alike V'.vm → V'.heap = V.heap → Got a D fV fC A o len r U V → Got a D fV fC A o len r U' V' :=
  fun r U U' V V' h1 hal h2 ⟨e0, D', X, a1, a2, a3, a4, a5, a6, a7, a8, a9, a10, a11⟩ => ⟨e0, D', X, a1.mv hal h2, a2, by rw [h1]; exact a3, a4, by rw [h1]; exact a5.mv hal h2, a6, by rw [hal.findClass]; exact a7, a8, a9, by rw [h1, h2]; exact a10, by rw [h1, h2]; exact a11⟩
namespace New4
def yN : MethodName := ⟨"java/lang/String", "<init>", "([CIILjava/lang/Void;)V"⟩
abbrev yB : ByteArray := jdk_42_method_149_code
theorem d0 : decode yB 0 = .ok (.aload_n 0, 1) := by decide +kernel
theorem d1 : decode yB 1 = .ok (.invokespecial 1, 3) := by decide +kernel
theorem d4 : decode yB 4 = .ok (.iload_n 3, 1) := by decide +kernel
theorem d5 : decode yB 5 = .ok (.ifCond (.ne) 22, 3) := by decide +kernel
theorem d27 : decode yB 27 = .ok (.getstatic 38, 3) := by decide +kernel
theorem d30 : decode yB 30 = .ok (.ifCond (.eq) 28, 3) := by decide +kernel
theorem d33 : decode yB 33 = .ok (.aload_n 1, 1) := by decide +kernel
theorem d34 : decode yB 34 = .ok (.iload_n 2, 1) := by decide +kernel
theorem d35 : decode yB 35 = .ok (.iload_n 3, 1) := by decide +kernel
theorem d36 : decode yB 36 = .ok (.invokestatic 177, 3) := by decide +kernel
theorem d39 : decode yB 39 = .ok (.astore 5, 2) := by decide +kernel
theorem d41 : decode yB 41 = .ok (.aload_n 0, 1) := by decide +kernel
theorem d42 : decode yB 42 = .ok (.aload 5, 2) := by decide +kernel
theorem d44 : decode yB 44 = .ok (.iload_n 3, 1) := by decide +kernel
theorem d45 : decode yB 45 = .ok (.invokestatic 47, 3) := by decide +kernel
theorem d48 : decode yB 48 = .ok (.putfield 15, 3) := by decide +kernel
theorem d51 : decode yB 51 = .ok (.aload_n 0, 1) := by decide +kernel
theorem d52 : decode yB 52 = .ok (.aload 5, 2) := by decide +kernel
theorem d54 : decode yB 54 = .ok (.putfield 9, 3) := by decide +kernel
theorem d57 : decode yB 57 = .ok (.return_, 1) := by decide +kernel
def site : List Cond := [.fieldLink "java/lang/String" 38 "java/lang/String" "COMPACT_STRINGS" "Z", Cmp3.tab, CodL.tab, .laysFinal "java/lang/String" "java/lang/String" "value" "[B", .fieldLink "java/lang/String" 9 "java/lang/String" "value" "[B", .laysFinal "java/lang/String" "java/lang/String" "coder" "B", .fieldLink "java/lang/String" 15 "java/lang/String" "coder" "B"] ++ objW "java/lang/String" 1 ++ staticW "java/lang/String" 177 Cmp3.yN ++ staticW "java/lang/String" 47 CodL.yN
def tab : Cond := tabOf yN yB 6 none site
def P (a : Addr) (D : Cell) (fV fC : Field) (b : Addr) (A : Cell) (z : Int32) (o len : Nat) (args : Array Value) (s : State) : Prop := args = #[.ref a, .ref b, .int (Int32.ofNat o), .int (Int32.ofNat len), .null] ∧ Blank "java/lang/String" a D s ∧ Found "java/lang/String" "value" "[B" fV s ∧ Found "java/lang/String" "coder" "B" fC s ∧ Ch b A s ∧ StaticIs s "java/lang/String" "COMPACT_STRINGS" "Z" (.int z) ∧ ¬ z = 0 ∧ 0 < len ∧ o + len ≤ A.slots.size ∧ len ≤ 536870912 ∧ ∀ i, i < len → ¬ 255 < cv A (o + i)
def E (a : Addr) (D : Cell) (fV fC : Field) (A : Cell) (o len : Nat) (r : Option Value) (s u : State) : Prop := Got a D fV fC A o len r s u
/-- len > 0, no char of the range above 255: a Latin-1 String of their low bytes -/
theorem law (l : Launch) (a : Addr) (D : Cell) (fV fC : Field) (b : Addr) (A : Cell) (z : Int32) (o len : Nat) : Law l yN 5 4 2 35 yB 6 none site (P a D fV fC b A z o len) (E a D fV fC A o len) [⟨a, fC.slot⟩, ⟨a, fV.slot⟩] 1 len := by
  refine Law.of_walk (plainFor_of_name (by decide +kernel)) (by decide +kernel) (by decide +kernel) (by decide) (fun _ _ h => by rw [h.1]; rfl) (fun _ U U' hal hh h => ⟨h.1, h.2.1.mv hal hh, h.2.2.1.al hal, h.2.2.2.1.al hal, h.2.2.2.2.1.mv hal hh, h.2.2.2.2.2.1.there hal hh, h.2.2.2.2.2.2⟩) (fun r U U' V V' h1 hal h2 h => Got.mv r U U' V V' h1 hal h2 h) ?_
  intro p e s m args below meth c s₁ X0 hexec hbytes hml hret hlk hnm hown hh0 W hP
  obtain ⟨rfl, hB, f1, f2, hA, s1, hz, l0, l1, l2, hp⟩ := hP
  have a31 := hA.1.2.2.2
  have c1 : Steps p.tables e below (s₁.setTop (entryFrame m #[.ref a, .ref b, .int (Int32.ofNat o), .int (Int32.ofNat len), .null] 6)) (s₁.setTop (mkF m 0 #[.val (.ref a), .val (.ref b), .val (.int (Int32.ofNat o)), .val (.int (Int32.ofNat len)), .val .null, .unset] [])) := entry rfl
  have c2 : Steps p.tables e below (s₁.setTop (entryFrame m #[.ref a, .ref b, .int (Int32.ofNat o), .int (Int32.ofNat len), .null] 6)) (s₁.setTop (mkF m 1 #[.val (.ref a), .val (.ref b), .val (.int (Int32.ofNat o)), .val (.int (Int32.ofNat len)), .val .null, .unset] [.ref a])) := c1.trans (by
    refine XS.aloadN X0.here hexec rfl (hb hbytes d0) rfl rfl ?_
    exact Steps.refl _)
  obtain ⟨T3, X3, q3, st3⟩ := X0.oinit hexec hown (wks W (objW "java/lang/String" 1)) (g := (mkF m 1 #[.val (.ref a), .val (.ref b), .val (.int (Int32.ofNat o)), .val (.int (Int32.ofNat len)), .val .null, .unset] [.ref a])) rfl (by rw [hml]; rfl) (rest := []) rfl (hb hbytes d1) (W := 0) (by show 2 * 0 + 0 ≤ _; decide) (Nat.le_of_ble_eq_true rfl) (Nat.le_of_ble_eq_true rfl)
  have hh3 := q3.trans hh0
  have c4 : Steps p.tables e below (s₁.setTop (entryFrame m #[.ref a, .ref b, .int (Int32.ofNat o), .int (Int32.ofNat len), .null] 6)) (T3.setTop (mkF m 27 #[.val (.ref a), .val (.ref b), .val (.int (Int32.ofNat o)), .val (.int (Int32.ofNat len)), .val .null, .unset] [])) := (c2.trans (st3 _ (Steps.refl _))).trans (by
    refine XS.iloadN X3.here hexec rfl (hb hbytes d4) rfl ?_
    refine XS.ifYes X3.here hexec rfl (pc0 := 5) rfl (hb hbytes d5) rfl (i0_ne_t (nz32 (by omega) l0)) (by decide) rfl ?_
    exact Steps.refl _)
  obtain ⟨T5, X5, q5, st5⟩ := X3.sget hexec hown (wk W (.fieldLink "java/lang/String" 38 "java/lang/String" "COMPACT_STRINGS" "Z")) s1 (fun _ _ h => by rw [hh3]; exact h) (g := (mkF m 27 #[.val (.ref a), .val (.ref b), .val (.int (Int32.ofNat o)), .val (.int (Int32.ofNat len)), .val .null, .unset] [])) rfl (hb hbytes d27)
  have hh5 := q5.trans hh3
  have c6 : Steps p.tables e below (s₁.setTop (entryFrame m #[.ref a, .ref b, .int (Int32.ofNat o), .int (Int32.ofNat len), .null] 6)) (T5.setTop (mkF m 30 #[.val (.ref a), .val (.ref b), .val (.int (Int32.ofNat o)), .val (.int (Int32.ofNat len)), .val .null, .unset] [.int z])) := c4.trans (st5 _ (Steps.refl _))
  have c7 : Steps p.tables e below (s₁.setTop (entryFrame m #[.ref a, .ref b, .int (Int32.ofNat o), .int (Int32.ofNat len), .null] 6)) (T5.setTop (mkF m 36 #[.val (.ref a), .val (.ref b), .val (.int (Int32.ofNat o)), .val (.int (Int32.ofNat len)), .val .null, .unset] [.int (Int32.ofNat len), .int (Int32.ofNat o), .ref b])) := c6.trans (by
    refine XS.ifNo X5.here hexec rfl (hb hbytes d30) rfl (i0_eq_f hz) ?_
    refine XS.aloadN X5.here hexec rfl (hb hbytes d33) rfl rfl ?_
    refine XS.iloadN X5.here hexec rfl (hb hbytes d34) rfl ?_
    refine XS.iloadN X5.here hexec rfl (hb hbytes d35) rfl ?_
    exact Steps.refl _)
  obtain ⟨v8, T8, X8, E8, g8⟩ := X5.callS hexec (Cmp3.law l b A o len) hown (wks W (staticW "java/lang/String" 177 Cmp3.yN)) (wk W Cmp3.tab) (W := 0) (Nat.le_of_ble_eq_true rfl) (Nat.le_of_ble_eq_true rfl) (Nat.le_refl _) (by show 0 + len ≤ len; omega) (g := (mkF m 36 #[.val (.ref a), .val (.ref b), .val (.int (Int32.ofNat o)), .val (.int (Int32.ofNat len)), .val .null, .unset] [.int (Int32.ofNat len), .int (Int32.ofNat o), .ref b])) rfl (by rw [hml]; rfl) c7 (argsL := [.ref b, .int (Int32.ofNat o), .int (Int32.ofNat len)]) (rest := []) rfl rfl (by show 2 * 0 + 0 ≤ _; decide) (hb hbytes d36) (⟨rfl, hA.mv X5.warmed.alike hh5, l1, l2, hp⟩)
  obtain ⟨e8, z8⟩ := E8
  obtain ⟨rfl, N, n1, n2, n3, n4, n5, n6⟩ := NewArr.mv _ T5 s _ _ hh5.symm (Vm.Alike.refl _) rfl e8
  rw [hh5] at z8
  have hB1 := hB.keep X8.warmed.alike (n6 _ _ hB.1)
  have hne : s.heap.size ≠ a := (Nat.ne_of_lt (Array.getElem?_eq_some_iff.mp hB.1).1).symm
  have c9 : Steps p.tables e below (s₁.setTop (entryFrame m #[.ref a, .ref b, .int (Int32.ofNat o), .int (Int32.ofNat len), .null] 6)) (T8.setTop (mkF m 39 #[.val (.ref a), .val (.ref b), .val (.int (Int32.ofNat o)), .val (.int (Int32.ofNat len)), .val .null, .unset] [.ref s.heap.size])) := g8
  have c10 : Steps p.tables e below (s₁.setTop (entryFrame m #[.ref a, .ref b, .int (Int32.ofNat o), .int (Int32.ofNat len), .null] 6)) (T8.setTop (mkF m 45 #[.val (.ref a), .val (.ref b), .val (.int (Int32.ofNat o)), .val (.int (Int32.ofNat len)), .val .null, .val (.ref s.heap.size)] [.int (Int32.ofNat N.slots.size), .ref s.heap.size, .ref a])) := by
    have hc : Steps p.tables e below (s₁.setTop (entryFrame m #[.ref a, .ref b, .int (Int32.ofNat o), .int (Int32.ofNat len), .null] 6)) (T8.setTop (mkF m 45 #[.val (.ref a), .val (.ref b), .val (.int (Int32.ofNat o)), .val (.int (Int32.ofNat len)), .val .null, .val (.ref s.heap.size)] [.int (Int32.ofNat len), .ref s.heap.size, .ref a])) := c9.trans (by
      refine XS.astore X8.here hexec rfl (hb hbytes d39) rfl rfl rfl ?_
      refine XS.aloadN X8.here hexec rfl (hb hbytes d41) rfl rfl ?_
      refine XS.aload X8.here hexec rfl (hb hbytes d42) rfl rfl ?_
      refine XS.iloadN X8.here hexec rfl (hb hbytes d44) rfl ?_
      exact Steps.refl _)
    rw [n4]; exact hc
  obtain ⟨v11, T11, X11, E11, g11⟩ := X8.callS hexec (CodL.law l s.heap.size N) hown (wks W (staticW "java/lang/String" 47 CodL.yN)) (wk W CodL.tab) (W := 1) (Nat.le_of_ble_eq_true rfl) (Nat.le_of_ble_eq_true rfl) (Nat.le_refl _) (by show 0 + len + 0 ≤ len; omega) (g := (mkF m 45 #[.val (.ref a), .val (.ref b), .val (.int (Int32.ofNat o)), .val (.int (Int32.ofNat len)), .val .null, .val (.ref s.heap.size)] [.int (Int32.ofNat N.slots.size), .ref s.heap.size, .ref a])) rfl (by rw [hml]; rfl) c10 (argsL := [.ref s.heap.size, .int (Int32.ofNat N.slots.size)]) (rest := [.ref a]) rfl rfl (by show 2 * 0 + (1 + 0) ≤ _; decide) (hb hbytes d45) (⟨rfl, n1⟩)
  obtain ⟨rfl, q11⟩ := E11
  have hB11 := hB1.mv (X8.warmed.alike.symm.trans X11.warmed.alike) q11
  have c12 : Steps p.tables e below (s₁.setTop (entryFrame m #[.ref a, .ref b, .int (Int32.ofNat o), .int (Int32.ofNat len), .null] 6)) (T11.setTop (mkF m 48 #[.val (.ref a), .val (.ref b), .val (.int (Int32.ofNat o)), .val (.int (Int32.ofNat len)), .val .null, .val (.ref s.heap.size)] [.int 0, .ref a])) := g11
  obtain ⟨T13, X13, p13, bl13, sl13, st13⟩ := X11.finit hexec hown (wk W (.fieldLink "java/lang/String" 15 "java/lang/String" "coder" "B")) (Or.inr ⟨_, (wk W (.laysFinal "java/lang/String" "java/lang/String" "coder" "B"))⟩) (Or.inl ⟨rfl, hnm⟩) f2 (Or.inl rfl) hB11 (t := .byte) (by decide +kernel) rfl (g := (mkF m 48 #[.val (.ref a), .val (.ref b), .val (.int (Int32.ofNat o)), .val (.int (Int32.ofNat len)), .val .null, .val (.ref s.heap.size)] [.int 0, .ref a])) rfl (rest := []) rfl (hb hbytes d48)
  have c14 : Steps p.tables e below (s₁.setTop (entryFrame m #[.ref a, .ref b, .int (Int32.ofNat o), .int (Int32.ofNat len), .null] 6)) (T13.setTop (mkF m 54 #[.val (.ref a), .val (.ref b), .val (.int (Int32.ofNat o)), .val (.int (Int32.ofNat len)), .val .null, .val (.ref s.heap.size)] [.ref s.heap.size, .ref a])) := (c12.trans (st13 _ (Steps.refl _))).trans (by
    refine XS.aloadN X13.here hexec rfl (hb hbytes d51) rfl rfl ?_
    refine XS.aload X13.here hexec rfl (hb hbytes d52) rfl rfl ?_
    exact Steps.refl _)
  obtain ⟨T15, X15, p15, bl15, sl15, st15⟩ := X13.finit hexec hown (wk W (.fieldLink "java/lang/String" 9 "java/lang/String" "value" "[B")) (Or.inr ⟨_, (wk W (.laysFinal "java/lang/String" "java/lang/String" "value" "[B"))⟩) (Or.inl ⟨rfl, hnm⟩) f1 (Or.inl rfl) bl13 (t := (.array .byte)) (by decide +kernel) rfl (g := (mkF m 54 #[.val (.ref a), .val (.ref b), .val (.int (Int32.ofNat o)), .val (.int (Int32.ofNat len)), .val .null, .val (.ref s.heap.size)] [.ref s.heap.size, .ref a])) rfl (rest := []) rfl (hb hbytes d54)
  have c16 : Steps p.tables e below (s₁.setTop (entryFrame m #[.ref a, .ref b, .int (Int32.ofNat o), .int (Int32.ofNat len), .null] 6)) (T15.setTop (mkF m 57 #[.val (.ref a), .val (.ref b), .val (.int (Int32.ofNat o)), .val (.int (Int32.ofNat len)), .val .null, .val (.ref s.heap.size)] [])) := c14.trans (st15 _ (Steps.refl _))
  have ap := apart (Or.inr ⟨_, (wk W (.laysFinal "java/lang/String" "java/lang/String" "value" "[B"))⟩) (Or.inr ⟨_, (wk W (.laysFinal "java/lang/String" "java/lang/String" "coder" "B"))⟩) f1 f2 (t₁ := .array .byte) (t₂ := .byte) (by decide +kernel) (by decide +kernel) (by decide)
  have al := X8.warmed.alike.symm.trans X15.warmed.alike
  have n7 : T11.heap[s.heap.size]? = some N := by rw [q11]; exact n1.1
  exact ⟨T15, none, _, _, _, X15, by simp, rfl, by omega, (fun _ => rfl), ⟨rfl, _, N, bl15, ((Same.refl D _).set _ (by simp)).set _ (by simp), sl15, (Cell.slots_setSlot_ne _ ap).trans sl13, n1.keep al (p15.other hne (p13.other hne n7)), n2, by rw [al.findClass]; exact n3, n4, n5, fun y c h1 h2 => p15.other h1 (p13.other h1 (by rw [q11]; exact n6 y c h2)), by rw [p15.2.2, p13.2.2, q11]; exact z8⟩, fun fs hl => c16.trans (X15.returnOut hexec hret (hb hbytes d57) hl)⟩
end New4
namespace New1
def yN : MethodName := ⟨"java/lang/String", "<init>", "([C)V"⟩
abbrev yB : ByteArray := jdk_42_method_3_code
theorem d0 : decode yB 0 = .ok (.aload_n 0, 1) := by decide +kernel
theorem d1 : decode yB 1 = .ok (.aload_n 1, 1) := by decide +kernel
theorem d2 : decode yB 2 = .ok (.iconst 0, 1) := by decide +kernel
theorem d3 : decode yB 3 = .ok (.aload_n 1, 1) := by decide +kernel
theorem d4 : decode yB 4 = .ok (.arraylength, 1) := by decide +kernel
theorem d5 : decode yB 5 = .ok (.aconst_null, 1) := by decide +kernel
theorem d6 : decode yB 6 = .ok (.invokespecial 27, 3) := by decide +kernel
theorem d9 : decode yB 9 = .ok (.return_, 1) := by decide +kernel
def site : List Cond := [New4.tab] ++ initW "java/lang/String" 27 New4.yN
def tab : Cond := tabOf yN yB 2 none site
def P (a : Addr) (D : Cell) (fV fC : Field) (b : Addr) (A : Cell) (z : Int32) (args : Array Value) (s : State) : Prop := args = #[.ref a, .ref b] ∧ Blank "java/lang/String" a D s ∧ Found "java/lang/String" "value" "[B" fV s ∧ Found "java/lang/String" "coder" "B" fC s ∧ Ch b A s ∧ StaticIs s "java/lang/String" "COMPACT_STRINGS" "Z" (.int z) ∧ ¬ z = 0 ∧ 0 < A.slots.size ∧ A.slots.size ≤ 536870912 ∧ ∀ i, i < A.slots.size → ¬ 255 < cv A i
def E (a : Addr) (D : Cell) (fV fC : Field) (A : Cell) (r : Option Value) (s u : State) : Prop := Got a D fV fC A 0 A.slots.size r s u
/-- new String(chars), not empty, no char above 255: a Latin-1 String of their low bytes -/
theorem law (l : Launch) (a : Addr) (D : Cell) (fV fC : Field) (b : Addr) (A : Cell) (z : Int32) : Law l yN 2 1 3 52 yB 2 none site (P a D fV fC b A z) (E a D fV fC A) [⟨a, fC.slot⟩, ⟨a, fV.slot⟩] 1 A.slots.size := by
  refine Law.of_walk (plainFor_of_name (by decide +kernel)) (by decide +kernel) (by decide +kernel) (by decide) (fun _ _ h => by rw [h.1]; rfl) (fun _ U U' hal hh h => ⟨h.1, h.2.1.mv hal hh, h.2.2.1.al hal, h.2.2.2.1.al hal, h.2.2.2.2.1.mv hal hh, h.2.2.2.2.2.1.there hal hh, h.2.2.2.2.2.2⟩) (fun r U U' V V' h1 hal h2 h => Got.mv r U U' V V' h1 hal h2 h) ?_
  intro p e s m args below meth c s₁ X0 hexec hbytes hml hret hlk hnm hown hh0 W hP
  obtain ⟨rfl, hB, f1, f2, hA, s1, hz, l0, l2, hp⟩ := hP
  have c1 : Steps p.tables e below (s₁.setTop (entryFrame m #[.ref a, .ref b] 2)) (s₁.setTop (mkF m 0 #[.val (.ref a), .val (.ref b)] [])) := entry rfl
  have c2 : Steps p.tables e below (s₁.setTop (entryFrame m #[.ref a, .ref b] 2)) (s₁.setTop (mkF m 6 #[.val (.ref a), .val (.ref b)] [.null, .int (Int32.ofNat A.slots.size), .int 0, .ref b, .ref a])) := c1.trans (by
    refine XS.aloadN X0.here hexec rfl (hb hbytes d0) rfl rfl ?_
    refine XS.aloadN X0.here hexec rfl (hb hbytes d1) rfl rfl ?_
    refine iconstV X0.here hexec rfl 0 (hb hbytes d2) (by decide) ?_
    refine XS.aloadN X0.here hexec rfl (hb hbytes d3) rfl rfl ?_
    refine X0.alen hexec (hA.1.mv X0.warmed.alike hh0) rfl rfl (hb hbytes d4) ?_
    refine XS.aconstNull X0.here hexec rfl (hb hbytes d5) ?_
    exact Steps.refl _)
  obtain ⟨v3, T3, X3, E3, g3⟩ := X0.callN hexec (New4.law l a D fV fC b A z 0 A.slots.size) rfl hown (wks W (initW "java/lang/String" 27 New4.yN)) (W New4.tab (by simp only [site, List.mem_cons, List.mem_append, true_or, or_true])) (W := 0) (Nat.le_of_ble_eq_true rfl) (Nat.le_of_ble_eq_true rfl) (Nat.le_refl _) (by show 0 + A.slots.size ≤ A.slots.size; omega) (g := (mkF m 6 #[.val (.ref a), .val (.ref b)] [.null, .int (Int32.ofNat A.slots.size), .int (Int32.ofNat 0), .ref b, .ref a])) rfl (by rw [hml]; rfl) c2 (argsL := [.ref b, .int (Int32.ofNat 0), .int (Int32.ofNat A.slots.size), .null]) (rest := []) rfl rfl (by show 2 * 0 + 0 ≤ _; decide) (hb hbytes d6) (⟨rfl, hB.mv X0.warmed.alike hh0, f1.al X0.warmed.alike, f2.al X0.warmed.alike, hA.mv X0.warmed.alike hh0, s1.there X0.warmed.alike hh0, hz, l0, by omega, l2, fun i hi => by rw [Nat.zero_add]; exact hp i hi⟩)
  have e0 := Got.mv _ s₁ s _ _ hh0.symm (Vm.Alike.refl _) rfl E3
  obtain rfl := e0.1
  have c4 : Steps p.tables e below (s₁.setTop (entryFrame m #[.ref a, .ref b] 2)) (T3.setTop (mkF m 9 #[.val (.ref a), .val (.ref b)] [])) := g3
  exact ⟨T3, none, _, _, _, X3, by simp, rfl, by omega, (fun _ => rfl), e0, fun fs hl => c4.trans (X3.returnOut hexec hret (hb hbytes d9) hl)⟩
theorem pays {l : Launch} {R : Room} {p : Program} {e : Env} {below : List Frame} {s : State} {sargs : Array Value} {len W : Nat} (a : Addr) (D : Cell) (fV fC : Field) (b : Addr) (A : Cell) (z : Int32) (htab : tab.before sargs s = true) (hfr : 4 ≤ R.frames) (hlo : W + 65 ≤ R.locals) :
    Back l R p e below s sargs yN len W (fun A₁ a₁ => A₁.cells + 1 ≤ R.cells ∧ A₁.slots + A.slots.size ≤ R.slots ∧ P a D fV fC b A z a₁ A₁.U) (fun A₁ _ v₁ B₁ => E a D fV fC A v₁ A₁.U B₁.U ∧ B₁.locs = A₁.locs ++ [⟨a, fC.slot⟩, ⟨a, fV.slot⟩] ∧ B₁.cells = A₁.cells + 1 ∧ B₁.slots = A₁.slots + A.slots.size) :=
  (law l a D fV fC b A z).pays htab hfr (by omega)
end New1
end StrChars
namespace StrChars.Road
open Jvm Sem ClassFile Op Lib Jvm.Stand Jvm.Free Jvm.Free.XT
open Jvm.Lib.Cold (StaticIs)
abbrev ST : String := "java/lang/String"
/-- every table word that New1's law asks, flat -/
abbrev words : List Jvm.Cond := [.code New1.yN New1.yB 2 none, .initialized ST, .methodLink ST 27 New4.yN, .instanceMethod New4.yN,
  .code New4.yN New4.yB 6 none, .fieldLink ST 38 ST "COMPACT_STRINGS" "Z", .laysFinal ST ST "value" "[B", .fieldLink ST 9 ST "value" "[B", .laysFinal ST ST "coder" "B", .fieldLink ST 15 ST "coder" "B",
  .methodLink ST 1 Lib.objectInit, .instanceMethod Lib.objectInit, .code Lib.objectInit ⟨#[0xb1]⟩ 1 none, .methodLink ST 177 Cmp3.yN, .static Cmp3.yN, .methodLink ST 47 CodL.yN, .static CodL.yN,
  .code Cmp3.yN Cmp3.yB 6 (some (.array .byte)), .initialized U16, .arrayClass .byte, .methodLink U16 115 Cmp5.yN, .static Cmp5.yN, .code Cmp5.yN Cmp5.yB 7 (some .int), .code CodL.yN CodL.yB 2 (some .byte)]
theorem tab_of {a : Array Value} {s : State} (h : ∀ w ∈ words, w.before a s = true) : New1.tab.before a s = true := by
  have h5 : Cmp5.tab.before a s = true := unparts (wk h (.code Cmp5.yN Cmp5.yB 7 (some .int))) (wks h (.initialized Cmp5.yN.cls :: Cmp5.site))
  have hc : CodL.tab.before a s = true := unparts (wk h (.code CodL.yN CodL.yB 2 (some .byte))) (wks h (.initialized CodL.yN.cls :: CodL.site))
  have q5 : ∀ w ∈ Cmp5.tab :: words, w.before a s = true := fun w hw => (List.mem_cons.mp hw).elim (fun e => e ▸ h5) (h w)
  have h3 : Cmp3.tab.before a s = true := unparts (wk q5 (.code Cmp3.yN Cmp3.yB 6 (some (.array .byte)))) (wks q5 (.initialized Cmp3.yN.cls :: Cmp3.site))
  have q3 : ∀ w ∈ Cmp3.tab :: CodL.tab :: words, w.before a s = true := fun w hw => (List.mem_cons.mp hw).elim (fun e => e ▸ h3) fun hw => (List.mem_cons.mp hw).elim (fun e => e ▸ hc) (h w)
  have h4 : New4.tab.before a s = true := unparts (wk q3 (.code New4.yN New4.yB 6 none)) (wks q3 (.initialized New4.yN.cls :: New4.site))
  have q4 : ∀ w ∈ New4.tab :: words, w.before a s = true := fun w hw => (List.mem_cons.mp hw).elim (fun e => e ▸ h4) (h w)
  exact unparts (wk q4 (.code New1.yN New1.yB 2 none)) (wks q4 (.initialized New1.yN.cls :: New1.site))
/-- the words ride from the start Z to the walk's own state -/
theorem moved {Z s : State} {a0 args : Array Value} (hZ : Z.Warmed39 s.vm) (hw : ∀ d ∈ words, d.before a0 Z = true) : ∀ d ∈ words, d.before args s = true := fun d hd => by
  have q := hw d hd
  have t : ∀ d ∈ words, d = .arrayClass .byte ∨ (d.onTables && d.keepsFace) = true := by decide +kernel
  rcases t d hd with rfl | t
  · exact RoadKit.mvA hZ q
  · exact RoadKit.mv hZ q t
/-- WHAT COMES BACK, over the tables of the start Z: h the heap at the call, h' behind it -/
def Q (Z : State) (x : Addr) (A : Cell) (h : Heap) (v : Option Value) (h' : Heap) (L : List Loc) : Prop := v = none ∧ (∀ y ∈ L, y.base = x) ∧ RoadKit.Keep h h' [x] ∧ h'.size = h.size + 1 ∧ RoadKit.Exa Z h' x ST ∧ RoadKit.Fld Z h' x ST "value" "[B" (.ref h.size) ∧ RoadKit.Fld Z h' x ST "coder" "B" (.int 0) ∧
  (∃ V : Cell, RoadKit.Arr Z h' h.size V .byte ∧ V.vm = .none ∧ Z.vm.findClass "[B" = some V.cls ∧ V.slots.size = A.slots.size ∧ ∀ j, j < A.slots.size → V.slots[j]? = some (.int (lo8 (cv A j)))) ∧
  ∀ (O n d : String) (w : Value), RoadKit.Fld Z h x O n d w → RoadKit.slotOf Z O n d ≠ RoadKit.slotOf Z ST "value" "[B" → RoadKit.slotOf Z O n d ≠ RoadKit.slotOf Z ST "coder" "B" → RoadKit.Fld Z h' x O n d w
/-- **new String(chars) AT A CALL, IN THE ROAD'S FORM**: for specialBack behind newO: x the fresh String, b the char[] with the cell A -/
theorem back {p : Program} {l : Launch} {e : Env} {R : Room} {s : State} {args : Array Value} {below : List Frame} {len W : Nat} {Z : State} {a0 : Array Value} {h : Heap} (hZ : Z.Warmed39 s.vm) (hw : ∀ d ∈ words, d.before a0 Z = true) {kI : Nat} (wi : (Jvm.Cond.instantiable ST kI).before a0 Z = true)
    {x b : Addr} {A : Cell} {z : Int32} {v0 c0 : Value} (E : RoadKit.Exa Z h x ST) (V : RoadKit.Fld Z h x ST "value" "[B" v0) (C : RoadKit.Fld Z h x ST "coder" "B" c0) (K : RoadKit.Arr Z h b A .char) (hty : Typed .char A) (S : RoadKit.Sta Z h ST "COMPACT_STRINGS" "Z" (.int z)) (hz : ¬ z = 0)
    (l0 : 0 < A.slots.size) (l2 : A.slots.size ≤ 536870912) (hp : ∀ i, i < A.slots.size → ¬ 255 < cv A i) (hfr : 4 ≤ R.frames) (hlo : W + 65 ≤ R.locals) :
    Back l R p e below s args New1.yN len W (fun P a => a = #[.ref x, .ref b] ∧ P.U.heap = h ∧ P.cells + 1 ≤ R.cells ∧ P.slots + A.slots.size ≤ R.slots)
      (fun P _ v B => ∃ L, Q Z x A h v B.U.heap L ∧ B.locs = P.locs ++ L ∧ B.cells = P.cells + 1 ∧ B.slots = P.slots + A.slots.size) := by
  intro m meth c P g ig mk a X hg hsize hdg hW hn hp'
  obtain ⟨rfl, rfl, r1, r2⟩ := hp'
  have al : Z.vm.Alike P.U.vm := hZ.alike.trans X.warmed.alike
  obtain ⟨D, cfV, kV, iV, fV, hD, gV, stV, knV, obV, asV, slV⟩ := id V
  obtain ⟨D', cfC, kC, iC, fC, hD', gC, stC, -, -, asC, slC⟩ := id C
  cases hD.symm.trans hD'
  obtain ⟨D2, kD, e1, e2, e3, e4, e5⟩ := id E
  cases hD.symm.trans e1
  obtain ⟨c2, k2, i1, i2, i3, -⟩ := Cond.instantiable_spec wi
  cases e2.symm.trans i1
  cases e3.symm.trans i2
  obtain ⟨kU, u1, u2⟩ := al.2.2 _ _ e3
  have hB : Blank ST x D P.U := ⟨hD, ⟨knV, fun q hq => by rw [hq] at obV; cases obV⟩, by rw [al.findClass]; exact e2, kU, u1, by rw [u2]; exact i3, by rw [u2]; exact e5 i3⟩
  have F1 : Found ST "value" "[B" fV P.U := ⟨SBG.found_only al ⟨cfV, kV, iV, gV⟩, stV⟩
  have F2 : Found ST "coder" "B" fC P.U := ⟨SBG.found_only al ⟨cfC, kC, iC, gC⟩, stC⟩
  have hA : Ch b A P.U := ⟨⟨K.1, State.isArrayOf_alike al K.2.1, K.2.2, by omega⟩, hty⟩
  have hS : StaticIs P.U ST "COMPACT_STRINGS" "Z" (.int z) := by
    obtain ⟨cfS, iS, kS, fS, st, cS, t1, t2, t3, t4, t5, t6, t7⟩ := S
    exact StaticIs.there (s := { Z with heap := P.U.heap }) ⟨cfS, iS, kS, fS, st, cS, t1, t2, t3, t4, t5, (fun q => by rw [q] at t6; cases t6), t7⟩ al rfl
  obtain ⟨v, B, X', ⟨⟨hv, E', V', q1, q2, q3, q4, q5, q6, q7, q8, q9, q10, q11⟩, hl, hc, hs⟩, st⟩ := New1.pays x D fV fC b A z (tab_of (moved hZ hw)) hfr hlo m meth c P g ig mk _ X hg hsize hdg hW hn ⟨r1, r2, rfl, hB, F1, F2, hA, hS, hz, l0, l2, hp⟩
  have al' : Z.vm.Alike B.U.vm := hZ.alike.trans X'.warmed.alike
  have hsz : E'.slots.size = D.slots.size := by
    obtain ⟨-, -, -, kB, w1, w2, w3⟩ := q1
    obtain ⟨kB', y1, y2⟩ := al'.2.2 _ _ e3
    rw [q2.2.1] at w1
    cases w1.symm.trans y1
    rw [w3, e5 i3, y2]
  refine ⟨v, B, X', ⟨_, ⟨hv, ?_, ⟨by omega, fun y cy hy hn' => q10 y cy (by simpa using hn') hy, fun y cy hy => ?_⟩, q11, ⟨E', _, q1.1, by rw [q2.2.1]; exact e2, by rw [q2.2.1]; exact e3, by rw [q2.1]; exact obV, fun _ => by rw [hsz]; exact e5 i3⟩,
    ⟨E', cfV, kV, iV, fV, q1.1, gV, stV, by rw [q2.1]; exact knV, by rw [q2.1]; exact obV, by rw [q2.2.1]; exact asV, q3⟩, ⟨E', cfC, kC, iC, fC, q1.1, gC, stC, by rw [q2.1]; exact knV, by rw [q2.1]; exact obV, by rw [q2.2.1]; exact asC, q4⟩,
    ⟨V', ⟨q5.1, State.isArrayOf_alike al'.symm q5.2.1, q5.2.2.1⟩, q6, by rw [← al'.findClass]; exact q7, q8, fun j hj => by have := q9 j hj; rwa [Nat.zero_add] at this⟩, fun O n d w F n1 n2 => ?_⟩, hl, hc, hs⟩, st⟩
  · intro y hy
    simp only [List.mem_cons, List.not_mem_nil, or_false] at hy
    rcases hy with rfl | rfl <;> rfl
  · by_cases q : y = x
    · subst q
      cases hD.symm.trans hy
      exact ⟨E', q1.1, q2.2.1, q2.1, hsz⟩
    · exact ⟨cy, q10 y cy q hy, rfl, rfl, rfl⟩
  · obtain ⟨D3, cf, k, i, f, g1, g2, g3, g4, g5, g6, g7⟩ := F
    cases hD.symm.trans g1
    simp only [RoadKit.slotOf, g2, gV, gC, Option.map_some, Option.getD_some] at n1 n2
    exact ⟨E', cf, k, i, f, q1.1, g2, g3, by rw [q2.1]; exact g4, by rw [q2.1]; exact g5, by rw [q2.2.1]; exact g6, by rw [q2.2.2 f.slot (by simp [n1, n2])]; exact g7⟩
end StrChars.Road
namespace StrChars.Road
open Jvm Sem ClassFile Op Lib Jvm.Stand Jvm.Free Jvm.Free.XT
/-- WHAT COMES BACK, the byte[] as a list of values -/
def QA (Z : State) (x : Addr) (zn : Int32) (cs : List Int32) (h : Heap) (v : Option Value) (h' : Heap) (L : List Loc) : Prop := v = none ∧ (∀ y ∈ L, y.base = x) ∧ RoadKit.Keep h h' [x] ∧ h'.size = h.size + 1 ∧ RoadKit.Exa Z h' x ST ∧ RoadKit.Fld Z h' x ST "value" "[B" (.ref h.size) ∧ RoadKit.Fld Z h' x ST "coder" "B" (.int 0) ∧
  (∃ kb, Z.vm.findClass "[B" = some kb ∧ RoadKit.Arv Z h' h.size kb .byte zn (cs.map fun c => .int (lo8 c)) (.int 0)) ∧
  ∀ (O n d : String) (w : Value), RoadKit.Fld Z h x O n d w → RoadKit.slotOf Z O n d ≠ RoadKit.slotOf Z ST "value" "[B" → RoadKit.slotOf Z O n d ≠ RoadKit.slotOf Z ST "coder" "B" → RoadKit.Fld Z h' x O n d w
/-- **new String(chars) AT A CALL, THE ARRAYS AS LISTS**: the char[] at b holds cs, not empty, no char above 255 -/
theorem backArv {p : Program} {l : Launch} {e : Env} {R : Room} {s : State} {args : Array Value} {below : List Frame} {len W : Nat} {Z : State} {a0 : Array Value} {h : Heap} (hZ : Z.Warmed39 s.vm) (hw : ∀ d ∈ words, d.before a0 Z = true) {kI : Nat} (wi : (Jvm.Cond.instantiable ST kI).before a0 Z = true)
    {x b : Addr} {k : ClassId} {zn z : Int32} {cs : List Int32} {dv v0 c0 : Value} (E : RoadKit.Exa Z h x ST) (V : RoadKit.Fld Z h x ST "value" "[B" v0) (C : RoadKit.Fld Z h x ST "coder" "B" c0) (K : RoadKit.Arv Z h b k .char zn (cs.map Value.int) dv) (S : RoadKit.Sta Z h ST "COMPACT_STRINGS" "Z" (.int z)) (hz : ¬ z = 0)
    (hlen : zn.toNatClampNeg = cs.length) (h0 : 0 < cs.length) (hbig : cs.length ≤ 536870912) (hall : ∀ c ∈ cs, ¬ 255 < c) (hfr : 4 ≤ R.frames) (hlo : W + 65 ≤ R.locals) :
    Back l R p e below s args New1.yN len W (fun P a => a = #[.ref x, .ref b] ∧ P.U.heap = h ∧ P.cells + 1 ≤ R.cells ∧ P.slots + cs.length ≤ R.slots)
      (fun P _ v B => ∃ L, QA Z x zn cs h v B.U.heap L ∧ B.locs = P.locs ++ L ∧ B.cells = P.cells + 1 ∧ B.slots = P.slots + cs.length) := by
  obtain ⟨A, K1, K2, K3, K4, K5, K6⟩ := K
  have e : A.slots.size = cs.length := K3.trans hlen
  have hat : ∀ (i : Nat) (hi : i < cs.length), A.slots[i]? = some (.int cs[i]) := fun i hi => by rw [K5 i (by omega)]; simp [List.getD_eq_getElem?_getD, hi]
  have hcv : ∀ (i : Nat) (hi : i < cs.length), cv A i = cs[i] := fun i hi => by unfold cv; rw [hat i hi]
  have hty : Typed .char A := fun i v hv => by
    have hi : i < A.slots.size := (Array.getElem?_eq_some_iff.mp hv).1
    have q := K5 i hi
    rw [hv] at q
    rw [Option.some.inj q]
    exact K6 i hi
  refine Back.mono (back hZ hw wi E V C K1 hty S hz (by omega) (by omega) (fun i hi => by rw [hcv i (by omega)]; exact hall _ (List.getElem_mem _)) hfr hlo) (fun P a hp => ⟨hp.1, hp.2.1, hp.2.2.1, by rw [e]; exact hp.2.2.2⟩) (fun P a v B hp hq => ?_)
  obtain ⟨L, ⟨q1, q2, q3, q4, q5, q6, q7, ⟨V', v1, v2, v3, v4, v5⟩, q9⟩, hl, hc, hs⟩ := hq
  refine ⟨L, ⟨q1, q2, q3, q4, q5, q6, q7, ⟨V'.cls, v3, V', v1, rfl, by rw [v4, e, hlen], K4, fun i hi => ?_, fun i hi => ?_⟩, q9⟩, hl, hc, by rw [hs, e]⟩
  · have hi' : i < cs.length := by omega
    rw [v5 i (by omega), hcv i hi']; simp [List.getD_eq_getElem?_getD, hi']
  · have hi' : i < cs.length := by omega
    simp only [List.getD_eq_getElem?_getD, List.getElem?_map, List.getElem?_eq_getElem hi', Option.map_some, Option.getD_some]
    exact fits_lo8 _
end StrChars.Road
namespace StrChars.Road
open Jvm Sem ClassFile Op Lib Jvm.Stand Jvm.Free Jvm.Free.XT
/-- WHAT COMES BACK, in the writer's own shape -/
def QV (Z : State) (x : Addr) (N : Int32) (bs : List Int32) (h : Heap) (n0 : Nat) (v : Option Value) (h' : Heap) (L : List Loc) : Prop := v = none ∧ RoadKit.Fr n0 L ∧ RoadKit.Keep h h' [x] ∧ RoadKit.Exa Z h' x ST ∧ RoadKit.Fld Z h' x ST "coder" "B" (.int 0) ∧
  ∃ (t : Addr) (kb : ClassId), n0 ≤ t ∧ h.size ≤ t ∧ ¬ t = x ∧ RoadKit.Fld Z h' x ST "value" "[B" (.ref t) ∧ RoadKit.Arv Z h' t kb .byte N (bs.map Value.int) (.int 0)
/-- **new String(chars) AT A CALL, FOR THE WRITER**: a char[] of n known ints, each 0 to 255 -/
theorem backV {p : Program} {l : Launch} {e : Env} {R : Room} {s : State} {args : Array Value} {below : List Frame} {len W : Nat} {Z : State} {a0 : Array Value} {h : Heap} (hZ : Z.Warmed39 s.vm) (hw : ∀ d ∈ words, d.before a0 Z = true) {kI : Nat} (wi : (Jvm.Cond.instantiable ST kI).before a0 Z = true)
    {x b : Addr} {kC : ClassId} {cs bs : List Int32} {d v0 c0 : Value} {z N : Int32} {n n0 : Nat} (hx0 : n0 ≤ x) (hh0 : n0 ≤ h.size) (E : RoadKit.Exa Z h x ST) (V : RoadKit.Fld Z h x ST "value" "[B" v0) (C : RoadKit.Fld Z h x ST "coder" "B" c0) (K : RoadKit.Arv Z h b kC .char N (cs.map Value.int) d) (S : RoadKit.Sta Z h ST "COMPACT_STRINGS" "Z" (.int z)) (hz : ¬ z = 0)
    (hn : cs.length = n) (hN : N = Int32.ofNat n) (l0 : 0 < n) (l2 : n ≤ 4000) (hp : ∀ c ∈ cs, ¬ c < 0 ∧ ¬ (255 : Int32) < c) (hb : bs = cs.map (fun c => c.toInt8.toInt32)) (hfr : 4 ≤ R.frames) (hlo : W + 65 ≤ R.locals) :
    Back l R p e below s args (⟨"java/lang/String", "<init>", "([C)V"⟩ : MethodName) len W (fun P a => a = #[.ref x, .ref b] ∧ P.U.heap = h ∧ P.cells + 1 ≤ R.cells ∧ P.slots + n ≤ R.slots)
      (fun P _ v B => ∃ L, QV Z x N bs h n0 v B.U.heap L ∧ B.locs = P.locs ++ L ∧ B.cells = P.cells + 1 ∧ B.slots = P.slots + n) := by
  subst hn hN hb
  refine Back.mono (backArv hZ hw wi E V C K S hz (n32 (by omega)) l0 (by omega) (fun c hc => (hp c hc).2) hfr hlo) (fun P a hp => hp) (fun P a v B hp hq => ?_)
  obtain ⟨L, ⟨q1, q2, q3, q4, q5, q6, q7, ⟨kb, v1, v2⟩, q9⟩, hl, hc, hs⟩ := hq
  exact ⟨L, ⟨q1, fun y hy => by rw [q2 y hy]; exact hx0, q3, q5, q7, h.size, kb, hh0, Nat.le_refl _, Nat.ne_of_gt E.lt, q6, by rw [List.map_map]; exact v2⟩, hl, hc, hs⟩
end StrChars.Road
end Jvm.Pilot.@@N@@

namespace Jvm.Pilot.@@N@@
open Jvm Jvm.ClassFile Sem Op Lib Jvm.Free Jvm.Stand Jvm.LawKit Jvm.RoadKit Bundle Jvm.Pilot.@@N@@.Jvm.D
/-! my own small kit: a walk by continuation -/
section Own
variable {p : Program} {l : Launch} {e : Env} {R : Room} {s : State} {m : MethodId} {args : Array Value} {below : List Frame} {meth : Method} {c : Code} {T T' : State} {locs : List Loc} {cells slots : Nat} {Z : State} {a0 : Array Value} {h h' h0 : Heap} {g g' : JFrame} {a b : Addr} {ty : FieldType} {vs : List Value} {v w : Value} {sl : Nat} {ws : List Addr}
/-- from the frame g over T the run comes to an end with G -/
def own_Go (p : Program) (e : Env) (below : List Frame) (G : Outcome → State → Prop) (T : State) (g : JFrame) : Prop := ∃ s₂ o, Steps p.tables e below (T.setTop g) s₂ ∧ s₂.status = .running ∧ Ended s₂ below o ∧ G o s₂
def own_End (s : State) (kc ks : Nat) (Q : Option Value → Heap → List Loc → Prop) (o : Outcome) (U' : State) : Prop := ∃ v L, o = .returned v ∧ Q v U'.heap L ∧ FrameEnd s o U' L kc ks
def own_Met (l : Launch) (Z : State) (y : MethodName) (bytes : ByteArray) (maxL : Nat) (ret : Option FieldType) (rm : Room) (as' : Array Value) (h0 : Heap) (Q : Option Value → Heap → List Loc → Prop) : Prop :=
  ∀ ws : List Jvm.Cond, MetFree l y (head1 (Jvm.Cond.code y bytes maxL ret :: ws) rm) (fun a U => a = as' ∧ Z.Warmed39 U.vm ∧ U.heap = h0) (fun _ _ _ _ _ => True) (fun _ U o U' => ∃ v L, o = .returned v ∧ Q v U'.heap L ∧ FrameEnd U o U' L rm.cells rm.slots)
theorem own_via {G : Outcome → State → Prop} (q : ∀ t, Steps p.tables e below (T'.setTop g') t → Steps p.tables e below (T.setTop g) t) (k : own_Go p e below G T' g') : own_Go p e below G T g := by
  obtain ⟨t, o, h1, r⟩ := k; exact ⟨t, o, q t h1, r⟩
theorem own_cast {G : Outcome → State → Prop} (q : g = g') (k : own_Go p e below G T g') : own_Go p e below G T g := q ▸ k
theorem own_intro {y : MethodName} {bytes : ByteArray} {maxL : Nat} {ret : Option FieldType} {rm : Room} {as' : Array Value} {Q : Option Value → Heap → List Loc → Prop} (hp : plainFor y = true)
    (body : ∀ (p : Program) (e : Env) (s : State) (m : MethodId) (below : List Frame) (meth : Method) (c : Code) (s₁ : State), p.tables.exec = Jvm.exec → c.code = bytes → c.maxLocals = maxL → s.vm.findClass y.cls = some m.cls → meth.name = y.name → Z.Warmed39 s.vm → meth.sig.returnType = ret → meth.locks = false → Stand p l e rm s m as' below meth c s₁ [] 0 0 → s₁.heap = h0 → own_Go p e below (own_End s rm.cells rm.slots Q) s₁ (entryFrame m as' maxL)) : own_Met l Z y bytes maxL ret rm as' h0 Q := by
  intro ws
  refine MetFree.of_bodySF hp hisR ?_
  intro p e s m args below meth c s₁ Bd hml hP hK
  obtain ⟨rfl, hZ, hh⟩ := hP
  exact body p e s m below meth c s₁ Bd.exec Bd.bytes hml (findClass_of_methodNamed Bd.named) (name_of_methodNamed Bd.named Bd.method).1 hZ Bd.returns Bd.notSynchronized (Stand.of_body Bd) (by rw [← hh, Bd.state]; rfl)
theorem own_ends {kc ks : Nat} {Q : Option Value → Heap → List Loc → Prop} (X : Stand p l e R s m args below meth c T locs cells slots) (hlk : meth.locks = false) {u : Option Value} (hv : meth.sig.returnType = none → u = none) (hq : Q u T.heap locs) (hc : cells ≤ kc) (hs : slots ≤ ks)
    (st : ∀ fs, (∀ (f : JFrame) (acts : List Action), f.method = m → f.locked = none → f.entered = [] → (doReturn e (T.setTop f) acts u).1 = T.setFrames fs) → Steps p.tables e below (T.setTop g) (T.setFrames fs)) : own_Go p e below (own_End s kc ks Q) T g := by
  obtain ⟨fs, hr, hrun, hended, hW, hsame⟩ := X.leave (v := u) hv hlk
  exact ⟨_, _, st fs hr, hrun, hended, _, _, rfl, hq, ⟨_, rfl⟩, hW, hsame.mono hc hs⟩
theorem own_retI {kc ks : Nat} {Q : Option Value → Heap → List Loc → Prop} (X : Stand p l e R s m args below meth c T locs cells slots) (hx : p.tables.exec = Jvm.exec) (hlk : meth.locks = false) {pc : Nat} {Ls : Array Slot} {z : Int32} {rest : List Value} (hret : meth.sig.returnType = some .int) (hd : decode c.code pc = .ok (.ireturn, 1)) (hc : cells ≤ kc) (hs : slots ≤ ks) (hq : Q (some (.int z)) T.heap locs) : own_Go p e below (own_End s kc ks Q) T (mkF m pc Ls (.int z :: rest)) :=
  own_ends X hlk (fun q => by rw [hret] at q; cases q) hq hc hs fun fs hr => retOut X hx hret rfl (Or.inl ⟨rfl, Or.inl rfl, _, rfl⟩) hd hr
theorem own_retJ {kc ks : Nat} {Q : Option Value → Heap → List Loc → Prop} (X : Stand p l e R s m args below meth c T locs cells slots) (hx : p.tables.exec = Jvm.exec) (hlk : meth.locks = false) {pc : Nat} {Ls : Array Slot} {z : Int64} {rest : List Value} (hret : meth.sig.returnType = some .long) (hd : decode c.code pc = .ok (.lreturn, 1)) (hc : cells ≤ kc) (hs : slots ≤ ks) (hq : Q (some (.long z)) T.heap locs) : own_Go p e below (own_End s kc ks Q) T (mkF m pc Ls (.long z :: rest)) :=
  own_ends X hlk (fun q => by rw [hret] at q; cases q) hq hc hs fun fs hr => retOut X hx hret rfl (Or.inr (Or.inl ⟨rfl, rfl, _, rfl⟩)) hd hr
theorem own_retA {kc ks : Nat} {Q : Option Value → Heap → List Loc → Prop} (X : Stand p l e R s m args below meth c T locs cells slots) (hx : p.tables.exec = Jvm.exec) (hlk : meth.locks = false) {pc : Nat} {Ls : Array Slot} {z : Value} {rest : List Value} (hret : meth.sig.returnType = some ty) (ht : ty.isReference = true) (hz : z.isRef = true) (hd : decode c.code pc = .ok (.areturn, 1)) (hc : cells ≤ kc) (hs : slots ≤ ks) (hq : Q (some z) T.heap locs) : own_Go p e below (own_End s kc ks Q) T (mkF m pc Ls (z :: rest)) :=
  own_ends X hlk (fun q => by rw [hret] at q; cases q) hq hc hs fun fs hr => retOut X hx hret (by cases ty <;> first | rfl | cases ht) (Or.inr (Or.inr (Or.inr (Or.inr ⟨rfl, ht, hz⟩)))) hd hr
theorem own_retN {kc ks : Nat} {Q : Option Value → Heap → List Loc → Prop} (X : Stand p l e R s m args below meth c T locs cells slots) (hx : p.tables.exec = Jvm.exec) (hlk : meth.locks = false) {pc : Nat} {Ls : Array Slot} {z : Int32} {rest : List Value} (hret : meth.sig.returnType = some ty) (ht : ty = .boolean ∨ ty = .byte ∨ ty = .char ∨ ty = .short) (hd : decode c.code pc = .ok (.ireturn, 1)) (hc : cells ≤ kc) (hs : slots ≤ ks) (hq : Q (some (.int (nar ty z))) T.heap locs) : own_Go p e below (own_End s kc ks Q) T (mkF m pc Ls (.int z :: rest)) :=
  own_ends X hlk (fun q => by rw [hret] at q; cases q) hq hc hs fun fs hr => retN X hx hret ht hd hr
theorem own_retV {kc ks : Nat} {Q : Option Value → Heap → List Loc → Prop} (X : Stand p l e R s m args below meth c T locs cells slots) (hx : p.tables.exec = Jvm.exec) (hlk : meth.locks = false) {pc : Nat} {Ls : Array Slot} (hret : meth.sig.returnType = none) (hd : decode c.code pc = .ok (.return_, 1)) (hc : cells ≤ kc) (hs : slots ≤ ks) (hq : Q none T.heap locs) : own_Go p e below (own_End s kc ks Q) T (mkF m pc Ls []) :=
  own_ends X hlk (fun _ => rfl) hq hc hs fun fs hr => X.returnOut hx hret hd hr
theorem own_callSt {y : MethodName} {bytes : ByteArray} {maxL : Nat} {ret : Option FieldType} {rm : Room} {Q : Option Value → Heap → List Loc → Prop} (X : Stand p l e R s m args below meth c T locs cells slots) (hx : p.tables.exec = Jvm.exec) (hZ : Z.Warmed39 s.vm) {own : String} {index : Nat} (hown : s.vm.findClass own = some m.cls)
    (w1 : (Jvm.Cond.methodLink own index y).before a0 Z = true) (w2 : (Jvm.Cond.static y).before a0 Z = true) (w3 : (Jvm.Cond.initialized y.cls).before a0 Z = true) (w4 : (Jvm.Cond.code y bytes maxL ret).before a0 Z = true) (hy : y.cls ≠ "java/lang/invoke/MethodHandle" ∧ y.cls ≠ "java/lang/invoke/VarHandle") {argsL rest : List Value}
    (M : own_Met l Z y bytes maxL ret rm argsL.toArray h Q) (eT : T.heap = h) {W : Nat} (hf : rm.frames + 1 ≤ R.frames) (hl : W + (maxL + 11) + rm.locals ≤ R.locals) {g : JFrame} (hg : g.method = m) (hsize : g.locals.size = c.maxLocals) (hlen : ∀ sig, parseMethodDescriptor y.desc = some sig → argsL.length = sig.parameters.length) (hs : g.stack = argsL.reverse ++ rest) (hW : 2 * g.monitorRoom + (rest.map fun v => v.category).sum ≤ W) (hd : decode c.code g.pc = .ok (.invokestatic index, 3)) (hc : cells + rm.cells ≤ R.cells) (hsl : slots + rm.slots ≤ R.slots) :
    ∃ v T' L, Stand p l e R s m args below meth c T' (locs ++ L) (cells + rm.cells) (slots + rm.slots) ∧ Q v T'.heap L ∧ ∀ target, Steps p.tables e below (T'.setTop { g with pc := g.pc + 3, stack := v.toList ++ rest }) target → Steps p.tables e below (T.setTop g) target := by
  obtain ⟨v, _, ⟨T', L', k', n'⟩, -, X', ⟨L, hQ, l1, l2, l3⟩, st⟩ := Jvm.LawKit.callS X hx (y := y) hown (mvT hZ w1) (mvT hZ w2) (mvT hZ w3) (mvT hZ w4) hy (backOf (W := W) (M []) hZ w4 w3 hf hl) hg hsize (argsL := argsL) (rest := rest) hlen hs hW hd (fun _ _ => ⟨rfl, eT, hc, hsl⟩)
  dsimp only [Pt.U, Pt.locs, Pt.cells, Pt.slots] at X' l1 l2 l3 st hQ
  subst l1 l2 l3
  exact ⟨v, T', L, X', hQ, st⟩
theorem own_callSp {y : MethodName} {bytes : ByteArray} {maxL : Nat} {rm : Room} {Q : Option Value → Heap → List Loc → Prop} (X : Stand p l e R s m args below meth c T locs cells slots) (hx : p.tables.exec = Jvm.exec) (hZ : Z.Warmed39 s.vm) {own : String} {index : Nat} (hown : s.vm.findClass own = some m.cls) (hy1 : y.name = "<init>")
    (w1 : (Jvm.Cond.methodLink own index y).before a0 Z = true) (w2 : (Jvm.Cond.instanceMethod y).before a0 Z = true) (w3 : (Jvm.Cond.initialized y.cls).before a0 Z = true) (w4 : (Jvm.Cond.code y bytes maxL none).before a0 Z = true) (hy : y.cls ≠ "java/lang/invoke/MethodHandle" ∧ y.cls ≠ "java/lang/invoke/VarHandle") {argsL rest : List Value}
    (M : own_Met l Z y bytes maxL none rm (.ref a :: argsL).toArray h Q) (eT : T.heap = h) {W : Nat} (hf : rm.frames + 1 ≤ R.frames) (hl : W + (maxL + 11) + rm.locals ≤ R.locals) {g : JFrame} (hg : g.method = m) (hsize : g.locals.size = c.maxLocals) (hlen : ∀ sig, parseMethodDescriptor y.desc = some sig → argsL.length = sig.parameters.length) (hs : g.stack = argsL.reverse ++ .ref a :: rest) (hW : 2 * g.monitorRoom + (rest.map fun v => v.category).sum ≤ W) (hd : decode c.code g.pc = .ok (.invokespecial index, 3)) (hc : cells + rm.cells ≤ R.cells) (hsl : slots + rm.slots ≤ R.slots) :
    ∃ v T' L, Stand p l e R s m args below meth c T' (locs ++ L) (cells + rm.cells) (slots + rm.slots) ∧ Q v T'.heap L ∧ ∀ target, Steps p.tables e below (T'.setTop { g with pc := g.pc + 3, stack := v.toList ++ rest }) target → Steps p.tables e below (T.setTop g) target := by
  obtain ⟨v, _, ⟨T', L', k', n'⟩, -, X', ⟨L, hQ, l1, l2, l3⟩, st⟩ := X.specialBack hx (y := y) hy1 hown (mvT hZ w1) (mvT hZ w2) (mvT hZ w4) hy (backOf (W := W) (M []) hZ w4 w3 hf hl) hg hsize (Steps.refl _) (a := a) (argsL := argsL) (rest := rest) hlen hs hW hd (fun _ _ => ⟨rfl, eT, hc, hsl⟩)
  dsimp only [Pt.U, Pt.locs, Pt.cells, Pt.slots] at X' l1 l2 l3 st hQ
  subst l1 l2 l3
  exact ⟨v, T', L, X', hQ, fun _ k => st.trans k⟩
theorem own_callVi {y z : MethodName} {bytes : ByteArray} {maxL : Nat} {ret : Option FieldType} {rm : Room} {Q : Option Value → Heap → List Loc → Prop} {C : String} (X : Stand p l e R s m args below meth c T locs cells slots) (hx : p.tables.exec = Jvm.exec) (hZ : Z.Warmed39 s.vm) {own : String} {index : Nat} (hown : s.vm.findClass own = some m.cls)
    (w1 : (Jvm.Cond.methodLink own index y).before a0 Z = true) (w2 : (Jvm.Cond.declares y).before a0 Z = true) (nf : NotFace s y) (w5 : (Jvm.Cond.selects C y z).before a0 Z = true) (w6 : (Jvm.Cond.instanceMethod z).before a0 Z = true) (w3 : (Jvm.Cond.initialized z.cls).before a0 Z = true) (w4 : (Jvm.Cond.code z bytes maxL ret).before a0 Z = true) (hy : y.cls ≠ "java/lang/invoke/MethodHandle" ∧ y.cls ≠ "java/lang/invoke/VarHandle") (E : Exa Z h a C) {argsL rest : List Value}
    (M : own_Met l Z z bytes maxL ret rm (.ref a :: argsL).toArray h Q) (eT : T.heap = h) {W : Nat} (hf : rm.frames + 1 ≤ R.frames) (hl : W + (maxL + 11) + rm.locals ≤ R.locals) {g : JFrame} (hg : g.method = m) (hsize : g.locals.size = c.maxLocals) (hlen : ∀ sig, parseMethodDescriptor y.desc = some sig → argsL.length = sig.parameters.length) (hs : g.stack = argsL.reverse ++ .ref a :: rest) (hW : 2 * g.monitorRoom + (rest.map fun v => v.category).sum ≤ W) (hd : decode c.code g.pc = .ok (.invokevirtual index, 3)) (hc : cells + rm.cells ≤ R.cells) (hsl : slots + rm.slots ≤ R.slots) :
    ∃ v T' L, Stand p l e R s m args below meth c T' (locs ++ L) (cells + rm.cells) (slots + rm.slots) ∧ Q v T'.heap L ∧ ∀ target, Steps p.tables e below (T'.setTop { g with pc := g.pc + 3, stack := v.toList ++ rest }) target → Steps p.tables e below (T.setTop g) target := by
  obtain ⟨cq, kq, qa, qb, qc⟩ := isOf hZ eT E
  obtain ⟨v, _, ⟨T', L', k', n'⟩, -, X', ⟨L, hQ, l1, l2, l3⟩, st⟩ := X.virtualBack hx (y := y) (z := z) hown (mvT hZ w1) (mvT hZ w2) nf (mvT hZ w5) (mvT hZ w6) hy (backOf (W := W) (M []) hZ w4 w3 hf hl) qa qc hg hsize (Steps.refl _) (argsL := argsL) (rest := rest) hlen hs hW hd (fun _ _ => ⟨rfl, eT, hc, hsl⟩)
  dsimp only [Pt.U, Pt.locs, Pt.cells, Pt.slots] at X' l1 l2 l3 st hQ
  subst l1 l2 l3
  exact ⟨v, T', L, X', hQ, fun _ k => st.trans k⟩
/-- the whole contents of an array -/
def own_Av (Z : State) (h : Heap) (a : Addr) (ty : FieldType) (vs : List Value) : Prop := ∃ c : Cell, Arr Z h a c ty ∧ c.slots = vs.toArray ∧ vs.length < 2 ^ 31
theorem own_Av.lt (F : own_Av Z h a ty vs) : a < h.size := by obtain ⟨c, A, -⟩ := F; exact A.lt
theorem own_Av.ext (F : own_Av Z h a ty vs) (E : Ext h h') : own_Av Z h' a ty vs := by obtain ⟨c, A, r⟩ := F; exact ⟨c, A.ext E, r⟩
theorem own_Av.other (F : own_Av Z h b ty vs) (W : Wr h h' a sl v) (q : b ≠ a) : own_Av Z h' b ty vs := by obtain ⟨c, A, r⟩ := F; exact ⟨c, A.other W q, r⟩
theorem own_Av.keep (F : own_Av Z h a ty vs) (K : Keep h h' ws) (q : a ∉ ws) : own_Av Z h' a ty vs := by obtain ⟨c, A, r⟩ := F; exact ⟨c, ⟨K.2.1 a c A.1 q, A.2⟩, r⟩
theorem own_Av.len (F : own_Av Z h a ty vs) : vs.length < 2 ^ 31 := by obtain ⟨c, A, r, q⟩ := F; exact q
theorem own_Av.new {k : ClassId} {z : Int32} (A : Arr Z h a (newA k ty z) ty) : own_Av Z h a ty (List.replicate z.toNatClampNeg (defaultValue ty)) := ⟨_, A, by simp [newA], by rw [List.length_replicate]; have := z.toInt_lt; simp only [Int32.toNatClampNeg]; omega⟩
theorem own_Av.set (F : own_Av Z h a ty vs) {j : Nat} (W : Wr h h' a j v) : own_Av Z h' a ty (vs.set j v) := by
  obtain ⟨c, A, r, q⟩ := F
  refine ⟨_, A.same W, ?_, by rw [List.length_set]; exact q⟩
  simp [Cell.setSlot, r]
theorem own_in {c : Cell} {j : Int32} (r : c.slots = vs.toArray) (hj : ¬ j < 0) (hl : j.toNatClampNeg < vs.length) : ¬ (j < 0 ∨ c.slots.size ≤ j.toNatClampNeg) := by
  rw [r]; simp; exact ⟨Int32.not_lt.mp hj, hl⟩
theorem own_lt_of {α : Type} {vs : List α} {j : Nat} {v : α} (q : vs[j]? = some v) : j < vs.length := (List.getElem?_eq_some_iff.mp q).1
theorem own_ldI (X : Stand p l e R s m args below meth c T locs cells slots) (hx : p.tables.exec = Jvm.exec) (hZ : Z.Warmed39 s.vm) (eT : T.heap = h) (F : own_Av Z h a .int vs) {j : Int32} (hj : ¬ j < 0) (hv : vs[j.toNatClampNeg]? = some v) {g : JFrame} (hg : g.method = m) {rest : List Value} (hs : g.stack = .int j :: .ref a :: rest) (hd : decode c.code g.pc = .ok (.iaload, 1)) :
    ∀ target, Steps p.tables e below (T.setTop { g with pc := g.pc + 1, stack := v :: rest }) target → Steps p.tables e below (T.setTop g) target := by
  obtain ⟨cl, A, r, -⟩ := F
  exact X.iaload hx (j := j) (v := v) (by rw [eT]; exact A.1) (State.isArrayOf_alike hZ.alike A.2.1) A.2.2 (own_in r hj (own_lt_of hv)) (by rw [r]; simpa using hv) hg hs hd
theorem own_ldJ (X : Stand p l e R s m args below meth c T locs cells slots) (hx : p.tables.exec = Jvm.exec) (hZ : Z.Warmed39 s.vm) (eT : T.heap = h) (F : own_Av Z h a .long vs) {j : Int32} (hj : ¬ j < 0) (hv : vs[j.toNatClampNeg]? = some v) {g : JFrame} (hg : g.method = m) {rest : List Value} (hs : g.stack = .int j :: .ref a :: rest) (hd : decode c.code g.pc = .ok (.laload, 1)) :
    ∀ target, Steps p.tables e below (T.setTop { g with pc := g.pc + 1, stack := v :: rest }) target → Steps p.tables e below (T.setTop g) target := by
  obtain ⟨cl, A, r, -⟩ := F
  exact X.laload hx (j := j) (v := v) (by rw [eT]; exact A.1) (State.isArrayOf_alike hZ.alike A.2.1) A.2.2 (own_in r hj (own_lt_of hv)) (by rw [r]; simpa using hv) hg hs hd
theorem own_ldB (X : Stand p l e R s m args below meth c T locs cells slots) (hx : p.tables.exec = Jvm.exec) (hZ : Z.Warmed39 s.vm) (eT : T.heap = h) (F : own_Av Z h a .byte vs) {j : Int32} (hj : ¬ j < 0) (hv : vs[j.toNatClampNeg]? = some v) {g : JFrame} (hg : g.method = m) {rest : List Value} (hs : g.stack = .int j :: .ref a :: rest) (hd : decode c.code g.pc = .ok (.baload, 1)) :
    ∀ target, Steps p.tables e below (T.setTop { g with pc := g.pc + 1, stack := v :: rest }) target → Steps p.tables e below (T.setTop g) target := by
  obtain ⟨cl, A, r, -⟩ := F
  exact X.baloadBytes hx (j := j) (v := v) (by rw [eT]; exact A.1) (State.isArrayOf_alike hZ.alike A.2.1) A.2.2 (own_in r hj (own_lt_of hv)) (by rw [r]; simpa using hv) hg hs hd
theorem own_ldZ (X : Stand p l e R s m args below meth c T locs cells slots) (hx : p.tables.exec = Jvm.exec) (hZ : Z.Warmed39 s.vm) (eT : T.heap = h) (F : own_Av Z h a .boolean vs) {j : Int32} (hj : ¬ j < 0) (hv : vs[j.toNatClampNeg]? = some v) {g : JFrame} (hg : g.method = m) {rest : List Value} (hs : g.stack = .int j :: .ref a :: rest) (hd : decode c.code g.pc = .ok (.baload, 1)) :
    ∀ target, Steps p.tables e below (T.setTop { g with pc := g.pc + 1, stack := v :: rest }) target → Steps p.tables e below (T.setTop g) target := by
  obtain ⟨cl, A, r, -⟩ := F
  exact X.baloadBooleans hx (j := j) (v := v) (by rw [eT]; exact A.1) (State.isArrayOf_alike hZ.alike A.2.1) A.2.2 (own_in r hj (own_lt_of hv)) (by rw [r]; simpa using hv) hg hs hd
theorem own_alen (X : Stand p l e R s m args below meth c T locs cells slots) (hx : p.tables.exec = Jvm.exec) (hZ : Z.Warmed39 s.vm) (eT : T.heap = h) (F : own_Av Z h a ty vs) {n : Int32} (hn : vs.length.toInt32 = n) {g : JFrame} (hg : g.method = m) {rest : List Value} (hs : g.stack = .ref a :: rest) (hd : decode c.code g.pc = .ok (.arraylength, 1)) :
    ∀ target, Steps p.tables e below (T.setTop { g with pc := g.pc + 1, stack := .int n :: rest }) target → Steps p.tables e below (T.setTop g) target := by
  obtain ⟨cl, A, r, -⟩ := F
  have q := X.arraylength hx (by rw [eT]; exact A.1) (State.isArrayOf_alike hZ.alike A.2.1) hg hs hd
  have e1 : cl.slots.size.toInt32 = n := by rw [r]; simpa using hn
  rw [e1] at q; exact q
theorem own_stI (X : Stand p l e R s m args below meth c T locs cells slots) (hx : p.tables.exec = Jvm.exec) (hZ : Z.Warmed39 s.vm) (eT : T.heap = h) (F : own_Av Z h a .int vs) {j x : Int32} (hj : ¬ j < 0) (hl : j.toNatClampNeg < vs.length) {g : JFrame} (hg : g.method = m) {rest : List Value} (hs : g.stack = .int x :: .int j :: .ref a :: rest) (hd : decode c.code g.pc = .ok (.iastore, 1)) :
    ∃ T' h', Stand p l e R s m args below meth c T' (locs ++ [⟨a, j.toNatClampNeg⟩]) cells slots ∧ T'.heap = h' ∧ Wr h h' a j.toNatClampNeg (.int x) ∧ own_Av Z h' a .int (vs.set j.toNatClampNeg (.int x)) ∧ ∀ target, Steps p.tables e below (T'.setTop { g with pc := g.pc + 1, stack := rest }) target → Steps p.tables e below (T.setTop g) target := by
  obtain ⟨cl, A, r, q⟩ := F
  obtain ⟨T', h', X', e', W, st⟩ := stI X hx hZ eT A (own_in r hj hl) hg hs hd
  exact ⟨T', h', X', e', W, own_Av.set ⟨cl, A, r, q⟩ W, st⟩
theorem own_stJ (X : Stand p l e R s m args below meth c T locs cells slots) (hx : p.tables.exec = Jvm.exec) (hZ : Z.Warmed39 s.vm) (eT : T.heap = h) (F : own_Av Z h a .long vs) {j : Int32} {x : Int64} (hj : ¬ j < 0) (hl : j.toNatClampNeg < vs.length) {g : JFrame} (hg : g.method = m) {rest : List Value} (hs : g.stack = .long x :: .int j :: .ref a :: rest) (hd : decode c.code g.pc = .ok (.lastore, 1)) :
    ∃ T' h', Stand p l e R s m args below meth c T' (locs ++ [⟨a, j.toNatClampNeg⟩]) cells slots ∧ T'.heap = h' ∧ Wr h h' a j.toNatClampNeg (.long x) ∧ own_Av Z h' a .long (vs.set j.toNatClampNeg (.long x)) ∧ ∀ target, Steps p.tables e below (T'.setTop { g with pc := g.pc + 1, stack := rest }) target → Steps p.tables e below (T.setTop g) target := by
  obtain ⟨cl, A, r, q⟩ := F
  obtain ⟨T', h', X', e', W, st⟩ := stJ X hx hZ eT A (own_in r hj hl) hg hs hd
  exact ⟨T', h', X', e', W, own_Av.set ⟨cl, A, r, q⟩ W, st⟩
theorem own_stB (X : Stand p l e R s m args below meth c T locs cells slots) (hx : p.tables.exec = Jvm.exec) (hZ : Z.Warmed39 s.vm) (eT : T.heap = h) (F : own_Av Z h a .byte vs) {j x : Int32} (hj : ¬ j < 0) (hl : j.toNatClampNeg < vs.length) {g : JFrame} (hg : g.method = m) {rest : List Value} (hs : g.stack = .int x :: .int j :: .ref a :: rest) (hd : decode c.code g.pc = .ok (.bastore, 1)) :
    ∃ T' h', Stand p l e R s m args below meth c T' (locs ++ [⟨a, j.toNatClampNeg⟩]) cells slots ∧ T'.heap = h' ∧ Wr h h' a j.toNatClampNeg (.int x.toInt8.toInt32) ∧ own_Av Z h' a .byte (vs.set j.toNatClampNeg (.int x.toInt8.toInt32)) ∧ ∀ target, Steps p.tables e below (T'.setTop { g with pc := g.pc + 1, stack := rest }) target → Steps p.tables e below (T.setTop g) target := by
  obtain ⟨cl, A, r, q⟩ := F
  obtain ⟨T', h', X', e', W, st⟩ := stB X hx hZ eT A (own_in r hj hl) hg hs hd
  exact ⟨T', h', X', e', W, own_Av.set ⟨cl, A, r, q⟩ W, st⟩
theorem own_stZ (X : Stand p l e R s m args below meth c T locs cells slots) (hx : p.tables.exec = Jvm.exec) (hZ : Z.Warmed39 s.vm) (eT : T.heap = h) (F : own_Av Z h a .boolean vs) {j x : Int32} (hj : ¬ j < 0) (hl : j.toNatClampNeg < vs.length) {g : JFrame} (hg : g.method = m) {rest : List Value} (hs : g.stack = .int x :: .int j :: .ref a :: rest) (hd : decode c.code g.pc = .ok (.bastore, 1)) :
    ∃ T' h', Stand p l e R s m args below meth c T' (locs ++ [⟨a, j.toNatClampNeg⟩]) cells slots ∧ T'.heap = h' ∧ Wr h h' a j.toNatClampNeg (.int (x &&& 1)) ∧ own_Av Z h' a .boolean (vs.set j.toNatClampNeg (.int (x &&& 1))) ∧ ∀ target, Steps p.tables e below (T'.setTop { g with pc := g.pc + 1, stack := rest }) target → Steps p.tables e below (T.setTop g) target := by
  obtain ⟨cl, A, r, q⟩ := F
  obtain ⟨T', h', X', e', W, st⟩ := stZ X hx hZ eT A (own_in r hj hl) hg hs hd
  exact ⟨T', h', X', e', W, own_Av.set ⟨cl, A, r, q⟩ W, st⟩
theorem own_len {t : Term} {n : Int32} {cl : Cell} (q : (Jvm.Cond.eq (.length t) (.int n)).value args s none s [] = some true) (ht : t.eval args s none [] s = some (.ref a)) (A : Arr s s.heap a cl ty) (hn : ¬ n < 0) : cl.slots.size = n.toNatClampNeg := by
  have ha := Arr.fin (State.Warmed39.refl s).alike A
  by_cases hl : cl.slots.size < 2 ^ 31
  · have e1 := len_f (t := t) ht ha hl
    have e2 : cl.slots.size.toInt32 = n := by
      simp only [Cond.value, e1] at q
      simpa [Term.eval] using q
    rw [← e2]
    simp only [Int32.toNatClampNeg, len_toInt hl]; rfl
  · exfalso
    have e1 : (Term.length t).eval args s none [] s = none := by
      have hl' : ¬ cl.slots.size < 2147483648 := hl
      simp [Term.eval, ht, ha, hl']
    simp [Cond.value, e1] at q
theorem own_elemJ {t : Term} {j : Int32} {v : Int64} {cl : Cell} (q : (Jvm.Cond.eq (.elem t (.int j)) (.long v)).value args s none s [] = some true) (ht : t.eval args s none [] s = some (.ref a)) (A : Arr s s.heap a cl ty) : cl.slots[j.toNatClampNeg]? = some (.long v) := by
  cases e1 : (Term.elem t (.int j)).eval args s none [] s with
  | none => simp [Cond.value, e1] at q
  | some x =>
    have e2 := (elem_in e1 ht rfl A.1).2
    rw [e2]
    simp only [Cond.value, e1] at q
    cases x <;> simp [Term.eval] at q
    rw [q]
theorem own_elemI {t : Term} {j : Int32} {v : Int32} {cl : Cell} (q : (Jvm.Cond.eq (.elem t (.int j)) (.int v)).value args s none s [] = some true) (ht : t.eval args s none [] s = some (.ref a)) (A : Arr s s.heap a cl ty) : cl.slots[j.toNatClampNeg]? = some (.int v) := by
  cases e1 : (Term.elem t (.int j)).eval args s none [] s with
  | none => simp [Cond.value, e1] at q
  | some x =>
    have e2 := (elem_in e1 ht rfl A.1).2
    rw [e2]
    simp only [Cond.value, e1] at q
    cases x <;> simp [Term.eval] at q
    rw [q]
theorem own_Av.of {cl : Cell} (A : Arr Z h a cl ty) (hs : cl.slots.size = vs.length) (hv : ∀ i, i < vs.length → cl.slots[i]? = vs[i]?) (hl : vs.length < 2 ^ 31) : own_Av Z h a ty vs := by
  refine ⟨cl, A, ?_, hl⟩
  apply Array.ext
  · simpa using hs
  · intro i h1 h2
    have h3 : i < vs.length := by rw [← hs]; exact h1
    have := hv i h3
    rw [Array.getElem?_eq_getElem h1, List.getElem?_eq_getElem h3] at this
    simpa using this
theorem own_Sta.keep0 {C n d : String} (F : Sta Z h C n d v) (K : Keep h h' []) : Sta Z h' C n d v := by
  obtain ⟨cf, i, k, f, st, cell, h1, h2, h3, h4, h5, r⟩ := F; exact ⟨cf, i, k, f, st, cell, h1, h2, h3, h4, K.2.1 _ _ h5 nin0, r⟩
theorem own_fldJ {t : Term} {C n d : String} {z : Int64} (q : (Jvm.Cond.eq (.field t C n d) (.long z)).value args s none s [] = some true) (ht : t.eval args s none [] s = some (.ref a)) : Fld s s.heap a C n d (.long z) := by
  have e0 := fld_at (C := C) (n := n) (dd := d) ht
  refine Fld.start ?_
  cases e1 : s.fieldOf? a C n d with
  | none => rw [e1] at e0; simp [Cond.value, e0] at q
  | some x =>
    rw [e1] at e0
    simp only [Cond.value, e0] at q
    cases x <;> simp [Term.eval] at q
    rw [q]
theorem own_cloneI (X : Stand p l e R s m args below meth c T locs cells slots) (hx : p.tables.exec = Jvm.exec) (hZ : Z.Warmed39 s.vm) {own : String} {index : Nat} (hown : s.vm.findClass own = some m.cls)
    (w1 : (Jvm.Cond.methodLink own index ⟨"[I", "clone", "()Ljava/lang/Object;"⟩).before a0 Z = true) (w2 : (Jvm.Cond.sameMethod "[I" "java/lang/Object" "clone" "()Ljava/lang/Object;").before a0 Z = true) (w3 : (Jvm.Cond.native ⟨"java/lang/Object", "clone", "()Ljava/lang/Object;"⟩).before a0 Z = true)
    (w4 : (Jvm.Cond.instanceMethod ⟨"java/lang/Object", "clone", "()Ljava/lang/Object;"⟩).before a0 Z = true) (w5 : (Jvm.Cond.selects "[I" ⟨"[I", "clone", "()Ljava/lang/Object;"⟩ ⟨"java/lang/Object", "clone", "()Ljava/lang/Object;"⟩).before a0 Z = true) (w6 : (Jvm.Cond.castable "[I" "java/lang/Cloneable").before a0 Z = true)
    (eT : T.heap = h) {I : List Int32} (F : own_Av Z h a .int (I.map Value.int)) (E : Exa Z h a "[I") {g : JFrame} (hg : g.method = m) (hsize : g.locals.size = c.maxLocals) {rest : List Value} (hs : g.stack = .ref a :: rest) (hd : decode c.code g.pc = .ok (.invokevirtual index, 3))
    (hf : 1 ≤ R.frames) {W cap : Nat} (hW : 2 * g.monitorRoom + (rest.map fun v => v.category).sum ≤ W) (hl : W + 14 ≤ R.locals) (hcap : I.length ≤ cap) (hc : cells + 1 ≤ R.cells) (hsl : slots + cap ≤ R.slots) :
    ∃ T' h', Stand p l e R s m args below meth c T' locs (cells + 1) (slots + cap) ∧ T'.heap = h' ∧ Ext h h' ∧ own_Av Z h' h.size .int (I.map Value.int) ∧ Exa Z h' h.size "[I" ∧
      ∀ target, Steps p.tables e below (T'.setTop { g with pc := g.pc + 3, stack := .ref h.size :: rest }) target → Steps p.tables e below (T.setTop g) target := by
  obtain ⟨cl, A, r, q⟩ := F
  have FC : FitC Z cl := fitC_of A fun i hi v hv => by
    rw [r] at hv
    simp only [List.getElem?_toArray, List.getElem?_map, Option.map_eq_some_iff] at hv
    obtain ⟨z, -, rfl⟩ := hv
    rfl
  obtain ⟨T', h', X', e', ex, A', E', st⟩ := cloneA X hx hZ hown w1 w2 w3 w4 w5 w6 eT A E FC hg hsize hs hd hf hW hl (by rw [r]; simpa using hcap) hc hsl
  exact ⟨T', h', X', e', ex, ⟨cloneOf cl, A', r, q⟩, E', st⟩
theorem own_callPr {y y' : MethodName} {bytes : ByteArray} {maxL : Nat} {ret : Option FieldType} {rm : Room} {Q : Option Value → Heap → List Loc → Prop} (X : Stand p l e R s m args below meth c T locs cells slots) (hx : p.tables.exec = Jvm.exec) (hZ : Z.Warmed39 s.vm) {own : String} {index : Nat} (hown : s.vm.findClass own = some m.cls)
    (w1 : (Jvm.Cond.methodLink own index y).before a0 Z = true) (w2 : (Jvm.Cond.privateMethod y).before a0 Z = true) (w6 : (Jvm.Cond.instanceMethod y).before a0 Z = true) (w3 : (Jvm.Cond.initialized y.cls).before a0 Z = true) (w4 : (Jvm.Cond.code y bytes maxL ret).before a0 Z = true) (w7 : (Jvm.Cond.selects y.cls y' y').before a0 Z = true) (w8 : (Jvm.Cond.instanceMethod y').before a0 Z = true) (hcl : y'.cls = y.cls) (hy : y.cls ≠ "java/lang/invoke/MethodHandle" ∧ y.cls ≠ "java/lang/invoke/VarHandle") {C : String} (E : Exa Z h a C) {argsL rest : List Value}
    (M : own_Met l Z y bytes maxL ret rm (.ref a :: argsL).toArray h Q) (eT : T.heap = h) {W : Nat} (hf : rm.frames + 1 ≤ R.frames) (hl : W + (maxL + 11) + rm.locals ≤ R.locals) {g : JFrame} (hg : g.method = m) (hsize : g.locals.size = c.maxLocals) (hlen : ∀ sig, parseMethodDescriptor y.desc = some sig → argsL.length = sig.parameters.length) (hs : g.stack = argsL.reverse ++ .ref a :: rest) (hW : 2 * g.monitorRoom + (rest.map fun v => v.category).sum ≤ W) (hd : decode c.code g.pc = .ok (.invokevirtual index, 3)) (hc : cells + rm.cells ≤ R.cells) (hsl : slots + rm.slots ≤ R.slots) :
    ∃ v T' L, Stand p l e R s m args below meth c T' (locs ++ L) (cells + rm.cells) (slots + rm.slots) ∧ Q v T'.heap L ∧ ∀ target, Steps p.tables e below (T'.setTop { g with pc := g.pc + 3, stack := v.toList ++ rest }) target → Steps p.tables e below (T.setTop g) target := by
  obtain ⟨cq, qa, qb⟩ := E.cell
  have nf := notFace_of_selects (args := #[]) (mvT hZ w7)
  obtain ⟨mk', meth', hn', -⟩ := Cond.instanceMethod_spec (mvT (args := #[]) hZ w8)
  obtain ⟨k', hk', hni⟩ := nf mk' hn'
  have hc' := findClass_of_methodNamed hn'
  rw [hcl] at hc'
  have hpriv := Cond.privateMethod_at (mvP hZ w2 (args := #[]))
  have hsel := selects_self_of_private (args := args) hc' hk' hni hpriv (mvT hZ w6) hy
  obtain ⟨v, _, ⟨T', L', k', n'⟩, -, X', ⟨L, hQ, l1, l2, l3⟩, st⟩ := X.privateBack hx (y := y) hown (mvT hZ w1) (mvT hZ w6) hsel hpriv (mvT hZ w4) hy (backOf (W := W) (M []) hZ w4 w3 hf hl) hg hsize (Steps.refl _) (a := a) (by rw [eT]; exact qa) qb (argsL := argsL) (rest := rest) hlen hs hW hd (fun _ _ => ⟨rfl, eT, hc, hsl⟩)
  dsimp only [Pt.U, Pt.locs, Pt.cells, Pt.slots] at X' l1 l2 l3 st hQ
  subst l1 l2 l3
  exact ⟨v, T', L, X', hQ, fun _ k => st.trans k⟩
theorem own_clone {ad : String} (X : Stand p l e R s m args below meth c T locs cells slots) (hx : p.tables.exec = Jvm.exec) (hZ : Z.Warmed39 s.vm) {own : String} {index : Nat} (hown : s.vm.findClass own = some m.cls)
    (w1 : (Jvm.Cond.methodLink own index ⟨ad, "clone", "()Ljava/lang/Object;"⟩).before a0 Z = true) (w2 : (Jvm.Cond.sameMethod ad "java/lang/Object" "clone" "()Ljava/lang/Object;").before a0 Z = true) (w3 : (Jvm.Cond.native ⟨"java/lang/Object", "clone", "()Ljava/lang/Object;"⟩).before a0 Z = true)
    (w4 : (Jvm.Cond.instanceMethod ⟨"java/lang/Object", "clone", "()Ljava/lang/Object;"⟩).before a0 Z = true) (w5 : (Jvm.Cond.selects ad ⟨ad, "clone", "()Ljava/lang/Object;"⟩ ⟨"java/lang/Object", "clone", "()Ljava/lang/Object;"⟩).before a0 Z = true) (w6 : (Jvm.Cond.castable ad "java/lang/Cloneable").before a0 Z = true)
    (eT : T.heap = h) (F : own_Av Z h a ty vs) (hfit : ∀ v ∈ vs, fits ty v = true) (E : Exa Z h a ad) {g : JFrame} (hg : g.method = m) (hsize : g.locals.size = c.maxLocals) {rest : List Value} (hs : g.stack = .ref a :: rest) (hd : decode c.code g.pc = .ok (.invokevirtual index, 3))
    (hf : 1 ≤ R.frames) {W cap : Nat} (hW : 2 * g.monitorRoom + (rest.map fun v => v.category).sum ≤ W) (hl : W + 14 ≤ R.locals) (hcap : vs.length ≤ cap) (hc : cells + 1 ≤ R.cells) (hsl : slots + cap ≤ R.slots) :
    ∃ T' h', Stand p l e R s m args below meth c T' locs (cells + 1) (slots + cap) ∧ T'.heap = h' ∧ Ext h h' ∧ own_Av Z h' h.size ty vs ∧ Exa Z h' h.size ad ∧
      ∀ target, Steps p.tables e below (T'.setTop { g with pc := g.pc + 3, stack := .ref h.size :: rest }) target → Steps p.tables e below (T.setTop g) target := by
  obtain ⟨cl, A, r, q⟩ := F
  have FC : FitC Z cl := fitC_of A fun i hi v hv => by
    rw [r] at hv
    simp only [List.getElem?_toArray] at hv
    exact hfit v (List.mem_of_getElem? hv)
  obtain ⟨T', h', X', e', ex, A', E', st⟩ := cloneA X hx hZ hown w1 w2 w3 w4 w5 w6 eT A E FC hg hsize hs hd hf hW hl (by rw [r]; simpa using hcap) hc hsl
  exact ⟨T', h', X', e', ex, ⟨cloneOf cl, A', r, q⟩, E', st⟩
theorem own_Av.arv (F : own_Av Z h a ty vs) {dv : Value} (hfit : ∀ v ∈ vs, fits ty v = true) : ∃ k, Arv Z h a k ty vs.length.toInt32 vs dv := by
  obtain ⟨cl, A, r, q⟩ := F
  have e1 : vs.length.toInt32.toNatClampNeg = vs.length := by simp only [Int32.toNatClampNeg, len_toInt q]; rfl
  have hs : cl.slots.size = vs.length := by rw [r]; simp
  refine ⟨cl.cls, cl, A, rfl, by rw [e1, hs], ?_, fun k hk => ?_, fun i hi => ?_⟩
  · rw [Int32.lt_iff_toInt_lt, len_toInt q]; have : (0 : Int32).toInt = 0 := by decide
    omega
  · rw [hs] at hk; rw [r]; simp [List.getD_eq_getElem?_getD, List.getElem?_eq_getElem hk]
  · rw [hs] at hi
    have : vs.getD i dv = vs[i] := by simp [List.getD_eq_getElem?_getD, List.getElem?_eq_getElem hi]
    rw [this]; exact hfit _ (List.getElem_mem hi)
theorem own_stC (X : Stand p l e R s m args below meth c T locs cells slots) (hx : p.tables.exec = Jvm.exec) (hZ : Z.Warmed39 s.vm) (eT : T.heap = h) (F : own_Av Z h a .char vs) {j x : Int32} (hj : ¬ j < 0) (hl : j.toNatClampNeg < vs.length) {g : JFrame} (hg : g.method = m) {rest : List Value} (hs : g.stack = .int x :: .int j :: .ref a :: rest) (hd : decode c.code g.pc = .ok (.castore, 1)) :
    ∃ T' h', Stand p l e R s m args below meth c T' (locs ++ [⟨a, j.toNatClampNeg⟩]) cells slots ∧ T'.heap = h' ∧ Wr h h' a j.toNatClampNeg (.int x.toUInt32.toUInt16.toUInt32.toInt32) ∧ own_Av Z h' a .char (vs.set j.toNatClampNeg (.int x.toUInt32.toUInt16.toUInt32.toInt32)) ∧ ∀ target, Steps p.tables e below (T'.setTop { g with pc := g.pc + 1, stack := rest }) target → Steps p.tables e below (T.setTop g) target := by
  obtain ⟨cl, A, r, q⟩ := F
  obtain ⟨T', h', X', e', W, st⟩ := stC X hx hZ eT A (own_in r hj hl) hg hs hd
  exact ⟨T', h', X', e', W, own_Av.set ⟨cl, A, r, q⟩ W, st⟩
theorem own_ne_of (q : a < h.size) (r : h.size ≤ b) : a ≠ b := Nat.ne_of_lt (Nat.lt_of_lt_of_le q r)
end Own
section OwnW
variable {p : Program} {l : Launch} {e : Env} {R : Room} {s : State} {m : MethodId} {args : Array Value} {below : List Frame} {meth : Method} {c : Code} {T T' : State} {locs : List Loc} {cells slots : Nat} {Z : State} {a0 : Array Value} {h h' h0 : Heap} {g g' : JFrame} {a b : Addr} {ty : FieldType} {vs : List Value} {v w : Value} {vm0 : Vm} {k0 : Nat}
def own_EndW (s : State) (kc ks : Nat) (Q : Option Value → Heap → List Loc → Prop) (o : Outcome) (U' : State) : Prop := ∃ v L, o = .returned v ∧ Q v U'.heap L ∧ ReturnedEndW s o U' L kc ks
/-- the judged method, started at Z itself -/
def own_MetW (l : Launch) (Z : State) (y : MethodName) (bytes : ByteArray) (maxL : Nat) (ret : Option FieldType) (rm : Room) (as' : Array Value) (Q : Option Value → Heap → List Loc → Prop) : Prop :=
  ∀ ws : List Jvm.Cond, MetFree l y (head1 (Jvm.Cond.code y bytes maxL ret :: ws) rm) (fun a U => a = as' ∧ U = Z) (fun _ _ _ _ _ => True) (fun _ U o U' => ∃ v L, o = .returned v ∧ Q v U'.heap L ∧ ReturnedEndW U o U' L rm.cells rm.slots)
theorem own_introW {y : MethodName} {bytes : ByteArray} {maxL : Nat} {ret : Option FieldType} {rm : Room} {as' : Array Value} {Q : Option Value → Heap → List Loc → Prop} (hp : plainFor y = true)
    (body : ∀ (p : Program) (e : Env) (m : MethodId) (below : List Frame) (meth : Method) (c : Code) (s₁ : State), p.tables.exec = Jvm.exec → c.code = bytes → c.maxLocals = maxL → Z.vm.findClass y.cls = some m.cls → meth.name = y.name → meth.sig.returnType = ret → meth.locks = false → Stand p l e rm (Z.setVm Z.vm) m as' below meth c s₁ [] 0 0 → s₁.heap = Z.heap → own_Go p e below (own_EndW Z rm.cells rm.slots Q) s₁ (entryFrame m as' maxL)) : own_MetW l Z y bytes maxL ret rm as' Q := by
  intro ws
  refine MetFree.of_bodySF hp hisR ?_
  intro p e s m args below meth c s₁ Bd hml hP hK
  obtain ⟨rfl, rfl⟩ := hP
  exact body p e m below meth c s₁ Bd.exec Bd.bytes hml (findClass_of_methodNamed Bd.named) (name_of_methodNamed Bd.named Bd.method).1 Bd.returns Bd.notSynchronized (Stand.of_body Bd) (by rw [Bd.state]; rfl)
theorem own_finW {kc ks : Nat} {Q : Option Value → Heap → List Loc → Prop} (X : Stand p l e R (s.setVm vm0) m args below meth c T locs cells slots) (hS : s.Since vm0 k0) (eT : T.heap = h) (hk : k0 ≤ h.size) (hlk : meth.locks = false) {u : Option Value} (hv : meth.sig.returnType = none → u = none) (hq : Q u T.heap locs) (hc : cells ≤ kc) (hs : slots ≤ ks)
    (st : ∀ fs, (∀ (f : JFrame) (acts : List Action), f.method = m → f.locked = none → f.entered = [] → (doReturn e (T.setTop f) acts u).1 = T.setFrames fs) → Steps p.tables e below (T.setTop g) (T.setFrames fs)) : own_Go p e below (own_EndW s kc ks Q) T g := by
  obtain ⟨fs, hr, hrun, hended, hW⟩ := X.leaveW hS (by rw [eT]; exact hk) (v := u) hv hlk
  exact ⟨_, _, st fs hr, hrun, hended, _, _, rfl, hq, hW.1, hW.2.1, hW.2.2.1, hW.2.2.2.mono hc hs⟩
theorem own_retNW {kc ks : Nat} {Q : Option Value → Heap → List Loc → Prop} (X : Stand p l e R (s.setVm vm0) m args below meth c T locs cells slots) (hx : p.tables.exec = Jvm.exec) (hS : s.Since vm0 k0) (eT : T.heap = h) (hk : k0 ≤ h.size) (hlk : meth.locks = false) {pc : Nat} {Ls : Array Slot} {z : Int32} {rest : List Value} (hret : meth.sig.returnType = some ty) (ht : ty = .boolean ∨ ty = .byte ∨ ty = .char ∨ ty = .short) (hd : decode c.code pc = .ok (.ireturn, 1)) (hc : cells ≤ kc) (hs : slots ≤ ks) (hq : Q (some (.int (nar ty z))) T.heap locs) : own_Go p e below (own_EndW s kc ks Q) T (mkF m pc Ls (.int z :: rest)) :=
  own_finW X hS eT hk hlk (fun q => by rw [hret] at q; cases q) hq hc hs fun fs hr => retN X hx hret ht hd hr
theorem own_Av.of_arv {k : ClassId} {z : Int32} {dv : Value} (F : Arv Z h a k ty z vs dv) (hl : z.toNatClampNeg = vs.length) : own_Av Z h a ty vs := by
  obtain ⟨cl, A, -, S, hz, H, -⟩ := F
  refine own_Av.of A (by rw [S, hl]) (fun i hi => ?_) (by rw [← hl]; exact (back32 hz).2)
  rw [H i (by rw [S, hl]; exact hi)]
  simp [List.getD_eq_getElem?_getD, List.getElem?_eq_getElem hi]
end OwnW

theorem own_strw {a0 : Array Value} {Z : State} (hw : ∀ d ∈ tables_1, d.before a0 Z = true) : ∀ a ∈ Bundle.stringAtoms, a.before a0 Z = true := fun d hd => hw d ((by decide +kernel : ∀ d ∈ Bundle.stringAtoms, d ∈ tables_1) d hd)
theorem own_d12_0 : decode jdk_30_method_1_code 0 = .ok (.aload_n 0, 1) := by decide +kernel
theorem own_d12_1 : decode jdk_30_method_1_code 1 = .ok (.invokespecial 1, 3) := by decide +kernel
theorem own_d12_4 : decode jdk_30_method_1_code 4 = .ok (.return_, 1) := by decide +kernel
theorem own_pn0 : plainName "java/lang/Record" = true := by first | (simp [plainName, overriddenIn]; done) | decide +kernel
set_option maxHeartbeats 40000000 in
theorem own_mt12_ef (m : MethodId) (x0 : Addr) : entryFrame m #[(.ref x0)] 1 = mkF m 0 #[.val (.ref x0)] [] := by first | (simp [entryFrame, mkF, argsToLocals, Value.category, maxLocals]; done) | rfl
set_option maxRecDepth 65536 in
set_option maxHeartbeats 40000000 in
theorem own_mt12 (l : Launch) (Z : State) (a0 : Array Value) (hw : ∀ d ∈ tables_1, d.before a0 Z = true) (x0 : Addr) (h0 : Heap) :
    own_Met l Z (⟨"java/lang/Record", "<init>", "()V"⟩ : MethodName) jdk_30_method_1_code 1 none ({ frames := 1, cells := 0, slots := 0, locals := 12 } : Room) #[(.ref x0)] h0 (fun v h L => v = none ∧ h = h0 ∧ L = []) := by
  refine own_intro (plainFor_of_name own_pn0) ?_
  intro p e s m below meth c s₁ hx hby hml hown hnm hZ hret hlk X0 e0
  refine own_cast (own_mt12_ef m x0) ?_
  refine own_via (T' := s₁) (g' := (mkF m 1 #[.val (.ref x0)] [(.ref x0)])) (fun t k => XS.aloadN X0.here hx rfl (hb hby own_d12_0) rfl rfl k) ?_
  obtain ⟨T1, X1, e1, st1⟩ := initO X0 hx hZ hown (hw _ (List.mem_of_getElem? (i := 79) rfl)) (hw _ (List.mem_of_getElem? (i := 17) rfl)) (hw _ (List.mem_of_getElem? (i := 18) rfl)) e0 (g := (mkF m 1 #[.val (.ref x0)] [(.ref x0)])) rfl (by rw [hml]; rfl) rfl (hb hby own_d12_1) (by decide) (W := 0) (by show 2 * 0 + _ ≤ _; exact Nat.le_of_eq rfl) (by decide)
  refine own_via (T' := T1) (g' := (mkF m 4 #[.val (.ref x0)] [])) st1 ?_
  refine own_retV X1 hx hlk hret (hb hby own_d12_4) (by decide) (by decide) ?_
  exact ⟨rfl, e1, rfl⟩
theorem own_d5_0 : decode jdk_22_method_1_code 0 = .ok (.aload_n 0, 1) := by decide +kernel
theorem own_d5_1 : decode jdk_22_method_1_code 1 = .ok (.invokespecial 1, 3) := by decide +kernel
theorem own_d5_4 : decode jdk_22_method_1_code 4 = .ok (.return_, 1) := by decide +kernel
theorem own_pn1 : plainName "java/util/AbstractCollection" = true := by first | (simp [plainName, overriddenIn]; done) | decide +kernel
set_option maxHeartbeats 40000000 in
theorem own_mt5_ef (m : MethodId) (x0 : Addr) : entryFrame m #[(.ref x0)] 1 = mkF m 0 #[.val (.ref x0)] [] := by first | (simp [entryFrame, mkF, argsToLocals, Value.category, maxLocals]; done) | rfl
set_option maxRecDepth 65536 in
set_option maxHeartbeats 40000000 in
theorem own_mt5 (l : Launch) (Z : State) (a0 : Array Value) (hw : ∀ d ∈ tables_1, d.before a0 Z = true) (x0 : Addr) (h0 : Heap) :
    own_Met l Z (⟨"java/util/AbstractCollection", "<init>", "()V"⟩ : MethodName) jdk_22_method_1_code 1 none ({ frames := 1, cells := 0, slots := 0, locals := 12 } : Room) #[(.ref x0)] h0 (fun v h L => v = none ∧ h = h0 ∧ L = []) := by
  refine own_intro (plainFor_of_name own_pn1) ?_
  intro p e s m below meth c s₁ hx hby hml hown hnm hZ hret hlk X0 e0
  refine own_cast (own_mt5_ef m x0) ?_
  refine own_via (T' := s₁) (g' := (mkF m 1 #[.val (.ref x0)] [(.ref x0)])) (fun t k => XS.aloadN X0.here hx rfl (hb hby own_d5_0) rfl rfl k) ?_
  obtain ⟨T1, X1, e1, st1⟩ := initO X0 hx hZ hown (hw _ (List.mem_of_getElem? (i := 37) rfl)) (hw _ (List.mem_of_getElem? (i := 17) rfl)) (hw _ (List.mem_of_getElem? (i := 18) rfl)) e0 (g := (mkF m 1 #[.val (.ref x0)] [(.ref x0)])) rfl (by rw [hml]; rfl) rfl (hb hby own_d5_1) (by decide) (W := 0) (by show 2 * 0 + _ ≤ _; exact Nat.le_of_eq rfl) (by decide)
  refine own_via (T' := T1) (g' := (mkF m 4 #[.val (.ref x0)] [])) st1 ?_
  refine own_retV X1 hx hlk hret (hb hby own_d5_4) (by decide) (by decide) ?_
  exact ⟨rfl, e1, rfl⟩
theorem own_d4_0 : decode jdk_39_method_1_code 0 = .ok (.aload_n 0, 1) := by decide +kernel
theorem own_d4_1 : decode jdk_39_method_1_code 1 = .ok (.invokespecial 1, 3) := by decide +kernel
theorem own_d4_4 : decode jdk_39_method_1_code 4 = .ok (.aload_n 0, 1) := by decide +kernel
theorem own_d4_5 : decode jdk_39_method_1_code 5 = .ok (.iconst 0, 1) := by decide +kernel
theorem own_d4_6 : decode jdk_39_method_1_code 6 = .ok (.putfield 7, 3) := by decide +kernel
theorem own_d4_9 : decode jdk_39_method_1_code 9 = .ok (.return_, 1) := by decide +kernel
theorem own_pn2 : plainName "java/util/AbstractList" = true := by first | (simp [plainName, overriddenIn]; done) | decide +kernel
theorem own_pd0 : parseMethodDescriptor "()V" = some ⟨[], none⟩ := by decide +kernel
set_option maxHeartbeats 40000000 in
theorem own_mt4_ef (m : MethodId) (x0 : Addr) : entryFrame m #[(.ref x0)] 1 = mkF m 0 #[.val (.ref x0)] [] := by first | (simp [entryFrame, mkF, argsToLocals, Value.category, maxLocals]; done) | rfl
set_option maxRecDepth 65536 in
set_option maxHeartbeats 40000000 in
theorem own_mt4 (l : Launch) (Z : State) (a0 : Array Value) (hw : ∀ d ∈ tables_1, d.before a0 Z = true) (x0 : Addr) (h0 : Heap) (n0 : Nat) (Z0 : n0 ≤ h0.size) (ge_x0 : n0 ≤ x0) (E_x0 : Exa Z h0 x0 "java/util/ArrayList") (F_modCount : Fld Z h0 x0 "java/util/AbstractList" "modCount" "I" (.int (0 : Int32))) (F_elementData : Fld Z h0 x0 "java/util/ArrayList" "elementData" "[Ljava/lang/Object;" .null) :
    own_Met l Z (⟨"java/util/AbstractList", "<init>", "()V"⟩ : MethodName) jdk_39_method_1_code 1 none ({ frames := 2, cells := 0, slots := 0, locals := 24 } : Room) #[(.ref x0)] h0 (fun v h L => v = none ∧ Fr n0 L ∧ Keep h0 h [x0] ∧ Exa Z h x0 "java/util/ArrayList" ∧ Fld Z h x0 "java/util/ArrayList" "elementData" "[Ljava/lang/Object;" .null) := by
  refine own_intro (plainFor_of_name own_pn2) ?_
  intro p e s m below meth c s₁ hx hby hml hown hnm hZ hret hlk X0 e0
  refine own_cast (own_mt4_ef m x0) ?_
  have N0 := Fr.nil n0
  have K0 : Keep h0 h0 [x0] := Keep.refl _ _
  refine own_via (T' := s₁) (g' := (mkF m 1 #[.val (.ref x0)] [(.ref x0)])) (fun t k => XS.aloadN X0.here hx rfl (hb hby own_d4_0) rfl rfl k) ?_
  obtain ⟨v1, T1, L1, X1, hQ1, st1⟩ := own_callSp (y := (⟨"java/util/AbstractCollection", "<init>", "()V"⟩ : MethodName)) (a := x0) (argsL := []) (rest := []) X0 hx hZ hown rfl (hw _ (List.mem_of_getElem? (i := 31) rfl)) (hw _ (List.mem_of_getElem? (i := 32) rfl)) (hw _ (List.mem_of_getElem? (i := 35) rfl)) (hw _ (List.mem_of_getElem? (i := 36) rfl)) (by decide) (own_mt5 l Z a0 hw x0 h0) e0 (W := 0) (by decide) (by decide) (g := (mkF m 1 #[.val (.ref x0)] [(.ref x0)])) rfl (by rw [hml]; rfl) (lenOf own_pd0 rfl) rfl (by show 2 * 0 + _ ≤ _; exact Nat.le_of_eq rfl) (hb hby own_d4_1) (by decide) (by decide)
  obtain ⟨rfl, e1, rfl⟩ := hQ1
  have N1 := Fr.app N0 (Fr.nil n0)
  refine own_via (T' := T1) (g' := (mkF m 4 #[.val (.ref x0)] [])) st1 ?_
  refine own_via (T' := T1) (g' := (mkF m 6 #[.val (.ref x0)] [(.int (0 : Int32)), (.ref x0)])) (fun t k => XS.aloadN X1.here hx rfl (hb hby own_d4_4) rfl rfl (XS.iconst X1.here hx rfl (hb hby own_d4_5) k)) ?_
  obtain ⟨T2, h2, X2, e2, W2, st2⟩ := putF X1 hx hZ hown (host := "") (Or.inl (hw _ (List.mem_of_getElem? (i := 38) rfl))) Via.refl e1 F_modCount E_x0 (Or.inl (hw _ (List.mem_of_getElem? (i := 39) rfl))) (hw _ (List.mem_of_getElem? (i := 20) rfl)) (ty := .int) (by decide) rfl rfl (g := (mkF m 6 #[.val (.ref x0)] [(.int (0 : Int32)), (.ref x0)])) rfl rfl (hb hby own_d4_6)
  have Fw2 := F_modCount.same W2
  have E_x0_at3 := E_x0.wr W2
  have F_elementData_at4 := F_elementData.other W2 (Or.inr (slot_ne (Or.inl (hw _ (List.mem_of_getElem? (i := 42) rfl))) (Or.inl (hw _ (List.mem_of_getElem? (i := 39) rfl))) (by decide) (t := (.array (.object "java/lang/Object"))) (t' := .int) (by decide) (by decide)))
  have N2 := Fr.snoc X2 N1 ge_x0
  have Z2 : n0 ≤ h2.size := Nat.le_trans Z0 (Nat.le_of_eq W2.size.symm)
  have K2 : Keep h0 h2 [x0] := K0.wr W2 (Or.inl (List.mem_of_getElem? (i := 0) rfl))
  refine own_via (T' := T2) (g' := (mkF m 9 #[.val (.ref x0)] [])) st2 ?_
  refine own_retV X2 hx hlk hret (hb hby own_d4_9) (by decide) (by decide) ?_
  rw [e2]; exact ⟨rfl, N2, K2, E_x0_at3, F_elementData_at4⟩
theorem own_d3_0 : decode jdk_38_method_2_code 0 = .ok (.aload_n 0, 1) := by decide +kernel
theorem own_d3_1 : decode jdk_38_method_2_code 1 = .ok (.invokespecial 1, 3) := by decide +kernel
theorem own_d3_4 : decode jdk_38_method_2_code 4 = .ok (.aload_n 0, 1) := by decide +kernel
theorem own_d3_5 : decode jdk_38_method_2_code 5 = .ok (.getstatic 39, 3) := by decide +kernel
theorem own_d3_8 : decode jdk_38_method_2_code 8 = .ok (.putfield 9, 3) := by decide +kernel
theorem own_d3_11 : decode jdk_38_method_2_code 11 = .ok (.return_, 1) := by decide +kernel
theorem own_pn3 : plainName "java/util/ArrayList" = true := by first | (simp [plainName, overriddenIn]; done) | decide +kernel
set_option maxHeartbeats 40000000 in
theorem own_mt3_ef (m : MethodId) (x0 : Addr) : entryFrame m #[(.ref x0)] 1 = mkF m 0 #[.val (.ref x0)] [] := by first | (simp [entryFrame, mkF, argsToLocals, Value.category, maxLocals]; done) | rfl
set_option maxRecDepth 65536 in
set_option maxHeartbeats 40000000 in
theorem own_mt3 (l : Launch) (Z : State) (a0 : Array Value) (hw : ∀ d ∈ tables_1, d.before a0 Z = true) (x0 : Addr) (dv : Value) (h0 : Heap) (n0 : Nat) (Z0 : n0 ≤ h0.size) (ge_x0 : n0 ≤ x0) (E_x0 : Exa Z h0 x0 "java/util/ArrayList") (F_modCount : Fld Z h0 x0 "java/util/AbstractList" "modCount" "I" (.int (0 : Int32))) (F_elementData : Fld Z h0 x0 "java/util/ArrayList" "elementData" "[Ljava/lang/Object;" .null) (S_de : Sta Z Z.heap "java/util/ArrayList" "DEFAULTCAPACITY_EMPTY_ELEMENTDATA" "[Ljava/lang/Object;" dv) (Ol : Old Z n0 h0) (hdn : narrow (.array (.object "java/lang/Object")) dv = dv) (hdf : fits (.array (.object "java/lang/Object")) dv = true) :
    own_Met l Z (⟨"java/util/ArrayList", "<init>", "()V"⟩ : MethodName) jdk_38_method_2_code 1 none ({ frames := 3, cells := 0, slots := 0, locals := 36 } : Room) #[(.ref x0)] h0 (fun v h L => v = none ∧ Fr n0 L ∧ Keep h0 h [x0] ∧ Exa Z h x0 "java/util/ArrayList") := by
  refine own_intro (plainFor_of_name own_pn3) ?_
  intro p e s m below meth c s₁ hx hby hml hown hnm hZ hret hlk X0 e0
  refine own_cast (own_mt3_ef m x0) ?_
  have N0 := Fr.nil n0
  have K0 : Keep h0 h0 [x0] := Keep.refl _ _
  refine own_via (T' := s₁) (g' := (mkF m 1 #[.val (.ref x0)] [(.ref x0)])) (fun t k => XS.aloadN X0.here hx rfl (hb hby own_d3_0) rfl rfl k) ?_
  obtain ⟨v1, T1, L1, X1, hQ1, st1⟩ := own_callSp (y := (⟨"java/util/AbstractList", "<init>", "()V"⟩ : MethodName)) (a := x0) (argsL := []) (rest := []) X0 hx hZ hown rfl (hw _ (List.mem_of_getElem? (i := 25) rfl)) (hw _ (List.mem_of_getElem? (i := 26) rfl)) (hw _ (List.mem_of_getElem? (i := 29) rfl)) (hw _ (List.mem_of_getElem? (i := 30) rfl)) (by decide) (own_mt4 l Z a0 hw x0 h0 n0 Z0 ge_x0 E_x0 F_modCount F_elementData) e0 (W := 0) (by decide) (by decide) (g := (mkF m 1 #[.val (.ref x0)] [(.ref x0)])) rfl (by rw [hml]; rfl) (lenOf own_pd0 rfl) rfl (by show 2 * 0 + _ ≤ _; exact Nat.le_of_eq rfl) (hb hby own_d3_1) (by decide) (by decide)
  obtain ⟨rfl, Nq1, K1q, G1_0, G1_1⟩ := hQ1
  have N1 := Fr.app N0 Nq1
  have Z1 : n0 ≤ T1.heap.size := Nat.le_trans Z0 K1q.1
  have K1 : Keep h0 T1.heap [x0] := K0.trans K1q (allS (Or.inl (List.mem_of_getElem? (i := 0) rfl)) all0)
  have E_x0_at2 := E_x0.keep K1q
  have Ol3 := Ol.keep K1q (allS ge_x0 all0)
  refine own_via (T' := T1) (g' := (mkF m 4 #[.val (.ref x0)] [])) st1 ?_
  refine own_via (T' := T1) (g' := (mkF m 5 #[.val (.ref x0)] [(.ref x0)])) (fun t k => XS.aloadN X1.here hx rfl (hb hby own_d3_4) rfl rfl k) ?_
  obtain ⟨T4, X4, e4, st4⟩ := getS2 X1 hx hZ hown (host := "") (Or.inl (hw _ (List.mem_of_getElem? (i := 40) rfl))) Via.refl rfl (S_de.ext Ol3.2) (g := (mkF m 5 #[.val (.ref x0)] [(.ref x0)])) rfl (hb hby own_d3_5)
  refine own_via (T' := T4) (g' := (mkF m 8 #[.val (.ref x0)] [dv, (.ref x0)])) st4 ?_
  obtain ⟨T5, h5, X5, e5, W5, st5⟩ := putF X4 hx hZ hown (host := "") (Or.inl (hw _ (List.mem_of_getElem? (i := 41) rfl))) Via.refl e4 G1_1 G1_0 (Or.inl (hw _ (List.mem_of_getElem? (i := 42) rfl))) (hw _ (List.mem_of_getElem? (i := 20) rfl)) (ty := (.array (.object "java/lang/Object"))) (by decide) hdn hdf (g := (mkF m 8 #[.val (.ref x0)] [dv, (.ref x0)])) rfl rfl (hb hby own_d3_8)
  have Fw5 := G1_1.same W5
  have G1_0_at6 := G1_0.wr W5
  have Ol7 := Ol3.wr W5 ge_x0
  have N5 := Fr.snoc X5 N1 ge_x0
  have Z5 : n0 ≤ h5.size := Nat.le_trans Z1 (Nat.le_of_eq W5.size.symm)
  have K5 : Keep h0 h5 [x0] := K1.wr W5 (Or.inl (List.mem_of_getElem? (i := 0) rfl))
  refine own_via (T' := T5) (g' := (mkF m 11 #[.val (.ref x0)] [])) st5 ?_
  refine own_retV X5 hx hlk hret (hb hby own_d3_11) (by decide) (by decide) ?_
  rw [e5]; exact ⟨rfl, N5, K5, G1_0_at6⟩
theorem own_d1_0 : decode prog_17_method_1_code 0 = .ok (.aload_n 0, 1) := by decide +kernel
theorem own_d1_1 : decode prog_17_method_1_code 1 = .ok (.invokespecial 1, 3) := by decide +kernel
theorem own_d1_4 : decode prog_17_method_1_code 4 = .ok (.aload_n 0, 1) := by decide +kernel
theorem own_d1_5 : decode prog_17_method_1_code 5 = .ok (.new 7, 3) := by decide +kernel
theorem own_d1_8 : decode prog_17_method_1_code 8 = .ok (.dup, 1) := by decide +kernel
theorem own_d1_9 : decode prog_17_method_1_code 9 = .ok (.invokespecial 9, 3) := by decide +kernel
theorem own_d1_12 : decode prog_17_method_1_code 12 = .ok (.putfield 10, 3) := by decide +kernel
theorem own_d1_15 : decode prog_17_method_1_code 15 = .ok (.return_, 1) := by decide +kernel
theorem own_pn4 : plainName "com/example/recurve/recurve/http/HttpFields" = true := by first | (simp [plainName, overriddenIn]; done) | decide +kernel
set_option maxHeartbeats 40000000 in
theorem own_mt1_ef (m : MethodId) (x0 : Addr) : entryFrame m #[(.ref x0)] 1 = mkF m 0 #[.val (.ref x0)] [] := by first | (simp [entryFrame, mkF, argsToLocals, Value.category, maxLocals]; done) | rfl
set_option maxRecDepth 65536 in
set_option maxHeartbeats 40000000 in
theorem own_mt1 (l : Launch) (Z : State) (a0 : Array Value) (hw : ∀ d ∈ tables_1, d.before a0 Z = true) (x0 : Addr) (dv : Value) (h0 : Heap) (n0 : Nat) (Z0 : n0 ≤ h0.size) (ge_x0 : n0 ≤ x0) (E_x0 : Exa Z h0 x0 "com/example/recurve/recurve/http/HttpFields") (F_fields : Fld Z h0 x0 "com/example/recurve/recurve/http/HttpFields" "fields" "Ljava/util/List;" .null) (S_de : Sta Z Z.heap "java/util/ArrayList" "DEFAULTCAPACITY_EMPTY_ELEMENTDATA" "[Ljava/lang/Object;" dv) (Ol : Old Z n0 h0) (hdn : narrow (.array (.object "java/lang/Object")) dv = dv) (hdf : fits (.array (.object "java/lang/Object")) dv = true) :
    own_Met l Z (⟨"com/example/recurve/recurve/http/HttpFields", "<init>", "()V"⟩ : MethodName) prog_17_method_1_code 1 none ({ frames := 4, cells := 1, slots := 3, locals := 50 } : Room) #[(.ref x0)] h0 (fun v h L => v = none ∧ Fr n0 L ∧ Keep h0 h [x0] ∧ Exa Z h x0 "com/example/recurve/recurve/http/HttpFields") := by
  refine own_intro (plainFor_of_name own_pn4) ?_
  intro p e s m below meth c s₁ hx hby hml hown hnm hZ hret hlk X0 e0
  refine own_cast (own_mt1_ef m x0) ?_
  have N0 := Fr.nil n0
  have K0 : Keep h0 h0 [x0] := Keep.refl _ _
  refine own_via (T' := s₁) (g' := (mkF m 1 #[.val (.ref x0)] [(.ref x0)])) (fun t k => XS.aloadN X0.here hx rfl (hb hby own_d1_0) rfl rfl k) ?_
  obtain ⟨T1, X1, e1, st1⟩ := initO X0 hx hZ hown (hw _ (List.mem_of_getElem? (i := 16) rfl)) (hw _ (List.mem_of_getElem? (i := 17) rfl)) (hw _ (List.mem_of_getElem? (i := 18) rfl)) e0 (g := (mkF m 1 #[.val (.ref x0)] [(.ref x0)])) rfl (by rw [hml]; rfl) rfl (hb hby own_d1_1) (by decide) (W := 0) (by show 2 * 0 + _ ≤ _; exact Nat.le_of_eq rfl) (by decide)
  refine own_via (T' := T1) (g' := (mkF m 4 #[.val (.ref x0)] [])) st1 ?_
  refine own_via (T' := T1) (g' := (mkF m 5 #[.val (.ref x0)] [(.ref x0)])) (fun t k => XS.aloadN X1.here hx rfl (hb hby own_d1_4) rfl rfl k) ?_
  obtain ⟨T2, h2, X2, e2, E2, A2, D2, -, st2⟩ := newO X1 hx hZ hown (hw _ (List.mem_of_getElem? (i := 19) rfl)) (hw _ (List.mem_of_getElem? (i := 20) rfl)) (hw _ (List.mem_of_getElem? (i := 21) rfl)) e1 (g := (mkF m 5 #[.val (.ref x0)] [(.ref x0)])) rfl (hb hby own_d1_5) (by decide) (by decide)
  obtain ⟨b2, g2⟩ : ∃ z, z = h0.size := ⟨_, rfl⟩
  rw [← g2] at A2 D2 st2
  have bd_b2 : h0.size ≤ b2 := Nat.le_of_eq g2.symm
  have ne_x0_b2 : x0 ≠ b2 := own_ne_of E_x0.lt bd_b2
  have ge_b2 : n0 ≤ b2 := Nat.le_trans Z0 bd_b2
  have Z2 : n0 ≤ h2.size := Nat.le_trans Z0 E2.1
  have bo_b2 : h0.size ≤ b2 := Nat.le_trans K0.1 bd_b2
  have K2 : Keep h0 h2 [x0] := K0.ext E2
  have E_x0_at3 := E_x0.ext E2
  have F_fields_at4 := F_fields.ext E2
  have Ol5 := Ol.ext E2
  have FmodCount_2 : Fld Z h2 b2 "java/util/AbstractList" "modCount" "I" (.int (0 : Int32)) := D2 (Or.inl (hw _ (List.mem_of_getElem? (i := 39) rfl))) (ty := .int) (by decide)
  have FelementData_2 : Fld Z h2 b2 "java/util/ArrayList" "elementData" "[Ljava/lang/Object;" .null := D2 (Or.inl (hw _ (List.mem_of_getElem? (i := 42) rfl))) (ty := (.array (.object "java/lang/Object"))) (by decide)
  refine own_via (T' := T2) (g' := (mkF m 8 #[.val (.ref x0)] [(.ref b2), (.ref x0)])) st2 ?_
  refine own_via (T' := T2) (g' := (mkF m 9 #[.val (.ref x0)] [(.ref b2), (.ref b2), (.ref x0)])) (fun t k => XS.dup X2.here hx rfl (hb hby own_d1_8) rfl rfl k) ?_
  obtain ⟨v6, T6, L6, X6, hQ6, st6⟩ := own_callSp (y := (⟨"java/util/ArrayList", "<init>", "()V"⟩ : MethodName)) (a := b2) (argsL := []) (rest := [(.ref b2), (.ref x0)]) X2 hx hZ hown rfl (hw _ (List.mem_of_getElem? (i := 22) rfl)) (hw _ (List.mem_of_getElem? (i := 23) rfl)) (hw _ (List.mem_of_getElem? (i := 21) rfl)) (hw _ (List.mem_of_getElem? (i := 24) rfl)) (by decide) (own_mt3 l Z a0 hw b2 dv h2 n0 Z2 ge_b2 A2 FmodCount_2 FelementData_2 S_de Ol5 hdn hdf) e2 (W := 2) (by decide) (by decide) (g := (mkF m 9 #[.val (.ref x0)] [(.ref b2), (.ref b2), (.ref x0)])) rfl (by rw [hml]; rfl) (lenOf own_pd0 rfl) rfl (by show 2 * 0 + _ ≤ _; exact Nat.le_of_eq rfl) (hb hby own_d1_9) (by decide) (by decide)
  obtain ⟨rfl, Nq6, K6q, G6_0⟩ := hQ6
  have N6 := Fr.app N0 Nq6
  have Z6 : n0 ≤ T6.heap.size := Nat.le_trans Z2 K6q.1
  have K6 : Keep h0 T6.heap [x0] := K2.trans K6q (allS (Or.inr bo_b2) all0)
  have E_x0_at7 := E_x0_at3.keep K6q
  have F_fields_at8 := F_fields_at4.keep K6q (ninS ne_x0_b2 nin0)
  have Ol9 := Ol5.keep K6q (allS ge_b2 all0)
  have A2_at10 := A2.keep K6q
  refine own_via (T' := T6) (g' := (mkF m 12 #[.val (.ref x0)] [(.ref b2), (.ref x0)])) st6 ?_
  obtain ⟨T11, h11, X11, e11, W11, st11⟩ := putF X6 hx hZ hown (host := "") (Or.inl (hw _ (List.mem_of_getElem? (i := 43) rfl))) Via.refl rfl F_fields_at8 E_x0_at7 (Or.inr ⟨(hw _ (List.mem_of_getElem? (i := 44) rfl)), rfl, hnm⟩) (hw _ (List.mem_of_getElem? (i := 11) rfl)) (ty := (.object "java/util/List")) (by decide) rfl rfl (g := (mkF m 12 #[.val (.ref x0)] [(.ref b2), (.ref x0)])) rfl rfl (hb hby own_d1_12)
  have Fw11 := F_fields_at8.same W11
  have E_x0_at12 := E_x0_at7.wr W11
  have Ol13 := Ol9.wr W11 ge_x0
  have G6_0_at14 := G6_0.wr W11
  have N11 := Fr.snoc X11 N6 ge_x0
  have Z11 : n0 ≤ h11.size := Nat.le_trans Z6 (Nat.le_of_eq W11.size.symm)
  have K11 : Keep h0 h11 [x0] := K6.wr W11 (Or.inl (List.mem_of_getElem? (i := 0) rfl))
  refine own_via (T' := T11) (g' := (mkF m 15 #[.val (.ref x0)] [])) st11 ?_
  refine own_retV X11 hx hlk hret (hb hby own_d1_15) (by decide) (by decide) ?_
  rw [e11]; exact ⟨rfl, N11, K11, E_x0_at12⟩
theorem own_d11_0 : decode prog_20_method_1_code 0 = .ok (.aload_n 0, 1) := by decide +kernel
theorem own_d11_1 : decode prog_20_method_1_code 1 = .ok (.invokespecial 1, 3) := by decide +kernel
theorem own_d11_4 : decode prog_20_method_1_code 4 = .ok (.aload_n 0, 1) := by decide +kernel
theorem own_d11_5 : decode prog_20_method_1_code 5 = .ok (.aload_n 1, 1) := by decide +kernel
theorem own_d11_6 : decode prog_20_method_1_code 6 = .ok (.putfield 7, 3) := by decide +kernel
theorem own_d11_9 : decode prog_20_method_1_code 9 = .ok (.aload_n 0, 1) := by decide +kernel
theorem own_d11_10 : decode prog_20_method_1_code 10 = .ok (.aload_n 2, 1) := by decide +kernel
theorem own_d11_11 : decode prog_20_method_1_code 11 = .ok (.putfield 13, 3) := by decide +kernel
theorem own_d11_14 : decode prog_20_method_1_code 14 = .ok (.aload_n 0, 1) := by decide +kernel
theorem own_d11_15 : decode prog_20_method_1_code 15 = .ok (.aload_n 3, 1) := by decide +kernel
theorem own_d11_16 : decode prog_20_method_1_code 16 = .ok (.putfield 16, 3) := by decide +kernel
theorem own_d11_19 : decode prog_20_method_1_code 19 = .ok (.aload_n 0, 1) := by decide +kernel
theorem own_d11_20 : decode prog_20_method_1_code 20 = .ok (.aload 4, 2) := by decide +kernel
theorem own_d11_22 : decode prog_20_method_1_code 22 = .ok (.putfield 19, 3) := by decide +kernel
theorem own_d11_25 : decode prog_20_method_1_code 25 = .ok (.aload_n 0, 1) := by decide +kernel
theorem own_d11_26 : decode prog_20_method_1_code 26 = .ok (.lload 5, 2) := by decide +kernel
theorem own_d11_28 : decode prog_20_method_1_code 28 = .ok (.putfield 23, 3) := by decide +kernel
theorem own_d11_31 : decode prog_20_method_1_code 31 = .ok (.return_, 1) := by decide +kernel
theorem own_pn5 : plainName "com/example/recurve/recurve/http/HttpRequestHead" = true := by first | (simp [plainName, overriddenIn]; done) | decide +kernel
set_option maxHeartbeats 40000000 in
theorem own_mt11_ef (m : MethodId) (x0 : Addr) (x1 : Addr) (x2 : Addr) (x3 : Addr) (x4 : Addr) (x5 : Int64) : entryFrame m #[(.ref x0), (.ref x1), (.ref x2), (.ref x3), (.ref x4), (.long x5)] 7 = mkF m 0 #[.val (.ref x0), .val (.ref x1), .val (.ref x2), .val (.ref x3), .val (.ref x4), .val (.long x5), .second] [] := by first | (simp [entryFrame, mkF, argsToLocals, Value.category, maxLocals]; done) | rfl
set_option maxRecDepth 65536 in
set_option maxHeartbeats 40000000 in
theorem own_mt11 (l : Launch) (Z : State) (a0 : Array Value) (hw : ∀ d ∈ tables_1, d.before a0 Z = true) (x0 : Addr) (x1 : Addr) (x2 : Addr) (x3 : Addr) (x4 : Addr) (x5 : Int64) (h0 : Heap) (n0 : Nat) (Z0 : n0 ≤ h0.size) (ge_x0 : n0 ≤ x0) (E_x0 : Exa Z h0 x0 "com/example/recurve/recurve/http/HttpRequestHead") (F_method : Fld Z h0 x0 "com/example/recurve/recurve/http/HttpRequestHead" "method" "Ljava/lang/String;" .null) (F_target : Fld Z h0 x0 "com/example/recurve/recurve/http/HttpRequestHead" "target" "Ljava/lang/String;" .null) (F_protocol : Fld Z h0 x0 "com/example/recurve/recurve/http/HttpRequestHead" "protocol" "Ljava/lang/String;" .null) (F_fields : Fld Z h0 x0 "com/example/recurve/recurve/http/HttpRequestHead" "fields" "Lcom/example/recurve/recurve/http/HttpFields;" .null) (F_contentLength : Fld Z h0 x0 "com/example/recurve/recurve/http/HttpRequestHead" "contentLength" "J" (.long (0 : Int64))) :
    own_Met l Z (⟨"com/example/recurve/recurve/http/HttpRequestHead", "<init>", "(Ljava/lang/String;Ljava/lang/String;Ljava/lang/String;Lcom/example/recurve/recurve/http/HttpFields;J)V"⟩ : MethodName) prog_20_method_1_code 7 none ({ frames := 2, cells := 0, slots := 0, locals := 24 } : Room) #[(.ref x0), (.ref x1), (.ref x2), (.ref x3), (.ref x4), (.long x5)] h0 (fun v h L => v = none ∧ Fr n0 L ∧ Keep h0 h [x0] ∧ Exa Z h x0 "com/example/recurve/recurve/http/HttpRequestHead" ∧ Fld Z h x0 "com/example/recurve/recurve/http/HttpRequestHead" "contentLength" "J" (.long x5)) := by
  refine own_intro (plainFor_of_name own_pn5) ?_
  intro p e s m below meth c s₁ hx hby hml hown hnm hZ hret hlk X0 e0
  refine own_cast (own_mt11_ef m x0 x1 x2 x3 x4 x5) ?_
  have N0 := Fr.nil n0
  have K0 : Keep h0 h0 [x0] := Keep.refl _ _
  refine own_via (T' := s₁) (g' := (mkF m 1 #[.val (.ref x0), .val (.ref x1), .val (.ref x2), .val (.ref x3), .val (.ref x4), .val (.long x5), .second] [(.ref x0)])) (fun t k => XS.aloadN X0.here hx rfl (hb hby own_d11_0) rfl rfl k) ?_
  obtain ⟨v1, T1, L1, X1, hQ1, st1⟩ := own_callSp (y := (⟨"java/lang/Record", "<init>", "()V"⟩ : MethodName)) (a := x0) (argsL := []) (rest := []) X0 hx hZ hown rfl (hw _ (List.mem_of_getElem? (i := 74) rfl)) (hw _ (List.mem_of_getElem? (i := 75) rfl)) (hw _ (List.mem_of_getElem? (i := 77) rfl)) (hw _ (List.mem_of_getElem? (i := 78) rfl)) (by decide) (own_mt12 l Z a0 hw x0 h0) e0 (W := 0) (by decide) (by decide) (g := (mkF m 1 #[.val (.ref x0), .val (.ref x1), .val (.ref x2), .val (.ref x3), .val (.ref x4), .val (.long x5), .second] [(.ref x0)])) rfl (by rw [hml]; rfl) (lenOf own_pd0 rfl) rfl (by show 2 * 0 + _ ≤ _; exact Nat.le_of_eq rfl) (hb hby own_d11_1) (by decide) (by decide)
  obtain ⟨rfl, e1, rfl⟩ := hQ1
  have N1 := Fr.app N0 (Fr.nil n0)
  refine own_via (T' := T1) (g' := (mkF m 4 #[.val (.ref x0), .val (.ref x1), .val (.ref x2), .val (.ref x3), .val (.ref x4), .val (.long x5), .second] [])) st1 ?_
  refine own_via (T' := T1) (g' := (mkF m 6 #[.val (.ref x0), .val (.ref x1), .val (.ref x2), .val (.ref x3), .val (.ref x4), .val (.long x5), .second] [(.ref x1), (.ref x0)])) (fun t k => XS.aloadN X1.here hx rfl (hb hby own_d11_4) rfl rfl (XS.aloadN X1.here hx rfl (hb hby own_d11_5) rfl rfl k)) ?_
  obtain ⟨T2, h2, X2, e2, W2, st2⟩ := putF X1 hx hZ hown (host := "") (Or.inl (hw _ (List.mem_of_getElem? (i := 80) rfl))) Via.refl e1 F_method E_x0 (Or.inr ⟨(hw _ (List.mem_of_getElem? (i := 81) rfl)), rfl, hnm⟩) (hw _ (List.mem_of_getElem? (i := 46) rfl)) (ty := (.object "java/lang/String")) (by decide) rfl rfl (g := (mkF m 6 #[.val (.ref x0), .val (.ref x1), .val (.ref x2), .val (.ref x3), .val (.ref x4), .val (.long x5), .second] [(.ref x1), (.ref x0)])) rfl rfl (hb hby own_d11_6)
  have Fw2 := F_method.same W2
  have E_x0_at3 := E_x0.wr W2
  have F_target_at4 := F_target.other W2 (Or.inr (slot_ne (Or.inr (hw _ (List.mem_of_getElem? (i := 83) rfl))) (Or.inr (hw _ (List.mem_of_getElem? (i := 81) rfl))) (by decide) (t := (.object "java/lang/String")) (t' := (.object "java/lang/String")) (by decide) (by decide)))
  have F_protocol_at5 := F_protocol.other W2 (Or.inr (slot_ne (Or.inr (hw _ (List.mem_of_getElem? (i := 85) rfl))) (Or.inr (hw _ (List.mem_of_getElem? (i := 81) rfl))) (by decide) (t := (.object "java/lang/String")) (t' := (.object "java/lang/String")) (by decide) (by decide)))
  have F_fields_at6 := F_fields.other W2 (Or.inr (slot_ne (Or.inr (hw _ (List.mem_of_getElem? (i := 87) rfl))) (Or.inr (hw _ (List.mem_of_getElem? (i := 81) rfl))) (by decide) (t := (.object "com/example/recurve/recurve/http/HttpFields")) (t' := (.object "java/lang/String")) (by decide) (by decide)))
  have F_contentLength_at7 := F_contentLength.other W2 (Or.inr (slot_ne (Or.inr (hw _ (List.mem_of_getElem? (i := 89) rfl))) (Or.inr (hw _ (List.mem_of_getElem? (i := 81) rfl))) (by decide) (t := .long) (t' := (.object "java/lang/String")) (by decide) (by decide)))
  have N2 := Fr.snoc X2 N1 ge_x0
  have Z2 : n0 ≤ h2.size := Nat.le_trans Z0 (Nat.le_of_eq W2.size.symm)
  have K2 : Keep h0 h2 [x0] := K0.wr W2 (Or.inl (List.mem_of_getElem? (i := 0) rfl))
  refine own_via (T' := T2) (g' := (mkF m 9 #[.val (.ref x0), .val (.ref x1), .val (.ref x2), .val (.ref x3), .val (.ref x4), .val (.long x5), .second] [])) st2 ?_
  refine own_via (T' := T2) (g' := (mkF m 11 #[.val (.ref x0), .val (.ref x1), .val (.ref x2), .val (.ref x3), .val (.ref x4), .val (.long x5), .second] [(.ref x2), (.ref x0)])) (fun t k => XS.aloadN X2.here hx rfl (hb hby own_d11_9) rfl rfl (XS.aloadN X2.here hx rfl (hb hby own_d11_10) rfl rfl k)) ?_
  obtain ⟨T8, h8, X8, e8, W8, st8⟩ := putF X2 hx hZ hown (host := "") (Or.inl (hw _ (List.mem_of_getElem? (i := 82) rfl))) Via.refl e2 F_target_at4 E_x0_at3 (Or.inr ⟨(hw _ (List.mem_of_getElem? (i := 83) rfl)), rfl, hnm⟩) (hw _ (List.mem_of_getElem? (i := 46) rfl)) (ty := (.object "java/lang/String")) (by decide) rfl rfl (g := (mkF m 11 #[.val (.ref x0), .val (.ref x1), .val (.ref x2), .val (.ref x3), .val (.ref x4), .val (.long x5), .second] [(.ref x2), (.ref x0)])) rfl rfl (hb hby own_d11_11)
  have Fw8 := F_target_at4.same W8
  have E_x0_at9 := E_x0_at3.wr W8
  have Fw2_at10 := Fw2.other W8 (Or.inr (slot_ne (Or.inr (hw _ (List.mem_of_getElem? (i := 81) rfl))) (Or.inr (hw _ (List.mem_of_getElem? (i := 83) rfl))) (by decide) (t := (.object "java/lang/String")) (t' := (.object "java/lang/String")) (by decide) (by decide)))
  have F_protocol_at11 := F_protocol_at5.other W8 (Or.inr (slot_ne (Or.inr (hw _ (List.mem_of_getElem? (i := 85) rfl))) (Or.inr (hw _ (List.mem_of_getElem? (i := 83) rfl))) (by decide) (t := (.object "java/lang/String")) (t' := (.object "java/lang/String")) (by decide) (by decide)))
  have F_fields_at12 := F_fields_at6.other W8 (Or.inr (slot_ne (Or.inr (hw _ (List.mem_of_getElem? (i := 87) rfl))) (Or.inr (hw _ (List.mem_of_getElem? (i := 83) rfl))) (by decide) (t := (.object "com/example/recurve/recurve/http/HttpFields")) (t' := (.object "java/lang/String")) (by decide) (by decide)))
  have F_contentLength_at13 := F_contentLength_at7.other W8 (Or.inr (slot_ne (Or.inr (hw _ (List.mem_of_getElem? (i := 89) rfl))) (Or.inr (hw _ (List.mem_of_getElem? (i := 83) rfl))) (by decide) (t := .long) (t' := (.object "java/lang/String")) (by decide) (by decide)))
  have N8 := Fr.snoc X8 N2 ge_x0
  have Z8 : n0 ≤ h8.size := Nat.le_trans Z2 (Nat.le_of_eq W8.size.symm)
  have K8 : Keep h0 h8 [x0] := K2.wr W8 (Or.inl (List.mem_of_getElem? (i := 0) rfl))
  refine own_via (T' := T8) (g' := (mkF m 14 #[.val (.ref x0), .val (.ref x1), .val (.ref x2), .val (.ref x3), .val (.ref x4), .val (.long x5), .second] [])) st8 ?_
  refine own_via (T' := T8) (g' := (mkF m 16 #[.val (.ref x0), .val (.ref x1), .val (.ref x2), .val (.ref x3), .val (.ref x4), .val (.long x5), .second] [(.ref x3), (.ref x0)])) (fun t k => XS.aloadN X8.here hx rfl (hb hby own_d11_14) rfl rfl (XS.aloadN X8.here hx rfl (hb hby own_d11_15) rfl rfl k)) ?_
  obtain ⟨T14, h14, X14, e14, W14, st14⟩ := putF X8 hx hZ hown (host := "") (Or.inl (hw _ (List.mem_of_getElem? (i := 84) rfl))) Via.refl e8 F_protocol_at11 E_x0_at9 (Or.inr ⟨(hw _ (List.mem_of_getElem? (i := 85) rfl)), rfl, hnm⟩) (hw _ (List.mem_of_getElem? (i := 46) rfl)) (ty := (.object "java/lang/String")) (by decide) rfl rfl (g := (mkF m 16 #[.val (.ref x0), .val (.ref x1), .val (.ref x2), .val (.ref x3), .val (.ref x4), .val (.long x5), .second] [(.ref x3), (.ref x0)])) rfl rfl (hb hby own_d11_16)
  have Fw14 := F_protocol_at11.same W14
  have E_x0_at15 := E_x0_at9.wr W14
  have Fw2_at16 := Fw2_at10.other W14 (Or.inr (slot_ne (Or.inr (hw _ (List.mem_of_getElem? (i := 81) rfl))) (Or.inr (hw _ (List.mem_of_getElem? (i := 85) rfl))) (by decide) (t := (.object "java/lang/String")) (t' := (.object "java/lang/String")) (by decide) (by decide)))
  have Fw8_at17 := Fw8.other W14 (Or.inr (slot_ne (Or.inr (hw _ (List.mem_of_getElem? (i := 83) rfl))) (Or.inr (hw _ (List.mem_of_getElem? (i := 85) rfl))) (by decide) (t := (.object "java/lang/String")) (t' := (.object "java/lang/String")) (by decide) (by decide)))
  have F_fields_at18 := F_fields_at12.other W14 (Or.inr (slot_ne (Or.inr (hw _ (List.mem_of_getElem? (i := 87) rfl))) (Or.inr (hw _ (List.mem_of_getElem? (i := 85) rfl))) (by decide) (t := (.object "com/example/recurve/recurve/http/HttpFields")) (t' := (.object "java/lang/String")) (by decide) (by decide)))
  have F_contentLength_at19 := F_contentLength_at13.other W14 (Or.inr (slot_ne (Or.inr (hw _ (List.mem_of_getElem? (i := 89) rfl))) (Or.inr (hw _ (List.mem_of_getElem? (i := 85) rfl))) (by decide) (t := .long) (t' := (.object "java/lang/String")) (by decide) (by decide)))
  have N14 := Fr.snoc X14 N8 ge_x0
  have Z14 : n0 ≤ h14.size := Nat.le_trans Z8 (Nat.le_of_eq W14.size.symm)
  have K14 : Keep h0 h14 [x0] := K8.wr W14 (Or.inl (List.mem_of_getElem? (i := 0) rfl))
  refine own_via (T' := T14) (g' := (mkF m 19 #[.val (.ref x0), .val (.ref x1), .val (.ref x2), .val (.ref x3), .val (.ref x4), .val (.long x5), .second] [])) st14 ?_
  refine own_via (T' := T14) (g' := (mkF m 22 #[.val (.ref x0), .val (.ref x1), .val (.ref x2), .val (.ref x3), .val (.ref x4), .val (.long x5), .second] [(.ref x4), (.ref x0)])) (fun t k => XS.aloadN X14.here hx rfl (hb hby own_d11_19) rfl rfl (XS.aload X14.here hx rfl (hb hby own_d11_20) rfl rfl k)) ?_
  obtain ⟨T20, h20, X20, e20, W20, st20⟩ := putF X14 hx hZ hown (host := "") (Or.inl (hw _ (List.mem_of_getElem? (i := 86) rfl))) Via.refl e14 F_fields_at18 E_x0_at15 (Or.inr ⟨(hw _ (List.mem_of_getElem? (i := 87) rfl)), rfl, hnm⟩) (hw _ (List.mem_of_getElem? (i := 46) rfl)) (ty := (.object "com/example/recurve/recurve/http/HttpFields")) (by decide) rfl rfl (g := (mkF m 22 #[.val (.ref x0), .val (.ref x1), .val (.ref x2), .val (.ref x3), .val (.ref x4), .val (.long x5), .second] [(.ref x4), (.ref x0)])) rfl rfl (hb hby own_d11_22)
  have Fw20 := F_fields_at18.same W20
  have E_x0_at21 := E_x0_at15.wr W20
  have Fw2_at22 := Fw2_at16.other W20 (Or.inr (slot_ne (Or.inr (hw _ (List.mem_of_getElem? (i := 81) rfl))) (Or.inr (hw _ (List.mem_of_getElem? (i := 87) rfl))) (by decide) (t := (.object "java/lang/String")) (t' := (.object "com/example/recurve/recurve/http/HttpFields")) (by decide) (by decide)))
  have Fw8_at23 := Fw8_at17.other W20 (Or.inr (slot_ne (Or.inr (hw _ (List.mem_of_getElem? (i := 83) rfl))) (Or.inr (hw _ (List.mem_of_getElem? (i := 87) rfl))) (by decide) (t := (.object "java/lang/String")) (t' := (.object "com/example/recurve/recurve/http/HttpFields")) (by decide) (by decide)))
  have Fw14_at24 := Fw14.other W20 (Or.inr (slot_ne (Or.inr (hw _ (List.mem_of_getElem? (i := 85) rfl))) (Or.inr (hw _ (List.mem_of_getElem? (i := 87) rfl))) (by decide) (t := (.object "java/lang/String")) (t' := (.object "com/example/recurve/recurve/http/HttpFields")) (by decide) (by decide)))
  have F_contentLength_at25 := F_contentLength_at19.other W20 (Or.inr (slot_ne (Or.inr (hw _ (List.mem_of_getElem? (i := 89) rfl))) (Or.inr (hw _ (List.mem_of_getElem? (i := 87) rfl))) (by decide) (t := .long) (t' := (.object "com/example/recurve/recurve/http/HttpFields")) (by decide) (by decide)))
  have N20 := Fr.snoc X20 N14 ge_x0
  have Z20 : n0 ≤ h20.size := Nat.le_trans Z14 (Nat.le_of_eq W20.size.symm)
  have K20 : Keep h0 h20 [x0] := K14.wr W20 (Or.inl (List.mem_of_getElem? (i := 0) rfl))
  refine own_via (T' := T20) (g' := (mkF m 25 #[.val (.ref x0), .val (.ref x1), .val (.ref x2), .val (.ref x3), .val (.ref x4), .val (.long x5), .second] [])) st20 ?_
  refine own_via (T' := T20) (g' := (mkF m 28 #[.val (.ref x0), .val (.ref x1), .val (.ref x2), .val (.ref x3), .val (.ref x4), .val (.long x5), .second] [(.long x5), (.ref x0)])) (fun t k => XS.aloadN X20.here hx rfl (hb hby own_d11_25) rfl rfl (XS.lload X20.here hx rfl (hb hby own_d11_26) rfl k)) ?_
  obtain ⟨T26, h26, X26, e26, W26, st26⟩ := putF X20 hx hZ hown (host := "") (Or.inl (hw _ (List.mem_of_getElem? (i := 88) rfl))) Via.refl e20 F_contentLength_at25 E_x0_at21 (Or.inr ⟨(hw _ (List.mem_of_getElem? (i := 89) rfl)), rfl, hnm⟩) (hw _ (List.mem_of_getElem? (i := 46) rfl)) (ty := .long) (by decide) rfl rfl (g := (mkF m 28 #[.val (.ref x0), .val (.ref x1), .val (.ref x2), .val (.ref x3), .val (.ref x4), .val (.long x5), .second] [(.long x5), (.ref x0)])) rfl rfl (hb hby own_d11_28)
  have Fw26 := F_contentLength_at25.same W26
  have E_x0_at27 := E_x0_at21.wr W26
  have Fw2_at28 := Fw2_at22.other W26 (Or.inr (slot_ne (Or.inr (hw _ (List.mem_of_getElem? (i := 81) rfl))) (Or.inr (hw _ (List.mem_of_getElem? (i := 89) rfl))) (by decide) (t := (.object "java/lang/String")) (t' := .long) (by decide) (by decide)))
  have Fw8_at29 := Fw8_at23.other W26 (Or.inr (slot_ne (Or.inr (hw _ (List.mem_of_getElem? (i := 83) rfl))) (Or.inr (hw _ (List.mem_of_getElem? (i := 89) rfl))) (by decide) (t := (.object "java/lang/String")) (t' := .long) (by decide) (by decide)))
  have Fw14_at30 := Fw14_at24.other W26 (Or.inr (slot_ne (Or.inr (hw _ (List.mem_of_getElem? (i := 85) rfl))) (Or.inr (hw _ (List.mem_of_getElem? (i := 89) rfl))) (by decide) (t := (.object "java/lang/String")) (t' := .long) (by decide) (by decide)))
  have Fw20_at31 := Fw20.other W26 (Or.inr (slot_ne (Or.inr (hw _ (List.mem_of_getElem? (i := 87) rfl))) (Or.inr (hw _ (List.mem_of_getElem? (i := 89) rfl))) (by decide) (t := (.object "com/example/recurve/recurve/http/HttpFields")) (t' := .long) (by decide) (by decide)))
  have N26 := Fr.snoc X26 N20 ge_x0
  have Z26 : n0 ≤ h26.size := Nat.le_trans Z20 (Nat.le_of_eq W26.size.symm)
  have K26 : Keep h0 h26 [x0] := K20.wr W26 (Or.inl (List.mem_of_getElem? (i := 0) rfl))
  refine own_via (T' := T26) (g' := (mkF m 31 #[.val (.ref x0), .val (.ref x1), .val (.ref x2), .val (.ref x3), .val (.ref x4), .val (.long x5), .second] [])) st26 ?_
  refine own_retV X26 hx hlk hret (hb hby own_d11_31) (by decide) (by decide) ?_
  rw [e26]; exact ⟨rfl, N26, K26, E_x0_at27, Fw26⟩
theorem own_d13_0 : decode prog_20_method_2_code 0 = .ok (.aload_n 0, 1) := by decide +kernel
theorem own_d13_1 : decode prog_20_method_2_code 1 = .ok (.getfield 23, 3) := by decide +kernel
theorem own_d13_4 : decode prog_20_method_2_code 4 = .ok (.lconst 0, 1) := by decide +kernel
theorem own_d13_5 : decode prog_20_method_2_code 5 = .ok (.lcmp, 1) := by decide +kernel
theorem own_d13_6 : decode prog_20_method_2_code 6 = .ok (.ifCond .ge 7, 3) := by decide +kernel
theorem own_d13_9 : decode prog_20_method_2_code 9 = .ok (.iconst 1, 1) := by decide +kernel
theorem own_d13_10 : decode prog_20_method_2_code 10 = .ok (.goto 4, 3) := by decide +kernel
theorem own_d13_13 : decode prog_20_method_2_code 13 = .ok (.iconst 0, 1) := by decide +kernel
theorem own_d13_14 : decode prog_20_method_2_code 14 = .ok (.ireturn, 1) := by decide +kernel
def own_ck (cl : Int64) : Int32 := (if cl < (0 : Int64) then (1 : Int32) else (0 : Int32))
set_option maxHeartbeats 40000000 in
theorem own_mt13_ef (m : MethodId) (x0 : Addr) : entryFrame m #[(.ref x0)] 1 = mkF m 0 #[.val (.ref x0)] [] := by first | (simp [entryFrame, mkF, argsToLocals, Value.category, maxLocals]; done) | rfl
set_option maxRecDepth 65536 in
set_option maxHeartbeats 40000000 in
theorem own_mt13 (l : Launch) (Z : State) (a0 : Array Value) (hw : ∀ d ∈ tables_1, d.before a0 Z = true) (x0 : Addr) (cl : Int64) (h0 : Heap) (F_contentLength : Fld Z h0 x0 "com/example/recurve/recurve/http/HttpRequestHead" "contentLength" "J" (.long cl)) :
    own_Met l Z (⟨"com/example/recurve/recurve/http/HttpRequestHead", "chunked", "()Z"⟩ : MethodName) prog_20_method_2_code 1 (some .boolean) ({ frames := 0, cells := 0, slots := 0, locals := 0 } : Room) #[(.ref x0)] h0 (fun v h L => v = some (.int (own_ck cl)) ∧ h = h0 ∧ L = []) := by
  refine own_intro (plainFor_of_name own_pn5) ?_
  intro p e s m below meth c s₁ hx hby hml hown hnm hZ hret hlk X0 e0
  refine own_cast (own_mt13_ef m x0) ?_
  refine own_via (T' := s₁) (g' := (mkF m 1 #[.val (.ref x0)] [(.ref x0)])) (fun t k => XS.aloadN X0.here hx rfl (hb hby own_d13_0) rfl rfl k) ?_
  obtain ⟨T1, X1, e1, st1⟩ := getF X0 hx hZ hown (host := "") (Or.inl (hw _ (List.mem_of_getElem? (i := 88) rfl))) Via.refl e0 F_contentLength (g := (mkF m 1 #[.val (.ref x0)] [(.ref x0)])) rfl rfl (hb hby own_d13_1)
  refine own_via (T' := T1) (g' := (mkF m 4 #[.val (.ref x0)] [(.long cl)])) st1 ?_
  refine own_via (T' := T1) (g' := (mkF m 6 #[.val (.ref x0)] [(.int (lcmpW cl (0 : Int64)))])) (fun t k => XS.lconst X1.here hx rfl (hb hby own_d13_4) (XS.lcmp X1.here hx rfl (hb hby own_d13_5) rfl k)) ?_
  by_cases hc2 : cl < (0 : Int64)
  · refine own_via (T' := T1) (g' := (mkF m 14 #[.val (.ref x0)] [(.int (1 : Int32))])) (fun t k => XS.ifNo X1.here hx rfl (hb hby own_d13_6) rfl ((if0 _ _).trans (tlt ((lw_lt cl (0 : Int64)).mpr hc2)).2.1) (XS.iconst X1.here hx rfl (hb hby own_d13_9) (XS.goto X1.here hx rfl (pc0 := 10) (pc' := 14) rfl (hb hby own_d13_10) (by decide) (by decide) k))) ?_
    refine own_retN X1 hx hlk (ty := .boolean) hret (by simp) (hb hby own_d13_14) (by decide) (by decide) ?_
    exact ⟨by rw [own_ck, if_pos hc2] <;> rfl, e1, rfl⟩
  · refine own_via (T' := T1) (g' := (mkF m 14 #[.val (.ref x0)] [(.int (0 : Int32))])) (fun t k => XS.ifYes X1.here hx rfl (pc0 := 6) (pc' := 13) rfl (hb hby own_d13_6) rfl ((if0 _ _).trans (flt (fun q => hc2 ((lw_lt cl (0 : Int64)).mp q))).2.1) (by decide) (by decide) (XS.iconst X1.here hx rfl (hb hby own_d13_13) k)) ?_
    refine own_retN X1 hx hlk (ty := .boolean) hret (by simp) (hb hby own_d13_14) (by decide) (by decide) ?_
    exact ⟨by rw [own_ck, if_neg hc2] <;> rfl, e1, rfl⟩
theorem own_l8 (x : Int32) : ¬ ((x &&& (255 : Int32)).toUInt32.toUInt16.toUInt32.toInt32).toUInt32.toUInt16.toUInt32.toInt32 < 0 ∧ ¬ (255 : Int32) < ((x &&& (255 : Int32)).toUInt32.toUInt16.toUInt32.toInt32).toUInt32.toUInt16.toUInt32.toInt32 := by
  rw [i2c_mask, i2c_mask]
  have m := c_mask x 255 8 (by decide) (by decide)
  have k0 : (0 : Int32).toInt = 0 := by decide
  have k1 : (255 : Int32).toInt = 255 := by decide
  simp only [Int32.lt_iff_toInt_lt]; omega
theorem own_newStr {p : Program} {l : Launch} {e : Env} {R : Room} {s : State} {m : MethodId} {args : Array Value} {below : List Frame} {meth : Method} {c : Code} {T : State} {locs : List Loc} {cells slots : Nat} {Z : State} {a0 : Array Value} {h : Heap} (X : Stand p l e R s m args below meth c T locs cells slots) (hx : p.tables.exec = Jvm.exec) (hZ : Z.Warmed39 s.vm) {own : String} {index : Nat} (hown : s.vm.findClass own = some m.cls) (hw : ∀ d ∈ tables_1, d.before a0 Z = true)
    (w1 : (Jvm.Cond.methodLink own index ⟨"java/lang/String", "<init>", "([C)V"⟩).before a0 Z = true) (w2 : (Jvm.Cond.instanceMethod ⟨"java/lang/String", "<init>", "([C)V"⟩).before a0 Z = true) (w4 : (Jvm.Cond.code ⟨"java/lang/String", "<init>", "([C)V"⟩ jdk_42_method_3_code 2 none).before a0 Z = true) (wi : (Jvm.Cond.instantiable "java/lang/String" 4).before a0 Z = true)
    {a b : Addr} {n0 : Nat} {cs : List Int32} {v0 c0 : Value} {z : Int32} (hx0 : n0 ≤ a) (hh0 : n0 ≤ h.size) (E : Exa Z h a "java/lang/String") (V : Fld Z h a "java/lang/String" "value" "[B" v0) (Cd : Fld Z h a "java/lang/String" "coder" "B" c0) (K : own_Av Z h b .char (cs.map Value.int)) (S : Sta Z h "java/lang/String" "COMPACT_STRINGS" "Z" (.int z)) (hz : ¬ z = 0) {nl : Nat} (hnl : cs.length = nl) (l0 : 0 < nl) (l2 : nl ≤ 4000) (hp : ∀ c ∈ cs, ¬ c < 0 ∧ ¬ (255 : Int32) < c)
    (eT : T.heap = h) {W : Nat} (hf : 4 ≤ R.frames) (hl : W + 65 ≤ R.locals) {g : JFrame} (hg : g.method = m) (hsize : g.locals.size = c.maxLocals) {rest : List Value} (hlen : ∀ sig, parseMethodDescriptor "([C)V" = some sig → [Value.ref b].length = sig.parameters.length) (hs : g.stack = [Value.ref b].reverse ++ .ref a :: rest) (hW : 2 * g.monitorRoom + (rest.map fun v => v.category).sum ≤ W) (hd : decode c.code g.pc = .ok (.invokespecial index, 3)) (hc : cells + 1 ≤ R.cells) (hsl : slots + nl ≤ R.slots) :
    ∃ T' L, Stand p l e R s m args below meth c T' (locs ++ L) (cells + 1) (slots + nl) ∧ Fr n0 L ∧ Keep h T'.heap [a] ∧ Exa Z T'.heap a "java/lang/String" ∧ ∀ target, Steps p.tables e below (T'.setTop { g with pc := g.pc + 3, stack := rest }) target → Steps p.tables e below (T.setTop g) target := by
  subst hnl
  have hws : ∀ d ∈ StrChars.Road.words, d.before a0 Z = true := fun d hd => hw d ((by decide +kernel : ∀ d ∈ StrChars.Road.words, d ∈ tables_1) d hd)
  obtain ⟨kC, Ka⟩ := K.arv (dv := .int 0) (fun v hv => by
    obtain ⟨q, hq, rfl⟩ := List.mem_map.mp hv
    have r := hp q hq
    simp only [fits, Bool.and_eq_true, decide_eq_true_eq]
    have k0 : (0 : Int32).toInt = 0 := by decide
    have k1 : (255 : Int32).toInt = 255 := by decide
    have k2 : (65535 : Int32).toInt = 65535 := by decide
    simp only [Int32.lt_iff_toInt_lt, Int32.le_iff_toInt_le] at *
    omega)
  obtain ⟨v, _, ⟨T', L', k', n'⟩, -, X', ⟨L, hQ, l1, l2', l3⟩, st⟩ := X.specialBack hx (y := (⟨"java/lang/String", "<init>", "([C)V"⟩ : MethodName)) rfl hown (mvT hZ w1) (mvT hZ w2) (mvT hZ w4) (by decide) (StrChars.Road.backV (W := W) hZ hws (kI := 4) wi (cs := cs) (bs := cs.map (fun c => c.toInt8.toInt32)) (n := cs.length) hx0 hh0 E V Cd Ka S hz rfl (by rw [List.length_map]) l0 l2 hp rfl hf hl) hg hsize (Steps.refl _) (a := a) (argsL := [.ref b]) (rest := rest) hlen hs hW hd (fun _ _ => ⟨rfl, eT, hc, hsl⟩)
  dsimp only [Pt.U, Pt.locs, Pt.cells, Pt.slots] at X' l1 l2' l3 st hQ
  subst l1 l2' l3
  obtain ⟨rfl, N, Kp, Ex, -⟩ := hQ
  exact ⟨T', L, X', N, Kp, Ex, fun _ k => st.trans k⟩
theorem own_pn6 : plainName "com/example/recurve/recurve/http/HttpRequestHeadChunkedPinLaw" = true := by first | (simp [plainName, overriddenIn]; done) | decide +kernel
theorem own_pd1 : parseMethodDescriptor "([C)V" = some ⟨[(.array .char)], none⟩ := by decide +kernel
theorem own_pd2 : parseMethodDescriptor "(Ljava/lang/String;Ljava/lang/String;Ljava/lang/String;Lcom/example/recurve/recurve/http/HttpFields;J)V" = some ⟨[(.object "java/lang/String"), (.object "java/lang/String"), (.object "java/lang/String"), (.object "com/example/recurve/recurve/http/HttpFields"), .long], none⟩ := by decide +kernel
theorem own_pd3 : parseMethodDescriptor "()Z" = some ⟨[], some .boolean⟩ := by decide +kernel
def own_f0 (x0 : Int64) (x1 : Int32) (cz : Int32) : Int32 := (if (x1 &&& (1 : Int32)) = (0 : Int32) then (if (x1 &&& (2 : Int32)) = (0 : Int32) then (if (own_ck (x0 &&& (9223372036854775807 : Int64))) = (0 : Int32) then (1 : Int32) else (0 : Int32)) else (if (own_ck (x0 &&& (9223372036854775807 : Int64))) = (0 : Int32) then (1 : Int32) else (0 : Int32))) else (if (x1 &&& (2 : Int32)) = (0 : Int32) then (if (own_ck (-1 : Int64)) = (1 : Int32) then (1 : Int32) else (0 : Int32)) else (if (own_ck (-1 : Int64)) = (1 : Int32) then (1 : Int32) else (0 : Int32))))
set_option maxHeartbeats 40000000 in
theorem own_mt0_ef (m : MethodId) (x0 : Int64) (x1 : Int32) : entryFrame m #[(.long x0), (.int x1)] maxLocals = mkF m 0 #[.val (.long x0), .second, .val (.int x1), .unset, .unset, .unset, .unset, .unset, .unset, .unset] [] := by first | (simp [entryFrame, mkF, argsToLocals, Value.category, maxLocals]; done) | rfl
set_option maxRecDepth 65536 in
set_option maxHeartbeats 40000000 in
theorem own_mt0 (l : Launch) (Z : State) (a0 : Array Value) (hw : ∀ d ∈ tables_1, d.before a0 Z = true) (x0 : Int64) (x1 : Int32) (cz : Int32) (dv : Value) (h0 : Heap) (n0 : Nat) (hh0 : Z.heap = h0) (hn0 : n0 = Z.heap.size) (S_cs : Sta Z Z.heap "java/lang/String" "COMPACT_STRINGS" "Z" (.int cz)) (S_de : Sta Z Z.heap "java/util/ArrayList" "DEFAULTCAPACITY_EMPTY_ELEMENTDATA" "[Ljava/lang/Object;" dv) (Ol : Old Z n0 h0) (hcz : ¬ cz = 0) (hdn : narrow (.array (.object "java/lang/Object")) dv = dv) (hdf : fits (.array (.object "java/lang/Object")) dv = true) :
    own_MetW l Z x code maxLocals ret room_1 #[(.long x0), (.int x1)] (fun v h L => v = some (.int (own_f0 x0 x1 cz)) ∧ Fr n0 L) := by
  refine own_introW (plainFor_of_name own_pn6) ?_
  intro p e m below meth c s₁ hx hby hml hown hnm hret hlk X0 e0'
  have e0 : s₁.heap = h0 := e0'.trans hh0
  have hZ : Z.Warmed39 Z.vm := State.Warmed39.refl Z
  have hS0 : Z.Since Z.vm 0 := (State.WarmedH.refl Z).since 0
  have kz0 : 0 ≤ h0.size := Nat.zero_le _
  have Z0 : n0 ≤ h0.size := by rw [hn0, hh0]; exact Nat.le_refl _
  have I0 : IB Z Z.vm [] := IB.start
  refine own_cast (own_mt0_ef m x0 x1) ?_
  have N0 := Fr.nil n0
  refine own_via (T' := s₁) (g' := (mkF m 3 #[.val (.long x0), .second, .val (.int x1), .unset, .unset, .unset, .unset, .unset, .unset, .unset] [(.int (x1 &&& (1 : Int32)))])) (fun t k => XS.iloadN X0.here hx rfl (hb hby at_0) rfl (XS.iconst X0.here hx rfl (hb hby at_1) (XS.iand X0.here hx rfl (hb hby at_2) rfl k))) ?_
  by_cases hc1 : (x1 &&& (1 : Int32)) = (0 : Int32)
  · refine own_via (T' := s₁) (g' := (mkF m 13 #[.val (.long x0), .second, .val (.int x1), .val (.int (0 : Int32)), .unset, .unset, .unset, .unset, .unset, .unset] [(.int (0 : Int32))])) (fun t k => XS.ifYes X0.here hx rfl (pc0 := 3) (pc' := 10) rfl (hb hby at_3) rfl ((if0 _ _).trans (teq hc1).1) (by decide) (by decide) (XS.iconst X0.here hx rfl (hb hby at_10) (XS.istoreN X0.here hx rfl (hb hby at_11) rfl (l' := #[.val (.long x0), .second, .val (.int x1), .val (.int (0 : Int32)), .unset, .unset, .unset, .unset, .unset, .unset]) rfl (XS.iloadN X0.here hx rfl (hb hby at_12) rfl k)))) ?_
    refine own_via (T' := s₁) (g' := (mkF m 23 #[.val (.long x0), .second, .val (.int x1), .val (.int (0 : Int32)), .unset, .unset, .unset, .unset, .unset, .unset] [(.long x0)])) (fun t k => XS.ifYes X0.here hx rfl (pc0 := 13) (pc' := 22) rfl (hb hby at_13) rfl ((if0 _ _).trans (teq (by decide : (0 : Int32) = (0 : Int32))).1) (by decide) (by decide) (XS.lloadN X0.here hx rfl (hb hby at_22) rfl k)) ?_
    refine own_via (T' := s₁) (g' := (mkF m 26 #[.val (.long x0), .second, .val (.int x1), .val (.int (0 : Int32)), .unset, .unset, .unset, .unset, .unset, .unset] [(.long (9223372036854775807 : Int64)), (.long x0)])) (X0.ldc2Long hx hown (mvT hZ (hw _ (List.mem_of_getElem? (i := 0) rfl))) (g := (mkF m 23 #[.val (.long x0), .second, .val (.int x1), .val (.int (0 : Int32)), .unset, .unset, .unset, .unset, .unset, .unset] [(.long x0)])) rfl (hb hby at_23)) ?_
    refine own_via (T' := s₁) (g' := (mkF m 32 #[.val (.long x0), .second, .val (.int x1), .val (.int (0 : Int32)), .val (.long (x0 &&& (9223372036854775807 : Int64))), .second, .unset, .unset, .unset, .unset] [(.int (x1 &&& (2 : Int32)))])) (fun t k => XS.land X0.here hx rfl (hb hby at_26) rfl (XS.lstore X0.here hx rfl (hb hby at_27) rfl (l' := #[.val (.long x0), .second, .val (.int x1), .val (.int (0 : Int32)), .val (.long (x0 &&& (9223372036854775807 : Int64))), .second, .unset, .unset, .unset, .unset]) rfl (XS.iloadN X0.here hx rfl (hb hby at_29) rfl (XS.iconst X0.here hx rfl (hb hby at_30) (XS.iand X0.here hx rfl (hb hby at_31) rfl k))))) ?_
    by_cases hc2 : (x1 &&& (2 : Int32)) = (0 : Int32)
    · refine own_via (T' := s₁) (g' := (mkF m 40 #[.val (.long x0), .second, .val (.int x1), .val (.int (0 : Int32)), .val (.long (x0 &&& (9223372036854775807 : Int64))), .second, .unset, .unset, .unset, .unset] [])) (fun t k => XS.ifYes X0.here hx rfl (pc0 := 32) (pc' := 40) rfl (hb hby at_32) rfl ((if0 _ _).trans (teq hc2).1) (by decide) (by decide) k) ?_
      obtain ⟨a3, T3, h3, kk3, X3, e3, E3, hS3, kz3, hZ, hown, st3⟩ := ldcS X0 hx hZ hown (hw _ (List.mem_of_getElem? (i := 95) rfl)) (own_strw hw) e0 hS0 kz0 (g := (mkF m 40 #[.val (.long x0), .second, .val (.int x1), .val (.int (0 : Int32)), .val (.long (x0 &&& (9223372036854775807 : Int64))), .second, .unset, .unset, .unset, .unset] [])) rfl (hb hby at_40) (n := 32) (by decide) (by decide) (by decide) (by decide)
      have kz4 := Nat.le_trans kz0 E3.1
      have Ol5 := Ol.ext E3
      have Z3 : n0 ≤ h3.size := Nat.le_trans Z0 E3.1
      refine own_via (T' := T3) (g' := (mkF m 42 #[.val (.long x0), .second, .val (.int x1), .val (.int (0 : Int32)), .val (.long (x0 &&& (9223372036854775807 : Int64))), .second, .unset, .unset, .unset, .unset] [(.ref a3)])) st3 ?_
      refine own_via (T' := T3) (g' := (mkF m 45 #[.val (.long x0), .second, .val (.int x1), .val (.int (0 : Int32)), .val (.long (x0 &&& (9223372036854775807 : Int64))), .second, .val (.ref a3), .unset, .unset, .unset] [(.int (2 : Int32))])) (fun t k => XS.astore X3.here hx rfl (hb hby at_42) rfl rfl (l' := #[.val (.long x0), .second, .val (.int x1), .val (.int (0 : Int32)), .val (.long (x0 &&& (9223372036854775807 : Int64))), .second, .val (.ref a3), .unset, .unset, .unset]) rfl (XS.iconst X3.here hx rfl (hb hby at_44) k)) ?_
      obtain ⟨T6, h6, k6, X6, e6, E6, A6, EA6, st6⟩ := newPE (ad := "[C") X3 hx hZ (hw _ (List.mem_of_getElem? (i := 9) rfl)) e3 (g := (mkF m 45 #[.val (.long x0), .second, .val (.int x1), .val (.int (0 : Int32)), .val (.long (x0 &&& (9223372036854775807 : Int64))), .second, .val (.ref a3), .unset, .unset, .unset] [(.int (2 : Int32))])) rfl (hb hby at_45) rfl (by decide) (cap := 2) (by decide) (by decide) (by decide) (by decide) (by decide)
      obtain ⟨b6, g6⟩ : ∃ z, z = h3.size := ⟨_, rfl⟩
      rw [← g6] at A6 EA6 st6
      have bd_b6 : h3.size ≤ b6 := Nat.le_of_eq g6.symm
      have ge_b6 : n0 ≤ b6 := Nat.le_trans Z3 bd_b6
      have Z6 : n0 ≤ h6.size := Nat.le_trans Z3 E6.1
      have kz7 := Nat.le_trans kz3 E6.1
      have Ol8 := Ol5.ext E6
      have V6 : own_Av Z h6 b6 .char [(.int (0 : Int32)), (.int (0 : Int32))] := own_Av.new A6
      refine own_via (T' := T6) (g' := (mkF m 47 #[.val (.long x0), .second, .val (.int x1), .val (.int (0 : Int32)), .val (.long (x0 &&& (9223372036854775807 : Int64))), .second, .val (.ref a3), .unset, .unset, .unset] [(.ref b6)])) st6 ?_
      refine own_via (T' := T6) (g' := (mkF m 51 #[.val (.long x0), .second, .val (.int x1), .val (.int (0 : Int32)), .val (.long (x0 &&& (9223372036854775807 : Int64))), .second, .val (.ref a3), .unset, .unset, .unset] [(.int (47 : Int32)), (.int (0 : Int32)), (.ref b6), (.ref b6)])) (fun t k => XS.dup X6.here hx rfl (hb hby at_47) rfl rfl (XS.iconst X6.here hx rfl (hb hby at_48) (XS.bipush X6.here hx rfl (hb hby at_49) k))) ?_
      obtain ⟨T9, h9, X9, e9, W9, V9, st9⟩ := own_stC X6 hx hZ e6 V6 (j := (0 : Int32)) (x := (47 : Int32)) (by decide) (show _ < 2 from by decide) (g := (mkF m 51 #[.val (.long x0), .second, .val (.int x1), .val (.int (0 : Int32)), .val (.long (x0 &&& (9223372036854775807 : Int64))), .second, .val (.ref a3), .unset, .unset, .unset] [(.int (47 : Int32)), (.int (0 : Int32)), (.ref b6), (.ref b6)])) rfl rfl (hb hby at_51)
      have kz10 := Nat.le_trans kz7 (Keep.of_wr W9).1
      have Ol11 := Ol8.wr W9 ge_b6
      have EA6_at12 := EA6.wr W9
      have N9 := Fr.snoc X9 N0 ge_b6
      have Z9 : n0 ≤ h9.size := Nat.le_trans Z6 (Nat.le_of_eq W9.size.symm)
      have Vb6_9 : own_Av Z h9 b6 .char [(.int (47 : Int32)), (.int (0 : Int32))] := V9
      refine own_via (T' := T9) (g' := (mkF m 52 #[.val (.long x0), .second, .val (.int x1), .val (.int (0 : Int32)), .val (.long (x0 &&& (9223372036854775807 : Int64))), .second, .val (.ref a3), .unset, .unset, .unset] [(.ref b6)])) st9 ?_
      refine own_via (T' := T9) (g' := (mkF m 63 #[.val (.long x0), .second, .val (.int x1), .val (.int (0 : Int32)), .val (.long (x0 &&& (9223372036854775807 : Int64))), .second, .val (.ref a3), .unset, .unset, .unset] [(.int ((((x1.toUInt32 >>> ((8 : Int32) &&& 31).toUInt32).toInt32) &&& (255 : Int32)).toUInt32.toUInt16.toUInt32.toInt32)), (.int (1 : Int32)), (.ref b6), (.ref b6)])) (fun t k => XS.dup X9.here hx rfl (hb hby at_52) rfl rfl (XS.iconst X9.here hx rfl (hb hby at_53) (XS.iloadN X9.here hx rfl (hb hby at_54) rfl (XS.bipush X9.here hx rfl (hb hby at_55) (XS.iushr X9.here hx rfl (hb hby at_57) rfl (XS.sipush X9.here hx rfl (hb hby at_58) (XS.iand X9.here hx rfl (hb hby at_61) rfl (XS.i2c X9.here hx rfl (hb hby at_62) rfl k)))))))) ?_
      obtain ⟨T13, h13, X13, e13, W13, V13, st13⟩ := own_stC X9 hx hZ e9 Vb6_9 (j := (1 : Int32)) (x := ((((x1.toUInt32 >>> ((8 : Int32) &&& 31).toUInt32).toInt32) &&& (255 : Int32)).toUInt32.toUInt16.toUInt32.toInt32)) (by decide) (show _ < 2 from by decide) (g := (mkF m 63 #[.val (.long x0), .second, .val (.int x1), .val (.int (0 : Int32)), .val (.long (x0 &&& (9223372036854775807 : Int64))), .second, .val (.ref a3), .unset, .unset, .unset] [(.int ((((x1.toUInt32 >>> ((8 : Int32) &&& 31).toUInt32).toInt32) &&& (255 : Int32)).toUInt32.toUInt16.toUInt32.toInt32)), (.int (1 : Int32)), (.ref b6), (.ref b6)])) rfl rfl (hb hby at_63)
      have kz14 := Nat.le_trans kz10 (Keep.of_wr W13).1
      have Ol15 := Ol11.wr W13 ge_b6
      have EA6_at16 := EA6_at12.wr W13
      have N13 := Fr.snoc X13 N9 ge_b6
      have Z13 : n0 ≤ h13.size := Nat.le_trans Z9 (Nat.le_of_eq W13.size.symm)
      have Vb6_13 : own_Av Z h13 b6 .char [(.int (47 : Int32)), (.int (((((x1.toUInt32 >>> ((8 : Int32) &&& 31).toUInt32).toInt32) &&& (255 : Int32)).toUInt32.toUInt16.toUInt32.toInt32).toUInt32.toUInt16.toUInt32.toInt32))] := V13
      refine own_via (T' := T13) (g' := (mkF m 64 #[.val (.long x0), .second, .val (.int x1), .val (.int (0 : Int32)), .val (.long (x0 &&& (9223372036854775807 : Int64))), .second, .val (.ref a3), .unset, .unset, .unset] [(.ref b6)])) st13 ?_
      refine own_via (T' := T13) (g' := (mkF m 66 #[.val (.long x0), .second, .val (.int x1), .val (.int (0 : Int32)), .val (.long (x0 &&& (9223372036854775807 : Int64))), .second, .val (.ref a3), .val (.ref b6), .unset, .unset] [])) (fun t k => XS.astore X13.here hx rfl (hb hby at_64) rfl rfl (l' := #[.val (.long x0), .second, .val (.int x1), .val (.int (0 : Int32)), .val (.long (x0 &&& (9223372036854775807 : Int64))), .second, .val (.ref a3), .val (.ref b6), .unset, .unset]) rfl k) ?_
      obtain ⟨T17, h17, X17, e17, E17, A17, D17, -, st17⟩ := newO X13 hx hZ hown (hw _ (List.mem_of_getElem? (i := 10) rfl)) (hw _ (List.mem_of_getElem? (i := 11) rfl)) (hw _ (List.mem_of_getElem? (i := 12) rfl)) e13 (g := (mkF m 66 #[.val (.long x0), .second, .val (.int x1), .val (.int (0 : Int32)), .val (.long (x0 &&& (9223372036854775807 : Int64))), .second, .val (.ref a3), .val (.ref b6), .unset, .unset] [])) rfl (hb hby at_66) (by decide) (by decide)
      obtain ⟨b17, g17⟩ : ∃ z, z = h13.size := ⟨_, rfl⟩
      rw [← g17] at A17 D17 st17
      have bd_b17 : h13.size ≤ b17 := Nat.le_of_eq g17.symm
      have ne_b6_b17 : b6 ≠ b17 := own_ne_of Vb6_13.lt bd_b17
      have ge_b17 : n0 ≤ b17 := Nat.le_trans Z13 bd_b17
      have Z17 : n0 ≤ h17.size := Nat.le_trans Z13 E17.1
      have kz18 := Nat.le_trans kz14 E17.1
      have Ol19 := Ol15.ext E17
      have Vb6_13_at20 := Vb6_13.ext E17
      have EA6_at21 := EA6_at16.ext E17
      have Ffields_17 : Fld Z h17 b17 "com/example/recurve/recurve/http/HttpFields" "fields" "Ljava/util/List;" .null := D17 (Or.inr (hw _ (List.mem_of_getElem? (i := 44) rfl))) (ty := (.object "java/util/List")) (by decide)
      refine own_via (T' := T17) (g' := (mkF m 69 #[.val (.long x0), .second, .val (.int x1), .val (.int (0 : Int32)), .val (.long (x0 &&& (9223372036854775807 : Int64))), .second, .val (.ref a3), .val (.ref b6), .unset, .unset] [(.ref b17)])) st17 ?_
      refine own_via (T' := T17) (g' := (mkF m 70 #[.val (.long x0), .second, .val (.int x1), .val (.int (0 : Int32)), .val (.long (x0 &&& (9223372036854775807 : Int64))), .second, .val (.ref a3), .val (.ref b6), .unset, .unset] [(.ref b17), (.ref b17)])) (fun t k => XS.dup X17.here hx rfl (hb hby at_69) rfl rfl k) ?_
      obtain ⟨v22, T22, L22, X22, hQ22, st22⟩ := own_callSp (y := (⟨"com/example/recurve/recurve/http/HttpFields", "<init>", "()V"⟩ : MethodName)) (a := b17) (argsL := []) (rest := [(.ref b17)]) X17 hx hZ hown rfl (hw _ (List.mem_of_getElem? (i := 13) rfl)) (hw _ (List.mem_of_getElem? (i := 14) rfl)) (hw _ (List.mem_of_getElem? (i := 12) rfl)) (hw _ (List.mem_of_getElem? (i := 15) rfl)) (by decide) (own_mt1 l Z a0 hw b17 dv h17 n0 Z17 ge_b17 A17 Ffields_17 S_de Ol19 hdn hdf) e17 (W := 1) (by decide) (by decide) (g := (mkF m 70 #[.val (.long x0), .second, .val (.int x1), .val (.int (0 : Int32)), .val (.long (x0 &&& (9223372036854775807 : Int64))), .second, .val (.ref a3), .val (.ref b6), .unset, .unset] [(.ref b17), (.ref b17)])) rfl (by rw [hml]; rfl) (lenOf own_pd0 rfl) rfl (by show 2 * 0 + _ ≤ _; exact Nat.le_of_eq rfl) (hb hby at_70) (by decide) (by decide)
      obtain ⟨rfl, Nq22, K22q, G22_0⟩ := hQ22
      have N22 := Fr.app N13 Nq22
      have Z22 : n0 ≤ T22.heap.size := Nat.le_trans Z17 K22q.1
      have kz23 := Nat.le_trans kz18 K22q.1
      have Ol24 := Ol19.keep K22q (allS ge_b17 all0)
      have Vb6_13_at25 := Vb6_13_at20.keep K22q (ninS ne_b6_b17 nin0)
      have EA6_at26 := EA6_at21.keep K22q
      have A17_at27 := A17.keep K22q
      refine own_via (T' := T22) (g' := (mkF m 73 #[.val (.long x0), .second, .val (.int x1), .val (.int (0 : Int32)), .val (.long (x0 &&& (9223372036854775807 : Int64))), .second, .val (.ref a3), .val (.ref b6), .unset, .unset] [(.ref b17)])) st22 ?_
      refine own_via (T' := T22) (g' := (mkF m 75 #[.val (.long x0), .second, .val (.int x1), .val (.int (0 : Int32)), .val (.long (x0 &&& (9223372036854775807 : Int64))), .second, .val (.ref a3), .val (.ref b6), .val (.ref b17), .unset] [])) (fun t k => XS.astore X22.here hx rfl (hb hby at_73) rfl rfl (l' := #[.val (.long x0), .second, .val (.int x1), .val (.int (0 : Int32)), .val (.long (x0 &&& (9223372036854775807 : Int64))), .second, .val (.ref a3), .val (.ref b6), .val (.ref b17), .unset]) rfl k) ?_
      obtain ⟨T28, h28, X28, e28, E28, A28, D28, -, st28⟩ := newO X22 hx hZ hown (hw _ (List.mem_of_getElem? (i := 45) rfl)) (hw _ (List.mem_of_getElem? (i := 46) rfl)) (hw _ (List.mem_of_getElem? (i := 47) rfl)) rfl (g := (mkF m 75 #[.val (.long x0), .second, .val (.int x1), .val (.int (0 : Int32)), .val (.long (x0 &&& (9223372036854775807 : Int64))), .second, .val (.ref a3), .val (.ref b6), .val (.ref b17), .unset] [])) rfl (hb hby at_75) (by decide) (by decide)
      obtain ⟨b28, g28⟩ : ∃ z, z = T22.heap.size := ⟨_, rfl⟩
      rw [← g28] at A28 D28 st28
      have bd_b28 : T22.heap.size ≤ b28 := Nat.le_of_eq g28.symm
      have ne_b6_b28 : b6 ≠ b28 := own_ne_of Vb6_13_at25.lt bd_b28
      have ne_b17_b28 : b17 ≠ b28 := own_ne_of G22_0.lt bd_b28
      have ge_b28 : n0 ≤ b28 := Nat.le_trans Z22 bd_b28
      have Z28 : n0 ≤ h28.size := Nat.le_trans Z22 E28.1
      have kz29 := Nat.le_trans kz23 E28.1
      have Ol30 := Ol24.ext E28
      have Vb6_13_at31 := Vb6_13_at25.ext E28
      have EA6_at32 := EA6_at26.ext E28
      have G22_0_at33 := G22_0.ext E28
      have Fmethod_28 : Fld Z h28 b28 "com/example/recurve/recurve/http/HttpRequestHead" "method" "Ljava/lang/String;" .null := D28 (Or.inr (hw _ (List.mem_of_getElem? (i := 81) rfl))) (ty := (.object "java/lang/String")) (by decide)
      have Ftarget_28 : Fld Z h28 b28 "com/example/recurve/recurve/http/HttpRequestHead" "target" "Ljava/lang/String;" .null := D28 (Or.inr (hw _ (List.mem_of_getElem? (i := 83) rfl))) (ty := (.object "java/lang/String")) (by decide)
      have Fprotocol_28 : Fld Z h28 b28 "com/example/recurve/recurve/http/HttpRequestHead" "protocol" "Ljava/lang/String;" .null := D28 (Or.inr (hw _ (List.mem_of_getElem? (i := 85) rfl))) (ty := (.object "java/lang/String")) (by decide)
      have Ffields_28 : Fld Z h28 b28 "com/example/recurve/recurve/http/HttpRequestHead" "fields" "Lcom/example/recurve/recurve/http/HttpFields;" .null := D28 (Or.inr (hw _ (List.mem_of_getElem? (i := 87) rfl))) (ty := (.object "com/example/recurve/recurve/http/HttpFields")) (by decide)
      have FcontentLength_28 : Fld Z h28 b28 "com/example/recurve/recurve/http/HttpRequestHead" "contentLength" "J" (.long (0 : Int64)) := D28 (Or.inr (hw _ (List.mem_of_getElem? (i := 89) rfl))) (ty := .long) (by decide)
      refine own_via (T' := T28) (g' := (mkF m 78 #[.val (.long x0), .second, .val (.int x1), .val (.int (0 : Int32)), .val (.long (x0 &&& (9223372036854775807 : Int64))), .second, .val (.ref a3), .val (.ref b6), .val (.ref b17), .unset] [(.ref b28)])) st28 ?_
      refine own_via (T' := T28) (g' := (mkF m 79 #[.val (.long x0), .second, .val (.int x1), .val (.int (0 : Int32)), .val (.long (x0 &&& (9223372036854775807 : Int64))), .second, .val (.ref a3), .val (.ref b6), .val (.ref b17), .unset] [(.ref b28), (.ref b28)])) (fun t k => XS.dup X28.here hx rfl (hb hby at_78) rfl rfl k) ?_
      obtain ⟨a34, T34, h34, kk34, X34, e34, E34, hS34, kz34, hZ, hown, st34⟩ := ldcS X28 hx hZ hown (hw _ (List.mem_of_getElem? (i := 48) rfl)) (own_strw hw) e28 hS3 kz29 (g := (mkF m 79 #[.val (.long x0), .second, .val (.int x1), .val (.int (0 : Int32)), .val (.long (x0 &&& (9223372036854775807 : Int64))), .second, .val (.ref a3), .val (.ref b6), .val (.ref b17), .unset] [(.ref b28), (.ref b28)])) rfl (hb hby at_79) (n := 12) (by decide) (by decide) (by decide) (by decide)
      have kz35 := Nat.le_trans kz29 E34.1
      have Ol36 := Ol30.ext E34
      have Vb6_13_at37 := Vb6_13_at31.ext E34
      have EA6_at38 := EA6_at32.ext E34
      have G22_0_at39 := G22_0_at33.ext E34
      have A28_at40 := A28.ext E34
      have Fmethod_28_at41 := Fmethod_28.ext E34
      have Ftarget_28_at42 := Ftarget_28.ext E34
      have Fprotocol_28_at43 := Fprotocol_28.ext E34
      have Ffields_28_at44 := Ffields_28.ext E34
      have FcontentLength_28_at45 := FcontentLength_28.ext E34
      have Z34 : n0 ≤ h34.size := Nat.le_trans Z28 E34.1
      refine own_via (T' := T34) (g' := (mkF m 81 #[.val (.long x0), .second, .val (.int x1), .val (.int (0 : Int32)), .val (.long (x0 &&& (9223372036854775807 : Int64))), .second, .val (.ref a3), .val (.ref b6), .val (.ref b17), .unset] [(.ref a34), (.ref b28), (.ref b28)])) st34 ?_
      obtain ⟨T46, h46, X46, e46, E46, A46, D46, -, st46⟩ := newO X34 hx hZ hown (hw _ (List.mem_of_getElem? (i := 49) rfl)) (hw _ (List.mem_of_getElem? (i := 3) rfl)) (hw _ (List.mem_of_getElem? (i := 2) rfl)) e34 (g := (mkF m 81 #[.val (.long x0), .second, .val (.int x1), .val (.int (0 : Int32)), .val (.long (x0 &&& (9223372036854775807 : Int64))), .second, .val (.ref a3), .val (.ref b6), .val (.ref b17), .unset] [(.ref a34), (.ref b28), (.ref b28)])) rfl (hb hby at_81) (by decide) (by decide)
      obtain ⟨b46, g46⟩ : ∃ z, z = h34.size := ⟨_, rfl⟩
      rw [← g46] at A46 D46 st46
      have bd_b46 : h34.size ≤ b46 := Nat.le_of_eq g46.symm
      have ne_b6_b46 : b6 ≠ b46 := own_ne_of Vb6_13_at37.lt bd_b46
      have ne_b17_b46 : b17 ≠ b46 := own_ne_of G22_0_at39.lt bd_b46
      have ne_b28_b46 : b28 ≠ b46 := own_ne_of A28_at40.lt bd_b46
      have ge_b46 : n0 ≤ b46 := Nat.le_trans Z34 bd_b46
      have Z46 : n0 ≤ h46.size := Nat.le_trans Z34 E46.1
      have kz47 := Nat.le_trans kz34 E46.1
      have Ol48 := Ol36.ext E46
      have Vb6_13_at49 := Vb6_13_at37.ext E46
      have EA6_at50 := EA6_at38.ext E46
      have G22_0_at51 := G22_0_at39.ext E46
      have A28_at52 := A28_at40.ext E46
      have Fmethod_28_at53 := Fmethod_28_at41.ext E46
      have Ftarget_28_at54 := Ftarget_28_at42.ext E46
      have Fprotocol_28_at55 := Fprotocol_28_at43.ext E46
      have Ffields_28_at56 := Ffields_28_at44.ext E46
      have FcontentLength_28_at57 := FcontentLength_28_at45.ext E46
      have Fvalue_46 : Fld Z h46 b46 "java/lang/String" "value" "[B" .null := D46 (Or.inr (hw _ (List.mem_of_getElem? (i := 5) rfl))) (ty := (.array .byte)) (by decide)
      have Fcoder_46 : Fld Z h46 b46 "java/lang/String" "coder" "B" (.int (0 : Int32)) := D46 (Or.inr (hw _ (List.mem_of_getElem? (i := 6) rfl))) (ty := .byte) (by decide)
      refine own_via (T' := T46) (g' := (mkF m 84 #[.val (.long x0), .second, .val (.int x1), .val (.int (0 : Int32)), .val (.long (x0 &&& (9223372036854775807 : Int64))), .second, .val (.ref a3), .val (.ref b6), .val (.ref b17), .unset] [(.ref b46), (.ref a34), (.ref b28), (.ref b28)])) st46 ?_
      refine own_via (T' := T46) (g' := (mkF m 87 #[.val (.long x0), .second, .val (.int x1), .val (.int (0 : Int32)), .val (.long (x0 &&& (9223372036854775807 : Int64))), .second, .val (.ref a3), .val (.ref b6), .val (.ref b17), .unset] [(.ref b6), (.ref b46), (.ref b46), (.ref a34), (.ref b28), (.ref b28)])) (fun t k => XS.dup X46.here hx rfl (hb hby at_84) rfl rfl (XS.aload X46.here hx rfl (hb hby at_85) rfl rfl k)) ?_
      obtain ⟨T58, L58, X58, Nq58, K58q, Eq58, st58⟩ := own_newStr X46 hx hZ hown hw (hw _ (List.mem_of_getElem? (i := 50) rfl)) (hw _ (List.mem_of_getElem? (i := 51) rfl)) (hw _ (List.mem_of_getElem? (i := 52) rfl)) (hw _ (List.mem_of_getElem? (i := 3) rfl)) (cs := ([(47 : Int32), (((((x1.toUInt32 >>> ((8 : Int32) &&& 31).toUInt32).toInt32) &&& (255 : Int32)).toUInt32.toUInt16.toUInt32.toInt32).toUInt32.toUInt16.toUInt32.toInt32)] : List Int32)) ge_b46 Z46 A46 Fvalue_46 Fcoder_46 Vb6_13_at49 (S_cs.ext Ol48.2) hcz (nl := 2) rfl (by decide) (by decide) (by intro c hc; simp only [List.mem_cons, List.not_mem_nil, or_false] at hc; rcases hc with rfl | rfl <;> first | exact own_l8 _ | decide) e46 (W := 4) (by decide) (by decide) (g := (mkF m 87 #[.val (.long x0), .second, .val (.int x1), .val (.int (0 : Int32)), .val (.long (x0 &&& (9223372036854775807 : Int64))), .second, .val (.ref a3), .val (.ref b6), .val (.ref b17), .unset] [(.ref b6), (.ref b46), (.ref b46), (.ref a34), (.ref b28), (.ref b28)])) rfl (by rw [hml]; rfl) (lenOf own_pd1 rfl) rfl (by show 2 * 0 + _ ≤ _; exact Nat.le_of_eq rfl) (hb hby at_87) (by decide) (by decide)
      have N58 := Fr.app N22 Nq58
      have Z58 : n0 ≤ T58.heap.size := Nat.le_trans Z46 K58q.1
      have kz59 := Nat.le_trans kz47 K58q.1
      have Ol60 := Ol48.keep K58q (allS ge_b46 all0)
      have Vb6_13_at61 := Vb6_13_at49.keep K58q (ninS ne_b6_b46 nin0)
      have EA6_at62 := EA6_at50.keep K58q
      have G22_0_at63 := G22_0_at51.keep K58q
      have A28_at64 := A28_at52.keep K58q
      have Fmethod_28_at65 := Fmethod_28_at53.keep K58q (ninS ne_b28_b46 nin0)
      have Ftarget_28_at66 := Ftarget_28_at54.keep K58q (ninS ne_b28_b46 nin0)
      have Fprotocol_28_at67 := Fprotocol_28_at55.keep K58q (ninS ne_b28_b46 nin0)
      have Ffields_28_at68 := Ffields_28_at56.keep K58q (ninS ne_b28_b46 nin0)
      have FcontentLength_28_at69 := FcontentLength_28_at57.keep K58q (ninS ne_b28_b46 nin0)
      have A46_at70 := A46.keep K58q
      refine own_via (T' := T58) (g' := (mkF m 90 #[.val (.long x0), .second, .val (.int x1), .val (.int (0 : Int32)), .val (.long (x0 &&& (9223372036854775807 : Int64))), .second, .val (.ref a3), .val (.ref b6), .val (.ref b17), .unset] [(.ref b46), (.ref a34), (.ref b28), (.ref b28)])) st58 ?_
      refine own_via (T' := T58) (g' := (mkF m 96 #[.val (.long x0), .second, .val (.int x1), .val (.int (0 : Int32)), .val (.long (x0 &&& (9223372036854775807 : Int64))), .second, .val (.ref a3), .val (.ref b6), .val (.ref b17), .unset] [(.long (x0 &&& (9223372036854775807 : Int64))), (.ref b17), (.ref a3), (.ref b46), (.ref a34), (.ref b28), (.ref b28)])) (fun t k => XS.aload X58.here hx rfl (hb hby at_90) rfl rfl (XS.aload X58.here hx rfl (hb hby at_92) rfl rfl (XS.lload X58.here hx rfl (hb hby at_94) rfl k))) ?_
      obtain ⟨v71, T71, L71, X71, hQ71, st71⟩ := own_callSp (y := (⟨"com/example/recurve/recurve/http/HttpRequestHead", "<init>", "(Ljava/lang/String;Ljava/lang/String;Ljava/lang/String;Lcom/example/recurve/recurve/http/HttpFields;J)V"⟩ : MethodName)) (a := b28) (argsL := [(.ref a34), (.ref b46), (.ref a3), (.ref b17), (.long (x0 &&& (9223372036854775807 : Int64)))]) (rest := [(.ref b28)]) X58 hx hZ hown rfl (hw _ (List.mem_of_getElem? (i := 71) rfl)) (hw _ (List.mem_of_getElem? (i := 72) rfl)) (hw _ (List.mem_of_getElem? (i := 47) rfl)) (hw _ (List.mem_of_getElem? (i := 73) rfl)) (by decide) (own_mt11 l Z a0 hw b28 a34 b46 a3 b17 (x0 &&& (9223372036854775807 : Int64)) T58.heap n0 Z58 ge_b28 A28_at64 Fmethod_28_at65 Ftarget_28_at66 Fprotocol_28_at67 Ffields_28_at68 FcontentLength_28_at69) rfl (W := 1) (by decide) (by decide) (g := (mkF m 96 #[.val (.long x0), .second, .val (.int x1), .val (.int (0 : Int32)), .val (.long (x0 &&& (9223372036854775807 : Int64))), .second, .val (.ref a3), .val (.ref b6), .val (.ref b17), .unset] [(.long (x0 &&& (9223372036854775807 : Int64))), (.ref b17), (.ref a3), (.ref b46), (.ref a34), (.ref b28), (.ref b28)])) rfl (by rw [hml]; rfl) (lenOf own_pd2 rfl) rfl (by show 2 * 0 + _ ≤ _; exact Nat.le_of_eq rfl) (hb hby at_96) (by decide) (by decide)
      obtain ⟨rfl, Nq71, K71q, G71_0, G71_1⟩ := hQ71
      have N71 := Fr.app N58 Nq71
      have Z71 : n0 ≤ T71.heap.size := Nat.le_trans Z58 K71q.1
      have kz72 := Nat.le_trans kz59 K71q.1
      have Ol73 := Ol60.keep K71q (allS ge_b28 all0)
      have Vb6_13_at74 := Vb6_13_at61.keep K71q (ninS ne_b6_b28 nin0)
      have EA6_at75 := EA6_at62.keep K71q
      have G22_0_at76 := G22_0_at63.keep K71q
      have A28_at77 := A28_at64.keep K71q
      have A46_at78 := A46_at70.keep K71q
      refine own_via (T' := T71) (g' := (mkF m 99 #[.val (.long x0), .second, .val (.int x1), .val (.int (0 : Int32)), .val (.long (x0 &&& (9223372036854775807 : Int64))), .second, .val (.ref a3), .val (.ref b6), .val (.ref b17), .unset] [(.ref b28)])) st71 ?_
      refine own_via (T' := T71) (g' := (mkF m 103 #[.val (.long x0), .second, .val (.int x1), .val (.int (0 : Int32)), .val (.long (x0 &&& (9223372036854775807 : Int64))), .second, .val (.ref a3), .val (.ref b6), .val (.ref b17), .val (.ref b28)] [(.ref b28)])) (fun t k => XS.astore X71.here hx rfl (hb hby at_99) rfl rfl (l' := #[.val (.long x0), .second, .val (.int x1), .val (.int (0 : Int32)), .val (.long (x0 &&& (9223372036854775807 : Int64))), .second, .val (.ref a3), .val (.ref b6), .val (.ref b17), .val (.ref b28)]) rfl (XS.aload X71.here hx rfl (hb hby at_101) rfl rfl k)) ?_
      obtain ⟨v79, T79, L79, X79, hQ79, st79⟩ := own_callVi (y := (⟨"com/example/recurve/recurve/http/HttpRequestHead", "chunked", "()Z"⟩ : MethodName)) (z := (⟨"com/example/recurve/recurve/http/HttpRequestHead", "chunked", "()Z"⟩ : MethodName)) (a := b28) (C := "com/example/recurve/recurve/http/HttpRequestHead") (argsL := []) (rest := []) X71 hx hZ hown (hw _ (List.mem_of_getElem? (i := 90) rfl)) (hw _ (List.mem_of_getElem? (i := 91) rfl)) (notFace_of_selects (args := #[]) (mvT hZ (hw _ (List.mem_of_getElem? (i := 93) rfl)))) (hw _ (List.mem_of_getElem? (i := 93) rfl)) (hw _ (List.mem_of_getElem? (i := 92) rfl)) (hw _ (List.mem_of_getElem? (i := 47) rfl)) (hw _ (List.mem_of_getElem? (i := 94) rfl)) (by decide) G71_0 (own_mt13 l Z a0 hw b28 (x0 &&& (9223372036854775807 : Int64)) T71.heap G71_1) rfl (W := 0) (by decide) (by decide) (g := (mkF m 103 #[.val (.long x0), .second, .val (.int x1), .val (.int (0 : Int32)), .val (.long (x0 &&& (9223372036854775807 : Int64))), .second, .val (.ref a3), .val (.ref b6), .val (.ref b17), .val (.ref b28)] [(.ref b28)])) rfl (by rw [hml]; rfl) (lenOf own_pd3 rfl) rfl (by show 2 * 0 + _ ≤ _; exact Nat.le_of_eq rfl) (hb hby at_103) (by decide) (by decide)
      obtain ⟨rfl, e79, rfl⟩ := hQ79
      have N79 := Fr.app N71 (Fr.nil n0)
      refine own_via (T' := T79) (g' := (mkF m 106 #[.val (.long x0), .second, .val (.int x1), .val (.int (0 : Int32)), .val (.long (x0 &&& (9223372036854775807 : Int64))), .second, .val (.ref a3), .val (.ref b6), .val (.ref b17), .val (.ref b28)] [(.int (own_ck (x0 &&& (9223372036854775807 : Int64))))])) st79 ?_
      refine own_via (T' := T79) (g' := (mkF m 107 #[.val (.long x0), .second, .val (.int x1), .val (.int (0 : Int32)), .val (.long (x0 &&& (9223372036854775807 : Int64))), .second, .val (.ref a3), .val (.ref b6), .val (.ref b17), .val (.ref b28)] [(.int (0 : Int32)), (.int (own_ck (x0 &&& (9223372036854775807 : Int64))))])) (fun t k => XS.iloadN X79.here hx rfl (hb hby at_106) rfl k) ?_
      by_cases hc80 : (own_ck (x0 &&& (9223372036854775807 : Int64))) = (0 : Int32)
      · refine own_via (T' := T79) (g' := (mkF m 115 #[.val (.long x0), .second, .val (.int x1), .val (.int (0 : Int32)), .val (.long (x0 &&& (9223372036854775807 : Int64))), .second, .val (.ref a3), .val (.ref b6), .val (.ref b17), .val (.ref b28)] [(.int (1 : Int32))])) (fun t k => XS.icmpNo X79.here hx rfl (hb hby at_107) rfl (teq hc80).2 (XS.iconst X79.here hx rfl (hb hby at_110) (XS.goto X79.here hx rfl (pc0 := 111) (pc' := 115) rfl (hb hby at_111) (by decide) (by decide) k))) ?_
        refine own_retNW X79 hx hS34 e79 kz72 hlk (ty := .boolean) hret (by simp) (hb hby at_115) (by decide) (by decide) ?_
        exact ⟨by rw [own_f0, if_pos hc1, if_pos hc2, if_pos hc80] <;> rfl, N79⟩
      · refine own_via (T' := T79) (g' := (mkF m 115 #[.val (.long x0), .second, .val (.int x1), .val (.int (0 : Int32)), .val (.long (x0 &&& (9223372036854775807 : Int64))), .second, .val (.ref a3), .val (.ref b6), .val (.ref b17), .val (.ref b28)] [(.int (0 : Int32))])) (fun t k => XS.icmpYes X79.here hx rfl (pc0 := 107) (pc' := 114) rfl (hb hby at_107) rfl (feq hc80).2 (by decide) (by decide) (XS.iconst X79.here hx rfl (hb hby at_114) k)) ?_
        refine own_retNW X79 hx hS34 e79 kz72 hlk (ty := .boolean) hret (by simp) (hb hby at_115) (by decide) (by decide) ?_
        exact ⟨by rw [own_f0, if_pos hc1, if_pos hc2, if_neg hc80] <;> rfl, N79⟩
    · refine own_via (T' := s₁) (g' := (mkF m 35 #[.val (.long x0), .second, .val (.int x1), .val (.int (0 : Int32)), .val (.long (x0 &&& (9223372036854775807 : Int64))), .second, .unset, .unset, .unset, .unset] [])) (fun t k => XS.ifNo X0.here hx rfl (hb hby at_32) rfl ((if0 _ _).trans (feq hc2).1) k) ?_
      obtain ⟨a81, T81, h81, kk81, X81, e81, E81, hS81, kz81, hZ, hown, st81⟩ := ldcS X0 hx hZ hown (hw _ (List.mem_of_getElem? (i := 1) rfl)) (own_strw hw) e0 hS0 kz0 (g := (mkF m 35 #[.val (.long x0), .second, .val (.int x1), .val (.int (0 : Int32)), .val (.long (x0 &&& (9223372036854775807 : Int64))), .second, .unset, .unset, .unset, .unset] [])) rfl (hb hby at_35) (n := 32) (by decide) (by decide) (by decide) (by decide)
      have kz82 := Nat.le_trans kz0 E81.1
      have Ol83 := Ol.ext E81
      have Z81 : n0 ≤ h81.size := Nat.le_trans Z0 E81.1
      refine own_via (T' := T81) (g' := (mkF m 37 #[.val (.long x0), .second, .val (.int x1), .val (.int (0 : Int32)), .val (.long (x0 &&& (9223372036854775807 : Int64))), .second, .unset, .unset, .unset, .unset] [(.ref a81)])) st81 ?_
      refine own_via (T' := T81) (g' := (mkF m 45 #[.val (.long x0), .second, .val (.int x1), .val (.int (0 : Int32)), .val (.long (x0 &&& (9223372036854775807 : Int64))), .second, .val (.ref a81), .unset, .unset, .unset] [(.int (2 : Int32))])) (fun t k => XS.goto X81.here hx rfl (pc0 := 37) (pc' := 42) rfl (hb hby at_37) (by decide) (by decide) (XS.astore X81.here hx rfl (hb hby at_42) rfl rfl (l' := #[.val (.long x0), .second, .val (.int x1), .val (.int (0 : Int32)), .val (.long (x0 &&& (9223372036854775807 : Int64))), .second, .val (.ref a81), .unset, .unset, .unset]) rfl (XS.iconst X81.here hx rfl (hb hby at_44) k))) ?_
      obtain ⟨T84, h84, k84, X84, e84, E84, A84, EA84, st84⟩ := newPE (ad := "[C") X81 hx hZ (hw _ (List.mem_of_getElem? (i := 9) rfl)) e81 (g := (mkF m 45 #[.val (.long x0), .second, .val (.int x1), .val (.int (0 : Int32)), .val (.long (x0 &&& (9223372036854775807 : Int64))), .second, .val (.ref a81), .unset, .unset, .unset] [(.int (2 : Int32))])) rfl (hb hby at_45) rfl (by decide) (cap := 2) (by decide) (by decide) (by decide) (by decide) (by decide)
      obtain ⟨b84, g84⟩ : ∃ z, z = h81.size := ⟨_, rfl⟩
      rw [← g84] at A84 EA84 st84
      have bd_b84 : h81.size ≤ b84 := Nat.le_of_eq g84.symm
      have ge_b84 : n0 ≤ b84 := Nat.le_trans Z81 bd_b84
      have Z84 : n0 ≤ h84.size := Nat.le_trans Z81 E84.1
      have kz85 := Nat.le_trans kz81 E84.1
      have Ol86 := Ol83.ext E84
      have V84 : own_Av Z h84 b84 .char [(.int (0 : Int32)), (.int (0 : Int32))] := own_Av.new A84
      refine own_via (T' := T84) (g' := (mkF m 47 #[.val (.long x0), .second, .val (.int x1), .val (.int (0 : Int32)), .val (.long (x0 &&& (9223372036854775807 : Int64))), .second, .val (.ref a81), .unset, .unset, .unset] [(.ref b84)])) st84 ?_
      refine own_via (T' := T84) (g' := (mkF m 51 #[.val (.long x0), .second, .val (.int x1), .val (.int (0 : Int32)), .val (.long (x0 &&& (9223372036854775807 : Int64))), .second, .val (.ref a81), .unset, .unset, .unset] [(.int (47 : Int32)), (.int (0 : Int32)), (.ref b84), (.ref b84)])) (fun t k => XS.dup X84.here hx rfl (hb hby at_47) rfl rfl (XS.iconst X84.here hx rfl (hb hby at_48) (XS.bipush X84.here hx rfl (hb hby at_49) k))) ?_
      obtain ⟨T87, h87, X87, e87, W87, V87, st87⟩ := own_stC X84 hx hZ e84 V84 (j := (0 : Int32)) (x := (47 : Int32)) (by decide) (show _ < 2 from by decide) (g := (mkF m 51 #[.val (.long x0), .second, .val (.int x1), .val (.int (0 : Int32)), .val (.long (x0 &&& (9223372036854775807 : Int64))), .second, .val (.ref a81), .unset, .unset, .unset] [(.int (47 : Int32)), (.int (0 : Int32)), (.ref b84), (.ref b84)])) rfl rfl (hb hby at_51)
      have kz88 := Nat.le_trans kz85 (Keep.of_wr W87).1
      have Ol89 := Ol86.wr W87 ge_b84
      have EA84_at90 := EA84.wr W87
      have N87 := Fr.snoc X87 N0 ge_b84
      have Z87 : n0 ≤ h87.size := Nat.le_trans Z84 (Nat.le_of_eq W87.size.symm)
      have Vb84_87 : own_Av Z h87 b84 .char [(.int (47 : Int32)), (.int (0 : Int32))] := V87
      refine own_via (T' := T87) (g' := (mkF m 52 #[.val (.long x0), .second, .val (.int x1), .val (.int (0 : Int32)), .val (.long (x0 &&& (9223372036854775807 : Int64))), .second, .val (.ref a81), .unset, .unset, .unset] [(.ref b84)])) st87 ?_
      refine own_via (T' := T87) (g' := (mkF m 63 #[.val (.long x0), .second, .val (.int x1), .val (.int (0 : Int32)), .val (.long (x0 &&& (9223372036854775807 : Int64))), .second, .val (.ref a81), .unset, .unset, .unset] [(.int ((((x1.toUInt32 >>> ((8 : Int32) &&& 31).toUInt32).toInt32) &&& (255 : Int32)).toUInt32.toUInt16.toUInt32.toInt32)), (.int (1 : Int32)), (.ref b84), (.ref b84)])) (fun t k => XS.dup X87.here hx rfl (hb hby at_52) rfl rfl (XS.iconst X87.here hx rfl (hb hby at_53) (XS.iloadN X87.here hx rfl (hb hby at_54) rfl (XS.bipush X87.here hx rfl (hb hby at_55) (XS.iushr X87.here hx rfl (hb hby at_57) rfl (XS.sipush X87.here hx rfl (hb hby at_58) (XS.iand X87.here hx rfl (hb hby at_61) rfl (XS.i2c X87.here hx rfl (hb hby at_62) rfl k)))))))) ?_
      obtain ⟨T91, h91, X91, e91, W91, V91, st91⟩ := own_stC X87 hx hZ e87 Vb84_87 (j := (1 : Int32)) (x := ((((x1.toUInt32 >>> ((8 : Int32) &&& 31).toUInt32).toInt32) &&& (255 : Int32)).toUInt32.toUInt16.toUInt32.toInt32)) (by decide) (show _ < 2 from by decide) (g := (mkF m 63 #[.val (.long x0), .second, .val (.int x1), .val (.int (0 : Int32)), .val (.long (x0 &&& (9223372036854775807 : Int64))), .second, .val (.ref a81), .unset, .unset, .unset] [(.int ((((x1.toUInt32 >>> ((8 : Int32) &&& 31).toUInt32).toInt32) &&& (255 : Int32)).toUInt32.toUInt16.toUInt32.toInt32)), (.int (1 : Int32)), (.ref b84), (.ref b84)])) rfl rfl (hb hby at_63)
      have kz92 := Nat.le_trans kz88 (Keep.of_wr W91).1
      have Ol93 := Ol89.wr W91 ge_b84
      have EA84_at94 := EA84_at90.wr W91
      have N91 := Fr.snoc X91 N87 ge_b84
      have Z91 : n0 ≤ h91.size := Nat.le_trans Z87 (Nat.le_of_eq W91.size.symm)
      have Vb84_91 : own_Av Z h91 b84 .char [(.int (47 : Int32)), (.int (((((x1.toUInt32 >>> ((8 : Int32) &&& 31).toUInt32).toInt32) &&& (255 : Int32)).toUInt32.toUInt16.toUInt32.toInt32).toUInt32.toUInt16.toUInt32.toInt32))] := V91
      refine own_via (T' := T91) (g' := (mkF m 64 #[.val (.long x0), .second, .val (.int x1), .val (.int (0 : Int32)), .val (.long (x0 &&& (9223372036854775807 : Int64))), .second, .val (.ref a81), .unset, .unset, .unset] [(.ref b84)])) st91 ?_
      refine own_via (T' := T91) (g' := (mkF m 66 #[.val (.long x0), .second, .val (.int x1), .val (.int (0 : Int32)), .val (.long (x0 &&& (9223372036854775807 : Int64))), .second, .val (.ref a81), .val (.ref b84), .unset, .unset] [])) (fun t k => XS.astore X91.here hx rfl (hb hby at_64) rfl rfl (l' := #[.val (.long x0), .second, .val (.int x1), .val (.int (0 : Int32)), .val (.long (x0 &&& (9223372036854775807 : Int64))), .second, .val (.ref a81), .val (.ref b84), .unset, .unset]) rfl k) ?_
      obtain ⟨T95, h95, X95, e95, E95, A95, D95, -, st95⟩ := newO X91 hx hZ hown (hw _ (List.mem_of_getElem? (i := 10) rfl)) (hw _ (List.mem_of_getElem? (i := 11) rfl)) (hw _ (List.mem_of_getElem? (i := 12) rfl)) e91 (g := (mkF m 66 #[.val (.long x0), .second, .val (.int x1), .val (.int (0 : Int32)), .val (.long (x0 &&& (9223372036854775807 : Int64))), .second, .val (.ref a81), .val (.ref b84), .unset, .unset] [])) rfl (hb hby at_66) (by decide) (by decide)
      obtain ⟨b95, g95⟩ : ∃ z, z = h91.size := ⟨_, rfl⟩
      rw [← g95] at A95 D95 st95
      have bd_b95 : h91.size ≤ b95 := Nat.le_of_eq g95.symm
      have ne_b84_b95 : b84 ≠ b95 := own_ne_of Vb84_91.lt bd_b95
      have ge_b95 : n0 ≤ b95 := Nat.le_trans Z91 bd_b95
      have Z95 : n0 ≤ h95.size := Nat.le_trans Z91 E95.1
      have kz96 := Nat.le_trans kz92 E95.1
      have Ol97 := Ol93.ext E95
      have Vb84_91_at98 := Vb84_91.ext E95
      have EA84_at99 := EA84_at94.ext E95
      have Ffields_95 : Fld Z h95 b95 "com/example/recurve/recurve/http/HttpFields" "fields" "Ljava/util/List;" .null := D95 (Or.inr (hw _ (List.mem_of_getElem? (i := 44) rfl))) (ty := (.object "java/util/List")) (by decide)
      refine own_via (T' := T95) (g' := (mkF m 69 #[.val (.long x0), .second, .val (.int x1), .val (.int (0 : Int32)), .val (.long (x0 &&& (9223372036854775807 : Int64))), .second, .val (.ref a81), .val (.ref b84), .unset, .unset] [(.ref b95)])) st95 ?_
      refine own_via (T' := T95) (g' := (mkF m 70 #[.val (.long x0), .second, .val (.int x1), .val (.int (0 : Int32)), .val (.long (x0 &&& (9223372036854775807 : Int64))), .second, .val (.ref a81), .val (.ref b84), .unset, .unset] [(.ref b95), (.ref b95)])) (fun t k => XS.dup X95.here hx rfl (hb hby at_69) rfl rfl k) ?_
      obtain ⟨v100, T100, L100, X100, hQ100, st100⟩ := own_callSp (y := (⟨"com/example/recurve/recurve/http/HttpFields", "<init>", "()V"⟩ : MethodName)) (a := b95) (argsL := []) (rest := [(.ref b95)]) X95 hx hZ hown rfl (hw _ (List.mem_of_getElem? (i := 13) rfl)) (hw _ (List.mem_of_getElem? (i := 14) rfl)) (hw _ (List.mem_of_getElem? (i := 12) rfl)) (hw _ (List.mem_of_getElem? (i := 15) rfl)) (by decide) (own_mt1 l Z a0 hw b95 dv h95 n0 Z95 ge_b95 A95 Ffields_95 S_de Ol97 hdn hdf) e95 (W := 1) (by decide) (by decide) (g := (mkF m 70 #[.val (.long x0), .second, .val (.int x1), .val (.int (0 : Int32)), .val (.long (x0 &&& (9223372036854775807 : Int64))), .second, .val (.ref a81), .val (.ref b84), .unset, .unset] [(.ref b95), (.ref b95)])) rfl (by rw [hml]; rfl) (lenOf own_pd0 rfl) rfl (by show 2 * 0 + _ ≤ _; exact Nat.le_of_eq rfl) (hb hby at_70) (by decide) (by decide)
      obtain ⟨rfl, Nq100, K100q, G100_0⟩ := hQ100
      have N100 := Fr.app N91 Nq100
      have Z100 : n0 ≤ T100.heap.size := Nat.le_trans Z95 K100q.1
      have kz101 := Nat.le_trans kz96 K100q.1
      have Ol102 := Ol97.keep K100q (allS ge_b95 all0)
      have Vb84_91_at103 := Vb84_91_at98.keep K100q (ninS ne_b84_b95 nin0)
      have EA84_at104 := EA84_at99.keep K100q
      have A95_at105 := A95.keep K100q
      refine own_via (T' := T100) (g' := (mkF m 73 #[.val (.long x0), .second, .val (.int x1), .val (.int (0 : Int32)), .val (.long (x0 &&& (9223372036854775807 : Int64))), .second, .val (.ref a81), .val (.ref b84), .unset, .unset] [(.ref b95)])) st100 ?_
      refine own_via (T' := T100) (g' := (mkF m 75 #[.val (.long x0), .second, .val (.int x1), .val (.int (0 : Int32)), .val (.long (x0 &&& (9223372036854775807 : Int64))), .second, .val (.ref a81), .val (.ref b84), .val (.ref b95), .unset] [])) (fun t k => XS.astore X100.here hx rfl (hb hby at_73) rfl rfl (l' := #[.val (.long x0), .second, .val (.int x1), .val (.int (0 : Int32)), .val (.long (x0 &&& (9223372036854775807 : Int64))), .second, .val (.ref a81), .val (.ref b84), .val (.ref b95), .unset]) rfl k) ?_
      obtain ⟨T106, h106, X106, e106, E106, A106, D106, -, st106⟩ := newO X100 hx hZ hown (hw _ (List.mem_of_getElem? (i := 45) rfl)) (hw _ (List.mem_of_getElem? (i := 46) rfl)) (hw _ (List.mem_of_getElem? (i := 47) rfl)) rfl (g := (mkF m 75 #[.val (.long x0), .second, .val (.int x1), .val (.int (0 : Int32)), .val (.long (x0 &&& (9223372036854775807 : Int64))), .second, .val (.ref a81), .val (.ref b84), .val (.ref b95), .unset] [])) rfl (hb hby at_75) (by decide) (by decide)
      obtain ⟨b106, g106⟩ : ∃ z, z = T100.heap.size := ⟨_, rfl⟩
      rw [← g106] at A106 D106 st106
      have bd_b106 : T100.heap.size ≤ b106 := Nat.le_of_eq g106.symm
      have ne_b84_b106 : b84 ≠ b106 := own_ne_of Vb84_91_at103.lt bd_b106
      have ne_b95_b106 : b95 ≠ b106 := own_ne_of G100_0.lt bd_b106
      have ge_b106 : n0 ≤ b106 := Nat.le_trans Z100 bd_b106
      have Z106 : n0 ≤ h106.size := Nat.le_trans Z100 E106.1
      have kz107 := Nat.le_trans kz101 E106.1
      have Ol108 := Ol102.ext E106
      have Vb84_91_at109 := Vb84_91_at103.ext E106
      have EA84_at110 := EA84_at104.ext E106
      have G100_0_at111 := G100_0.ext E106
      have Fmethod_106 : Fld Z h106 b106 "com/example/recurve/recurve/http/HttpRequestHead" "method" "Ljava/lang/String;" .null := D106 (Or.inr (hw _ (List.mem_of_getElem? (i := 81) rfl))) (ty := (.object "java/lang/String")) (by decide)
      have Ftarget_106 : Fld Z h106 b106 "com/example/recurve/recurve/http/HttpRequestHead" "target" "Ljava/lang/String;" .null := D106 (Or.inr (hw _ (List.mem_of_getElem? (i := 83) rfl))) (ty := (.object "java/lang/String")) (by decide)
      have Fprotocol_106 : Fld Z h106 b106 "com/example/recurve/recurve/http/HttpRequestHead" "protocol" "Ljava/lang/String;" .null := D106 (Or.inr (hw _ (List.mem_of_getElem? (i := 85) rfl))) (ty := (.object "java/lang/String")) (by decide)
      have Ffields_106 : Fld Z h106 b106 "com/example/recurve/recurve/http/HttpRequestHead" "fields" "Lcom/example/recurve/recurve/http/HttpFields;" .null := D106 (Or.inr (hw _ (List.mem_of_getElem? (i := 87) rfl))) (ty := (.object "com/example/recurve/recurve/http/HttpFields")) (by decide)
      have FcontentLength_106 : Fld Z h106 b106 "com/example/recurve/recurve/http/HttpRequestHead" "contentLength" "J" (.long (0 : Int64)) := D106 (Or.inr (hw _ (List.mem_of_getElem? (i := 89) rfl))) (ty := .long) (by decide)
      refine own_via (T' := T106) (g' := (mkF m 78 #[.val (.long x0), .second, .val (.int x1), .val (.int (0 : Int32)), .val (.long (x0 &&& (9223372036854775807 : Int64))), .second, .val (.ref a81), .val (.ref b84), .val (.ref b95), .unset] [(.ref b106)])) st106 ?_
      refine own_via (T' := T106) (g' := (mkF m 79 #[.val (.long x0), .second, .val (.int x1), .val (.int (0 : Int32)), .val (.long (x0 &&& (9223372036854775807 : Int64))), .second, .val (.ref a81), .val (.ref b84), .val (.ref b95), .unset] [(.ref b106), (.ref b106)])) (fun t k => XS.dup X106.here hx rfl (hb hby at_78) rfl rfl k) ?_
      obtain ⟨a112, T112, h112, kk112, X112, e112, E112, hS112, kz112, hZ, hown, st112⟩ := ldcS X106 hx hZ hown (hw _ (List.mem_of_getElem? (i := 48) rfl)) (own_strw hw) e106 hS81 kz107 (g := (mkF m 79 #[.val (.long x0), .second, .val (.int x1), .val (.int (0 : Int32)), .val (.long (x0 &&& (9223372036854775807 : Int64))), .second, .val (.ref a81), .val (.ref b84), .val (.ref b95), .unset] [(.ref b106), (.ref b106)])) rfl (hb hby at_79) (n := 12) (by decide) (by decide) (by decide) (by decide)
      have kz113 := Nat.le_trans kz107 E112.1
      have Ol114 := Ol108.ext E112
      have Vb84_91_at115 := Vb84_91_at109.ext E112
      have EA84_at116 := EA84_at110.ext E112
      have G100_0_at117 := G100_0_at111.ext E112
      have A106_at118 := A106.ext E112
      have Fmethod_106_at119 := Fmethod_106.ext E112
      have Ftarget_106_at120 := Ftarget_106.ext E112
      have Fprotocol_106_at121 := Fprotocol_106.ext E112
      have Ffields_106_at122 := Ffields_106.ext E112
      have FcontentLength_106_at123 := FcontentLength_106.ext E112
      have Z112 : n0 ≤ h112.size := Nat.le_trans Z106 E112.1
      refine own_via (T' := T112) (g' := (mkF m 81 #[.val (.long x0), .second, .val (.int x1), .val (.int (0 : Int32)), .val (.long (x0 &&& (9223372036854775807 : Int64))), .second, .val (.ref a81), .val (.ref b84), .val (.ref b95), .unset] [(.ref a112), (.ref b106), (.ref b106)])) st112 ?_
      obtain ⟨T124, h124, X124, e124, E124, A124, D124, -, st124⟩ := newO X112 hx hZ hown (hw _ (List.mem_of_getElem? (i := 49) rfl)) (hw _ (List.mem_of_getElem? (i := 3) rfl)) (hw _ (List.mem_of_getElem? (i := 2) rfl)) e112 (g := (mkF m 81 #[.val (.long x0), .second, .val (.int x1), .val (.int (0 : Int32)), .val (.long (x0 &&& (9223372036854775807 : Int64))), .second, .val (.ref a81), .val (.ref b84), .val (.ref b95), .unset] [(.ref a112), (.ref b106), (.ref b106)])) rfl (hb hby at_81) (by decide) (by decide)
      obtain ⟨b124, g124⟩ : ∃ z, z = h112.size := ⟨_, rfl⟩
      rw [← g124] at A124 D124 st124
      have bd_b124 : h112.size ≤ b124 := Nat.le_of_eq g124.symm
      have ne_b84_b124 : b84 ≠ b124 := own_ne_of Vb84_91_at115.lt bd_b124
      have ne_b95_b124 : b95 ≠ b124 := own_ne_of G100_0_at117.lt bd_b124
      have ne_b106_b124 : b106 ≠ b124 := own_ne_of A106_at118.lt bd_b124
      have ge_b124 : n0 ≤ b124 := Nat.le_trans Z112 bd_b124
      have Z124 : n0 ≤ h124.size := Nat.le_trans Z112 E124.1
      have kz125 := Nat.le_trans kz112 E124.1
      have Ol126 := Ol114.ext E124
      have Vb84_91_at127 := Vb84_91_at115.ext E124
      have EA84_at128 := EA84_at116.ext E124
      have G100_0_at129 := G100_0_at117.ext E124
      have A106_at130 := A106_at118.ext E124
      have Fmethod_106_at131 := Fmethod_106_at119.ext E124
      have Ftarget_106_at132 := Ftarget_106_at120.ext E124
      have Fprotocol_106_at133 := Fprotocol_106_at121.ext E124
      have Ffields_106_at134 := Ffields_106_at122.ext E124
      have FcontentLength_106_at135 := FcontentLength_106_at123.ext E124
      have Fvalue_124 : Fld Z h124 b124 "java/lang/String" "value" "[B" .null := D124 (Or.inr (hw _ (List.mem_of_getElem? (i := 5) rfl))) (ty := (.array .byte)) (by decide)
      have Fcoder_124 : Fld Z h124 b124 "java/lang/String" "coder" "B" (.int (0 : Int32)) := D124 (Or.inr (hw _ (List.mem_of_getElem? (i := 6) rfl))) (ty := .byte) (by decide)
      refine own_via (T' := T124) (g' := (mkF m 84 #[.val (.long x0), .second, .val (.int x1), .val (.int (0 : Int32)), .val (.long (x0 &&& (9223372036854775807 : Int64))), .second, .val (.ref a81), .val (.ref b84), .val (.ref b95), .unset] [(.ref b124), (.ref a112), (.ref b106), (.ref b106)])) st124 ?_
      refine own_via (T' := T124) (g' := (mkF m 87 #[.val (.long x0), .second, .val (.int x1), .val (.int (0 : Int32)), .val (.long (x0 &&& (9223372036854775807 : Int64))), .second, .val (.ref a81), .val (.ref b84), .val (.ref b95), .unset] [(.ref b84), (.ref b124), (.ref b124), (.ref a112), (.ref b106), (.ref b106)])) (fun t k => XS.dup X124.here hx rfl (hb hby at_84) rfl rfl (XS.aload X124.here hx rfl (hb hby at_85) rfl rfl k)) ?_
      obtain ⟨T136, L136, X136, Nq136, K136q, Eq136, st136⟩ := own_newStr X124 hx hZ hown hw (hw _ (List.mem_of_getElem? (i := 50) rfl)) (hw _ (List.mem_of_getElem? (i := 51) rfl)) (hw _ (List.mem_of_getElem? (i := 52) rfl)) (hw _ (List.mem_of_getElem? (i := 3) rfl)) (cs := ([(47 : Int32), (((((x1.toUInt32 >>> ((8 : Int32) &&& 31).toUInt32).toInt32) &&& (255 : Int32)).toUInt32.toUInt16.toUInt32.toInt32).toUInt32.toUInt16.toUInt32.toInt32)] : List Int32)) ge_b124 Z124 A124 Fvalue_124 Fcoder_124 Vb84_91_at127 (S_cs.ext Ol126.2) hcz (nl := 2) rfl (by decide) (by decide) (by intro c hc; simp only [List.mem_cons, List.not_mem_nil, or_false] at hc; rcases hc with rfl | rfl <;> first | exact own_l8 _ | decide) e124 (W := 4) (by decide) (by decide) (g := (mkF m 87 #[.val (.long x0), .second, .val (.int x1), .val (.int (0 : Int32)), .val (.long (x0 &&& (9223372036854775807 : Int64))), .second, .val (.ref a81), .val (.ref b84), .val (.ref b95), .unset] [(.ref b84), (.ref b124), (.ref b124), (.ref a112), (.ref b106), (.ref b106)])) rfl (by rw [hml]; rfl) (lenOf own_pd1 rfl) rfl (by show 2 * 0 + _ ≤ _; exact Nat.le_of_eq rfl) (hb hby at_87) (by decide) (by decide)
      have N136 := Fr.app N100 Nq136
      have Z136 : n0 ≤ T136.heap.size := Nat.le_trans Z124 K136q.1
      have kz137 := Nat.le_trans kz125 K136q.1
      have Ol138 := Ol126.keep K136q (allS ge_b124 all0)
      have Vb84_91_at139 := Vb84_91_at127.keep K136q (ninS ne_b84_b124 nin0)
      have EA84_at140 := EA84_at128.keep K136q
      have G100_0_at141 := G100_0_at129.keep K136q
      have A106_at142 := A106_at130.keep K136q
      have Fmethod_106_at143 := Fmethod_106_at131.keep K136q (ninS ne_b106_b124 nin0)
      have Ftarget_106_at144 := Ftarget_106_at132.keep K136q (ninS ne_b106_b124 nin0)
      have Fprotocol_106_at145 := Fprotocol_106_at133.keep K136q (ninS ne_b106_b124 nin0)
      have Ffields_106_at146 := Ffields_106_at134.keep K136q (ninS ne_b106_b124 nin0)
      have FcontentLength_106_at147 := FcontentLength_106_at135.keep K136q (ninS ne_b106_b124 nin0)
      have A124_at148 := A124.keep K136q
      refine own_via (T' := T136) (g' := (mkF m 90 #[.val (.long x0), .second, .val (.int x1), .val (.int (0 : Int32)), .val (.long (x0 &&& (9223372036854775807 : Int64))), .second, .val (.ref a81), .val (.ref b84), .val (.ref b95), .unset] [(.ref b124), (.ref a112), (.ref b106), (.ref b106)])) st136 ?_
      refine own_via (T' := T136) (g' := (mkF m 96 #[.val (.long x0), .second, .val (.int x1), .val (.int (0 : Int32)), .val (.long (x0 &&& (9223372036854775807 : Int64))), .second, .val (.ref a81), .val (.ref b84), .val (.ref b95), .unset] [(.long (x0 &&& (9223372036854775807 : Int64))), (.ref b95), (.ref a81), (.ref b124), (.ref a112), (.ref b106), (.ref b106)])) (fun t k => XS.aload X136.here hx rfl (hb hby at_90) rfl rfl (XS.aload X136.here hx rfl (hb hby at_92) rfl rfl (XS.lload X136.here hx rfl (hb hby at_94) rfl k))) ?_
      obtain ⟨v149, T149, L149, X149, hQ149, st149⟩ := own_callSp (y := (⟨"com/example/recurve/recurve/http/HttpRequestHead", "<init>", "(Ljava/lang/String;Ljava/lang/String;Ljava/lang/String;Lcom/example/recurve/recurve/http/HttpFields;J)V"⟩ : MethodName)) (a := b106) (argsL := [(.ref a112), (.ref b124), (.ref a81), (.ref b95), (.long (x0 &&& (9223372036854775807 : Int64)))]) (rest := [(.ref b106)]) X136 hx hZ hown rfl (hw _ (List.mem_of_getElem? (i := 71) rfl)) (hw _ (List.mem_of_getElem? (i := 72) rfl)) (hw _ (List.mem_of_getElem? (i := 47) rfl)) (hw _ (List.mem_of_getElem? (i := 73) rfl)) (by decide) (own_mt11 l Z a0 hw b106 a112 b124 a81 b95 (x0 &&& (9223372036854775807 : Int64)) T136.heap n0 Z136 ge_b106 A106_at142 Fmethod_106_at143 Ftarget_106_at144 Fprotocol_106_at145 Ffields_106_at146 FcontentLength_106_at147) rfl (W := 1) (by decide) (by decide) (g := (mkF m 96 #[.val (.long x0), .second, .val (.int x1), .val (.int (0 : Int32)), .val (.long (x0 &&& (9223372036854775807 : Int64))), .second, .val (.ref a81), .val (.ref b84), .val (.ref b95), .unset] [(.long (x0 &&& (9223372036854775807 : Int64))), (.ref b95), (.ref a81), (.ref b124), (.ref a112), (.ref b106), (.ref b106)])) rfl (by rw [hml]; rfl) (lenOf own_pd2 rfl) rfl (by show 2 * 0 + _ ≤ _; exact Nat.le_of_eq rfl) (hb hby at_96) (by decide) (by decide)
      obtain ⟨rfl, Nq149, K149q, G149_0, G149_1⟩ := hQ149
      have N149 := Fr.app N136 Nq149
      have Z149 : n0 ≤ T149.heap.size := Nat.le_trans Z136 K149q.1
      have kz150 := Nat.le_trans kz137 K149q.1
      have Ol151 := Ol138.keep K149q (allS ge_b106 all0)
      have Vb84_91_at152 := Vb84_91_at139.keep K149q (ninS ne_b84_b106 nin0)
      have EA84_at153 := EA84_at140.keep K149q
      have G100_0_at154 := G100_0_at141.keep K149q
      have A106_at155 := A106_at142.keep K149q
      have A124_at156 := A124_at148.keep K149q
      refine own_via (T' := T149) (g' := (mkF m 99 #[.val (.long x0), .second, .val (.int x1), .val (.int (0 : Int32)), .val (.long (x0 &&& (9223372036854775807 : Int64))), .second, .val (.ref a81), .val (.ref b84), .val (.ref b95), .unset] [(.ref b106)])) st149 ?_
      refine own_via (T' := T149) (g' := (mkF m 103 #[.val (.long x0), .second, .val (.int x1), .val (.int (0 : Int32)), .val (.long (x0 &&& (9223372036854775807 : Int64))), .second, .val (.ref a81), .val (.ref b84), .val (.ref b95), .val (.ref b106)] [(.ref b106)])) (fun t k => XS.astore X149.here hx rfl (hb hby at_99) rfl rfl (l' := #[.val (.long x0), .second, .val (.int x1), .val (.int (0 : Int32)), .val (.long (x0 &&& (9223372036854775807 : Int64))), .second, .val (.ref a81), .val (.ref b84), .val (.ref b95), .val (.ref b106)]) rfl (XS.aload X149.here hx rfl (hb hby at_101) rfl rfl k)) ?_
      obtain ⟨v157, T157, L157, X157, hQ157, st157⟩ := own_callVi (y := (⟨"com/example/recurve/recurve/http/HttpRequestHead", "chunked", "()Z"⟩ : MethodName)) (z := (⟨"com/example/recurve/recurve/http/HttpRequestHead", "chunked", "()Z"⟩ : MethodName)) (a := b106) (C := "com/example/recurve/recurve/http/HttpRequestHead") (argsL := []) (rest := []) X149 hx hZ hown (hw _ (List.mem_of_getElem? (i := 90) rfl)) (hw _ (List.mem_of_getElem? (i := 91) rfl)) (notFace_of_selects (args := #[]) (mvT hZ (hw _ (List.mem_of_getElem? (i := 93) rfl)))) (hw _ (List.mem_of_getElem? (i := 93) rfl)) (hw _ (List.mem_of_getElem? (i := 92) rfl)) (hw _ (List.mem_of_getElem? (i := 47) rfl)) (hw _ (List.mem_of_getElem? (i := 94) rfl)) (by decide) G149_0 (own_mt13 l Z a0 hw b106 (x0 &&& (9223372036854775807 : Int64)) T149.heap G149_1) rfl (W := 0) (by decide) (by decide) (g := (mkF m 103 #[.val (.long x0), .second, .val (.int x1), .val (.int (0 : Int32)), .val (.long (x0 &&& (9223372036854775807 : Int64))), .second, .val (.ref a81), .val (.ref b84), .val (.ref b95), .val (.ref b106)] [(.ref b106)])) rfl (by rw [hml]; rfl) (lenOf own_pd3 rfl) rfl (by show 2 * 0 + _ ≤ _; exact Nat.le_of_eq rfl) (hb hby at_103) (by decide) (by decide)
      obtain ⟨rfl, e157, rfl⟩ := hQ157
      have N157 := Fr.app N149 (Fr.nil n0)
      refine own_via (T' := T157) (g' := (mkF m 106 #[.val (.long x0), .second, .val (.int x1), .val (.int (0 : Int32)), .val (.long (x0 &&& (9223372036854775807 : Int64))), .second, .val (.ref a81), .val (.ref b84), .val (.ref b95), .val (.ref b106)] [(.int (own_ck (x0 &&& (9223372036854775807 : Int64))))])) st157 ?_
      refine own_via (T' := T157) (g' := (mkF m 107 #[.val (.long x0), .second, .val (.int x1), .val (.int (0 : Int32)), .val (.long (x0 &&& (9223372036854775807 : Int64))), .second, .val (.ref a81), .val (.ref b84), .val (.ref b95), .val (.ref b106)] [(.int (0 : Int32)), (.int (own_ck (x0 &&& (9223372036854775807 : Int64))))])) (fun t k => XS.iloadN X157.here hx rfl (hb hby at_106) rfl k) ?_
      by_cases hc158 : (own_ck (x0 &&& (9223372036854775807 : Int64))) = (0 : Int32)
      · refine own_via (T' := T157) (g' := (mkF m 115 #[.val (.long x0), .second, .val (.int x1), .val (.int (0 : Int32)), .val (.long (x0 &&& (9223372036854775807 : Int64))), .second, .val (.ref a81), .val (.ref b84), .val (.ref b95), .val (.ref b106)] [(.int (1 : Int32))])) (fun t k => XS.icmpNo X157.here hx rfl (hb hby at_107) rfl (teq hc158).2 (XS.iconst X157.here hx rfl (hb hby at_110) (XS.goto X157.here hx rfl (pc0 := 111) (pc' := 115) rfl (hb hby at_111) (by decide) (by decide) k))) ?_
        refine own_retNW X157 hx hS112 e157 kz150 hlk (ty := .boolean) hret (by simp) (hb hby at_115) (by decide) (by decide) ?_
        exact ⟨by rw [own_f0, if_pos hc1, if_neg hc2, if_pos hc158] <;> rfl, N157⟩
      · refine own_via (T' := T157) (g' := (mkF m 115 #[.val (.long x0), .second, .val (.int x1), .val (.int (0 : Int32)), .val (.long (x0 &&& (9223372036854775807 : Int64))), .second, .val (.ref a81), .val (.ref b84), .val (.ref b95), .val (.ref b106)] [(.int (0 : Int32))])) (fun t k => XS.icmpYes X157.here hx rfl (pc0 := 107) (pc' := 114) rfl (hb hby at_107) rfl (feq hc158).2 (by decide) (by decide) (XS.iconst X157.here hx rfl (hb hby at_114) k)) ?_
        refine own_retNW X157 hx hS112 e157 kz150 hlk (ty := .boolean) hret (by simp) (hb hby at_115) (by decide) (by decide) ?_
        exact ⟨by rw [own_f0, if_pos hc1, if_neg hc2, if_neg hc158] <;> rfl, N157⟩
  · refine own_via (T' := s₁) (g' := (mkF m 13 #[.val (.long x0), .second, .val (.int x1), .val (.int (1 : Int32)), .unset, .unset, .unset, .unset, .unset, .unset] [(.int (1 : Int32))])) (fun t k => XS.ifNo X0.here hx rfl (hb hby at_3) rfl ((if0 _ _).trans (feq hc1).1) (XS.iconst X0.here hx rfl (hb hby at_6) (XS.goto X0.here hx rfl (pc0 := 7) (pc' := 11) rfl (hb hby at_7) (by decide) (by decide) (XS.istoreN X0.here hx rfl (hb hby at_11) rfl (l' := #[.val (.long x0), .second, .val (.int x1), .val (.int (1 : Int32)), .unset, .unset, .unset, .unset, .unset, .unset]) rfl (XS.iloadN X0.here hx rfl (hb hby at_12) rfl k))))) ?_
    refine own_via (T' := s₁) (g' := (mkF m 16 #[.val (.long x0), .second, .val (.int x1), .val (.int (1 : Int32)), .unset, .unset, .unset, .unset, .unset, .unset] [])) (fun t k => XS.ifNo X0.here hx rfl (hb hby at_13) rfl ((if0 _ _).trans (feq (by decide : ¬ ((1 : Int32) = (0 : Int32)))).1) k) ?_
    refine own_via (T' := s₁) (g' := (mkF m 19 #[.val (.long x0), .second, .val (.int x1), .val (.int (1 : Int32)), .unset, .unset, .unset, .unset, .unset, .unset] [(.long (-1 : Int64))])) (X0.ldc2Long hx hown (mvT hZ (hw _ (List.mem_of_getElem? (i := 96) rfl))) (g := (mkF m 16 #[.val (.long x0), .second, .val (.int x1), .val (.int (1 : Int32)), .unset, .unset, .unset, .unset, .unset, .unset] [])) rfl (hb hby at_16)) ?_
    refine own_via (T' := s₁) (g' := (mkF m 32 #[.val (.long x0), .second, .val (.int x1), .val (.int (1 : Int32)), .val (.long (-1 : Int64)), .second, .unset, .unset, .unset, .unset] [(.int (x1 &&& (2 : Int32)))])) (fun t k => XS.goto X0.here hx rfl (pc0 := 19) (pc' := 27) rfl (hb hby at_19) (by decide) (by decide) (XS.lstore X0.here hx rfl (hb hby at_27) rfl (l' := #[.val (.long x0), .second, .val (.int x1), .val (.int (1 : Int32)), .val (.long (-1 : Int64)), .second, .unset, .unset, .unset, .unset]) rfl (XS.iloadN X0.here hx rfl (hb hby at_29) rfl (XS.iconst X0.here hx rfl (hb hby at_30) (XS.iand X0.here hx rfl (hb hby at_31) rfl k))))) ?_
    by_cases hc159 : (x1 &&& (2 : Int32)) = (0 : Int32)
    · refine own_via (T' := s₁) (g' := (mkF m 40 #[.val (.long x0), .second, .val (.int x1), .val (.int (1 : Int32)), .val (.long (-1 : Int64)), .second, .unset, .unset, .unset, .unset] [])) (fun t k => XS.ifYes X0.here hx rfl (pc0 := 32) (pc' := 40) rfl (hb hby at_32) rfl ((if0 _ _).trans (teq hc159).1) (by decide) (by decide) k) ?_
      obtain ⟨a160, T160, h160, kk160, X160, e160, E160, hS160, kz160, hZ, hown, st160⟩ := ldcS X0 hx hZ hown (hw _ (List.mem_of_getElem? (i := 95) rfl)) (own_strw hw) e0 hS0 kz0 (g := (mkF m 40 #[.val (.long x0), .second, .val (.int x1), .val (.int (1 : Int32)), .val (.long (-1 : Int64)), .second, .unset, .unset, .unset, .unset] [])) rfl (hb hby at_40) (n := 32) (by decide) (by decide) (by decide) (by decide)
      have kz161 := Nat.le_trans kz0 E160.1
      have Ol162 := Ol.ext E160
      have Z160 : n0 ≤ h160.size := Nat.le_trans Z0 E160.1
      refine own_via (T' := T160) (g' := (mkF m 42 #[.val (.long x0), .second, .val (.int x1), .val (.int (1 : Int32)), .val (.long (-1 : Int64)), .second, .unset, .unset, .unset, .unset] [(.ref a160)])) st160 ?_
      refine own_via (T' := T160) (g' := (mkF m 45 #[.val (.long x0), .second, .val (.int x1), .val (.int (1 : Int32)), .val (.long (-1 : Int64)), .second, .val (.ref a160), .unset, .unset, .unset] [(.int (2 : Int32))])) (fun t k => XS.astore X160.here hx rfl (hb hby at_42) rfl rfl (l' := #[.val (.long x0), .second, .val (.int x1), .val (.int (1 : Int32)), .val (.long (-1 : Int64)), .second, .val (.ref a160), .unset, .unset, .unset]) rfl (XS.iconst X160.here hx rfl (hb hby at_44) k)) ?_
      obtain ⟨T163, h163, k163, X163, e163, E163, A163, EA163, st163⟩ := newPE (ad := "[C") X160 hx hZ (hw _ (List.mem_of_getElem? (i := 9) rfl)) e160 (g := (mkF m 45 #[.val (.long x0), .second, .val (.int x1), .val (.int (1 : Int32)), .val (.long (-1 : Int64)), .second, .val (.ref a160), .unset, .unset, .unset] [(.int (2 : Int32))])) rfl (hb hby at_45) rfl (by decide) (cap := 2) (by decide) (by decide) (by decide) (by decide) (by decide)
      obtain ⟨b163, g163⟩ : ∃ z, z = h160.size := ⟨_, rfl⟩
      rw [← g163] at A163 EA163 st163
      have bd_b163 : h160.size ≤ b163 := Nat.le_of_eq g163.symm
      have ge_b163 : n0 ≤ b163 := Nat.le_trans Z160 bd_b163
      have Z163 : n0 ≤ h163.size := Nat.le_trans Z160 E163.1
      have kz164 := Nat.le_trans kz160 E163.1
      have Ol165 := Ol162.ext E163
      have V163 : own_Av Z h163 b163 .char [(.int (0 : Int32)), (.int (0 : Int32))] := own_Av.new A163
      refine own_via (T' := T163) (g' := (mkF m 47 #[.val (.long x0), .second, .val (.int x1), .val (.int (1 : Int32)), .val (.long (-1 : Int64)), .second, .val (.ref a160), .unset, .unset, .unset] [(.ref b163)])) st163 ?_
      refine own_via (T' := T163) (g' := (mkF m 51 #[.val (.long x0), .second, .val (.int x1), .val (.int (1 : Int32)), .val (.long (-1 : Int64)), .second, .val (.ref a160), .unset, .unset, .unset] [(.int (47 : Int32)), (.int (0 : Int32)), (.ref b163), (.ref b163)])) (fun t k => XS.dup X163.here hx rfl (hb hby at_47) rfl rfl (XS.iconst X163.here hx rfl (hb hby at_48) (XS.bipush X163.here hx rfl (hb hby at_49) k))) ?_
      obtain ⟨T166, h166, X166, e166, W166, V166, st166⟩ := own_stC X163 hx hZ e163 V163 (j := (0 : Int32)) (x := (47 : Int32)) (by decide) (show _ < 2 from by decide) (g := (mkF m 51 #[.val (.long x0), .second, .val (.int x1), .val (.int (1 : Int32)), .val (.long (-1 : Int64)), .second, .val (.ref a160), .unset, .unset, .unset] [(.int (47 : Int32)), (.int (0 : Int32)), (.ref b163), (.ref b163)])) rfl rfl (hb hby at_51)
      have kz167 := Nat.le_trans kz164 (Keep.of_wr W166).1
      have Ol168 := Ol165.wr W166 ge_b163
      have EA163_at169 := EA163.wr W166
      have N166 := Fr.snoc X166 N0 ge_b163
      have Z166 : n0 ≤ h166.size := Nat.le_trans Z163 (Nat.le_of_eq W166.size.symm)
      have Vb163_166 : own_Av Z h166 b163 .char [(.int (47 : Int32)), (.int (0 : Int32))] := V166
      refine own_via (T' := T166) (g' := (mkF m 52 #[.val (.long x0), .second, .val (.int x1), .val (.int (1 : Int32)), .val (.long (-1 : Int64)), .second, .val (.ref a160), .unset, .unset, .unset] [(.ref b163)])) st166 ?_
      refine own_via (T' := T166) (g' := (mkF m 63 #[.val (.long x0), .second, .val (.int x1), .val (.int (1 : Int32)), .val (.long (-1 : Int64)), .second, .val (.ref a160), .unset, .unset, .unset] [(.int ((((x1.toUInt32 >>> ((8 : Int32) &&& 31).toUInt32).toInt32) &&& (255 : Int32)).toUInt32.toUInt16.toUInt32.toInt32)), (.int (1 : Int32)), (.ref b163), (.ref b163)])) (fun t k => XS.dup X166.here hx rfl (hb hby at_52) rfl rfl (XS.iconst X166.here hx rfl (hb hby at_53) (XS.iloadN X166.here hx rfl (hb hby at_54) rfl (XS.bipush X166.here hx rfl (hb hby at_55) (XS.iushr X166.here hx rfl (hb hby at_57) rfl (XS.sipush X166.here hx rfl (hb hby at_58) (XS.iand X166.here hx rfl (hb hby at_61) rfl (XS.i2c X166.here hx rfl (hb hby at_62) rfl k)))))))) ?_
      obtain ⟨T170, h170, X170, e170, W170, V170, st170⟩ := own_stC X166 hx hZ e166 Vb163_166 (j := (1 : Int32)) (x := ((((x1.toUInt32 >>> ((8 : Int32) &&& 31).toUInt32).toInt32) &&& (255 : Int32)).toUInt32.toUInt16.toUInt32.toInt32)) (by decide) (show _ < 2 from by decide) (g := (mkF m 63 #[.val (.long x0), .second, .val (.int x1), .val (.int (1 : Int32)), .val (.long (-1 : Int64)), .second, .val (.ref a160), .unset, .unset, .unset] [(.int ((((x1.toUInt32 >>> ((8 : Int32) &&& 31).toUInt32).toInt32) &&& (255 : Int32)).toUInt32.toUInt16.toUInt32.toInt32)), (.int (1 : Int32)), (.ref b163), (.ref b163)])) rfl rfl (hb hby at_63)
      have kz171 := Nat.le_trans kz167 (Keep.of_wr W170).1
      have Ol172 := Ol168.wr W170 ge_b163
      have EA163_at173 := EA163_at169.wr W170
      have N170 := Fr.snoc X170 N166 ge_b163
      have Z170 : n0 ≤ h170.size := Nat.le_trans Z166 (Nat.le_of_eq W170.size.symm)
      have Vb163_170 : own_Av Z h170 b163 .char [(.int (47 : Int32)), (.int (((((x1.toUInt32 >>> ((8 : Int32) &&& 31).toUInt32).toInt32) &&& (255 : Int32)).toUInt32.toUInt16.toUInt32.toInt32).toUInt32.toUInt16.toUInt32.toInt32))] := V170
      refine own_via (T' := T170) (g' := (mkF m 64 #[.val (.long x0), .second, .val (.int x1), .val (.int (1 : Int32)), .val (.long (-1 : Int64)), .second, .val (.ref a160), .unset, .unset, .unset] [(.ref b163)])) st170 ?_
      refine own_via (T' := T170) (g' := (mkF m 66 #[.val (.long x0), .second, .val (.int x1), .val (.int (1 : Int32)), .val (.long (-1 : Int64)), .second, .val (.ref a160), .val (.ref b163), .unset, .unset] [])) (fun t k => XS.astore X170.here hx rfl (hb hby at_64) rfl rfl (l' := #[.val (.long x0), .second, .val (.int x1), .val (.int (1 : Int32)), .val (.long (-1 : Int64)), .second, .val (.ref a160), .val (.ref b163), .unset, .unset]) rfl k) ?_
      obtain ⟨T174, h174, X174, e174, E174, A174, D174, -, st174⟩ := newO X170 hx hZ hown (hw _ (List.mem_of_getElem? (i := 10) rfl)) (hw _ (List.mem_of_getElem? (i := 11) rfl)) (hw _ (List.mem_of_getElem? (i := 12) rfl)) e170 (g := (mkF m 66 #[.val (.long x0), .second, .val (.int x1), .val (.int (1 : Int32)), .val (.long (-1 : Int64)), .second, .val (.ref a160), .val (.ref b163), .unset, .unset] [])) rfl (hb hby at_66) (by decide) (by decide)
      obtain ⟨b174, g174⟩ : ∃ z, z = h170.size := ⟨_, rfl⟩
      rw [← g174] at A174 D174 st174
      have bd_b174 : h170.size ≤ b174 := Nat.le_of_eq g174.symm
      have ne_b163_b174 : b163 ≠ b174 := own_ne_of Vb163_170.lt bd_b174
      have ge_b174 : n0 ≤ b174 := Nat.le_trans Z170 bd_b174
      have Z174 : n0 ≤ h174.size := Nat.le_trans Z170 E174.1
      have kz175 := Nat.le_trans kz171 E174.1
      have Ol176 := Ol172.ext E174
      have Vb163_170_at177 := Vb163_170.ext E174
      have EA163_at178 := EA163_at173.ext E174
      have Ffields_174 : Fld Z h174 b174 "com/example/recurve/recurve/http/HttpFields" "fields" "Ljava/util/List;" .null := D174 (Or.inr (hw _ (List.mem_of_getElem? (i := 44) rfl))) (ty := (.object "java/util/List")) (by decide)
      refine own_via (T' := T174) (g' := (mkF m 69 #[.val (.long x0), .second, .val (.int x1), .val (.int (1 : Int32)), .val (.long (-1 : Int64)), .second, .val (.ref a160), .val (.ref b163), .unset, .unset] [(.ref b174)])) st174 ?_
      refine own_via (T' := T174) (g' := (mkF m 70 #[.val (.long x0), .second, .val (.int x1), .val (.int (1 : Int32)), .val (.long (-1 : Int64)), .second, .val (.ref a160), .val (.ref b163), .unset, .unset] [(.ref b174), (.ref b174)])) (fun t k => XS.dup X174.here hx rfl (hb hby at_69) rfl rfl k) ?_
      obtain ⟨v179, T179, L179, X179, hQ179, st179⟩ := own_callSp (y := (⟨"com/example/recurve/recurve/http/HttpFields", "<init>", "()V"⟩ : MethodName)) (a := b174) (argsL := []) (rest := [(.ref b174)]) X174 hx hZ hown rfl (hw _ (List.mem_of_getElem? (i := 13) rfl)) (hw _ (List.mem_of_getElem? (i := 14) rfl)) (hw _ (List.mem_of_getElem? (i := 12) rfl)) (hw _ (List.mem_of_getElem? (i := 15) rfl)) (by decide) (own_mt1 l Z a0 hw b174 dv h174 n0 Z174 ge_b174 A174 Ffields_174 S_de Ol176 hdn hdf) e174 (W := 1) (by decide) (by decide) (g := (mkF m 70 #[.val (.long x0), .second, .val (.int x1), .val (.int (1 : Int32)), .val (.long (-1 : Int64)), .second, .val (.ref a160), .val (.ref b163), .unset, .unset] [(.ref b174), (.ref b174)])) rfl (by rw [hml]; rfl) (lenOf own_pd0 rfl) rfl (by show 2 * 0 + _ ≤ _; exact Nat.le_of_eq rfl) (hb hby at_70) (by decide) (by decide)
      obtain ⟨rfl, Nq179, K179q, G179_0⟩ := hQ179
      have N179 := Fr.app N170 Nq179
      have Z179 : n0 ≤ T179.heap.size := Nat.le_trans Z174 K179q.1
      have kz180 := Nat.le_trans kz175 K179q.1
      have Ol181 := Ol176.keep K179q (allS ge_b174 all0)
      have Vb163_170_at182 := Vb163_170_at177.keep K179q (ninS ne_b163_b174 nin0)
      have EA163_at183 := EA163_at178.keep K179q
      have A174_at184 := A174.keep K179q
      refine own_via (T' := T179) (g' := (mkF m 73 #[.val (.long x0), .second, .val (.int x1), .val (.int (1 : Int32)), .val (.long (-1 : Int64)), .second, .val (.ref a160), .val (.ref b163), .unset, .unset] [(.ref b174)])) st179 ?_
      refine own_via (T' := T179) (g' := (mkF m 75 #[.val (.long x0), .second, .val (.int x1), .val (.int (1 : Int32)), .val (.long (-1 : Int64)), .second, .val (.ref a160), .val (.ref b163), .val (.ref b174), .unset] [])) (fun t k => XS.astore X179.here hx rfl (hb hby at_73) rfl rfl (l' := #[.val (.long x0), .second, .val (.int x1), .val (.int (1 : Int32)), .val (.long (-1 : Int64)), .second, .val (.ref a160), .val (.ref b163), .val (.ref b174), .unset]) rfl k) ?_
      obtain ⟨T185, h185, X185, e185, E185, A185, D185, -, st185⟩ := newO X179 hx hZ hown (hw _ (List.mem_of_getElem? (i := 45) rfl)) (hw _ (List.mem_of_getElem? (i := 46) rfl)) (hw _ (List.mem_of_getElem? (i := 47) rfl)) rfl (g := (mkF m 75 #[.val (.long x0), .second, .val (.int x1), .val (.int (1 : Int32)), .val (.long (-1 : Int64)), .second, .val (.ref a160), .val (.ref b163), .val (.ref b174), .unset] [])) rfl (hb hby at_75) (by decide) (by decide)
      obtain ⟨b185, g185⟩ : ∃ z, z = T179.heap.size := ⟨_, rfl⟩
      rw [← g185] at A185 D185 st185
      have bd_b185 : T179.heap.size ≤ b185 := Nat.le_of_eq g185.symm
      have ne_b163_b185 : b163 ≠ b185 := own_ne_of Vb163_170_at182.lt bd_b185
      have ne_b174_b185 : b174 ≠ b185 := own_ne_of G179_0.lt bd_b185
      have ge_b185 : n0 ≤ b185 := Nat.le_trans Z179 bd_b185
      have Z185 : n0 ≤ h185.size := Nat.le_trans Z179 E185.1
      have kz186 := Nat.le_trans kz180 E185.1
      have Ol187 := Ol181.ext E185
      have Vb163_170_at188 := Vb163_170_at182.ext E185
      have EA163_at189 := EA163_at183.ext E185
      have G179_0_at190 := G179_0.ext E185
      have Fmethod_185 : Fld Z h185 b185 "com/example/recurve/recurve/http/HttpRequestHead" "method" "Ljava/lang/String;" .null := D185 (Or.inr (hw _ (List.mem_of_getElem? (i := 81) rfl))) (ty := (.object "java/lang/String")) (by decide)
      have Ftarget_185 : Fld Z h185 b185 "com/example/recurve/recurve/http/HttpRequestHead" "target" "Ljava/lang/String;" .null := D185 (Or.inr (hw _ (List.mem_of_getElem? (i := 83) rfl))) (ty := (.object "java/lang/String")) (by decide)
      have Fprotocol_185 : Fld Z h185 b185 "com/example/recurve/recurve/http/HttpRequestHead" "protocol" "Ljava/lang/String;" .null := D185 (Or.inr (hw _ (List.mem_of_getElem? (i := 85) rfl))) (ty := (.object "java/lang/String")) (by decide)
      have Ffields_185 : Fld Z h185 b185 "com/example/recurve/recurve/http/HttpRequestHead" "fields" "Lcom/example/recurve/recurve/http/HttpFields;" .null := D185 (Or.inr (hw _ (List.mem_of_getElem? (i := 87) rfl))) (ty := (.object "com/example/recurve/recurve/http/HttpFields")) (by decide)
      have FcontentLength_185 : Fld Z h185 b185 "com/example/recurve/recurve/http/HttpRequestHead" "contentLength" "J" (.long (0 : Int64)) := D185 (Or.inr (hw _ (List.mem_of_getElem? (i := 89) rfl))) (ty := .long) (by decide)
      refine own_via (T' := T185) (g' := (mkF m 78 #[.val (.long x0), .second, .val (.int x1), .val (.int (1 : Int32)), .val (.long (-1 : Int64)), .second, .val (.ref a160), .val (.ref b163), .val (.ref b174), .unset] [(.ref b185)])) st185 ?_
      refine own_via (T' := T185) (g' := (mkF m 79 #[.val (.long x0), .second, .val (.int x1), .val (.int (1 : Int32)), .val (.long (-1 : Int64)), .second, .val (.ref a160), .val (.ref b163), .val (.ref b174), .unset] [(.ref b185), (.ref b185)])) (fun t k => XS.dup X185.here hx rfl (hb hby at_78) rfl rfl k) ?_
      obtain ⟨a191, T191, h191, kk191, X191, e191, E191, hS191, kz191, hZ, hown, st191⟩ := ldcS X185 hx hZ hown (hw _ (List.mem_of_getElem? (i := 48) rfl)) (own_strw hw) e185 hS160 kz186 (g := (mkF m 79 #[.val (.long x0), .second, .val (.int x1), .val (.int (1 : Int32)), .val (.long (-1 : Int64)), .second, .val (.ref a160), .val (.ref b163), .val (.ref b174), .unset] [(.ref b185), (.ref b185)])) rfl (hb hby at_79) (n := 12) (by decide) (by decide) (by decide) (by decide)
      have kz192 := Nat.le_trans kz186 E191.1
      have Ol193 := Ol187.ext E191
      have Vb163_170_at194 := Vb163_170_at188.ext E191
      have EA163_at195 := EA163_at189.ext E191
      have G179_0_at196 := G179_0_at190.ext E191
      have A185_at197 := A185.ext E191
      have Fmethod_185_at198 := Fmethod_185.ext E191
      have Ftarget_185_at199 := Ftarget_185.ext E191
      have Fprotocol_185_at200 := Fprotocol_185.ext E191
      have Ffields_185_at201 := Ffields_185.ext E191
      have FcontentLength_185_at202 := FcontentLength_185.ext E191
      have Z191 : n0 ≤ h191.size := Nat.le_trans Z185 E191.1
      refine own_via (T' := T191) (g' := (mkF m 81 #[.val (.long x0), .second, .val (.int x1), .val (.int (1 : Int32)), .val (.long (-1 : Int64)), .second, .val (.ref a160), .val (.ref b163), .val (.ref b174), .unset] [(.ref a191), (.ref b185), (.ref b185)])) st191 ?_
      obtain ⟨T203, h203, X203, e203, E203, A203, D203, -, st203⟩ := newO X191 hx hZ hown (hw _ (List.mem_of_getElem? (i := 49) rfl)) (hw _ (List.mem_of_getElem? (i := 3) rfl)) (hw _ (List.mem_of_getElem? (i := 2) rfl)) e191 (g := (mkF m 81 #[.val (.long x0), .second, .val (.int x1), .val (.int (1 : Int32)), .val (.long (-1 : Int64)), .second, .val (.ref a160), .val (.ref b163), .val (.ref b174), .unset] [(.ref a191), (.ref b185), (.ref b185)])) rfl (hb hby at_81) (by decide) (by decide)
      obtain ⟨b203, g203⟩ : ∃ z, z = h191.size := ⟨_, rfl⟩
      rw [← g203] at A203 D203 st203
      have bd_b203 : h191.size ≤ b203 := Nat.le_of_eq g203.symm
      have ne_b163_b203 : b163 ≠ b203 := own_ne_of Vb163_170_at194.lt bd_b203
      have ne_b174_b203 : b174 ≠ b203 := own_ne_of G179_0_at196.lt bd_b203
      have ne_b185_b203 : b185 ≠ b203 := own_ne_of A185_at197.lt bd_b203
      have ge_b203 : n0 ≤ b203 := Nat.le_trans Z191 bd_b203
      have Z203 : n0 ≤ h203.size := Nat.le_trans Z191 E203.1
      have kz204 := Nat.le_trans kz191 E203.1
      have Ol205 := Ol193.ext E203
      have Vb163_170_at206 := Vb163_170_at194.ext E203
      have EA163_at207 := EA163_at195.ext E203
      have G179_0_at208 := G179_0_at196.ext E203
      have A185_at209 := A185_at197.ext E203
      have Fmethod_185_at210 := Fmethod_185_at198.ext E203
      have Ftarget_185_at211 := Ftarget_185_at199.ext E203
      have Fprotocol_185_at212 := Fprotocol_185_at200.ext E203
      have Ffields_185_at213 := Ffields_185_at201.ext E203
      have FcontentLength_185_at214 := FcontentLength_185_at202.ext E203
      have Fvalue_203 : Fld Z h203 b203 "java/lang/String" "value" "[B" .null := D203 (Or.inr (hw _ (List.mem_of_getElem? (i := 5) rfl))) (ty := (.array .byte)) (by decide)
      have Fcoder_203 : Fld Z h203 b203 "java/lang/String" "coder" "B" (.int (0 : Int32)) := D203 (Or.inr (hw _ (List.mem_of_getElem? (i := 6) rfl))) (ty := .byte) (by decide)
      refine own_via (T' := T203) (g' := (mkF m 84 #[.val (.long x0), .second, .val (.int x1), .val (.int (1 : Int32)), .val (.long (-1 : Int64)), .second, .val (.ref a160), .val (.ref b163), .val (.ref b174), .unset] [(.ref b203), (.ref a191), (.ref b185), (.ref b185)])) st203 ?_
      refine own_via (T' := T203) (g' := (mkF m 87 #[.val (.long x0), .second, .val (.int x1), .val (.int (1 : Int32)), .val (.long (-1 : Int64)), .second, .val (.ref a160), .val (.ref b163), .val (.ref b174), .unset] [(.ref b163), (.ref b203), (.ref b203), (.ref a191), (.ref b185), (.ref b185)])) (fun t k => XS.dup X203.here hx rfl (hb hby at_84) rfl rfl (XS.aload X203.here hx rfl (hb hby at_85) rfl rfl k)) ?_
      obtain ⟨T215, L215, X215, Nq215, K215q, Eq215, st215⟩ := own_newStr X203 hx hZ hown hw (hw _ (List.mem_of_getElem? (i := 50) rfl)) (hw _ (List.mem_of_getElem? (i := 51) rfl)) (hw _ (List.mem_of_getElem? (i := 52) rfl)) (hw _ (List.mem_of_getElem? (i := 3) rfl)) (cs := ([(47 : Int32), (((((x1.toUInt32 >>> ((8 : Int32) &&& 31).toUInt32).toInt32) &&& (255 : Int32)).toUInt32.toUInt16.toUInt32.toInt32).toUInt32.toUInt16.toUInt32.toInt32)] : List Int32)) ge_b203 Z203 A203 Fvalue_203 Fcoder_203 Vb163_170_at206 (S_cs.ext Ol205.2) hcz (nl := 2) rfl (by decide) (by decide) (by intro c hc; simp only [List.mem_cons, List.not_mem_nil, or_false] at hc; rcases hc with rfl | rfl <;> first | exact own_l8 _ | decide) e203 (W := 4) (by decide) (by decide) (g := (mkF m 87 #[.val (.long x0), .second, .val (.int x1), .val (.int (1 : Int32)), .val (.long (-1 : Int64)), .second, .val (.ref a160), .val (.ref b163), .val (.ref b174), .unset] [(.ref b163), (.ref b203), (.ref b203), (.ref a191), (.ref b185), (.ref b185)])) rfl (by rw [hml]; rfl) (lenOf own_pd1 rfl) rfl (by show 2 * 0 + _ ≤ _; exact Nat.le_of_eq rfl) (hb hby at_87) (by decide) (by decide)
      have N215 := Fr.app N179 Nq215
      have Z215 : n0 ≤ T215.heap.size := Nat.le_trans Z203 K215q.1
      have kz216 := Nat.le_trans kz204 K215q.1
      have Ol217 := Ol205.keep K215q (allS ge_b203 all0)
      have Vb163_170_at218 := Vb163_170_at206.keep K215q (ninS ne_b163_b203 nin0)
      have EA163_at219 := EA163_at207.keep K215q
      have G179_0_at220 := G179_0_at208.keep K215q
      have A185_at221 := A185_at209.keep K215q
      have Fmethod_185_at222 := Fmethod_185_at210.keep K215q (ninS ne_b185_b203 nin0)
      have Ftarget_185_at223 := Ftarget_185_at211.keep K215q (ninS ne_b185_b203 nin0)
      have Fprotocol_185_at224 := Fprotocol_185_at212.keep K215q (ninS ne_b185_b203 nin0)
      have Ffields_185_at225 := Ffields_185_at213.keep K215q (ninS ne_b185_b203 nin0)
      have FcontentLength_185_at226 := FcontentLength_185_at214.keep K215q (ninS ne_b185_b203 nin0)
      have A203_at227 := A203.keep K215q
      refine own_via (T' := T215) (g' := (mkF m 90 #[.val (.long x0), .second, .val (.int x1), .val (.int (1 : Int32)), .val (.long (-1 : Int64)), .second, .val (.ref a160), .val (.ref b163), .val (.ref b174), .unset] [(.ref b203), (.ref a191), (.ref b185), (.ref b185)])) st215 ?_
      refine own_via (T' := T215) (g' := (mkF m 96 #[.val (.long x0), .second, .val (.int x1), .val (.int (1 : Int32)), .val (.long (-1 : Int64)), .second, .val (.ref a160), .val (.ref b163), .val (.ref b174), .unset] [(.long (-1 : Int64)), (.ref b174), (.ref a160), (.ref b203), (.ref a191), (.ref b185), (.ref b185)])) (fun t k => XS.aload X215.here hx rfl (hb hby at_90) rfl rfl (XS.aload X215.here hx rfl (hb hby at_92) rfl rfl (XS.lload X215.here hx rfl (hb hby at_94) rfl k))) ?_
      obtain ⟨v228, T228, L228, X228, hQ228, st228⟩ := own_callSp (y := (⟨"com/example/recurve/recurve/http/HttpRequestHead", "<init>", "(Ljava/lang/String;Ljava/lang/String;Ljava/lang/String;Lcom/example/recurve/recurve/http/HttpFields;J)V"⟩ : MethodName)) (a := b185) (argsL := [(.ref a191), (.ref b203), (.ref a160), (.ref b174), (.long (-1 : Int64))]) (rest := [(.ref b185)]) X215 hx hZ hown rfl (hw _ (List.mem_of_getElem? (i := 71) rfl)) (hw _ (List.mem_of_getElem? (i := 72) rfl)) (hw _ (List.mem_of_getElem? (i := 47) rfl)) (hw _ (List.mem_of_getElem? (i := 73) rfl)) (by decide) (own_mt11 l Z a0 hw b185 a191 b203 a160 b174 (-1 : Int64) T215.heap n0 Z215 ge_b185 A185_at221 Fmethod_185_at222 Ftarget_185_at223 Fprotocol_185_at224 Ffields_185_at225 FcontentLength_185_at226) rfl (W := 1) (by decide) (by decide) (g := (mkF m 96 #[.val (.long x0), .second, .val (.int x1), .val (.int (1 : Int32)), .val (.long (-1 : Int64)), .second, .val (.ref a160), .val (.ref b163), .val (.ref b174), .unset] [(.long (-1 : Int64)), (.ref b174), (.ref a160), (.ref b203), (.ref a191), (.ref b185), (.ref b185)])) rfl (by rw [hml]; rfl) (lenOf own_pd2 rfl) rfl (by show 2 * 0 + _ ≤ _; exact Nat.le_of_eq rfl) (hb hby at_96) (by decide) (by decide)
      obtain ⟨rfl, Nq228, K228q, G228_0, G228_1⟩ := hQ228
      have N228 := Fr.app N215 Nq228
      have Z228 : n0 ≤ T228.heap.size := Nat.le_trans Z215 K228q.1
      have kz229 := Nat.le_trans kz216 K228q.1
      have Ol230 := Ol217.keep K228q (allS ge_b185 all0)
      have Vb163_170_at231 := Vb163_170_at218.keep K228q (ninS ne_b163_b185 nin0)
      have EA163_at232 := EA163_at219.keep K228q
      have G179_0_at233 := G179_0_at220.keep K228q
      have A185_at234 := A185_at221.keep K228q
      have A203_at235 := A203_at227.keep K228q
      refine own_via (T' := T228) (g' := (mkF m 99 #[.val (.long x0), .second, .val (.int x1), .val (.int (1 : Int32)), .val (.long (-1 : Int64)), .second, .val (.ref a160), .val (.ref b163), .val (.ref b174), .unset] [(.ref b185)])) st228 ?_
      refine own_via (T' := T228) (g' := (mkF m 103 #[.val (.long x0), .second, .val (.int x1), .val (.int (1 : Int32)), .val (.long (-1 : Int64)), .second, .val (.ref a160), .val (.ref b163), .val (.ref b174), .val (.ref b185)] [(.ref b185)])) (fun t k => XS.astore X228.here hx rfl (hb hby at_99) rfl rfl (l' := #[.val (.long x0), .second, .val (.int x1), .val (.int (1 : Int32)), .val (.long (-1 : Int64)), .second, .val (.ref a160), .val (.ref b163), .val (.ref b174), .val (.ref b185)]) rfl (XS.aload X228.here hx rfl (hb hby at_101) rfl rfl k)) ?_
      obtain ⟨v236, T236, L236, X236, hQ236, st236⟩ := own_callVi (y := (⟨"com/example/recurve/recurve/http/HttpRequestHead", "chunked", "()Z"⟩ : MethodName)) (z := (⟨"com/example/recurve/recurve/http/HttpRequestHead", "chunked", "()Z"⟩ : MethodName)) (a := b185) (C := "com/example/recurve/recurve/http/HttpRequestHead") (argsL := []) (rest := []) X228 hx hZ hown (hw _ (List.mem_of_getElem? (i := 90) rfl)) (hw _ (List.mem_of_getElem? (i := 91) rfl)) (notFace_of_selects (args := #[]) (mvT hZ (hw _ (List.mem_of_getElem? (i := 93) rfl)))) (hw _ (List.mem_of_getElem? (i := 93) rfl)) (hw _ (List.mem_of_getElem? (i := 92) rfl)) (hw _ (List.mem_of_getElem? (i := 47) rfl)) (hw _ (List.mem_of_getElem? (i := 94) rfl)) (by decide) G228_0 (own_mt13 l Z a0 hw b185 (-1 : Int64) T228.heap G228_1) rfl (W := 0) (by decide) (by decide) (g := (mkF m 103 #[.val (.long x0), .second, .val (.int x1), .val (.int (1 : Int32)), .val (.long (-1 : Int64)), .second, .val (.ref a160), .val (.ref b163), .val (.ref b174), .val (.ref b185)] [(.ref b185)])) rfl (by rw [hml]; rfl) (lenOf own_pd3 rfl) rfl (by show 2 * 0 + _ ≤ _; exact Nat.le_of_eq rfl) (hb hby at_103) (by decide) (by decide)
      obtain ⟨rfl, e236, rfl⟩ := hQ236
      have N236 := Fr.app N228 (Fr.nil n0)
      refine own_via (T' := T236) (g' := (mkF m 106 #[.val (.long x0), .second, .val (.int x1), .val (.int (1 : Int32)), .val (.long (-1 : Int64)), .second, .val (.ref a160), .val (.ref b163), .val (.ref b174), .val (.ref b185)] [(.int (own_ck (-1 : Int64)))])) st236 ?_
      refine own_via (T' := T236) (g' := (mkF m 107 #[.val (.long x0), .second, .val (.int x1), .val (.int (1 : Int32)), .val (.long (-1 : Int64)), .second, .val (.ref a160), .val (.ref b163), .val (.ref b174), .val (.ref b185)] [(.int (1 : Int32)), (.int (own_ck (-1 : Int64)))])) (fun t k => XS.iloadN X236.here hx rfl (hb hby at_106) rfl k) ?_
      by_cases hc237 : (own_ck (-1 : Int64)) = (1 : Int32)
      · refine own_via (T' := T236) (g' := (mkF m 115 #[.val (.long x0), .second, .val (.int x1), .val (.int (1 : Int32)), .val (.long (-1 : Int64)), .second, .val (.ref a160), .val (.ref b163), .val (.ref b174), .val (.ref b185)] [(.int (1 : Int32))])) (fun t k => XS.icmpNo X236.here hx rfl (hb hby at_107) rfl (teq hc237).2 (XS.iconst X236.here hx rfl (hb hby at_110) (XS.goto X236.here hx rfl (pc0 := 111) (pc' := 115) rfl (hb hby at_111) (by decide) (by decide) k))) ?_
        refine own_retNW X236 hx hS191 e236 kz229 hlk (ty := .boolean) hret (by simp) (hb hby at_115) (by decide) (by decide) ?_
        exact ⟨by rw [own_f0, if_neg hc1, if_pos hc159, if_pos hc237] <;> rfl, N236⟩
      · refine own_via (T' := T236) (g' := (mkF m 115 #[.val (.long x0), .second, .val (.int x1), .val (.int (1 : Int32)), .val (.long (-1 : Int64)), .second, .val (.ref a160), .val (.ref b163), .val (.ref b174), .val (.ref b185)] [(.int (0 : Int32))])) (fun t k => XS.icmpYes X236.here hx rfl (pc0 := 107) (pc' := 114) rfl (hb hby at_107) rfl (feq hc237).2 (by decide) (by decide) (XS.iconst X236.here hx rfl (hb hby at_114) k)) ?_
        refine own_retNW X236 hx hS191 e236 kz229 hlk (ty := .boolean) hret (by simp) (hb hby at_115) (by decide) (by decide) ?_
        exact ⟨by rw [own_f0, if_neg hc1, if_pos hc159, if_neg hc237] <;> rfl, N236⟩
    · refine own_via (T' := s₁) (g' := (mkF m 35 #[.val (.long x0), .second, .val (.int x1), .val (.int (1 : Int32)), .val (.long (-1 : Int64)), .second, .unset, .unset, .unset, .unset] [])) (fun t k => XS.ifNo X0.here hx rfl (hb hby at_32) rfl ((if0 _ _).trans (feq hc159).1) k) ?_
      obtain ⟨a238, T238, h238, kk238, X238, e238, E238, hS238, kz238, hZ, hown, st238⟩ := ldcS X0 hx hZ hown (hw _ (List.mem_of_getElem? (i := 1) rfl)) (own_strw hw) e0 hS0 kz0 (g := (mkF m 35 #[.val (.long x0), .second, .val (.int x1), .val (.int (1 : Int32)), .val (.long (-1 : Int64)), .second, .unset, .unset, .unset, .unset] [])) rfl (hb hby at_35) (n := 32) (by decide) (by decide) (by decide) (by decide)
      have kz239 := Nat.le_trans kz0 E238.1
      have Ol240 := Ol.ext E238
      have Z238 : n0 ≤ h238.size := Nat.le_trans Z0 E238.1
      refine own_via (T' := T238) (g' := (mkF m 37 #[.val (.long x0), .second, .val (.int x1), .val (.int (1 : Int32)), .val (.long (-1 : Int64)), .second, .unset, .unset, .unset, .unset] [(.ref a238)])) st238 ?_
      refine own_via (T' := T238) (g' := (mkF m 45 #[.val (.long x0), .second, .val (.int x1), .val (.int (1 : Int32)), .val (.long (-1 : Int64)), .second, .val (.ref a238), .unset, .unset, .unset] [(.int (2 : Int32))])) (fun t k => XS.goto X238.here hx rfl (pc0 := 37) (pc' := 42) rfl (hb hby at_37) (by decide) (by decide) (XS.astore X238.here hx rfl (hb hby at_42) rfl rfl (l' := #[.val (.long x0), .second, .val (.int x1), .val (.int (1 : Int32)), .val (.long (-1 : Int64)), .second, .val (.ref a238), .unset, .unset, .unset]) rfl (XS.iconst X238.here hx rfl (hb hby at_44) k))) ?_
      obtain ⟨T241, h241, k241, X241, e241, E241, A241, EA241, st241⟩ := newPE (ad := "[C") X238 hx hZ (hw _ (List.mem_of_getElem? (i := 9) rfl)) e238 (g := (mkF m 45 #[.val (.long x0), .second, .val (.int x1), .val (.int (1 : Int32)), .val (.long (-1 : Int64)), .second, .val (.ref a238), .unset, .unset, .unset] [(.int (2 : Int32))])) rfl (hb hby at_45) rfl (by decide) (cap := 2) (by decide) (by decide) (by decide) (by decide) (by decide)
      obtain ⟨b241, g241⟩ : ∃ z, z = h238.size := ⟨_, rfl⟩
      rw [← g241] at A241 EA241 st241
      have bd_b241 : h238.size ≤ b241 := Nat.le_of_eq g241.symm
      have ge_b241 : n0 ≤ b241 := Nat.le_trans Z238 bd_b241
      have Z241 : n0 ≤ h241.size := Nat.le_trans Z238 E241.1
      have kz242 := Nat.le_trans kz238 E241.1
      have Ol243 := Ol240.ext E241
      have V241 : own_Av Z h241 b241 .char [(.int (0 : Int32)), (.int (0 : Int32))] := own_Av.new A241
      refine own_via (T' := T241) (g' := (mkF m 47 #[.val (.long x0), .second, .val (.int x1), .val (.int (1 : Int32)), .val (.long (-1 : Int64)), .second, .val (.ref a238), .unset, .unset, .unset] [(.ref b241)])) st241 ?_
      refine own_via (T' := T241) (g' := (mkF m 51 #[.val (.long x0), .second, .val (.int x1), .val (.int (1 : Int32)), .val (.long (-1 : Int64)), .second, .val (.ref a238), .unset, .unset, .unset] [(.int (47 : Int32)), (.int (0 : Int32)), (.ref b241), (.ref b241)])) (fun t k => XS.dup X241.here hx rfl (hb hby at_47) rfl rfl (XS.iconst X241.here hx rfl (hb hby at_48) (XS.bipush X241.here hx rfl (hb hby at_49) k))) ?_
      obtain ⟨T244, h244, X244, e244, W244, V244, st244⟩ := own_stC X241 hx hZ e241 V241 (j := (0 : Int32)) (x := (47 : Int32)) (by decide) (show _ < 2 from by decide) (g := (mkF m 51 #[.val (.long x0), .second, .val (.int x1), .val (.int (1 : Int32)), .val (.long (-1 : Int64)), .second, .val (.ref a238), .unset, .unset, .unset] [(.int (47 : Int32)), (.int (0 : Int32)), (.ref b241), (.ref b241)])) rfl rfl (hb hby at_51)
      have kz245 := Nat.le_trans kz242 (Keep.of_wr W244).1
      have Ol246 := Ol243.wr W244 ge_b241
      have EA241_at247 := EA241.wr W244
      have N244 := Fr.snoc X244 N0 ge_b241
      have Z244 : n0 ≤ h244.size := Nat.le_trans Z241 (Nat.le_of_eq W244.size.symm)
      have Vb241_244 : own_Av Z h244 b241 .char [(.int (47 : Int32)), (.int (0 : Int32))] := V244
      refine own_via (T' := T244) (g' := (mkF m 52 #[.val (.long x0), .second, .val (.int x1), .val (.int (1 : Int32)), .val (.long (-1 : Int64)), .second, .val (.ref a238), .unset, .unset, .unset] [(.ref b241)])) st244 ?_
      refine own_via (T' := T244) (g' := (mkF m 63 #[.val (.long x0), .second, .val (.int x1), .val (.int (1 : Int32)), .val (.long (-1 : Int64)), .second, .val (.ref a238), .unset, .unset, .unset] [(.int ((((x1.toUInt32 >>> ((8 : Int32) &&& 31).toUInt32).toInt32) &&& (255 : Int32)).toUInt32.toUInt16.toUInt32.toInt32)), (.int (1 : Int32)), (.ref b241), (.ref b241)])) (fun t k => XS.dup X244.here hx rfl (hb hby at_52) rfl rfl (XS.iconst X244.here hx rfl (hb hby at_53) (XS.iloadN X244.here hx rfl (hb hby at_54) rfl (XS.bipush X244.here hx rfl (hb hby at_55) (XS.iushr X244.here hx rfl (hb hby at_57) rfl (XS.sipush X244.here hx rfl (hb hby at_58) (XS.iand X244.here hx rfl (hb hby at_61) rfl (XS.i2c X244.here hx rfl (hb hby at_62) rfl k)))))))) ?_
      obtain ⟨T248, h248, X248, e248, W248, V248, st248⟩ := own_stC X244 hx hZ e244 Vb241_244 (j := (1 : Int32)) (x := ((((x1.toUInt32 >>> ((8 : Int32) &&& 31).toUInt32).toInt32) &&& (255 : Int32)).toUInt32.toUInt16.toUInt32.toInt32)) (by decide) (show _ < 2 from by decide) (g := (mkF m 63 #[.val (.long x0), .second, .val (.int x1), .val (.int (1 : Int32)), .val (.long (-1 : Int64)), .second, .val (.ref a238), .unset, .unset, .unset] [(.int ((((x1.toUInt32 >>> ((8 : Int32) &&& 31).toUInt32).toInt32) &&& (255 : Int32)).toUInt32.toUInt16.toUInt32.toInt32)), (.int (1 : Int32)), (.ref b241), (.ref b241)])) rfl rfl (hb hby at_63)
      have kz249 := Nat.le_trans kz245 (Keep.of_wr W248).1
      have Ol250 := Ol246.wr W248 ge_b241
      have EA241_at251 := EA241_at247.wr W248
      have N248 := Fr.snoc X248 N244 ge_b241
      have Z248 : n0 ≤ h248.size := Nat.le_trans Z244 (Nat.le_of_eq W248.size.symm)
      have Vb241_248 : own_Av Z h248 b241 .char [(.int (47 : Int32)), (.int (((((x1.toUInt32 >>> ((8 : Int32) &&& 31).toUInt32).toInt32) &&& (255 : Int32)).toUInt32.toUInt16.toUInt32.toInt32).toUInt32.toUInt16.toUInt32.toInt32))] := V248
      refine own_via (T' := T248) (g' := (mkF m 64 #[.val (.long x0), .second, .val (.int x1), .val (.int (1 : Int32)), .val (.long (-1 : Int64)), .second, .val (.ref a238), .unset, .unset, .unset] [(.ref b241)])) st248 ?_
      refine own_via (T' := T248) (g' := (mkF m 66 #[.val (.long x0), .second, .val (.int x1), .val (.int (1 : Int32)), .val (.long (-1 : Int64)), .second, .val (.ref a238), .val (.ref b241), .unset, .unset] [])) (fun t k => XS.astore X248.here hx rfl (hb hby at_64) rfl rfl (l' := #[.val (.long x0), .second, .val (.int x1), .val (.int (1 : Int32)), .val (.long (-1 : Int64)), .second, .val (.ref a238), .val (.ref b241), .unset, .unset]) rfl k) ?_
      obtain ⟨T252, h252, X252, e252, E252, A252, D252, -, st252⟩ := newO X248 hx hZ hown (hw _ (List.mem_of_getElem? (i := 10) rfl)) (hw _ (List.mem_of_getElem? (i := 11) rfl)) (hw _ (List.mem_of_getElem? (i := 12) rfl)) e248 (g := (mkF m 66 #[.val (.long x0), .second, .val (.int x1), .val (.int (1 : Int32)), .val (.long (-1 : Int64)), .second, .val (.ref a238), .val (.ref b241), .unset, .unset] [])) rfl (hb hby at_66) (by decide) (by decide)
      obtain ⟨b252, g252⟩ : ∃ z, z = h248.size := ⟨_, rfl⟩
      rw [← g252] at A252 D252 st252
      have bd_b252 : h248.size ≤ b252 := Nat.le_of_eq g252.symm
      have ne_b241_b252 : b241 ≠ b252 := own_ne_of Vb241_248.lt bd_b252
      have ge_b252 : n0 ≤ b252 := Nat.le_trans Z248 bd_b252
      have Z252 : n0 ≤ h252.size := Nat.le_trans Z248 E252.1
      have kz253 := Nat.le_trans kz249 E252.1
      have Ol254 := Ol250.ext E252
      have Vb241_248_at255 := Vb241_248.ext E252
      have EA241_at256 := EA241_at251.ext E252
      have Ffields_252 : Fld Z h252 b252 "com/example/recurve/recurve/http/HttpFields" "fields" "Ljava/util/List;" .null := D252 (Or.inr (hw _ (List.mem_of_getElem? (i := 44) rfl))) (ty := (.object "java/util/List")) (by decide)
      refine own_via (T' := T252) (g' := (mkF m 69 #[.val (.long x0), .second, .val (.int x1), .val (.int (1 : Int32)), .val (.long (-1 : Int64)), .second, .val (.ref a238), .val (.ref b241), .unset, .unset] [(.ref b252)])) st252 ?_
      refine own_via (T' := T252) (g' := (mkF m 70 #[.val (.long x0), .second, .val (.int x1), .val (.int (1 : Int32)), .val (.long (-1 : Int64)), .second, .val (.ref a238), .val (.ref b241), .unset, .unset] [(.ref b252), (.ref b252)])) (fun t k => XS.dup X252.here hx rfl (hb hby at_69) rfl rfl k) ?_
      obtain ⟨v257, T257, L257, X257, hQ257, st257⟩ := own_callSp (y := (⟨"com/example/recurve/recurve/http/HttpFields", "<init>", "()V"⟩ : MethodName)) (a := b252) (argsL := []) (rest := [(.ref b252)]) X252 hx hZ hown rfl (hw _ (List.mem_of_getElem? (i := 13) rfl)) (hw _ (List.mem_of_getElem? (i := 14) rfl)) (hw _ (List.mem_of_getElem? (i := 12) rfl)) (hw _ (List.mem_of_getElem? (i := 15) rfl)) (by decide) (own_mt1 l Z a0 hw b252 dv h252 n0 Z252 ge_b252 A252 Ffields_252 S_de Ol254 hdn hdf) e252 (W := 1) (by decide) (by decide) (g := (mkF m 70 #[.val (.long x0), .second, .val (.int x1), .val (.int (1 : Int32)), .val (.long (-1 : Int64)), .second, .val (.ref a238), .val (.ref b241), .unset, .unset] [(.ref b252), (.ref b252)])) rfl (by rw [hml]; rfl) (lenOf own_pd0 rfl) rfl (by show 2 * 0 + _ ≤ _; exact Nat.le_of_eq rfl) (hb hby at_70) (by decide) (by decide)
      obtain ⟨rfl, Nq257, K257q, G257_0⟩ := hQ257
      have N257 := Fr.app N248 Nq257
      have Z257 : n0 ≤ T257.heap.size := Nat.le_trans Z252 K257q.1
      have kz258 := Nat.le_trans kz253 K257q.1
      have Ol259 := Ol254.keep K257q (allS ge_b252 all0)
      have Vb241_248_at260 := Vb241_248_at255.keep K257q (ninS ne_b241_b252 nin0)
      have EA241_at261 := EA241_at256.keep K257q
      have A252_at262 := A252.keep K257q
      refine own_via (T' := T257) (g' := (mkF m 73 #[.val (.long x0), .second, .val (.int x1), .val (.int (1 : Int32)), .val (.long (-1 : Int64)), .second, .val (.ref a238), .val (.ref b241), .unset, .unset] [(.ref b252)])) st257 ?_
      refine own_via (T' := T257) (g' := (mkF m 75 #[.val (.long x0), .second, .val (.int x1), .val (.int (1 : Int32)), .val (.long (-1 : Int64)), .second, .val (.ref a238), .val (.ref b241), .val (.ref b252), .unset] [])) (fun t k => XS.astore X257.here hx rfl (hb hby at_73) rfl rfl (l' := #[.val (.long x0), .second, .val (.int x1), .val (.int (1 : Int32)), .val (.long (-1 : Int64)), .second, .val (.ref a238), .val (.ref b241), .val (.ref b252), .unset]) rfl k) ?_
      obtain ⟨T263, h263, X263, e263, E263, A263, D263, -, st263⟩ := newO X257 hx hZ hown (hw _ (List.mem_of_getElem? (i := 45) rfl)) (hw _ (List.mem_of_getElem? (i := 46) rfl)) (hw _ (List.mem_of_getElem? (i := 47) rfl)) rfl (g := (mkF m 75 #[.val (.long x0), .second, .val (.int x1), .val (.int (1 : Int32)), .val (.long (-1 : Int64)), .second, .val (.ref a238), .val (.ref b241), .val (.ref b252), .unset] [])) rfl (hb hby at_75) (by decide) (by decide)
      obtain ⟨b263, g263⟩ : ∃ z, z = T257.heap.size := ⟨_, rfl⟩
      rw [← g263] at A263 D263 st263
      have bd_b263 : T257.heap.size ≤ b263 := Nat.le_of_eq g263.symm
      have ne_b241_b263 : b241 ≠ b263 := own_ne_of Vb241_248_at260.lt bd_b263
      have ne_b252_b263 : b252 ≠ b263 := own_ne_of G257_0.lt bd_b263
      have ge_b263 : n0 ≤ b263 := Nat.le_trans Z257 bd_b263
      have Z263 : n0 ≤ h263.size := Nat.le_trans Z257 E263.1
      have kz264 := Nat.le_trans kz258 E263.1
      have Ol265 := Ol259.ext E263
      have Vb241_248_at266 := Vb241_248_at260.ext E263
      have EA241_at267 := EA241_at261.ext E263
      have G257_0_at268 := G257_0.ext E263
      have Fmethod_263 : Fld Z h263 b263 "com/example/recurve/recurve/http/HttpRequestHead" "method" "Ljava/lang/String;" .null := D263 (Or.inr (hw _ (List.mem_of_getElem? (i := 81) rfl))) (ty := (.object "java/lang/String")) (by decide)
      have Ftarget_263 : Fld Z h263 b263 "com/example/recurve/recurve/http/HttpRequestHead" "target" "Ljava/lang/String;" .null := D263 (Or.inr (hw _ (List.mem_of_getElem? (i := 83) rfl))) (ty := (.object "java/lang/String")) (by decide)
      have Fprotocol_263 : Fld Z h263 b263 "com/example/recurve/recurve/http/HttpRequestHead" "protocol" "Ljava/lang/String;" .null := D263 (Or.inr (hw _ (List.mem_of_getElem? (i := 85) rfl))) (ty := (.object "java/lang/String")) (by decide)
      have Ffields_263 : Fld Z h263 b263 "com/example/recurve/recurve/http/HttpRequestHead" "fields" "Lcom/example/recurve/recurve/http/HttpFields;" .null := D263 (Or.inr (hw _ (List.mem_of_getElem? (i := 87) rfl))) (ty := (.object "com/example/recurve/recurve/http/HttpFields")) (by decide)
      have FcontentLength_263 : Fld Z h263 b263 "com/example/recurve/recurve/http/HttpRequestHead" "contentLength" "J" (.long (0 : Int64)) := D263 (Or.inr (hw _ (List.mem_of_getElem? (i := 89) rfl))) (ty := .long) (by decide)
      refine own_via (T' := T263) (g' := (mkF m 78 #[.val (.long x0), .second, .val (.int x1), .val (.int (1 : Int32)), .val (.long (-1 : Int64)), .second, .val (.ref a238), .val (.ref b241), .val (.ref b252), .unset] [(.ref b263)])) st263 ?_
      refine own_via (T' := T263) (g' := (mkF m 79 #[.val (.long x0), .second, .val (.int x1), .val (.int (1 : Int32)), .val (.long (-1 : Int64)), .second, .val (.ref a238), .val (.ref b241), .val (.ref b252), .unset] [(.ref b263), (.ref b263)])) (fun t k => XS.dup X263.here hx rfl (hb hby at_78) rfl rfl k) ?_
      obtain ⟨a269, T269, h269, kk269, X269, e269, E269, hS269, kz269, hZ, hown, st269⟩ := ldcS X263 hx hZ hown (hw _ (List.mem_of_getElem? (i := 48) rfl)) (own_strw hw) e263 hS238 kz264 (g := (mkF m 79 #[.val (.long x0), .second, .val (.int x1), .val (.int (1 : Int32)), .val (.long (-1 : Int64)), .second, .val (.ref a238), .val (.ref b241), .val (.ref b252), .unset] [(.ref b263), (.ref b263)])) rfl (hb hby at_79) (n := 12) (by decide) (by decide) (by decide) (by decide)
      have kz270 := Nat.le_trans kz264 E269.1
      have Ol271 := Ol265.ext E269
      have Vb241_248_at272 := Vb241_248_at266.ext E269
      have EA241_at273 := EA241_at267.ext E269
      have G257_0_at274 := G257_0_at268.ext E269
      have A263_at275 := A263.ext E269
      have Fmethod_263_at276 := Fmethod_263.ext E269
      have Ftarget_263_at277 := Ftarget_263.ext E269
      have Fprotocol_263_at278 := Fprotocol_263.ext E269
      have Ffields_263_at279 := Ffields_263.ext E269
      have FcontentLength_263_at280 := FcontentLength_263.ext E269
      have Z269 : n0 ≤ h269.size := Nat.le_trans Z263 E269.1
      refine own_via (T' := T269) (g' := (mkF m 81 #[.val (.long x0), .second, .val (.int x1), .val (.int (1 : Int32)), .val (.long (-1 : Int64)), .second, .val (.ref a238), .val (.ref b241), .val (.ref b252), .unset] [(.ref a269), (.ref b263), (.ref b263)])) st269 ?_
      obtain ⟨T281, h281, X281, e281, E281, A281, D281, -, st281⟩ := newO X269 hx hZ hown (hw _ (List.mem_of_getElem? (i := 49) rfl)) (hw _ (List.mem_of_getElem? (i := 3) rfl)) (hw _ (List.mem_of_getElem? (i := 2) rfl)) e269 (g := (mkF m 81 #[.val (.long x0), .second, .val (.int x1), .val (.int (1 : Int32)), .val (.long (-1 : Int64)), .second, .val (.ref a238), .val (.ref b241), .val (.ref b252), .unset] [(.ref a269), (.ref b263), (.ref b263)])) rfl (hb hby at_81) (by decide) (by decide)
      obtain ⟨b281, g281⟩ : ∃ z, z = h269.size := ⟨_, rfl⟩
      rw [← g281] at A281 D281 st281
      have bd_b281 : h269.size ≤ b281 := Nat.le_of_eq g281.symm
      have ne_b241_b281 : b241 ≠ b281 := own_ne_of Vb241_248_at272.lt bd_b281
      have ne_b252_b281 : b252 ≠ b281 := own_ne_of G257_0_at274.lt bd_b281
      have ne_b263_b281 : b263 ≠ b281 := own_ne_of A263_at275.lt bd_b281
      have ge_b281 : n0 ≤ b281 := Nat.le_trans Z269 bd_b281
      have Z281 : n0 ≤ h281.size := Nat.le_trans Z269 E281.1
      have kz282 := Nat.le_trans kz269 E281.1
      have Ol283 := Ol271.ext E281
      have Vb241_248_at284 := Vb241_248_at272.ext E281
      have EA241_at285 := EA241_at273.ext E281
      have G257_0_at286 := G257_0_at274.ext E281
      have A263_at287 := A263_at275.ext E281
      have Fmethod_263_at288 := Fmethod_263_at276.ext E281
      have Ftarget_263_at289 := Ftarget_263_at277.ext E281
      have Fprotocol_263_at290 := Fprotocol_263_at278.ext E281
      have Ffields_263_at291 := Ffields_263_at279.ext E281
      have FcontentLength_263_at292 := FcontentLength_263_at280.ext E281
      have Fvalue_281 : Fld Z h281 b281 "java/lang/String" "value" "[B" .null := D281 (Or.inr (hw _ (List.mem_of_getElem? (i := 5) rfl))) (ty := (.array .byte)) (by decide)
      have Fcoder_281 : Fld Z h281 b281 "java/lang/String" "coder" "B" (.int (0 : Int32)) := D281 (Or.inr (hw _ (List.mem_of_getElem? (i := 6) rfl))) (ty := .byte) (by decide)
      refine own_via (T' := T281) (g' := (mkF m 84 #[.val (.long x0), .second, .val (.int x1), .val (.int (1 : Int32)), .val (.long (-1 : Int64)), .second, .val (.ref a238), .val (.ref b241), .val (.ref b252), .unset] [(.ref b281), (.ref a269), (.ref b263), (.ref b263)])) st281 ?_
      refine own_via (T' := T281) (g' := (mkF m 87 #[.val (.long x0), .second, .val (.int x1), .val (.int (1 : Int32)), .val (.long (-1 : Int64)), .second, .val (.ref a238), .val (.ref b241), .val (.ref b252), .unset] [(.ref b241), (.ref b281), (.ref b281), (.ref a269), (.ref b263), (.ref b263)])) (fun t k => XS.dup X281.here hx rfl (hb hby at_84) rfl rfl (XS.aload X281.here hx rfl (hb hby at_85) rfl rfl k)) ?_
      obtain ⟨T293, L293, X293, Nq293, K293q, Eq293, st293⟩ := own_newStr X281 hx hZ hown hw (hw _ (List.mem_of_getElem? (i := 50) rfl)) (hw _ (List.mem_of_getElem? (i := 51) rfl)) (hw _ (List.mem_of_getElem? (i := 52) rfl)) (hw _ (List.mem_of_getElem? (i := 3) rfl)) (cs := ([(47 : Int32), (((((x1.toUInt32 >>> ((8 : Int32) &&& 31).toUInt32).toInt32) &&& (255 : Int32)).toUInt32.toUInt16.toUInt32.toInt32).toUInt32.toUInt16.toUInt32.toInt32)] : List Int32)) ge_b281 Z281 A281 Fvalue_281 Fcoder_281 Vb241_248_at284 (S_cs.ext Ol283.2) hcz (nl := 2) rfl (by decide) (by decide) (by intro c hc; simp only [List.mem_cons, List.not_mem_nil, or_false] at hc; rcases hc with rfl | rfl <;> first | exact own_l8 _ | decide) e281 (W := 4) (by decide) (by decide) (g := (mkF m 87 #[.val (.long x0), .second, .val (.int x1), .val (.int (1 : Int32)), .val (.long (-1 : Int64)), .second, .val (.ref a238), .val (.ref b241), .val (.ref b252), .unset] [(.ref b241), (.ref b281), (.ref b281), (.ref a269), (.ref b263), (.ref b263)])) rfl (by rw [hml]; rfl) (lenOf own_pd1 rfl) rfl (by show 2 * 0 + _ ≤ _; exact Nat.le_of_eq rfl) (hb hby at_87) (by decide) (by decide)
      have N293 := Fr.app N257 Nq293
      have Z293 : n0 ≤ T293.heap.size := Nat.le_trans Z281 K293q.1
      have kz294 := Nat.le_trans kz282 K293q.1
      have Ol295 := Ol283.keep K293q (allS ge_b281 all0)
      have Vb241_248_at296 := Vb241_248_at284.keep K293q (ninS ne_b241_b281 nin0)
      have EA241_at297 := EA241_at285.keep K293q
      have G257_0_at298 := G257_0_at286.keep K293q
      have A263_at299 := A263_at287.keep K293q
      have Fmethod_263_at300 := Fmethod_263_at288.keep K293q (ninS ne_b263_b281 nin0)
      have Ftarget_263_at301 := Ftarget_263_at289.keep K293q (ninS ne_b263_b281 nin0)
      have Fprotocol_263_at302 := Fprotocol_263_at290.keep K293q (ninS ne_b263_b281 nin0)
      have Ffields_263_at303 := Ffields_263_at291.keep K293q (ninS ne_b263_b281 nin0)
      have FcontentLength_263_at304 := FcontentLength_263_at292.keep K293q (ninS ne_b263_b281 nin0)
      have A281_at305 := A281.keep K293q
      refine own_via (T' := T293) (g' := (mkF m 90 #[.val (.long x0), .second, .val (.int x1), .val (.int (1 : Int32)), .val (.long (-1 : Int64)), .second, .val (.ref a238), .val (.ref b241), .val (.ref b252), .unset] [(.ref b281), (.ref a269), (.ref b263), (.ref b263)])) st293 ?_
      refine own_via (T' := T293) (g' := (mkF m 96 #[.val (.long x0), .second, .val (.int x1), .val (.int (1 : Int32)), .val (.long (-1 : Int64)), .second, .val (.ref a238), .val (.ref b241), .val (.ref b252), .unset] [(.long (-1 : Int64)), (.ref b252), (.ref a238), (.ref b281), (.ref a269), (.ref b263), (.ref b263)])) (fun t k => XS.aload X293.here hx rfl (hb hby at_90) rfl rfl (XS.aload X293.here hx rfl (hb hby at_92) rfl rfl (XS.lload X293.here hx rfl (hb hby at_94) rfl k))) ?_
      obtain ⟨v306, T306, L306, X306, hQ306, st306⟩ := own_callSp (y := (⟨"com/example/recurve/recurve/http/HttpRequestHead", "<init>", "(Ljava/lang/String;Ljava/lang/String;Ljava/lang/String;Lcom/example/recurve/recurve/http/HttpFields;J)V"⟩ : MethodName)) (a := b263) (argsL := [(.ref a269), (.ref b281), (.ref a238), (.ref b252), (.long (-1 : Int64))]) (rest := [(.ref b263)]) X293 hx hZ hown rfl (hw _ (List.mem_of_getElem? (i := 71) rfl)) (hw _ (List.mem_of_getElem? (i := 72) rfl)) (hw _ (List.mem_of_getElem? (i := 47) rfl)) (hw _ (List.mem_of_getElem? (i := 73) rfl)) (by decide) (own_mt11 l Z a0 hw b263 a269 b281 a238 b252 (-1 : Int64) T293.heap n0 Z293 ge_b263 A263_at299 Fmethod_263_at300 Ftarget_263_at301 Fprotocol_263_at302 Ffields_263_at303 FcontentLength_263_at304) rfl (W := 1) (by decide) (by decide) (g := (mkF m 96 #[.val (.long x0), .second, .val (.int x1), .val (.int (1 : Int32)), .val (.long (-1 : Int64)), .second, .val (.ref a238), .val (.ref b241), .val (.ref b252), .unset] [(.long (-1 : Int64)), (.ref b252), (.ref a238), (.ref b281), (.ref a269), (.ref b263), (.ref b263)])) rfl (by rw [hml]; rfl) (lenOf own_pd2 rfl) rfl (by show 2 * 0 + _ ≤ _; exact Nat.le_of_eq rfl) (hb hby at_96) (by decide) (by decide)
      obtain ⟨rfl, Nq306, K306q, G306_0, G306_1⟩ := hQ306
      have N306 := Fr.app N293 Nq306
      have Z306 : n0 ≤ T306.heap.size := Nat.le_trans Z293 K306q.1
      have kz307 := Nat.le_trans kz294 K306q.1
      have Ol308 := Ol295.keep K306q (allS ge_b263 all0)
      have Vb241_248_at309 := Vb241_248_at296.keep K306q (ninS ne_b241_b263 nin0)
      have EA241_at310 := EA241_at297.keep K306q
      have G257_0_at311 := G257_0_at298.keep K306q
      have A263_at312 := A263_at299.keep K306q
      have A281_at313 := A281_at305.keep K306q
      refine own_via (T' := T306) (g' := (mkF m 99 #[.val (.long x0), .second, .val (.int x1), .val (.int (1 : Int32)), .val (.long (-1 : Int64)), .second, .val (.ref a238), .val (.ref b241), .val (.ref b252), .unset] [(.ref b263)])) st306 ?_
      refine own_via (T' := T306) (g' := (mkF m 103 #[.val (.long x0), .second, .val (.int x1), .val (.int (1 : Int32)), .val (.long (-1 : Int64)), .second, .val (.ref a238), .val (.ref b241), .val (.ref b252), .val (.ref b263)] [(.ref b263)])) (fun t k => XS.astore X306.here hx rfl (hb hby at_99) rfl rfl (l' := #[.val (.long x0), .second, .val (.int x1), .val (.int (1 : Int32)), .val (.long (-1 : Int64)), .second, .val (.ref a238), .val (.ref b241), .val (.ref b252), .val (.ref b263)]) rfl (XS.aload X306.here hx rfl (hb hby at_101) rfl rfl k)) ?_
      obtain ⟨v314, T314, L314, X314, hQ314, st314⟩ := own_callVi (y := (⟨"com/example/recurve/recurve/http/HttpRequestHead", "chunked", "()Z"⟩ : MethodName)) (z := (⟨"com/example/recurve/recurve/http/HttpRequestHead", "chunked", "()Z"⟩ : MethodName)) (a := b263) (C := "com/example/recurve/recurve/http/HttpRequestHead") (argsL := []) (rest := []) X306 hx hZ hown (hw _ (List.mem_of_getElem? (i := 90) rfl)) (hw _ (List.mem_of_getElem? (i := 91) rfl)) (notFace_of_selects (args := #[]) (mvT hZ (hw _ (List.mem_of_getElem? (i := 93) rfl)))) (hw _ (List.mem_of_getElem? (i := 93) rfl)) (hw _ (List.mem_of_getElem? (i := 92) rfl)) (hw _ (List.mem_of_getElem? (i := 47) rfl)) (hw _ (List.mem_of_getElem? (i := 94) rfl)) (by decide) G306_0 (own_mt13 l Z a0 hw b263 (-1 : Int64) T306.heap G306_1) rfl (W := 0) (by decide) (by decide) (g := (mkF m 103 #[.val (.long x0), .second, .val (.int x1), .val (.int (1 : Int32)), .val (.long (-1 : Int64)), .second, .val (.ref a238), .val (.ref b241), .val (.ref b252), .val (.ref b263)] [(.ref b263)])) rfl (by rw [hml]; rfl) (lenOf own_pd3 rfl) rfl (by show 2 * 0 + _ ≤ _; exact Nat.le_of_eq rfl) (hb hby at_103) (by decide) (by decide)
      obtain ⟨rfl, e314, rfl⟩ := hQ314
      have N314 := Fr.app N306 (Fr.nil n0)
      refine own_via (T' := T314) (g' := (mkF m 106 #[.val (.long x0), .second, .val (.int x1), .val (.int (1 : Int32)), .val (.long (-1 : Int64)), .second, .val (.ref a238), .val (.ref b241), .val (.ref b252), .val (.ref b263)] [(.int (own_ck (-1 : Int64)))])) st314 ?_
      refine own_via (T' := T314) (g' := (mkF m 107 #[.val (.long x0), .second, .val (.int x1), .val (.int (1 : Int32)), .val (.long (-1 : Int64)), .second, .val (.ref a238), .val (.ref b241), .val (.ref b252), .val (.ref b263)] [(.int (1 : Int32)), (.int (own_ck (-1 : Int64)))])) (fun t k => XS.iloadN X314.here hx rfl (hb hby at_106) rfl k) ?_
      by_cases hc315 : (own_ck (-1 : Int64)) = (1 : Int32)
      · refine own_via (T' := T314) (g' := (mkF m 115 #[.val (.long x0), .second, .val (.int x1), .val (.int (1 : Int32)), .val (.long (-1 : Int64)), .second, .val (.ref a238), .val (.ref b241), .val (.ref b252), .val (.ref b263)] [(.int (1 : Int32))])) (fun t k => XS.icmpNo X314.here hx rfl (hb hby at_107) rfl (teq hc315).2 (XS.iconst X314.here hx rfl (hb hby at_110) (XS.goto X314.here hx rfl (pc0 := 111) (pc' := 115) rfl (hb hby at_111) (by decide) (by decide) k))) ?_
        refine own_retNW X314 hx hS269 e314 kz307 hlk (ty := .boolean) hret (by simp) (hb hby at_115) (by decide) (by decide) ?_
        exact ⟨by rw [own_f0, if_neg hc1, if_neg hc159, if_pos hc315] <;> rfl, N314⟩
      · refine own_via (T' := T314) (g' := (mkF m 115 #[.val (.long x0), .second, .val (.int x1), .val (.int (1 : Int32)), .val (.long (-1 : Int64)), .second, .val (.ref a238), .val (.ref b241), .val (.ref b252), .val (.ref b263)] [(.int (0 : Int32))])) (fun t k => XS.icmpYes X314.here hx rfl (pc0 := 107) (pc' := 114) rfl (hb hby at_107) rfl (feq hc315).2 (by decide) (by decide) (XS.iconst X314.here hx rfl (hb hby at_114) k)) ?_
        refine own_retNW X314 hx hS269 e314 kz307 hlk (ty := .boolean) hret (by simp) (hb hby at_115) (by decide) (by decide) ?_
        exact ⟨by rw [own_f0, if_neg hc1, if_neg hc159, if_neg hc315] <;> rfl, N314⟩
theorem own_law (x0 : Int64) (x1 cz : Int32) : own_f0 x0 x1 cz = 1 := by
  have m := c_maskL x0 9223372036854775807 63 (by decide) (by decide)
  have h1 : ¬ (x0 &&& (9223372036854775807 : Int64)) < 0 := by
    have k0 : (0 : Int64).toInt = 0 := by decide
    rw [Int64.lt_iff_toInt_lt]; omega
  have h2 : (-1 : Int64) < 0 := by decide
  unfold own_f0 own_ck
  simp [h1, h2]
set_option maxRecDepth 65536 in
set_option maxHeartbeats 40000000 in
theorem own_comes {Post : Tables → Env → Array Value → State → Outcome → State → Prop} (hpost : ∀ tb e args s v u, (limb_1_1.after args s (.returned v) u = true ∧ limb_1_2.after args s (.returned v) u = true ∧ True) → FramedW s (.returned v) u (Jvm.fieldLocs frame_1_writes args s ++ Jvm.arrayLocs frame_1_arrays args s ++ Jvm.staticLocs frame_1_statics s) 32 3200 → Post tb e args s (.returned v) u) :
    ArmFor flags0 classFile x code maxLocals ret World_1 tables_1 room_1 Calls_1 rest_1 Pre_1 Post := by
  intro l hfl _ _ p e ha hc hk s m args below hf hA hF happ hP
  obtain ⟨hcalls, hrest, hpre⟩ := hP
  obtain ⟨-, -, -, hnamed, -, -, -, hat⟩ := (Spec.applies_iff hf).mp happ
  obtain ⟨hg, hn⟩ := and_e (Cond.before_iff.mp (show (Jvm.Cond.and given_1 narrow_1).before args s = true from hpre))
  obtain ⟨g1, g2⟩ := and_e hg
  obtain ⟨g3, g4⟩ := and_e g2
  obtain ⟨w0, w1, rfl⟩ : ∃ w0 w1 : Value, args = #[w0, w1] := by
    have hs : args.size = 2 := by simpa [Cond.value, given_1] using g1
    obtain ⟨L⟩ := args
    match L, hs with
    | [w0, w1], _ => exact ⟨w0, w1, rfl⟩
  have hw := fun d (hd : d ∈ tables_1) => atoms_spec (ws := Jvm.Cond.code x code maxLocals ret :: tables_1) hat d (List.mem_cons_of_mem _ hd)
  have hfit : Fit s := fun {y c} hc i hi => by
    obtain ⟨ha, rfl⟩ := Array.getElem?_eq_some_iff.mp hc
    have q := List.all_eq_true.mp ((Array.all_eq_true_iff_forall_mem.mp hF) _ (Array.getElem_mem ha)) i (List.mem_range.mpr hi)
    simpa [Array.getElem?_eq_getElem hi] using q
  obtain ⟨i0, ei0⟩ := isL_v g3
  obtain rfl : w0 = (.long i0) := Option.some.inj ei0
  obtain ⟨i1, ei1⟩ := is_v g4
  obtain rfl : w1 = (.int i1) := Option.some.inj ei1
  obtain ⟨hsets, hown0⟩ := atoms_of _ (rest_1_c_eq ▸ (show rest_1_c.before _ s = true from hrest))
  obtain ⟨cz, ecz⟩ := is_v (Cond.before_iff.mp (hsets _ (List.mem_of_getElem? (i := 10) rfl)))
  have hcz : ¬ cz = 0 := by
    have q := not_v (Cond.before_iff.mp (hsets _ (List.mem_of_getElem? (i := 11) rfl)))
    rw [Cond.eq_ints ecz rfl] at q
    intro z; simp [z] at q
  have S_cs := Sta.start ecz (Or.inl (hsets _ (List.mem_of_getElem? (i := 9) rfl)))
  obtain ⟨dv, edv, hdf⟩ := static_fit hfit (hsets _ (List.mem_of_getElem? (i := 2) rfl)) (ty := .array (.object "java/lang/Object")) (by decide)
  have S_de := Sta.start edv (Or.inr ⟨hw _ (List.mem_of_getElem? (i := 21) rfl), hsets _ (List.mem_of_getElem? (i := 2) rfl)⟩)
  have hdn : narrow (.array (.object "java/lang/Object")) dv = dv := by rcases ref_cases (fit_R hdf rfl) with rfl | ⟨_, rfl⟩ <;> rfl
  obtain ⟨n, o, h1, h2, h3, _, L, rfl, ⟨hval, N⟩, hq⟩ := own_mt0 l s _ hw i0 i1 cz dv s.heap s.heap.size rfl rfl S_cs S_de (Old.start s) hcz hdn hdf tables_1 p e ha hc hk s m _ below hf ((Spec.applies_iff_loose hf).mp happ).1 ⟨rfl, rfl⟩ trivial
  rw [own_law i0 i1 cz] at hval
  subst hval
  refine ⟨n, _, h1, h2, h3, hpost _ _ _ _ _ _ ⟨Cond.after_iff.mpr rfl, Cond.after_iff.mpr (eq_i res_at (Term.int_eval (1)) rfl), trivial⟩ ⟨hq.1, hq.2.1, hq.2.2.1, (hq.2.2.2.sift fun y hy => Or.inr (N y hy)).mono (by decide) (by decide)⟩⟩
theorem main_1_1 : Claimed_1_1 := own_comes fun _ _ _ _ _ _ h hF => ⟨h.1, hF⟩
theorem main_1_2 : Claimed_1_2 := own_comes fun _ _ _ _ _ _ h hF => ⟨h.2.1, hF⟩
end Jvm.Pilot.@@N@@
namespace Jvm.Pilot.@@N@@
open Jvm Jvm.ClassFile Sem Op Lib Jvm.Free Jvm.Stand Jvm.Pilot.@@N@@.Jvm.D
/-! MADE BY PROGRAM (witnessworld.py) out of the Statement's table words and the real class files: 31 classes; the members and pool entries that the words name. The judged class is class 1, her method 1. -/
namespace start1
open Jvm.ClassFile
def u (s : String) : CpInfo := .utf8 (stringToUtf16 s)
/-- a pool by its gaps: so many unusable entries, then the entry; so many at the end -/
def gap : Nat → List CpInfo → List CpInfo
  | 0, r => r
  | n + 1, r => .unusable :: gap n r
def poolList (es : List (Nat × CpInfo)) (last : Nat) : List CpInfo := es.foldr (fun e r => gap e.1 (e.2 :: r)) (gap last [])
def pool (es : List (Nat × CpInfo)) (last : Nat) : Array CpInfo := ⟨poolList es last⟩
def fileOf (pool : Array CpInfo) (this : Nat) (attrs : Array Attribute := #[]) (ms : Array MethodInfo := #[]) (fl : Nat := 33) (sup : Nat := 0) (ifs : Array Nat := #[]) (fds : Array FieldInfo := #[]) : ClassFile where
  minorVersion := 0
  majorVersion := 65
  constantPool := pool
  accessFlags := fl
  thisClass := this
  superClass := sup
  interfaces := ifs
  fields := fds
  methods := ms
  attributes := attrs
def plain (name : String) (sup : Option ClassId) : Class where
  name := name
  kind := .ordinary
  loader := none
  accessFlags := 33
  super := sup
  interfaces := #[]
  cf := none
  fields := #[]
  methods := #[]
  instanceTypes := #[]
  staticTypes := #[]
  resolved := #[]
  callSites := []
  init := .initialized
  statics := none
  mirror := none

def pool0 : Array CpInfo := pool [(5, u "<init>"), (0, u "()V"), (1, .class_ 10), (1, u "java/lang/Object")] 113

def k0c0 : Code := { maxStack := 0, maxLocals := 1, code := object_method_1_code, exceptionTable := #[], attributes := #[] }
def k0m0 : Method := { name := "<init>", desc := "()V", sig := { parameters := [], returnType := none }, accessFlags := 1, code := some k0c0 }
/-- java/lang/Object -/
def k0 : Class := { plain "java/lang/Object" none with
  accessFlags := 33
  interfaces := #[]
  cf := some (fileOf pool0 8 #[] #[{ accessFlags := 1, nameIndex := 5, descriptorIndex := 6, attributes := #[] }] 33 0 #[] #[])
  fields := #[]
  methods := #[k0m0]
  instanceTypes := #[]
  staticTypes := #[]
  resolved := Array.replicate 124 none
  statics := none }

def pool1 : Array CpInfo := pool [(2, .class_ 4), (0, .nameAndType 5 6), (0, u "java/lang/Object"), (0, u "<init>"), (0, u "()V"), (0, .long 18446744073709551615), (3, .long 9223372036854775807), (1, .class_ 14), (0, u "com/example/recurve/recurve/http/HttpRequestHead"), (0, .string 16), (0, u "HTTP/1.1"), (0, .string 18), (0, u "HTTP/1.0"), (0, .class_ 20), (0, u "com/example/recurve/recurve/http/HttpFields"), (0, .methodref 19 3), (0, .string 23), (0, u "GET"), (0, .class_ 25), (0, u "java/lang/String"), (0, .methodref 24 27), (0, .nameAndType 5 28), (0, u "([C)V"), (0, .methodref 13 30), (0, .nameAndType 5 31), (0, u "(Ljava/lang/String;Ljava/lang/String;Ljava/lang/String;Lcom/example/recurve/recurve/http/HttpFields;J)V"), (0, .methodref 13 33), (0, .nameAndType 34 35), (0, u "chunked"), (0, u "()Z"), (0, .class_ 37), (0, u "com/example/recurve/recurve/http/HttpRequestHeadChunkedPinLaw"), (2, u "law"), (0, u "(JI)Z")] 5

def k1m0 : Method := { name := "<init>", desc := "()V", sig := { parameters := [], returnType := none }, accessFlags := 1, code := none }
def k1c1 : Code := { maxStack := 8, maxLocals := 10, code := code, exceptionTable := #[], attributes := #[] }
def k1m1 : Method := { name := "law", desc := "(JI)Z", sig := { parameters := [.long, .int], returnType := some .boolean }, accessFlags := 9, code := some k1c1 }
/-- com/example/recurve/recurve/http/HttpRequestHeadChunkedPinLaw -/
def k1 : Class := { plain "com/example/recurve/recurve/http/HttpRequestHeadChunkedPinLaw" (some 0) with
  accessFlags := 49
  interfaces := #[]
  cf := some (fileOf pool1 36 #[] #[{ accessFlags := 1, nameIndex := 5, descriptorIndex := 6, attributes := #[] }, { accessFlags := 9, nameIndex := 40, descriptorIndex := 41, attributes := #[] }] 49 2 #[] #[])
  fields := #[]
  methods := #[k1m0, k1m1]
  instanceTypes := #[]
  staticTypes := #[]
  resolved := Array.replicate 47 none
  statics := none }

def pool2 : Array CpInfo := pool [(1, .class_ 2), (0, u "java/io/Serializable"), (0, .class_ 4), (0, u "java/lang/Object")] 2

/-- java/io/Serializable -/
def k2 : Class := { plain "java/io/Serializable" (some 0) with
  accessFlags := 1537
  interfaces := #[]
  cf := some (fileOf pool2 1 #[] #[] 1537 3 #[] #[])
  fields := #[]
  methods := #[]
  instanceTypes := #[]
  staticTypes := #[]
  resolved := Array.replicate 7 none
  statics := none }

def pool3 : Array CpInfo := pool [(1, .class_ 2), (0, u "java/lang/Comparable"), (0, .class_ 4), (0, u "java/lang/Object")] 7

/-- java/lang/Comparable -/
def k3 : Class := { plain "java/lang/Comparable" (some 0) with
  accessFlags := 1537
  interfaces := #[]
  cf := some (fileOf pool3 1 #[] #[] 1537 3 #[] #[])
  fields := #[]
  methods := #[]
  instanceTypes := #[]
  staticTypes := #[]
  resolved := Array.replicate 12 none
  statics := none }

def pool4 : Array CpInfo := pool [(2, .class_ 4), (1, u "java/lang/CharSequence"), (42, .class_ 48), (0, u "java/lang/CharSequence$1CodePointIterator"), (10, .class_ 60), (0, u "java/lang/CharSequence$1CharIterator"), (5, .class_ 67), (0, u "java/lang/Object")] 63

/-- java/lang/CharSequence -/
def k4 : Class := { plain "java/lang/CharSequence" (some 0) with
  accessFlags := 1537
  interfaces := #[]
  cf := some (fileOf pool4 2 #[.nestMembers #[47, 59]] #[] 1537 66 #[] #[])
  fields := #[]
  methods := #[]
  instanceTypes := #[]
  staticTypes := #[]
  resolved := Array.replicate 131 none
  statics := none }

def pool5 : Array CpInfo := pool [(1, .class_ 2), (0, u "java/lang/constant/Constable"), (0, .class_ 4), (0, u "java/lang/Object")] 6

/-- java/lang/constant/Constable -/
def k5 : Class := { plain "java/lang/constant/Constable" (some 0) with
  accessFlags := 1537
  interfaces := #[]
  cf := some (fileOf pool5 1 #[] #[] 1537 3 #[] #[])
  fields := #[]
  methods := #[]
  instanceTypes := #[]
  staticTypes := #[]
  resolved := Array.replicate 11 none
  statics := none }

def pool6 : Array CpInfo := pool [(1, .class_ 2), (0, u "java/lang/constant/ConstantDesc"), (0, .class_ 4), (0, u "java/lang/Object")] 32

/-- java/lang/constant/ConstantDesc -/
def k6 : Class := { plain "java/lang/constant/ConstantDesc" (some 0) with
  accessFlags := 1537
  interfaces := #[]
  cf := some (fileOf pool6 1 #[] #[] 1537 3 #[] #[])
  fields := #[]
  methods := #[]
  instanceTypes := #[]
  staticTypes := #[]
  resolved := Array.replicate 37 none
  statics := none }

def pool7 : Array CpInfo := pool [(1, .methodref 2 3), (0, .class_ 4), (0, .nameAndType 5 6), (0, u "java/lang/Object"), (0, u "<init>"), (0, u "()V"), (2, .fieldref 10 11), (0, .class_ 12), (0, .nameAndType 13 14), (0, u "java/lang/String"), (0, u "value"), (0, u "[B"), (0, .fieldref 10 16), (0, .nameAndType 17 18), (0, u "coder"), (0, u "B"), (2, u "hash"), (0, u "I"), (2, u "hashIsZero"), (0, u "Z"), (0, .methodref 10 28), (0, .nameAndType 5 29), (0, u "([CIILjava/lang/Void;)V"), (8, .fieldref 10 39), (0, .nameAndType 40 26), (0, u "COMPACT_STRINGS"), (1, .class_ 44), (1, u "java/lang/StringUTF16"), (0, u "compress"), (1, .methodref 42 48), (0, .nameAndType 49 50), (0, u "coderFromArrayLen"), (0, u "([BI)B"), (126, .methodref 42 178), (0, .nameAndType 45 179), (0, u "([CII)[B"), (395, .class_ 576), (0, u "java/lang/CharSequence"), (22, u "CASE_INSENSITIVE_ORDER"), (0, u "Ljava/util/Comparator;"), (409, u "([C)V"), (90, u "serialPersistentFields"), (0, u "[Ljava/io/ObjectStreamField;"), (0, .class_ 1104), (0, u "java/lang/String$CaseInsensitiveComparator"), (1, .class_ 1107), (0, u "java/io/Serializable"), (0, .class_ 1109), (0, u "java/lang/Comparable"), (0, .class_ 1111), (0, u "java/lang/constant/Constable"), (0, .class_ 1113), (0, u "java/lang/constant/ConstantDesc"), (2, u "serialVersionUID"), (0, u "J"), (3, u "REPL"), (0, u "C"), (2, u "LATIN1"), (1, u "UTF16")] 323

def k7m0 : Method := { name := "<init>", desc := "()V", sig := { parameters := [], returnType := none }, accessFlags := 1, code := none }
def k7c1 : Code := { maxStack := 5, maxLocals := 2, code := jdk_42_method_3_code, exceptionTable := #[], attributes := #[] }
def k7m1 : Method := { name := "<init>", desc := "([C)V", sig := { parameters := [(.array .char)], returnType := none }, accessFlags := 1, code := some k7c1 }
def k7c2 : Code := { maxStack := 4, maxLocals := 6, code := jdk_42_method_149_code, exceptionTable := #[], attributes := #[] }
def k7m2 : Method := { name := "<init>", desc := "([CIILjava/lang/Void;)V", sig := { parameters := [(.array .char), .int, .int, (.object "java/lang/Void")], returnType := none }, accessFlags := 2, code := some k7c2 }
/-- java/lang/String -/
def k7 : Class := { plain "java/lang/String" (some 0) with
  accessFlags := 49
  interfaces := #[2, 3, 4, 5, 6]
  cf := some (fileOf pool7 10 #[.nestMembers #[1103]] #[{ accessFlags := 1, nameIndex := 5, descriptorIndex := 6, attributes := #[] }, { accessFlags := 1, nameIndex := 5, descriptorIndex := 1010, attributes := #[] }, { accessFlags := 2, nameIndex := 5, descriptorIndex := 29, attributes := #[] }] 49 2 #[1106, 1108, 575, 1110, 1112] #[{ accessFlags := 18, nameIndex := 13, descriptorIndex := 14, attributes := #[] }, { accessFlags := 18, nameIndex := 17, descriptorIndex := 18, attributes := #[] }, { accessFlags := 2, nameIndex := 21, descriptorIndex := 22, attributes := #[] }, { accessFlags := 2, nameIndex := 25, descriptorIndex := 26, attributes := #[] }, { accessFlags := 26, nameIndex := 1116, descriptorIndex := 1117, attributes := #[] }, { accessFlags := 24, nameIndex := 40, descriptorIndex := 26, attributes := #[] }, { accessFlags := 26, nameIndex := 1101, descriptorIndex := 1102, attributes := #[] }, { accessFlags := 26, nameIndex := 1121, descriptorIndex := 1122, attributes := #[] }, { accessFlags := 25, nameIndex := 599, descriptorIndex := 600, attributes := #[] }, { accessFlags := 24, nameIndex := 1125, descriptorIndex := 18, attributes := #[] }, { accessFlags := 24, nameIndex := 1127, descriptorIndex := 18, attributes := #[] }])
  fields := #[{ name := "value", type := (.array .byte), accessFlags := 18, slot := 0, constantValue := 0 }, { name := "coder", type := .byte, accessFlags := 18, slot := 1, constantValue := 0 }, { name := "hash", type := .int, accessFlags := 2, slot := 2, constantValue := 0 }, { name := "hashIsZero", type := .boolean, accessFlags := 2, slot := 3, constantValue := 0 }, { name := "serialVersionUID", type := .long, accessFlags := 26, slot := 0, constantValue := 0 }, { name := "COMPACT_STRINGS", type := .boolean, accessFlags := 24, slot := 1, constantValue := 0 }, { name := "serialPersistentFields", type := (.array (.object "java/io/ObjectStreamField")), accessFlags := 26, slot := 2, constantValue := 0 }, { name := "REPL", type := .char, accessFlags := 26, slot := 3, constantValue := 0 }, { name := "CASE_INSENSITIVE_ORDER", type := (.object "java/util/Comparator"), accessFlags := 25, slot := 4, constantValue := 0 }, { name := "LATIN1", type := .byte, accessFlags := 24, slot := 5, constantValue := 0 }, { name := "UTF16", type := .byte, accessFlags := 24, slot := 6, constantValue := 0 }]
  methods := #[k7m0, k7m1, k7m2]
  instanceTypes := #[(.array .byte), .byte, .int, .boolean]
  staticTypes := #[.long, .boolean, (.array (.object "java/io/ObjectStreamField")), .char, (.object "java/util/Comparator"), .byte, .byte]
  resolved := Array.replicate 1451 none
  statics := some 0 }

def pool8 : Array CpInfo := pool [(1, .methodref 2 3), (0, .class_ 4), (0, .nameAndType 5 6), (0, u "java/lang/Object"), (0, u "<init>"), (0, u "()V"), (0, .class_ 8), (0, u "java/util/ArrayList"), (0, .methodref 7 3), (0, .fieldref 11 12), (0, .class_ 13), (0, .nameAndType 14 15), (0, u "com/example/recurve/recurve/http/HttpFields"), (0, u "fields"), (0, u "Ljava/util/List;"), (7, .class_ 24), (0, u "com/example/recurve/recurve/http/HttpFields$Field")] 177

def k8c0 : Code := { maxStack := 3, maxLocals := 1, code := prog_17_method_1_code, exceptionTable := #[], attributes := #[] }
def k8m0 : Method := { name := "<init>", desc := "()V", sig := { parameters := [], returnType := none }, accessFlags := 1, code := some k8c0 }
/-- com/example/recurve/recurve/http/HttpFields -/
def k8 : Class := { plain "com/example/recurve/recurve/http/HttpFields" (some 0) with
  accessFlags := 49
  interfaces := #[]
  cf := some (fileOf pool8 11 #[.nestMembers #[23]] #[{ accessFlags := 1, nameIndex := 5, descriptorIndex := 6, attributes := #[] }] 49 2 #[] #[{ accessFlags := 18, nameIndex := 14, descriptorIndex := 15, attributes := #[] }])
  fields := #[{ name := "fields", type := (.object "java/util/List"), accessFlags := 18, slot := 0, constantValue := 0 }]
  methods := #[k8m0]
  instanceTypes := #[(.object "java/util/List")]
  staticTypes := #[]
  resolved := Array.replicate 202 none
  statics := none }

def pool9 : Array CpInfo := pool [(8, .class_ 10), (1, u "java/lang/Iterable"), (24, .class_ 36), (0, u "java/lang/Object")] 25

/-- java/lang/Iterable -/
def k9 : Class := { plain "java/lang/Iterable" (some 0) with
  accessFlags := 1537
  interfaces := #[]
  cf := some (fileOf pool9 8 #[] #[] 1537 35 #[] #[])
  fields := #[]
  methods := #[]
  instanceTypes := #[]
  staticTypes := #[]
  resolved := Array.replicate 62 none
  statics := none }

def pool10 : Array CpInfo := pool [(10, .class_ 12), (1, u "java/util/Collection"), (47, .class_ 61), (0, u "java/lang/Object"), (0, .class_ 63), (0, u "java/lang/Iterable")] 51

/-- java/util/Collection -/
def k10 : Class := { plain "java/util/Collection" (some 0) with
  accessFlags := 1537
  interfaces := #[9]
  cf := some (fileOf pool10 10 #[] #[] 1537 60 #[62] #[])
  fields := #[]
  methods := #[]
  instanceTypes := #[]
  staticTypes := #[]
  resolved := Array.replicate 115 none
  statics := none }

def pool11 : Array CpInfo := pool [(1, .methodref 2 3), (0, .class_ 4), (0, .nameAndType 5 6), (0, u "java/lang/Object"), (0, u "<init>"), (0, u "()V"), (1, .class_ 10), (1, u "java/util/AbstractCollection"), (66, .class_ 78), (0, u "java/util/Collection")] 81

def k11c0 : Code := { maxStack := 1, maxLocals := 1, code := jdk_22_method_1_code, exceptionTable := #[], attributes := #[] }
def k11m0 : Method := { name := "<init>", desc := "()V", sig := { parameters := [], returnType := none }, accessFlags := 4, code := some k11c0 }
/-- java/util/AbstractCollection -/
def k11 : Class := { plain "java/util/AbstractCollection" (some 0) with
  accessFlags := 1057
  interfaces := #[10]
  cf := some (fileOf pool11 8 #[] #[{ accessFlags := 4, nameIndex := 5, descriptorIndex := 6, attributes := #[] }] 1057 2 #[77] #[])
  fields := #[]
  methods := #[k11m0]
  instanceTypes := #[]
  staticTypes := #[]
  resolved := Array.replicate 160 none
  statics := none }

def pool12 : Array CpInfo := pool [(8, .class_ 10), (1, u "java/util/SequencedCollection"), (15, .class_ 27), (0, u "java/lang/Object"), (0, .class_ 29), (0, u "java/util/Collection")] 27

/-- java/util/SequencedCollection -/
def k12 : Class := { plain "java/util/SequencedCollection" (some 0) with
  accessFlags := 1537
  interfaces := #[10]
  cf := some (fileOf pool12 8 #[] #[] 1537 26 #[28] #[])
  fields := #[]
  methods := #[]
  instanceTypes := #[]
  staticTypes := #[]
  resolved := Array.replicate 57 none
  statics := none }

def pool13 : Array CpInfo := pool [(8, .class_ 10), (1, u "java/util/List"), (92, .class_ 104), (0, u "java/lang/Object"), (15, .class_ 121), (0, u "java/util/SequencedCollection")] 129

/-- java/util/List -/
def k13 : Class := { plain "java/util/List" (some 0) with
  accessFlags := 1537
  interfaces := #[12]
  cf := some (fileOf pool13 8 #[] #[] 1537 103 #[120] #[])
  fields := #[]
  methods := #[]
  instanceTypes := #[]
  staticTypes := #[]
  resolved := Array.replicate 251 none
  statics := none }

def pool14 : Array CpInfo := pool [(1, .methodref 2 3), (0, .class_ 4), (0, .nameAndType 5 6), (0, u "java/util/AbstractCollection"), (0, u "<init>"), (0, u "()V"), (0, .fieldref 8 9), (0, .class_ 10), (0, .nameAndType 11 12), (0, u "java/util/AbstractList"), (0, u "modCount"), (0, u "I"), (64, .class_ 78), (0, u "java/util/AbstractList$Itr"), (3, .class_ 83), (0, u "java/util/AbstractList$ListItr"), (9, .class_ 94), (0, u "java/util/AbstractList$RandomAccessSubList"), (3, .class_ 99), (0, u "java/util/AbstractList$SubList"), (33, .class_ 134), (0, u "java/util/List"), (73, .class_ 209), (0, u "java/util/AbstractList$SubList$1"), (0, .class_ 211), (0, u "java/util/AbstractList$RandomAccessSpliterator")] 6

def k14c0 : Code := { maxStack := 2, maxLocals := 1, code := jdk_39_method_1_code, exceptionTable := #[], attributes := #[] }
def k14m0 : Method := { name := "<init>", desc := "()V", sig := { parameters := [], returnType := none }, accessFlags := 4, code := some k14c0 }
/-- java/util/AbstractList -/
def k14 : Class := { plain "java/util/AbstractList" (some 11) with
  accessFlags := 1057
  interfaces := #[13]
  cf := some (fileOf pool14 8 #[.nestMembers #[93, 98, 208, 210, 82, 77]] #[{ accessFlags := 4, nameIndex := 5, descriptorIndex := 6, attributes := #[] }] 1057 2 #[133] #[{ accessFlags := 132, nameIndex := 11, descriptorIndex := 12, attributes := #[] }])
  fields := #[{ name := "modCount", type := .int, accessFlags := 132, slot := 0, constantValue := 0 }]
  methods := #[k14m0]
  instanceTypes := #[.int]
  staticTypes := #[]
  resolved := Array.replicate 218 none
  statics := none }

def pool15 : Array CpInfo := pool [(1, .class_ 2), (0, u "java/util/RandomAccess"), (0, .class_ 4), (0, u "java/lang/Object")] 2

/-- java/util/RandomAccess -/
def k15 : Class := { plain "java/util/RandomAccess" (some 0) with
  accessFlags := 1537
  interfaces := #[]
  cf := some (fileOf pool15 1 #[] #[] 1537 3 #[] #[])
  fields := #[]
  methods := #[]
  instanceTypes := #[]
  staticTypes := #[]
  resolved := Array.replicate 7 none
  statics := none }

def pool16 : Array CpInfo := pool [(1, .class_ 2), (0, u "java/lang/Cloneable"), (0, .class_ 4), (0, u "java/lang/Object")] 2

/-- java/lang/Cloneable -/
def k16 : Class := { plain "java/lang/Cloneable" (some 0) with
  accessFlags := 1537
  interfaces := #[]
  cf := some (fileOf pool16 1 #[] #[] 1537 3 #[] #[])
  fields := #[]
  methods := #[]
  instanceTypes := #[]
  staticTypes := #[]
  resolved := Array.replicate 7 none
  statics := none }

def pool17 : Array CpInfo := pool [(1, .methodref 2 3), (0, .class_ 4), (0, .nameAndType 5 6), (0, u "java/util/AbstractList"), (0, u "<init>"), (0, u "()V"), (2, .fieldref 10 11), (0, .class_ 12), (0, .nameAndType 13 14), (0, u "java/util/ArrayList"), (0, u "elementData"), (0, u "[Ljava/lang/Object;"), (2, u "EMPTY_ELEMENTDATA"), (21, .fieldref 10 40), (0, .nameAndType 41 14), (0, u "DEFAULTCAPACITY_EMPTY_ELEMENTDATA"), (8, u "size"), (0, u "I"), (96, .class_ 149), (0, u "java/util/List"), (112, .class_ 263), (0, u "java/util/ArrayList$ListItr"), (3, .class_ 268), (0, u "java/util/ArrayList$Itr"), (7, .class_ 277), (0, u "java/util/ArrayList$SubList"), (12, .class_ 291), (0, u "java/util/ArrayList$ArrayListSpliterator"), (37, .class_ 330), (0, u "java/util/RandomAccess"), (0, .class_ 332), (0, u "java/lang/Cloneable"), (0, .class_ 334), (0, u "java/io/Serializable"), (0, u "serialVersionUID"), (0, u "J"), (3, u "DEFAULT_CAPACITY"), (159, .class_ 501), (0, u "java/util/ArrayList$SubList$2"), (0, .class_ 503), (0, u "java/util/ArrayList$SubList$1")] 5

def k17c0 : Code := { maxStack := 2, maxLocals := 1, code := jdk_38_method_2_code, exceptionTable := #[], attributes := #[] }
def k17m0 : Method := { name := "<init>", desc := "()V", sig := { parameters := [], returnType := none }, accessFlags := 1, code := some k17c0 }
/-- java/util/ArrayList -/
def k17 : Class := { plain "java/util/ArrayList" (some 14) with
  accessFlags := 33
  interfaces := #[13, 15, 16, 2]
  cf := some (fileOf pool17 10 #[.nestMembers #[290, 276, 500, 502, 262, 267]] #[{ accessFlags := 1, nameIndex := 5, descriptorIndex := 6, attributes := #[] }] 33 2 #[148, 329, 331, 333] #[{ accessFlags := 26, nameIndex := 335, descriptorIndex := 336, attributes := #[] }, { accessFlags := 26, nameIndex := 340, descriptorIndex := 51, attributes := #[] }, { accessFlags := 26, nameIndex := 17, descriptorIndex := 14, attributes := #[] }, { accessFlags := 26, nameIndex := 41, descriptorIndex := 14, attributes := #[] }, { accessFlags := 128, nameIndex := 13, descriptorIndex := 14, attributes := #[] }, { accessFlags := 2, nameIndex := 50, descriptorIndex := 51, attributes := #[] }])
  fields := #[{ name := "serialVersionUID", type := .long, accessFlags := 26, slot := 0, constantValue := 0 }, { name := "DEFAULT_CAPACITY", type := .int, accessFlags := 26, slot := 1, constantValue := 0 }, { name := "EMPTY_ELEMENTDATA", type := (.array (.object "java/lang/Object")), accessFlags := 26, slot := 2, constantValue := 0 }, { name := "DEFAULTCAPACITY_EMPTY_ELEMENTDATA", type := (.array (.object "java/lang/Object")), accessFlags := 26, slot := 3, constantValue := 0 }, { name := "elementData", type := (.array (.object "java/lang/Object")), accessFlags := 128, slot := 1, constantValue := 0 }, { name := "size", type := .int, accessFlags := 2, slot := 2, constantValue := 0 }]
  methods := #[k17m0]
  instanceTypes := #[.int, (.array (.object "java/lang/Object")), .int]
  staticTypes := #[.long, .int, (.array (.object "java/lang/Object")), (.array (.object "java/lang/Object"))]
  resolved := Array.replicate 509 none
  statics := some 1 }

def pool18 : Array CpInfo := pool [(1, .methodref 2 3), (0, .class_ 4), (0, .nameAndType 5 6), (0, u "java/lang/Object"), (0, u "<init>"), (0, u "()V"), (0, .class_ 8), (0, u "java/lang/Record")] 13

def k18c0 : Code := { maxStack := 1, maxLocals := 1, code := jdk_30_method_1_code, exceptionTable := #[], attributes := #[] }
def k18m0 : Method := { name := "<init>", desc := "()V", sig := { parameters := [], returnType := none }, accessFlags := 4, code := some k18c0 }
/-- java/lang/Record -/
def k18 : Class := { plain "java/lang/Record" (some 0) with
  accessFlags := 1057
  interfaces := #[]
  cf := some (fileOf pool18 7 #[] #[{ accessFlags := 4, nameIndex := 5, descriptorIndex := 6, attributes := #[] }] 1057 2 #[] #[])
  fields := #[]
  methods := #[k18m0]
  instanceTypes := #[]
  staticTypes := #[]
  resolved := Array.replicate 22 none
  statics := none }

def pool19 : Array CpInfo := pool [(1, .methodref 2 3), (0, .class_ 4), (0, .nameAndType 5 6), (0, u "java/lang/Record"), (0, u "<init>"), (0, u "()V"), (0, .fieldref 8 9), (0, .class_ 10), (0, .nameAndType 11 12), (0, u "com/example/recurve/recurve/http/HttpRequestHead"), (0, u "method"), (0, u "Ljava/lang/String;"), (0, .fieldref 8 14), (0, .nameAndType 15 12), (0, u "target"), (0, .fieldref 8 17), (0, .nameAndType 18 12), (0, u "protocol"), (0, .fieldref 8 20), (0, .nameAndType 21 22), (0, u "fields"), (0, u "Lcom/example/recurve/recurve/http/HttpFields;"), (0, .fieldref 8 24), (0, .nameAndType 25 26), (0, u "contentLength"), (0, u "J"), (35, u "HTTP_1_1"), (1, u "HTTP_1_0"), (2, u "(Ljava/lang/String;Ljava/lang/String;Ljava/lang/String;Lcom/example/recurve/recurve/http/HttpFields;J)V"), (3, u "chunked"), (0, u "()Z")] 31

def k19c0 : Code := { maxStack := 3, maxLocals := 7, code := prog_20_method_1_code, exceptionTable := #[], attributes := #[] }
def k19m0 : Method := { name := "<init>", desc := "(Ljava/lang/String;Ljava/lang/String;Ljava/lang/String;Lcom/example/recurve/recurve/http/HttpFields;J)V", sig := { parameters := [(.object "java/lang/String"), (.object "java/lang/String"), (.object "java/lang/String"), (.object "com/example/recurve/recurve/http/HttpFields"), .long], returnType := none }, accessFlags := 1, code := some k19c0 }
def k19c1 : Code := { maxStack := 4, maxLocals := 1, code := prog_20_method_2_code, exceptionTable := #[], attributes := #[] }
def k19m1 : Method := { name := "chunked", desc := "()Z", sig := { parameters := [], returnType := some .boolean }, accessFlags := 1, code := some k19c1 }
/-- com/example/recurve/recurve/http/HttpRequestHead -/
def k19 : Class := { plain "com/example/recurve/recurve/http/HttpRequestHead" (some 18) with
  accessFlags := 49
  interfaces := #[]
  cf := some (fileOf pool19 8 #[] #[{ accessFlags := 1, nameIndex := 5, descriptorIndex := 67, attributes := #[] }, { accessFlags := 1, nameIndex := 71, descriptorIndex := 72, attributes := #[] }] 49 2 #[] #[{ accessFlags := 18, nameIndex := 11, descriptorIndex := 12, attributes := #[] }, { accessFlags := 18, nameIndex := 15, descriptorIndex := 12, attributes := #[] }, { accessFlags := 18, nameIndex := 18, descriptorIndex := 12, attributes := #[] }, { accessFlags := 18, nameIndex := 21, descriptorIndex := 22, attributes := #[] }, { accessFlags := 18, nameIndex := 25, descriptorIndex := 26, attributes := #[] }, { accessFlags := 25, nameIndex := 62, descriptorIndex := 12, attributes := #[] }, { accessFlags := 25, nameIndex := 64, descriptorIndex := 12, attributes := #[] }])
  fields := #[{ name := "method", type := (.object "java/lang/String"), accessFlags := 18, slot := 0, constantValue := 0 }, { name := "target", type := (.object "java/lang/String"), accessFlags := 18, slot := 1, constantValue := 0 }, { name := "protocol", type := (.object "java/lang/String"), accessFlags := 18, slot := 2, constantValue := 0 }, { name := "fields", type := (.object "com/example/recurve/recurve/http/HttpFields"), accessFlags := 18, slot := 3, constantValue := 0 }, { name := "contentLength", type := .long, accessFlags := 18, slot := 4, constantValue := 0 }, { name := "HTTP_1_1", type := (.object "java/lang/String"), accessFlags := 25, slot := 0, constantValue := 0 }, { name := "HTTP_1_0", type := (.object "java/lang/String"), accessFlags := 25, slot := 1, constantValue := 0 }]
  methods := #[k19m0, k19m1]
  instanceTypes := #[(.object "java/lang/String"), (.object "java/lang/String"), (.object "java/lang/String"), (.object "com/example/recurve/recurve/http/HttpFields"), .long]
  staticTypes := #[(.object "java/lang/String"), (.object "java/lang/String")]
  resolved := Array.replicate 104 none
  statics := none }

def pool20 : Array CpInfo := pool [(6, .class_ 8), (1, u "java/lang/Object"), (0, u "<init>"), (0, u "()V"), (1, .class_ 14), (1, u "java/lang/StringUTF16"), (31, u "$assertionsDisabled"), (0, u "Z"), (13, u "HI_BYTE_SHIFT"), (0, u "I"), (2, u "LO_BYTE_SHIFT"), (49, .methodref 12 116), (0, .nameAndType 117 118), (0, u "compress"), (0, u "([CI[BII)I"), (3, u "([CII)[B"), (138, u "coderFromArrayLen"), (0, u "([BI)B"), (106, .class_ 371), (1, u "java/lang/StringUTF16$LinesSpliterator"), (58, u "MAX_LENGTH"), (196, .class_ 628), (0, u "java/lang/StringUTF16$CodePointsSpliterator"), (0, .class_ 630), (0, u "java/lang/StringUTF16$CharsSpliterator")] 4

def k20m0 : Method := { name := "<init>", desc := "()V", sig := { parameters := [], returnType := none }, accessFlags := 0, code := none }
def k20c1 : Code := { maxStack := 2, maxLocals := 2, code := jdk_52_method_15_code, exceptionTable := #[], attributes := #[] }
def k20m1 : Method := { name := "coderFromArrayLen", desc := "([BI)B", sig := { parameters := [(.array .byte), .int], returnType := some .byte }, accessFlags := 8, code := some k20c1 }
def k20c2 : Code := { maxStack := 5, maxLocals := 6, code := jdk_52_method_16_code, exceptionTable := #[], attributes := #[] }
def k20m2 : Method := { name := "compress", desc := "([CII)[B", sig := { parameters := [(.array .char), .int, .int], returnType := some (.array .byte) }, accessFlags := 9, code := some k20c2 }
def k20c3 : Code := { maxStack := 3, maxLocals := 7, code := jdk_52_method_21_code, exceptionTable := #[], attributes := #[] }
def k20m3 : Method := { name := "compress", desc := "([CI[BII)I", sig := { parameters := [(.array .char), .int, (.array .byte), .int, .int], returnType := some .int }, accessFlags := 9, code := some k20c3 }
/-- java/lang/StringUTF16 -/
def k20 : Class := { plain "java/lang/StringUTF16" (some 0) with
  accessFlags := 48
  interfaces := #[]
  cf := some (fileOf pool20 12 #[.nestMembers #[627, 629, 369]] #[{ accessFlags := 0, nameIndex := 9, descriptorIndex := 10, attributes := #[] }, { accessFlags := 8, nameIndex := 261, descriptorIndex := 262, attributes := #[] }, { accessFlags := 9, nameIndex := 117, descriptorIndex := 122, attributes := #[] }, { accessFlags := 9, nameIndex := 117, descriptorIndex := 118, attributes := #[] }] 48 6 #[] #[{ accessFlags := 26, nameIndex := 61, descriptorIndex := 62, attributes := #[] }, { accessFlags := 26, nameIndex := 65, descriptorIndex := 62, attributes := #[] }, { accessFlags := 24, nameIndex := 430, descriptorIndex := 62, attributes := #[] }, { accessFlags := 4120, nameIndex := 46, descriptorIndex := 47, attributes := #[] }])
  fields := #[{ name := "HI_BYTE_SHIFT", type := .int, accessFlags := 26, slot := 0, constantValue := 0 }, { name := "LO_BYTE_SHIFT", type := .int, accessFlags := 26, slot := 1, constantValue := 0 }, { name := "MAX_LENGTH", type := .int, accessFlags := 24, slot := 2, constantValue := 0 }, { name := "$assertionsDisabled", type := .boolean, accessFlags := 4120, slot := 3, constantValue := 0 }]
  methods := #[k20m0, k20m1, k20m2, k20m3]
  instanceTypes := #[]
  staticTypes := #[.int, .int, .int, .boolean]
  resolved := Array.replicate 635 none
  statics := none }

def pool21 : Array CpInfo := pool [(4, .class_ 6), (1, u "java/lang/Object"), (0, u "<init>"), (0, u "()V"), (5, .class_ 16), (1, u "java/lang/StringLatin1"), (104, u "$assertionsDisabled"), (0, u "Z"), (98, .class_ 223), (1, u "java/lang/StringLatin1$LinesSpliterator"), (166, .class_ 391), (0, u "java/lang/StringLatin1$CharsSpliterator")] 3

def k21m0 : Method := { name := "<init>", desc := "()V", sig := { parameters := [], returnType := none }, accessFlags := 0, code := none }
/-- java/lang/StringLatin1 -/
def k21 : Class := { plain "java/lang/StringLatin1" (some 0) with
  accessFlags := 48
  interfaces := #[]
  cf := some (fileOf pool21 14 #[.nestMembers #[390, 221]] #[{ accessFlags := 0, nameIndex := 7, descriptorIndex := 8, attributes := #[] }] 48 4 #[] #[{ accessFlags := 4120, nameIndex := 121, descriptorIndex := 122, attributes := #[] }])
  fields := #[{ name := "$assertionsDisabled", type := .boolean, accessFlags := 4120, slot := 0, constantValue := 0 }]
  methods := #[k21m0]
  instanceTypes := #[]
  staticTypes := #[.boolean]
  resolved := Array.replicate 395 none
  statics := none }

def pool22 : Array CpInfo := pool [(2, .class_ 4), (1, u "java/lang/Object"), (0, u "<init>"), (0, u "()V"), (17, .class_ 26), (1, u "jdk/internal/util/Preconditions"), (28, .class_ 56), (0, u "jdk/internal/util/Preconditions$4"), (57, .class_ 115), (0, u "jdk/internal/util/Preconditions$1"), (7, u "SIOOBE_FORMATTER"), (0, u "Ljava/util/function/BiFunction;"), (0, .class_ 126), (0, u "jdk/internal/util/Preconditions$2"), (3, u "AIOOBE_FORMATTER"), (0, .class_ 132), (0, u "jdk/internal/util/Preconditions$3"), (3, u "IOOBE_FORMATTER")] 57

def k22m0 : Method := { name := "<init>", desc := "()V", sig := { parameters := [], returnType := none }, accessFlags := 1, code := none }
/-- jdk/internal/util/Preconditions -/
def k22 : Class := { plain "jdk/internal/util/Preconditions" (some 0) with
  accessFlags := 33
  interfaces := #[]
  cf := some (fileOf pool22 24 #[.nestMembers #[55, 131, 125, 114]] #[{ accessFlags := 1, nameIndex := 5, descriptorIndex := 6, attributes := #[] }] 33 2 #[] #[{ accessFlags := 25, nameIndex := 123, descriptorIndex := 124, attributes := #[] }, { accessFlags := 25, nameIndex := 130, descriptorIndex := 124, attributes := #[] }, { accessFlags := 25, nameIndex := 136, descriptorIndex := 124, attributes := #[] }])
  fields := #[{ name := "SIOOBE_FORMATTER", type := (.object "java/util/function/BiFunction"), accessFlags := 25, slot := 0, constantValue := 0 }, { name := "AIOOBE_FORMATTER", type := (.object "java/util/function/BiFunction"), accessFlags := 25, slot := 1, constantValue := 0 }, { name := "IOOBE_FORMATTER", type := (.object "java/util/function/BiFunction"), accessFlags := 25, slot := 2, constantValue := 0 }]
  methods := #[k22m0]
  instanceTypes := #[]
  staticTypes := #[(.object "java/util/function/BiFunction"), (.object "java/util/function/BiFunction"), (.object "java/util/function/BiFunction")]
  resolved := Array.replicate 194 none
  statics := some 2 }

def pool23 : Array CpInfo := pool [(9, u "<init>"), (6, .class_ 18), (1, u "java/lang/Object"), (0, u "()V"), (1, .class_ 23), (1, u "jdk/internal/util/ArraysSupport"), (0, u "LOG2_ARRAY_LONG_INDEX_SCALE"), (0, u "I"), (2, u "U"), (0, u "Ljdk/internal/misc/Unsafe;"), (8, u "BIG_ENDIAN"), (0, u "Z"), (8, u "LOG2_BYTE_BIT_SIZE"), (4, u "LOG2_ARRAY_INT_INDEX_SCALE"), (54, u "JLA"), (0, u "Ljdk/internal/access/JavaLangAccess;"), (11, u "LOG2_ARRAY_BOOLEAN_INDEX_SCALE"), (9, u "LOG2_ARRAY_BYTE_INDEX_SCALE"), (5, u "LOG2_ARRAY_CHAR_INDEX_SCALE"), (5, u "LOG2_ARRAY_SHORT_INDEX_SCALE"), (18, u "LOG2_ARRAY_FLOAT_INDEX_SCALE"), (24, u "LOG2_ARRAY_DOUBLE_INDEX_SCALE"), (89, u "T_BOOLEAN"), (2, u "T_CHAR"), (1, u "T_FLOAT"), (1, u "T_DOUBLE"), (1, u "T_BYTE"), (1, u "T_SHORT"), (1, u "T_INT"), (1, u "T_LONG"), (1, u "SOFT_MAX_ARRAY_LENGTH")] 83

def k23m0 : Method := { name := "<init>", desc := "()V", sig := { parameters := [], returnType := none }, accessFlags := 2, code := none }
/-- jdk/internal/util/ArraysSupport -/
def k23 : Class := { plain "jdk/internal/util/ArraysSupport" (some 0) with
  accessFlags := 33
  interfaces := #[]
  cf := some (fileOf pool23 21 #[] #[{ accessFlags := 2, nameIndex := 9, descriptorIndex := 19, attributes := #[] }] 33 16 #[] #[{ accessFlags := 24, nameIndex := 28, descriptorIndex := 29, attributes := #[] }, { accessFlags := 26, nameIndex := 38, descriptorIndex := 39, attributes := #[] }, { accessFlags := 25, nameIndex := 121, descriptorIndex := 25, attributes := #[] }, { accessFlags := 25, nameIndex := 131, descriptorIndex := 25, attributes := #[] }, { accessFlags := 25, nameIndex := 137, descriptorIndex := 25, attributes := #[] }, { accessFlags := 25, nameIndex := 143, descriptorIndex := 25, attributes := #[] }, { accessFlags := 25, nameIndex := 53, descriptorIndex := 25, attributes := #[] }, { accessFlags := 25, nameIndex := 24, descriptorIndex := 25, attributes := #[] }, { accessFlags := 25, nameIndex := 162, descriptorIndex := 25, attributes := #[] }, { accessFlags := 25, nameIndex := 187, descriptorIndex := 25, attributes := #[] }, { accessFlags := 26, nameIndex := 48, descriptorIndex := 25, attributes := #[] }, { accessFlags := 25, nameIndex := 277, descriptorIndex := 25, attributes := #[] }, { accessFlags := 25, nameIndex := 280, descriptorIndex := 25, attributes := #[] }, { accessFlags := 25, nameIndex := 282, descriptorIndex := 25, attributes := #[] }, { accessFlags := 25, nameIndex := 284, descriptorIndex := 25, attributes := #[] }, { accessFlags := 25, nameIndex := 286, descriptorIndex := 25, attributes := #[] }, { accessFlags := 25, nameIndex := 288, descriptorIndex := 25, attributes := #[] }, { accessFlags := 25, nameIndex := 290, descriptorIndex := 25, attributes := #[] }, { accessFlags := 25, nameIndex := 292, descriptorIndex := 25, attributes := #[] }, { accessFlags := 26, nameIndex := 108, descriptorIndex := 109, attributes := #[] }, { accessFlags := 25, nameIndex := 294, descriptorIndex := 25, attributes := #[] }])
  fields := #[{ name := "U", type := (.object "jdk/internal/misc/Unsafe"), accessFlags := 24, slot := 0, constantValue := 0 }, { name := "BIG_ENDIAN", type := .boolean, accessFlags := 26, slot := 1, constantValue := 0 }, { name := "LOG2_ARRAY_BOOLEAN_INDEX_SCALE", type := .int, accessFlags := 25, slot := 2, constantValue := 0 }, { name := "LOG2_ARRAY_BYTE_INDEX_SCALE", type := .int, accessFlags := 25, slot := 3, constantValue := 0 }, { name := "LOG2_ARRAY_CHAR_INDEX_SCALE", type := .int, accessFlags := 25, slot := 4, constantValue := 0 }, { name := "LOG2_ARRAY_SHORT_INDEX_SCALE", type := .int, accessFlags := 25, slot := 5, constantValue := 0 }, { name := "LOG2_ARRAY_INT_INDEX_SCALE", type := .int, accessFlags := 25, slot := 6, constantValue := 0 }, { name := "LOG2_ARRAY_LONG_INDEX_SCALE", type := .int, accessFlags := 25, slot := 7, constantValue := 0 }, { name := "LOG2_ARRAY_FLOAT_INDEX_SCALE", type := .int, accessFlags := 25, slot := 8, constantValue := 0 }, { name := "LOG2_ARRAY_DOUBLE_INDEX_SCALE", type := .int, accessFlags := 25, slot := 9, constantValue := 0 }, { name := "LOG2_BYTE_BIT_SIZE", type := .int, accessFlags := 26, slot := 10, constantValue := 0 }, { name := "T_BOOLEAN", type := .int, accessFlags := 25, slot := 11, constantValue := 0 }, { name := "T_CHAR", type := .int, accessFlags := 25, slot := 12, constantValue := 0 }, { name := "T_FLOAT", type := .int, accessFlags := 25, slot := 13, constantValue := 0 }, { name := "T_DOUBLE", type := .int, accessFlags := 25, slot := 14, constantValue := 0 }, { name := "T_BYTE", type := .int, accessFlags := 25, slot := 15, constantValue := 0 }, { name := "T_SHORT", type := .int, accessFlags := 25, slot := 16, constantValue := 0 }, { name := "T_INT", type := .int, accessFlags := 25, slot := 17, constantValue := 0 }, { name := "T_LONG", type := .int, accessFlags := 25, slot := 18, constantValue := 0 }, { name := "JLA", type := (.object "jdk/internal/access/JavaLangAccess"), accessFlags := 26, slot := 19, constantValue := 0 }, { name := "SOFT_MAX_ARRAY_LENGTH", type := .int, accessFlags := 25, slot := 20, constantValue := 0 }]
  methods := #[k23m0]
  instanceTypes := #[]
  staticTypes := #[(.object "jdk/internal/misc/Unsafe"), .boolean, .int, .int, .int, .int, .int, .int, .int, .int, .int, .int, .int, .int, .int, .int, .int, .int, .int, (.object "jdk/internal/access/JavaLangAccess"), .int]
  resolved := Array.replicate 378 none
  statics := none }

/-- the primitive byte -/
def k24 : Class := { plain "byte" none with kind := .primitive 'B', accessFlags := 0x411 }
/-- [B -/
def k25 : Class := { plain "[B" (some 0) with kind := .array 24 .byte, interfaces := #[16, 2], accessFlags := 1041 }

/-- the primitive char -/
def k26 : Class := { plain "char" none with kind := .primitive 'C', accessFlags := 0x411 }
/-- [C -/
def k27 : Class := { plain "[C" (some 0) with kind := .array 26 .char, interfaces := #[16, 2], accessFlags := 1041 }

/-- the primitive int -/
def k28 : Class := { plain "int" none with kind := .primitive 'I', accessFlags := 0x411 }
/-- [I -/
def k29 : Class := { plain "[I" (some 0) with kind := .array 28 .int, interfaces := #[16, 2], accessFlags := 1041 }

/-- [Ljava/lang/Object; -/
def k30 : Class := { plain "[Ljava/lang/Object;" (some 0) with kind := .array 0 (.object "java/lang/Object"), interfaces := #[16, 2], accessFlags := 1041 }

def heap : Heap := #[{ cls := 7, slots := #[.long 0, .int 1, .null, .int 0, .null, .int 0, .int 0], vm := .statics 7 },
  { cls := 17, slots := #[.long 0, .int 0, .ref 3, .ref 4], vm := .statics 17 },
  { cls := 22, slots := #[.null, .null, .null], vm := .statics 22 },
  { cls := 30, slots := #[], vm := .none },
  { cls := 30, slots := #[], vm := .none }]
def classes : Array Class := #[k0, k1, k2, k3, k4, k5, k6, k7, k8, k9, k10, k11, k12, k13, k14, k15, k16, k17, k18, k19, k20, k21, k22, k23, k24, k25, k26, k27, k28, k29, k30]
def interned : List (Array UInt16 × Addr) := []
def slotsUsed : Nat := 14
def theMethod : MethodId := ⟨1, 1⟩
def args0 : Array Value := #[.long 5, .int 1]
def aboutOver (below : List Frame) : State where
  vm := { classes := classes, interned := interned.toArray }
  heap := heap
  slotsUsed := slotsUsed
  threads := #[{ frames := .invoking theMethod args0 :: below }]
def below0 : List Frame := [.native { method := ⟨0, 0⟩, args := #[] }]
def about1 : State := aboutOver below0
def p0 : Program := .bare "" "" ""
def e0 : Env := launch0.env 0 0 0
theorem w_frames : about1.frames = Frame.invoking theMethod args0 :: below0 := rfl
set_option maxRecDepth 65536 in
theorem w_args : argsFit about1.vm theMethod args0 = true := by decide +kernel
set_option maxRecDepth 65536 in
theorem w_heap : heapFits about1 = true := by decide +kernel
set_option maxRecDepth 65536 in
theorem w_runnable : about1.curStatus? = some .runnable := by decide +kernel
set_option maxRecDepth 65536 in
theorem w_alone : about1.alone = true := by decide +kernel
set_option maxRecDepth 65536 in
theorem w_named : about1.methodNamed? x = some theMethod := by decide +kernel
set_option maxRecDepth 65536 in
theorem w_hears : about1.hears theMethod below0 = true := by decide +kernel
set_option maxRecDepth 65536 in
theorem w_ripe : about1.ripe theMethod args0 below0 = true := by decide +kernel
theorem w_running : about1.status = .running := rfl
set_option maxRecDepth 65536 in
theorem w_room : about1.hasRoom e0.platform room_1 = true :=
  launch0.hasRoom_least _ room_1 (by decide +kernel) (by decide +kernel) (by decide +kernel) (by decide +kernel) (by decide +kernel) (by decide +kernel)
theorem allAtoms_all (ts : List Jvm.Cond) (a : Array Jvm.Value) (st : Jvm.State) : (allAtoms ts).before a st = ts.all (fun c => c.before a st) := by
  induction ts with
  | nil => rfl
  | cons c t ih =>
    show (Jvm.Cond.and c (allAtoms t)).before a st = _
    rw [Jvm.Cond.before_and, ih, List.all_cons]
def words1 : List Jvm.Cond := Jvm.Cond.code x code maxLocals ret :: tables_1
/-- a 'code' word, met by the world's own term for the bytes: nothing is compared byte by byte -/
theorem code_word {y : MethodName} {bytes : ByteArray} {mx : Nat} {rt : Option FieldType} {a : Array Value} {s : State} {m : MethodId} {meth : Method} {c : Code} (h1 : s.methodNamed? y = some m) (h2 : s.vm.method? m = some meth) (h3 : meth.code = some c) (h4 : c.code = bytes)
    (h5 : (c.maxLocals == mx && c.exceptionTable.isEmpty && decide (c.maxStack ≤ mostOperands) && decide (meth.sig.returnType = rt) && !meth.locks && decide (parseMethodDescriptor y.desc = some meth.sig)) = true) : (Jvm.Cond.code y bytes mx rt).before a s = true := by
  simp only [Bool.and_eq_true, beq_iff_eq, Bool.not_eq_true', decide_eq_true_eq] at h5
  obtain ⟨⟨⟨⟨⟨g1, g2⟩, g3⟩, g4⟩, g5⟩, g6⟩ := h5
  simp [Cond.before, Cond.holds, Cond.value, h1, h2, h3, h4, g1, g2, g3, g4, g5, g6]
def isCode : Jvm.Cond → Bool
  | .code _ _ _ _ => true
  | _ => false
theorem all_split {L : List Jvm.Cond} {P : Jvm.Cond → Bool} (h1 : L.all (fun c => isCode c || P c) = true) (h2 : ∀ c ∈ L.filter isCode, P c = true) : L.all P = true := by
  refine List.all_eq_true.mpr fun c hc => ?_
  have h := List.all_eq_true.mp h1 c hc
  rcases Bool.eq_false_or_eq_true (isCode c) with hi | hi
  · exact h2 c (List.mem_filter.mpr ⟨hc, hi⟩)
  · simpa [hi] using h
set_option maxRecDepth 65536 in
theorem w_c0 : (Jvm.Cond.code x code maxLocals ret).before args0 about1 = true := code_word (m := ⟨1, 1⟩) (meth := k1m1) (c := k1c1) (by decide +kernel) rfl rfl rfl (by decide +kernel)
set_option maxRecDepth 65536 in
theorem w_c1 : (Jvm.Cond.code ({ cls := "com/example/recurve/recurve/http/HttpFields", name := "<init>", desc := "()V" } : Jvm.MethodName) prog_17_method_1_code (1 : Nat) (Option.none : Option Jvm.ClassFile.FieldType)).before args0 about1 = true := code_word (m := ⟨8, 0⟩) (meth := k8m0) (c := k8c0) (by decide +kernel) rfl rfl rfl (by decide +kernel)
set_option maxRecDepth 65536 in
theorem w_c2 : (Jvm.Cond.code ({ cls := "java/lang/Object", name := "<init>", desc := "()V" } : Jvm.MethodName) object_method_1_code (1 : Nat) (Option.none : Option Jvm.ClassFile.FieldType)).before args0 about1 = true := code_word (m := ⟨0, 0⟩) (meth := k0m0) (c := k0c0) (by decide +kernel) rfl rfl rfl (by decide +kernel)
set_option maxRecDepth 65536 in
theorem w_c3 : (Jvm.Cond.code ({ cls := "java/util/ArrayList", name := "<init>", desc := "()V" } : Jvm.MethodName) jdk_38_method_2_code (1 : Nat) (Option.none : Option Jvm.ClassFile.FieldType)).before args0 about1 = true := code_word (m := ⟨17, 0⟩) (meth := k17m0) (c := k17c0) (by decide +kernel) rfl rfl rfl (by decide +kernel)
set_option maxRecDepth 65536 in
theorem w_c4 : (Jvm.Cond.code ({ cls := "java/util/AbstractList", name := "<init>", desc := "()V" } : Jvm.MethodName) jdk_39_method_1_code (1 : Nat) (Option.none : Option Jvm.ClassFile.FieldType)).before args0 about1 = true := code_word (m := ⟨14, 0⟩) (meth := k14m0) (c := k14c0) (by decide +kernel) rfl rfl rfl (by decide +kernel)
set_option maxRecDepth 65536 in
theorem w_c5 : (Jvm.Cond.code ({ cls := "java/util/AbstractCollection", name := "<init>", desc := "()V" } : Jvm.MethodName) jdk_22_method_1_code (1 : Nat) (Option.none : Option Jvm.ClassFile.FieldType)).before args0 about1 = true := code_word (m := ⟨11, 0⟩) (meth := k11m0) (c := k11c0) (by decide +kernel) rfl rfl rfl (by decide +kernel)
set_option maxRecDepth 65536 in
theorem w_c6 : (Jvm.Cond.code ({ cls := "java/lang/String", name := "<init>", desc := "([C)V" } : Jvm.MethodName) jdk_42_method_3_code (2 : Nat) (Option.none : Option Jvm.ClassFile.FieldType)).before args0 about1 = true := code_word (m := ⟨7, 1⟩) (meth := k7m1) (c := k7c1) (by decide +kernel) rfl rfl rfl (by decide +kernel)
set_option maxRecDepth 65536 in
theorem w_c7 : (Jvm.Cond.code ({ cls := "java/lang/String", name := "<init>", desc := "([CIILjava/lang/Void;)V" } : Jvm.MethodName) jdk_42_method_149_code (6 : Nat) (Option.none : Option Jvm.ClassFile.FieldType)).before args0 about1 = true := code_word (m := ⟨7, 2⟩) (meth := k7m2) (c := k7c2) (by decide +kernel) rfl rfl rfl (by decide +kernel)
set_option maxRecDepth 65536 in
theorem w_c8 : (Jvm.Cond.code ({ cls := "java/lang/StringUTF16", name := "compress", desc := "([CII)[B" } : Jvm.MethodName) jdk_52_method_16_code (6 : Nat) (Option.some (Jvm.ClassFile.FieldType.array Jvm.ClassFile.FieldType.byte))).before args0 about1 = true := code_word (m := ⟨20, 2⟩) (meth := k20m2) (c := k20c2) (by decide +kernel) rfl rfl rfl (by decide +kernel)
set_option maxRecDepth 65536 in
theorem w_c9 : (Jvm.Cond.code ({ cls := "java/lang/StringUTF16", name := "compress", desc := "([CI[BII)I" } : Jvm.MethodName) jdk_52_method_21_code (7 : Nat) (Option.some Jvm.ClassFile.FieldType.int)).before args0 about1 = true := code_word (m := ⟨20, 3⟩) (meth := k20m3) (c := k20c3) (by decide +kernel) rfl rfl rfl (by decide +kernel)
set_option maxRecDepth 65536 in
theorem w_c10 : (Jvm.Cond.code ({ cls := "java/lang/StringUTF16", name := "coderFromArrayLen", desc := "([BI)B" } : Jvm.MethodName) jdk_52_method_15_code (2 : Nat) (Option.some Jvm.ClassFile.FieldType.byte)).before args0 about1 = true := code_word (m := ⟨20, 1⟩) (meth := k20m1) (c := k20c1) (by decide +kernel) rfl rfl rfl (by decide +kernel)
set_option maxRecDepth 65536 in
theorem w_c11 : (Jvm.Cond.code ({ cls := "com/example/recurve/recurve/http/HttpRequestHead", name := "<init>", desc := "(Ljava/lang/String;Ljava/lang/String;Ljava/lang/String;Lcom/example/recurve/recurve/http/HttpFields;J)V" } : Jvm.MethodName) prog_20_method_1_code (7 : Nat) (Option.none : Option Jvm.ClassFile.FieldType)).before args0 about1 = true := code_word (m := ⟨19, 0⟩) (meth := k19m0) (c := k19c0) (by decide +kernel) rfl rfl rfl (by decide +kernel)
set_option maxRecDepth 65536 in
theorem w_c12 : (Jvm.Cond.code ({ cls := "java/lang/Record", name := "<init>", desc := "()V" } : Jvm.MethodName) jdk_30_method_1_code (1 : Nat) (Option.none : Option Jvm.ClassFile.FieldType)).before args0 about1 = true := code_word (m := ⟨18, 0⟩) (meth := k18m0) (c := k18c0) (by decide +kernel) rfl rfl rfl (by decide +kernel)
set_option maxRecDepth 65536 in
theorem w_c13 : (Jvm.Cond.code ({ cls := "com/example/recurve/recurve/http/HttpRequestHead", name := "chunked", desc := "()Z" } : Jvm.MethodName) prog_20_method_2_code (1 : Nat) (Option.some Jvm.ClassFile.FieldType.boolean)).before args0 about1 = true := code_word (m := ⟨19, 1⟩) (meth := k19m1) (c := k19c1) (by decide +kernel) rfl rfl rfl (by decide +kernel)
def codes1 : List Jvm.Cond := [Jvm.Cond.code x code maxLocals ret, Jvm.Cond.code ({ cls := "com/example/recurve/recurve/http/HttpFields", name := "<init>", desc := "()V" } : Jvm.MethodName) prog_17_method_1_code (1 : Nat) (Option.none : Option Jvm.ClassFile.FieldType), Jvm.Cond.code ({ cls := "java/lang/Object", name := "<init>", desc := "()V" } : Jvm.MethodName) object_method_1_code (1 : Nat) (Option.none : Option Jvm.ClassFile.FieldType), Jvm.Cond.code ({ cls := "java/util/ArrayList", name := "<init>", desc := "()V" } : Jvm.MethodName) jdk_38_method_2_code (1 : Nat) (Option.none : Option Jvm.ClassFile.FieldType), Jvm.Cond.code ({ cls := "java/util/AbstractList", name := "<init>", desc := "()V" } : Jvm.MethodName) jdk_39_method_1_code (1 : Nat) (Option.none : Option Jvm.ClassFile.FieldType), Jvm.Cond.code ({ cls := "java/util/AbstractCollection", name := "<init>", desc := "()V" } : Jvm.MethodName) jdk_22_method_1_code (1 : Nat) (Option.none : Option Jvm.ClassFile.FieldType), Jvm.Cond.code ({ cls := "java/lang/String", name := "<init>", desc := "([C)V" } : Jvm.MethodName) jdk_42_method_3_code (2 : Nat) (Option.none : Option Jvm.ClassFile.FieldType), Jvm.Cond.code ({ cls := "java/lang/String", name := "<init>", desc := "([CIILjava/lang/Void;)V" } : Jvm.MethodName) jdk_42_method_149_code (6 : Nat) (Option.none : Option Jvm.ClassFile.FieldType), Jvm.Cond.code ({ cls := "java/lang/StringUTF16", name := "compress", desc := "([CII)[B" } : Jvm.MethodName) jdk_52_method_16_code (6 : Nat) (Option.some (Jvm.ClassFile.FieldType.array Jvm.ClassFile.FieldType.byte)), Jvm.Cond.code ({ cls := "java/lang/StringUTF16", name := "compress", desc := "([CI[BII)I" } : Jvm.MethodName) jdk_52_method_21_code (7 : Nat) (Option.some Jvm.ClassFile.FieldType.int), Jvm.Cond.code ({ cls := "java/lang/StringUTF16", name := "coderFromArrayLen", desc := "([BI)B" } : Jvm.MethodName) jdk_52_method_15_code (2 : Nat) (Option.some Jvm.ClassFile.FieldType.byte), Jvm.Cond.code ({ cls := "com/example/recurve/recurve/http/HttpRequestHead", name := "<init>", desc := "(Ljava/lang/String;Ljava/lang/String;Ljava/lang/String;Lcom/example/recurve/recurve/http/HttpFields;J)V" } : Jvm.MethodName) prog_20_method_1_code (7 : Nat) (Option.none : Option Jvm.ClassFile.FieldType), Jvm.Cond.code ({ cls := "java/lang/Record", name := "<init>", desc := "()V" } : Jvm.MethodName) jdk_30_method_1_code (1 : Nat) (Option.none : Option Jvm.ClassFile.FieldType), Jvm.Cond.code ({ cls := "com/example/recurve/recurve/http/HttpRequestHead", name := "chunked", desc := "()Z" } : Jvm.MethodName) prog_20_method_2_code (1 : Nat) (Option.some Jvm.ClassFile.FieldType.boolean)]
set_option maxRecDepth 65536 in
theorem codes_eq : words1.filter isCode = codes1 := rfl
theorem w_codes : ∀ c ∈ words1.filter isCode, c.before args0 about1 = true := by
  rw [codes_eq]
  intro c hc
  simp only [codes1, List.mem_cons, List.not_mem_nil, or_false] at hc
  rcases hc with rfl | rfl | rfl | rfl | rfl | rfl | rfl | rfl | rfl | rfl | rfl | rfl | rfl | rfl
  · exact w_c0
  · exact w_c1
  · exact w_c2
  · exact w_c3
  · exact w_c4
  · exact w_c5
  · exact w_c6
  · exact w_c7
  · exact w_c8
  · exact w_c9
  · exact w_c10
  · exact w_c11
  · exact w_c12
  · exact w_c13
set_option maxRecDepth 65536 in
theorem w_t1 : (words1.take 24).all (fun c => isCode c || c.before args0 about1) = true := by decide +kernel
set_option maxRecDepth 65536 in
theorem w_t2 : ((words1.drop 24).take 24).all (fun c => isCode c || c.before args0 about1) = true := by decide +kernel
set_option maxRecDepth 65536 in
theorem w_t3 : (((words1.drop 24).drop 24).take 24).all (fun c => isCode c || c.before args0 about1) = true := by decide +kernel
set_option maxRecDepth 65536 in
theorem w_t4 : ((((words1.drop 24).drop 24).drop 24).take 24).all (fun c => isCode c || c.before args0 about1) = true := by decide +kernel
set_option maxRecDepth 65536 in
theorem w_t5 : ((((words1.drop 24).drop 24).drop 24).drop 24).all (fun c => isCode c || c.before args0 about1) = true := by decide +kernel
theorem w_tables : (allAtoms (Jvm.Cond.code x code maxLocals ret :: tables_1)).before args0 about1 = true := by
  rw [allAtoms_all]
  show words1.all (fun c => c.before args0 about1) = true
  refine all_split ?_ w_codes
  rw [← List.take_append_drop 24 words1, List.all_append, w_t1, ← List.take_append_drop 24 (words1.drop 24), List.all_append, w_t2, ← List.take_append_drop 24 ((words1.drop 24).drop 24), List.all_append, w_t3, ← List.take_append_drop 24 (((words1.drop 24).drop 24).drop 24), List.all_append, w_t4, w_t5]
  rfl
set_option maxRecDepth 65536 in
theorem w_rest : rest_1_c.before args0 about1 = true := by decide +kernel
set_option maxRecDepth 65536 in
theorem w_case : (Jvm.Cond.and given_1 narrow_1).before args0 about1 = true := by decide +kernel
theorem w_applies : (headSpec (Jvm.Cond.code x code maxLocals ret :: tables_1) room_1).applies x e0.platform about1 = true :=
  (Spec.applies_iff w_frames).mpr ⟨w_running, w_runnable, w_alone, w_named, w_hears, w_ripe, w_room, w_tables⟩
theorem atStart : AtStart classFile x code maxLocals ret World_1 tables_1 room_1 Calls_1 rest_1 Pre_1 launch0 p0 e0 about1 theMethod args0 below0 :=
  ⟨lists_1, trivial, launch0.admits_env _ _ _, launch0.least_env, fairChoices_fair.cas, fairChoices_fair.clock, w_frames, w_args, w_heap, w_applies, trivial, w_rest, w_case⟩
end start1
theorem witness_1 : WitnessClaimed_1 := ⟨start1.p0, start1.e0, start1.about1, start1.theMethod, start1.args0, start1.below0, start1.atStart⟩
end Jvm.Pilot.@@N@@
