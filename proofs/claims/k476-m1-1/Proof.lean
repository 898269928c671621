import JvmDerived
import JvmDerived.Pilot.@@N@@Statement
import JvmDerived.Pilot.@@N@@Code
set_option linter.unusedVariables false
set_option linter.unusedSimpArgs false
/- laws to paste: Road.backV (cut by pick.py; bodies as the Statement names them) -/
namespace Jvm.Pilot.@@N@@
namespace StrChars
open Jvm Sem ClassFile Op Lib Jvm.Stand Jvm.Free.XT Jvm.Free.ALB Jvm.Free.JM Jvm.Free
open Jvm.Lib.Cold (StaticIs)
/-- a char array whose places are chars -/
def Ch (a : Addr) (A : Cell) (U : State) : Prop := Arr .char a A U ∧ Typed .char A
theorem Ch.mv {a : Addr} {A : Cell} {U U' : State} (h : Ch a A U) (hal : U.vm.Alike U'.vm) (hh : U'.heap = U.heap) : Ch a A U' := ⟨h.1.mv hal hh, h.2⟩
theorem Ch.keep {a : Addr} {A : Cell} {U U' : State} (h : Ch a A U) (hal : U.vm.Alike U'.vm) (hk : U'.heap[a]? = some A) : Ch a A U' := ⟨h.1.keep hal hk, h.2⟩
/-- what place i of a char[]'s cell holds -/
def cv (A : Cell) (i : Nat) : Int32 := match A.slots[i]? with | some (.int x) => x | _ => 0
theorem Ch.get {a : Addr} {A : Cell} {U : State} (h : Ch a A U) {i : Nat} (hi : i < A.slots.size) : A.slots[i]? = some (.int (cv A i)) := by
  have e := Array.getElem?_eq_getElem hi
  have f := h.2 i _ e
  unfold cv; rw [e]
  generalize A.slots[i] = v at f
  cases v <;> simp [fits] at f ⊢
/-- the byte that i2b leaves of a char -/
def lo8 (x : Int32) : Int32 := x.toInt8.toInt32
theorem fits_lo8 (y : Int32) : fits .byte (.int (lo8 y)) = true := by
  have h1 := y.toInt8.le_toInt
  have h2 := y.toInt8.toInt_lt
  simp only [lo8, fits, Bool.and_eq_true, decide_eq_true_eq, Int32.le_iff_toInt_le, Int8.toInt_toInt32, show (-128 : Int32).toInt = -128 from by decide, show (127 : Int32).toInt = 127 from by decide]
  omega
/-- A' is A but that each place j of lo .. hi - 1 holds f j -/
def Laid (A A' : Cell) (lo hi : Nat) (f : Nat → Value) : Prop := A'.cls = A.cls ∧ A'.vm = A.vm ∧ A'.slots.size = A.slots.size ∧ ∀ i, A'.slots[i]? = if lo ≤ i ∧ i < hi then some (f i) else A.slots[i]?
theorem Laid.zero (A : Cell) (lo : Nat) (f : Nat → Value) : Laid A A lo (lo + 0) f := ⟨rfl, rfl, rfl, fun i => by rw [if_neg (by omega)]⟩
theorem Laid.step {A Ak : Cell} {lo k : Nat} {f : Nat → Value} {v : Value} (h : Laid A Ak lo k f) (hlo : lo ≤ k) (hk : k < Ak.slots.size) (hv : v = f k) : Laid A (Ak.setSlot k v) lo (k + 1) f := by
  refine ⟨h.1, h.2.1, by simpa [Cell.setSlot] using h.2.2.1, fun i => ?_⟩
  by_cases e : k = i
  · subst e; rw [Cell.slots_setSlot_self v hk, if_pos (by omega), hv]
  · rw [Cell.slots_setSlot_ne v e, h.2.2.2 i]
    by_cases q : lo ≤ i ∧ i < k
    · rw [if_pos q, if_pos (by omega)]
    · rw [if_neg q, if_neg (by omega)]
def U16 : String := "java/lang/StringUTF16"
namespace Cmp5
def yN : MethodName := ⟨"java/lang/StringUTF16", "compress", "([CI[BII)I"⟩
abbrev yB : ByteArray := jdk_52_method_21_code
theorem d0 : decode yB 0 = .ok (.iconst 0, 1) := by decide +kernel
theorem d1 : decode yB 1 = .ok (.istore 5, 2) := by decide +kernel
theorem d3 : decode yB 3 = .ok (.iload 5, 2) := by decide +kernel
theorem d5 : decode yB 5 = .ok (.iload 4, 2) := by decide +kernel
theorem d7 : decode yB 7 = .ok (.if_icmp (.ge) 37, 3) := by decide +kernel
theorem d10 : decode yB 10 = .ok (.aload_n 0, 1) := by decide +kernel
theorem d11 : decode yB 11 = .ok (.iload_n 1, 1) := by decide +kernel
theorem d12 : decode yB 12 = .ok (.caload, 1) := by decide +kernel
theorem d13 : decode yB 13 = .ok (.istore 6, 2) := by decide +kernel
theorem d15 : decode yB 15 = .ok (.iload 6, 2) := by decide +kernel
theorem d17 : decode yB 17 = .ok (.sipush 255, 3) := by decide +kernel
theorem d20 : decode yB 20 = .ok (.if_icmp (.le) 6, 3) := by decide +kernel
theorem d26 : decode yB 26 = .ok (.aload_n 2, 1) := by decide +kernel
theorem d27 : decode yB 27 = .ok (.iload_n 3, 1) := by decide +kernel
theorem d28 : decode yB 28 = .ok (.iload 6, 2) := by decide +kernel
theorem d30 : decode yB 30 = .ok (.i2b, 1) := by decide +kernel
theorem d31 : decode yB 31 = .ok (.bastore, 1) := by decide +kernel
theorem d32 : decode yB 32 = .ok (.iinc 1 1, 3) := by decide +kernel
theorem d35 : decode yB 35 = .ok (.iinc 3 1, 3) := by decide +kernel
theorem d38 : decode yB 38 = .ok (.iinc 5 1, 3) := by decide +kernel
theorem d41 : decode yB 41 = .ok (.goto (-38), 3) := by decide +kernel
theorem d44 : decode yB 44 = .ok (.iload 4, 2) := by decide +kernel
theorem d46 : decode yB 46 = .ok (.ireturn, 1) := by decide +kernel
def site : List Cond := []
def tab : Cond := tabOf yN yB 7 (some .int) site
def P (b : Addr) (A : Cell) (d : Addr) (B : Cell) (o q len : Nat) (args : Array Value) (s : State) : Prop := args = #[.ref b, .int (Int32.ofNat o), .ref d, .int (Int32.ofNat q), .int (Int32.ofNat len)] ∧ Ch b A s ∧ Arr .byte d B s ∧ b ≠ d ∧ o + len ≤ A.slots.size ∧ q + len ≤ B.slots.size ∧ ∀ i, i < len → ¬ 255 < cv A (o + i)
def E (b : Addr) (A : Cell) (d : Addr) (B : Cell) (o q len : Nat) (r : Option Value) (s u : State) : Prop := r = some (.int (Int32.ofNat len)) ∧ ∃ B', Put d B' s u ∧ Laid B B' q (q + len) (fun j => Value.int (lo8 (cv A (o + (j - q)))))
/-- no char of the range above 255: len; the places written hold each char's low byte -/
theorem law (l : Launch) (b : Addr) (A : Cell) (d : Addr) (B : Cell) (o q len : Nat) : Law l yN 5 5 0 0 yB 7 (some .int) site (P b A d B o q len) (E b A d B o q len) (copyLocs d q len) 0 0 := by
  refine Law.of_walk (plainFor_of_name (by decide +kernel)) (by decide +kernel) (by decide +kernel) (by decide) (fun _ _ h => by rw [h.1]; rfl) (fun _ U U' hal hh h => ⟨h.1, h.2.1.mv hal hh, h.2.2.1.mv hal hh, h.2.2.2⟩) (fun r U U' V V' h1 hal h2 h => ⟨h.1, h.2.elim fun B' q => ⟨B', q.1.mv h1 h2, q.2⟩⟩) ?_
  intro p e s m args below meth c s₁ X0 hexec hbytes hml hret hlk hnm hown hh0 W hP
  obtain ⟨rfl, hA, hB, hne, l1, l2, hp⟩ := hP
  have c1 : Steps p.tables e below (s₁.setTop (entryFrame m #[.ref b, .int (Int32.ofNat o), .ref d, .int (Int32.ofNat q), .int (Int32.ofNat len)] 7)) (s₁.setTop (mkF m 0 #[.val (.ref b), .val (.int (Int32.ofNat o)), .val (.ref d), .val (.int (Int32.ofNat q)), .val (.int (Int32.ofNat len)), .unset, .unset] [])) := entry rfl
  have hA0 := hA.1.mv X0.warmed.alike hh0
  have hB0 := hB.mv X0.warmed.alike hh0
  have a31 := hA.1.2.2.2
  have c2 : Steps p.tables e below (s₁.setTop (entryFrame m #[.ref b, .int (Int32.ofNat o), .ref d, .int (Int32.ofNat q), .int (Int32.ofNat len)] 7)) (s₁.setTop (mkF m 3 #[.val (.ref b), .val (.int (Int32.ofNat o)), .val (.ref d), .val (.int (Int32.ofNat q)), .val (.int (Int32.ofNat len)), .val (.int 0), .unset] [])) := c1.trans (by
    refine iconstV X0.here hexec rfl 0 (hb hbytes d0) (by decide) ?_
    refine XS.istore X0.here hexec rfl (hb hbytes d1) rfl rfl ?_
    exact Steps.refl _)
  have loop : ∀ (r i : Nat), i + r = len → ∀ (z : Slot), (z = .unset ∨ ∃ w, z = .val w ∧ w.category = 1) → ∀ (Tl : State) (Bk : Cell), Stand p l e { frames := 0, locals := 0, cells := 0, slots := 0 } s m #[.ref b, .int (Int32.ofNat o), .ref d, .int (Int32.ofNat q), .int (Int32.ofNat len)] below meth c Tl ([] ++ copyLocs d q i) 0 0 → Put d Bk s₁ Tl → Laid B Bk q (q + i) (fun j => Value.int (lo8 (cv A (o + (j - q))))) →
      Steps p.tables e below (s₁.setTop (entryFrame m #[.ref b, .int (Int32.ofNat o), .ref d, .int (Int32.ofNat q), .int (Int32.ofNat len)] 7)) (Tl.setTop (mkF m 3 #[.val (.ref b), .val (.int (Int32.ofNat (o + i))), .val (.ref d), .val (.int (Int32.ofNat (q + i))), .val (.int (Int32.ofNat len)), .val (.int (Int32.ofNat i)), z] [])) → ∃ (T' : State) (B' : Cell) (z' : Slot), Stand p l e { frames := 0, locals := 0, cells := 0, slots := 0 } s m #[.ref b, .int (Int32.ofNat o), .ref d, .int (Int32.ofNat q), .int (Int32.ofNat len)] below meth c T' ([] ++ copyLocs d q len) 0 0 ∧ Put d B' s₁ T' ∧ Laid B B' q (q + len) (fun j => Value.int (lo8 (cv A (o + (j - q))))) ∧
      Steps p.tables e below (s₁.setTop (entryFrame m #[.ref b, .int (Int32.ofNat o), .ref d, .int (Int32.ofNat q), .int (Int32.ofNat len)] 7)) (T'.setTop (mkF m 3 #[.val (.ref b), .val (.int (Int32.ofNat (o + len))), .val (.ref d), .val (.int (Int32.ofNat (q + len))), .val (.int (Int32.ofNat len)), .val (.int (Int32.ofNat len)), z'] [])) := by
    intro r
    induction r with
    | zero =>
      intro i hi z hz Tl Bk Xl pl fl cl
      have hil : i = len := by omega
      rw [hil] at Xl fl cl
      exact ⟨Tl, Bk, z, Xl, pl, fl, cl⟩
    | succ r ih =>
      intro i hi z hz Tl Bk Xl pl fl cl
      have all := X0.warmed.alike.symm.trans Xl.warmed.alike
      have hAl := hA0.keep all (pl.other hne hA0.1)
      have hBk := hB0.like all pl.1 fl.1 fl.2.1 fl.2.2.1
      have hlt : q + i < Bk.slots.size := by rw [fl.2.2.1]; omega
      have c3 : Steps p.tables e below (s₁.setTop (entryFrame m #[.ref b, .int (Int32.ofNat o), .ref d, .int (Int32.ofNat q), .int (Int32.ofNat len)] 7)) (Tl.setTop (mkF m 12 #[.val (.ref b), .val (.int (Int32.ofNat (o + i))), .val (.ref d), .val (.int (Int32.ofNat (q + i))), .val (.int (Int32.ofNat len)), .val (.int (Int32.ofNat i)), z] [.int (Int32.ofNat (o + i)), .ref b])) := cl.trans (by
        refine XS.iload Xl.here hexec rfl (hb hbytes d3) rfl ?_
        refine XS.iload Xl.here hexec rfl (hb hbytes d5) rfl ?_
        refine XS.icmpNo Xl.here hexec rfl (hb hbytes d7) rfl (ii_ge_f (lt32 (by omega) (by omega))) ?_
        refine XS.aloadN Xl.here hexec rfl (hb hbytes d10) rfl rfl ?_
        refine XS.iloadN Xl.here hexec rfl (hb hbytes d11) rfl ?_
        exact Steps.refl _)
      have c4 : Steps p.tables e below (s₁.setTop (entryFrame m #[.ref b, .int (Int32.ofNat o), .ref d, .int (Int32.ofNat q), .int (Int32.ofNat len)] 7)) (Tl.setTop (mkF m 13 #[.val (.ref b), .val (.int (Int32.ofNat (o + i))), .val (.ref d), .val (.int (Int32.ofNat (q + i))), .val (.int (Int32.ofNat len)), .val (.int (Int32.ofNat i)), z] [.int (cv A (o + i))])) := c3.trans (by
        refine Xl.aget hexec hAl rfl (hA.get (i := o + i) (by omega)) rfl rfl (hb hbytes d12) ?_
        exact Steps.refl _)
      have c5 : Steps p.tables e below (s₁.setTop (entryFrame m #[.ref b, .int (Int32.ofNat o), .ref d, .int (Int32.ofNat q), .int (Int32.ofNat len)] 7)) (Tl.setTop (mkF m 15 #[.val (.ref b), .val (.int (Int32.ofNat (o + i))), .val (.ref d), .val (.int (Int32.ofNat (q + i))), .val (.int (Int32.ofNat len)), .val (.int (Int32.ofNat i)), .val (.int (cv A (o + i)))] [])) := c4.trans (by
        refine XS.istoreS Xl.here hexec rfl (hb hbytes d13) rfl rfl hz ?_
        exact Steps.refl _)
      have c6 : Steps p.tables e below (s₁.setTop (entryFrame m #[.ref b, .int (Int32.ofNat o), .ref d, .int (Int32.ofNat q), .int (Int32.ofNat len)] 7)) (Tl.setTop (mkF m 31 #[.val (.ref b), .val (.int (Int32.ofNat (o + i))), .val (.ref d), .val (.int (Int32.ofNat (q + i))), .val (.int (Int32.ofNat len)), .val (.int (Int32.ofNat i)), .val (.int (cv A (o + i)))] [.int (lo8 (cv A (o + i))), .int (Int32.ofNat (q + i)), .ref d])) := c5.trans (by
        refine XS.iload Xl.here hexec rfl (hb hbytes d15) rfl ?_
        refine sipushV Xl.here hexec rfl 255 (hb hbytes d17) (by decide) ?_
        refine XS.icmpYes Xl.here hexec rfl (pc0 := 20) rfl (hb hbytes d20) rfl (ii_le_t (hp i (by omega))) (by decide) rfl ?_
        refine XS.aloadN Xl.here hexec rfl (hb hbytes d26) rfl rfl ?_
        refine XS.iloadN Xl.here hexec rfl (hb hbytes d27) rfl ?_
        refine XS.iload Xl.here hexec rfl (hb hbytes d28) rfl ?_
        refine i2b Xl.here hexec rfl (hb hbytes d30) rfl ?_
        exact Steps.refl _)
      obtain ⟨T7, X7, p7, st7⟩ := Xl.aput hexec hBk rfl hlt rfl (fits_lo8 (cv A (o + i))) (g := (mkF m 31 #[.val (.ref b), .val (.int (Int32.ofNat (o + i))), .val (.ref d), .val (.int (Int32.ofNat (q + i))), .val (.int (Int32.ofNat len)), .val (.int (Int32.ofNat i)), .val (.int (cv A (o + i)))] [.int (lo8 (cv A (o + i))), .int (Int32.ofNat (q + i)), .ref d])) rfl (rest := []) rfl (hb hbytes d31)
      have c8 : Steps p.tables e below (s₁.setTop (entryFrame m #[.ref b, .int (Int32.ofNat o), .ref d, .int (Int32.ofNat q), .int (Int32.ofNat len)] 7)) (T7.setTop (mkF m 32 #[.val (.ref b), .val (.int (Int32.ofNat (o + i))), .val (.ref d), .val (.int (Int32.ofNat (q + i))), .val (.int (Int32.ofNat len)), .val (.int (Int32.ofNat i)), .val (.int (cv A (o + i)))] [])) := c6.trans (st7 _ (Steps.refl _))
      have c9 : Steps p.tables e below (s₁.setTop (entryFrame m #[.ref b, .int (Int32.ofNat o), .ref d, .int (Int32.ofNat q), .int (Int32.ofNat len)] 7)) (T7.setTop (mkF m 3 #[.val (.ref b), .val (.int (Int32.ofNat (o + i) + 1)), .val (.ref d), .val (.int (Int32.ofNat (q + i) + 1)), .val (.int (Int32.ofNat len)), .val (.int (Int32.ofNat i + 1)), .val (.int (cv A (o + i)))] [])) := c8.trans (by
        refine iincV X7.here hexec rfl 1 (hb hbytes d32) (by decide) rfl rfl ?_
        refine iincV X7.here hexec rfl 1 (hb hbytes d35) (by decide) rfl rfl ?_
        refine iincV X7.here hexec rfl 1 (hb hbytes d38) (by decide) rfl rfl ?_
        refine XS.goto X7.here hexec rfl (pc0 := 41) rfl (hb hbytes d41) (by decide) rfl ?_
        exact Steps.refl _)
      have c10 : Steps p.tables e below (s₁.setTop (entryFrame m #[.ref b, .int (Int32.ofNat o), .ref d, .int (Int32.ofNat q), .int (Int32.ofNat len)] 7)) (T7.setTop (mkF m 3 #[.val (.ref b), .val (.int (Int32.ofNat (o + (i + 1)))), .val (.ref d), .val (.int (Int32.ofNat (q + (i + 1)))), .val (.int (Int32.ofNat len)), .val (.int (Int32.ofNat (i + 1))), .val (.int (cv A (o + i)))] [])) := by
        have := c9
        rw [succ32, succ32, succ32] at this
        exact this
      exact ih (i + 1) (by omega) _ (Or.inr ⟨_, rfl, rfl⟩) T7 _ (by rw [copyLocs_step, ← List.append_assoc]; exact X7) (pl.trans p7) (fl.step (by omega) hlt (by simp)) c10
  obtain ⟨T9, B9, z9, X9, p9, f9, g9⟩ := loop len 0 (by omega) .unset (Or.inl rfl) s₁ B (by simpa [copyLocs] using X0) ⟨hB0.1, fun _ _ => rfl, rfl⟩ (Laid.zero _ _ _) c2
  have c11 : Steps p.tables e below (s₁.setTop (entryFrame m #[.ref b, .int (Int32.ofNat o), .ref d, .int (Int32.ofNat q), .int (Int32.ofNat len)] 7)) (T9.setTop (mkF m 46 #[.val (.ref b), .val (.int (Int32.ofNat (o + len))), .val (.ref d), .val (.int (Int32.ofNat (q + len))), .val (.int (Int32.ofNat len)), .val (.int (Int32.ofNat len)), z9] [.int (Int32.ofNat len)])) := g9.trans (by
    refine XS.iload X9.here hexec rfl (hb hbytes d3) rfl ?_
    refine XS.iload X9.here hexec rfl (hb hbytes d5) rfl ?_
    refine XS.icmpYes X9.here hexec rfl (pc0 := 7) rfl (hb hbytes d7) rfl (ii_ge_t (nlt32 (by omega) (Nat.le_refl _))) (by decide) rfl ?_
    refine XS.iload X9.here hexec rfl (hb hbytes d44) rfl ?_
    exact Steps.refl _)
  exact ⟨T9, some (.int (Int32.ofNat len)), _, _, _, X9, by simp, rfl, rfl, (fun h => by cases h), ⟨rfl, B9, p9.from hh0, f9⟩, fun fs hl => c11.trans (X9.ireturnOut hexec hret rfl (Or.inl rfl) (hb hbytes d46) hl)⟩
end Cmp5
namespace Cmp3
def yN : MethodName := ⟨"java/lang/StringUTF16", "compress", "([CII)[B"⟩
abbrev yB : ByteArray := jdk_52_method_16_code
theorem d0 : decode yB 0 = .ok (.iload_n 2, 1) := by decide +kernel
theorem d1 : decode yB 1 = .ok (.newarray .byte, 2) := by decide +kernel
theorem d3 : decode yB 3 = .ok (.astore_n 3, 1) := by decide +kernel
theorem d4 : decode yB 4 = .ok (.aload_n 0, 1) := by decide +kernel
theorem d5 : decode yB 5 = .ok (.iload_n 1, 1) := by decide +kernel
theorem d6 : decode yB 6 = .ok (.aload_n 3, 1) := by decide +kernel
theorem d7 : decode yB 7 = .ok (.iconst 0, 1) := by decide +kernel
theorem d8 : decode yB 8 = .ok (.iload_n 2, 1) := by decide +kernel
theorem d9 : decode yB 9 = .ok (.invokestatic 115, 3) := by decide +kernel
theorem d12 : decode yB 12 = .ok (.istore 4, 2) := by decide +kernel
theorem d14 : decode yB 14 = .ok (.iload 4, 2) := by decide +kernel
theorem d16 : decode yB 16 = .ok (.iload_n 2, 1) := by decide +kernel
theorem d17 : decode yB 17 = .ok (.if_icmp (.eq) 40, 3) := by decide +kernel
theorem d57 : decode yB 57 = .ok (.aload_n 3, 1) := by decide +kernel
theorem d58 : decode yB 58 = .ok (.areturn, 1) := by decide +kernel
def site : List Cond := [.arrayClass .byte, Cmp5.tab] ++ staticW U16 115 Cmp5.yN
def tab : Cond := tabOf yN yB 6 (some (.array .byte)) site
def P (b : Addr) (A : Cell) (o len : Nat) (args : Array Value) (s : State) : Prop := args = #[.ref b, .int (Int32.ofNat o), .int (Int32.ofNat len)] ∧ Ch b A s ∧ o + len ≤ A.slots.size ∧ len ≤ 536870912 ∧ ∀ i, i < len → ¬ 255 < cv A (o + i)
def E (b : Addr) (A : Cell) (o len : Nat) (r : Option Value) (s u : State) : Prop := NewArr .byte "[B" len (fun j => .int (lo8 (cv A (o + j)))) r s u ∧ u.heap.size = s.heap.size + 1
/-- no char of the range above 255: a new byte[] of their low bytes -/
theorem law (l : Launch) (b : Addr) (A : Cell) (o len : Nat) : Law l yN 3 3 1 18 yB 6 (some (.array .byte)) site (P b A o len) (E b A o len) [] 1 len := by
  refine Law.of_walk (plainFor_of_name (by decide +kernel)) (by decide +kernel) (by decide +kernel) (by decide) (fun _ _ h => by rw [h.1]; rfl) (fun _ U U' hal hh h => ⟨h.1, h.2.1.mv hal hh, h.2.2⟩) (fun r U U' V V' h1 hal h2 h => ⟨NewArr.mv r U U' V V' h1 hal h2 h.1, by rw [h1, h2]; exact h.2⟩) ?_
  intro p e s m args below meth c s₁ X0 hexec hbytes hml hret hlk hnm hown hh0 W hP
  obtain ⟨rfl, hA, l1, l2, hp⟩ := hP
  have a31 := hA.1.2.2.2
  have c1 : Steps p.tables e below (s₁.setTop (entryFrame m #[.ref b, .int (Int32.ofNat o), .int (Int32.ofNat len)] 6)) (s₁.setTop (mkF m 0 #[.val (.ref b), .val (.int (Int32.ofNat o)), .val (.int (Int32.ofNat len)), .unset, .unset, .unset] [])) := entry rfl
  have c2 : Steps p.tables e below (s₁.setTop (entryFrame m #[.ref b, .int (Int32.ofNat o), .int (Int32.ofNat len)] 6)) (s₁.setTop (mkF m 1 #[.val (.ref b), .val (.int (Int32.ofNat o)), .val (.int (Int32.ofNat len)), .unset, .unset, .unset] [.int (Int32.ofNat len)])) := c1.trans (by
    refine XS.iloadN X0.here hexec rfl (hb hbytes d0) rfl ?_
    exact Steps.refl _)
  obtain ⟨T3, B3, X3, ba3, bs3, bv3, bh3, bf3, st3⟩ := X0.anew hexec (atype := .byte) (wk W (.arrayClass .byte)) rfl (by show len * 1 ≤ _; omega) (by omega) (g := (mkF m 1 #[.val (.ref b), .val (.int (Int32.ofNat o)), .val (.int (Int32.ofNat len)), .unset, .unset, .unset] [.int (Int32.ofNat len)])) rfl (hb hbytes d1) (rest := []) rfl (Nat.le_refl _) (by show 0 + len ≤ len; omega)
  rw [hh0] at ba3 st3
  have kp3 : XT.Kept s T3 := (XT.Kept.of_eq hh0).push bh3
  have hA3 := hA.keep X3.warmed.alike (kp3 _ _ hA.1.1)
  have hne : b ≠ s.heap.size := hA.1.ne
  have c4 : Steps p.tables e below (s₁.setTop (entryFrame m #[.ref b, .int (Int32.ofNat o), .int (Int32.ofNat len)] 6)) (T3.setTop (mkF m 3 #[.val (.ref b), .val (.int (Int32.ofNat o)), .val (.int (Int32.ofNat len)), .unset, .unset, .unset] [.ref s.heap.size])) := c2.trans (st3 _ (Steps.refl _))
  have c5 : Steps p.tables e below (s₁.setTop (entryFrame m #[.ref b, .int (Int32.ofNat o), .int (Int32.ofNat len)] 6)) (T3.setTop (mkF m 9 #[.val (.ref b), .val (.int (Int32.ofNat o)), .val (.int (Int32.ofNat len)), .val (.ref s.heap.size), .unset, .unset] [.int (Int32.ofNat len), .int 0, .ref s.heap.size, .int (Int32.ofNat o), .ref b])) := c4.trans (by
    refine XS.astoreN X3.here hexec rfl (hb hbytes d3) rfl rfl rfl ?_
    refine XS.aloadN X3.here hexec rfl (hb hbytes d4) rfl rfl ?_
    refine XS.iloadN X3.here hexec rfl (hb hbytes d5) rfl ?_
    refine XS.aloadN X3.here hexec rfl (hb hbytes d6) rfl rfl ?_
    refine iconstV X3.here hexec rfl 0 (hb hbytes d7) (by decide) ?_
    refine XS.iloadN X3.here hexec rfl (hb hbytes d8) rfl ?_
    exact Steps.refl _)
  obtain ⟨v6, T6, X6, E6, g6⟩ := X3.callS hexec (Cmp5.law l b A s.heap.size B3 o 0 len) hown (wks W (staticW U16 115 Cmp5.yN)) (wk W Cmp5.tab) (W := 0) (Nat.le_of_ble_eq_true rfl) (Nat.le_of_ble_eq_true rfl) (Nat.le_refl _) (by show 0 + len + 0 ≤ len; omega) (g := (mkF m 9 #[.val (.ref b), .val (.int (Int32.ofNat o)), .val (.int (Int32.ofNat len)), .val (.ref s.heap.size), .unset, .unset] [.int (Int32.ofNat len), .int (Int32.ofNat 0), .ref s.heap.size, .int (Int32.ofNat o), .ref b])) rfl (by rw [hml]; rfl) c5 (argsL := [.ref b, .int (Int32.ofNat o), .ref s.heap.size, .int (Int32.ofNat 0), .int (Int32.ofNat len)]) (rest := []) rfl rfl (by show 2 * 0 + 0 ≤ _; decide) (hb hbytes d9) (⟨rfl, hA3, ba3, hne, l1, by rw [bs3]; simp, hp⟩)
  obtain ⟨rfl, B6, p6, f6⟩ := E6
  have c7 : Steps p.tables e below (s₁.setTop (entryFrame m #[.ref b, .int (Int32.ofNat o), .int (Int32.ofNat len)] 6)) (T6.setTop (mkF m 12 #[.val (.ref b), .val (.int (Int32.ofNat o)), .val (.int (Int32.ofNat len)), .val (.ref s.heap.size), .unset, .unset] [.int (Int32.ofNat len)])) := g6
  have c8 : Steps p.tables e below (s₁.setTop (entryFrame m #[.ref b, .int (Int32.ofNat o), .int (Int32.ofNat len)] 6)) (T6.setTop (mkF m 58 #[.val (.ref b), .val (.int (Int32.ofNat o)), .val (.int (Int32.ofNat len)), .val (.ref s.heap.size), .val (.int (Int32.ofNat len)), .unset] [.ref s.heap.size])) := c7.trans (by
    refine XS.istore X6.here hexec rfl (hb hbytes d12) rfl rfl ?_
    refine XS.iload X6.here hexec rfl (hb hbytes d14) rfl ?_
    refine XS.iloadN X6.here hexec rfl (hb hbytes d16) rfl ?_
    refine XS.icmpYes X6.here hexec rfl (pc0 := 17) rfl (hb hbytes d17) rfl (ii_eq_t rfl) (by decide) rfl ?_
    refine XS.aloadN X6.here hexec rfl (hb hbytes d57) rfl rfl ?_
    exact Steps.refl _)
  have X8 := X6.wide (L' := []) (cells' := 1) (slots' := len) (fun x hx hlt => by
    simp only [List.nil_append, copyLocs, List.mem_map, List.mem_range] at hx
    obtain ⟨i, -, rfl⟩ := hx
    exact absurd hlt (Nat.lt_irrefl _)) (Nat.le_refl _) (by omega)
  exact ⟨T6, some (.ref s.heap.size), _, _, _, X8, rfl, rfl, rfl, (fun h => by cases h), ⟨⟨rfl, B6, ba3.like (X3.warmed.alike.symm.trans X6.warmed.alike) p6.1 f6.1 f6.2.1 f6.2.2.1, f6.2.1.trans bv3, by rw [X6.warmed.alike.findClass, f6.1]; exact bf3, by rw [f6.2.2.1, bs3]; simp, fun j hj => by rw [f6.2.2.2 j, if_pos (by omega)]; rfl, kp3.put p6 (Nat.le_refl _)⟩, by rw [p6.2.2, bh3, hh0]; simp⟩, fun fs hl => c8.trans (X8.areturnOut hexec rfl hret rfl (hb hbytes d58) hl)⟩
end Cmp3
namespace CodL
def yN : MethodName := ⟨"java/lang/StringUTF16", "coderFromArrayLen", "([BI)B"⟩
abbrev yB : ByteArray := jdk_52_method_15_code
theorem d0 : decode yB 0 = .ok (.iload_n 1, 1) := by decide +kernel
theorem d1 : decode yB 1 = .ok (.aload_n 0, 1) := by decide +kernel
theorem d2 : decode yB 2 = .ok (.arraylength, 1) := by decide +kernel
theorem d3 : decode yB 3 = .ok (.isub, 1) := by decide +kernel
theorem d4 : decode yB 4 = .ok (.bipush 31, 2) := by decide +kernel
theorem d6 : decode yB 6 = .ok (.iushr, 1) := by decide +kernel
theorem d7 : decode yB 7 = .ok (.i2b, 1) := by decide +kernel
theorem d8 : decode yB 8 = .ok (.ireturn, 1) := by decide +kernel
def site : List Cond := []
def tab : Cond := tabOf yN yB 2 (some .byte) site
def P (d : Addr) (B : Cell) (args : Array Value) (s : State) : Prop := args = #[.ref d, .int (Int32.ofNat B.slots.size)] ∧ Arr .byte d B s
def E (r : Option Value) (s u : State) : Prop := XT.PureE (some (.int 0)) r s u
/-- an array as long as the number of chars: LATIN1 -/
theorem law (l : Launch) (d : Addr) (B : Cell) : Law l yN 2 2 0 0 yB 2 (some .byte) site (P d B) E [] 0 0 := by
  refine Law.of_walk (plainFor_of_name (by decide +kernel)) (by decide +kernel) (by decide +kernel) (by decide) (fun _ _ h => by rw [h.1]; rfl) (fun _ U U' hal hh h => ⟨h.1, h.2.mv hal hh⟩) (fun r U U' V V' h1 hal h2 h => XT.PureE.mv r U U' V V' h1 hal h2 h) ?_
  intro p e s m args below meth c s₁ X0 hexec hbytes hml hret hlk hnm hown hh0 W hP
  obtain ⟨rfl, hB⟩ := hP
  have hB0 := hB.mv X0.warmed.alike hh0
  have c1 : Steps p.tables e below (s₁.setTop (entryFrame m #[.ref d, .int (Int32.ofNat B.slots.size)] 2)) (s₁.setTop (mkF m 0 #[.val (.ref d), .val (.int (Int32.ofNat B.slots.size))] [])) := entry rfl
  have c2 : Steps p.tables e below (s₁.setTop (entryFrame m #[.ref d, .int (Int32.ofNat B.slots.size)] 2)) (s₁.setTop (mkF m 2 #[.val (.ref d), .val (.int (Int32.ofNat B.slots.size))] [.ref d, .int (Int32.ofNat B.slots.size)])) := c1.trans (by
    refine XS.iloadN X0.here hexec rfl (hb hbytes d0) rfl ?_
    refine XS.aloadN X0.here hexec rfl (hb hbytes d1) rfl rfl ?_
    exact Steps.refl _)
  have c3 : Steps p.tables e below (s₁.setTop (entryFrame m #[.ref d, .int (Int32.ofNat B.slots.size)] 2)) (s₁.setTop (mkF m 8 #[.val (.ref d), .val (.int (Int32.ofNat B.slots.size))] [.int (lo8 (ushr (Int32.ofNat B.slots.size - Int32.ofNat B.slots.size) 31))])) := c2.trans (by
    refine X0.alen hexec hB0 rfl rfl (hb hbytes d2) ?_
    refine XS.isub X0.here hexec rfl (hb hbytes d3) rfl ?_
    refine bipushV X0.here hexec rfl 31 (hb hbytes d4) (by decide) ?_
    refine iushr X0.here hexec rfl (hb hbytes d6) rfl ?_
    refine i2b X0.here hexec rfl (hb hbytes d7) rfl ?_
    exact Steps.refl _)
  have e0 : lo8 (ushr (Int32.ofNat B.slots.size - Int32.ofNat B.slots.size) 31) = 0 := by rw [Int32.sub_self]; decide
  rw [e0] at c3
  exact ⟨s₁, some (.int 0), _, _, _, X0, rfl, rfl, rfl, (fun h => by cases h), ⟨rfl, hh0⟩, fun fs hl => c3.trans (X0.ireturnOut hexec hret rfl (Or.inr (Or.inr (Or.inl rfl))) (hb hbytes d8) hl)⟩
end CodL
/-- the String at a is Latin-1 over a new byte[] (the heap's one new cell): the low bytes of the len chars of A from o on; every cell but a is kept -/
def Got (a : Addr) (D : Cell) (fV fC : Field) (A : Cell) (o len : Nat) (r : Option Value) (s u : State) : Prop := r = none ∧ ∃ D' V : Cell, Blank "java/lang/String" a D' u ∧ Same D D' [fV.slot, fC.slot] ∧ D'.slots[fV.slot]? = some (.ref s.heap.size) ∧ D'.slots[fC.slot]? = some (.int 0) ∧ Arr .byte s.heap.size V u ∧ V.vm = .none ∧ u.vm.findClass "[B" = some V.cls ∧ V.slots.size = len ∧ (∀ j, j < len → V.slots[j]? = some (.int (lo8 (cv A (o + j))))) ∧ (∀ (y : Addr) (c : Cell), y ≠ a → s.heap[y]? = some c → u.heap[y]? = some c) ∧ u.heap.size = s.heap.size + 1
theorem Got.mv {a : Addr} {D A : Cell} {fV fC : Field} {o len : Nat} : ∀ r (U U' V V' : State), U'.heap = U.heap → V.vm.Alike V'.vm → V'.heap = V.heap → Got a D fV fC A o len r U V → Got a D fV fC A o len r U' V' :=
  fun r U U' V V' h1 hal h2 ⟨e0, D', X, a1, a2, a3, a4, a5, a6, a7, a8, a9, a10, a11⟩ => ⟨e0, D', X, a1.mv hal h2, a2, by rw [h1]; exact a3, a4, by rw [h1]; exact a5.mv hal h2, a6, by rw [hal.findClass]; exact a7, a8, a9, by rw [h1, h2]; exact a10, by rw [h1, h2]; exact a11⟩
namespace New4
def yN : MethodName := ⟨"java/lang/String", "<init>", "([CIILjava/lang/Void;)V"⟩
abbrev yB : ByteArray := jdk_42_method_149_code
theorem d0 : decode yB 0 = .ok (.aload_n 0, 1) := by decide +kernel
theorem d1 : decode yB 1 = .ok (.invokespecial 1, 3) := by decide +kernel
theorem d4 : decode yB 4 = .ok (.iload_n 3, 1) := by decide +kernel
theorem d5 : decode yB 5 = .ok (.ifCond (.ne) 22, 3) := by decide +kernel
theorem d27 : decode yB 27 = .ok (.getstatic 38, 3) := by decide +kernel
theorem d30 : decode yB 30 = .ok (.ifCond (.eq) 28, 3) := by decide +kernel
theorem d33 : decode yB 33 = .ok (.aload_n 1, 1) := by decide +kernel
theorem d34 : decode yB 34 = .ok (.iload_n 2, 1) := by decide +kernel
theorem d35 : decode yB 35 = .ok (.iload_n 3, 1) := by decide +kernel
theorem d36 : decode yB 36 = .ok (.invokestatic 177, 3) := by decide +kernel
theorem d39 : decode yB 39 = .ok (.astore 5, 2) := by decide +kernel
theorem d41 : decode yB 41 = .ok (.aload_n 0, 1) := by decide +kernel
theorem d42 : decode yB 42 = .ok (.aload 5, 2) := by decide +kernel
theorem d44 : decode yB 44 = .ok (.iload_n 3, 1) := by decide +kernel
theorem d45 : decode yB 45 = .ok (.invokestatic 47, 3) := by decide +kernel
theorem d48 : decode yB 48 = .ok (.putfield 15, 3) := by decide +kernel
theorem d51 : decode yB 51 = .ok (.aload_n 0, 1) := by decide +kernel
theorem d52 : decode yB 52 = .ok (.aload 5, 2) := by decide +kernel
theorem d54 : decode yB 54 = .ok (.putfield 9, 3) := by decide +kernel
theorem d57 : decode yB 57 = .ok (.return_, 1) := by decide +kernel
def site : List Cond := [.fieldLink "java/lang/String" 38 "java/lang/String" "COMPACT_STRINGS" "Z", Cmp3.tab, CodL.tab, .laysFinal "java/lang/String" "java/lang/String" "value" "[B", .fieldLink "java/lang/String" 9 "java/lang/String" "value" "[B", .laysFinal "java/lang/String" "java/lang/String" "coder" "B", .fieldLink "java/lang/String" 15 "java/lang/String" "coder" "B"] ++ objW "java/lang/String" 1 ++ staticW "java/lang/String" 177 Cmp3.yN ++ staticW "java/lang/String" 47 CodL.yN
def tab : Cond := tabOf yN yB 6 none site
def P (a : Addr) (D : Cell) (fV fC : Field) (b : Addr) (A : Cell) (z : Int32) (o len : Nat) (args : Array Value) (s : State) : Prop := args = #[.ref a, .ref b, .int (Int32.ofNat o), .int (Int32.ofNat len), .null] ∧ Blank "java/lang/String" a D s ∧ Found "java/lang/String" "value" "[B" fV s ∧ Found "java/lang/String" "coder" "B" fC s ∧ Ch b A s ∧ StaticIs s "java/lang/String" "COMPACT_STRINGS" "Z" (.int z) ∧ ¬ z = 0 ∧ 0 < len ∧ o + len ≤ A.slots.size ∧ len ≤ 536870912 ∧ ∀ i, i < len → ¬ 255 < cv A (o + i)
def E (a : Addr) (D : Cell) (fV fC : Field) (A : Cell) (o len : Nat) (r : Option Value) (s u : State) : Prop := Got a D fV fC A o len r s u
/-- len > 0, no char of the range above 255: a Latin-1 String of their low bytes -/
theorem law (l : Launch) (a : Addr) (D : Cell) (fV fC : Field) (b : Addr) (A : Cell) (z : Int32) (o len : Nat) : Law l yN 5 4 2 35 yB 6 none site (P a D fV fC b A z o len) (E a D fV fC A o len) [⟨a, fC.slot⟩, ⟨a, fV.slot⟩] 1 len := by
  refine Law.of_walk (plainFor_of_name (by decide +kernel)) (by decide +kernel) (by decide +kernel) (by decide) (fun _ _ h => by rw [h.1]; rfl) (fun _ U U' hal hh h => ⟨h.1, h.2.1.mv hal hh, h.2.2.1.al hal, h.2.2.2.1.al hal, h.2.2.2.2.1.mv hal hh, h.2.2.2.2.2.1.there hal hh, h.2.2.2.2.2.2⟩) (fun r U U' V V' h1 hal h2 h => Got.mv r U U' V V' h1 hal h2 h) ?_
  intro p e s m args below meth c s₁ X0 hexec hbytes hml hret hlk hnm hown hh0 W hP
  obtain ⟨rfl, hB, f1, f2, hA, s1, hz, l0, l1, l2, hp⟩ := hP
  have a31 := hA.1.2.2.2
  have c1 : Steps p.tables e below (s₁.setTop (entryFrame m #[.ref a, .ref b, .int (Int32.ofNat o), .int (Int32.ofNat len), .null] 6)) (s₁.setTop (mkF m 0 #[.val (.ref a), .val (.ref b), .val (.int (Int32.ofNat o)), .val (.int (Int32.ofNat len)), .val .null, .unset] [])) := entry rfl
  have c2 : Steps p.tables e below (s₁.setTop (entryFrame m #[.ref a, .ref b, .int (Int32.ofNat o), .int (Int32.ofNat len), .null] 6)) (s₁.setTop (mkF m 1 #[.val (.ref a), .val (.ref b), .val (.int (Int32.ofNat o)), .val (.int (Int32.ofNat len)), .val .null, .unset] [.ref a])) := c1.trans (by
    refine XS.aloadN X0.here hexec rfl (hb hbytes d0) rfl rfl ?_
    exact Steps.refl _)
  obtain ⟨T3, X3, q3, st3⟩ := X0.oinit hexec hown (wks W (objW "java/lang/String" 1)) (g := (mkF m 1 #[.val (.ref a), .val (.ref b), .val (.int (Int32.ofNat o)), .val (.int (Int32.ofNat len)), .val .null, .unset] [.ref a])) rfl (by rw [hml]; rfl) (rest := []) rfl (hb hbytes d1) (W := 0) (by show 2 * 0 + 0 ≤ _; decide) (Nat.le_of_ble_eq_true rfl) (Nat.le_of_ble_eq_true rfl)
  have hh3 := q3.trans hh0
  have c4 : Steps p.tables e below (s₁.setTop (entryFrame m #[.ref a, .ref b, .int (Int32.ofNat o), .int (Int32.ofNat len), .null] 6)) (T3.setTop (mkF m 27 #[.val (.ref a), .val (.ref b), .val (.int (Int32.ofNat o)), .val (.int (Int32.ofNat len)), .val .null, .unset] [])) := (c2.trans (st3 _ (Steps.refl _))).trans (by
    refine XS.iloadN X3.here hexec rfl (hb hbytes d4) rfl ?_
    refine XS.ifYes X3.here hexec rfl (pc0 := 5) rfl (hb hbytes d5) rfl (i0_ne_t (nz32 (by omega) l0)) (by decide) rfl ?_
    exact Steps.refl _)
  obtain ⟨T5, X5, q5, st5⟩ := X3.sget hexec hown (wk W (.fieldLink "java/lang/String" 38 "java/lang/String" "COMPACT_STRINGS" "Z")) s1 (fun _ _ h => by rw [hh3]; exact h) (g := (mkF m 27 #[.val (.ref a), .val (.ref b), .val (.int (Int32.ofNat o)), .val (.int (Int32.ofNat len)), .val .null, .unset] [])) rfl (hb hbytes d27)
  have hh5 := q5.trans hh3
  have c6 : Steps p.tables e below (s₁.setTop (entryFrame m #[.ref a, .ref b, .int (Int32.ofNat o), .int (Int32.ofNat len), .null] 6)) (T5.setTop (mkF m 30 #[.val (.ref a), .val (.ref b), .val (.int (Int32.ofNat o)), .val (.int (Int32.ofNat len)), .val .null, .unset] [.int z])) := c4.trans (st5 _ (Steps.refl _))
  have c7 : Steps p.tables e below (s₁.setTop (entryFrame m #[.ref a, .ref b, .int (Int32.ofNat o), .int (Int32.ofNat len), .null] 6)) (T5.setTop (mkF m 36 #[.val (.ref a), .val (.ref b), .val (.int (Int32.ofNat o)), .val (.int (Int32.ofNat len)), .val .null, .unset] [.int (Int32.ofNat len), .int (Int32.ofNat o), .ref b])) := c6.trans (by
    refine XS.ifNo X5.here hexec rfl (hb hbytes d30) rfl (i0_eq_f hz) ?_
    refine XS.aloadN X5.here hexec rfl (hb hbytes d33) rfl rfl ?_
    refine XS.iloadN X5.here hexec rfl (hb hbytes d34) rfl ?_
    refine XS.iloadN X5.here hexec rfl (hb hbytes d35) rfl ?_
    exact Steps.refl _)
  obtain ⟨v8, T8, X8, E8, g8⟩ := X5.callS hexec (Cmp3.law l b A o len) hown (wks W (staticW "java/lang/String" 177 Cmp3.yN)) (wk W Cmp3.tab) (W := 0) (Nat.le_of_ble_eq_true rfl) (Nat.le_of_ble_eq_true rfl) (Nat.le_refl _) (by show 0 + len ≤ len; omega) (g := (mkF m 36 #[.val (.ref a), .val (.ref b), .val (.int (Int32.ofNat o)), .val (.int (Int32.ofNat len)), .val .null, .unset] [.int (Int32.ofNat len), .int (Int32.ofNat o), .ref b])) rfl (by rw [hml]; rfl) c7 (argsL := [.ref b, .int (Int32.ofNat o), .int (Int32.ofNat len)]) (rest := []) rfl rfl (by show 2 * 0 + 0 ≤ _; decide) (hb hbytes d36) (⟨rfl, hA.mv X5.warmed.alike hh5, l1, l2, hp⟩)
  obtain ⟨e8, z8⟩ := E8
  obtain ⟨rfl, N, n1, n2, n3, n4, n5, n6⟩ := NewArr.mv _ T5 s _ _ hh5.symm (Vm.Alike.refl _) rfl e8
  rw [hh5] at z8
  have hB1 := hB.keep X8.warmed.alike (n6 _ _ hB.1)
  have hne : s.heap.size ≠ a := (Nat.ne_of_lt (Array.getElem?_eq_some_iff.mp hB.1).1).symm
  have c9 : Steps p.tables e below (s₁.setTop (entryFrame m #[.ref a, .ref b, .int (Int32.ofNat o), .int (Int32.ofNat len), .null] 6)) (T8.setTop (mkF m 39 #[.val (.ref a), .val (.ref b), .val (.int (Int32.ofNat o)), .val (.int (Int32.ofNat len)), .val .null, .unset] [.ref s.heap.size])) := g8
  have c10 : Steps p.tables e below (s₁.setTop (entryFrame m #[.ref a, .ref b, .int (Int32.ofNat o), .int (Int32.ofNat len), .null] 6)) (T8.setTop (mkF m 45 #[.val (.ref a), .val (.ref b), .val (.int (Int32.ofNat o)), .val (.int (Int32.ofNat len)), .val .null, .val (.ref s.heap.size)] [.int (Int32.ofNat N.slots.size), .ref s.heap.size, .ref a])) := by
    have hc : Steps p.tables e below (s₁.setTop (entryFrame m #[.ref a, .ref b, .int (Int32.ofNat o), .int (Int32.ofNat len), .null] 6)) (T8.setTop (mkF m 45 #[.val (.ref a), .val (.ref b), .val (.int (Int32.ofNat o)), .val (.int (Int32.ofNat len)), .val .null, .val (.ref s.heap.size)] [.int (Int32.ofNat len), .ref s.heap.size, .ref a])) := c9.trans (by
      refine XS.astore X8.here hexec rfl (hb hbytes d39) rfl rfl rfl ?_
      refine XS.aloadN X8.here hexec rfl (hb hbytes d41) rfl rfl ?_
      refine XS.aload X8.here hexec rfl (hb hbytes d42) rfl rfl ?_
      refine XS.iloadN X8.here hexec rfl (hb hbytes d44) rfl ?_
      exact Steps.refl _)
    rw [n4]; exact hc
  obtain ⟨v11, T11, X11, E11, g11⟩ := X8.callS hexec (CodL.law l s.heap.size N) hown (wks W (staticW "java/lang/String" 47 CodL.yN)) (wk W CodL.tab) (W := 1) (Nat.le_of_ble_eq_true rfl) (Nat.le_of_ble_eq_true rfl) (Nat.le_refl _) (by show 0 + len + 0 ≤ len; omega) (g := (mkF m 45 #[.val (.ref a), .val (.ref b), .val (.int (Int32.ofNat o)), .val (.int (Int32.ofNat len)), .val .null, .val (.ref s.heap.size)] [.int (Int32.ofNat N.slots.size), .ref s.heap.size, .ref a])) rfl (by rw [hml]; rfl) c10 (argsL := [.ref s.heap.size, .int (Int32.ofNat N.slots.size)]) (rest := [.ref a]) rfl rfl (by show 2 * 0 + (1 + 0) ≤ _; decide) (hb hbytes d45) (⟨rfl, n1⟩)
  obtain ⟨rfl, q11⟩ := E11
  have hB11 := hB1.mv (X8.warmed.alike.symm.trans X11.warmed.alike) q11
  have c12 : Steps p.tables e below (s₁.setTop (entryFrame m #[.ref a, .ref b, .int (Int32.ofNat o), .int (Int32.ofNat len), .null] 6)) (T11.setTop (mkF m 48 #[.val (.ref a), .val (.ref b), .val (.int (Int32.ofNat o)), .val (.int (Int32.ofNat len)), .val .null, .val (.ref s.heap.size)] [.int 0, .ref a])) := g11
  obtain ⟨T13, X13, p13, bl13, sl13, st13⟩ := X11.finit hexec hown (wk W (.fieldLink "java/lang/String" 15 "java/lang/String" "coder" "B")) (Or.inr ⟨_, (wk W (.laysFinal "java/lang/String" "java/lang/String" "coder" "B"))⟩) (Or.inl ⟨rfl, hnm⟩) f2 (Or.inl rfl) hB11 (t := .byte) (by decide +kernel) rfl (g := (mkF m 48 #[.val (.ref a), .val (.ref b), .val (.int (Int32.ofNat o)), .val (.int (Int32.ofNat len)), .val .null, .val (.ref s.heap.size)] [.int 0, .ref a])) rfl (rest := []) rfl (hb hbytes d48)
  have c14 : Steps p.tables e below (s₁.setTop (entryFrame m #[.ref a, .ref b, .int (Int32.ofNat o), .int (Int32.ofNat len), .null] 6)) (T13.setTop (mkF m 54 #[.val (.ref a), .val (.ref b), .val (.int (Int32.ofNat o)), .val (.int (Int32.ofNat len)), .val .null, .val (.ref s.heap.size)] [.ref s.heap.size, .ref a])) := (c12.trans (st13 _ (Steps.refl _))).trans (by
    refine XS.aloadN X13.here hexec rfl (hb hbytes d51) rfl rfl ?_
    refine XS.aload X13.here hexec rfl (hb hbytes d52) rfl rfl ?_
    exact Steps.refl _)
  obtain ⟨T15, X15, p15, bl15, sl15, st15⟩ := X13.finit hexec hown (wk W (.fieldLink "java/lang/String" 9 "java/lang/String" "value" "[B")) (Or.inr ⟨_, (wk W (.laysFinal "java/lang/String" "java/lang/String" "value" "[B"))⟩) (Or.inl ⟨rfl, hnm⟩) f1 (Or.inl rfl) bl13 (t := (.array .byte)) (by decide +kernel) rfl (g := (mkF m 54 #[.val (.ref a), .val (.ref b), .val (.int (Int32.ofNat o)), .val (.int (Int32.ofNat len)), .val .null, .val (.ref s.heap.size)] [.ref s.heap.size, .ref a])) rfl (rest := []) rfl (hb hbytes d54)
  have c16 : Steps p.tables e below (s₁.setTop (entryFrame m #[.ref a, .ref b, .int (Int32.ofNat o), .int (Int32.ofNat len), .null] 6)) (T15.setTop (mkF m 57 #[.val (.ref a), .val (.ref b), .val (.int (Int32.ofNat o)), .val (.int (Int32.ofNat len)), .val .null, .val (.ref s.heap.size)] [])) := c14.trans (st15 _ (Steps.refl _))
  have ap := apart (Or.inr ⟨_, (wk W (.laysFinal "java/lang/String" "java/lang/String" "value" "[B"))⟩) (Or.inr ⟨_, (wk W (.laysFinal "java/lang/String" "java/lang/String" "coder" "B"))⟩) f1 f2 (t₁ := .array .byte) (t₂ := .byte) (by decide +kernel) (by decide +kernel) (by decide)
  have al := X8.warmed.alike.symm.trans X15.warmed.alike
  have n7 : T11.heap[s.heap.size]? = some N := by rw [q11]; exact n1.1
  exact ⟨T15, none, _, _, _, X15, by simp, rfl, by omega, (fun _ => rfl), ⟨rfl, _, N, bl15, ((Same.refl D _).set _ (by simp)).set _ (by simp), sl15, (Cell.slots_setSlot_ne _ ap).trans sl13, n1.keep al (p15.other hne (p13.other hne n7)), n2, by rw [al.findClass]; exact n3, n4, n5, fun y c h1 h2 => p15.other h1 (p13.other h1 (by rw [q11]; exact n6 y c h2)), by rw [p15.2.2, p13.2.2, q11]; exact z8⟩, fun fs hl => c16.trans (X15.returnOut hexec hret (hb hbytes d57) hl)⟩
end New4
namespace New1
def yN : MethodName := ⟨"java/lang/String", "<init>", "([C)V"⟩
abbrev yB : ByteArray := jdk_42_method_3_code
theorem d0 : decode yB 0 = .ok (.aload_n 0, 1) := by decide +kernel
theorem d1 : decode yB 1 = .ok (.aload_n 1, 1) := by decide +kernel
theorem d2 : decode yB 2 = .ok (.iconst 0, 1) := by decide +kernel
theorem d3 : decode yB 3 = .ok (.aload_n 1, 1) := by decide +kernel
theorem d4 : decode yB 4 = .ok (.arraylength, 1) := by decide +kernel
theorem d5 : decode yB 5 = .ok (.aconst_null, 1) := by decide +kernel
theorem d6 : decode yB 6 = .ok (.invokespecial 27, 3) := by decide +kernel
theorem d9 : decode yB 9 = .ok (.return_, 1) := by decide +kernel
def site : List Cond := [New4.tab] ++ initW "java/lang/String" 27 New4.yN
def tab : Cond := tabOf yN yB 2 none site
def P (a : Addr) (D : Cell) (fV fC : Field) (b : Addr) (A : Cell) (z : Int32) (args : Array Value) (s : State) : Prop := args = #[.ref a, .ref b] ∧ Blank "java/lang/String" a D s ∧ Found "java/lang/String" "value" "[B" fV s ∧ Found "java/lang/String" "coder" "B" fC s ∧ Ch b A s ∧ StaticIs s "java/lang/String" "COMPACT_STRINGS" "Z" (.int z) ∧ ¬ z = 0 ∧ 0 < A.slots.size ∧ A.slots.size ≤ 536870912 ∧ ∀ i, i < A.slots.size → ¬ 255 < cv A i
def E (a : Addr) (D : Cell) (fV fC : Field) (A : Cell) (r : Option Value) (s u : State) : Prop := Got a D fV fC A 0 A.slots.size r s u
/-- new String(chars), not empty, no char above 255: a Latin-1 String of their low bytes -/
theorem law (l : Launch) (a : Addr) (D : Cell) (fV fC : Field) (b : Addr) (A : Cell) (z : Int32) : Law l yN 2 1 3 52 yB 2 none site (P a D fV fC b A z) (E a D fV fC A) [⟨a, fC.slot⟩, ⟨a, fV.slot⟩] 1 A.slots.size := by
  refine Law.of_walk (plainFor_of_name (by decide +kernel)) (by decide +kernel) (by decide +kernel) (by decide) (fun _ _ h => by rw [h.1]; rfl) (fun _ U U' hal hh h => ⟨h.1, h.2.1.mv hal hh, h.2.2.1.al hal, h.2.2.2.1.al hal, h.2.2.2.2.1.mv hal hh, h.2.2.2.2.2.1.there hal hh, h.2.2.2.2.2.2⟩) (fun r U U' V V' h1 hal h2 h => Got.mv r U U' V V' h1 hal h2 h) ?_
  intro p e s m args below meth c s₁ X0 hexec hbytes hml hret hlk hnm hown hh0 W hP
  obtain ⟨rfl, hB, f1, f2, hA, s1, hz, l0, l2, hp⟩ := hP
  have c1 : Steps p.tables e below (s₁.setTop (entryFrame m #[.ref a, .ref b] 2)) (s₁.setTop (mkF m 0 #[.val (.ref a), .val (.ref b)] [])) := entry rfl
  have c2 : Steps p.tables e below (s₁.setTop (entryFrame m #[.ref a, .ref b] 2)) (s₁.setTop (mkF m 6 #[.val (.ref a), .val (.ref b)] [.null, .int (Int32.ofNat A.slots.size), .int 0, .ref b, .ref a])) := c1.trans (by
    refine XS.aloadN X0.here hexec rfl (hb hbytes d0) rfl rfl ?_
    refine XS.aloadN X0.here hexec rfl (hb hbytes d1) rfl rfl ?_
    refine iconstV X0.here hexec rfl 0 (hb hbytes d2) (by decide) ?_
    refine XS.aloadN X0.here hexec rfl (hb hbytes d3) rfl rfl ?_
    refine X0.alen hexec (hA.1.mv X0.warmed.alike hh0) rfl rfl (hb hbytes d4) ?_
    refine XS.aconstNull X0.here hexec rfl (hb hbytes d5) ?_
    exact Steps.refl _)
  obtain ⟨v3, T3, X3, E3, g3⟩ := X0.callN hexec (New4.law l a D fV fC b A z 0 A.slots.size) rfl hown (wks W (initW "java/lang/String" 27 New4.yN)) (W New4.tab (by simp only [site, List.mem_cons, List.mem_append, true_or, or_true])) (W := 0) (Nat.le_of_ble_eq_true rfl) (Nat.le_of_ble_eq_true rfl) (Nat.le_refl _) (by show 0 + A.slots.size ≤ A.slots.size; omega) (g := (mkF m 6 #[.val (.ref a), .val (.ref b)] [.null, .int (Int32.ofNat A.slots.size), .int (Int32.ofNat 0), .ref b, .ref a])) rfl (by rw [hml]; rfl) c2 (argsL := [.ref b, .int (Int32.ofNat 0), .int (Int32.ofNat A.slots.size), .null]) (rest := []) rfl rfl (by show 2 * 0 + 0 ≤ _; decide) (hb hbytes d6) (⟨rfl, hB.mv X0.warmed.alike hh0, f1.al X0.warmed.alike, f2.al X0.warmed.alike, hA.mv X0.warmed.alike hh0, s1.there X0.warmed.alike hh0, hz, l0, by omega, l2, fun i hi => by rw [Nat.zero_add]; exact hp i hi⟩)
  have e0 := Got.mv _ s₁ s _ _ hh0.symm (Vm.Alike.refl _) rfl E3
  obtain rfl := e0.1
  have c4 : Steps p.tables e below (s₁.setTop (entryFrame m #[.ref a, .ref b] 2)) (T3.setTop (mkF m 9 #[.val (.ref a), .val (.ref b)] [])) := g3
  exact ⟨T3, none, _, _, _, X3, by simp, rfl, by omega, (fun _ => rfl), e0, fun fs hl => c4.trans (X3.returnOut hexec hret (hb hbytes d9) hl)⟩
theorem pays {l : Launch} {R : Room} {p : Program} {e : Env} {below : List Frame} {s : State} {sargs : Array Value} {len W : Nat} (a : Addr) (D : Cell) (fV fC : Field) (b : Addr) (A : Cell) (z : Int32) (htab : tab.before sargs s = true) (hfr : 4 ≤ R.frames) (hlo : W + 65 ≤ R.locals) :
    Back l R p e below s sargs yN len W (fun A₁ a₁ => A₁.cells + 1 ≤ R.cells ∧ A₁.slots + A.slots.size ≤ R.slots ∧ P a D fV fC b A z a₁ A₁.U) (fun A₁ _ v₁ B₁ => E a D fV fC A v₁ A₁.U B₁.U ∧ B₁.locs = A₁.locs ++ [⟨a, fC.slot⟩, ⟨a, fV.slot⟩] ∧ B₁.cells = A₁.cells + 1 ∧ B₁.slots = A₁.slots + A.slots.size) :=
  (law l a D fV fC b A z).pays htab hfr (by omega)
end New1
end StrChars
namespace StrChars.Road
open Jvm Sem ClassFile Op Lib Jvm.Stand Jvm.Free Jvm.Free.XT
open Jvm.Lib.Cold (StaticIs)
abbrev ST : String := "java/lang/String"
/-- every table word that New1's law asks, flat -/
abbrev words : List Jvm.Cond := [.code New1.yN New1.yB 2 none, .initialized ST, .methodLink ST 27 New4.yN, .instanceMethod New4.yN,
  .code New4.yN New4.yB 6 none, .fieldLink ST 38 ST "COMPACT_STRINGS" "Z", .laysFinal ST ST "value" "[B", .fieldLink ST 9 ST "value" "[B", .laysFinal ST ST "coder" "B", .fieldLink ST 15 ST "coder" "B",
  .methodLink ST 1 Lib.objectInit, .instanceMethod Lib.objectInit, .code Lib.objectInit ⟨#[0xb1]⟩ 1 none, .methodLink ST 177 Cmp3.yN, .static Cmp3.yN, .methodLink ST 47 CodL.yN, .static CodL.yN,
  .code Cmp3.yN Cmp3.yB 6 (some (.array .byte)), .initialized U16, .arrayClass .byte, .methodLink U16 115 Cmp5.yN, .static Cmp5.yN, .code Cmp5.yN Cmp5.yB 7 (some .int), .code CodL.yN CodL.yB 2 (some .byte)]
theorem tab_of {a : Array Value} {s : State} (h : ∀ w ∈ words, w.before a s = true) : New1.tab.before a s = true := by
  have h5 : Cmp5.tab.before a s = true := unparts (wk h (.code Cmp5.yN Cmp5.yB 7 (some .int))) (wks h (.initialized Cmp5.yN.cls :: Cmp5.site))
  have hc : CodL.tab.before a s = true := unparts (wk h (.code CodL.yN CodL.yB 2 (some .byte))) (wks h (.initialized CodL.yN.cls :: CodL.site))
  have q5 : ∀ w ∈ Cmp5.tab :: words, w.before a s = true := fun w hw => (List.mem_cons.mp hw).elim (fun e => e ▸ h5) (h w)
  have h3 : Cmp3.tab.before a s = true := unparts (wk q5 (.code Cmp3.yN Cmp3.yB 6 (some (.array .byte)))) (wks q5 (.initialized Cmp3.yN.cls :: Cmp3.site))
  have q3 : ∀ w ∈ Cmp3.tab :: CodL.tab :: words, w.before a s = true := fun w hw => (List.mem_cons.mp hw).elim (fun e => e ▸ h3) fun hw => (List.mem_cons.mp hw).elim (fun e => e ▸ hc) (h w)
  have h4 : New4.tab.before a s = true := unparts (wk q3 (.code New4.yN New4.yB 6 none)) (wks q3 (.initialized New4.yN.cls :: New4.site))
  have q4 : ∀ w ∈ New4.tab :: words, w.before a s = true := fun w hw => (List.mem_cons.mp hw).elim (fun e => e ▸ h4) (h w)
  exact unparts (wk q4 (.code New1.yN New1.yB 2 none)) (wks q4 (.initialized New1.yN.cls :: New1.site))
/-- the words ride from the start Z to the walk's own state -/
theorem moved {Z s : State} {a0 args : Array Value} (hZ : Z.Warmed39 s.vm) (hw : ∀ d ∈ words, d.before a0 Z = true) : ∀ d ∈ words, d.before args s = true := fun d hd => by
  have q := hw d hd
  have t : ∀ d ∈ words, d = .arrayClass .byte ∨ (d.onTables && d.keepsFace) = true := by decide +kernel
  rcases t d hd with rfl | t
  · exact RoadKit.mvA hZ q
  · exact RoadKit.mv hZ q t
/-- WHAT COMES BACK, over the tables of the start Z: h the heap at the call, h' behind it -/
def Q (Z : State) (x : Addr) (A : Cell) (h : Heap) (v : Option Value) (h' : Heap) (L : List Loc) : Prop := v = none ∧ (∀ y ∈ L, y.base = x) ∧ RoadKit.Keep h h' [x] ∧ h'.size = h.size + 1 ∧ RoadKit.Exa Z h' x ST ∧ RoadKit.Fld Z h' x ST "value" "[B" (.ref h.size) ∧ RoadKit.Fld Z h' x ST "coder" "B" (.int 0) ∧
  (∃ V : Cell, RoadKit.Arr Z h' h.size V .byte ∧ V.vm = .none ∧ Z.vm.findClass "[B" = some V.cls ∧ V.slots.size = A.slots.size ∧ ∀ j, j < A.slots.size → V.slots[j]? = some (.int (lo8 (cv A j)))) ∧
  ∀ (O n d : String) (w : Value), RoadKit.Fld Z h x O n d w → RoadKit.slotOf Z O n d ≠ RoadKit.slotOf Z ST "value" "[B" → RoadKit.slotOf Z O n d ≠ RoadKit.slotOf Z ST "coder" "B" → RoadKit.Fld Z h' x O n d w
/-- **new String(chars) AT A CALL, IN THE ROAD'S FORM**: for specialBack behind newO: x the fresh String, b the char[] with the cell A -/
theorem back {p : Program} {l : Launch} {e : Env} {R : Room} {s : State} {args : Array Value} {below : List Frame} {len W : Nat} {Z : State} {a0 : Array Value} {h : Heap} (hZ : Z.Warmed39 s.vm) (hw : ∀ d ∈ words, d.before a0 Z = true) {kI : Nat} (wi : (Jvm.Cond.instantiable ST kI).before a0 Z = true)
    {x b : Addr} {A : Cell} {z : Int32} {v0 c0 : Value} (E : RoadKit.Exa Z h x ST) (V : RoadKit.Fld Z h x ST "value" "[B" v0) (C : RoadKit.Fld Z h x ST "coder" "B" c0) (K : RoadKit.Arr Z h b A .char) (hty : Typed .char A) (S : RoadKit.Sta Z h ST "COMPACT_STRINGS" "Z" (.int z)) (hz : ¬ z = 0)
    (l0 : 0 < A.slots.size) (l2 : A.slots.size ≤ 536870912) (hp : ∀ i, i < A.slots.size → ¬ 255 < cv A i) (hfr : 4 ≤ R.frames) (hlo : W + 65 ≤ R.locals) :
    Back l R p e below s args New1.yN len W (fun P a => a = #[.ref x, .ref b] ∧ P.U.heap = h ∧ P.cells + 1 ≤ R.cells ∧ P.slots + A.slots.size ≤ R.slots)
      (fun P _ v B => ∃ L, Q Z x A h v B.U.heap L ∧ B.locs = P.locs ++ L ∧ B.cells = P.cells + 1 ∧ B.slots = P.slots + A.slots.size) := by
  intro m meth c P g ig mk a X hg hsize hdg hW hn hp'
  obtain ⟨rfl, rfl, r1, r2⟩ := hp'
  have al : Z.vm.Alike P.U.vm := hZ.alike.trans X.warmed.alike
  obtain ⟨D, cfV, kV, iV, fV, hD, gV, stV, knV, obV, asV, slV⟩ := id V
  obtain ⟨D', cfC, kC, iC, fC, hD', gC, stC, -, -, asC, slC⟩ := id C
  cases hD.symm.trans hD'
  obtain ⟨D2, kD, e1, e2, e3, e4, e5⟩ := id E
  cases hD.symm.trans e1
  obtain ⟨c2, k2, i1, i2, i3, -⟩ := Cond.instantiable_spec wi
  cases e2.symm.trans i1
  cases e3.symm.trans i2
  obtain ⟨kU, u1, u2⟩ := al.2.2 _ _ e3
  have hB : Blank ST x D P.U := ⟨hD, ⟨knV, fun q hq => by rw [hq] at obV; cases obV⟩, by rw [al.findClass]; exact e2, kU, u1, by rw [u2]; exact i3, by rw [u2]; exact e5 i3⟩
  have F1 : Found ST "value" "[B" fV P.U := ⟨SBG.found_only al ⟨cfV, kV, iV, gV⟩, stV⟩
  have F2 : Found ST "coder" "B" fC P.U := ⟨SBG.found_only al ⟨cfC, kC, iC, gC⟩, stC⟩
  have hA : Ch b A P.U := ⟨⟨K.1, State.isArrayOf_alike al K.2.1, K.2.2, by omega⟩, hty⟩
  have hS : StaticIs P.U ST "COMPACT_STRINGS" "Z" (.int z) := by
    obtain ⟨cfS, iS, kS, fS, st, cS, t1, t2, t3, t4, t5, t6, t7⟩ := S
    exact StaticIs.there (s := { Z with heap := P.U.heap }) ⟨cfS, iS, kS, fS, st, cS, t1, t2, t3, t4, t5, (fun q => by rw [q] at t6; cases t6), t7⟩ al rfl
  obtain ⟨v, B, X', ⟨⟨hv, E', V', q1, q2, q3, q4, q5, q6, q7, q8, q9, q10, q11⟩, hl, hc, hs⟩, st⟩ := New1.pays x D fV fC b A z (tab_of (moved hZ hw)) hfr hlo m meth c P g ig mk _ X hg hsize hdg hW hn ⟨r1, r2, rfl, hB, F1, F2, hA, hS, hz, l0, l2, hp⟩
  have al' : Z.vm.Alike B.U.vm := hZ.alike.trans X'.warmed.alike
  have hsz : E'.slots.size = D.slots.size := by
    obtain ⟨-, -, -, kB, w1, w2, w3⟩ := q1
    obtain ⟨kB', y1, y2⟩ := al'.2.2 _ _ e3
    rw [q2.2.1] at w1
    cases w1.symm.trans y1
    rw [w3, e5 i3, y2]
  refine ⟨v, B, X', ⟨_, ⟨hv, ?_, ⟨by omega, fun y cy hy hn' => q10 y cy (by simpa using hn') hy, fun y cy hy => ?_⟩, q11, ⟨E', _, q1.1, by rw [q2.2.1]; exact e2, by rw [q2.2.1]; exact e3, by rw [q2.1]; exact obV, fun _ => by rw [hsz]; exact e5 i3⟩,
    ⟨E', cfV, kV, iV, fV, q1.1, gV, stV, by rw [q2.1]; exact knV, by rw [q2.1]; exact obV, by rw [q2.2.1]; exact asV, q3⟩, ⟨E', cfC, kC, iC, fC, q1.1, gC, stC, by rw [q2.1]; exact knV, by rw [q2.1]; exact obV, by rw [q2.2.1]; exact asC, q4⟩,
    ⟨V', ⟨q5.1, State.isArrayOf_alike al'.symm q5.2.1, q5.2.2.1⟩, q6, by rw [← al'.findClass]; exact q7, q8, fun j hj => by have := q9 j hj; rwa [Nat.zero_add] at this⟩, fun O n d w F n1 n2 => ?_⟩, hl, hc, hs⟩, st⟩
  · intro y hy
    simp only [List.mem_cons, List.not_mem_nil, or_false] at hy
    rcases hy with rfl | rfl <;> rfl
  · by_cases q : y = x
    · subst q
      cases hD.symm.trans hy
      exact ⟨E', q1.1, q2.2.1, q2.1, hsz⟩
    · exact ⟨cy, q10 y cy q hy, rfl, rfl, rfl⟩
  · obtain ⟨D3, cf, k, i, f, g1, g2, g3, g4, g5, g6, g7⟩ := F
    cases hD.symm.trans g1
    simp only [RoadKit.slotOf, g2, gV, gC, Option.map_some, Option.getD_some] at n1 n2
    exact ⟨E', cf, k, i, f, q1.1, g2, g3, by rw [q2.1]; exact g4, by rw [q2.1]; exact g5, by rw [q2.2.1]; exact g6, by rw [q2.2.2 f.slot (by simp [n1, n2])]; exact g7⟩
end StrChars.Road
namespace StrChars.Road
open Jvm Sem ClassFile Op Lib Jvm.Stand Jvm.Free Jvm.Free.XT
/-- WHAT COMES BACK, the byte[] as a list of values -/
def QA (Z : State) (x : Addr) (zn : Int32) (cs : List Int32) (h : Heap) (v : Option Value) (h' : Heap) (L : List Loc) : Prop := v = none ∧ (∀ y ∈ L, y.base = x) ∧ RoadKit.Keep h h' [x] ∧ h'.size = h.size + 1 ∧ RoadKit.Exa Z h' x ST ∧ RoadKit.Fld Z h' x ST "value" "[B" (.ref h.size) ∧ RoadKit.Fld Z h' x ST "coder" "B" (.int 0) ∧
  (∃ kb, Z.vm.findClass "[B" = some kb ∧ RoadKit.Arv Z h' h.size kb .byte zn (cs.map fun c => .int (lo8 c)) (.int 0)) ∧
  ∀ (O n d : String) (w : Value), RoadKit.Fld Z h x O n d w → RoadKit.slotOf Z O n d ≠ RoadKit.slotOf Z ST "value" "[B" → RoadKit.slotOf Z O n d ≠ RoadKit.slotOf Z ST "coder" "B" → RoadKit.Fld Z h' x O n d w
/-- **new String(chars) AT A CALL, THE ARRAYS AS LISTS**: the char[] at b holds cs, not empty, no char above 255 -/
theorem backArv {p : Program} {l : Launch} {e : Env} {R : Room} {s : State} {args : Array Value} {below : List Frame} {len W : Nat} {Z : State} {a0 : Array Value} {h : Heap} (hZ : Z.Warmed39 s.vm) (hw : ∀ d ∈ words, d.before a0 Z = true) {kI : Nat} (wi : (Jvm.Cond.instantiable ST kI).before a0 Z = true)
    {x b : Addr} {k : ClassId} {zn z : Int32} {cs : List Int32} {dv v0 c0 : Value} (E : RoadKit.Exa Z h x ST) (V : RoadKit.Fld Z h x ST "value" "[B" v0) (C : RoadKit.Fld Z h x ST "coder" "B" c0) (K : RoadKit.Arv Z h b k .char zn (cs.map Value.int) dv) (S : RoadKit.Sta Z h ST "COMPACT_STRINGS" "Z" (.int z)) (hz : ¬ z = 0)
    (hlen : zn.toNatClampNeg = cs.length) (h0 : 0 < cs.length) (hbig : cs.length ≤ 536870912) (hall : ∀ c ∈ cs, ¬ 255 < c) (hfr : 4 ≤ R.frames) (hlo : W + 65 ≤ R.locals) :
    Back l R p e below s args New1.yN len W (fun P a => a = #[.ref x, .ref b] ∧ P.U.heap = h ∧ P.cells + 1 ≤ R.cells ∧ P.slots + cs.length ≤ R.slots)
      (fun P _ v B => ∃ L, QA Z x zn cs h v B.U.heap L ∧ B.locs = P.locs ++ L ∧ B.cells = P.cells + 1 ∧ B.slots = P.slots + cs.length) := by
  obtain ⟨A, K1, K2, K3, K4, K5, K6⟩ := K
  have e : A.slots.size = cs.length := K3.trans hlen
  have hat : ∀ (i : Nat) (hi : i < cs.length), A.slots[i]? = some (.int cs[i]) := fun i hi => by rw [K5 i (by omega)]; simp [List.getD_eq_getElem?_getD, hi]
  have hcv : ∀ (i : Nat) (hi : i < cs.length), cv A i = cs[i] := fun i hi => by unfold cv; rw [hat i hi]
  have hty : Typed .char A := fun i v hv => by
    have hi : i < A.slots.size := (Array.getElem?_eq_some_iff.mp hv).1
    have q := K5 i hi
    rw [hv] at q
    rw [Option.some.inj q]
    exact K6 i hi
  refine Back.mono (back hZ hw wi E V C K1 hty S hz (by omega) (by omega) (fun i hi => by rw [hcv i (by omega)]; exact hall _ (List.getElem_mem _)) hfr hlo) (fun P a hp => ⟨hp.1, hp.2.1, hp.2.2.1, by rw [e]; exact hp.2.2.2⟩) (fun P a v B hp hq => ?_)
  obtain ⟨L, ⟨q1, q2, q3, q4, q5, q6, q7, ⟨V', v1, v2, v3, v4, v5⟩, q9⟩, hl, hc, hs⟩ := hq
  refine ⟨L, ⟨q1, q2, q3, q4, q5, q6, q7, ⟨V'.cls, v3, V', v1, rfl, by rw [v4, e, hlen], K4, fun i hi => ?_, fun i hi => ?_⟩, q9⟩, hl, hc, by rw [hs, e]⟩
  · have hi' : i < cs.length := by omega
    rw [v5 i (by omega), hcv i hi']; simp [List.getD_eq_getElem?_getD, hi']
  · have hi' : i < cs.length := by omega
    simp only [List.getD_eq_getElem?_getD, List.getElem?_map, List.getElem?_eq_getElem hi', Option.map_some, Option.getD_some]
    exact fits_lo8 _
end StrChars.Road
namespace StrChars.Road
open Jvm Sem ClassFile Op Lib Jvm.Stand Jvm.Free Jvm.Free.XT
/-- WHAT COMES BACK, in the writer's own shape -/
def QV (Z : State) (x : Addr) (N : Int32) (bs : List Int32) (h : Heap) (n0 : Nat) (v : Option Value) (h' : Heap) (L : List Loc) : Prop := v = none ∧ RoadKit.Fr n0 L ∧ RoadKit.Keep h h' [x] ∧ RoadKit.Exa Z h' x ST ∧ RoadKit.Fld Z h' x ST "coder" "B" (.int 0) ∧
  ∃ (t : Addr) (kb : ClassId), n0 ≤ t ∧ h.size ≤ t ∧ ¬ t = x ∧ RoadKit.Fld Z h' x ST "value" "[B" (.ref t) ∧ RoadKit.Arv Z h' t kb .byte N (bs.map Value.int) (.int 0)
/-- **new String(chars) AT A CALL, FOR THE WRITER**: a char[] of n known ints, each 0 to 255 -/
theorem backV {p : Program} {l : Launch} {e : Env} {R : Room} {s : State} {args : Array Value} {below : List Frame} {len W : Nat} {Z : State} {a0 : Array Value} {h : Heap} (hZ : Z.Warmed39 s.vm) (hw : ∀ d ∈ words, d.before a0 Z = true) {kI : Nat} (wi : (Jvm.Cond.instantiable ST kI).before a0 Z = true)
    {x b : Addr} {kC : ClassId} {cs bs : List Int32} {d v0 c0 : Value} {z N : Int32} {n n0 : Nat} (hx0 : n0 ≤ x) (hh0 : n0 ≤ h.size) (E : RoadKit.Exa Z h x ST) (V : RoadKit.Fld Z h x ST "value" "[B" v0) (C : RoadKit.Fld Z h x ST "coder" "B" c0) (K : RoadKit.Arv Z h b kC .char N (cs.map Value.int) d) (S : RoadKit.Sta Z h ST "COMPACT_STRINGS" "Z" (.int z)) (hz : ¬ z = 0)
    (hn : cs.length = n) (hN : N = Int32.ofNat n) (l0 : 0 < n) (l2 : n ≤ 4000) (hp : ∀ c ∈ cs, ¬ c < 0 ∧ ¬ (255 : Int32) < c) (hb : bs = cs.map (fun c => c.toInt8.toInt32)) (hfr : 4 ≤ R.frames) (hlo : W + 65 ≤ R.locals) :
    Back l R p e below s args (⟨"java/lang/String", "<init>", "([C)V"⟩ : MethodName) len W (fun P a => a = #[.ref x, .ref b] ∧ P.U.heap = h ∧ P.cells + 1 ≤ R.cells ∧ P.slots + n ≤ R.slots)
      (fun P _ v B => ∃ L, QV Z x N bs h n0 v B.U.heap L ∧ B.locs = P.locs ++ L ∧ B.cells = P.cells + 1 ∧ B.slots = P.slots + n) := by
  subst hn hN hb
  refine Back.mono (backArv hZ hw wi E V C K S hz (n32 (by omega)) l0 (by omega) (fun c hc => (hp c hc).2) hfr hlo) (fun P a hp => hp) (fun P a v B hp hq => ?_)
  obtain ⟨L, ⟨q1, q2, q3, q4, q5, q6, q7, ⟨kb, v1, v2⟩, q9⟩, hl, hc, hs⟩ := hq
  exact ⟨L, ⟨q1, fun y hy => by rw [q2 y hy]; exact hx0, q3, q5, q7, h.size, kb, hh0, Nat.le_refl _, Nat.ne_of_gt E.lt, q6, by rw [List.map_map]; exact v2⟩, hl, hc, hs⟩
end StrChars.Road
end Jvm.Pilot.@@N@@
namespace Jvm.Pilot.@@N@@
open Jvm Jvm.ClassFile Sem Op Lib Jvm.Free Jvm.Stand Jvm.LawKit Jvm.RoadKit Bundle Jvm.Pilot.@@N@@.Jvm.D
/-! OWN KIT 1: a goal 'the run goes on to a good end', and a block of plain instructions taken in one step (own_blk) -/
abbrev zI (x : Int32) : Slot := .val (.int x)
abbrev zL (x : Int64) : Slot := .val (.long x)
abbrev zD (x : UInt64) : Slot := .val (.double x)
abbrev zA (x : Addr) : Slot := .val (.ref x)
abbrev zN : Slot := .val .null
abbrev zU : Slot := .unset
abbrev zS : Slot := .second
def own_Go (tb : Tables) (e : Env) (below : List Frame) (Q : Outcome → State → Prop) (S : State) : Prop :=
  ∃ s₂ o, Steps tb e below S s₂ ∧ s₂.status = .running ∧ Ended s₂ below o ∧ Q o s₂
theorem own_go {tb : Tables} {e : Env} {below : List Frame} {Q : Outcome → State → Prop} {S S' : State} (h : ∀ t, Steps tb e below S' t → Steps tb e below S t) (k : own_Go tb e below Q S') : own_Go tb e below Q S := by
  obtain ⟨s2, o, a, b, c, d⟩ := k
  exact ⟨s2, o, h _ a, b, c, d⟩
/-- what a contract asks of the end -/
def own_Fin (s : State) (C S : Nat) (q : Option Value → Heap → List Loc → Prop) (o : Outcome) (U : State) : Prop :=
  ∃ v L, o = .returned v ∧ q v U.heap L ∧ FrameEnd s o U L C S
/-! local variables as lists -/
def own_nth : List Slot → Nat → Option Slot
  | [], _ => none
  | a :: _, 0 => some a
  | _ :: r, n + 1 => own_nth r n
def own_put : List Slot → Nat → Slot → List Slot
  | [], _, _ => []
  | _ :: r, 0, x => x :: r
  | a :: r, n + 1, x => a :: own_put r n x
theorem own_nth_eq : ∀ (ls : List Slot) (k : Nat), (Array.mk ls)[k]? = own_nth ls k := by
  intro ls k
  show (Array.mk ls)[k]? = _
  rw [List.getElem?_toArray]
  induction ls generalizing k with
  | nil => rfl
  | cons a r ih => cases k with
    | zero => rfl
    | succ n => exact ih n
theorem own_put_eq : ∀ (ls : List Slot) (k : Nat) (x : Slot), (Array.mk ls).setIfInBounds k x = Array.mk (own_put ls k x) := by
  intro ls k x
  have h : ls.set k x = own_put ls k x := by
    induction ls generalizing k with
    | nil => rfl
    | cons a r ih => cases k with
      | zero => rfl
      | succ n => show a :: r.set n x = a :: own_put r n x; rw [ih]
  rw [← h]
  exact List.setIfInBounds_toArray _ _ _
theorem own_nth_lt {ls : List Slot} {k : Nat} {x : Slot} (h : own_nth ls k = some x) : k < (Array.mk ls).size := by
  rw [← own_nth_eq] at h
  exact (Array.getElem?_eq_some_iff.mp h).1
theorem own_size (ls : List Slot) (k : Nat) (x : Slot) : (Array.mk (own_put ls k x)).size = (Array.mk ls).size := by
  rw [← own_put_eq]; exact Array.size_setIfInBounds
theorem own_setAt {ls : List Slot} {k : Nat} (x : Slot) (h : k < (Array.mk ls).size) : setAt (Array.mk ls) k x = some (Array.mk (own_put ls k x)) := by
  rw [← own_put_eq]
  exact if_pos h
def own_self (ls : List Slot) (k : Nat) (v : Value) : Option (List Slot) :=
  match v.category with
  | 2 => match own_nth ls (k + 1) with
    | none => none
    | some .unset => some (own_put (own_put ls k (.val v)) (k + 1) .second)
    | some .second => some (own_put (own_put ls k (.val v)) (k + 1) .second)
    | some (.val w) => match w.category with
      | 2 => match own_nth ls (k + 2) with
        | none => none
        | some _ => some (own_put (own_put (own_put ls k (.val v)) (k + 2) .unset) (k + 1) .second)
      | _ => some (own_put (own_put ls k (.val v)) (k + 1) .second)
  | _ => some (own_put ls k (.val v))
def own_sto (ls : List Slot) (k : Nat) (v : Value) : Option (List Slot) :=
  match own_nth ls k with
  | none => none
  | some .unset => own_self ls k v
  | some .second => own_self (own_put ls (k - 1) .unset) k v
  | some (.val w) => match w.category with
    | 2 => match own_nth ls (k + 1) with
      | none => none
      | some _ => own_self (own_put ls (k + 1) .unset) k v
    | _ => own_self ls k v
theorem own_storeSelf (l : Array Slot) (i : Nat) (v : Value) : storeSelf l i v = (setAt l i (.val v)).bind fun l => if v.category = 2 then l[i + 1]?.bind fun o => (match o with
    | .val old => if old.category = 2 then (setAt l (i + 2) .unset).bind fun l2 => setAt l2 (i + 1) .second else setAt l (i + 1) .second
    | _ => setAt l (i + 1) .second) else some l := rfl
theorem own_storeLocals (l : Array Slot) (i : Nat) (v : Value) : storeLocals l i v = l[i]?.bind fun o => (match o with
    | .second => (setAt l (i - 1) .unset).bind fun l2 => storeSelf l2 i v
    | .val old => if old.category = 2 then (setAt l (i + 1) .unset).bind fun l2 => storeSelf l2 i v else storeSelf l i v
    | .unset => storeSelf l i v) := rfl
theorem own_nth_ne {ls : List Slot} {k j : Nat} {x : Slot} (h : j ≠ k) : own_nth (own_put ls k x) j = own_nth ls j := by
  rw [← own_nth_eq, ← own_nth_eq, ← own_put_eq]
  exact Array.getElem?_setIfInBounds_ne (Ne.symm h)
theorem own_self_ok {ls ls' : List Slot} {k : Nat} {v : Value} (hk : k < (Array.mk ls).size) (h : own_self ls k v = some ls') : storeSelf (Array.mk ls) k v = some (Array.mk ls') := by
  rw [own_storeSelf, own_setAt _ hk]
  show (if v.category = 2 then _ else _) = _
  unfold own_self at h
  split at h
  · rename_i hc
    rw [if_pos hc, own_nth_eq, own_nth_ne (by omega)]
    split at h
    · cases h
    · rename_i hn
      cases h
      rw [hn]
      exact own_setAt _ (by rw [own_size]; exact own_nth_lt hn)
    · rename_i hn
      cases h
      rw [hn]
      exact own_setAt _ (by rw [own_size]; exact own_nth_lt hn)
    · rename_i w hn
      rw [hn]
      show (if w.category = 2 then _ else _) = _
      split at h
      · rename_i hw
        rw [if_pos hw]
        split at h
        · cases h
        · rename_i y hy
          cases h
          rw [own_setAt _ (by rw [own_size]; exact own_nth_lt hy)]
          exact own_setAt _ (by rw [own_size, own_size]; exact own_nth_lt hn)
      · rename_i hw
        cases h
        rw [if_neg (fun q => hw q)]
        exact own_setAt _ (by rw [own_size]; exact own_nth_lt hn)
  · rename_i hc
    cases h
    rw [if_neg (fun q => hc q)]
theorem own_sto_ok {ls ls' : List Slot} {k : Nat} {v : Value} (h : own_sto ls k v = some ls') : storeLocals (Array.mk ls) k v = some (Array.mk ls') := by
  rw [own_storeLocals, own_nth_eq]
  unfold own_sto at h
  split at h
  · cases h
  · rename_i hn
    rw [hn]
    exact own_self_ok (own_nth_lt hn) h
  · rename_i hn
    rw [hn]
    have := own_nth_lt hn
    show ((setAt _ (k - 1) .unset).bind _) = _
    rw [own_setAt _ (by omega)]
    exact own_self_ok (by rw [own_size]; exact this) h
  · rename_i w hn
    rw [hn]
    have := own_nth_lt hn
    show (if w.category = 2 then _ else _) = _
    split at h
    · rename_i hw
      rw [if_pos hw]
      split at h
      · cases h
      · rename_i y hy
        rw [own_setAt _ (own_nth_lt hy)]
        exact own_self_ok (by rw [own_size]; exact this) h
    · rename_i hw
      rw [if_neg (fun q => hw q)]
      exact own_self_ok this h
/-! the conditions of a branch, said of whole numbers -/
def own_c0 : ClassFile.Cond → Int32 → Prop
  | .eq, a => a.toInt = 0
  | .ne, a => a.toInt ≠ 0
  | .lt, a => a.toInt < 0
  | .ge, a => 0 ≤ a.toInt
  | .gt, a => 0 < a.toInt
  | .le, a => a.toInt ≤ 0
def own_ic : ClassFile.Cond → Int32 → Int32 → Prop
  | .eq, a, b => a.toInt = b.toInt
  | .ne, a, b => a.toInt ≠ b.toInt
  | .lt, a, b => a.toInt < b.toInt
  | .ge, a, b => b.toInt ≤ a.toInt
  | .gt, a, b => b.toInt < a.toInt
  | .le, a, b => a.toInt ≤ b.toInt
theorem own_ic_ok (cd : ClassFile.Cond) (a b : Int32) : if_icmp.holds cd a b = true ↔ own_ic cd a b := by
  cases cd
  · show ((a == b) = true) ↔ a.toInt = b.toInt
    rw [beq_iff_eq, Int32.toInt_inj]
  · show ((a != b) = true) ↔ a.toInt ≠ b.toInt
    rw [bne_iff_ne, ne_eq, ne_eq, Int32.toInt_inj]
  · show (decide (a < b) = true) ↔ a.toInt < b.toInt
    rw [decide_eq_true_eq, Int32.lt_iff_toInt_lt]
  · show (decide (a ≥ b) = true) ↔ b.toInt ≤ a.toInt
    rw [decide_eq_true_eq, ge_iff_le, Int32.le_iff_toInt_le]
  · show (decide (a > b) = true) ↔ b.toInt < a.toInt
    rw [decide_eq_true_eq, gt_iff_lt, Int32.lt_iff_toInt_lt]
  · show (decide (a ≤ b) = true) ↔ a.toInt ≤ b.toInt
    rw [decide_eq_true_eq, Int32.le_iff_toInt_le]
theorem own_c0_ok (cd : ClassFile.Cond) (a : Int32) : ifCond.holds cd a = true ↔ own_c0 cd a := by
  have h : ifCond.holds cd a = if_icmp.holds cd a 0 := by cases cd <;> rfl
  rw [h, own_ic_ok]
  cases cd <;> exact Iff.rfl
/-! what is read of an array -/
def own_at (Z : State) (h : Heap) (a : Addr) (ty : FieldType) (j : Int32) (v : Value) : Prop := ∃ cl, Arr Z h a cl ty ∧ ¬ (j < 0 ∨ cl.slots.size ≤ j.toNatClampNeg) ∧ cl.slots[j.toNatClampNeg]? = some v
def own_ln (Z : State) (h : Heap) (a : Addr) (N : Int32) : Prop := ∃ cl ty, Arr Z h a cl ty ∧ cl.slots.size.toInt32 = N
/-! one plain instruction: what it asks (obligations) and where it goes on. ds: the branches' decisions; vs: the values that are read of the heap -/
def own_len : Instr → Nat
  | .iload _ => 2 | .lload _ => 2 | .fload _ => 2 | .dload _ => 2 | .aload _ => 2
  | .istore _ => 2 | .lstore _ => 2 | .fstore _ => 2 | .dstore _ => 2 | .astore _ => 2
  | .bipush _ => 2 | .ldc _ => 2 | .newarray _ => 2
  | .sipush _ => 3 | .ldc_w _ => 3 | .ldc2_w _ => 3 | .iinc _ _ => 3 | .goto _ => 3 | .ifCond _ _ => 3 | .if_icmp _ _ => 3 | .if_acmp _ _ => 3 | .ifnull _ => 3 | .ifnonnull _ => 3
  | .getfield _ => 3 | .putfield _ => 3 | .getstatic _ => 3 | .putstatic _ => 3 | .invokevirtual _ => 3 | .invokespecial _ => 3 | .invokestatic _ => 3 | .new _ => 3 | .anewarray _ => 3 | .checkcast _ => 3 | .instanceof _ => 3
  | .invokeinterface _ _ => 5 | .invokedynamic _ => 5
  | _ => 1
def own_tgt (pc : Nat) : Int → Option Nat
  | .ofNat n => some (pc + n)
  | .negSucc n => bif Nat.ble (n + 1) pc then some (pc - (n + 1)) else none
theorem own_tgt_ok {pc t : Nat} {o : Int} (h : own_tgt pc o = some t) : 0 ≤ (pc : Int) + o ∧ ((pc : Int) + o).toNat = t := by
  cases o with
  | ofNat n =>
    have h1 : pc + n = t := Option.some.inj h
    rw [Int.ofNat_eq_natCast]
    omega
  | negSucc n =>
    have h1 : (bif Nat.ble (n + 1) pc then some (pc - (n + 1)) else none) = some t := h
    cases hb : Nat.ble (n + 1) pc with
    | false => rw [hb] at h1; cases h1
    | true =>
      rw [hb] at h1
      have h2 : pc - (n + 1) = t := Option.some.inj h1
      have h3 := Nat.le_of_ble_eq_true hb
      rw [Int.negSucc_eq]
      omega
def own_key : List (Nat × Value) → Nat → Option Value
  | [], _ => none
  | (q, v) :: r, k => bif Nat.beq q k then some v else own_key r k
def own_fld : List (Nat × String × String × String) → Nat → Option (String × String × String)
  | [], _ => none
  | (q, v) :: r, k => bif Nat.beq q k then some v else own_fld r k
def own_ldI (ls : List Slot) (j : Nat) (k : Value → Prop) : Prop := match own_nth ls j with | some (.val (.int v)) => k (.int v) | _ => False
def own_ldL (ls : List Slot) (j : Nat) (k : Value → Prop) : Prop := match own_nth ls j with | some (.val (.long v)) => k (.long v) | _ => False
def own_ldD (ls : List Slot) (j : Nat) (k : Value → Prop) : Prop := match own_nth ls j with | some (.val (.double v)) => k (.double v) | _ => False
def own_ldA (ls : List Slot) (j : Nat) (k : Value → Prop) : Prop := match own_nth ls j with | some (.val (.ref a)) => k (.ref a) | some (.val .null) => k .null | _ => False
def own_stI (ls : List Slot) (st : List Value) (j : Nat) (k : List Slot → List Value → Prop) : Prop := match st with | .int x :: r => (match own_sto ls j (.int x) with | some l => k l r | none => False) | _ => False
def own_stL (ls : List Slot) (st : List Value) (j : Nat) (k : List Slot → List Value → Prop) : Prop := match st with | .long x :: r => (match own_sto ls j (.long x) with | some l => k l r | none => False) | _ => False
def own_stD (ls : List Slot) (st : List Value) (j : Nat) (k : List Slot → List Value → Prop) : Prop := match st with | .double x :: r => (match own_sto ls j (.double x) with | some l => k l r | none => False) | _ => False
def own_stA (ls : List Slot) (st : List Value) (j : Nat) (k : List Slot → List Value → Prop) : Prop := match st with | .ref x :: r => (match own_sto ls j (.ref x) with | some l => k l r | none => False) | .null :: r => (match own_sto ls j .null with | some l => k l r | none => False) | _ => False
def own_i1 (st : List Value) (f : Int32 → Value) (k : List Value → Prop) : Prop := match st with | .int x :: r => k (f x :: r) | _ => False
def own_l1 (st : List Value) (f : Int64 → Value) (k : List Value → Prop) : Prop := match st with | .long x :: r => k (f x :: r) | _ => False
def own_i2 (st : List Value) (g : Int32 → Int32 → Prop) (f : Int32 → Int32 → Value) (k : List Value → Prop) : Prop := match st with | .int y :: .int x :: r => g x y ∧ k (f x y :: r) | _ => False
def own_p2 (st : List Value) (f : Int32 → Int32 → Value) (k : List Value → Prop) : Prop := match st with | .int y :: .int x :: r => k (f x y :: r) | _ => False
def own_q2 (st : List Value) (f : Int64 → Int64 → Value) (k : List Value → Prop) : Prop := match st with | .long y :: .long x :: r => k (f x y :: r) | _ => False
def own_l2 (st : List Value) (g : Int64 → Int64 → Prop) (f : Int64 → Int64 → Value) (k : List Value → Prop) : Prop := match st with | .long y :: .long x :: r => g x y ∧ k (f x y :: r) | _ => False
def own_li (st : List Value) (f : Int64 → Int32 → Value) (k : List Value → Prop) : Prop := match st with | .int y :: .long x :: r => k (f x y :: r) | _ => False
def own_d2 (st : List Value) (f : UInt64 → UInt64 → UInt64) (k : List Value → Prop) : Prop := match st with | .double y :: .double x :: r => Jvm.Free.Fl.NoNaN64 (f x y) ∧ k (.double (f x y) :: r) | _ => False
def own_ca (st : List Value) (k : List Value → Prop) : Prop := match st with | x :: r => (match x.category with | 1 => k (x :: r) | _ => False) | _ => False
def own_al (Z : State) (h : Heap) (ty : FieldType) (st : List Value) (vs : List Value) (k : List Value → List Value → Prop) : Prop :=
  match st with | .int j :: .ref a :: r => (match vs with | v :: vs' => own_at Z h a ty j v ∧ k vs' (v :: r) | [] => False) | _ => False
def own_br (ds : List Bool) (C : Prop) (kt kn : List Bool → Prop) : Prop :=
  match ds with | true :: d => C ∧ kt d | false :: d => (¬ C) ∧ kn d | [] => False
def own_jp (pc : Nat) (o : Int) (k : Nat → Prop) : Prop := match own_tgt pc o with | some t => k t | none => False
def own_st (Kt : List (Nat × Value)) (Ft : List (Nat × String × String × String)) (Z : State) (h : Heap) (i : Instr) (pc : Nat) (ds : List Bool) (vs : List Value) (ls : List Slot) (st : List Value)
    (kf : List Bool → List Value → List Slot → List Value → Prop) (kj : Nat → List Bool → List Value → List Slot → List Value → Prop) : Prop :=
  match i with
  | .iload j => own_ldI ls j fun v => kf ds vs ls (v :: st)
  | .iload_n j => own_ldI ls j.val fun v => kf ds vs ls (v :: st)
  | .lload j => own_ldL ls j fun v => kf ds vs ls (v :: st)
  | .lload_n j => own_ldL ls j.val fun v => kf ds vs ls (v :: st)
  | .dload j => own_ldD ls j fun v => kf ds vs ls (v :: st)
  | .dload_n j => own_ldD ls j.val fun v => kf ds vs ls (v :: st)
  | .aload j => own_ldA ls j fun v => kf ds vs ls (v :: st)
  | .aload_n j => own_ldA ls j.val fun v => kf ds vs ls (v :: st)
  | .istore j => own_stI ls st j fun l r => kf ds vs l r
  | .istore_n j => own_stI ls st j.val fun l r => kf ds vs l r
  | .lstore j => own_stL ls st j fun l r => kf ds vs l r
  | .lstore_n j => own_stL ls st j.val fun l r => kf ds vs l r
  | .dstore j => own_stD ls st j fun l r => kf ds vs l r
  | .dstore_n j => own_stD ls st j.val fun l r => kf ds vs l r
  | .astore j => own_stA ls st j fun l r => kf ds vs l r
  | .astore_n j => own_stA ls st j.val fun l r => kf ds vs l r
  | .iconst n => kf ds vs ls (.int (Int32.ofInt n) :: st)
  | .bipush n => (match vs with | .int v :: vs' => (Int8.ofInt n).toInt32 = v ∧ kf ds vs' ls (.int v :: st) | _ => False)
  | .sipush n => (match vs with | .int v :: vs' => (Int16.ofInt n).toInt32 = v ∧ kf ds vs' ls (.int v :: st) | _ => False)
  | .lconst n => kf ds vs ls (.long (Int64.ofNat n) :: st)
  | .dconst n => kf ds vs ls (.double (match n.val with | 0 => 0 | _ => 4607182418800017408) :: st)
  | .aconst_null => kf ds vs ls (.null :: st)
  | .ldc n => (match own_key Kt n with | some (.int v) => kf ds vs ls (.int v :: st) | _ => False)
  | .ldc_w n => (match own_key Kt n with | some (.int v) => kf ds vs ls (.int v :: st) | _ => False)
  | .ldc2_w n => (match own_key Kt n with | some (.long v) => kf ds vs ls (.long v :: st) | some (.double v) => kf ds vs ls (.double v :: st) | _ => False)
  | .iadd => own_p2 st (fun x y => .int (x + y)) fun r => kf ds vs ls r
  | .isub => own_p2 st (fun x y => .int (x - y)) fun r => kf ds vs ls r
  | .imul => own_p2 st (fun x y => .int (x * y)) fun r => kf ds vs ls r
  | .idiv => own_i2 st (fun _ y => y ≠ 0) (fun x y => .int (x / y)) fun r => kf ds vs ls r
  | .irem => own_i2 st (fun _ y => y ≠ 0) (fun x y => .int (x % y)) fun r => kf ds vs ls r
  | .iand => own_p2 st (fun x y => .int (x &&& y)) fun r => kf ds vs ls r
  | .ior => own_p2 st (fun x y => .int (x ||| y)) fun r => kf ds vs ls r
  | .ixor => own_p2 st (fun x y => .int (x ^^^ y)) fun r => kf ds vs ls r
  | .ishl => own_p2 st (fun x y => .int (x <<< (y &&& 31))) fun r => kf ds vs ls r
  | .ishr => own_p2 st (fun x y => .int (x >>> (y &&& 31))) fun r => kf ds vs ls r
  | .iushr => own_p2 st (fun x y => .int (Jvm.Free.XT.ushr x y)) fun r => kf ds vs ls r
  | .ineg => own_i1 st (fun x => .int (-x)) fun r => kf ds vs ls r
  | .i2l => own_i1 st (fun x => .long x.toInt64) fun r => kf ds vs ls r
  | .i2b => own_i1 st (fun x => .int x.toInt8.toInt32) fun r => kf ds vs ls r
  | .i2s => own_i1 st (fun x => .int x.toInt16.toInt32) fun r => kf ds vs ls r
  | .i2c => own_i1 st (fun x => .int x.toUInt32.toUInt16.toUInt32.toInt32) fun r => kf ds vs ls r
  | .i2d => own_i1 st (fun x => .double (FP.i2d x)) fun r => kf ds vs ls r
  | .l2i => own_l1 st (fun x => .int x.toInt32) fun r => kf ds vs ls r
  | .l2d => own_l1 st (fun x => .double (FP.l2d x)) fun r => kf ds vs ls r
  | .ladd => own_q2 st (fun x y => .long (x + y)) fun r => kf ds vs ls r
  | .lsub => own_q2 st (fun x y => .long (x - y)) fun r => kf ds vs ls r
  | .lmul => own_q2 st (fun x y => .long (x * y)) fun r => kf ds vs ls r
  | .ldiv => own_l2 st (fun _ y => y ≠ 0) (fun x y => .long (x / y)) fun r => kf ds vs ls r
  | .land => own_q2 st (fun x y => .long (x &&& y)) fun r => kf ds vs ls r
  | .lneg => own_l1 st (fun x => .long (-x)) fun r => kf ds vs ls r
  | .lshr => own_li st (fun x y => .long (x >>> (y.toInt64 &&& 63))) fun r => kf ds vs ls r
  | .lushr => own_li st (fun x y => .long (Jvm.Free.XT.ushrL x y)) fun r => kf ds vs ls r
  | .lcmp => own_q2 st (fun x y => .int (Jvm.Free.XT.cmpL x y)) fun r => kf ds vs ls r
  | .dadd => own_d2 st FP.dadd fun r => kf ds vs ls r
  | .dsub => own_d2 st FP.dsub fun r => kf ds vs ls r
  | .dmul => own_d2 st FP.dmul fun r => kf ds vs ls r
  | .ddiv => own_d2 st FP.ddiv fun r => kf ds vs ls r
  | .dneg => (match st with | .double x :: r => kf ds vs ls (.double (FP.dneg x) :: r) | _ => False)
  | .dcmp o => (match st with | .double y :: .double x :: r => kf ds vs ls (.int (cmpValue (FP.dcmp x y) o) :: r) | _ => False)
  | .iinc j n => (match own_nth ls j with | some (.val (.int x)) => (match own_sto ls j (.int (x + Int32.ofInt n)) with | some l => kf ds vs l st | none => False) | _ => False)
  | .dup => own_ca st fun st => (match st with | x :: r => kf ds vs ls (x :: x :: r) | _ => False)
  | .pop => own_ca st fun st => (match st with | _ :: r => kf ds vs ls r | _ => False)
  | .dup2 => own_ca st fun st => (match st with | x :: r => own_ca r fun r => (match r with | y :: q => kf ds vs ls (x :: y :: x :: y :: q) | _ => False) | _ => False)
  | .dup_x1 => own_ca st fun st => (match st with | x :: r => own_ca r fun r => (match r with | y :: q => kf ds vs ls (x :: y :: x :: q) | _ => False) | _ => False)
  | .goto o => own_jp pc o fun t => kj t ds vs ls st
  | .ifCond cd o => (match st with | .int x :: r => own_br ds (own_c0 cd x) (fun d => own_jp pc o fun t => kj t d vs ls r) (fun d => kf d vs ls r) | _ => False)
  | .if_icmp cd o => (match st with | .int y :: .int x :: r => own_br ds (own_ic cd x y) (fun d => own_jp pc o fun t => kj t d vs ls r) (fun d => kf d vs ls r) | _ => False)
  | .ifnull o => (match st with | .null :: r => own_jp pc o fun t => kj t ds vs ls r | .ref _ :: r => kf ds vs ls r | _ => False)
  | .ifnonnull o => (match st with | .ref _ :: r => own_jp pc o fun t => kj t ds vs ls r | .null :: r => kf ds vs ls r | _ => False)
  | .arraylength => (match st with | .ref a :: r => (match vs with | .int N :: vs' => own_ln Z h a N ∧ kf ds vs' ls (.int N :: r) | _ => False) | _ => False)
  | .iaload => own_al Z h .int st vs fun vs' r => kf ds vs' ls r
  | .daload => own_al Z h .double st vs fun vs' r => kf ds vs' ls r
  | .laload => own_al Z h .long st vs fun vs' r => kf ds vs' ls r
  | .getfield n => (match st with | .ref a :: r => (match vs with | v :: vs' => (match own_fld Ft n with | some (C, f, d) => Fld Z h a C f d v ∧ kf ds vs' ls (v :: r) | none => False) | [] => False) | _ => False)
  | _ => False
theorem own_ldI_e {ls : List Slot} {j : Nat} {k : Value → Prop} (H : own_ldI ls j k) : ∃ v, own_nth ls j = some (.val (.int v)) ∧ k (.int v) := by
  unfold own_ldI at H
  split at H
  · exact ⟨_, by assumption, H⟩
  · exact H.elim
theorem own_ldL_e {ls : List Slot} {j : Nat} {k : Value → Prop} (H : own_ldL ls j k) : ∃ v, own_nth ls j = some (.val (.long v)) ∧ k (.long v) := by
  unfold own_ldL at H
  split at H
  · exact ⟨_, by assumption, H⟩
  · exact H.elim
theorem own_ldD_e {ls : List Slot} {j : Nat} {k : Value → Prop} (H : own_ldD ls j k) : ∃ v, own_nth ls j = some (.val (.double v)) ∧ k (.double v) := by
  unfold own_ldD at H
  split at H
  · exact ⟨_, by assumption, H⟩
  · exact H.elim
theorem own_ldA_e {ls : List Slot} {j : Nat} {k : Value → Prop} (H : own_ldA ls j k) : ∃ v, own_nth ls j = some (.val v) ∧ v.isRef = true ∧ k v := by
  unfold own_ldA at H
  split at H
  · exact ⟨_, by assumption, rfl, H⟩
  · exact ⟨_, by assumption, rfl, H⟩
  · exact H.elim
theorem own_stI_e {ls : List Slot} {st : List Value} {j : Nat} {k : List Slot → List Value → Prop} (H : own_stI ls st j k) : ∃ x r l, st = .int x :: r ∧ storeLocals (Array.mk ls) j (.int x) = some (Array.mk l) ∧ k l r := by
  unfold own_stI at H
  split at H
  · split at H
    · exact ⟨_, _, _, rfl, own_sto_ok (by assumption), H⟩
    · exact H.elim
  · exact H.elim
theorem own_stL_e {ls : List Slot} {st : List Value} {j : Nat} {k : List Slot → List Value → Prop} (H : own_stL ls st j k) : ∃ x r l, st = .long x :: r ∧ storeLocals (Array.mk ls) j (.long x) = some (Array.mk l) ∧ k l r := by
  unfold own_stL at H
  split at H
  · split at H
    · exact ⟨_, _, _, rfl, own_sto_ok (by assumption), H⟩
    · exact H.elim
  · exact H.elim
theorem own_stD_e {ls : List Slot} {st : List Value} {j : Nat} {k : List Slot → List Value → Prop} (H : own_stD ls st j k) : ∃ x r l, st = .double x :: r ∧ storeLocals (Array.mk ls) j (.double x) = some (Array.mk l) ∧ k l r := by
  unfold own_stD at H
  split at H
  · split at H
    · exact ⟨_, _, _, rfl, own_sto_ok (by assumption), H⟩
    · exact H.elim
  · exact H.elim
theorem own_stA_e {ls : List Slot} {st : List Value} {j : Nat} {k : List Slot → List Value → Prop} (H : own_stA ls st j k) : ∃ x r l, st = x :: r ∧ x.isRef = true ∧ storeLocals (Array.mk ls) j x = some (Array.mk l) ∧ k l r := by
  unfold own_stA at H
  split at H
  · split at H
    · exact ⟨_, _, _, rfl, rfl, own_sto_ok (by assumption), H⟩
    · exact H.elim
  · split at H
    · exact ⟨_, _, _, rfl, rfl, own_sto_ok (by assumption), H⟩
    · exact H.elim
  · exact H.elim
theorem own_i1_e {st : List Value} {f : Int32 → Value} {k : List Value → Prop} (H : own_i1 st f k) : ∃ x r, st = .int x :: r ∧ k (f x :: r) := by
  unfold own_i1 at H
  split at H
  · exact ⟨_, _, rfl, H⟩
  · exact H.elim
theorem own_l1_e {st : List Value} {f : Int64 → Value} {k : List Value → Prop} (H : own_l1 st f k) : ∃ x r, st = .long x :: r ∧ k (f x :: r) := by
  unfold own_l1 at H
  split at H
  · exact ⟨_, _, rfl, H⟩
  · exact H.elim
theorem own_i2_e {st : List Value} {g : Int32 → Int32 → Prop} {f : Int32 → Int32 → Value} {k : List Value → Prop} (H : own_i2 st g f k) : ∃ x y r, st = .int y :: .int x :: r ∧ g x y ∧ k (f x y :: r) := by
  unfold own_i2 at H
  split at H
  · exact ⟨_, _, _, rfl, H⟩
  · exact H.elim
theorem own_p2_e {st : List Value} {f : Int32 → Int32 → Value} {k : List Value → Prop} (H : own_p2 st f k) : ∃ x y r, st = .int y :: .int x :: r ∧ k (f x y :: r) := by
  unfold own_p2 at H
  split at H
  · exact ⟨_, _, _, rfl, H⟩
  · exact H.elim
theorem own_l2_e {st : List Value} {g : Int64 → Int64 → Prop} {f : Int64 → Int64 → Value} {k : List Value → Prop} (H : own_l2 st g f k) : ∃ x y r, st = .long y :: .long x :: r ∧ g x y ∧ k (f x y :: r) := by
  unfold own_l2 at H
  split at H
  · exact ⟨_, _, _, rfl, H⟩
  · exact H.elim
theorem own_q2_e {st : List Value} {f : Int64 → Int64 → Value} {k : List Value → Prop} (H : own_q2 st f k) : ∃ x y r, st = .long y :: .long x :: r ∧ k (f x y :: r) := by
  unfold own_q2 at H
  split at H
  · exact ⟨_, _, _, rfl, H⟩
  · exact H.elim
theorem own_li_e {st : List Value} {f : Int64 → Int32 → Value} {k : List Value → Prop} (H : own_li st f k) : ∃ x y r, st = .int y :: .long x :: r ∧ k (f x y :: r) := by
  unfold own_li at H
  split at H
  · exact ⟨_, _, _, rfl, H⟩
  · exact H.elim
theorem own_d2_e {st : List Value} {f : UInt64 → UInt64 → UInt64} {k : List Value → Prop} (H : own_d2 st f k) : ∃ x y r, st = .double y :: .double x :: r ∧ Jvm.Free.Fl.NoNaN64 (f x y) ∧ k (.double (f x y) :: r) := by
  unfold own_d2 at H
  split at H
  · exact ⟨_, _, _, rfl, H⟩
  · exact H.elim
theorem own_ca_e {st : List Value} {k : List Value → Prop} (H : own_ca st k) : ∃ x r, st = x :: r ∧ x.category = 1 ∧ k (x :: r) := by
  unfold own_ca at H
  split at H
  · split at H
    · exact ⟨_, _, rfl, by assumption, H⟩
    · exact H.elim
  · exact H.elim
theorem own_al_e {Z : State} {h : Heap} {ty : FieldType} {st vs : List Value} {k : List Value → List Value → Prop} (H : own_al Z h ty st vs k) : ∃ j a r v vs', st = .int j :: .ref a :: r ∧ vs = v :: vs' ∧ own_at Z h a ty j v ∧ k vs' (v :: r) := by
  unfold own_al at H
  split at H
  · split at H
    · exact ⟨_, _, _, _, _, rfl, rfl, H⟩
    · exact H.elim
  · exact H.elim
theorem own_br_e {ds : List Bool} {C : Prop} {kt kn : List Bool → Prop} (H : own_br ds C kt kn) : (C ∧ ∃ d, kt d) ∨ ((¬ C) ∧ ∃ d, kn d) := by
  unfold own_br at H
  split at H
  · exact Or.inl ⟨H.1, _, H.2⟩
  · exact Or.inr ⟨H.1, _, H.2⟩
  · exact H.elim
theorem own_jp_e {pc : Nat} {o : Int} {k : Nat → Prop} (H : own_jp pc o k) : ∃ t, 0 ≤ (pc : Int) + o ∧ ((pc : Int) + o).toNat = t ∧ k t := by
  unfold own_jp at H
  split at H
  · rename_i t ht
    exact ⟨t, (own_tgt_ok ht).1, (own_tgt_ok ht).2, H⟩
  · exact H.elim
def own_kw (own : String) (a0 : Array Value) (Z : State) : Nat × Value → Prop
  | (n, .int v) => (Jvm.Cond.constant own n v).before a0 Z = true
  | (n, .long v) => (Jvm.Cond.constantLong own n v).before a0 Z = true
  | (n, .double v) => (Jvm.Cond.constantDouble own n v).before a0 Z = true
  | _ => False
def own_ks (own : String) (a0 : Array Value) (Z : State) : List (Nat × Value) → Prop
  | [] => True
  | x :: r => own_kw own a0 Z x ∧ own_ks own a0 Z r
def own_fs (own : String) (a0 : Array Value) (Z : State) : List (Nat × String × String × String) → Prop
  | [] => True
  | (n, C, f, d) :: r => (Jvm.Cond.fieldLink own n C f d).before a0 Z = true ∧ own_fs own a0 Z r
theorem own_key_e {own : String} {a0 : Array Value} {Z : State} {n : Nat} {v : Value} : ∀ {Kt : List (Nat × Value)}, own_ks own a0 Z Kt → own_key Kt n = some v → own_kw own a0 Z (n, v)
  | [], _, h => by cases h
  | (q, w) :: r, hk, h => by
    have h' : (bif Nat.beq q n then some w else own_key r n) = some v := h
    cases hb : Nat.beq q n with
    | true =>
      rw [hb] at h'
      have e1 : w = v := Option.some.inj h'
      have e2 := Nat.eq_of_beq_eq_true hb
      subst e1 e2
      exact hk.1
    | false =>
      rw [hb] at h'
      exact own_key_e hk.2 h'
theorem own_fld_e {own : String} {a0 : Array Value} {Z : State} {n : Nat} {C f d : String} : ∀ {Ft : List (Nat × String × String × String)}, own_fs own a0 Z Ft → own_fld Ft n = some (C, f, d) → (Jvm.Cond.fieldLink own n C f d).before a0 Z = true
  | [], _, h => by cases h
  | (q, C', f', d') :: r, hk, h => by
    have h' : (bif Nat.beq q n then some (C', f', d') else own_fld r n) = some (C, f, d) := h
    cases hb : Nat.beq q n with
    | true =>
      rw [hb] at h'
      have e1 : (C', f', d') = (C, f, d) := Option.some.inj h'
      have e2 := Nat.eq_of_beq_eq_true hb
      cases e1
      subst e2
      exact hk.1
    | false =>
      rw [hb] at h'
      exact own_fld_e hk.2 h'
section OwnRun
variable {p : Program} {l : Launch} {e : Env} {R : Room} {s : State} {m : MethodId} {args : Array Value} {below : List Frame} {meth : Method} {c : Code} {T : State} {locs : List Loc} {cells slots : Nat} {Z : State} {a0 : Array Value} {h : Heap} {Q : Outcome → State → Prop} {own : String}
/-- the run goes on well from pc with these locals and this stack, at whatever state of the same heap -/
def own_Aft (X : Stand p l e R s m args below meth c T locs cells slots) (h : Heap) (Q : Outcome → State → Prop) (pc : Nat) (ls : List Slot) (st : List Value) : Prop :=
  ∀ T', Stand p l e R s m args below meth c T' locs cells slots → T'.heap = h → own_Go p.tables e below Q (T'.setTop (mkF m pc (Array.mk ls) st))
set_option maxHeartbeats 4000000 in
theorem own_st_ok (X : Stand p l e R s m args below meth c T locs cells slots) (hx : p.tables.exec = Jvm.exec) (hZ : Z.Warmed39 s.vm) (hown : s.vm.findClass own = some m.cls) (eT : T.heap = h) {Kt : List (Nat × Value)} {Ft : List (Nat × String × String × String)} (hK : own_ks own a0 Z Kt) (hF : own_fs own a0 Z Ft)
    {i : Instr} {pc : Nat} (hd : decode c.code pc = .ok (i, own_len i)) {ds : List Bool} {vs : List Value} {ls : List Slot} {st : List Value} {kf : List Bool → List Value → List Slot → List Value → Prop} {kj : Nat → List Bool → List Value → List Slot → List Value → Prop}
    (H : own_st Kt Ft Z h i pc ds vs ls st kf kj) (Hf : ∀ ds vs ls st, kf ds vs ls st → own_Aft X h Q (pc + own_len i) ls st) (Hj : ∀ t ds vs ls st, kj t ds vs ls st → own_Aft X h Q t ls st) :
    own_Go p.tables e below Q (T.setTop (mkF m pc (Array.mk ls) st)) := by
  cases i with
  | iload j =>
    have H : (own_ldI ls j fun v => kf ds vs ls (v :: st)) := H
    obtain ⟨v, hn, hk⟩ := own_ldI_e H
    exact own_go (fun t k => XS.iload X.here hx rfl hd ((own_nth_eq _ _).trans hn) k) (Hf _ _ _ _ hk T X eT)
  | iload_n j =>
    have H : (own_ldI ls j.val fun v => kf ds vs ls (v :: st)) := H
    obtain ⟨v, hn, hk⟩ := own_ldI_e H
    exact own_go (fun t k => XS.iloadN X.here hx rfl hd ((own_nth_eq _ _).trans hn) k) (Hf _ _ _ _ hk T X eT)
  | lload j =>
    have H : (own_ldL ls j fun v => kf ds vs ls (v :: st)) := H
    obtain ⟨v, hn, hk⟩ := own_ldL_e H
    exact own_go (fun t k => XT.lload X.here hx rfl hd ((own_nth_eq _ _).trans hn) k) (Hf _ _ _ _ hk T X eT)
  | lload_n j =>
    have H : (own_ldL ls j.val fun v => kf ds vs ls (v :: st)) := H
    obtain ⟨v, hn, hk⟩ := own_ldL_e H
    exact own_go (fun t k => XT.lloadN X.here hx rfl hd ((own_nth_eq _ _).trans hn) k) (Hf _ _ _ _ hk T X eT)
  | dload j =>
    have H : (own_ldD ls j fun v => kf ds vs ls (v :: st)) := H
    obtain ⟨v, hn, hk⟩ := own_ldD_e H
    exact own_go (fun t k => XS.dload X.here hx rfl hd ((own_nth_eq _ _).trans hn) k) (Hf _ _ _ _ hk T X eT)
  | dload_n j =>
    have H : (own_ldD ls j.val fun v => kf ds vs ls (v :: st)) := H
    obtain ⟨v, hn, hk⟩ := own_ldD_e H
    exact own_go (fun t k => XS.dloadN X.here hx rfl hd ((own_nth_eq _ _).trans hn) k) (Hf _ _ _ _ hk T X eT)
  | aload j =>
    have H : (own_ldA ls j fun v => kf ds vs ls (v :: st)) := H
    obtain ⟨v, hn, hv, hk⟩ := own_ldA_e H
    exact own_go (fun t k => XS.aload X.here hx rfl hd ((own_nth_eq _ _).trans hn) hv k) (Hf _ _ _ _ hk T X eT)
  | aload_n j =>
    have H : (own_ldA ls j.val fun v => kf ds vs ls (v :: st)) := H
    obtain ⟨v, hn, hv, hk⟩ := own_ldA_e H
    exact own_go (fun t k => XS.aloadN X.here hx rfl hd ((own_nth_eq _ _).trans hn) hv k) (Hf _ _ _ _ hk T X eT)
  | istore j =>
    have H : (own_stI ls st j fun l r => kf ds vs l r) := H
    obtain ⟨x, r, l', rfl, hl, hk⟩ := own_stI_e H
    exact own_go (fun t k => XS.istore X.here hx rfl hd rfl hl k) (Hf _ _ _ _ hk T X eT)
  | istore_n j =>
    have H : (own_stI ls st j.val fun l r => kf ds vs l r) := H
    obtain ⟨x, r, l', rfl, hl, hk⟩ := own_stI_e H
    exact own_go (fun t k => XS.istoreN X.here hx rfl hd rfl hl k) (Hf _ _ _ _ hk T X eT)
  | lstore j =>
    have H : (own_stL ls st j fun l r => kf ds vs l r) := H
    obtain ⟨x, r, l', rfl, hl, hk⟩ := own_stL_e H
    exact own_go (fun t k => XT.lstore X.here hx rfl hd rfl hl k) (Hf _ _ _ _ hk T X eT)
  | lstore_n j =>
    have H : (own_stL ls st j.val fun l r => kf ds vs l r) := H
    obtain ⟨x, r, l', rfl, hl, hk⟩ := own_stL_e H
    exact own_go (fun t k => XT.lstoreN X.here hx rfl hd rfl hl k) (Hf _ _ _ _ hk T X eT)
  | dstore j =>
    have H : (own_stD ls st j fun l r => kf ds vs l r) := H
    obtain ⟨x, r, l', rfl, hl, hk⟩ := own_stD_e H
    exact own_go (fun t k => XS.dstore X.here hx rfl hd rfl hl k) (Hf _ _ _ _ hk T X eT)
  | dstore_n j =>
    have H : (own_stD ls st j.val fun l r => kf ds vs l r) := H
    obtain ⟨x, r, l', rfl, hl, hk⟩ := own_stD_e H
    exact own_go (fun t k => XS.dstoreN X.here hx rfl hd rfl hl k) (Hf _ _ _ _ hk T X eT)
  | astore j =>
    have H : (own_stA ls st j fun l r => kf ds vs l r) := H
    obtain ⟨x, r, l', rfl, hv, hl, hk⟩ := own_stA_e H
    exact own_go (fun t k => XS.astore X.here hx rfl hd rfl hv hl k) (Hf _ _ _ _ hk T X eT)
  | astore_n j =>
    have H : (own_stA ls st j.val fun l r => kf ds vs l r) := H
    obtain ⟨x, r, l', rfl, hv, hl, hk⟩ := own_stA_e H
    exact own_go (fun t k => XS.astoreN X.here hx rfl hd rfl hv hl k) (Hf _ _ _ _ hk T X eT)
  | iconst n => exact own_go (fun t k => XS.iconst X.here hx rfl hd k) (Hf _ _ _ _ H T X eT)
  | bipush n =>
    have H' : (match (generalizing := false) vs with | .int v :: vs' => (Int8.ofInt n).toInt32 = v ∧ kf ds vs' ls (.int v :: st) | _ => False) := H
    split at H'
    · obtain ⟨hv, hk⟩ := H'
      subst hv
      exact own_go (fun t k => XS.bipush X.here hx rfl hd k) (Hf _ _ _ _ hk T X eT)
    · exact H'.elim
  | sipush n =>
    have H' : (match (generalizing := false) vs with | .int v :: vs' => (Int16.ofInt n).toInt32 = v ∧ kf ds vs' ls (.int v :: st) | _ => False) := H
    split at H'
    · obtain ⟨hv, hk⟩ := H'
      subst hv
      exact own_go (fun t k => XS.sipush X.here hx rfl hd k) (Hf _ _ _ _ hk T X eT)
    · exact H'.elim
  | lconst n => exact own_go (fun t k => XT.lconst X.here hx rfl hd k) (Hf _ _ _ _ H T X eT)
  | dconst n =>
    match n, hd, H, Hf with
    | ⟨0, _⟩, hd, H, Hf => exact own_go (fun t k => XS.dconst0 X.here hx rfl hd rfl k) (Hf _ _ _ _ H T X eT)
    | ⟨1, _⟩, hd, H, Hf => exact own_go (fun t k => XS.dconst1 X.here hx rfl hd rfl k) (Hf _ _ _ _ H T X eT)
  | aconst_null => exact own_go (fun t k => XS.aconstNull X.here hx rfl hd k) (Hf _ _ _ _ H T X eT)
  | ldc n =>
    have H' : (match (generalizing := false) own_key Kt n with | some (.int v) => kf ds vs ls (.int v :: st) | _ => False) := H
    split at H'
    · rename_i v hv
      exact own_go (X.ldcInt hx hown (mv hZ (own_key_e hK hv)) (g := mkF m pc (Array.mk ls) st) rfl hd) (Hf _ _ _ _ H' T X eT)
    · exact H'.elim
  | ldc_w n =>
    have H' : (match (generalizing := false) own_key Kt n with | some (.int v) => kf ds vs ls (.int v :: st) | _ => False) := H
    split at H'
    · rename_i v hv
      exact own_go (X.ldcWInt hx hown (mv hZ (own_key_e hK hv)) (g := mkF m pc (Array.mk ls) st) rfl hd) (Hf _ _ _ _ H' T X eT)
    · exact H'.elim
  | ldc2_w n =>
    have H' : (match (generalizing := false) own_key Kt n with | some (.long v) => kf ds vs ls (.long v :: st) | some (.double v) => kf ds vs ls (.double v :: st) | _ => False) := H
    split at H'
    · rename_i v hv
      exact own_go (X.ldc2Long hx hown (mv hZ (own_key_e hK hv)) (g := mkF m pc (Array.mk ls) st) rfl hd) (Hf _ _ _ _ H' T X eT)
    · rename_i v hv
      exact own_go (X.ldc2DoubleC hx hown (mv hZ (own_key_e hK hv)) (g := mkF m pc (Array.mk ls) st) rfl hd) (Hf _ _ _ _ H' T X eT)
    · exact H'.elim
  | iadd =>
    have H : (own_p2 st (fun x y => .int (x + y)) fun r => kf ds vs ls r) := H
    obtain ⟨x, y, r, rfl, hk⟩ := own_p2_e H
    exact own_go (fun t k => XS.iadd X.here hx rfl hd rfl k) (Hf _ _ _ _ hk T X eT)
  | isub =>
    have H : (own_p2 st (fun x y => .int (x - y)) fun r => kf ds vs ls r) := H
    obtain ⟨x, y, r, rfl, hk⟩ := own_p2_e H
    exact own_go (fun t k => XS.isub X.here hx rfl hd rfl k) (Hf _ _ _ _ hk T X eT)
  | imul =>
    have H : (own_p2 st (fun x y => .int (x * y)) fun r => kf ds vs ls r) := H
    obtain ⟨x, y, r, rfl, hk⟩ := own_p2_e H
    exact own_go (fun t k => XS.imul X.here hx rfl hd rfl k) (Hf _ _ _ _ hk T X eT)
  | idiv =>
    have H : (own_i2 st (fun _ y => y ≠ 0) (fun x y => .int (x / y)) fun r => kf ds vs ls r) := H
    obtain ⟨x, y, r, rfl, hg, hk⟩ := own_i2_e H
    exact own_go (fun t k => XS.idiv X.here hx rfl hd rfl hg k) (Hf _ _ _ _ hk T X eT)
  | irem =>
    have H : (own_i2 st (fun _ y => y ≠ 0) (fun x y => .int (x % y)) fun r => kf ds vs ls r) := H
    obtain ⟨x, y, r, rfl, hg, hk⟩ := own_i2_e H
    exact own_go (fun t k => iremM X hx (g := mkF m pc (Array.mk ls) _) rfl hd rfl hg k) (Hf _ _ _ _ hk T X eT)
  | iand =>
    have H : (own_p2 st (fun x y => .int (x &&& y)) fun r => kf ds vs ls r) := H
    obtain ⟨x, y, r, rfl, hk⟩ := own_p2_e H
    exact own_go (fun t k => XS.iand X.here hx rfl hd rfl k) (Hf _ _ _ _ hk T X eT)
  | ior =>
    have H : (own_p2 st (fun x y => .int (x ||| y)) fun r => kf ds vs ls r) := H
    obtain ⟨x, y, r, rfl, hk⟩ := own_p2_e H
    exact own_go (fun t k => XT.ior X.here hx rfl hd rfl k) (Hf _ _ _ _ hk T X eT)
  | ixor =>
    have H : (own_p2 st (fun x y => .int (x ^^^ y)) fun r => kf ds vs ls r) := H
    obtain ⟨x, y, r, rfl, hk⟩ := own_p2_e H
    exact own_go (fun t k => XT.ixor X.here hx rfl hd rfl k) (Hf _ _ _ _ hk T X eT)
  | ishl =>
    have H : (own_p2 st (fun x y => .int (x <<< (y &&& 31))) fun r => kf ds vs ls r) := H
    obtain ⟨x, y, r, rfl, hk⟩ := own_p2_e H
    exact own_go (fun t k => XT.ishl X.here hx rfl hd rfl k) (Hf _ _ _ _ hk T X eT)
  | ishr =>
    have H : (own_p2 st (fun x y => .int (x >>> (y &&& 31))) fun r => kf ds vs ls r) := H
    obtain ⟨x, y, r, rfl, hk⟩ := own_p2_e H
    exact own_go (fun t k => XT.ishr X.here hx rfl hd rfl k) (Hf _ _ _ _ hk T X eT)
  | iushr =>
    have H : (own_p2 st (fun x y => .int (Jvm.Free.XT.ushr x y)) fun r => kf ds vs ls r) := H
    obtain ⟨x, y, r, rfl, hk⟩ := own_p2_e H
    exact own_go (fun t k => XT.iushr X.here hx rfl hd rfl k) (Hf _ _ _ _ hk T X eT)
  | ineg =>
    have H : (own_i1 st (fun x => .int (-x)) fun r => kf ds vs ls r) := H
    obtain ⟨x, r, rfl, hk⟩ := own_i1_e H
    exact own_go (fun t k => XS.ineg X.here hx rfl hd rfl k) (Hf _ _ _ _ hk T X eT)
  | i2l =>
    have H : (own_i1 st (fun x => .long x.toInt64) fun r => kf ds vs ls r) := H
    obtain ⟨x, r, rfl, hk⟩ := own_i1_e H
    exact own_go (fun t k => XT.i2l X.here hx rfl hd rfl k) (Hf _ _ _ _ hk T X eT)
  | i2b =>
    have H : (own_i1 st (fun x => .int x.toInt8.toInt32) fun r => kf ds vs ls r) := H
    obtain ⟨x, r, rfl, hk⟩ := own_i1_e H
    exact own_go (fun t k => XT.i2b X.here hx rfl hd rfl k) (Hf _ _ _ _ hk T X eT)
  | i2s =>
    have H : (own_i1 st (fun x => .int x.toInt16.toInt32) fun r => kf ds vs ls r) := H
    obtain ⟨x, r, rfl, hk⟩ := own_i1_e H
    exact own_go (fun t k => XT.i2s X.here hx rfl hd rfl k) (Hf _ _ _ _ hk T X eT)
  | i2c =>
    have H : (own_i1 st (fun x => .int x.toUInt32.toUInt16.toUInt32.toInt32) fun r => kf ds vs ls r) := H
    obtain ⟨x, r, rfl, hk⟩ := own_i1_e H
    exact own_go (fun t k => XT.i2c X.here hx rfl hd rfl k) (Hf _ _ _ _ hk T X eT)
  | i2d =>
    have H : (own_i1 st (fun x => .double (FP.i2d x)) fun r => kf ds vs ls r) := H
    obtain ⟨x, r, rfl, hk⟩ := own_i1_e H
    exact own_go (fun t k => XS.i2dS X.here hx rfl hd rfl rfl k) (Hf _ _ _ _ hk T X eT)
  | l2i =>
    have H : (own_l1 st (fun x => .int x.toInt32) fun r => kf ds vs ls r) := H
    obtain ⟨x, r, rfl, hk⟩ := own_l1_e H
    exact own_go (fun t k => XT.l2i X.here hx rfl hd rfl k) (Hf _ _ _ _ hk T X eT)
  | l2d =>
    have H : (own_l1 st (fun x => .double (FP.l2d x)) fun r => kf ds vs ls r) := H
    obtain ⟨x, r, rfl, hk⟩ := own_l1_e H
    exact own_go (fun t k => XS.l2dS X.here hx rfl hd rfl rfl k) (Hf _ _ _ _ hk T X eT)
  | ladd =>
    have H : (own_q2 st (fun x y => .long (x + y)) fun r => kf ds vs ls r) := H
    obtain ⟨x, y, r, rfl, hk⟩ := own_q2_e H
    exact own_go (fun t k => XT.ladd X.here hx rfl hd rfl k) (Hf _ _ _ _ hk T X eT)
  | lsub =>
    have H : (own_q2 st (fun x y => .long (x - y)) fun r => kf ds vs ls r) := H
    obtain ⟨x, y, r, rfl, hk⟩ := own_q2_e H
    exact own_go (fun t k => XT.lsub X.here hx rfl hd rfl k) (Hf _ _ _ _ hk T X eT)
  | lmul =>
    have H : (own_q2 st (fun x y => .long (x * y)) fun r => kf ds vs ls r) := H
    obtain ⟨x, y, r, rfl, hk⟩ := own_q2_e H
    exact own_go (fun t k => XT.lmul X.here hx rfl hd rfl k) (Hf _ _ _ _ hk T X eT)
  | ldiv =>
    have H : (own_l2 st (fun _ y => y ≠ 0) (fun x y => .long (x / y)) fun r => kf ds vs ls r) := H
    obtain ⟨x, y, r, rfl, hg, hk⟩ := own_l2_e H
    exact own_go (fun t k => XT.ldiv X.here hx rfl hd rfl hg k) (Hf _ _ _ _ hk T X eT)
  | land =>
    have H : (own_q2 st (fun x y => .long (x &&& y)) fun r => kf ds vs ls r) := H
    obtain ⟨x, y, r, rfl, hk⟩ := own_q2_e H
    exact own_go (fun t k => XT.land X.here hx rfl hd rfl k) (Hf _ _ _ _ hk T X eT)
  | lneg =>
    have H : (own_l1 st (fun x => .long (-x)) fun r => kf ds vs ls r) := H
    obtain ⟨x, r, rfl, hk⟩ := own_l1_e H
    exact own_go (fun t k => XT.lneg X.here hx rfl hd rfl k) (Hf _ _ _ _ hk T X eT)
  | lshr =>
    have H : (own_li st (fun x y => .long (x >>> (y.toInt64 &&& 63))) fun r => kf ds vs ls r) := H
    obtain ⟨x, y, r, rfl, hk⟩ := own_li_e H
    exact own_go (fun t k => XT.lshr X.here hx rfl hd rfl k) (Hf _ _ _ _ hk T X eT)
  | lushr =>
    have H : (own_li st (fun x y => .long (Jvm.Free.XT.ushrL x y)) fun r => kf ds vs ls r) := H
    obtain ⟨x, y, r, rfl, hk⟩ := own_li_e H
    exact own_go (fun t k => XT.lushr X.here hx rfl hd rfl k) (Hf _ _ _ _ hk T X eT)
  | lcmp =>
    have H : (own_q2 st (fun x y => .int (Jvm.Free.XT.cmpL x y)) fun r => kf ds vs ls r) := H
    obtain ⟨x, y, r, rfl, hk⟩ := own_q2_e H
    exact own_go (fun t k => XT.lcmp X.here hx rfl hd rfl k) (Hf _ _ _ _ hk T X eT)
  | dadd =>
    have H : (own_d2 st FP.dadd fun r => kf ds vs ls r) := H
    obtain ⟨x, y, r, rfl, hg, hk⟩ := own_d2_e H
    exact own_go (fun t k => XS.daddS X.here hx rfl hd rfl hg rfl k) (Hf _ _ _ _ hk T X eT)
  | dsub =>
    have H : (own_d2 st FP.dsub fun r => kf ds vs ls r) := H
    obtain ⟨x, y, r, rfl, hg, hk⟩ := own_d2_e H
    exact own_go (fun t k => XS.dsubS X.here hx rfl hd rfl hg rfl k) (Hf _ _ _ _ hk T X eT)
  | dmul =>
    have H : (own_d2 st FP.dmul fun r => kf ds vs ls r) := H
    obtain ⟨x, y, r, rfl, hg, hk⟩ := own_d2_e H
    exact own_go (fun t k => XS.dmulS X.here hx rfl hd rfl hg rfl k) (Hf _ _ _ _ hk T X eT)
  | ddiv =>
    have H : (own_d2 st FP.ddiv fun r => kf ds vs ls r) := H
    obtain ⟨x, y, r, rfl, hg, hk⟩ := own_d2_e H
    exact own_go (fun t k => XS.ddivS X.here hx rfl hd rfl hg rfl k) (Hf _ _ _ _ hk T X eT)
  | dneg =>
    have H' : (match (generalizing := false) st with | .double x :: r => kf ds vs ls (.double (FP.dneg x) :: r) | _ => False) := H
    split at H'
    · exact own_go (fun t k => XS.dnegS X.here hx rfl hd rfl rfl k) (Hf _ _ _ _ H' T X eT)
    · exact H'.elim
  | dcmp o =>
    have H' : (match (generalizing := false) st with | .double y :: .double x :: r => kf ds vs ls (.int (cmpValue (FP.dcmp x y) o) :: r) | _ => False) := H
    split at H'
    · exact own_go (fun t k => XS.dcmpS X.here hx rfl hd rfl rfl k) (Hf _ _ _ _ H' T X eT)
    · exact H'.elim
  | iinc j n =>
    have H' : (match (generalizing := false) own_nth ls j with | some (.val (.int x)) => (match (generalizing := false) own_sto ls j (.int (x + Int32.ofInt n)) with | some l => kf ds vs l st | none => False) | _ => False) := H
    split at H'
    · rename_i x hn
      split at H'
      · rename_i l' hl
        exact own_go (fun t k => XS.iinc X.here hx rfl hd ((own_nth_eq _ _).trans hn) (own_sto_ok hl) k) (Hf _ _ _ _ H' T X eT)
      · exact H'.elim
    · exact H'.elim
  | dup =>
    have H : (own_ca st fun st => (match st with | x :: r => kf ds vs ls (x :: x :: r) | _ => False)) := H
    obtain ⟨x, r, rfl, hc, hk⟩ := own_ca_e H
    exact own_go (fun t k => XS.dup X.here hx rfl hd rfl hc k) (Hf _ _ _ _ hk T X eT)
  | pop =>
    have H : (own_ca st fun st => (match st with | _ :: r => kf ds vs ls r | _ => False)) := H
    obtain ⟨x, r, rfl, hc, hk⟩ := own_ca_e H
    exact own_go (fun t k => XT.pop X.here hx rfl hd rfl hc k) (Hf _ _ _ _ hk T X eT)
  | dup2 =>
    have H : (own_ca st fun st => (match st with | x :: r => own_ca r fun r => (match r with | y :: q => kf ds vs ls (x :: y :: x :: y :: q) | _ => False) | _ => False)) := H
    obtain ⟨x, r, rfl, hc, hk⟩ := own_ca_e H
    obtain ⟨y, q, rfl, hc', hk'⟩ := own_ca_e hk
    exact own_go (fun t k => XT.dup2 X.here hx rfl hd rfl hc hc' k) (Hf _ _ _ _ hk' T X eT)
  | dup_x1 =>
    have H : (own_ca st fun st => (match st with | x :: r => own_ca r fun r => (match r with | y :: q => kf ds vs ls (x :: y :: x :: q) | _ => False) | _ => False)) := H
    obtain ⟨x, r, rfl, hc, hk⟩ := own_ca_e H
    obtain ⟨y, q, rfl, hc', hk'⟩ := own_ca_e hk
    exact own_go (fun t k => XT.dupX1 X.here hx rfl hd rfl hc hc' k) (Hf _ _ _ _ hk' T X eT)
  | goto o =>
    have H : (own_jp pc o fun t => kj t ds vs ls st) := H
    obtain ⟨t', h1, h2, hk⟩ := own_jp_e H
    exact own_go (fun t k => XS.goto X.here hx rfl rfl hd h1 h2 k) (Hj _ _ _ _ _ hk T X eT)
  | ifCond cd o =>
    have H' : (match (generalizing := false) st with | .int x :: r => own_br ds (own_c0 cd x) (fun d => own_jp pc o fun t => kj t d vs ls r) (fun d => kf d vs ls r) | _ => False) := H
    split at H'
    · rename_i x r
      rcases own_br_e H' with ⟨hC, d, hk⟩ | ⟨hC, d, hk⟩
      · obtain ⟨t', h1, h2, hk⟩ := own_jp_e hk
        exact own_go (fun t k => XS.ifYes X.here hx rfl rfl hd rfl ((own_c0_ok _ _).mpr hC) h1 h2 k) (Hj _ _ _ _ _ hk T X eT)
      · have hc : ifCond.holds cd x = false := by
          cases hb : ifCond.holds cd x with
          | false => rfl
          | true => exact absurd ((own_c0_ok _ _).mp hb) hC
        exact own_go (fun t k => XS.ifNo X.here hx rfl hd rfl hc k) (Hf _ _ _ _ hk T X eT)
    · exact H'.elim
  | if_icmp cd o =>
    have H' : (match (generalizing := false) st with | .int y :: .int x :: r => own_br ds (own_ic cd x y) (fun d => own_jp pc o fun t => kj t d vs ls r) (fun d => kf d vs ls r) | _ => False) := H
    split at H'
    · rename_i y x r
      rcases own_br_e H' with ⟨hC, d, hk⟩ | ⟨hC, d, hk⟩
      · obtain ⟨t', h1, h2, hk⟩ := own_jp_e hk
        exact own_go (fun t k => XS.icmpYes X.here hx rfl rfl hd rfl ((own_ic_ok _ _ _).mpr hC) h1 h2 k) (Hj _ _ _ _ _ hk T X eT)
      · have hc : if_icmp.holds cd x y = false := by
          cases hb : if_icmp.holds cd x y with
          | false => rfl
          | true => exact absurd ((own_ic_ok _ _ _).mp hb) hC
        exact own_go (fun t k => XS.icmpNo X.here hx rfl hd rfl hc k) (Hf _ _ _ _ hk T X eT)
    · exact H'.elim
  | ifnull o =>
    have H' : (match (generalizing := false) st with | .null :: r => own_jp pc o fun t => kj t ds vs ls r | .ref _ :: r => kf ds vs ls r | _ => False) := H
    split at H'
    · obtain ⟨t', h1, h2, hk⟩ := own_jp_e H'
      exact own_go (fun t k => XS.ifnullYes X.here hx rfl rfl hd rfl h1 h2 k) (Hj _ _ _ _ _ hk T X eT)
    · exact own_go (fun t k => XS.ifnullNo X.here hx rfl hd rfl k) (Hf _ _ _ _ H' T X eT)
    · exact H'.elim
  | ifnonnull o =>
    have H' : (match (generalizing := false) st with | .ref _ :: r => own_jp pc o fun t => kj t ds vs ls r | .null :: r => kf ds vs ls r | _ => False) := H
    split at H'
    · obtain ⟨t', h1, h2, hk⟩ := own_jp_e H'
      exact own_go (fun t k => XT.ifnonnullYes X.here hx rfl rfl hd rfl h1 h2 k) (Hj _ _ _ _ _ hk T X eT)
    · exact own_go (fun t k => XT.ifnonnullNo X.here hx rfl hd rfl k) (Hf _ _ _ _ H' T X eT)
    · exact H'.elim
  | arraylength =>
    have H' : (match (generalizing := false) st with | .ref a :: r => (match (generalizing := false) vs with | .int N :: vs' => own_ln Z h a N ∧ kf ds vs' ls (.int N :: r) | _ => False) | _ => False) := H
    split at H'
    · split at H'
      · rename_i a r N vs'
        obtain ⟨⟨cl, ty, A, hN⟩, hk⟩ := H'
        subst hN
        exact own_go (X.arraylength hx (by rw [eT]; exact A.1) (State.isArrayOf_alike hZ.alike A.2.1) (g := mkF m pc (Array.mk ls) _) rfl rfl hd) (Hf _ _ _ _ hk T X eT)
      · exact H'.elim
    · exact H'.elim
  | iaload =>
    have H : (own_al Z h .int st vs fun vs' r => kf ds vs' ls r) := H
    obtain ⟨j, a, r, v, vs', rfl, rfl, ⟨cl, A, hin, hv⟩, hk⟩ := own_al_e H
    exact own_go (X.iaload hx (by rw [eT]; exact A.1) (State.isArrayOf_alike hZ.alike A.2.1) A.2.2 hin hv (g := mkF m pc (Array.mk ls) _) rfl rfl hd) (Hf _ _ _ _ hk T X eT)
  | daload =>
    have H : (own_al Z h .double st vs fun vs' r => kf ds vs' ls r) := H
    obtain ⟨j, a, r, v, vs', rfl, rfl, ⟨cl, A, hin, hv⟩, hk⟩ := own_al_e H
    exact own_go (X.daload hx (by rw [eT]; exact A.1) (State.isArrayOf_alike hZ.alike A.2.1) A.2.2 hin hv (g := mkF m pc (Array.mk ls) _) rfl rfl hd) (Hf _ _ _ _ hk T X eT)
  | laload =>
    have H : (own_al Z h .long st vs fun vs' r => kf ds vs' ls r) := H
    obtain ⟨j, a, r, v, vs', rfl, rfl, ⟨cl, A, hin, hv⟩, hk⟩ := own_al_e H
    exact own_go (X.laload hx (by rw [eT]; exact A.1) (State.isArrayOf_alike hZ.alike A.2.1) A.2.2 hin hv (g := mkF m pc (Array.mk ls) _) rfl rfl hd) (Hf _ _ _ _ hk T X eT)
  | getfield n =>
    have H' : (match (generalizing := false) st with | .ref a :: r => (match (generalizing := false) vs with | v :: vs' => (match (generalizing := false) own_fld Ft n with | some (C, f, d) => Fld Z h a C f d v ∧ kf ds vs' ls (v :: r) | none => False) | [] => False) | _ => False) := H
    split at H'
    · split at H'
      · split at H'
        · rename_i a r v vs' o C f d hf
          obtain ⟨T', X', e', st'⟩ := getF X hx hZ hown (host := "") (Or.inl (own_fld_e hF hf)) Via.refl eT H'.1 (g := mkF m pc (Array.mk ls) _) rfl rfl hd
          exact own_go st' (Hf _ _ _ _ H'.2 T' X' e')
        · exact H'.elim
      · exact H'.elim
    · exact H'.elim
  | _ => exact H.elim
def own_from : List (Nat × Instr) → Nat → List (Nat × Instr)
  | [], _ => []
  | (q, i) :: r, pc => bif Nat.beq q pc then (q, i) :: r else own_from r pc
def own_dec (code : ByteArray) (tab : List (Nat × Instr)) : Prop := ∀ e ∈ tab, decode code e.1 = .ok (e.2, own_len e.2)
def own_seq : List (Nat × Instr) → Bool
  | (q, i) :: (q', i') :: r => Nat.beq q' (q + own_len i) && own_seq ((q', i') :: r)
  | _ => true
theorem own_from_sub : ∀ {full : List (Nat × Instr)} {t : Nat}, (∀ e ∈ own_from full t, e ∈ full) ∧ (own_seq full = true → own_seq (own_from full t) = true) ∧ (∀ q i r, own_from full t = (q, i) :: r → q = t)
  | [], t => ⟨fun e h => h, fun h => h, fun q i r h => by cases h⟩
  | (q, i) :: r, t => by
    have ih := own_from_sub (full := r) (t := t)
    cases hb : Nat.beq q t with
    | true =>
      have e : own_from ((q, i) :: r) t = (q, i) :: r := by show (bif Nat.beq q t then _ else _) = _; rw [hb]; rfl
      rw [e]
      refine ⟨fun e h => h, fun h => h, fun q' i' r' h => ?_⟩
      cases h
      exact Nat.eq_of_beq_eq_true hb
    | false =>
      have e : own_from ((q, i) :: r) t = own_from r t := by show (bif Nat.beq q t then _ else _) = _; rw [hb]; rfl
      rw [e]
      refine ⟨fun e h => List.mem_cons_of_mem _ (ih.1 e h), fun h => ih.2.1 ?_, ih.2.2⟩
      cases r with
      | nil => rfl
      | cons a r' =>
        obtain ⟨q', i'⟩ := a
        have h' : (Nat.beq q' (q + own_len i) && own_seq ((q', i') :: r')) = true := h
        exact (Bool.and_eq_true_iff.mp h').2
/-! a block: n plain instructions from the table's row at hand on -/
def own_wp (Kt : List (Nat × Value)) (Ft : List (Nat × String × String × String)) (Z : State) (h : Heap) (full : List (Nat × Instr)) (P : Nat → List Slot → List Value → Prop) : Nat → List (Nat × Instr) → List Bool → List Value → List Slot → List Value → Prop
  | _, [], _, _, _, _ => False
  | 0, (q, _) :: _, _, _, ls, st => P q ls st
  | n + 1, (q, i) :: r, ds, vs, ls, st => own_st Kt Ft Z h i q ds vs ls st (fun ds vs ls st => own_wp Kt Ft Z h full P n r ds vs ls st) (fun t ds vs ls st => own_wp Kt Ft Z h full P n (own_from full t) ds vs ls st)
theorem own_wp_ok {code : ByteArray} {full : List (Nat × Instr)} (hdec : own_dec code full) (hseq : own_seq full = true) (hby : c.code = code) (hx : p.tables.exec = Jvm.exec) (hZ : Z.Warmed39 s.vm) (hown : s.vm.findClass own = some m.cls) {Kt : List (Nat × Value)} {Ft : List (Nat × String × String × String)} (hK : own_ks own a0 Z Kt) (hF : own_fs own a0 Z Ft) (X : Stand p l e R s m args below meth c T locs cells slots) :
    ∀ (n : Nat) (tab : List (Nat × Instr)) (ds : List Bool) (vs : List Value) (ls : List Slot) (st : List Value), (∀ e ∈ tab, e ∈ full) → own_seq tab = true → own_wp Kt Ft Z h full (own_Aft X h Q) n tab ds vs ls st →
      ∃ q i r, tab = (q, i) :: r ∧ own_Aft X h Q q ls st
  | _, [], _, _, _, _, _, _, H => by cases ‹Nat› <;> exact H.elim
  | 0, (q, i) :: r, ds, vs, ls, st, _, _, H => ⟨q, i, r, rfl, H⟩
  | n + 1, (q, i) :: r, ds, vs, ls, st, hsub, hs, H => by
    refine ⟨q, i, r, rfl, fun T' X' e' => ?_⟩
    have hd : decode c.code q = .ok (i, own_len i) := by rw [hby]; exact hdec (q, i) (hsub (q, i) (List.mem_cons_self ..))
    have H1 : own_st Kt Ft Z h i q ds vs ls st (fun ds vs ls st => own_wp Kt Ft Z h full (own_Aft X h Q) n r ds vs ls st) (fun t ds vs ls st => own_wp Kt Ft Z h full (own_Aft X h Q) n (own_from full t) ds vs ls st) := H
    clear H
    refine own_st_ok X' hx hZ hown e' hK hF hd H1 (fun ds vs ls st hk => ?_) (fun t ds vs ls st hk => ?_)
    · cases r with
      | nil =>
        obtain ⟨q', i', r', e1, -⟩ := own_wp_ok hdec hseq hby hx hZ hown hK hF X n [] ds vs ls st (fun e he => absurd he (List.not_mem_nil)) rfl hk
        cases e1
      | cons a r' =>
        obtain ⟨q1, i1⟩ := a
        have h' : (Nat.beq q1 (q + own_len i) && own_seq ((q1, i1) :: r')) = true := hs
        obtain ⟨g1, g2⟩ := Bool.and_eq_true_iff.mp h'
        obtain ⟨q', i', r'', e1, e2⟩ := own_wp_ok hdec hseq hby hx hZ hown hK hF X n ((q1, i1) :: r') ds vs ls st (fun e he => hsub e (List.mem_cons_of_mem _ he)) g2 hk
        cases e1
        rw [← Nat.eq_of_beq_eq_true g1]
        exact e2
    · obtain ⟨q', i', r'', e1, e2⟩ := own_wp_ok hdec hseq hby hx hZ hown hK hF X n (own_from full t) ds vs ls st (own_from_sub.1) (own_from_sub.2.1 hseq) hk
      rw [← own_from_sub.2.2 _ _ _ e1]
      exact e2
/-- **A BLOCK**: n plain instructions from pc on, in one step -/
theorem own_blk {code : ByteArray} {full : List (Nat × Instr)} (hdec : own_dec code full) (hseq : own_seq full = true) (hby : c.code = code) (hx : p.tables.exec = Jvm.exec) (hZ : Z.Warmed39 s.vm) (hown : s.vm.findClass own = some m.cls) {Kt : List (Nat × Value)} {Ft : List (Nat × String × String × String)} (hK : own_ks own a0 Z Kt) (hF : own_fs own a0 Z Ft)
    (n : Nat) (ds : List Bool) (vs : List Value) (X : Stand p l e R s m args below meth c T locs cells slots) (eT : T.heap = h) {pc : Nat} {ls : List Slot} {st : List Value} (H : own_wp Kt Ft Z h full (own_Aft X h Q) n (own_from full pc) ds vs ls st) : own_Go p.tables e below Q (T.setTop (mkF m pc (Array.mk ls) st)) := by
  obtain ⟨q, i, r, e1, e2⟩ := own_wp_ok hdec hseq hby hx hZ hown hK hF X n (own_from full pc) ds vs ls st (own_from_sub.1) (own_from_sub.2.1 hseq) H
  rw [← own_from_sub.2.2 _ _ _ e1]
  exact e2 T X eT
/-- **A RETURN** of a value -/
theorem own_ret (X : Stand p l e R s m args below meth c T locs cells slots) (hx : p.tables.exec = Jvm.exec) (hlocks : meth.locks = false) (eT : T.heap = h) {C S : Nat} {q : Option Value → Heap → List Loc → Prop} {pc : Nat} {ls : List Slot} {w : Value} {rest : List Value} {t : FieldType} {i : Instr} (hret : meth.sig.returnType = some t) (hn : narrow t w = w)
    (hi : (i = .ireturn ∧ (t = .int ∨ t = .boolean ∨ t = .byte ∨ t = .char ∨ t = .short) ∧ ∃ z, w = .int z) ∨ (i = .lreturn ∧ t = .long ∧ ∃ z, w = .long z) ∨ (i = .dreturn ∧ t = .double ∧ ∃ z, w = .double z) ∨ (i = .freturn ∧ t = .float ∧ ∃ z, w = .float z) ∨ (i = .areturn ∧ t.isReference = true ∧ w.isRef = true))
    (hd : decode c.code pc = .ok (i, 1)) (hC : cells ≤ C) (hS : slots ≤ S) (hq : q (some w) h locs) : own_Go p.tables e below (own_Fin s C S q) (T.setTop (mkF m pc (Array.mk ls) (w :: rest))) := by
  obtain ⟨fs, hr, hrun, hended, hW, hsame⟩ := X.leave (v := some w) (fun h => by rw [hret] at h; cases h) hlocks
  refine ⟨_, _, retOut X hx hret hn hi hd hr, hrun, hended, some w, locs, rfl, ?_, ⟨_, rfl⟩, hW, hsame.mono hC hS⟩
  show q (some w) T.heap locs
  rw [eT]; exact hq
/-- **A RETURN** of nothing -/
theorem own_retV (X : Stand p l e R s m args below meth c T locs cells slots) (hx : p.tables.exec = Jvm.exec) (hlocks : meth.locks = false) (eT : T.heap = h) {C S : Nat} {q : Option Value → Heap → List Loc → Prop} {pc : Nat} {ls : List Slot} (hret : meth.sig.returnType = none)
    (hd : decode c.code pc = .ok (.return_, 1)) (hC : cells ≤ C) (hS : slots ≤ S) (hq : q none h locs) : own_Go p.tables e below (own_Fin s C S q) (T.setTop (mkF m pc (Array.mk ls) [])) := by
  obtain ⟨fs, hr, hrun, hended, hW, hsame⟩ := X.leave (v := none) (fun _ => rfl) hlocks
  refine ⟨_, _, X.returnOut hx hret hd hr, hrun, hended, none, locs, rfl, ?_, ⟨_, rfl⟩, hW, hsame.mono hC hS⟩
  show q none T.heap locs
  rw [eT]; exact hq
end OwnRun
/-! OWN KIT 2: steps that change the heap, and calls, as steps of own_Go -/
section OwnHeap
variable {p : Program} {l : Launch} {e : Env} {R : Room} {s : State} {m : MethodId} {args : Array Value} {below : List Frame} {meth : Method} {c : Code} {T : State} {locs : List Loc} {cells slots : Nat} {Z : State} {a0 : Array Value} {h h' : Heap} {Q : Outcome → State → Prop} {own : String} {pc : Nat} {ls : List Slot} {st : List Value}
/-- an array with just these values -/
def own_A (Z : State) (h : Heap) (a : Addr) (ty : FieldType) (vs : List Value) : Prop := ∃ cl : Cell, Arr Z h a cl ty ∧ cl.slots.toList = vs
theorem own_A.ext {a : Addr} {ty : FieldType} {vs : List Value} (A : own_A Z h a ty vs) (E : Ext h h') : own_A Z h' a ty vs := by
  obtain ⟨cl, A, q⟩ := A
  exact ⟨cl, A.ext E, q⟩
theorem own_A.keep {a : Addr} {ty : FieldType} {vs : List Value} {ws : List Addr} (A : own_A Z h a ty vs) (K : Keep h h' ws) (q : a ∉ ws) : own_A Z h' a ty vs := by
  obtain ⟨cl, A, r⟩ := A
  exact ⟨cl, ⟨K.2.1 a cl A.1 q, A.2⟩, r⟩
theorem own_A.other {a b : Addr} {ty : FieldType} {vs : List Value} {sl : Nat} {v : Value} (A : own_A Z h b ty vs) (W : Wr h h' a sl v) (hne : b ≠ a) : own_A Z h' b ty vs := by
  obtain ⟨cl, A, r⟩ := A
  exact ⟨cl, A.other W hne, r⟩
theorem own_A.same {a : Addr} {ty : FieldType} {vs : List Value} {sl : Nat} {v : Value} (A : own_A Z h a ty vs) (W : Wr h h' a sl v) : own_A Z h' a ty (vs.set sl v) := by
  obtain ⟨cl, A, r⟩ := A
  refine ⟨_, A.same W, ?_⟩
  subst r
  exact Array.toList_setIfInBounds
theorem own_A.lt {a : Addr} {ty : FieldType} {vs : List Value} (A : own_A Z h a ty vs) : a < h.size := by
  obtain ⟨cl, A, -⟩ := A
  exact A.lt
theorem own_A.at {a : Addr} {ty : FieldType} {vs : List Value} {v : Value} (A : own_A Z h a ty vs) (j : Int32) (k : Nat) (h0 : j.toInt = k) (hv : vs[k]? = some v) : own_at Z h a ty j v := by
  obtain ⟨cl, A, r⟩ := A
  have e1 : j.toNatClampNeg = k := by rw [Int32.toNatClampNeg, h0]; rfl
  have e2 : cl.slots[k]? = some v := by rw [← Array.getElem?_toList, r]; exact hv
  refine ⟨cl, A, ?_, by rw [e1]; exact e2⟩
  rintro (q | q)
  · rw [Int32.lt_iff_toInt_lt, h0] at q
    have : (0 : Int32).toInt = 0 := rfl
    omega
  · rw [e1] at q
    exact absurd (Array.getElem?_eq_some_iff.mp e2).1 (by omega)
theorem own_A.ln {a : Addr} {ty : FieldType} {vs : List Value} (A : own_A Z h a ty vs) (N : Int32) (hN : vs.length.toInt32 = N) : own_ln Z h a N := by
  obtain ⟨cl, A, r⟩ := A
  refine ⟨cl, ty, A, ?_⟩
  rw [← hN, ← r, Array.length_toList]
theorem own_A.inb {a : Addr} {ty : FieldType} {vs : List Value} (A : own_A Z h a ty vs) : ∃ cl : Cell, Arr Z h a cl ty ∧ cl.slots.size = vs.length := by
  obtain ⟨cl, A, r⟩ := A
  exact ⟨cl, A, by rw [← r, Array.length_toList]⟩
theorem own_idx {j : Int32} {k n : Nat} (h0 : j.toInt = k) (hk : k < n) : ¬ (j < 0 ∨ n ≤ j.toNatClampNeg) := by
  have e1 : j.toNatClampNeg = k := by rw [Int32.toNatClampNeg, h0]; rfl
  rintro (q | q)
  · rw [Int32.lt_iff_toInt_lt, h0] at q
    have : (0 : Int32).toInt = 0 := rfl
    omega
  · omega
/-- new C -/
theorem own_new (X : Stand p l e R s m args below meth c T locs cells slots) (hx : p.tables.exec = Jvm.exec) (hZ : Z.Warmed39 s.vm) {C : String} {index n : Nat} (hown : s.vm.findClass own = some m.cls) (w : (Cond.classLink own index C).before a0 Z = true) (wi : (Cond.instantiable C n).before a0 Z = true) (wz : (Cond.initialized C).before a0 Z = true) (eT : T.heap = h)
    (hd : decode c.code pc = .ok (.new index, 3)) (hc : cells + 1 ≤ R.cells) (hl : slots + n ≤ R.slots)
    (k : ∀ T' h' (a : Addr), a = h.size → Stand p l e R s m args below meth c T' locs (cells + 1) (slots + n) → T'.heap = h' → Ext h h' → Exa Z h' a C → (∀ {O nm d : String} {ty : FieldType}, Laid Z a0 C O nm d → parseFieldDescriptor d = some ty → Fld Z h' a O nm d (defaultValue ty)) →
      own_Go p.tables e below Q (T'.setTop (mkF m (pc + 3) (Array.mk ls) (.ref a :: st)))) : own_Go p.tables e below Q (T.setTop (mkF m pc (Array.mk ls) st)) := by
  obtain ⟨T', h', X', e', E, A, D, -, st'⟩ := newO X hx hZ hown w wi wz eT (g := mkF m pc (Array.mk ls) st) rfl hd hc hl
  exact own_go st' (k T' h' _ rfl X' e' E A D)
/-- newarray of a plain kind, of a length that is known -/
theorem own_newP (X : Stand p l e R s m args below meth c T locs cells slots) (hx : p.tables.exec = Jvm.exec) (hZ : Z.Warmed39 s.vm) {aty : ArrayType} (w : (Cond.arrayClass (newarray.typeOf aty)).before a0 Z = true) (eT : T.heap = h)
    {n : Int32} (N : Nat) (hN : n.toInt = N) {cap : Nat} (hcap : N ≤ cap) (hb : cap * 8 ≤ 536870912) (hd : decode c.code pc = .ok (.newarray aty, 2)) (hc : cells + 1 ≤ R.cells) (hl : slots + cap ≤ R.slots)
    (k : ∀ T' h' (a : Addr), a = h.size → Stand p l e R s m args below meth c T' locs (cells + 1) (slots + cap) → T'.heap = h' → Ext h h' → own_A Z h' a (newarray.typeOf aty) (List.replicate N (defaultValue (newarray.typeOf aty))) →
      own_Go p.tables e below Q (T'.setTop (mkF m (pc + 2) (Array.mk ls) (.ref a :: st)))) : own_Go p.tables e below Q (T.setTop (mkF m pc (Array.mk ls) (.int n :: st))) := by
  have e1 : n.toNatClampNeg = N := by rw [Int32.toNatClampNeg, hN]; rfl
  have hn : ¬ n < 0 := by
    rw [Int32.lt_iff_toInt_lt, hN]
    have : (0 : Int32).toInt = 0 := rfl
    omega
  obtain ⟨T', h', cA, X', e', E, A, st'⟩ := newP X hx hZ w eT (g := mkF m pc (Array.mk ls) (.int n :: st)) rfl hd rfl hn (cap := cap) (by rw [e1]; exact hcap) hb hc hl
  refine own_go st' (k T' h' _ rfl X' e' E ⟨_, A, ?_⟩)
  show (Array.replicate n.toNatClampNeg _).toList = _
  rw [e1]; exact Array.toList_replicate
/-- dastore -/
theorem own_sD (X : Stand p l e R s m args below meth c T locs cells slots) (hx : p.tables.exec = Jvm.exec) (hZ : Z.Warmed39 s.vm) (eT : T.heap = h) {a : Addr} {vs : List Value} (A : own_A Z h a .double vs) {j : Int32} (kk : Nat) (hj : j.toInt = kk) (hk : kk < vs.length) {x : UInt64} (hd : decode c.code pc = .ok (.dastore, 1))
    (k : ∀ T' h', Stand p l e R s m args below meth c T' (locs ++ [⟨a, kk⟩]) cells slots → T'.heap = h' → Wr h h' a kk (.double x) → own_A Z h' a .double (vs.set kk (.double x)) → own_Go p.tables e below Q (T'.setTop (mkF m (pc + 1) (Array.mk ls) st))) :
    own_Go p.tables e below Q (T.setTop (mkF m pc (Array.mk ls) (.double x :: .int j :: .ref a :: st))) := by
  have e1 : j.toNatClampNeg = kk := by rw [Int32.toNatClampNeg, hj]; rfl
  have A' := A
  obtain ⟨cl, Ar, hs⟩ := A.inb
  obtain ⟨T', h', X', e', W, st'⟩ := stD X hx hZ eT Ar (j := j) (x := x) (by rw [hs]; exact own_idx hj hk) (g := mkF m pc (Array.mk ls) (.double x :: .int j :: .ref a :: st)) rfl rfl hd
  rw [e1] at X' W
  exact own_go st' (k T' h' X' e' W (A'.same W))
/-- iastore -/
theorem own_sI (X : Stand p l e R s m args below meth c T locs cells slots) (hx : p.tables.exec = Jvm.exec) (hZ : Z.Warmed39 s.vm) (eT : T.heap = h) {a : Addr} {vs : List Value} (A : own_A Z h a .int vs) {j : Int32} (kk : Nat) (hj : j.toInt = kk) (hk : kk < vs.length) {x : Int32} (hd : decode c.code pc = .ok (.iastore, 1))
    (k : ∀ T' h', Stand p l e R s m args below meth c T' (locs ++ [⟨a, kk⟩]) cells slots → T'.heap = h' → Wr h h' a kk (.int x) → own_A Z h' a .int (vs.set kk (.int x)) → own_Go p.tables e below Q (T'.setTop (mkF m (pc + 1) (Array.mk ls) st))) :
    own_Go p.tables e below Q (T.setTop (mkF m pc (Array.mk ls) (.int x :: .int j :: .ref a :: st))) := by
  have e1 : j.toNatClampNeg = kk := by rw [Int32.toNatClampNeg, hj]; rfl
  have A' := A
  obtain ⟨cl, Ar, hs⟩ := A.inb
  obtain ⟨T', h', X', e', W, st'⟩ := stI X hx hZ eT Ar (j := j) (x := x) (by rw [hs]; exact own_idx hj hk) (g := mkF m pc (Array.mk ls) (.int x :: .int j :: .ref a :: st)) rfl rfl hd
  rw [e1] at X' W
  exact own_go st' (k T' h' X' e' W (A'.same W))
/-- putfield -/
theorem own_putF (X : Stand p l e R s m args below meth c T locs cells slots) (hx : p.tables.exec = Jvm.exec) (hZ : Z.Warmed39 s.vm) {O n d C : String} {index kk : Nat} {ty : FieldType} (hown : s.vm.findClass own = some m.cls) (w : (Cond.fieldLink own index O n d).before a0 Z = true)
    (eT : T.heap = h) {a : Addr} {v old : Value} (F : Fld Z h a O n d old) (E : Exa Z h a C) (L : (Cond.lays C O n d).before a0 Z = true ∨ ((Cond.laysFinal C O n d).before a0 Z = true ∧ own = O ∧ meth.name = "<init>")) (wi : (Cond.instantiable C kk).before a0 Z = true)
    (hty : parseFieldDescriptor d = some ty) (hn : narrow ty v = v) (hf : fits ty v = true) (hd : decode c.code pc = .ok (.putfield index, 3))
    (k : ∀ T' h', Stand p l e R s m args below meth c T' (locs ++ [⟨a, Jvm.RoadKit.slotOf Z O n d⟩]) cells slots → T'.heap = h' → Wr h h' a (Jvm.RoadKit.slotOf Z O n d) v → Fld Z h' a O n d v → Exa Z h' a C → own_Go p.tables e below Q (T'.setTop (mkF m (pc + 3) (Array.mk ls) st))) :
    own_Go p.tables e below Q (T.setTop (mkF m pc (Array.mk ls) (v :: .ref a :: st))) := by
  obtain ⟨T', h', X', e', W, st'⟩ := putF X hx hZ hown (host := "") (Or.inl w) Via.refl eT F E L wi hty hn hf (g := mkF m pc (Array.mk ls) (v :: .ref a :: st)) rfl rfl hd
  exact own_go st' (k T' h' X' e' W (F.same W) (E.wr W))
/-- Object.<init> -/
theorem own_initO (X : Stand p l e R s m args below meth c T locs cells slots) (hx : p.tables.exec = Jvm.exec) (hZ : Z.Warmed39 s.vm) {idx : Nat} (hown : s.vm.findClass own = some m.cls) (w1 : (Cond.methodLink own idx Lib.objectInit).before a0 Z = true) (w2 : (Cond.instanceMethod Lib.objectInit).before a0 Z = true)
    (w3 : (Cond.code Lib.objectInit ⟨#[0xb1]⟩ 1 none).before a0 Z = true) (eT : T.heap = h) (hsize : ls.length = c.maxLocals) {a : Addr} (hd : decode c.code pc = .ok (.invokespecial idx, 3))
    (hf : 1 ≤ R.frames) (W : Nat) (hW : (st.map fun v => v.category).sum ≤ W) (hl : W + 12 ≤ R.locals)
    (k : ∀ T', Stand p l e R s m args below meth c T' locs cells slots → T'.heap = h → own_Go p.tables e below Q (T'.setTop (mkF m (pc + 3) (Array.mk ls) st))) :
    own_Go p.tables e below Q (T.setTop (mkF m pc (Array.mk ls) (.ref a :: st))) := by
  obtain ⟨T', X', e', st'⟩ := initO X hx hZ hown w1 w2 w3 eT (g := mkF m pc (Array.mk ls) (.ref a :: st)) rfl hsize rfl hd hf (W := W) (by show 2 * 0 + _ ≤ _; omega) hl
  exact own_go st' (k T' X' e')
/-- a static call, by the callee's contract -/
theorem own_callS (X : Stand p l e R s m args below meth c T locs cells slots) (hx : p.tables.exec = Jvm.exec) (hZ : Z.Warmed39 s.vm) (hown : s.vm.findClass own = some m.cls) {index : Nat} {y : MethodName} {bytes : ByteArray} {maxL : Nat} {ret : Option FieldType} {rm : Room}
    (w1 : (Cond.methodLink own index y).before a0 Z = true) (w2 : (Cond.static y).before a0 Z = true) (w3 : (Cond.initialized y.cls).before a0 Z = true) (w4 : (Cond.code y bytes maxL ret).before a0 Z = true) (hy : y.cls ≠ "java/lang/invoke/MethodHandle" ∧ y.cls ≠ "java/lang/invoke/VarHandle")
    (eT : T.heap = h) (argsL : List Value) {ps : List FieldType} {r : Option FieldType} (hpd : parseMethodDescriptor y.desc = some ⟨ps, r⟩) (hlen : argsL.length = ps.length) {q : Option Value → Heap → List Loc → Prop}
    (hM : MetFree l y (head1 [Cond.code y bytes maxL ret] rm) (fun a U => a = argsL.toArray ∧ Z.Warmed39 U.vm ∧ U.heap = h) (fun _ _ _ _ _ => True) (fun _ U o U' => own_Fin U rm.cells rm.slots q o U'))
    (hsize : ls.length = c.maxLocals) (W : Nat) {full : List Value} (hst : full = argsL.reverse ++ st) (hW : (st.map fun v => v.category).sum ≤ W) (hd : decode c.code pc = .ok (.invokestatic index, 3)) (hf : rm.frames + 1 ≤ R.frames) (hl : W + (maxL + 11) + rm.locals ≤ R.locals) (hcc : cells + rm.cells ≤ R.cells) (hss : slots + rm.slots ≤ R.slots)
    (k : ∀ T' v L, Stand p l e R s m args below meth c T' (locs ++ L) (cells + rm.cells) (slots + rm.slots) → q v T'.heap L → own_Go p.tables e below Q (T'.setTop (mkF m (pc + 3) (Array.mk ls) (v.toList ++ st)))) :
    own_Go p.tables e below Q (T.setTop (mkF m pc (Array.mk ls) full)) := by
  subst hst
  obtain ⟨v, vm1, ⟨T', L', k', n'⟩, -, X', ⟨Lc, hq, l1, y1, z1⟩, st'⟩ := Jvm.LawKit.callS X hx hown (mvT hZ w1) (mvT hZ w2) (mvT hZ w3) (mvT hZ w4) hy (backOf (W := W) (Q := q) hM hZ w4 w3 hf hl) (g := mkF m pc (Array.mk ls) (argsL.reverse ++ st)) rfl hsize (argsL := argsL) (rest := st) (lenOf hpd hlen) rfl (by show 2 * 0 + _ ≤ _; omega) hd (fun _ _ => ⟨rfl, eT, hcc, hss⟩)
  dsimp only [Pt.U, Pt.locs, Pt.cells, Pt.slots] at X' l1 y1 z1 st' hq
  subst l1 y1 z1
  exact own_go st' (k T' v Lc X' hq)
/-- a static call that leaves all as it was -/
theorem own_callSP (X : Stand p l e R s m args below meth c T locs cells slots) (hx : p.tables.exec = Jvm.exec) (hZ : Z.Warmed39 s.vm) (hown : s.vm.findClass own = some m.cls) {index : Nat} {y : MethodName} {bytes : ByteArray} {maxL : Nat} {ret : Option FieldType} {fr lo : Nat}
    (w1 : (Cond.methodLink own index y).before a0 Z = true) (w2 : (Cond.static y).before a0 Z = true) (w3 : (Cond.initialized y.cls).before a0 Z = true) (w4 : (Cond.code y bytes maxL ret).before a0 Z = true) (hy : y.cls ≠ "java/lang/invoke/MethodHandle" ∧ y.cls ≠ "java/lang/invoke/VarHandle")
    (eT : T.heap = h) (argsL : List Value) {ps : List FieldType} {r : Option FieldType} (hpd : parseMethodDescriptor y.desc = some ⟨ps, r⟩) (hlen : argsL.length = ps.length) {q : Option Value → Prop}
    (hM : MetFree l y (head1 [Cond.code y bytes maxL ret] { frames := fr, cells := 0, slots := 0, locals := lo }) (fun a U => a = argsL.toArray ∧ Z.Warmed39 U.vm ∧ U.heap = h) (fun _ _ _ _ _ => True) (fun _ U o U' => own_Fin U 0 0 (fun v h' L => q v ∧ L = [] ∧ h' = h) o U'))
    (hsize : ls.length = c.maxLocals) (W : Nat) {full : List Value} (hst : full = argsL.reverse ++ st) (hW : (st.map fun v => v.category).sum ≤ W) (hd : decode c.code pc = .ok (.invokestatic index, 3)) (hf : fr + 1 ≤ R.frames) (hl : W + (maxL + 11) + lo ≤ R.locals)
    (hcc : cells ≤ R.cells) (hss : slots ≤ R.slots)
    (k : ∀ T' v, Stand p l e R s m args below meth c T' locs cells slots → T'.heap = h → q v → own_Go p.tables e below Q (T'.setTop (mkF m (pc + 3) (Array.mk ls) (v.toList ++ st)))) :
    own_Go p.tables e below Q (T.setTop (mkF m pc (Array.mk ls) full)) := by
  refine own_callS X hx hZ hown w1 w2 w3 w4 hy eT argsL hpd hlen (rm := { frames := fr, cells := 0, slots := 0, locals := lo }) hM hsize W hst hW hd hf hl hcc hss (fun T' v L X' hq => ?_)
  obtain ⟨h1, rfl, h3⟩ := hq
  rw [List.append_nil] at X'
  exact k T' v X' h3 h1
/-- an instance call that leaves all as it was -/
theorem own_callVP (X : Stand p l e R s m args below meth c T locs cells slots) (hx : p.tables.exec = Jvm.exec) (hZ : Z.Warmed39 s.vm) (hown : s.vm.findClass own = some m.cls) {index : Nat} {C : String} {y : MethodName} {bytes : ByteArray} {maxL : Nat} {ret : Option FieldType} {fr lo : Nat}
    (w1 : (Cond.methodLink own index y).before a0 Z = true) (w2 : (Cond.declares y).before a0 Z = true) (w5 : (Cond.selects C y y).before a0 Z = true) (w6 : (Cond.instanceMethod y).before a0 Z = true) (w3 : (Cond.initialized y.cls).before a0 Z = true) (w4 : (Cond.code y bytes maxL ret).before a0 Z = true) (hy : y.cls ≠ "java/lang/invoke/MethodHandle" ∧ y.cls ≠ "java/lang/invoke/VarHandle")
    (eT : T.heap = h) {a : Addr} (E : Exa Z h a C) (argsL : List Value) {ps : List FieldType} {r : Option FieldType} (hpd : parseMethodDescriptor y.desc = some ⟨ps, r⟩) (hlen : argsL.length = ps.length) {q : Option Value → Prop}
    (hM : MetFree l y (head1 [Cond.code y bytes maxL ret] { frames := fr, cells := 0, slots := 0, locals := lo }) (fun b U => b = (.ref a :: argsL).toArray ∧ Z.Warmed39 U.vm ∧ U.heap = h) (fun _ _ _ _ _ => True) (fun _ U o U' => own_Fin U 0 0 (fun v h' L => q v ∧ L = [] ∧ h' = h) o U'))
    (hsize : ls.length = c.maxLocals) (W : Nat) {full : List Value} (hst : full = argsL.reverse ++ .ref a :: st) (hW : (st.map fun v => v.category).sum ≤ W) (hd : decode c.code pc = .ok (.invokevirtual index, 3)) (hf : fr + 1 ≤ R.frames) (hl : W + (maxL + 11) + lo ≤ R.locals)
    (hcc : cells ≤ R.cells) (hss : slots ≤ R.slots)
    (k : ∀ T' v, Stand p l e R s m args below meth c T' locs cells slots → T'.heap = h → q v → own_Go p.tables e below Q (T'.setTop (mkF m (pc + 3) (Array.mk ls) (v.toList ++ st)))) :
    own_Go p.tables e below Q (T.setTop (mkF m pc (Array.mk ls) full)) := by
  obtain ⟨cB, kB, i1, i2, i3⟩ := isOf (T := T) hZ eT E
  subst hst
  obtain ⟨v, vm1, ⟨T', L', k', n'⟩, -, X', ⟨Lc, hq, l1, y1, z1⟩, st'⟩ := X.virtualBack hx (y := y) (z := y) hown (mvT hZ w1) (mvT hZ w2) (notFace_of_selects (args := #[]) (mvT hZ w5)) (mvT hZ w5) (mvT hZ w6) hy (backOf (W := W) (Q := fun v h' L => q v ∧ L = [] ∧ h' = h) hM hZ w4 w3 hf hl) i1 i3 (g := mkF m pc (Array.mk ls) (argsL.reverse ++ .ref a :: st)) rfl hsize (Steps.refl _) (argsL := argsL) (rest := st) (lenOf hpd hlen) rfl (by show 2 * 0 + _ ≤ _; omega) hd (fun _ _ => ⟨rfl, eT, hcc, hss⟩)
  dsimp only [Pt.U, Pt.locs, Pt.cells, Pt.slots] at X' l1 y1 z1 st' hq
  subst l1 y1 z1
  obtain ⟨h1, rfl, h3⟩ := hq
  rw [List.append_nil] at X'
  exact own_go (fun t k => st'.trans k) (k T' v X' h3 h1)
/-- a constructor, by its contract -/
theorem own_callI (X : Stand p l e R s m args below meth c T locs cells slots) (hx : p.tables.exec = Jvm.exec) (hZ : Z.Warmed39 s.vm) (hown : s.vm.findClass own = some m.cls) {index : Nat} {y : MethodName} (hy1 : y.name = "<init>") {bytes : ByteArray} {maxL : Nat} {rm : Room}
    (w1 : (Cond.methodLink own index y).before a0 Z = true) (w2 : (Cond.instanceMethod y).before a0 Z = true) (w3 : (Cond.initialized y.cls).before a0 Z = true) (w4 : (Cond.code y bytes maxL none).before a0 Z = true) (hy : y.cls ≠ "java/lang/invoke/MethodHandle" ∧ y.cls ≠ "java/lang/invoke/VarHandle")
    (eT : T.heap = h) (a : Addr) (argsL : List Value) {ps : List FieldType} {r : Option FieldType} (hpd : parseMethodDescriptor y.desc = some ⟨ps, r⟩) (hlen : argsL.length = ps.length) {q : Option Value → Heap → List Loc → Prop}
    (hM : MetFree l y (head1 [Cond.code y bytes maxL none] rm) (fun b U => b = (.ref a :: argsL).toArray ∧ Z.Warmed39 U.vm ∧ U.heap = h) (fun _ _ _ _ _ => True) (fun _ U o U' => own_Fin U rm.cells rm.slots q o U'))
    (hsize : ls.length = c.maxLocals) (W : Nat) {full : List Value} (hst : full = argsL.reverse ++ .ref a :: st) (hW : (st.map fun v => v.category).sum ≤ W) (hd : decode c.code pc = .ok (.invokespecial index, 3)) (hf : rm.frames + 1 ≤ R.frames) (hl : W + (maxL + 11) + rm.locals ≤ R.locals) (hcc : cells + rm.cells ≤ R.cells) (hss : slots + rm.slots ≤ R.slots)
    (k : ∀ T' v L, Stand p l e R s m args below meth c T' (locs ++ L) (cells + rm.cells) (slots + rm.slots) → q v T'.heap L → own_Go p.tables e below Q (T'.setTop (mkF m (pc + 3) (Array.mk ls) (v.toList ++ st)))) :
    own_Go p.tables e below Q (T.setTop (mkF m pc (Array.mk ls) full)) := by
  subst hst
  obtain ⟨v, vm1, ⟨T', L', k', n'⟩, -, X', ⟨Lc, hq, l1, y1, z1⟩, st'⟩ := X.specialBack hx hy1 hown (mvT hZ w1) (mvT hZ w2) (mvT hZ w4) hy (backOf (W := W) (Q := q) hM hZ w4 w3 hf hl) (g := mkF m pc (Array.mk ls) (argsL.reverse ++ .ref a :: st)) rfl hsize (Steps.refl _) (a := a) (argsL := argsL) (rest := st) (lenOf hpd hlen) rfl (by show 2 * 0 + _ ≤ _; omega) hd (fun _ _ => ⟨rfl, eT, hcc, hss⟩)
  dsimp only [Pt.U, Pt.locs, Pt.cells, Pt.slots] at X' l1 y1 z1 st' hq
  subst l1 y1 z1
  exact own_go (fun t k => st'.trans k) (k T' v Lc X' hq)
/-- an instance method, by its contract -/
theorem own_callV (X : Stand p l e R s m args below meth c T locs cells slots) (hx : p.tables.exec = Jvm.exec) (hZ : Z.Warmed39 s.vm) (hown : s.vm.findClass own = some m.cls) {index : Nat} {C : String} {y : MethodName} {bytes : ByteArray} {maxL : Nat} {ret : Option FieldType} {rm : Room}
    (w1 : (Cond.methodLink own index y).before a0 Z = true) (w2 : (Cond.declares y).before a0 Z = true) (w5 : (Cond.selects C y y).before a0 Z = true) (w6 : (Cond.instanceMethod y).before a0 Z = true) (w3 : (Cond.initialized y.cls).before a0 Z = true) (w4 : (Cond.code y bytes maxL ret).before a0 Z = true) (hy : y.cls ≠ "java/lang/invoke/MethodHandle" ∧ y.cls ≠ "java/lang/invoke/VarHandle")
    (eT : T.heap = h) {a : Addr} (E : Exa Z h a C) (argsL : List Value) {ps : List FieldType} {r : Option FieldType} (hpd : parseMethodDescriptor y.desc = some ⟨ps, r⟩) (hlen : argsL.length = ps.length) {q : Option Value → Heap → List Loc → Prop}
    (hM : MetFree l y (head1 [Cond.code y bytes maxL ret] rm) (fun b U => b = (.ref a :: argsL).toArray ∧ Z.Warmed39 U.vm ∧ U.heap = h) (fun _ _ _ _ _ => True) (fun _ U o U' => own_Fin U rm.cells rm.slots q o U'))
    (hsize : ls.length = c.maxLocals) (W : Nat) {full : List Value} (hst : full = argsL.reverse ++ .ref a :: st) (hW : (st.map fun v => v.category).sum ≤ W) (hd : decode c.code pc = .ok (.invokevirtual index, 3)) (hf : rm.frames + 1 ≤ R.frames) (hl : W + (maxL + 11) + rm.locals ≤ R.locals) (hcc : cells + rm.cells ≤ R.cells) (hss : slots + rm.slots ≤ R.slots)
    (k : ∀ T' v L, Stand p l e R s m args below meth c T' (locs ++ L) (cells + rm.cells) (slots + rm.slots) → q v T'.heap L → own_Go p.tables e below Q (T'.setTop (mkF m (pc + 3) (Array.mk ls) (v.toList ++ st)))) :
    own_Go p.tables e below Q (T.setTop (mkF m pc (Array.mk ls) full)) := by
  subst hst
  obtain ⟨cB, kB, i1, i2, i3⟩ := isOf (T := T) hZ eT E
  obtain ⟨v, vm1, ⟨T', L', k', n'⟩, -, X', ⟨Lc, hq, l1, y1, z1⟩, st'⟩ := X.virtualBack hx (y := y) (z := y) hown (mvT hZ w1) (mvT hZ w2) (notFace_of_selects (args := #[]) (mvT hZ w5)) (mvT hZ w5) (mvT hZ w6) hy (backOf (W := W) (Q := q) hM hZ w4 w3 hf hl) i1 i3 (g := mkF m pc (Array.mk ls) (argsL.reverse ++ .ref a :: st)) rfl hsize (Steps.refl _) (argsL := argsL) (rest := st) (lenOf hpd hlen) rfl (by show 2 * 0 + _ ≤ _; omega) hd (fun _ _ => ⟨rfl, eT, hcc, hss⟩)
  dsimp only [Pt.U, Pt.locs, Pt.cells, Pt.slots] at X' l1 y1 z1 st' hq
  subst l1 y1 z1
  exact own_go (fun t k => st'.trans k) (k T' v Lc X' hq)
end OwnHeap
theorem own_ne {a b : Addr} (h : @LT.lt Nat _ a b ∨ @LT.lt Nat _ b a) : a ≠ b := fun q => by
  subst q
  rcases h with h | h <;> exact absurd h (Nat.lt_irrefl _)
def own_out (x : Nat) : List Nat → Prop
  | [] => True
  | y :: r => x ≠ y ∧ own_out x r
theorem own_nin {x : Addr} : ∀ {L : List Addr}, own_out x L → x ∉ L
  | [], _ => fun q => nomatch q
  | _ :: _, h => fun q => (List.mem_cons.mp q).elim h.1 (own_nin h.2)
/-- a body's contract -/
abbrev own_MF (l : Launch) (y : MethodName) (bytes : ByteArray) (maxL : Nat) (ret : Option FieldType) (ws : List Jvm.Cond) (rm : Room) (as' : Array Value) (Z : State) (h0 : Heap) (q : Option Value → Heap → List Loc → Prop) : Prop :=
  MetFree l y (head1 (Jvm.Cond.code y bytes maxL ret :: ws) rm) (fun a U => a = as' ∧ Z.Warmed39 U.vm ∧ U.heap = h0) (fun _ _ _ _ _ => True) (fun _ U o U' => own_Fin U rm.cells rm.slots q o U')
/-- another field of the object that is written -/
theorem own_so {Z : State} {a0 : Array Value} {h h' : Heap} {a : Addr} {C O n d O' n' d' : String} {v w : Value} (W : Wr h h' a (Jvm.RoadKit.slotOf Z O' n' d') v) (F : Fld Z h a O n d w) (L : Laid Z a0 C O n d) (L' : Laid Z a0 C O' n' d') (hn : n ≠ n' := by decide) (h1 : (parseFieldDescriptor d).isSome = true := by decide) (h2 : (parseFieldDescriptor d').isSome = true := by decide) : Fld Z h' a O n d w := by
  obtain ⟨t, ht⟩ := Option.isSome_iff_exists.mp h1
  obtain ⟨t', ht'⟩ := Option.isSome_iff_exists.mp h2
  exact Fld.other W F (Or.inr (slot_ne L L' hn ht ht'))
/-- a body's contract, entered: the walk begins at pc 0 -/
theorem own_body {l : Launch} {x : MethodName} {bytes : ByteArray} {maxL : Nat} {ret : Option FieldType} {ws : List Jvm.Cond} {rm : Room} {C S : Nat} {Z : State} {as' : Array Value} {h0 : Heap} {q : Option Value → Heap → List Loc → Prop} (hx : plainFor x = true)
    {ls0 : List Slot} (hent : ∀ m : MethodId, entryFrame m as' maxL = mkF m 0 (Array.mk ls0) [])
    (body : ∀ (p : Program) (e : Env) (s : State) (m : MethodId) (below : List Frame) (meth : Method) (c : Code) (T : State), p.tables.exec = Jvm.exec → c.code = bytes → c.maxLocals = maxL → s.vm.findClass x.cls = some m.cls → meth.name = x.name → meth.locks = false → meth.sig.returnType = ret → Z.Warmed39 s.vm → Stand p l e rm s m as' below meth c T [] 0 0 → T.heap = h0 →
      own_Go p.tables e below (own_Fin s C S q) (T.setTop (mkF m 0 (Array.mk ls0) []))) :
    MetFree l x (head1 (Jvm.Cond.code x bytes maxL ret :: ws) rm) (fun a U => a = as' ∧ Z.Warmed39 U.vm ∧ U.heap = h0) (fun _ _ _ _ _ => True) (fun _ U o U' => own_Fin U C S q o U') := by
  refine MetFree.of_bodySF hx hisR ?_
  intro p e s m args below meth c s₁ Bd hml0 hP hK
  obtain ⟨rfl, hZ, hh⟩ := hP
  have e0 : s₁.heap = h0 := by rw [← hh, Bd.state]; rfl
  rw [hent m]
  exact body p e s m below meth c s₁ Bd.exec Bd.bytes hml0 (findClass_of_methodNamed Bd.named) (name_of_methodNamed Bd.named Bd.method).1 Bd.notSynchronized Bd.returns hZ (Stand.of_body Bd) e0
/-! OWN KIT 4: ints and longs by their whole numbers -/
theorem own_and32 (x m : Int32) (h : 0 ≤ m.toInt) : 0 ≤ (x &&& m).toInt ∧ (x &&& m).toInt ≤ m.toInt := by
  have e : (x &&& m).toBitVec.toNat = x.toBitVec.toNat &&& m.toBitVec.toNat := by
    show (x.toBitVec &&& m.toBitVec).toNat = _
    rw [BitVec.toNat_and]
  have h1 : x.toBitVec.toNat &&& m.toBitVec.toNat ≤ m.toBitVec.toNat := Nat.and_le_right
  have h2 := m.toBitVec.isLt
  have h3 : 0 ≤ m.toBitVec.toInt := h
  show 0 ≤ (x &&& m).toBitVec.toInt ∧ (x &&& m).toBitVec.toInt ≤ m.toBitVec.toInt
  rw [BitVec.toInt_eq_toNat_cond] at h3 ⊢
  rw [BitVec.toInt_eq_toNat_cond, e]
  split at h3
  · rw [if_pos (by omega), if_pos (by omega)]; omega
  · omega
theorem own_and64 (x m : Int64) (h : 0 ≤ m.toInt) : 0 ≤ (x &&& m).toInt ∧ (x &&& m).toInt ≤ m.toInt := by
  have e : (x &&& m).toBitVec.toNat = x.toBitVec.toNat &&& m.toBitVec.toNat := by
    show (x.toBitVec &&& m.toBitVec).toNat = _
    rw [BitVec.toNat_and]
  have h1 : x.toBitVec.toNat &&& m.toBitVec.toNat ≤ m.toBitVec.toNat := Nat.and_le_right
  have h2 := m.toBitVec.isLt
  have h3 : 0 ≤ m.toBitVec.toInt := h
  show 0 ≤ (x &&& m).toBitVec.toInt ∧ (x &&& m).toBitVec.toInt ≤ m.toBitVec.toInt
  rw [BitVec.toInt_eq_toNat_cond] at h3 ⊢
  rw [BitVec.toInt_eq_toNat_cond, e]
  split at h3
  · rw [if_pos (by omega), if_pos (by omega)]; omega
  · omega
theorem own_rng32 (x : Int32) : -2147483648 ≤ x.toInt ∧ x.toInt < 2147483648 := ⟨Int32.le_toInt x, Int32.toInt_lt x⟩
theorem own_rng64 (x : Int64) : -9223372036854775808 ≤ x.toInt ∧ x.toInt < 9223372036854775808 := ⟨Int64.le_toInt x, Int64.toInt_lt x⟩
theorem own_i2l (x : Int32) : x.toInt64.toInt = x.toInt := Int32.toInt_toInt64 x
theorem own_add64 {a b : Int64} (h : -9223372036854775808 ≤ a.toInt + b.toInt) (h' : a.toInt + b.toInt < 9223372036854775808) : (a + b).toInt = a.toInt + b.toInt := FP.Core.int64_add h h'
theorem own_sub64 {a b : Int64} (h : -9223372036854775808 ≤ a.toInt - b.toInt) (h' : a.toInt - b.toInt < 9223372036854775808) : (a - b).toInt = a.toInt - b.toInt := FP.Core.int64_sub h h'
theorem own_mul64 {a b : Int64} (h : -9223372036854775808 ≤ a.toInt * b.toInt) (h' : a.toInt * b.toInt < 9223372036854775808) : (a * b).toInt = a.toInt * b.toInt := FP.Core.int64_mul h h'
theorem own_add32 {a b : Int32} (h : -2147483648 ≤ a.toInt + b.toInt) (h' : a.toInt + b.toInt < 2147483648) : (a + b).toInt = a.toInt + b.toInt := by
  rw [Int32.toInt_add, Int.bmod_eq_of_le (by omega) (by omega)]
theorem own_sub32 {a b : Int32} (h : -2147483648 ≤ a.toInt - b.toInt) (h' : a.toInt - b.toInt < 2147483648) : (a - b).toInt = a.toInt - b.toInt := by
  rw [Int32.toInt_sub, Int.bmod_eq_of_le (by omega) (by omega)]
theorem own_mul32 {a b : Int32} (h : -2147483648 ≤ a.toInt * b.toInt) (h' : a.toInt * b.toInt < 2147483648) : (a * b).toInt = a.toInt * b.toInt := by
  rw [Int32.toInt_mul, Int.bmod_eq_of_le (by omega) (by omega)]
theorem own_rem32 (a b : Int32) : (a % b).toInt = a.toInt.tmod b.toInt := Int32.toInt_mod a b
theorem own_rem_pos {a b : Int32} (ha : 0 ≤ a.toInt) (hb : 0 < b.toInt) : 0 ≤ (a % b).toInt ∧ (a % b).toInt < b.toInt := by
  rw [own_rem32, Int.tmod_eq_emod_of_nonneg ha]
  exact ⟨Int.emod_nonneg _ (by omega), Int.emod_lt_of_pos _ hb⟩
/-- what a comparison of doubles pushes -/
theorem own_cv_lt {a b : UInt64} (h : FP.dcmp a b = some .lt) (o : CmpOp) : (cmpValue (FP.dcmp a b) o).toInt = -1 := by rw [h]; rfl
theorem own_cv_eq {a b : UInt64} (h : FP.dcmp a b = some .eq) (o : CmpOp) : (cmpValue (FP.dcmp a b) o).toInt = 0 := by rw [h]; rfl
theorem own_cv_gt {a b : UInt64} (h : FP.dcmp a b = some .gt) (o : CmpOp) : (cmpValue (FP.dcmp a b) o).toInt = 1 := by rw [h]; rfl
/-! OWN KIT 5 (behind Kit2): bytes, booleans, chars, statics; a constructor by a Back -/
section OwnMore
variable {p : Program} {l : Launch} {e : Env} {R : Room} {s : State} {m : MethodId} {args : Array Value} {below : List Frame} {meth : Method} {c : Code} {T : State} {locs : List Loc} {cells slots : Nat} {Z : State} {a0 : Array Value} {h h' : Heap} {Q : Outcome → State → Prop} {own : String} {pc : Nat} {ls : List Slot} {st : List Value}
/-- baload of a byte[] -/
theorem own_bB (X : Stand p l e R s m args below meth c T locs cells slots) (hx : p.tables.exec = Jvm.exec) (hZ : Z.Warmed39 s.vm) (eT : T.heap = h) {a : Addr} {j : Int32} {v : Value} (A : own_at Z h a .byte j v) (hd : decode c.code pc = .ok (.baload, 1))
    (k : own_Go p.tables e below Q (T.setTop (mkF m (pc + 1) (Array.mk ls) (v :: st)))) : own_Go p.tables e below Q (T.setTop (mkF m pc (Array.mk ls) (.int j :: .ref a :: st))) := by
  obtain ⟨cl, A, hin, hv⟩ := A
  exact own_go (X.baloadBytes hx (by rw [eT]; exact A.1) (State.isArrayOf_alike hZ.alike A.2.1) A.2.2 hin hv (g := mkF m pc (Array.mk ls) (.int j :: .ref a :: st)) rfl rfl hd) k
/-- baload of a boolean[] -/
theorem own_bZ (X : Stand p l e R s m args below meth c T locs cells slots) (hx : p.tables.exec = Jvm.exec) (hZ : Z.Warmed39 s.vm) (eT : T.heap = h) {a : Addr} {j : Int32} {v : Value} (A : own_at Z h a .boolean j v) (hd : decode c.code pc = .ok (.baload, 1))
    (k : own_Go p.tables e below Q (T.setTop (mkF m (pc + 1) (Array.mk ls) (v :: st)))) : own_Go p.tables e below Q (T.setTop (mkF m pc (Array.mk ls) (.int j :: .ref a :: st))) := by
  obtain ⟨cl, A, hin, hv⟩ := A
  exact own_go (X.baloadBooleans hx (by rw [eT]; exact A.1) (State.isArrayOf_alike hZ.alike A.2.1) A.2.2 hin hv (g := mkF m pc (Array.mk ls) (.int j :: .ref a :: st)) rfl rfl hd) k
/-- castore -/
theorem own_sC (X : Stand p l e R s m args below meth c T locs cells slots) (hx : p.tables.exec = Jvm.exec) (hZ : Z.Warmed39 s.vm) (eT : T.heap = h) {a : Addr} {vs : List Value} (A : own_A Z h a .char vs) {j : Int32} (kk : Nat) (hj : j.toInt = kk) (hk : kk < vs.length) {x : Int32} (hn : nar .char x = x) (hd : decode c.code pc = .ok (.castore, 1))
    (k : ∀ T' h', Stand p l e R s m args below meth c T' (locs ++ [⟨a, kk⟩]) cells slots → T'.heap = h' → Wr h h' a kk (.int x) → own_A Z h' a .char (vs.set kk (.int x)) → own_Go p.tables e below Q (T'.setTop (mkF m (pc + 1) (Array.mk ls) st))) :
    own_Go p.tables e below Q (T.setTop (mkF m pc (Array.mk ls) (.int x :: .int j :: .ref a :: st))) := by
  have e1 : j.toNatClampNeg = kk := by rw [Int32.toNatClampNeg, hj]; rfl
  have A' := A
  obtain ⟨cl, Ar, hs⟩ := A.inb
  obtain ⟨T', h', X', e', W, st'⟩ := stC X hx hZ eT Ar (j := j) (x := x) (by rw [hs]; exact own_idx hj hk) (g := mkF m pc (Array.mk ls) (.int x :: .int j :: .ref a :: st)) rfl rfl hd
  rw [e1] at X' W
  rw [hn] at W
  exact own_go st' (k T' h' X' e' W (A'.same W))
/-- bastore of a boolean[] -/
theorem own_sZ (X : Stand p l e R s m args below meth c T locs cells slots) (hx : p.tables.exec = Jvm.exec) (hZ : Z.Warmed39 s.vm) (eT : T.heap = h) {a : Addr} {vs : List Value} (A : own_A Z h a .boolean vs) {j : Int32} (kk : Nat) (hj : j.toInt = kk) (hk : kk < vs.length) {x : Int32} (hn : nar .boolean x = x) (hd : decode c.code pc = .ok (.bastore, 1))
    (k : ∀ T' h', Stand p l e R s m args below meth c T' (locs ++ [⟨a, kk⟩]) cells slots → T'.heap = h' → Wr h h' a kk (.int x) → own_A Z h' a .boolean (vs.set kk (.int x)) → own_Go p.tables e below Q (T'.setTop (mkF m (pc + 1) (Array.mk ls) st))) :
    own_Go p.tables e below Q (T.setTop (mkF m pc (Array.mk ls) (.int x :: .int j :: .ref a :: st))) := by
  have e1 : j.toNatClampNeg = kk := by rw [Int32.toNatClampNeg, hj]; rfl
  have A' := A
  obtain ⟨cl, Ar, hs⟩ := A.inb
  obtain ⟨T', h', X', e', W, st'⟩ := stZ X hx hZ eT Ar (j := j) (x := x) (by rw [hs]; exact own_idx hj hk) (g := mkF m pc (Array.mk ls) (.int x :: .int j :: .ref a :: st)) rfl rfl hd
  rw [e1] at X' W
  rw [hn] at W
  exact own_go st' (k T' h' X' e' W (A'.same W))
/-- getstatic -/
theorem own_gS (X : Stand p l e R s m args below meth c T locs cells slots) (hx : p.tables.exec = Jvm.exec) (hZ : Z.Warmed39 s.vm) (hown : s.vm.findClass own = some m.cls) {index : Nat} {O n d : String} (w : (Cond.fieldLink own index O n d).before a0 Z = true) (eT : T.heap = h) {v : Value} (F : Sta Z h O n d v) (hd : decode c.code pc = .ok (.getstatic index, 3))
    (k : ∀ T', Stand p l e R s m args below meth c T' locs cells slots → T'.heap = h → own_Go p.tables e below Q (T'.setTop (mkF m (pc + 3) (Array.mk ls) (v :: st)))) : own_Go p.tables e below Q (T.setTop (mkF m pc (Array.mk ls) st)) := by
  obtain ⟨T', X', e', st'⟩ := getS X hx hZ (host := "") hown w Via.refl eT F (g := mkF m pc (Array.mk ls) st) rfl hd
  exact own_go st' (k T' X' e')
/-- a constructor, by a Back -/
theorem own_callIB (X : Stand p l e R s m args below meth c T locs cells slots) (hx : p.tables.exec = Jvm.exec) (hZ : Z.Warmed39 s.vm) (hown : s.vm.findClass own = some m.cls) {index : Nat} {y : MethodName} (hy1 : y.name = "<init>") {bytes : ByteArray} {maxL : Nat}
    (w1 : (Cond.methodLink own index y).before a0 Z = true) (w2 : (Cond.instanceMethod y).before a0 Z = true) (w4 : (Cond.code y bytes maxL none).before a0 Z = true) (hy : y.cls ≠ "java/lang/invoke/MethodHandle" ∧ y.cls ≠ "java/lang/invoke/VarHandle")
    (eT : T.heap = h) (a : Addr) (argsL : List Value) {ps : List FieldType} {r : Option FieldType} (hpd : parseMethodDescriptor y.desc = some ⟨ps, r⟩) (hlen : argsL.length = ps.length) {q : Option Value → Heap → List Loc → Prop} {kc ks : Nat} (W : Nat)
    (hB : Back l R p e below s args y 3 W (fun P b => b = (.ref a :: argsL).toArray ∧ P.U.heap = h ∧ P.cells + kc ≤ R.cells ∧ P.slots + ks ≤ R.slots) (fun P _ v B => ∃ L, q v B.U.heap L ∧ B.locs = P.locs ++ L ∧ B.cells = P.cells + kc ∧ B.slots = P.slots + ks))
    (hsize : ls.length = c.maxLocals) {full : List Value} (hst : full = argsL.reverse ++ .ref a :: st) (hW : (st.map fun v => v.category).sum ≤ W) (hd : decode c.code pc = .ok (.invokespecial index, 3)) (hcc : cells + kc ≤ R.cells) (hss : slots + ks ≤ R.slots)
    (k : ∀ T' v L, Stand p l e R s m args below meth c T' (locs ++ L) (cells + kc) (slots + ks) → q v T'.heap L → own_Go p.tables e below Q (T'.setTop (mkF m (pc + 3) (Array.mk ls) (v.toList ++ st)))) :
    own_Go p.tables e below Q (T.setTop (mkF m pc (Array.mk ls) full)) := by
  subst hst
  obtain ⟨v, vm1, ⟨T', L', k', n'⟩, -, X', ⟨Lc, hq, l1, y1, z1⟩, st'⟩ := X.specialBack hx hy1 hown (mvT hZ w1) (mvT hZ w2) (mvT hZ w4) hy hB (g := mkF m pc (Array.mk ls) (argsL.reverse ++ .ref a :: st)) rfl hsize (Steps.refl _) (a := a) (argsL := argsL) (rest := st) (lenOf hpd hlen) rfl (by show 2 * 0 + _ ≤ _; omega) hd (fun _ _ => ⟨rfl, eT, hcc, hss⟩)
  dsimp only [Pt.U, Pt.locs, Pt.cells, Pt.slots] at X' l1 y1 z1 st' hq
  subst l1 y1 z1
  exact own_go (fun t k => st'.trans k) (k T' v Lc X' hq)
theorem own_getD {vs : List Value} {d : Value} {k : Nat} (hk : k < vs.length) : vs[k]? = some (vs.getD k d) := by
  rw [List.getD_eq_getElem?_getD, List.getElem?_eq_getElem hk]; rfl
/-- an array with just these values, as the library's Arv -/
theorem own_A.arv {a : Addr} {ty : FieldType} {vs : List Value} (A : own_A Z h a ty vs) {N : Int32} (hN : N.toInt = vs.length) (d : Value) (hf : ∀ v ∈ vs, fits ty v = true) : ∃ k, Arv Z h a k ty N vs d := by
  obtain ⟨cl, A, r⟩ := A
  have hs : cl.slots.size = vs.length := by rw [← r, Array.length_toList]
  refine ⟨cl.cls, cl, A, rfl, ?_, ?_, fun i hi => ?_, fun i hi => ?_⟩
  · rw [hs, Int32.toNatClampNeg, hN]; rfl
  · rw [Int32.lt_iff_toInt_lt, hN]
    have : (0 : Int32).toInt = 0 := rfl
    omega
  · rw [← Array.getElem?_toList, r]; exact own_getD (by omega)
  · have q := own_getD (d := d) (show i < vs.length by omega)
    exact hf _ (List.mem_of_getElem? q)
/-- and back -/
theorem own_A.of {a : Addr} {k : ClassId} {ty : FieldType} {N : Int32} {vs : List Value} {d : Value} (A : Arv Z h a k ty N vs d) (hN : N.toInt = vs.length) : own_A Z h a ty vs := by
  obtain ⟨cl, A, -, hs, -, H, -⟩ := A
  have hs' : cl.slots.size = vs.length := by rw [hs, Int32.toNatClampNeg, hN]; rfl
  refine ⟨cl, A, List.ext_getElem? fun i => ?_⟩
  rw [Array.getElem?_toList]
  rcases Nat.lt_or_ge i vs.length with q | q
  · rw [H i (by omega)]; exact (own_getD q).symm
  · rw [List.getElem?_eq_none q, Array.getElem?_eq_none (by omega)]
end OwnMore
theorem own_small {x : Int32} (h0 : 0 ≤ x.toInt) (h1 : x.toInt < 256) : ∃ k : Fin 256, x = Int32.ofNat k.val := by
  have t : ∀ k : Fin 256, (Int32.ofNat k.val).toInt = (k.val : Int) := by decide +kernel
  have hk : x.toInt.toNat < 256 := by omega
  have q := t ⟨x.toInt.toNat, hk⟩
  refine ⟨⟨x.toInt.toNat, hk⟩, Int32.toInt_inj.mp ?_⟩
  rw [q]
  show x.toInt = ((x.toInt.toNat : Nat) : Int)
  omega
theorem own_narC {x : Int32} (h0 : 0 ≤ x.toInt) (h1 : x.toInt < 256) : nar .char x = x := by
  obtain ⟨k, rfl⟩ := own_small h0 h1
  exact (by decide +kernel : ∀ k : Fin 256, nar .char (Int32.ofNat k.val) = Int32.ofNat k.val) k
theorem own_fitC {x : Int32} (h0 : 0 ≤ x.toInt) (h1 : x.toInt < 256) : fits .char (.int x) = true := by
  have := fits_nar_char x
  rwa [own_narC h0 h1] at this
theorem wm (i : Nat) {d : Jvm.Cond} (h : tables_1[i]? = some d) : d ∈ tables_1 := List.mem_of_getElem? h
def tab0 : List (Nat × Instr) := [(0, .iload_n 0), (1, .iconst 3), (2, .iand), (3, .iconst 1), (4, .iadd), (5, .istore 5), (7, .iload_n 1), (8, .invokestatic 7), (11, .istore 6), (13, .iload_n 2), (14, .invokestatic 7), (17, .istore 7), (19, .iload_n 3), (20, .invokestatic 7), (23, .istore 8), (25, .iload 4), (27, .invokestatic 7), (30, .istore 9), (32, .iload 5), (34, .iconst 1), (35, .if_icmp .ne 30), (38, .new 13), (41, .dup), (42, .iconst 1), (43, .newarray .char), (45, .dup), (46, .iconst 0), (47, .iload 6), (49, .castore), (50, .invokespecial 15), (53, .astore 10), (55, .iload 6), (57, .invokestatic 18), (60, .istore 11), (62, .goto 195), (65, .iload 5), (67, .iconst 2), (68, .if_icmp .ne 51), (71, .new 13), (74, .dup), (75, .iconst 2), (76, .newarray .char), (78, .dup), (79, .iconst 0), (80, .iload 6), (82, .castore), (83, .dup), (84, .iconst 1), (85, .iload 7), (87, .castore), (88, .invokespecial 15), (91, .astore 10), (93, .iload 6), (95, .invokestatic 18), (98, .ifCond .eq 15), (101, .iload 7), (103, .invokestatic 18), (106, .ifCond .eq 7), (109, .iconst 1), (110, .goto 4), (113, .iconst 0), (114, .istore 11), (116, .goto 141), (119, .iload 5), (121, .iconst 3), (122, .if_icmp .ne 64), (125, .new 13), (128, .dup), (129, .iconst 3), (130, .newarray .char), (132, .dup), (133, .iconst 0), (134, .iload 6), (136, .castore), (137, .dup), (138, .iconst 1), (139, .iload 7), (141, .castore), (142, .dup), (143, .iconst 2), (144, .iload 8), (146, .castore), (147, .invokespecial 15), (150, .astore 10), (152, .iload 6), (154, .invokestatic 18), (157, .ifCond .eq 23), (160, .iload 7), (162, .invokestatic 18), (165, .ifCond .eq 15), (168, .iload 8), (170, .invokestatic 18), (173, .ifCond .eq 7), (176, .iconst 1), (177, .goto 4), (180, .iconst 0), (181, .istore 11), (183, .goto 74), (186, .new 13), (189, .dup), (190, .iconst 4), (191, .newarray .char), (193, .dup), (194, .iconst 0), (195, .iload 6), (197, .castore), (198, .dup), (199, .iconst 1), (200, .iload 7), (202, .castore), (203, .dup), (204, .iconst 2), (205, .iload 8), (207, .castore), (208, .dup), (209, .iconst 3), (210, .iload 9), (212, .castore), (213, .invokespecial 15), (216, .astore 10), (218, .iload 6), (220, .invokestatic 18), (223, .ifCond .eq 31), (226, .iload 7), (228, .invokestatic 18), (231, .ifCond .eq 23), (234, .iload 8), (236, .invokestatic 18), (239, .ifCond .eq 15), (242, .iload 9), (244, .invokestatic 18), (247, .ifCond .eq 7), (250, .iconst 1), (251, .goto 4), (254, .iconst 0), (255, .istore 11), (257, .aload 10), (259, .invokestatic 22), (262, .iload 11), (264, .if_icmp .ne 7), (267, .iconst 1), (268, .goto 4), (271, .iconst 0), (272, .ireturn)]
set_option maxRecDepth 65536 in
theorem dec0 : own_dec code tab0 := by
  show ∀ e ∈ tab0, decode code e.1 = .ok (e.2, own_len e.2)
  decide +kernel
theorem seq0 : own_seq tab0 = true := by decide +kernel
def kt0 : List (Nat × Value) := []
def ft0 : List (Nat × String × String × String) := []
theorem hKt0 {a0 : Array Value} {Z : State} (hw : ∀ d ∈ tables_1, d.before a0 Z = true) : own_ks "com/example/kartei/kartei/directory/KimCodesIsAppTagCodePinLaw" a0 Z kt0 := trivial
theorem hFt0 {a0 : Array Value} {Z : State} (hw : ∀ d ∈ tables_1, d.before a0 Z = true) : own_fs "com/example/kartei/kartei/directory/KimCodesIsAppTagCodePinLaw" a0 Z ft0 := trivial
theorem pn0 : plainName "com/example/kartei/kartei/directory/KimCodesIsAppTagCodePinLaw" = true := by first | (simp [plainName, overriddenIn]; done) | decide +kernel
theorem pf0 : plainFor x = true := plainFor_of_name pn0
theorem pd0 : parseMethodDescriptor "(IIIII)Z" = some ⟨[.int, .int, .int, .int, .int], some .boolean⟩ := by decide +kernel
def tab1 : List (Nat × Instr) := [(0, .iload_n 0), (1, .bipush 8), (3, .iushr), (4, .iconst 3), (5, .iand), (6, .istore_n 1), (7, .iload_n 1), (8, .iconst 1), (9, .if_icmp .ne 6), (12, .bipush 59), (14, .ireturn), (15, .iload_n 1), (16, .iconst 2), (17, .if_icmp .ne 6), (20, .bipush 124), (22, .ireturn), (23, .iload_n 0), (24, .sipush 255), (27, .iand), (28, .i2c), (29, .ireturn)]
set_option maxRecDepth 65536 in
theorem dec1 : own_dec method_2_code tab1 := by
  show ∀ e ∈ tab1, decode method_2_code e.1 = .ok (e.2, own_len e.2)
  decide +kernel
theorem seq1 : own_seq tab1 = true := by decide +kernel
theorem d1_14 : decode method_2_code 14 = .ok (.ireturn, 1) := by decide +kernel
theorem d1_22 : decode method_2_code 22 = .ok (.ireturn, 1) := by decide +kernel
theorem d1_29 : decode method_2_code 29 = .ok (.ireturn, 1) := by decide +kernel
theorem pn1 : plainName "com/example/kartei/kartei/directory/KimCodesIsAppTagCodePinLaw" = true := by first | (simp [plainName, overriddenIn]; done) | decide +kernel
theorem pf1 : plainFor (⟨"com/example/kartei/kartei/directory/KimCodesIsAppTagCodePinLaw", "ch", "(I)C"⟩ : MethodName) = true := plainFor_of_name pn1
theorem pd1 : parseMethodDescriptor "(I)C" = some ⟨[.int], some .char⟩ := by decide +kernel
def tab8 : List (Nat × Instr) := [(0, .iload_n 0), (1, .bipush 59), (3, .if_icmp .eq 13), (6, .iload_n 0), (7, .bipush 124), (9, .if_icmp .eq 7), (12, .iconst 1), (13, .goto 4), (16, .iconst 0), (17, .ireturn)]
set_option maxRecDepth 65536 in
theorem dec8 : own_dec method_3_code tab8 := by
  show ∀ e ∈ tab8, decode method_3_code e.1 = .ok (e.2, own_len e.2)
  decide +kernel
theorem seq8 : own_seq tab8 = true := by decide +kernel
theorem d8_17 : decode method_3_code 17 = .ok (.ireturn, 1) := by decide +kernel
theorem pn8 : plainName "com/example/kartei/kartei/directory/KimCodesIsAppTagCodePinLaw" = true := by first | (simp [plainName, overriddenIn]; done) | decide +kernel
theorem pf8 : plainFor (⟨"com/example/kartei/kartei/directory/KimCodesIsAppTagCodePinLaw", "ok", "(C)Z"⟩ : MethodName) = true := plainFor_of_name pn8
theorem pd8 : parseMethodDescriptor "(C)Z" = some ⟨[.char], some .boolean⟩ := by decide +kernel
def tab9 : List (Nat × Instr) := [(0, .aload_n 0), (1, .bipush 59), (3, .invokevirtual 27), (6, .ifCond .ge 16), (9, .aload_n 0), (10, .bipush 124), (12, .invokevirtual 27), (15, .ifCond .ge 7), (18, .iconst 1), (19, .goto 4), (22, .iconst 0), (23, .ireturn)]
set_option maxRecDepth 65536 in
theorem dec9 : own_dec prog_11_method_3_code tab9 := by
  show ∀ e ∈ tab9, decode prog_11_method_3_code e.1 = .ok (e.2, own_len e.2)
  decide +kernel
theorem seq9 : own_seq tab9 = true := by decide +kernel
theorem d9_3 : decode prog_11_method_3_code 3 = .ok (.invokevirtual 27, 3) := by decide +kernel
theorem d9_12 : decode prog_11_method_3_code 12 = .ok (.invokevirtual 27, 3) := by decide +kernel
theorem d9_23 : decode prog_11_method_3_code 23 = .ok (.ireturn, 1) := by decide +kernel
def kt9 : List (Nat × Value) := []
def ft9 : List (Nat × String × String × String) := []
theorem hKt9 {a0 : Array Value} {Z : State} (hw : ∀ d ∈ tables_1, d.before a0 Z = true) : own_ks "com/example/kartei/kartei/directory/KimCodes" a0 Z kt9 := trivial
theorem hFt9 {a0 : Array Value} {Z : State} (hw : ∀ d ∈ tables_1, d.before a0 Z = true) : own_fs "com/example/kartei/kartei/directory/KimCodes" a0 Z ft9 := trivial
theorem pn9 : plainName "com/example/kartei/kartei/directory/KimCodes" = true := by first | (simp [plainName, overriddenIn]; done) | decide +kernel
theorem pf9 : plainFor (⟨"com/example/kartei/kartei/directory/KimCodes", "isAppTagCode", "(Ljava/lang/String;)Z"⟩ : MethodName) = true := plainFor_of_name pn9
theorem pd9 : parseMethodDescriptor "(Ljava/lang/String;)Z" = some ⟨[(.object "java/lang/String")], some .boolean⟩ := by decide +kernel
def tab10 : List (Nat × Instr) := [(0, .aload_n 0), (1, .iload_n 1), (2, .iconst 0), (3, .invokevirtual 633), (6, .ireturn)]
set_option maxRecDepth 65536 in
theorem dec10 : own_dec jdk_42_method_79_code tab10 := by
  show ∀ e ∈ tab10, decode jdk_42_method_79_code e.1 = .ok (e.2, own_len e.2)
  decide +kernel
theorem seq10 : own_seq tab10 = true := by decide +kernel
theorem d10_3 : decode jdk_42_method_79_code 3 = .ok (.invokevirtual 633, 3) := by decide +kernel
theorem d10_6 : decode jdk_42_method_79_code 6 = .ok (.ireturn, 1) := by decide +kernel
def kt10 : List (Nat × Value) := []
def ft10 : List (Nat × String × String × String) := [(38, "java/lang/String", "COMPACT_STRINGS", "Z"), (15, "java/lang/String", "coder", "B"), (9, "java/lang/String", "value", "[B")]
theorem hKt10 {a0 : Array Value} {Z : State} (hw : ∀ d ∈ tables_1, d.before a0 Z = true) : own_ks "java/lang/String" a0 Z kt10 := trivial
theorem hFt10 {a0 : Array Value} {Z : State} (hw : ∀ d ∈ tables_1, d.before a0 Z = true) : own_fs "java/lang/String" a0 Z ft10 := ⟨hw _ (wm 18 rfl), hw _ (wm 30 rfl), hw _ (wm 32 rfl), trivial⟩
theorem pn10 : plainName "java/lang/String" = true := by first | (simp [plainName, overriddenIn]; done) | decide +kernel
theorem pf10 : plainFor (⟨"java/lang/String", "indexOf", "(I)I"⟩ : MethodName) = true := plainFor_of_name pn10
theorem pd10 : parseMethodDescriptor "(I)I" = some ⟨[.int], some .int⟩ := by decide +kernel
def tab11 : List (Nat × Instr) := [(0, .aload_n 0), (1, .invokevirtual 492), (4, .ifCond .eq 19), (7, .aload_n 0), (8, .getfield 9), (11, .iload_n 1), (12, .iload_n 2), (13, .aload_n 0), (14, .invokevirtual 505), (17, .invokestatic 637), (20, .goto 16), (23, .aload_n 0), (24, .getfield 9), (27, .iload_n 1), (28, .iload_n 2), (29, .aload_n 0), (30, .invokevirtual 505), (33, .invokestatic 640), (36, .ireturn)]
set_option maxRecDepth 65536 in
theorem dec11 : own_dec jdk_42_method_80_code tab11 := by
  show ∀ e ∈ tab11, decode jdk_42_method_80_code e.1 = .ok (e.2, own_len e.2)
  decide +kernel
theorem seq11 : own_seq tab11 = true := by decide +kernel
theorem d11_1 : decode jdk_42_method_80_code 1 = .ok (.invokevirtual 492, 3) := by decide +kernel
theorem d11_14 : decode jdk_42_method_80_code 14 = .ok (.invokevirtual 505, 3) := by decide +kernel
theorem d11_17 : decode jdk_42_method_80_code 17 = .ok (.invokestatic 637, 3) := by decide +kernel
theorem d11_30 : decode jdk_42_method_80_code 30 = .ok (.invokevirtual 505, 3) := by decide +kernel
theorem d11_33 : decode jdk_42_method_80_code 33 = .ok (.invokestatic 640, 3) := by decide +kernel
theorem d11_36 : decode jdk_42_method_80_code 36 = .ok (.ireturn, 1) := by decide +kernel
theorem pn11 : plainName "java/lang/String" = true := by first | (simp [plainName, overriddenIn]; done) | decide +kernel
theorem pf11 : plainFor (⟨"java/lang/String", "indexOf", "(II)I"⟩ : MethodName) = true := plainFor_of_name pn11
theorem pd11 : parseMethodDescriptor "(II)I" = some ⟨[.int, .int], some .int⟩ := by decide +kernel
def tab12 : List (Nat × Instr) := [(0, .getstatic 38), (3, .ifCond .eq 14), (6, .aload_n 0), (7, .getfield 15), (10, .ifCond .ne 7), (13, .iconst 1), (14, .goto 4), (17, .iconst 0), (18, .ireturn)]
set_option maxRecDepth 65536 in
theorem dec12 : own_dec jdk_42_method_154_code tab12 := by
  show ∀ e ∈ tab12, decode jdk_42_method_154_code e.1 = .ok (e.2, own_len e.2)
  decide +kernel
theorem seq12 : own_seq tab12 = true := by decide +kernel
theorem d12_0 : decode jdk_42_method_154_code 0 = .ok (.getstatic 38, 3) := by decide +kernel
theorem d12_18 : decode jdk_42_method_154_code 18 = .ok (.ireturn, 1) := by decide +kernel
theorem pn12 : plainName "java/lang/String" = true := by first | (simp [plainName, overriddenIn]; done) | decide +kernel
theorem pf12 : plainFor (⟨"java/lang/String", "isLatin1", "()Z"⟩ : MethodName) = true := plainFor_of_name pn12
theorem pd12 : parseMethodDescriptor "()Z" = some ⟨[], some .boolean⟩ := by decide +kernel
def tab13 : List (Nat × Instr) := [(0, .aload_n 0), (1, .getfield 9), (4, .arraylength), (5, .aload_n 0), (6, .invokevirtual 335), (9, .ishr), (10, .ireturn)]
set_option maxRecDepth 65536 in
theorem dec13 : own_dec jdk_42_method_54_code tab13 := by
  show ∀ e ∈ tab13, decode jdk_42_method_54_code e.1 = .ok (e.2, own_len e.2)
  decide +kernel
theorem seq13 : own_seq tab13 = true := by decide +kernel
theorem d13_6 : decode jdk_42_method_54_code 6 = .ok (.invokevirtual 335, 3) := by decide +kernel
theorem d13_10 : decode jdk_42_method_54_code 10 = .ok (.ireturn, 1) := by decide +kernel
theorem pn13 : plainName "java/lang/String" = true := by first | (simp [plainName, overriddenIn]; done) | decide +kernel
theorem pf13 : plainFor (⟨"java/lang/String", "length", "()I"⟩ : MethodName) = true := plainFor_of_name pn13
theorem pd13 : parseMethodDescriptor "()I" = some ⟨[], some .int⟩ := by decide +kernel
def tab14 : List (Nat × Instr) := [(0, .getstatic 38), (3, .ifCond .eq 10), (6, .aload_n 0), (7, .getfield 15), (10, .goto 4), (13, .iconst 1), (14, .ireturn)]
set_option maxRecDepth 65536 in
theorem dec14 : own_dec jdk_42_method_152_code tab14 := by
  show ∀ e ∈ tab14, decode jdk_42_method_152_code e.1 = .ok (e.2, own_len e.2)
  decide +kernel
theorem seq14 : own_seq tab14 = true := by decide +kernel
theorem d14_0 : decode jdk_42_method_152_code 0 = .ok (.getstatic 38, 3) := by decide +kernel
theorem d14_14 : decode jdk_42_method_152_code 14 = .ok (.ireturn, 1) := by decide +kernel
theorem pn14 : plainName "java/lang/String" = true := by first | (simp [plainName, overriddenIn]; done) | decide +kernel
theorem pf14 : plainFor (⟨"java/lang/String", "coder", "()B"⟩ : MethodName) = true := plainFor_of_name pn14
theorem pd14 : parseMethodDescriptor "()B" = some ⟨[], some .byte⟩ := by decide +kernel
def tab15 : List (Nat × Instr) := [(0, .iload_n 1), (1, .invokestatic 88), (4, .ifCond .ne 5), (7, .iconst (-1)), (8, .ireturn), (9, .iload_n 2), (10, .iconst 0), (11, .invokestatic 92), (14, .istore_n 2), (15, .iload_n 3), (16, .aload_n 0), (17, .arraylength), (18, .invokestatic 38), (21, .istore_n 3), (22, .iload_n 2), (23, .iload_n 3), (24, .if_icmp .lt 5), (27, .iconst (-1)), (28, .ireturn), (29, .aload_n 0), (30, .iload_n 1), (31, .iload_n 2), (32, .iload_n 3), (33, .invokestatic 95), (36, .ireturn)]
set_option maxRecDepth 65536 in
theorem dec15 : own_dec jdk_43_method_22_code tab15 := by
  show ∀ e ∈ tab15, decode jdk_43_method_22_code e.1 = .ok (e.2, own_len e.2)
  decide +kernel
theorem seq15 : own_seq tab15 = true := by decide +kernel
theorem d15_1 : decode jdk_43_method_22_code 1 = .ok (.invokestatic 88, 3) := by decide +kernel
theorem d15_8 : decode jdk_43_method_22_code 8 = .ok (.ireturn, 1) := by decide +kernel
theorem d15_11 : decode jdk_43_method_22_code 11 = .ok (.invokestatic 92, 3) := by decide +kernel
theorem d15_18 : decode jdk_43_method_22_code 18 = .ok (.invokestatic 38, 3) := by decide +kernel
theorem d15_28 : decode jdk_43_method_22_code 28 = .ok (.ireturn, 1) := by decide +kernel
theorem d15_33 : decode jdk_43_method_22_code 33 = .ok (.invokestatic 95, 3) := by decide +kernel
theorem d15_36 : decode jdk_43_method_22_code 36 = .ok (.ireturn, 1) := by decide +kernel
def kt15 : List (Nat × Value) := []
def ft15 : List (Nat × String × String × String) := []
theorem hKt15 {a0 : Array Value} {Z : State} (hw : ∀ d ∈ tables_1, d.before a0 Z = true) : own_ks "java/lang/StringLatin1" a0 Z kt15 := trivial
theorem hFt15 {a0 : Array Value} {Z : State} (hw : ∀ d ∈ tables_1, d.before a0 Z = true) : own_fs "java/lang/StringLatin1" a0 Z ft15 := trivial
theorem pn15 : plainName "java/lang/StringLatin1" = true := by first | (simp [plainName, overriddenIn]; done) | decide +kernel
theorem pf15 : plainFor (⟨"java/lang/StringLatin1", "indexOf", "([BIII)I"⟩ : MethodName) = true := plainFor_of_name pn15
theorem pd15 : parseMethodDescriptor "([BIII)I" = some ⟨[(.array .byte), .int, .int, .int], some .int⟩ := by decide +kernel
def tab16 : List (Nat × Instr) := [(0, .iload_n 0), (1, .ifCond .lt 14), (4, .iload_n 0), (5, .sipush 255), (8, .if_icmp .gt 7), (11, .iconst 1), (12, .goto 4), (15, .iconst 0), (16, .ireturn)]
set_option maxRecDepth 65536 in
theorem dec16 : own_dec jdk_43_method_4_code tab16 := by
  show ∀ e ∈ tab16, decode jdk_43_method_4_code e.1 = .ok (e.2, own_len e.2)
  decide +kernel
theorem seq16 : own_seq tab16 = true := by decide +kernel
theorem d16_16 : decode jdk_43_method_4_code 16 = .ok (.ireturn, 1) := by decide +kernel
theorem pn16 : plainName "java/lang/StringLatin1" = true := by first | (simp [plainName, overriddenIn]; done) | decide +kernel
theorem pf16 : plainFor (⟨"java/lang/StringLatin1", "canEncode", "(I)Z"⟩ : MethodName) = true := plainFor_of_name pn16
theorem pd16 : parseMethodDescriptor "(I)Z" = some ⟨[.int], some .boolean⟩ := by decide +kernel
def tab17 : List (Nat × Instr) := [(0, .iload_n 0), (1, .iload_n 1), (2, .if_icmp .lt 7), (5, .iload_n 0), (6, .goto 4), (9, .iload_n 1), (10, .ireturn)]
set_option maxRecDepth 65536 in
theorem dec17 : own_dec jdk_29_method_65_code tab17 := by
  show ∀ e ∈ tab17, decode jdk_29_method_65_code e.1 = .ok (e.2, own_len e.2)
  decide +kernel
theorem seq17 : own_seq tab17 = true := by decide +kernel
theorem d17_10 : decode jdk_29_method_65_code 10 = .ok (.ireturn, 1) := by decide +kernel
def kt17 : List (Nat × Value) := []
def ft17 : List (Nat × String × String × String) := []
theorem hKt17 {a0 : Array Value} {Z : State} (hw : ∀ d ∈ tables_1, d.before a0 Z = true) : own_ks "java/lang/Math" a0 Z kt17 := trivial
theorem hFt17 {a0 : Array Value} {Z : State} (hw : ∀ d ∈ tables_1, d.before a0 Z = true) : own_fs "java/lang/Math" a0 Z ft17 := trivial
theorem pf17 : plainFor (⟨"java/lang/Math", "max", "(II)I"⟩ : MethodName) = true := by decide +kernel
theorem pd17 : parseMethodDescriptor "(II)I" = some ⟨[.int, .int], some .int⟩ := by decide +kernel
def tab18 : List (Nat × Instr) := [(0, .iload_n 0), (1, .iload_n 1), (2, .if_icmp .gt 7), (5, .iload_n 0), (6, .goto 4), (9, .iload_n 1), (10, .ireturn)]
set_option maxRecDepth 65536 in
theorem dec18 : own_dec jdk_29_method_69_code tab18 := by
  show ∀ e ∈ tab18, decode jdk_29_method_69_code e.1 = .ok (e.2, own_len e.2)
  decide +kernel
theorem seq18 : own_seq tab18 = true := by decide +kernel
theorem d18_10 : decode jdk_29_method_69_code 10 = .ok (.ireturn, 1) := by decide +kernel
theorem pf18 : plainFor (⟨"java/lang/Math", "min", "(II)I"⟩ : MethodName) = true := by decide +kernel
theorem pd18 : parseMethodDescriptor "(II)I" = some ⟨[.int, .int], some .int⟩ := by decide +kernel
def tab19 : List (Nat × Instr) := [(0, .iload_n 1), (1, .i2b), (2, .istore 4), (4, .iload_n 2), (5, .istore 5), (7, .iload 5), (9, .iload_n 3), (10, .if_icmp .ge 21), (13, .aload_n 0), (14, .iload 5), (16, .baload), (17, .iload 4), (19, .if_icmp .ne 6), (22, .iload 5), (24, .ireturn), (25, .iinc 5 1), (28, .goto (-21)), (31, .iconst (-1)), (32, .ireturn)]
set_option maxRecDepth 65536 in
theorem dec19 : own_dec jdk_43_method_23_code tab19 := by
  show ∀ e ∈ tab19, decode jdk_43_method_23_code e.1 = .ok (e.2, own_len e.2)
  decide +kernel
theorem seq19 : own_seq tab19 = true := by decide +kernel
theorem d19_16 : decode jdk_43_method_23_code 16 = .ok (.baload, 1) := by decide +kernel
theorem d19_24 : decode jdk_43_method_23_code 24 = .ok (.ireturn, 1) := by decide +kernel
theorem d19_32 : decode jdk_43_method_23_code 32 = .ok (.ireturn, 1) := by decide +kernel
theorem pn19 : plainName "java/lang/StringLatin1" = true := by first | (simp [plainName, overriddenIn]; done) | decide +kernel
theorem pf19 : plainFor (⟨"java/lang/StringLatin1", "indexOfChar", "([BIII)I"⟩ : MethodName) = true := plainFor_of_name pn19
theorem pd19 : parseMethodDescriptor "([BIII)I" = some ⟨[(.array .byte), .int, .int, .int], some .int⟩ := by decide +kernel
theorem pd2 : parseMethodDescriptor "([C)V" = some ⟨[(.array .char)], none⟩ := by decide +kernel
theorem own_byte59 {x : Int32} (h0 : 0 ≤ x.toInt) (h1 : x.toInt < 256) : x.toInt8.toInt32.toInt = 59 ↔ x.toInt = 59 := by
  obtain ⟨k, rfl⟩ := own_small h0 h1
  exact (by decide +kernel : ∀ k : Fin 256, (Int32.ofNat k.val).toInt8.toInt32.toInt = 59 ↔ (Int32.ofNat k.val).toInt = 59) k
theorem own_byte124 {x : Int32} (h0 : 0 ≤ x.toInt) (h1 : x.toInt < 256) : x.toInt8.toInt32.toInt = 124 ↔ x.toInt = 124 := by
  obtain ⟨k, rfl⟩ := own_small h0 h1
  exact (by decide +kernel : ∀ k : Fin 256, (Int32.ofNat k.val).toInt8.toInt32.toInt = 124 ↔ (Int32.ofNat k.val).toInt = 124) k
set_option maxRecDepth 65536 in
set_option maxHeartbeats 40000000 in
theorem rm1 (l : Launch) (Z : State) (a0 : Array Value) (hw : ∀ d ∈ tables_1, d.before a0 Z = true) (ws : List Jvm.Cond) (xx : Int32) (h0 : Heap) (n0 : Nat) (Z0 : n0 ≤ h0.size)  :
    own_MF l (⟨"com/example/kartei/kartei/directory/KimCodesIsAppTagCodePinLaw", "ch", "(I)C"⟩ : MethodName) method_2_code 2 (some .char) ws ({ frames := 0, cells := 0, slots := 0, locals := 0 } : Room) #[.int xx] Z h0 (fun v h L => (∃ y : Int32, v = some (.int y) ∧ 0 ≤ y.toInt ∧ y.toInt < 256) ∧ L = [] ∧ h = h0) := by
  refine own_body pf1 (ls0 := [.val (.int xx), .unset]) (fun m => by first | (simp [entryFrame, mkF, argsToLocals, Value.category, maxLocals]; done) | rfl) ?_
  intro p e s m below meth c T0 hx hby hml hown hnm hlk hret hZ X0 e0
  have hK := hKt0 hw; have hF := hFt0 hw
  have N0 := Fr.nil n0
  refine own_blk dec1 seq1 hby hx hZ hown hK hF 6 [] [.int 8] X0 e0 ?_
  show ((Int8.ofInt 8).toInt32 = (8 : Int32)) ∧ own_Aft X0 h0 _ 7 [zI xx, zI ((Jvm.Free.XT.ushr xx (8 : Int32)) &&& (3 : Int32))] []
  refine ⟨by decide +kernel, fun T1 X1 eh1 => ?_⟩
  generalize (Jvm.Free.XT.ushr xx (8 : Int32)) &&& (3 : Int32) = kk
  show own_Go p.tables e below _ (T1.setTop (mkF m 7 (Array.mk [zI xx, zI kk]) []))
  by_cases q1 : kk.toInt ≠ (1 : Int32).toInt
  · skip
    by_cases q2 : kk.toInt ≠ (2 : Int32).toInt
    · skip
      refine own_blk dec1 seq1 hby hx hZ hown hK hF 10 [true, true] [.int 255] X1 eh1 ?_
      show ((kk).toInt ≠ ((1 : Int32)).toInt) ∧ ((kk).toInt ≠ ((2 : Int32)).toInt) ∧ ((Int16.ofInt 255).toInt32 = (255 : Int32)) ∧ own_Aft X1 h0 _ 29 [zI xx, zI kk] [.int ((xx &&& (255 : Int32)).toUInt32.toUInt16.toUInt32.toInt32)]
      refine ⟨q1, q2, by decide +kernel, fun T2 X2 eh2 => ?_⟩
      have b1 := own_and32 xx 255 (by decide)
      have b2 : (255 : Int32).toInt = 255 := rfl
      have ec : (xx &&& (255 : Int32)).toUInt32.toUInt16.toUInt32.toInt32 = xx &&& (255 : Int32) := own_narC b1.1 (by omega)
      rw [ec]
      show own_Go p.tables e below _ (T2.setTop (mkF m 29 (Array.mk [zI xx, zI kk]) [.int (xx &&& (255 : Int32))]))
      exact own_ret X2 hx hlk eh2 hret (by exact (congrArg Value.int (own_narC (by omega) (by omega)))) (Or.inl ⟨rfl, by simp, _, rfl⟩) (hb hby d1_29) (by decide) (by decide) (⟨⟨_, rfl, by omega, by omega⟩, rfl, rfl⟩)
    · skip
      refine own_blk dec1 seq1 hby hx hZ hown hK hF 7 [true, false] [.int 124] X1 eh1 ?_
      show ((kk).toInt ≠ ((1 : Int32)).toInt) ∧ (¬ ((kk).toInt ≠ ((2 : Int32)).toInt)) ∧ ((Int8.ofInt 124).toInt32 = (124 : Int32)) ∧ own_Aft X1 h0 _ 22 [zI xx, zI kk] [.int 124]
      refine ⟨q1, q2, by decide +kernel, fun T3 X3 eh3 => ?_⟩
      exact own_ret X3 hx hlk eh3 hret (by first | rfl | decide) (Or.inl ⟨rfl, by simp, _, rfl⟩) (hb hby d1_22) (by decide) (by decide) (⟨⟨_, rfl, by decide, by decide⟩, rfl, rfl⟩)
  · skip
    refine own_blk dec1 seq1 hby hx hZ hown hK hF 4 [false] [.int 59] X1 eh1 ?_
    show (¬ ((kk).toInt ≠ ((1 : Int32)).toInt)) ∧ ((Int8.ofInt 59).toInt32 = (59 : Int32)) ∧ own_Aft X1 h0 _ 14 [zI xx, zI kk] [.int 59]
    refine ⟨q1, by decide +kernel, fun T4 X4 eh4 => ?_⟩
    exact own_ret X4 hx hlk eh4 hret (by first | rfl | decide) (Or.inl ⟨rfl, by simp, _, rfl⟩) (hb hby d1_14) (by decide) (by decide) (⟨⟨_, rfl, by decide, by decide⟩, rfl, rfl⟩)
set_option maxRecDepth 65536 in
set_option maxHeartbeats 40000000 in
theorem rm8 (l : Launch) (Z : State) (a0 : Array Value) (hw : ∀ d ∈ tables_1, d.before a0 Z = true) (ws : List Jvm.Cond) (y : Int32) (h0 : Heap) (n0 : Nat) (Z0 : n0 ≤ h0.size)  :
    own_MF l (⟨"com/example/kartei/kartei/directory/KimCodesIsAppTagCodePinLaw", "ok", "(C)Z"⟩ : MethodName) method_3_code 1 (some .boolean) ws ({ frames := 0, cells := 0, slots := 0, locals := 0 } : Room) #[.int y] Z h0 (fun v h L => (∃ r : Int32, v = some (.int r) ∧ ((r = 1 ∧ y.toInt ≠ 59 ∧ y.toInt ≠ 124) ∨ (r = 0 ∧ (y.toInt = 59 ∨ y.toInt = 124)))) ∧ L = [] ∧ h = h0) := by
  refine own_body pf8 (ls0 := [.val (.int y)]) (fun m => by first | (simp [entryFrame, mkF, argsToLocals, Value.category, maxLocals]; done) | rfl) ?_
  intro p e s m below meth c T0 hx hby hml hown hnm hlk hret hZ X0 e0
  have hK := hKt0 hw; have hF := hFt0 hw
  have N0 := Fr.nil n0
  by_cases q1 : y.toInt = 59
  · skip
    refine own_blk dec8 seq8 hby hx hZ hown hK hF 4 [true] [.int 59] X0 e0 ?_
    show ((Int8.ofInt 59).toInt32 = (59 : Int32)) ∧ ((y).toInt = ((59 : Int32)).toInt) ∧ own_Aft X0 h0 _ 17 [zI y] [.int 0]
    refine ⟨by decide +kernel, q1, fun T1 X1 eh1 => ?_⟩
    exact own_ret X1 hx hlk eh1 hret (by first | rfl | decide) (Or.inl ⟨rfl, by simp, _, rfl⟩) (hb hby d8_17) (by decide) (by decide) (⟨⟨_, rfl, Or.inr ⟨rfl, Or.inl q1⟩⟩, rfl, rfl⟩)
  · skip
    by_cases q2 : y.toInt = 124
    · skip
      refine own_blk dec8 seq8 hby hx hZ hown hK hF 7 [false, true] [.int 59, .int 124] X0 e0 ?_
      show ((Int8.ofInt 59).toInt32 = (59 : Int32)) ∧ (¬ ((y).toInt = ((59 : Int32)).toInt)) ∧ ((Int8.ofInt 124).toInt32 = (124 : Int32)) ∧ ((y).toInt = ((124 : Int32)).toInt) ∧ own_Aft X0 h0 _ 17 [zI y] [.int 0]
      refine ⟨by decide +kernel, q1, by decide +kernel, q2, fun T2 X2 eh2 => ?_⟩
      exact own_ret X2 hx hlk eh2 hret (by first | rfl | decide) (Or.inl ⟨rfl, by simp, _, rfl⟩) (hb hby d8_17) (by decide) (by decide) (⟨⟨_, rfl, Or.inr ⟨rfl, Or.inr q2⟩⟩, rfl, rfl⟩)
    · skip
      refine own_blk dec8 seq8 hby hx hZ hown hK hF 8 [false, false] [.int 59, .int 124] X0 e0 ?_
      show ((Int8.ofInt 59).toInt32 = (59 : Int32)) ∧ (¬ ((y).toInt = ((59 : Int32)).toInt)) ∧ ((Int8.ofInt 124).toInt32 = (124 : Int32)) ∧ (¬ ((y).toInt = ((124 : Int32)).toInt)) ∧ own_Aft X0 h0 _ 17 [zI y] [.int 1]
      refine ⟨by decide +kernel, q1, by decide +kernel, q2, fun T3 X3 eh3 => ?_⟩
      exact own_ret X3 hx hlk eh3 hret (by first | rfl | decide) (Or.inl ⟨rfl, by simp, _, rfl⟩) (hb hby d8_17) (by decide) (by decide) (⟨⟨_, rfl, Or.inl ⟨rfl, q1, q2⟩⟩, rfl, rfl⟩)
set_option maxRecDepth 65536 in
set_option maxHeartbeats 40000000 in
theorem rm17 (l : Launch) (Z : State) (a0 : Array Value) (hw : ∀ d ∈ tables_1, d.before a0 Z = true) (ws : List Jvm.Cond)  (h0 : Heap) (n0 : Nat) (Z0 : n0 ≤ h0.size)  :
    own_MF l (⟨"java/lang/Math", "max", "(II)I"⟩ : MethodName) jdk_29_method_65_code 2 (some .int) ws ({ frames := 0, cells := 0, slots := 0, locals := 0 } : Room) #[.int 0, .int 0] Z h0 (fun v h L => (v = some (.int 0)) ∧ L = [] ∧ h = h0) := by
  refine own_body pf17 (ls0 := [.val (.int 0), .val (.int 0)]) (fun m => by first | (simp [entryFrame, mkF, argsToLocals, Value.category, maxLocals]; done) | rfl) ?_
  intro p e s m below meth c T0 hx hby hml hown hnm hlk hret hZ X0 e0
  have hK := hKt17 hw; have hF := hFt17 hw
  have N0 := Fr.nil n0
  refine own_blk dec17 seq17 hby hx hZ hown hK hF 5 [false] [] X0 e0 ?_
  show (¬ (((0 : Int32)).toInt < ((0 : Int32)).toInt)) ∧ own_Aft X0 h0 _ 10 [zI 0, zI 0] [.int 0]
  refine ⟨by decide, fun T1 X1 eh1 => ?_⟩
  exact own_ret X1 hx hlk eh1 hret (by first | rfl | decide) (Or.inl ⟨rfl, by simp, _, rfl⟩) (hb hby d17_10) (by decide) (by decide) (⟨rfl, rfl, rfl⟩)
set_option maxRecDepth 65536 in
set_option maxHeartbeats 40000000 in
theorem rm18_1 (l : Launch) (Z : State) (a0 : Array Value) (hw : ∀ d ∈ tables_1, d.before a0 Z = true) (ws : List Jvm.Cond)  (h0 : Heap) (n0 : Nat) (Z0 : n0 ≤ h0.size)  :
    own_MF l (⟨"java/lang/Math", "min", "(II)I"⟩ : MethodName) jdk_29_method_69_code 2 (some .int) ws ({ frames := 0, cells := 0, slots := 0, locals := 0 } : Room) #[.int 1, .int 1] Z h0 (fun v h L => (v = some (.int 1)) ∧ L = [] ∧ h = h0) := by
  refine own_body pf18 (ls0 := [.val (.int 1), .val (.int 1)]) (fun m => by first | (simp [entryFrame, mkF, argsToLocals, Value.category, maxLocals]; done) | rfl) ?_
  intro p e s m below meth c T0 hx hby hml hown hnm hlk hret hZ X0 e0
  have hK := hKt17 hw; have hF := hFt17 hw
  have N0 := Fr.nil n0
  refine own_blk dec18 seq18 hby hx hZ hown hK hF 5 [false] [] X0 e0 ?_
  show (¬ (((1 : Int32)).toInt < ((1 : Int32)).toInt)) ∧ own_Aft X0 h0 _ 10 [zI 1, zI 1] [.int 1]
  refine ⟨by decide, fun T1 X1 eh1 => ?_⟩
  exact own_ret X1 hx hlk eh1 hret (by first | rfl | decide) (Or.inl ⟨rfl, by simp, _, rfl⟩) (hb hby d18_10) (by decide) (by decide) (⟨rfl, rfl, rfl⟩)
set_option maxRecDepth 65536 in
set_option maxHeartbeats 40000000 in
theorem rm18_2 (l : Launch) (Z : State) (a0 : Array Value) (hw : ∀ d ∈ tables_1, d.before a0 Z = true) (ws : List Jvm.Cond)  (h0 : Heap) (n0 : Nat) (Z0 : n0 ≤ h0.size)  :
    own_MF l (⟨"java/lang/Math", "min", "(II)I"⟩ : MethodName) jdk_29_method_69_code 2 (some .int) ws ({ frames := 0, cells := 0, slots := 0, locals := 0 } : Room) #[.int 2, .int 2] Z h0 (fun v h L => (v = some (.int 2)) ∧ L = [] ∧ h = h0) := by
  refine own_body pf18 (ls0 := [.val (.int 2), .val (.int 2)]) (fun m => by first | (simp [entryFrame, mkF, argsToLocals, Value.category, maxLocals]; done) | rfl) ?_
  intro p e s m below meth c T0 hx hby hml hown hnm hlk hret hZ X0 e0
  have hK := hKt17 hw; have hF := hFt17 hw
  have N0 := Fr.nil n0
  refine own_blk dec18 seq18 hby hx hZ hown hK hF 5 [false] [] X0 e0 ?_
  show (¬ (((2 : Int32)).toInt < ((2 : Int32)).toInt)) ∧ own_Aft X0 h0 _ 10 [zI 2, zI 2] [.int 2]
  refine ⟨by decide, fun T1 X1 eh1 => ?_⟩
  exact own_ret X1 hx hlk eh1 hret (by first | rfl | decide) (Or.inl ⟨rfl, by simp, _, rfl⟩) (hb hby d18_10) (by decide) (by decide) (⟨rfl, rfl, rfl⟩)
set_option maxRecDepth 65536 in
set_option maxHeartbeats 40000000 in
theorem rm18_3 (l : Launch) (Z : State) (a0 : Array Value) (hw : ∀ d ∈ tables_1, d.before a0 Z = true) (ws : List Jvm.Cond)  (h0 : Heap) (n0 : Nat) (Z0 : n0 ≤ h0.size)  :
    own_MF l (⟨"java/lang/Math", "min", "(II)I"⟩ : MethodName) jdk_29_method_69_code 2 (some .int) ws ({ frames := 0, cells := 0, slots := 0, locals := 0 } : Room) #[.int 3, .int 3] Z h0 (fun v h L => (v = some (.int 3)) ∧ L = [] ∧ h = h0) := by
  refine own_body pf18 (ls0 := [.val (.int 3), .val (.int 3)]) (fun m => by first | (simp [entryFrame, mkF, argsToLocals, Value.category, maxLocals]; done) | rfl) ?_
  intro p e s m below meth c T0 hx hby hml hown hnm hlk hret hZ X0 e0
  have hK := hKt17 hw; have hF := hFt17 hw
  have N0 := Fr.nil n0
  refine own_blk dec18 seq18 hby hx hZ hown hK hF 5 [false] [] X0 e0 ?_
  show (¬ (((3 : Int32)).toInt < ((3 : Int32)).toInt)) ∧ own_Aft X0 h0 _ 10 [zI 3, zI 3] [.int 3]
  refine ⟨by decide, fun T1 X1 eh1 => ?_⟩
  exact own_ret X1 hx hlk eh1 hret (by first | rfl | decide) (Or.inl ⟨rfl, by simp, _, rfl⟩) (hb hby d18_10) (by decide) (by decide) (⟨rfl, rfl, rfl⟩)
set_option maxRecDepth 65536 in
set_option maxHeartbeats 40000000 in
theorem rm18_4 (l : Launch) (Z : State) (a0 : Array Value) (hw : ∀ d ∈ tables_1, d.before a0 Z = true) (ws : List Jvm.Cond)  (h0 : Heap) (n0 : Nat) (Z0 : n0 ≤ h0.size)  :
    own_MF l (⟨"java/lang/Math", "min", "(II)I"⟩ : MethodName) jdk_29_method_69_code 2 (some .int) ws ({ frames := 0, cells := 0, slots := 0, locals := 0 } : Room) #[.int 4, .int 4] Z h0 (fun v h L => (v = some (.int 4)) ∧ L = [] ∧ h = h0) := by
  refine own_body pf18 (ls0 := [.val (.int 4), .val (.int 4)]) (fun m => by first | (simp [entryFrame, mkF, argsToLocals, Value.category, maxLocals]; done) | rfl) ?_
  intro p e s m below meth c T0 hx hby hml hown hnm hlk hret hZ X0 e0
  have hK := hKt17 hw; have hF := hFt17 hw
  have N0 := Fr.nil n0
  refine own_blk dec18 seq18 hby hx hZ hown hK hF 5 [false] [] X0 e0 ?_
  show (¬ (((4 : Int32)).toInt < ((4 : Int32)).toInt)) ∧ own_Aft X0 h0 _ 10 [zI 4, zI 4] [.int 4]
  refine ⟨by decide, fun T1 X1 eh1 => ?_⟩
  exact own_ret X1 hx hlk eh1 hret (by first | rfl | decide) (Or.inl ⟨rfl, by simp, _, rfl⟩) (hb hby d18_10) (by decide) (by decide) (⟨rfl, rfl, rfl⟩)
set_option maxRecDepth 65536 in
set_option maxHeartbeats 40000000 in
theorem rm16_59 (l : Launch) (Z : State) (a0 : Array Value) (hw : ∀ d ∈ tables_1, d.before a0 Z = true) (ws : List Jvm.Cond)  (h0 : Heap) (n0 : Nat) (Z0 : n0 ≤ h0.size)  :
    own_MF l (⟨"java/lang/StringLatin1", "canEncode", "(I)Z"⟩ : MethodName) jdk_43_method_4_code 1 (some .boolean) ws ({ frames := 0, cells := 0, slots := 0, locals := 0 } : Room) #[.int 59] Z h0 (fun v h L => (v = some (.int 1)) ∧ L = [] ∧ h = h0) := by
  refine own_body pf16 (ls0 := [.val (.int 59)]) (fun m => by first | (simp [entryFrame, mkF, argsToLocals, Value.category, maxLocals]; done) | rfl) ?_
  intro p e s m below meth c T0 hx hby hml hown hnm hlk hret hZ X0 e0
  have hK := hKt15 hw; have hF := hFt15 hw
  have N0 := Fr.nil n0
  refine own_blk dec16 seq16 hby hx hZ hown hK hF 7 [false, false] [.int 255] X0 e0 ?_
  show (¬ (((59 : Int32)).toInt < 0)) ∧ ((Int16.ofInt 255).toInt32 = (255 : Int32)) ∧ (¬ (((255 : Int32)).toInt < ((59 : Int32)).toInt)) ∧ own_Aft X0 h0 _ 16 [zI 59] [.int 1]
  refine ⟨by decide, by decide +kernel, by decide, fun T1 X1 eh1 => ?_⟩
  exact own_ret X1 hx hlk eh1 hret (by first | rfl | decide) (Or.inl ⟨rfl, by simp, _, rfl⟩) (hb hby d16_16) (by decide) (by decide) (⟨rfl, rfl, rfl⟩)
set_option maxRecDepth 65536 in
set_option maxHeartbeats 40000000 in
theorem rm16_124 (l : Launch) (Z : State) (a0 : Array Value) (hw : ∀ d ∈ tables_1, d.before a0 Z = true) (ws : List Jvm.Cond)  (h0 : Heap) (n0 : Nat) (Z0 : n0 ≤ h0.size)  :
    own_MF l (⟨"java/lang/StringLatin1", "canEncode", "(I)Z"⟩ : MethodName) jdk_43_method_4_code 1 (some .boolean) ws ({ frames := 0, cells := 0, slots := 0, locals := 0 } : Room) #[.int 124] Z h0 (fun v h L => (v = some (.int 1)) ∧ L = [] ∧ h = h0) := by
  refine own_body pf16 (ls0 := [.val (.int 124)]) (fun m => by first | (simp [entryFrame, mkF, argsToLocals, Value.category, maxLocals]; done) | rfl) ?_
  intro p e s m below meth c T0 hx hby hml hown hnm hlk hret hZ X0 e0
  have hK := hKt15 hw; have hF := hFt15 hw
  have N0 := Fr.nil n0
  refine own_blk dec16 seq16 hby hx hZ hown hK hF 7 [false, false] [.int 255] X0 e0 ?_
  show (¬ (((124 : Int32)).toInt < 0)) ∧ ((Int16.ofInt 255).toInt32 = (255 : Int32)) ∧ (¬ (((255 : Int32)).toInt < ((124 : Int32)).toInt)) ∧ own_Aft X0 h0 _ 16 [zI 124] [.int 1]
  refine ⟨by decide, by decide +kernel, by decide, fun T1 X1 eh1 => ?_⟩
  exact own_ret X1 hx hlk eh1 hret (by first | rfl | decide) (Or.inl ⟨rfl, by simp, _, rfl⟩) (hb hby d16_16) (by decide) (by decide) (⟨rfl, rfl, rfl⟩)
set_option maxRecDepth 65536 in
set_option maxHeartbeats 40000000 in
theorem rm19_1_59 (l : Launch) (Z : State) (a0 : Array Value) (hw : ∀ d ∈ tables_1, d.before a0 Z = true) (ws : List Jvm.Cond) (ba : Addr) (b0 : Int32) (h0 : Heap) (n0 : Nat) (Z0 : n0 ≤ h0.size) (Ab : own_A Z h0 ba .byte [.int b0]) :
    own_MF l (⟨"java/lang/StringLatin1", "indexOfChar", "([BIII)I"⟩ : MethodName) jdk_43_method_23_code 6 (some .int) ws ({ frames := 0, cells := 0, slots := 0, locals := 0 } : Room) #[.ref ba, .int 59, .int 0, .int 1] Z h0 (fun v h L => (∃ r : Int32, v = some (.int r) ∧ ((r.toInt < 0 ∧ b0.toInt ≠ 59) ∨ (0 ≤ r.toInt ∧ (b0.toInt = 59)))) ∧ L = [] ∧ h = h0) := by
  refine own_body pf19 (ls0 := [.val (.ref ba), .val (.int 59), .val (.int 0), .val (.int 1), .unset, .unset]) (fun m => by first | (simp [entryFrame, mkF, argsToLocals, Value.category, maxLocals]; done) | rfl) ?_
  intro p e s m below meth c T0 hx hby hml hown hnm hlk hret hZ X0 e0
  have hK := hKt15 hw; have hF := hFt15 hw
  have N0 := Fr.nil n0
  have eb : (((59 : Int32)).toInt8.toInt32).toInt = 59 := by decide
  refine own_blk dec19 seq19 hby hx hZ hown hK hF 10 [false] [] X0 e0 ?_
  show (¬ (((1 : Int32)).toInt ≤ ((0 : Int32)).toInt)) ∧ own_Aft X0 h0 _ 16 [zA ba, zI 59, zI 0, zI 1, zI ((59 : Int32).toInt8.toInt32), zI 0] [.int 0, .ref ba]
  refine ⟨by decide, fun T1 X1 eh1 => ?_⟩
  refine own_bB X1 hx hZ eh1 (Ab.at (0 : Int32) 0 rfl rfl) (hb hby d19_16) ?_
  show own_Go p.tables e below _ (T1.setTop (mkF m 17 (Array.mk [zA ba, zI 59, zI 0, zI 1, zI ((59 : Int32).toInt8.toInt32), zI 0]) [.int b0]))
  by_cases q0 : b0.toInt = 59
  · skip
    refine own_blk dec19 seq19 hby hx hZ hown hK hF 3 [false] [] X1 eh1 ?_
    show (¬ ((b0).toInt ≠ ((59 : Int32).toInt8.toInt32).toInt)) ∧ own_Aft X1 h0 _ 24 [zA ba, zI 59, zI 0, zI 1, zI ((59 : Int32).toInt8.toInt32), zI 0] [.int 0]
    refine ⟨by rw [eb]; omega, fun T2 X2 eh2 => ?_⟩
    exact own_ret X2 hx hlk eh2 hret (by first | rfl | decide) (Or.inl ⟨rfl, by simp, _, rfl⟩) (hb hby d19_24) (by decide) (by decide) (⟨⟨_, rfl, Or.inr ⟨by decide, q0⟩⟩, rfl, rfl⟩)
  · skip
    refine own_blk dec19 seq19 hby hx hZ hown hK hF 4 [true] [] X1 eh1 ?_
    show ((b0).toInt ≠ ((59 : Int32).toInt8.toInt32).toInt) ∧ own_Aft X1 h0 _ 7 [zA ba, zI 59, zI 0, zI 1, zI ((59 : Int32).toInt8.toInt32), zI 1] []
    refine ⟨by rw [eb]; exact q0, fun T3 X3 eh3 => ?_⟩
    refine own_blk dec19 seq19 hby hx hZ hown hK hF 4 [true] [] X3 eh3 ?_
    show (((1 : Int32)).toInt ≤ ((1 : Int32)).toInt) ∧ own_Aft X3 h0 _ 32 [zA ba, zI 59, zI 0, zI 1, zI ((59 : Int32).toInt8.toInt32), zI 1] [.int (-1)]
    refine ⟨by decide, fun T4 X4 eh4 => ?_⟩
    exact own_ret X4 hx hlk eh4 hret (by first | rfl | decide) (Or.inl ⟨rfl, by simp, _, rfl⟩) (hb hby d19_32) (by decide) (by decide) (⟨⟨_, rfl, Or.inl ⟨by decide, q0⟩⟩, rfl, rfl⟩)
set_option maxRecDepth 65536 in
set_option maxHeartbeats 40000000 in
theorem rm19_1_124 (l : Launch) (Z : State) (a0 : Array Value) (hw : ∀ d ∈ tables_1, d.before a0 Z = true) (ws : List Jvm.Cond) (ba : Addr) (b0 : Int32) (h0 : Heap) (n0 : Nat) (Z0 : n0 ≤ h0.size) (Ab : own_A Z h0 ba .byte [.int b0]) :
    own_MF l (⟨"java/lang/StringLatin1", "indexOfChar", "([BIII)I"⟩ : MethodName) jdk_43_method_23_code 6 (some .int) ws ({ frames := 0, cells := 0, slots := 0, locals := 0 } : Room) #[.ref ba, .int 124, .int 0, .int 1] Z h0 (fun v h L => (∃ r : Int32, v = some (.int r) ∧ ((r.toInt < 0 ∧ b0.toInt ≠ 124) ∨ (0 ≤ r.toInt ∧ (b0.toInt = 124)))) ∧ L = [] ∧ h = h0) := by
  refine own_body pf19 (ls0 := [.val (.ref ba), .val (.int 124), .val (.int 0), .val (.int 1), .unset, .unset]) (fun m => by first | (simp [entryFrame, mkF, argsToLocals, Value.category, maxLocals]; done) | rfl) ?_
  intro p e s m below meth c T0 hx hby hml hown hnm hlk hret hZ X0 e0
  have hK := hKt15 hw; have hF := hFt15 hw
  have N0 := Fr.nil n0
  have eb : (((124 : Int32)).toInt8.toInt32).toInt = 124 := by decide
  refine own_blk dec19 seq19 hby hx hZ hown hK hF 10 [false] [] X0 e0 ?_
  show (¬ (((1 : Int32)).toInt ≤ ((0 : Int32)).toInt)) ∧ own_Aft X0 h0 _ 16 [zA ba, zI 124, zI 0, zI 1, zI ((124 : Int32).toInt8.toInt32), zI 0] [.int 0, .ref ba]
  refine ⟨by decide, fun T1 X1 eh1 => ?_⟩
  refine own_bB X1 hx hZ eh1 (Ab.at (0 : Int32) 0 rfl rfl) (hb hby d19_16) ?_
  show own_Go p.tables e below _ (T1.setTop (mkF m 17 (Array.mk [zA ba, zI 124, zI 0, zI 1, zI ((124 : Int32).toInt8.toInt32), zI 0]) [.int b0]))
  by_cases q0 : b0.toInt = 124
  · skip
    refine own_blk dec19 seq19 hby hx hZ hown hK hF 3 [false] [] X1 eh1 ?_
    show (¬ ((b0).toInt ≠ ((124 : Int32).toInt8.toInt32).toInt)) ∧ own_Aft X1 h0 _ 24 [zA ba, zI 124, zI 0, zI 1, zI ((124 : Int32).toInt8.toInt32), zI 0] [.int 0]
    refine ⟨by rw [eb]; omega, fun T2 X2 eh2 => ?_⟩
    exact own_ret X2 hx hlk eh2 hret (by first | rfl | decide) (Or.inl ⟨rfl, by simp, _, rfl⟩) (hb hby d19_24) (by decide) (by decide) (⟨⟨_, rfl, Or.inr ⟨by decide, q0⟩⟩, rfl, rfl⟩)
  · skip
    refine own_blk dec19 seq19 hby hx hZ hown hK hF 4 [true] [] X1 eh1 ?_
    show ((b0).toInt ≠ ((124 : Int32).toInt8.toInt32).toInt) ∧ own_Aft X1 h0 _ 7 [zA ba, zI 124, zI 0, zI 1, zI ((124 : Int32).toInt8.toInt32), zI 1] []
    refine ⟨by rw [eb]; exact q0, fun T3 X3 eh3 => ?_⟩
    refine own_blk dec19 seq19 hby hx hZ hown hK hF 4 [true] [] X3 eh3 ?_
    show (((1 : Int32)).toInt ≤ ((1 : Int32)).toInt) ∧ own_Aft X3 h0 _ 32 [zA ba, zI 124, zI 0, zI 1, zI ((124 : Int32).toInt8.toInt32), zI 1] [.int (-1)]
    refine ⟨by decide, fun T4 X4 eh4 => ?_⟩
    exact own_ret X4 hx hlk eh4 hret (by first | rfl | decide) (Or.inl ⟨rfl, by simp, _, rfl⟩) (hb hby d19_32) (by decide) (by decide) (⟨⟨_, rfl, Or.inl ⟨by decide, q0⟩⟩, rfl, rfl⟩)
set_option maxRecDepth 65536 in
set_option maxHeartbeats 40000000 in
theorem rm19_2_59 (l : Launch) (Z : State) (a0 : Array Value) (hw : ∀ d ∈ tables_1, d.before a0 Z = true) (ws : List Jvm.Cond) (ba : Addr) (b0 b1 : Int32) (h0 : Heap) (n0 : Nat) (Z0 : n0 ≤ h0.size) (Ab : own_A Z h0 ba .byte [.int b0, .int b1]) :
    own_MF l (⟨"java/lang/StringLatin1", "indexOfChar", "([BIII)I"⟩ : MethodName) jdk_43_method_23_code 6 (some .int) ws ({ frames := 0, cells := 0, slots := 0, locals := 0 } : Room) #[.ref ba, .int 59, .int 0, .int 2] Z h0 (fun v h L => (∃ r : Int32, v = some (.int r) ∧ ((r.toInt < 0 ∧ b0.toInt ≠ 59 ∧ b1.toInt ≠ 59) ∨ (0 ≤ r.toInt ∧ (b0.toInt = 59 ∨ b1.toInt = 59)))) ∧ L = [] ∧ h = h0) := by
  refine own_body pf19 (ls0 := [.val (.ref ba), .val (.int 59), .val (.int 0), .val (.int 2), .unset, .unset]) (fun m => by first | (simp [entryFrame, mkF, argsToLocals, Value.category, maxLocals]; done) | rfl) ?_
  intro p e s m below meth c T0 hx hby hml hown hnm hlk hret hZ X0 e0
  have hK := hKt15 hw; have hF := hFt15 hw
  have N0 := Fr.nil n0
  have eb : (((59 : Int32)).toInt8.toInt32).toInt = 59 := by decide
  refine own_blk dec19 seq19 hby hx hZ hown hK hF 10 [false] [] X0 e0 ?_
  show (¬ (((2 : Int32)).toInt ≤ ((0 : Int32)).toInt)) ∧ own_Aft X0 h0 _ 16 [zA ba, zI 59, zI 0, zI 2, zI ((59 : Int32).toInt8.toInt32), zI 0] [.int 0, .ref ba]
  refine ⟨by decide, fun T1 X1 eh1 => ?_⟩
  refine own_bB X1 hx hZ eh1 (Ab.at (0 : Int32) 0 rfl rfl) (hb hby d19_16) ?_
  show own_Go p.tables e below _ (T1.setTop (mkF m 17 (Array.mk [zA ba, zI 59, zI 0, zI 2, zI ((59 : Int32).toInt8.toInt32), zI 0]) [.int b0]))
  by_cases q0 : b0.toInt = 59
  · skip
    refine own_blk dec19 seq19 hby hx hZ hown hK hF 3 [false] [] X1 eh1 ?_
    show (¬ ((b0).toInt ≠ ((59 : Int32).toInt8.toInt32).toInt)) ∧ own_Aft X1 h0 _ 24 [zA ba, zI 59, zI 0, zI 2, zI ((59 : Int32).toInt8.toInt32), zI 0] [.int 0]
    refine ⟨by rw [eb]; omega, fun T2 X2 eh2 => ?_⟩
    exact own_ret X2 hx hlk eh2 hret (by first | rfl | decide) (Or.inl ⟨rfl, by simp, _, rfl⟩) (hb hby d19_24) (by decide) (by decide) (⟨⟨_, rfl, Or.inr ⟨by decide, Or.inl (q0)⟩⟩, rfl, rfl⟩)
  · skip
    refine own_blk dec19 seq19 hby hx hZ hown hK hF 4 [true] [] X1 eh1 ?_
    show ((b0).toInt ≠ ((59 : Int32).toInt8.toInt32).toInt) ∧ own_Aft X1 h0 _ 7 [zA ba, zI 59, zI 0, zI 2, zI ((59 : Int32).toInt8.toInt32), zI 1] []
    refine ⟨by rw [eb]; exact q0, fun T3 X3 eh3 => ?_⟩
    refine own_blk dec19 seq19 hby hx hZ hown hK hF 5 [false] [] X3 eh3 ?_
    show (¬ (((2 : Int32)).toInt ≤ ((1 : Int32)).toInt)) ∧ own_Aft X3 h0 _ 16 [zA ba, zI 59, zI 0, zI 2, zI ((59 : Int32).toInt8.toInt32), zI 1] [.int 1, .ref ba]
    refine ⟨by decide, fun T4 X4 eh4 => ?_⟩
    refine own_bB X4 hx hZ eh4 (Ab.at (1 : Int32) 1 rfl rfl) (hb hby d19_16) ?_
    show own_Go p.tables e below _ (T4.setTop (mkF m 17 (Array.mk [zA ba, zI 59, zI 0, zI 2, zI ((59 : Int32).toInt8.toInt32), zI 1]) [.int b1]))
    by_cases q1 : b1.toInt = 59
    · skip
      refine own_blk dec19 seq19 hby hx hZ hown hK hF 3 [false] [] X4 eh4 ?_
      show (¬ ((b1).toInt ≠ ((59 : Int32).toInt8.toInt32).toInt)) ∧ own_Aft X4 h0 _ 24 [zA ba, zI 59, zI 0, zI 2, zI ((59 : Int32).toInt8.toInt32), zI 1] [.int 1]
      refine ⟨by rw [eb]; omega, fun T5 X5 eh5 => ?_⟩
      exact own_ret X5 hx hlk eh5 hret (by first | rfl | decide) (Or.inl ⟨rfl, by simp, _, rfl⟩) (hb hby d19_24) (by decide) (by decide) (⟨⟨_, rfl, Or.inr ⟨by decide, Or.inr (q1)⟩⟩, rfl, rfl⟩)
    · skip
      refine own_blk dec19 seq19 hby hx hZ hown hK hF 4 [true] [] X4 eh4 ?_
      show ((b1).toInt ≠ ((59 : Int32).toInt8.toInt32).toInt) ∧ own_Aft X4 h0 _ 7 [zA ba, zI 59, zI 0, zI 2, zI ((59 : Int32).toInt8.toInt32), zI 2] []
      refine ⟨by rw [eb]; exact q1, fun T6 X6 eh6 => ?_⟩
      refine own_blk dec19 seq19 hby hx hZ hown hK hF 4 [true] [] X6 eh6 ?_
      show (((2 : Int32)).toInt ≤ ((2 : Int32)).toInt) ∧ own_Aft X6 h0 _ 32 [zA ba, zI 59, zI 0, zI 2, zI ((59 : Int32).toInt8.toInt32), zI 2] [.int (-1)]
      refine ⟨by decide, fun T7 X7 eh7 => ?_⟩
      exact own_ret X7 hx hlk eh7 hret (by first | rfl | decide) (Or.inl ⟨rfl, by simp, _, rfl⟩) (hb hby d19_32) (by decide) (by decide) (⟨⟨_, rfl, Or.inl ⟨by decide, q0, q1⟩⟩, rfl, rfl⟩)
set_option maxRecDepth 65536 in
set_option maxHeartbeats 40000000 in
theorem rm19_2_124 (l : Launch) (Z : State) (a0 : Array Value) (hw : ∀ d ∈ tables_1, d.before a0 Z = true) (ws : List Jvm.Cond) (ba : Addr) (b0 b1 : Int32) (h0 : Heap) (n0 : Nat) (Z0 : n0 ≤ h0.size) (Ab : own_A Z h0 ba .byte [.int b0, .int b1]) :
    own_MF l (⟨"java/lang/StringLatin1", "indexOfChar", "([BIII)I"⟩ : MethodName) jdk_43_method_23_code 6 (some .int) ws ({ frames := 0, cells := 0, slots := 0, locals := 0 } : Room) #[.ref ba, .int 124, .int 0, .int 2] Z h0 (fun v h L => (∃ r : Int32, v = some (.int r) ∧ ((r.toInt < 0 ∧ b0.toInt ≠ 124 ∧ b1.toInt ≠ 124) ∨ (0 ≤ r.toInt ∧ (b0.toInt = 124 ∨ b1.toInt = 124)))) ∧ L = [] ∧ h = h0) := by
  refine own_body pf19 (ls0 := [.val (.ref ba), .val (.int 124), .val (.int 0), .val (.int 2), .unset, .unset]) (fun m => by first | (simp [entryFrame, mkF, argsToLocals, Value.category, maxLocals]; done) | rfl) ?_
  intro p e s m below meth c T0 hx hby hml hown hnm hlk hret hZ X0 e0
  have hK := hKt15 hw; have hF := hFt15 hw
  have N0 := Fr.nil n0
  have eb : (((124 : Int32)).toInt8.toInt32).toInt = 124 := by decide
  refine own_blk dec19 seq19 hby hx hZ hown hK hF 10 [false] [] X0 e0 ?_
  show (¬ (((2 : Int32)).toInt ≤ ((0 : Int32)).toInt)) ∧ own_Aft X0 h0 _ 16 [zA ba, zI 124, zI 0, zI 2, zI ((124 : Int32).toInt8.toInt32), zI 0] [.int 0, .ref ba]
  refine ⟨by decide, fun T1 X1 eh1 => ?_⟩
  refine own_bB X1 hx hZ eh1 (Ab.at (0 : Int32) 0 rfl rfl) (hb hby d19_16) ?_
  show own_Go p.tables e below _ (T1.setTop (mkF m 17 (Array.mk [zA ba, zI 124, zI 0, zI 2, zI ((124 : Int32).toInt8.toInt32), zI 0]) [.int b0]))
  by_cases q0 : b0.toInt = 124
  · skip
    refine own_blk dec19 seq19 hby hx hZ hown hK hF 3 [false] [] X1 eh1 ?_
    show (¬ ((b0).toInt ≠ ((124 : Int32).toInt8.toInt32).toInt)) ∧ own_Aft X1 h0 _ 24 [zA ba, zI 124, zI 0, zI 2, zI ((124 : Int32).toInt8.toInt32), zI 0] [.int 0]
    refine ⟨by rw [eb]; omega, fun T2 X2 eh2 => ?_⟩
    exact own_ret X2 hx hlk eh2 hret (by first | rfl | decide) (Or.inl ⟨rfl, by simp, _, rfl⟩) (hb hby d19_24) (by decide) (by decide) (⟨⟨_, rfl, Or.inr ⟨by decide, Or.inl (q0)⟩⟩, rfl, rfl⟩)
  · skip
    refine own_blk dec19 seq19 hby hx hZ hown hK hF 4 [true] [] X1 eh1 ?_
    show ((b0).toInt ≠ ((124 : Int32).toInt8.toInt32).toInt) ∧ own_Aft X1 h0 _ 7 [zA ba, zI 124, zI 0, zI 2, zI ((124 : Int32).toInt8.toInt32), zI 1] []
    refine ⟨by rw [eb]; exact q0, fun T3 X3 eh3 => ?_⟩
    refine own_blk dec19 seq19 hby hx hZ hown hK hF 5 [false] [] X3 eh3 ?_
    show (¬ (((2 : Int32)).toInt ≤ ((1 : Int32)).toInt)) ∧ own_Aft X3 h0 _ 16 [zA ba, zI 124, zI 0, zI 2, zI ((124 : Int32).toInt8.toInt32), zI 1] [.int 1, .ref ba]
    refine ⟨by decide, fun T4 X4 eh4 => ?_⟩
    refine own_bB X4 hx hZ eh4 (Ab.at (1 : Int32) 1 rfl rfl) (hb hby d19_16) ?_
    show own_Go p.tables e below _ (T4.setTop (mkF m 17 (Array.mk [zA ba, zI 124, zI 0, zI 2, zI ((124 : Int32).toInt8.toInt32), zI 1]) [.int b1]))
    by_cases q1 : b1.toInt = 124
    · skip
      refine own_blk dec19 seq19 hby hx hZ hown hK hF 3 [false] [] X4 eh4 ?_
      show (¬ ((b1).toInt ≠ ((124 : Int32).toInt8.toInt32).toInt)) ∧ own_Aft X4 h0 _ 24 [zA ba, zI 124, zI 0, zI 2, zI ((124 : Int32).toInt8.toInt32), zI 1] [.int 1]
      refine ⟨by rw [eb]; omega, fun T5 X5 eh5 => ?_⟩
      exact own_ret X5 hx hlk eh5 hret (by first | rfl | decide) (Or.inl ⟨rfl, by simp, _, rfl⟩) (hb hby d19_24) (by decide) (by decide) (⟨⟨_, rfl, Or.inr ⟨by decide, Or.inr (q1)⟩⟩, rfl, rfl⟩)
    · skip
      refine own_blk dec19 seq19 hby hx hZ hown hK hF 4 [true] [] X4 eh4 ?_
      show ((b1).toInt ≠ ((124 : Int32).toInt8.toInt32).toInt) ∧ own_Aft X4 h0 _ 7 [zA ba, zI 124, zI 0, zI 2, zI ((124 : Int32).toInt8.toInt32), zI 2] []
      refine ⟨by rw [eb]; exact q1, fun T6 X6 eh6 => ?_⟩
      refine own_blk dec19 seq19 hby hx hZ hown hK hF 4 [true] [] X6 eh6 ?_
      show (((2 : Int32)).toInt ≤ ((2 : Int32)).toInt) ∧ own_Aft X6 h0 _ 32 [zA ba, zI 124, zI 0, zI 2, zI ((124 : Int32).toInt8.toInt32), zI 2] [.int (-1)]
      refine ⟨by decide, fun T7 X7 eh7 => ?_⟩
      exact own_ret X7 hx hlk eh7 hret (by first | rfl | decide) (Or.inl ⟨rfl, by simp, _, rfl⟩) (hb hby d19_32) (by decide) (by decide) (⟨⟨_, rfl, Or.inl ⟨by decide, q0, q1⟩⟩, rfl, rfl⟩)
set_option maxRecDepth 65536 in
set_option maxHeartbeats 40000000 in
theorem rm19_3_59 (l : Launch) (Z : State) (a0 : Array Value) (hw : ∀ d ∈ tables_1, d.before a0 Z = true) (ws : List Jvm.Cond) (ba : Addr) (b0 b1 b2 : Int32) (h0 : Heap) (n0 : Nat) (Z0 : n0 ≤ h0.size) (Ab : own_A Z h0 ba .byte [.int b0, .int b1, .int b2]) :
    own_MF l (⟨"java/lang/StringLatin1", "indexOfChar", "([BIII)I"⟩ : MethodName) jdk_43_method_23_code 6 (some .int) ws ({ frames := 0, cells := 0, slots := 0, locals := 0 } : Room) #[.ref ba, .int 59, .int 0, .int 3] Z h0 (fun v h L => (∃ r : Int32, v = some (.int r) ∧ ((r.toInt < 0 ∧ b0.toInt ≠ 59 ∧ b1.toInt ≠ 59 ∧ b2.toInt ≠ 59) ∨ (0 ≤ r.toInt ∧ (b0.toInt = 59 ∨ b1.toInt = 59 ∨ b2.toInt = 59)))) ∧ L = [] ∧ h = h0) := by
  refine own_body pf19 (ls0 := [.val (.ref ba), .val (.int 59), .val (.int 0), .val (.int 3), .unset, .unset]) (fun m => by first | (simp [entryFrame, mkF, argsToLocals, Value.category, maxLocals]; done) | rfl) ?_
  intro p e s m below meth c T0 hx hby hml hown hnm hlk hret hZ X0 e0
  have hK := hKt15 hw; have hF := hFt15 hw
  have N0 := Fr.nil n0
  have eb : (((59 : Int32)).toInt8.toInt32).toInt = 59 := by decide
  refine own_blk dec19 seq19 hby hx hZ hown hK hF 10 [false] [] X0 e0 ?_
  show (¬ (((3 : Int32)).toInt ≤ ((0 : Int32)).toInt)) ∧ own_Aft X0 h0 _ 16 [zA ba, zI 59, zI 0, zI 3, zI ((59 : Int32).toInt8.toInt32), zI 0] [.int 0, .ref ba]
  refine ⟨by decide, fun T1 X1 eh1 => ?_⟩
  refine own_bB X1 hx hZ eh1 (Ab.at (0 : Int32) 0 rfl rfl) (hb hby d19_16) ?_
  show own_Go p.tables e below _ (T1.setTop (mkF m 17 (Array.mk [zA ba, zI 59, zI 0, zI 3, zI ((59 : Int32).toInt8.toInt32), zI 0]) [.int b0]))
  by_cases q0 : b0.toInt = 59
  · skip
    refine own_blk dec19 seq19 hby hx hZ hown hK hF 3 [false] [] X1 eh1 ?_
    show (¬ ((b0).toInt ≠ ((59 : Int32).toInt8.toInt32).toInt)) ∧ own_Aft X1 h0 _ 24 [zA ba, zI 59, zI 0, zI 3, zI ((59 : Int32).toInt8.toInt32), zI 0] [.int 0]
    refine ⟨by rw [eb]; omega, fun T2 X2 eh2 => ?_⟩
    exact own_ret X2 hx hlk eh2 hret (by first | rfl | decide) (Or.inl ⟨rfl, by simp, _, rfl⟩) (hb hby d19_24) (by decide) (by decide) (⟨⟨_, rfl, Or.inr ⟨by decide, Or.inl (q0)⟩⟩, rfl, rfl⟩)
  · skip
    refine own_blk dec19 seq19 hby hx hZ hown hK hF 4 [true] [] X1 eh1 ?_
    show ((b0).toInt ≠ ((59 : Int32).toInt8.toInt32).toInt) ∧ own_Aft X1 h0 _ 7 [zA ba, zI 59, zI 0, zI 3, zI ((59 : Int32).toInt8.toInt32), zI 1] []
    refine ⟨by rw [eb]; exact q0, fun T3 X3 eh3 => ?_⟩
    refine own_blk dec19 seq19 hby hx hZ hown hK hF 5 [false] [] X3 eh3 ?_
    show (¬ (((3 : Int32)).toInt ≤ ((1 : Int32)).toInt)) ∧ own_Aft X3 h0 _ 16 [zA ba, zI 59, zI 0, zI 3, zI ((59 : Int32).toInt8.toInt32), zI 1] [.int 1, .ref ba]
    refine ⟨by decide, fun T4 X4 eh4 => ?_⟩
    refine own_bB X4 hx hZ eh4 (Ab.at (1 : Int32) 1 rfl rfl) (hb hby d19_16) ?_
    show own_Go p.tables e below _ (T4.setTop (mkF m 17 (Array.mk [zA ba, zI 59, zI 0, zI 3, zI ((59 : Int32).toInt8.toInt32), zI 1]) [.int b1]))
    by_cases q1 : b1.toInt = 59
    · skip
      refine own_blk dec19 seq19 hby hx hZ hown hK hF 3 [false] [] X4 eh4 ?_
      show (¬ ((b1).toInt ≠ ((59 : Int32).toInt8.toInt32).toInt)) ∧ own_Aft X4 h0 _ 24 [zA ba, zI 59, zI 0, zI 3, zI ((59 : Int32).toInt8.toInt32), zI 1] [.int 1]
      refine ⟨by rw [eb]; omega, fun T5 X5 eh5 => ?_⟩
      exact own_ret X5 hx hlk eh5 hret (by first | rfl | decide) (Or.inl ⟨rfl, by simp, _, rfl⟩) (hb hby d19_24) (by decide) (by decide) (⟨⟨_, rfl, Or.inr ⟨by decide, Or.inr (Or.inl (q1))⟩⟩, rfl, rfl⟩)
    · skip
      refine own_blk dec19 seq19 hby hx hZ hown hK hF 4 [true] [] X4 eh4 ?_
      show ((b1).toInt ≠ ((59 : Int32).toInt8.toInt32).toInt) ∧ own_Aft X4 h0 _ 7 [zA ba, zI 59, zI 0, zI 3, zI ((59 : Int32).toInt8.toInt32), zI 2] []
      refine ⟨by rw [eb]; exact q1, fun T6 X6 eh6 => ?_⟩
      refine own_blk dec19 seq19 hby hx hZ hown hK hF 5 [false] [] X6 eh6 ?_
      show (¬ (((3 : Int32)).toInt ≤ ((2 : Int32)).toInt)) ∧ own_Aft X6 h0 _ 16 [zA ba, zI 59, zI 0, zI 3, zI ((59 : Int32).toInt8.toInt32), zI 2] [.int 2, .ref ba]
      refine ⟨by decide, fun T7 X7 eh7 => ?_⟩
      refine own_bB X7 hx hZ eh7 (Ab.at (2 : Int32) 2 rfl rfl) (hb hby d19_16) ?_
      show own_Go p.tables e below _ (T7.setTop (mkF m 17 (Array.mk [zA ba, zI 59, zI 0, zI 3, zI ((59 : Int32).toInt8.toInt32), zI 2]) [.int b2]))
      by_cases q2 : b2.toInt = 59
      · skip
        refine own_blk dec19 seq19 hby hx hZ hown hK hF 3 [false] [] X7 eh7 ?_
        show (¬ ((b2).toInt ≠ ((59 : Int32).toInt8.toInt32).toInt)) ∧ own_Aft X7 h0 _ 24 [zA ba, zI 59, zI 0, zI 3, zI ((59 : Int32).toInt8.toInt32), zI 2] [.int 2]
        refine ⟨by rw [eb]; omega, fun T8 X8 eh8 => ?_⟩
        exact own_ret X8 hx hlk eh8 hret (by first | rfl | decide) (Or.inl ⟨rfl, by simp, _, rfl⟩) (hb hby d19_24) (by decide) (by decide) (⟨⟨_, rfl, Or.inr ⟨by decide, Or.inr (Or.inr (q2))⟩⟩, rfl, rfl⟩)
      · skip
        refine own_blk dec19 seq19 hby hx hZ hown hK hF 4 [true] [] X7 eh7 ?_
        show ((b2).toInt ≠ ((59 : Int32).toInt8.toInt32).toInt) ∧ own_Aft X7 h0 _ 7 [zA ba, zI 59, zI 0, zI 3, zI ((59 : Int32).toInt8.toInt32), zI 3] []
        refine ⟨by rw [eb]; exact q2, fun T9 X9 eh9 => ?_⟩
        refine own_blk dec19 seq19 hby hx hZ hown hK hF 4 [true] [] X9 eh9 ?_
        show (((3 : Int32)).toInt ≤ ((3 : Int32)).toInt) ∧ own_Aft X9 h0 _ 32 [zA ba, zI 59, zI 0, zI 3, zI ((59 : Int32).toInt8.toInt32), zI 3] [.int (-1)]
        refine ⟨by decide, fun T10 X10 eh10 => ?_⟩
        exact own_ret X10 hx hlk eh10 hret (by first | rfl | decide) (Or.inl ⟨rfl, by simp, _, rfl⟩) (hb hby d19_32) (by decide) (by decide) (⟨⟨_, rfl, Or.inl ⟨by decide, q0, q1, q2⟩⟩, rfl, rfl⟩)
set_option maxRecDepth 65536 in
set_option maxHeartbeats 40000000 in
theorem rm19_3_124 (l : Launch) (Z : State) (a0 : Array Value) (hw : ∀ d ∈ tables_1, d.before a0 Z = true) (ws : List Jvm.Cond) (ba : Addr) (b0 b1 b2 : Int32) (h0 : Heap) (n0 : Nat) (Z0 : n0 ≤ h0.size) (Ab : own_A Z h0 ba .byte [.int b0, .int b1, .int b2]) :
    own_MF l (⟨"java/lang/StringLatin1", "indexOfChar", "([BIII)I"⟩ : MethodName) jdk_43_method_23_code 6 (some .int) ws ({ frames := 0, cells := 0, slots := 0, locals := 0 } : Room) #[.ref ba, .int 124, .int 0, .int 3] Z h0 (fun v h L => (∃ r : Int32, v = some (.int r) ∧ ((r.toInt < 0 ∧ b0.toInt ≠ 124 ∧ b1.toInt ≠ 124 ∧ b2.toInt ≠ 124) ∨ (0 ≤ r.toInt ∧ (b0.toInt = 124 ∨ b1.toInt = 124 ∨ b2.toInt = 124)))) ∧ L = [] ∧ h = h0) := by
  refine own_body pf19 (ls0 := [.val (.ref ba), .val (.int 124), .val (.int 0), .val (.int 3), .unset, .unset]) (fun m => by first | (simp [entryFrame, mkF, argsToLocals, Value.category, maxLocals]; done) | rfl) ?_
  intro p e s m below meth c T0 hx hby hml hown hnm hlk hret hZ X0 e0
  have hK := hKt15 hw; have hF := hFt15 hw
  have N0 := Fr.nil n0
  have eb : (((124 : Int32)).toInt8.toInt32).toInt = 124 := by decide
  refine own_blk dec19 seq19 hby hx hZ hown hK hF 10 [false] [] X0 e0 ?_
  show (¬ (((3 : Int32)).toInt ≤ ((0 : Int32)).toInt)) ∧ own_Aft X0 h0 _ 16 [zA ba, zI 124, zI 0, zI 3, zI ((124 : Int32).toInt8.toInt32), zI 0] [.int 0, .ref ba]
  refine ⟨by decide, fun T1 X1 eh1 => ?_⟩
  refine own_bB X1 hx hZ eh1 (Ab.at (0 : Int32) 0 rfl rfl) (hb hby d19_16) ?_
  show own_Go p.tables e below _ (T1.setTop (mkF m 17 (Array.mk [zA ba, zI 124, zI 0, zI 3, zI ((124 : Int32).toInt8.toInt32), zI 0]) [.int b0]))
  by_cases q0 : b0.toInt = 124
  · skip
    refine own_blk dec19 seq19 hby hx hZ hown hK hF 3 [false] [] X1 eh1 ?_
    show (¬ ((b0).toInt ≠ ((124 : Int32).toInt8.toInt32).toInt)) ∧ own_Aft X1 h0 _ 24 [zA ba, zI 124, zI 0, zI 3, zI ((124 : Int32).toInt8.toInt32), zI 0] [.int 0]
    refine ⟨by rw [eb]; omega, fun T2 X2 eh2 => ?_⟩
    exact own_ret X2 hx hlk eh2 hret (by first | rfl | decide) (Or.inl ⟨rfl, by simp, _, rfl⟩) (hb hby d19_24) (by decide) (by decide) (⟨⟨_, rfl, Or.inr ⟨by decide, Or.inl (q0)⟩⟩, rfl, rfl⟩)
  · skip
    refine own_blk dec19 seq19 hby hx hZ hown hK hF 4 [true] [] X1 eh1 ?_
    show ((b0).toInt ≠ ((124 : Int32).toInt8.toInt32).toInt) ∧ own_Aft X1 h0 _ 7 [zA ba, zI 124, zI 0, zI 3, zI ((124 : Int32).toInt8.toInt32), zI 1] []
    refine ⟨by rw [eb]; exact q0, fun T3 X3 eh3 => ?_⟩
    refine own_blk dec19 seq19 hby hx hZ hown hK hF 5 [false] [] X3 eh3 ?_
    show (¬ (((3 : Int32)).toInt ≤ ((1 : Int32)).toInt)) ∧ own_Aft X3 h0 _ 16 [zA ba, zI 124, zI 0, zI 3, zI ((124 : Int32).toInt8.toInt32), zI 1] [.int 1, .ref ba]
    refine ⟨by decide, fun T4 X4 eh4 => ?_⟩
    refine own_bB X4 hx hZ eh4 (Ab.at (1 : Int32) 1 rfl rfl) (hb hby d19_16) ?_
    show own_Go p.tables e below _ (T4.setTop (mkF m 17 (Array.mk [zA ba, zI 124, zI 0, zI 3, zI ((124 : Int32).toInt8.toInt32), zI 1]) [.int b1]))
    by_cases q1 : b1.toInt = 124
    · skip
      refine own_blk dec19 seq19 hby hx hZ hown hK hF 3 [false] [] X4 eh4 ?_
      show (¬ ((b1).toInt ≠ ((124 : Int32).toInt8.toInt32).toInt)) ∧ own_Aft X4 h0 _ 24 [zA ba, zI 124, zI 0, zI 3, zI ((124 : Int32).toInt8.toInt32), zI 1] [.int 1]
      refine ⟨by rw [eb]; omega, fun T5 X5 eh5 => ?_⟩
      exact own_ret X5 hx hlk eh5 hret (by first | rfl | decide) (Or.inl ⟨rfl, by simp, _, rfl⟩) (hb hby d19_24) (by decide) (by decide) (⟨⟨_, rfl, Or.inr ⟨by decide, Or.inr (Or.inl (q1))⟩⟩, rfl, rfl⟩)
    · skip
      refine own_blk dec19 seq19 hby hx hZ hown hK hF 4 [true] [] X4 eh4 ?_
      show ((b1).toInt ≠ ((124 : Int32).toInt8.toInt32).toInt) ∧ own_Aft X4 h0 _ 7 [zA ba, zI 124, zI 0, zI 3, zI ((124 : Int32).toInt8.toInt32), zI 2] []
      refine ⟨by rw [eb]; exact q1, fun T6 X6 eh6 => ?_⟩
      refine own_blk dec19 seq19 hby hx hZ hown hK hF 5 [false] [] X6 eh6 ?_
      show (¬ (((3 : Int32)).toInt ≤ ((2 : Int32)).toInt)) ∧ own_Aft X6 h0 _ 16 [zA ba, zI 124, zI 0, zI 3, zI ((124 : Int32).toInt8.toInt32), zI 2] [.int 2, .ref ba]
      refine ⟨by decide, fun T7 X7 eh7 => ?_⟩
      refine own_bB X7 hx hZ eh7 (Ab.at (2 : Int32) 2 rfl rfl) (hb hby d19_16) ?_
      show own_Go p.tables e below _ (T7.setTop (mkF m 17 (Array.mk [zA ba, zI 124, zI 0, zI 3, zI ((124 : Int32).toInt8.toInt32), zI 2]) [.int b2]))
      by_cases q2 : b2.toInt = 124
      · skip
        refine own_blk dec19 seq19 hby hx hZ hown hK hF 3 [false] [] X7 eh7 ?_
        show (¬ ((b2).toInt ≠ ((124 : Int32).toInt8.toInt32).toInt)) ∧ own_Aft X7 h0 _ 24 [zA ba, zI 124, zI 0, zI 3, zI ((124 : Int32).toInt8.toInt32), zI 2] [.int 2]
        refine ⟨by rw [eb]; omega, fun T8 X8 eh8 => ?_⟩
        exact own_ret X8 hx hlk eh8 hret (by first | rfl | decide) (Or.inl ⟨rfl, by simp, _, rfl⟩) (hb hby d19_24) (by decide) (by decide) (⟨⟨_, rfl, Or.inr ⟨by decide, Or.inr (Or.inr (q2))⟩⟩, rfl, rfl⟩)
      · skip
        refine own_blk dec19 seq19 hby hx hZ hown hK hF 4 [true] [] X7 eh7 ?_
        show ((b2).toInt ≠ ((124 : Int32).toInt8.toInt32).toInt) ∧ own_Aft X7 h0 _ 7 [zA ba, zI 124, zI 0, zI 3, zI ((124 : Int32).toInt8.toInt32), zI 3] []
        refine ⟨by rw [eb]; exact q2, fun T9 X9 eh9 => ?_⟩
        refine own_blk dec19 seq19 hby hx hZ hown hK hF 4 [true] [] X9 eh9 ?_
        show (((3 : Int32)).toInt ≤ ((3 : Int32)).toInt) ∧ own_Aft X9 h0 _ 32 [zA ba, zI 124, zI 0, zI 3, zI ((124 : Int32).toInt8.toInt32), zI 3] [.int (-1)]
        refine ⟨by decide, fun T10 X10 eh10 => ?_⟩
        exact own_ret X10 hx hlk eh10 hret (by first | rfl | decide) (Or.inl ⟨rfl, by simp, _, rfl⟩) (hb hby d19_32) (by decide) (by decide) (⟨⟨_, rfl, Or.inl ⟨by decide, q0, q1, q2⟩⟩, rfl, rfl⟩)
set_option maxRecDepth 65536 in
set_option maxHeartbeats 40000000 in
theorem rm19_4_59 (l : Launch) (Z : State) (a0 : Array Value) (hw : ∀ d ∈ tables_1, d.before a0 Z = true) (ws : List Jvm.Cond) (ba : Addr) (b0 b1 b2 b3 : Int32) (h0 : Heap) (n0 : Nat) (Z0 : n0 ≤ h0.size) (Ab : own_A Z h0 ba .byte [.int b0, .int b1, .int b2, .int b3]) :
    own_MF l (⟨"java/lang/StringLatin1", "indexOfChar", "([BIII)I"⟩ : MethodName) jdk_43_method_23_code 6 (some .int) ws ({ frames := 0, cells := 0, slots := 0, locals := 0 } : Room) #[.ref ba, .int 59, .int 0, .int 4] Z h0 (fun v h L => (∃ r : Int32, v = some (.int r) ∧ ((r.toInt < 0 ∧ b0.toInt ≠ 59 ∧ b1.toInt ≠ 59 ∧ b2.toInt ≠ 59 ∧ b3.toInt ≠ 59) ∨ (0 ≤ r.toInt ∧ (b0.toInt = 59 ∨ b1.toInt = 59 ∨ b2.toInt = 59 ∨ b3.toInt = 59)))) ∧ L = [] ∧ h = h0) := by
  refine own_body pf19 (ls0 := [.val (.ref ba), .val (.int 59), .val (.int 0), .val (.int 4), .unset, .unset]) (fun m => by first | (simp [entryFrame, mkF, argsToLocals, Value.category, maxLocals]; done) | rfl) ?_
  intro p e s m below meth c T0 hx hby hml hown hnm hlk hret hZ X0 e0
  have hK := hKt15 hw; have hF := hFt15 hw
  have N0 := Fr.nil n0
  have eb : (((59 : Int32)).toInt8.toInt32).toInt = 59 := by decide
  refine own_blk dec19 seq19 hby hx hZ hown hK hF 10 [false] [] X0 e0 ?_
  show (¬ (((4 : Int32)).toInt ≤ ((0 : Int32)).toInt)) ∧ own_Aft X0 h0 _ 16 [zA ba, zI 59, zI 0, zI 4, zI ((59 : Int32).toInt8.toInt32), zI 0] [.int 0, .ref ba]
  refine ⟨by decide, fun T1 X1 eh1 => ?_⟩
  refine own_bB X1 hx hZ eh1 (Ab.at (0 : Int32) 0 rfl rfl) (hb hby d19_16) ?_
  show own_Go p.tables e below _ (T1.setTop (mkF m 17 (Array.mk [zA ba, zI 59, zI 0, zI 4, zI ((59 : Int32).toInt8.toInt32), zI 0]) [.int b0]))
  by_cases q0 : b0.toInt = 59
  · skip
    refine own_blk dec19 seq19 hby hx hZ hown hK hF 3 [false] [] X1 eh1 ?_
    show (¬ ((b0).toInt ≠ ((59 : Int32).toInt8.toInt32).toInt)) ∧ own_Aft X1 h0 _ 24 [zA ba, zI 59, zI 0, zI 4, zI ((59 : Int32).toInt8.toInt32), zI 0] [.int 0]
    refine ⟨by rw [eb]; omega, fun T2 X2 eh2 => ?_⟩
    exact own_ret X2 hx hlk eh2 hret (by first | rfl | decide) (Or.inl ⟨rfl, by simp, _, rfl⟩) (hb hby d19_24) (by decide) (by decide) (⟨⟨_, rfl, Or.inr ⟨by decide, Or.inl (q0)⟩⟩, rfl, rfl⟩)
  · skip
    refine own_blk dec19 seq19 hby hx hZ hown hK hF 4 [true] [] X1 eh1 ?_
    show ((b0).toInt ≠ ((59 : Int32).toInt8.toInt32).toInt) ∧ own_Aft X1 h0 _ 7 [zA ba, zI 59, zI 0, zI 4, zI ((59 : Int32).toInt8.toInt32), zI 1] []
    refine ⟨by rw [eb]; exact q0, fun T3 X3 eh3 => ?_⟩
    refine own_blk dec19 seq19 hby hx hZ hown hK hF 5 [false] [] X3 eh3 ?_
    show (¬ (((4 : Int32)).toInt ≤ ((1 : Int32)).toInt)) ∧ own_Aft X3 h0 _ 16 [zA ba, zI 59, zI 0, zI 4, zI ((59 : Int32).toInt8.toInt32), zI 1] [.int 1, .ref ba]
    refine ⟨by decide, fun T4 X4 eh4 => ?_⟩
    refine own_bB X4 hx hZ eh4 (Ab.at (1 : Int32) 1 rfl rfl) (hb hby d19_16) ?_
    show own_Go p.tables e below _ (T4.setTop (mkF m 17 (Array.mk [zA ba, zI 59, zI 0, zI 4, zI ((59 : Int32).toInt8.toInt32), zI 1]) [.int b1]))
    by_cases q1 : b1.toInt = 59
    · skip
      refine own_blk dec19 seq19 hby hx hZ hown hK hF 3 [false] [] X4 eh4 ?_
      show (¬ ((b1).toInt ≠ ((59 : Int32).toInt8.toInt32).toInt)) ∧ own_Aft X4 h0 _ 24 [zA ba, zI 59, zI 0, zI 4, zI ((59 : Int32).toInt8.toInt32), zI 1] [.int 1]
      refine ⟨by rw [eb]; omega, fun T5 X5 eh5 => ?_⟩
      exact own_ret X5 hx hlk eh5 hret (by first | rfl | decide) (Or.inl ⟨rfl, by simp, _, rfl⟩) (hb hby d19_24) (by decide) (by decide) (⟨⟨_, rfl, Or.inr ⟨by decide, Or.inr (Or.inl (q1))⟩⟩, rfl, rfl⟩)
    · skip
      refine own_blk dec19 seq19 hby hx hZ hown hK hF 4 [true] [] X4 eh4 ?_
      show ((b1).toInt ≠ ((59 : Int32).toInt8.toInt32).toInt) ∧ own_Aft X4 h0 _ 7 [zA ba, zI 59, zI 0, zI 4, zI ((59 : Int32).toInt8.toInt32), zI 2] []
      refine ⟨by rw [eb]; exact q1, fun T6 X6 eh6 => ?_⟩
      refine own_blk dec19 seq19 hby hx hZ hown hK hF 5 [false] [] X6 eh6 ?_
      show (¬ (((4 : Int32)).toInt ≤ ((2 : Int32)).toInt)) ∧ own_Aft X6 h0 _ 16 [zA ba, zI 59, zI 0, zI 4, zI ((59 : Int32).toInt8.toInt32), zI 2] [.int 2, .ref ba]
      refine ⟨by decide, fun T7 X7 eh7 => ?_⟩
      refine own_bB X7 hx hZ eh7 (Ab.at (2 : Int32) 2 rfl rfl) (hb hby d19_16) ?_
      show own_Go p.tables e below _ (T7.setTop (mkF m 17 (Array.mk [zA ba, zI 59, zI 0, zI 4, zI ((59 : Int32).toInt8.toInt32), zI 2]) [.int b2]))
      by_cases q2 : b2.toInt = 59
      · skip
        refine own_blk dec19 seq19 hby hx hZ hown hK hF 3 [false] [] X7 eh7 ?_
        show (¬ ((b2).toInt ≠ ((59 : Int32).toInt8.toInt32).toInt)) ∧ own_Aft X7 h0 _ 24 [zA ba, zI 59, zI 0, zI 4, zI ((59 : Int32).toInt8.toInt32), zI 2] [.int 2]
        refine ⟨by rw [eb]; omega, fun T8 X8 eh8 => ?_⟩
        exact own_ret X8 hx hlk eh8 hret (by first | rfl | decide) (Or.inl ⟨rfl, by simp, _, rfl⟩) (hb hby d19_24) (by decide) (by decide) (⟨⟨_, rfl, Or.inr ⟨by decide, Or.inr (Or.inr (Or.inl (q2)))⟩⟩, rfl, rfl⟩)
      · skip
        refine own_blk dec19 seq19 hby hx hZ hown hK hF 4 [true] [] X7 eh7 ?_
        show ((b2).toInt ≠ ((59 : Int32).toInt8.toInt32).toInt) ∧ own_Aft X7 h0 _ 7 [zA ba, zI 59, zI 0, zI 4, zI ((59 : Int32).toInt8.toInt32), zI 3] []
        refine ⟨by rw [eb]; exact q2, fun T9 X9 eh9 => ?_⟩
        refine own_blk dec19 seq19 hby hx hZ hown hK hF 5 [false] [] X9 eh9 ?_
        show (¬ (((4 : Int32)).toInt ≤ ((3 : Int32)).toInt)) ∧ own_Aft X9 h0 _ 16 [zA ba, zI 59, zI 0, zI 4, zI ((59 : Int32).toInt8.toInt32), zI 3] [.int 3, .ref ba]
        refine ⟨by decide, fun T10 X10 eh10 => ?_⟩
        refine own_bB X10 hx hZ eh10 (Ab.at (3 : Int32) 3 rfl rfl) (hb hby d19_16) ?_
        show own_Go p.tables e below _ (T10.setTop (mkF m 17 (Array.mk [zA ba, zI 59, zI 0, zI 4, zI ((59 : Int32).toInt8.toInt32), zI 3]) [.int b3]))
        by_cases q3 : b3.toInt = 59
        · skip
          refine own_blk dec19 seq19 hby hx hZ hown hK hF 3 [false] [] X10 eh10 ?_
          show (¬ ((b3).toInt ≠ ((59 : Int32).toInt8.toInt32).toInt)) ∧ own_Aft X10 h0 _ 24 [zA ba, zI 59, zI 0, zI 4, zI ((59 : Int32).toInt8.toInt32), zI 3] [.int 3]
          refine ⟨by rw [eb]; omega, fun T11 X11 eh11 => ?_⟩
          exact own_ret X11 hx hlk eh11 hret (by first | rfl | decide) (Or.inl ⟨rfl, by simp, _, rfl⟩) (hb hby d19_24) (by decide) (by decide) (⟨⟨_, rfl, Or.inr ⟨by decide, Or.inr (Or.inr (Or.inr (q3)))⟩⟩, rfl, rfl⟩)
        · skip
          refine own_blk dec19 seq19 hby hx hZ hown hK hF 4 [true] [] X10 eh10 ?_
          show ((b3).toInt ≠ ((59 : Int32).toInt8.toInt32).toInt) ∧ own_Aft X10 h0 _ 7 [zA ba, zI 59, zI 0, zI 4, zI ((59 : Int32).toInt8.toInt32), zI 4] []
          refine ⟨by rw [eb]; exact q3, fun T12 X12 eh12 => ?_⟩
          refine own_blk dec19 seq19 hby hx hZ hown hK hF 4 [true] [] X12 eh12 ?_
          show (((4 : Int32)).toInt ≤ ((4 : Int32)).toInt) ∧ own_Aft X12 h0 _ 32 [zA ba, zI 59, zI 0, zI 4, zI ((59 : Int32).toInt8.toInt32), zI 4] [.int (-1)]
          refine ⟨by decide, fun T13 X13 eh13 => ?_⟩
          exact own_ret X13 hx hlk eh13 hret (by first | rfl | decide) (Or.inl ⟨rfl, by simp, _, rfl⟩) (hb hby d19_32) (by decide) (by decide) (⟨⟨_, rfl, Or.inl ⟨by decide, q0, q1, q2, q3⟩⟩, rfl, rfl⟩)
set_option maxRecDepth 65536 in
set_option maxHeartbeats 40000000 in
theorem rm19_4_124 (l : Launch) (Z : State) (a0 : Array Value) (hw : ∀ d ∈ tables_1, d.before a0 Z = true) (ws : List Jvm.Cond) (ba : Addr) (b0 b1 b2 b3 : Int32) (h0 : Heap) (n0 : Nat) (Z0 : n0 ≤ h0.size) (Ab : own_A Z h0 ba .byte [.int b0, .int b1, .int b2, .int b3]) :
    own_MF l (⟨"java/lang/StringLatin1", "indexOfChar", "([BIII)I"⟩ : MethodName) jdk_43_method_23_code 6 (some .int) ws ({ frames := 0, cells := 0, slots := 0, locals := 0 } : Room) #[.ref ba, .int 124, .int 0, .int 4] Z h0 (fun v h L => (∃ r : Int32, v = some (.int r) ∧ ((r.toInt < 0 ∧ b0.toInt ≠ 124 ∧ b1.toInt ≠ 124 ∧ b2.toInt ≠ 124 ∧ b3.toInt ≠ 124) ∨ (0 ≤ r.toInt ∧ (b0.toInt = 124 ∨ b1.toInt = 124 ∨ b2.toInt = 124 ∨ b3.toInt = 124)))) ∧ L = [] ∧ h = h0) := by
  refine own_body pf19 (ls0 := [.val (.ref ba), .val (.int 124), .val (.int 0), .val (.int 4), .unset, .unset]) (fun m => by first | (simp [entryFrame, mkF, argsToLocals, Value.category, maxLocals]; done) | rfl) ?_
  intro p e s m below meth c T0 hx hby hml hown hnm hlk hret hZ X0 e0
  have hK := hKt15 hw; have hF := hFt15 hw
  have N0 := Fr.nil n0
  have eb : (((124 : Int32)).toInt8.toInt32).toInt = 124 := by decide
  refine own_blk dec19 seq19 hby hx hZ hown hK hF 10 [false] [] X0 e0 ?_
  show (¬ (((4 : Int32)).toInt ≤ ((0 : Int32)).toInt)) ∧ own_Aft X0 h0 _ 16 [zA ba, zI 124, zI 0, zI 4, zI ((124 : Int32).toInt8.toInt32), zI 0] [.int 0, .ref ba]
  refine ⟨by decide, fun T1 X1 eh1 => ?_⟩
  refine own_bB X1 hx hZ eh1 (Ab.at (0 : Int32) 0 rfl rfl) (hb hby d19_16) ?_
  show own_Go p.tables e below _ (T1.setTop (mkF m 17 (Array.mk [zA ba, zI 124, zI 0, zI 4, zI ((124 : Int32).toInt8.toInt32), zI 0]) [.int b0]))
  by_cases q0 : b0.toInt = 124
  · skip
    refine own_blk dec19 seq19 hby hx hZ hown hK hF 3 [false] [] X1 eh1 ?_
    show (¬ ((b0).toInt ≠ ((124 : Int32).toInt8.toInt32).toInt)) ∧ own_Aft X1 h0 _ 24 [zA ba, zI 124, zI 0, zI 4, zI ((124 : Int32).toInt8.toInt32), zI 0] [.int 0]
    refine ⟨by rw [eb]; omega, fun T2 X2 eh2 => ?_⟩
    exact own_ret X2 hx hlk eh2 hret (by first | rfl | decide) (Or.inl ⟨rfl, by simp, _, rfl⟩) (hb hby d19_24) (by decide) (by decide) (⟨⟨_, rfl, Or.inr ⟨by decide, Or.inl (q0)⟩⟩, rfl, rfl⟩)
  · skip
    refine own_blk dec19 seq19 hby hx hZ hown hK hF 4 [true] [] X1 eh1 ?_
    show ((b0).toInt ≠ ((124 : Int32).toInt8.toInt32).toInt) ∧ own_Aft X1 h0 _ 7 [zA ba, zI 124, zI 0, zI 4, zI ((124 : Int32).toInt8.toInt32), zI 1] []
    refine ⟨by rw [eb]; exact q0, fun T3 X3 eh3 => ?_⟩
    refine own_blk dec19 seq19 hby hx hZ hown hK hF 5 [false] [] X3 eh3 ?_
    show (¬ (((4 : Int32)).toInt ≤ ((1 : Int32)).toInt)) ∧ own_Aft X3 h0 _ 16 [zA ba, zI 124, zI 0, zI 4, zI ((124 : Int32).toInt8.toInt32), zI 1] [.int 1, .ref ba]
    refine ⟨by decide, fun T4 X4 eh4 => ?_⟩
    refine own_bB X4 hx hZ eh4 (Ab.at (1 : Int32) 1 rfl rfl) (hb hby d19_16) ?_
    show own_Go p.tables e below _ (T4.setTop (mkF m 17 (Array.mk [zA ba, zI 124, zI 0, zI 4, zI ((124 : Int32).toInt8.toInt32), zI 1]) [.int b1]))
    by_cases q1 : b1.toInt = 124
    · skip
      refine own_blk dec19 seq19 hby hx hZ hown hK hF 3 [false] [] X4 eh4 ?_
      show (¬ ((b1).toInt ≠ ((124 : Int32).toInt8.toInt32).toInt)) ∧ own_Aft X4 h0 _ 24 [zA ba, zI 124, zI 0, zI 4, zI ((124 : Int32).toInt8.toInt32), zI 1] [.int 1]
      refine ⟨by rw [eb]; omega, fun T5 X5 eh5 => ?_⟩
      exact own_ret X5 hx hlk eh5 hret (by first | rfl | decide) (Or.inl ⟨rfl, by simp, _, rfl⟩) (hb hby d19_24) (by decide) (by decide) (⟨⟨_, rfl, Or.inr ⟨by decide, Or.inr (Or.inl (q1))⟩⟩, rfl, rfl⟩)
    · skip
      refine own_blk dec19 seq19 hby hx hZ hown hK hF 4 [true] [] X4 eh4 ?_
      show ((b1).toInt ≠ ((124 : Int32).toInt8.toInt32).toInt) ∧ own_Aft X4 h0 _ 7 [zA ba, zI 124, zI 0, zI 4, zI ((124 : Int32).toInt8.toInt32), zI 2] []
      refine ⟨by rw [eb]; exact q1, fun T6 X6 eh6 => ?_⟩
      refine own_blk dec19 seq19 hby hx hZ hown hK hF 5 [false] [] X6 eh6 ?_
      show (¬ (((4 : Int32)).toInt ≤ ((2 : Int32)).toInt)) ∧ own_Aft X6 h0 _ 16 [zA ba, zI 124, zI 0, zI 4, zI ((124 : Int32).toInt8.toInt32), zI 2] [.int 2, .ref ba]
      refine ⟨by decide, fun T7 X7 eh7 => ?_⟩
      refine own_bB X7 hx hZ eh7 (Ab.at (2 : Int32) 2 rfl rfl) (hb hby d19_16) ?_
      show own_Go p.tables e below _ (T7.setTop (mkF m 17 (Array.mk [zA ba, zI 124, zI 0, zI 4, zI ((124 : Int32).toInt8.toInt32), zI 2]) [.int b2]))
      by_cases q2 : b2.toInt = 124
      · skip
        refine own_blk dec19 seq19 hby hx hZ hown hK hF 3 [false] [] X7 eh7 ?_
        show (¬ ((b2).toInt ≠ ((124 : Int32).toInt8.toInt32).toInt)) ∧ own_Aft X7 h0 _ 24 [zA ba, zI 124, zI 0, zI 4, zI ((124 : Int32).toInt8.toInt32), zI 2] [.int 2]
        refine ⟨by rw [eb]; omega, fun T8 X8 eh8 => ?_⟩
        exact own_ret X8 hx hlk eh8 hret (by first | rfl | decide) (Or.inl ⟨rfl, by simp, _, rfl⟩) (hb hby d19_24) (by decide) (by decide) (⟨⟨_, rfl, Or.inr ⟨by decide, Or.inr (Or.inr (Or.inl (q2)))⟩⟩, rfl, rfl⟩)
      · skip
        refine own_blk dec19 seq19 hby hx hZ hown hK hF 4 [true] [] X7 eh7 ?_
        show ((b2).toInt ≠ ((124 : Int32).toInt8.toInt32).toInt) ∧ own_Aft X7 h0 _ 7 [zA ba, zI 124, zI 0, zI 4, zI ((124 : Int32).toInt8.toInt32), zI 3] []
        refine ⟨by rw [eb]; exact q2, fun T9 X9 eh9 => ?_⟩
        refine own_blk dec19 seq19 hby hx hZ hown hK hF 5 [false] [] X9 eh9 ?_
        show (¬ (((4 : Int32)).toInt ≤ ((3 : Int32)).toInt)) ∧ own_Aft X9 h0 _ 16 [zA ba, zI 124, zI 0, zI 4, zI ((124 : Int32).toInt8.toInt32), zI 3] [.int 3, .ref ba]
        refine ⟨by decide, fun T10 X10 eh10 => ?_⟩
        refine own_bB X10 hx hZ eh10 (Ab.at (3 : Int32) 3 rfl rfl) (hb hby d19_16) ?_
        show own_Go p.tables e below _ (T10.setTop (mkF m 17 (Array.mk [zA ba, zI 124, zI 0, zI 4, zI ((124 : Int32).toInt8.toInt32), zI 3]) [.int b3]))
        by_cases q3 : b3.toInt = 124
        · skip
          refine own_blk dec19 seq19 hby hx hZ hown hK hF 3 [false] [] X10 eh10 ?_
          show (¬ ((b3).toInt ≠ ((124 : Int32).toInt8.toInt32).toInt)) ∧ own_Aft X10 h0 _ 24 [zA ba, zI 124, zI 0, zI 4, zI ((124 : Int32).toInt8.toInt32), zI 3] [.int 3]
          refine ⟨by rw [eb]; omega, fun T11 X11 eh11 => ?_⟩
          exact own_ret X11 hx hlk eh11 hret (by first | rfl | decide) (Or.inl ⟨rfl, by simp, _, rfl⟩) (hb hby d19_24) (by decide) (by decide) (⟨⟨_, rfl, Or.inr ⟨by decide, Or.inr (Or.inr (Or.inr (q3)))⟩⟩, rfl, rfl⟩)
        · skip
          refine own_blk dec19 seq19 hby hx hZ hown hK hF 4 [true] [] X10 eh10 ?_
          show ((b3).toInt ≠ ((124 : Int32).toInt8.toInt32).toInt) ∧ own_Aft X10 h0 _ 7 [zA ba, zI 124, zI 0, zI 4, zI ((124 : Int32).toInt8.toInt32), zI 4] []
          refine ⟨by rw [eb]; exact q3, fun T12 X12 eh12 => ?_⟩
          refine own_blk dec19 seq19 hby hx hZ hown hK hF 4 [true] [] X12 eh12 ?_
          show (((4 : Int32)).toInt ≤ ((4 : Int32)).toInt) ∧ own_Aft X12 h0 _ 32 [zA ba, zI 124, zI 0, zI 4, zI ((124 : Int32).toInt8.toInt32), zI 4] [.int (-1)]
          refine ⟨by decide, fun T13 X13 eh13 => ?_⟩
          exact own_ret X13 hx hlk eh13 hret (by first | rfl | decide) (Or.inl ⟨rfl, by simp, _, rfl⟩) (hb hby d19_32) (by decide) (by decide) (⟨⟨_, rfl, Or.inl ⟨by decide, q0, q1, q2, q3⟩⟩, rfl, rfl⟩)
set_option maxRecDepth 65536 in
set_option maxHeartbeats 40000000 in
theorem rm15_1_59 (l : Launch) (Z : State) (a0 : Array Value) (hw : ∀ d ∈ tables_1, d.before a0 Z = true) (ws : List Jvm.Cond) (ba : Addr) (b0 : Int32) (h0 : Heap) (n0 : Nat) (Z0 : n0 ≤ h0.size) (Ab : own_A Z h0 ba .byte [.int b0]) :
    own_MF l (⟨"java/lang/StringLatin1", "indexOf", "([BIII)I"⟩ : MethodName) jdk_43_method_22_code 4 (some .int) ws ({ frames := 1, cells := 0, slots := 0, locals := 24 } : Room) #[.ref ba, .int 59, .int 0, .int 1] Z h0 (fun v h L => (∃ r : Int32, v = some (.int r) ∧ ((r.toInt < 0 ∧ b0.toInt ≠ 59) ∨ (0 ≤ r.toInt ∧ (b0.toInt = 59)))) ∧ L = [] ∧ h = h0) := by
  refine own_body pf15 (ls0 := [.val (.ref ba), .val (.int 59), .val (.int 0), .val (.int 1)]) (fun m => by first | (simp [entryFrame, mkF, argsToLocals, Value.category, maxLocals]; done) | rfl) ?_
  intro p e s m below meth c T0 hx hby hml hown hnm hlk hret hZ X0 e0
  have hK := hKt15 hw; have hF := hFt15 hw
  have N0 := Fr.nil n0
  refine own_blk dec15 seq15 hby hx hZ hown hK hF 1 [] [] X0 e0 ?_
  show own_Aft X0 h0 _ 1 [zA ba, zI 59, zI 0, zI 1] [.int 59]
  refine fun T1 X1 eh1 => ?_
  refine own_callSP X1 hx hZ hown (hw _ (wm 70 rfl)) (hw _ (wm 71 rfl)) (hw _ (wm 68 rfl)) (hw _ (wm 72 rfl)) (by decide) eh1 [.int 59] pd16 rfl (fr := 0) (lo := 0) (rm16_59 l Z a0 hw [] h0 n0 Z0) (by rw [hml]; rfl) 0 rfl (Nat.le_of_eq rfl) (hb hby d15_1) (by decide) (by decide) (by decide) (by decide) (fun T2 rv2 X2 eh2 qc2 => ?_)
  obtain rfl := qc2
  show own_Go p.tables e below _ (T2.setTop (mkF m 4 (Array.mk [zA ba, zI 59, zI 0, zI 1]) [.int 1]))
  refine own_blk dec15 seq15 hby hx hZ hown hK hF 3 [true] [] X2 eh2 ?_
  show (((1 : Int32)).toInt ≠ 0) ∧ own_Aft X2 h0 _ 11 [zA ba, zI 59, zI 0, zI 1] [.int 0, .int 0]
  refine ⟨by decide, fun T3 X3 eh3 => ?_⟩
  refine own_callSP X3 hx hZ hown (hw _ (wm 73 rfl)) (hw _ (wm 74 rfl)) (hw _ (wm 75 rfl)) (hw _ (wm 76 rfl)) (by decide) eh3 [.int 0, .int 0] pd17 rfl (fr := 0) (lo := 0) (rm17 l Z a0 hw [] h0 n0 Z0) (by rw [hml]; rfl) 0 rfl (Nat.le_of_eq rfl) (hb hby d15_11) (by decide) (by decide) (by decide) (by decide) (fun T4 rv4 X4 eh4 qc4 => ?_)
  obtain rfl := qc4
  show own_Go p.tables e below _ (T4.setTop (mkF m 14 (Array.mk [zA ba, zI 59, zI 0, zI 1]) [.int 0]))
  refine own_blk dec15 seq15 hby hx hZ hown hK hF 4 [] [.int 1] X4 eh4 ?_
  show (own_ln Z h0 ba (1 : Int32)) ∧ own_Aft X4 h0 _ 18 [zA ba, zI 59, zI 0, zI 1] [.int 1, .int 1]
  refine ⟨Ab.ln (1 : Int32) rfl, fun T5 X5 eh5 => ?_⟩
  refine own_callSP X5 hx hZ hown (hw _ (wm 77 rfl)) (hw _ (wm 78 rfl)) (hw _ (wm 75 rfl)) (hw _ (wm 79 rfl)) (by decide) eh5 [.int 1, .int 1] pd18 rfl (fr := 0) (lo := 0) (rm18_1 l Z a0 hw [] h0 n0 Z0) (by rw [hml]; rfl) 0 rfl (Nat.le_of_eq rfl) (hb hby d15_18) (by decide) (by decide) (by decide) (by decide) (fun T6 rv6 X6 eh6 qc6 => ?_)
  obtain rfl := qc6
  show own_Go p.tables e below _ (T6.setTop (mkF m 21 (Array.mk [zA ba, zI 59, zI 0, zI 1]) [.int 1]))
  refine own_blk dec15 seq15 hby hx hZ hown hK hF 8 [true] [] X6 eh6 ?_
  show (((0 : Int32)).toInt < ((1 : Int32)).toInt) ∧ own_Aft X6 h0 _ 33 [zA ba, zI 59, zI 0, zI 1] [.int 1, .int 0, .int 59, .ref ba]
  refine ⟨by decide, fun T7 X7 eh7 => ?_⟩
  refine own_callSP X7 hx hZ hown (hw _ (wm 80 rfl)) (hw _ (wm 81 rfl)) (hw _ (wm 68 rfl)) (hw _ (wm 82 rfl)) (by decide) eh7 [.ref ba, .int 59, .int 0, .int 1] pd19 rfl (fr := 0) (lo := 0) (rm19_1_59 l Z a0 hw [] ba b0 h0 n0 Z0 Ab) (by rw [hml]; rfl) 0 rfl (Nat.le_of_eq rfl) (hb hby d15_33) (by decide) (by decide) (by decide) (by decide) (fun T8 rv8 X8 eh8 qc8 => ?_)
  obtain ⟨r, rfl, hr⟩ := qc8
  show own_Go p.tables e below _ (T8.setTop (mkF m 36 (Array.mk [zA ba, zI 59, zI 0, zI 1]) [.int r]))
  exact own_ret X8 hx hlk eh8 hret (by first | rfl | decide) (Or.inl ⟨rfl, by simp, _, rfl⟩) (hb hby d15_36) (by decide) (by decide) (⟨⟨_, rfl, hr⟩, rfl, rfl⟩)
set_option maxRecDepth 65536 in
set_option maxHeartbeats 40000000 in
theorem rm15_1_124 (l : Launch) (Z : State) (a0 : Array Value) (hw : ∀ d ∈ tables_1, d.before a0 Z = true) (ws : List Jvm.Cond) (ba : Addr) (b0 : Int32) (h0 : Heap) (n0 : Nat) (Z0 : n0 ≤ h0.size) (Ab : own_A Z h0 ba .byte [.int b0]) :
    own_MF l (⟨"java/lang/StringLatin1", "indexOf", "([BIII)I"⟩ : MethodName) jdk_43_method_22_code 4 (some .int) ws ({ frames := 1, cells := 0, slots := 0, locals := 24 } : Room) #[.ref ba, .int 124, .int 0, .int 1] Z h0 (fun v h L => (∃ r : Int32, v = some (.int r) ∧ ((r.toInt < 0 ∧ b0.toInt ≠ 124) ∨ (0 ≤ r.toInt ∧ (b0.toInt = 124)))) ∧ L = [] ∧ h = h0) := by
  refine own_body pf15 (ls0 := [.val (.ref ba), .val (.int 124), .val (.int 0), .val (.int 1)]) (fun m => by first | (simp [entryFrame, mkF, argsToLocals, Value.category, maxLocals]; done) | rfl) ?_
  intro p e s m below meth c T0 hx hby hml hown hnm hlk hret hZ X0 e0
  have hK := hKt15 hw; have hF := hFt15 hw
  have N0 := Fr.nil n0
  refine own_blk dec15 seq15 hby hx hZ hown hK hF 1 [] [] X0 e0 ?_
  show own_Aft X0 h0 _ 1 [zA ba, zI 124, zI 0, zI 1] [.int 124]
  refine fun T1 X1 eh1 => ?_
  refine own_callSP X1 hx hZ hown (hw _ (wm 70 rfl)) (hw _ (wm 71 rfl)) (hw _ (wm 68 rfl)) (hw _ (wm 72 rfl)) (by decide) eh1 [.int 124] pd16 rfl (fr := 0) (lo := 0) (rm16_124 l Z a0 hw [] h0 n0 Z0) (by rw [hml]; rfl) 0 rfl (Nat.le_of_eq rfl) (hb hby d15_1) (by decide) (by decide) (by decide) (by decide) (fun T2 rv2 X2 eh2 qc2 => ?_)
  obtain rfl := qc2
  show own_Go p.tables e below _ (T2.setTop (mkF m 4 (Array.mk [zA ba, zI 124, zI 0, zI 1]) [.int 1]))
  refine own_blk dec15 seq15 hby hx hZ hown hK hF 3 [true] [] X2 eh2 ?_
  show (((1 : Int32)).toInt ≠ 0) ∧ own_Aft X2 h0 _ 11 [zA ba, zI 124, zI 0, zI 1] [.int 0, .int 0]
  refine ⟨by decide, fun T3 X3 eh3 => ?_⟩
  refine own_callSP X3 hx hZ hown (hw _ (wm 73 rfl)) (hw _ (wm 74 rfl)) (hw _ (wm 75 rfl)) (hw _ (wm 76 rfl)) (by decide) eh3 [.int 0, .int 0] pd17 rfl (fr := 0) (lo := 0) (rm17 l Z a0 hw [] h0 n0 Z0) (by rw [hml]; rfl) 0 rfl (Nat.le_of_eq rfl) (hb hby d15_11) (by decide) (by decide) (by decide) (by decide) (fun T4 rv4 X4 eh4 qc4 => ?_)
  obtain rfl := qc4
  show own_Go p.tables e below _ (T4.setTop (mkF m 14 (Array.mk [zA ba, zI 124, zI 0, zI 1]) [.int 0]))
  refine own_blk dec15 seq15 hby hx hZ hown hK hF 4 [] [.int 1] X4 eh4 ?_
  show (own_ln Z h0 ba (1 : Int32)) ∧ own_Aft X4 h0 _ 18 [zA ba, zI 124, zI 0, zI 1] [.int 1, .int 1]
  refine ⟨Ab.ln (1 : Int32) rfl, fun T5 X5 eh5 => ?_⟩
  refine own_callSP X5 hx hZ hown (hw _ (wm 77 rfl)) (hw _ (wm 78 rfl)) (hw _ (wm 75 rfl)) (hw _ (wm 79 rfl)) (by decide) eh5 [.int 1, .int 1] pd18 rfl (fr := 0) (lo := 0) (rm18_1 l Z a0 hw [] h0 n0 Z0) (by rw [hml]; rfl) 0 rfl (Nat.le_of_eq rfl) (hb hby d15_18) (by decide) (by decide) (by decide) (by decide) (fun T6 rv6 X6 eh6 qc6 => ?_)
  obtain rfl := qc6
  show own_Go p.tables e below _ (T6.setTop (mkF m 21 (Array.mk [zA ba, zI 124, zI 0, zI 1]) [.int 1]))
  refine own_blk dec15 seq15 hby hx hZ hown hK hF 8 [true] [] X6 eh6 ?_
  show (((0 : Int32)).toInt < ((1 : Int32)).toInt) ∧ own_Aft X6 h0 _ 33 [zA ba, zI 124, zI 0, zI 1] [.int 1, .int 0, .int 124, .ref ba]
  refine ⟨by decide, fun T7 X7 eh7 => ?_⟩
  refine own_callSP X7 hx hZ hown (hw _ (wm 80 rfl)) (hw _ (wm 81 rfl)) (hw _ (wm 68 rfl)) (hw _ (wm 82 rfl)) (by decide) eh7 [.ref ba, .int 124, .int 0, .int 1] pd19 rfl (fr := 0) (lo := 0) (rm19_1_124 l Z a0 hw [] ba b0 h0 n0 Z0 Ab) (by rw [hml]; rfl) 0 rfl (Nat.le_of_eq rfl) (hb hby d15_33) (by decide) (by decide) (by decide) (by decide) (fun T8 rv8 X8 eh8 qc8 => ?_)
  obtain ⟨r, rfl, hr⟩ := qc8
  show own_Go p.tables e below _ (T8.setTop (mkF m 36 (Array.mk [zA ba, zI 124, zI 0, zI 1]) [.int r]))
  exact own_ret X8 hx hlk eh8 hret (by first | rfl | decide) (Or.inl ⟨rfl, by simp, _, rfl⟩) (hb hby d15_36) (by decide) (by decide) (⟨⟨_, rfl, hr⟩, rfl, rfl⟩)
set_option maxRecDepth 65536 in
set_option maxHeartbeats 40000000 in
theorem rm15_2_59 (l : Launch) (Z : State) (a0 : Array Value) (hw : ∀ d ∈ tables_1, d.before a0 Z = true) (ws : List Jvm.Cond) (ba : Addr) (b0 b1 : Int32) (h0 : Heap) (n0 : Nat) (Z0 : n0 ≤ h0.size) (Ab : own_A Z h0 ba .byte [.int b0, .int b1]) :
    own_MF l (⟨"java/lang/StringLatin1", "indexOf", "([BIII)I"⟩ : MethodName) jdk_43_method_22_code 4 (some .int) ws ({ frames := 1, cells := 0, slots := 0, locals := 24 } : Room) #[.ref ba, .int 59, .int 0, .int 2] Z h0 (fun v h L => (∃ r : Int32, v = some (.int r) ∧ ((r.toInt < 0 ∧ b0.toInt ≠ 59 ∧ b1.toInt ≠ 59) ∨ (0 ≤ r.toInt ∧ (b0.toInt = 59 ∨ b1.toInt = 59)))) ∧ L = [] ∧ h = h0) := by
  refine own_body pf15 (ls0 := [.val (.ref ba), .val (.int 59), .val (.int 0), .val (.int 2)]) (fun m => by first | (simp [entryFrame, mkF, argsToLocals, Value.category, maxLocals]; done) | rfl) ?_
  intro p e s m below meth c T0 hx hby hml hown hnm hlk hret hZ X0 e0
  have hK := hKt15 hw; have hF := hFt15 hw
  have N0 := Fr.nil n0
  refine own_blk dec15 seq15 hby hx hZ hown hK hF 1 [] [] X0 e0 ?_
  show own_Aft X0 h0 _ 1 [zA ba, zI 59, zI 0, zI 2] [.int 59]
  refine fun T1 X1 eh1 => ?_
  refine own_callSP X1 hx hZ hown (hw _ (wm 70 rfl)) (hw _ (wm 71 rfl)) (hw _ (wm 68 rfl)) (hw _ (wm 72 rfl)) (by decide) eh1 [.int 59] pd16 rfl (fr := 0) (lo := 0) (rm16_59 l Z a0 hw [] h0 n0 Z0) (by rw [hml]; rfl) 0 rfl (Nat.le_of_eq rfl) (hb hby d15_1) (by decide) (by decide) (by decide) (by decide) (fun T2 rv2 X2 eh2 qc2 => ?_)
  obtain rfl := qc2
  show own_Go p.tables e below _ (T2.setTop (mkF m 4 (Array.mk [zA ba, zI 59, zI 0, zI 2]) [.int 1]))
  refine own_blk dec15 seq15 hby hx hZ hown hK hF 3 [true] [] X2 eh2 ?_
  show (((1 : Int32)).toInt ≠ 0) ∧ own_Aft X2 h0 _ 11 [zA ba, zI 59, zI 0, zI 2] [.int 0, .int 0]
  refine ⟨by decide, fun T3 X3 eh3 => ?_⟩
  refine own_callSP X3 hx hZ hown (hw _ (wm 73 rfl)) (hw _ (wm 74 rfl)) (hw _ (wm 75 rfl)) (hw _ (wm 76 rfl)) (by decide) eh3 [.int 0, .int 0] pd17 rfl (fr := 0) (lo := 0) (rm17 l Z a0 hw [] h0 n0 Z0) (by rw [hml]; rfl) 0 rfl (Nat.le_of_eq rfl) (hb hby d15_11) (by decide) (by decide) (by decide) (by decide) (fun T4 rv4 X4 eh4 qc4 => ?_)
  obtain rfl := qc4
  show own_Go p.tables e below _ (T4.setTop (mkF m 14 (Array.mk [zA ba, zI 59, zI 0, zI 2]) [.int 0]))
  refine own_blk dec15 seq15 hby hx hZ hown hK hF 4 [] [.int 2] X4 eh4 ?_
  show (own_ln Z h0 ba (2 : Int32)) ∧ own_Aft X4 h0 _ 18 [zA ba, zI 59, zI 0, zI 2] [.int 2, .int 2]
  refine ⟨Ab.ln (2 : Int32) rfl, fun T5 X5 eh5 => ?_⟩
  refine own_callSP X5 hx hZ hown (hw _ (wm 77 rfl)) (hw _ (wm 78 rfl)) (hw _ (wm 75 rfl)) (hw _ (wm 79 rfl)) (by decide) eh5 [.int 2, .int 2] pd18 rfl (fr := 0) (lo := 0) (rm18_2 l Z a0 hw [] h0 n0 Z0) (by rw [hml]; rfl) 0 rfl (Nat.le_of_eq rfl) (hb hby d15_18) (by decide) (by decide) (by decide) (by decide) (fun T6 rv6 X6 eh6 qc6 => ?_)
  obtain rfl := qc6
  show own_Go p.tables e below _ (T6.setTop (mkF m 21 (Array.mk [zA ba, zI 59, zI 0, zI 2]) [.int 2]))
  refine own_blk dec15 seq15 hby hx hZ hown hK hF 8 [true] [] X6 eh6 ?_
  show (((0 : Int32)).toInt < ((2 : Int32)).toInt) ∧ own_Aft X6 h0 _ 33 [zA ba, zI 59, zI 0, zI 2] [.int 2, .int 0, .int 59, .ref ba]
  refine ⟨by decide, fun T7 X7 eh7 => ?_⟩
  refine own_callSP X7 hx hZ hown (hw _ (wm 80 rfl)) (hw _ (wm 81 rfl)) (hw _ (wm 68 rfl)) (hw _ (wm 82 rfl)) (by decide) eh7 [.ref ba, .int 59, .int 0, .int 2] pd19 rfl (fr := 0) (lo := 0) (rm19_2_59 l Z a0 hw [] ba b0 b1 h0 n0 Z0 Ab) (by rw [hml]; rfl) 0 rfl (Nat.le_of_eq rfl) (hb hby d15_33) (by decide) (by decide) (by decide) (by decide) (fun T8 rv8 X8 eh8 qc8 => ?_)
  obtain ⟨r, rfl, hr⟩ := qc8
  show own_Go p.tables e below _ (T8.setTop (mkF m 36 (Array.mk [zA ba, zI 59, zI 0, zI 2]) [.int r]))
  exact own_ret X8 hx hlk eh8 hret (by first | rfl | decide) (Or.inl ⟨rfl, by simp, _, rfl⟩) (hb hby d15_36) (by decide) (by decide) (⟨⟨_, rfl, hr⟩, rfl, rfl⟩)
set_option maxRecDepth 65536 in
set_option maxHeartbeats 40000000 in
theorem rm15_2_124 (l : Launch) (Z : State) (a0 : Array Value) (hw : ∀ d ∈ tables_1, d.before a0 Z = true) (ws : List Jvm.Cond) (ba : Addr) (b0 b1 : Int32) (h0 : Heap) (n0 : Nat) (Z0 : n0 ≤ h0.size) (Ab : own_A Z h0 ba .byte [.int b0, .int b1]) :
    own_MF l (⟨"java/lang/StringLatin1", "indexOf", "([BIII)I"⟩ : MethodName) jdk_43_method_22_code 4 (some .int) ws ({ frames := 1, cells := 0, slots := 0, locals := 24 } : Room) #[.ref ba, .int 124, .int 0, .int 2] Z h0 (fun v h L => (∃ r : Int32, v = some (.int r) ∧ ((r.toInt < 0 ∧ b0.toInt ≠ 124 ∧ b1.toInt ≠ 124) ∨ (0 ≤ r.toInt ∧ (b0.toInt = 124 ∨ b1.toInt = 124)))) ∧ L = [] ∧ h = h0) := by
  refine own_body pf15 (ls0 := [.val (.ref ba), .val (.int 124), .val (.int 0), .val (.int 2)]) (fun m => by first | (simp [entryFrame, mkF, argsToLocals, Value.category, maxLocals]; done) | rfl) ?_
  intro p e s m below meth c T0 hx hby hml hown hnm hlk hret hZ X0 e0
  have hK := hKt15 hw; have hF := hFt15 hw
  have N0 := Fr.nil n0
  refine own_blk dec15 seq15 hby hx hZ hown hK hF 1 [] [] X0 e0 ?_
  show own_Aft X0 h0 _ 1 [zA ba, zI 124, zI 0, zI 2] [.int 124]
  refine fun T1 X1 eh1 => ?_
  refine own_callSP X1 hx hZ hown (hw _ (wm 70 rfl)) (hw _ (wm 71 rfl)) (hw _ (wm 68 rfl)) (hw _ (wm 72 rfl)) (by decide) eh1 [.int 124] pd16 rfl (fr := 0) (lo := 0) (rm16_124 l Z a0 hw [] h0 n0 Z0) (by rw [hml]; rfl) 0 rfl (Nat.le_of_eq rfl) (hb hby d15_1) (by decide) (by decide) (by decide) (by decide) (fun T2 rv2 X2 eh2 qc2 => ?_)
  obtain rfl := qc2
  show own_Go p.tables e below _ (T2.setTop (mkF m 4 (Array.mk [zA ba, zI 124, zI 0, zI 2]) [.int 1]))
  refine own_blk dec15 seq15 hby hx hZ hown hK hF 3 [true] [] X2 eh2 ?_
  show (((1 : Int32)).toInt ≠ 0) ∧ own_Aft X2 h0 _ 11 [zA ba, zI 124, zI 0, zI 2] [.int 0, .int 0]
  refine ⟨by decide, fun T3 X3 eh3 => ?_⟩
  refine own_callSP X3 hx hZ hown (hw _ (wm 73 rfl)) (hw _ (wm 74 rfl)) (hw _ (wm 75 rfl)) (hw _ (wm 76 rfl)) (by decide) eh3 [.int 0, .int 0] pd17 rfl (fr := 0) (lo := 0) (rm17 l Z a0 hw [] h0 n0 Z0) (by rw [hml]; rfl) 0 rfl (Nat.le_of_eq rfl) (hb hby d15_11) (by decide) (by decide) (by decide) (by decide) (fun T4 rv4 X4 eh4 qc4 => ?_)
  obtain rfl := qc4
  show own_Go p.tables e below _ (T4.setTop (mkF m 14 (Array.mk [zA ba, zI 124, zI 0, zI 2]) [.int 0]))
  refine own_blk dec15 seq15 hby hx hZ hown hK hF 4 [] [.int 2] X4 eh4 ?_
  show (own_ln Z h0 ba (2 : Int32)) ∧ own_Aft X4 h0 _ 18 [zA ba, zI 124, zI 0, zI 2] [.int 2, .int 2]
  refine ⟨Ab.ln (2 : Int32) rfl, fun T5 X5 eh5 => ?_⟩
  refine own_callSP X5 hx hZ hown (hw _ (wm 77 rfl)) (hw _ (wm 78 rfl)) (hw _ (wm 75 rfl)) (hw _ (wm 79 rfl)) (by decide) eh5 [.int 2, .int 2] pd18 rfl (fr := 0) (lo := 0) (rm18_2 l Z a0 hw [] h0 n0 Z0) (by rw [hml]; rfl) 0 rfl (Nat.le_of_eq rfl) (hb hby d15_18) (by decide) (by decide) (by decide) (by decide) (fun T6 rv6 X6 eh6 qc6 => ?_)
  obtain rfl := qc6
  show own_Go p.tables e below _ (T6.setTop (mkF m 21 (Array.mk [zA ba, zI 124, zI 0, zI 2]) [.int 2]))
  refine own_blk dec15 seq15 hby hx hZ hown hK hF 8 [true] [] X6 eh6 ?_
  show (((0 : Int32)).toInt < ((2 : Int32)).toInt) ∧ own_Aft X6 h0 _ 33 [zA ba, zI 124, zI 0, zI 2] [.int 2, .int 0, .int 124, .ref ba]
  refine ⟨by decide, fun T7 X7 eh7 => ?_⟩
  refine own_callSP X7 hx hZ hown (hw _ (wm 80 rfl)) (hw _ (wm 81 rfl)) (hw _ (wm 68 rfl)) (hw _ (wm 82 rfl)) (by decide) eh7 [.ref ba, .int 124, .int 0, .int 2] pd19 rfl (fr := 0) (lo := 0) (rm19_2_124 l Z a0 hw [] ba b0 b1 h0 n0 Z0 Ab) (by rw [hml]; rfl) 0 rfl (Nat.le_of_eq rfl) (hb hby d15_33) (by decide) (by decide) (by decide) (by decide) (fun T8 rv8 X8 eh8 qc8 => ?_)
  obtain ⟨r, rfl, hr⟩ := qc8
  show own_Go p.tables e below _ (T8.setTop (mkF m 36 (Array.mk [zA ba, zI 124, zI 0, zI 2]) [.int r]))
  exact own_ret X8 hx hlk eh8 hret (by first | rfl | decide) (Or.inl ⟨rfl, by simp, _, rfl⟩) (hb hby d15_36) (by decide) (by decide) (⟨⟨_, rfl, hr⟩, rfl, rfl⟩)
set_option maxRecDepth 65536 in
set_option maxHeartbeats 40000000 in
theorem rm15_3_59 (l : Launch) (Z : State) (a0 : Array Value) (hw : ∀ d ∈ tables_1, d.before a0 Z = true) (ws : List Jvm.Cond) (ba : Addr) (b0 b1 b2 : Int32) (h0 : Heap) (n0 : Nat) (Z0 : n0 ≤ h0.size) (Ab : own_A Z h0 ba .byte [.int b0, .int b1, .int b2]) :
    own_MF l (⟨"java/lang/StringLatin1", "indexOf", "([BIII)I"⟩ : MethodName) jdk_43_method_22_code 4 (some .int) ws ({ frames := 1, cells := 0, slots := 0, locals := 24 } : Room) #[.ref ba, .int 59, .int 0, .int 3] Z h0 (fun v h L => (∃ r : Int32, v = some (.int r) ∧ ((r.toInt < 0 ∧ b0.toInt ≠ 59 ∧ b1.toInt ≠ 59 ∧ b2.toInt ≠ 59) ∨ (0 ≤ r.toInt ∧ (b0.toInt = 59 ∨ b1.toInt = 59 ∨ b2.toInt = 59)))) ∧ L = [] ∧ h = h0) := by
  refine own_body pf15 (ls0 := [.val (.ref ba), .val (.int 59), .val (.int 0), .val (.int 3)]) (fun m => by first | (simp [entryFrame, mkF, argsToLocals, Value.category, maxLocals]; done) | rfl) ?_
  intro p e s m below meth c T0 hx hby hml hown hnm hlk hret hZ X0 e0
  have hK := hKt15 hw; have hF := hFt15 hw
  have N0 := Fr.nil n0
  refine own_blk dec15 seq15 hby hx hZ hown hK hF 1 [] [] X0 e0 ?_
  show own_Aft X0 h0 _ 1 [zA ba, zI 59, zI 0, zI 3] [.int 59]
  refine fun T1 X1 eh1 => ?_
  refine own_callSP X1 hx hZ hown (hw _ (wm 70 rfl)) (hw _ (wm 71 rfl)) (hw _ (wm 68 rfl)) (hw _ (wm 72 rfl)) (by decide) eh1 [.int 59] pd16 rfl (fr := 0) (lo := 0) (rm16_59 l Z a0 hw [] h0 n0 Z0) (by rw [hml]; rfl) 0 rfl (Nat.le_of_eq rfl) (hb hby d15_1) (by decide) (by decide) (by decide) (by decide) (fun T2 rv2 X2 eh2 qc2 => ?_)
  obtain rfl := qc2
  show own_Go p.tables e below _ (T2.setTop (mkF m 4 (Array.mk [zA ba, zI 59, zI 0, zI 3]) [.int 1]))
  refine own_blk dec15 seq15 hby hx hZ hown hK hF 3 [true] [] X2 eh2 ?_
  show (((1 : Int32)).toInt ≠ 0) ∧ own_Aft X2 h0 _ 11 [zA ba, zI 59, zI 0, zI 3] [.int 0, .int 0]
  refine ⟨by decide, fun T3 X3 eh3 => ?_⟩
  refine own_callSP X3 hx hZ hown (hw _ (wm 73 rfl)) (hw _ (wm 74 rfl)) (hw _ (wm 75 rfl)) (hw _ (wm 76 rfl)) (by decide) eh3 [.int 0, .int 0] pd17 rfl (fr := 0) (lo := 0) (rm17 l Z a0 hw [] h0 n0 Z0) (by rw [hml]; rfl) 0 rfl (Nat.le_of_eq rfl) (hb hby d15_11) (by decide) (by decide) (by decide) (by decide) (fun T4 rv4 X4 eh4 qc4 => ?_)
  obtain rfl := qc4
  show own_Go p.tables e below _ (T4.setTop (mkF m 14 (Array.mk [zA ba, zI 59, zI 0, zI 3]) [.int 0]))
  refine own_blk dec15 seq15 hby hx hZ hown hK hF 4 [] [.int 3] X4 eh4 ?_
  show (own_ln Z h0 ba (3 : Int32)) ∧ own_Aft X4 h0 _ 18 [zA ba, zI 59, zI 0, zI 3] [.int 3, .int 3]
  refine ⟨Ab.ln (3 : Int32) rfl, fun T5 X5 eh5 => ?_⟩
  refine own_callSP X5 hx hZ hown (hw _ (wm 77 rfl)) (hw _ (wm 78 rfl)) (hw _ (wm 75 rfl)) (hw _ (wm 79 rfl)) (by decide) eh5 [.int 3, .int 3] pd18 rfl (fr := 0) (lo := 0) (rm18_3 l Z a0 hw [] h0 n0 Z0) (by rw [hml]; rfl) 0 rfl (Nat.le_of_eq rfl) (hb hby d15_18) (by decide) (by decide) (by decide) (by decide) (fun T6 rv6 X6 eh6 qc6 => ?_)
  obtain rfl := qc6
  show own_Go p.tables e below _ (T6.setTop (mkF m 21 (Array.mk [zA ba, zI 59, zI 0, zI 3]) [.int 3]))
  refine own_blk dec15 seq15 hby hx hZ hown hK hF 8 [true] [] X6 eh6 ?_
  show (((0 : Int32)).toInt < ((3 : Int32)).toInt) ∧ own_Aft X6 h0 _ 33 [zA ba, zI 59, zI 0, zI 3] [.int 3, .int 0, .int 59, .ref ba]
  refine ⟨by decide, fun T7 X7 eh7 => ?_⟩
  refine own_callSP X7 hx hZ hown (hw _ (wm 80 rfl)) (hw _ (wm 81 rfl)) (hw _ (wm 68 rfl)) (hw _ (wm 82 rfl)) (by decide) eh7 [.ref ba, .int 59, .int 0, .int 3] pd19 rfl (fr := 0) (lo := 0) (rm19_3_59 l Z a0 hw [] ba b0 b1 b2 h0 n0 Z0 Ab) (by rw [hml]; rfl) 0 rfl (Nat.le_of_eq rfl) (hb hby d15_33) (by decide) (by decide) (by decide) (by decide) (fun T8 rv8 X8 eh8 qc8 => ?_)
  obtain ⟨r, rfl, hr⟩ := qc8
  show own_Go p.tables e below _ (T8.setTop (mkF m 36 (Array.mk [zA ba, zI 59, zI 0, zI 3]) [.int r]))
  exact own_ret X8 hx hlk eh8 hret (by first | rfl | decide) (Or.inl ⟨rfl, by simp, _, rfl⟩) (hb hby d15_36) (by decide) (by decide) (⟨⟨_, rfl, hr⟩, rfl, rfl⟩)
set_option maxRecDepth 65536 in
set_option maxHeartbeats 40000000 in
theorem rm15_3_124 (l : Launch) (Z : State) (a0 : Array Value) (hw : ∀ d ∈ tables_1, d.before a0 Z = true) (ws : List Jvm.Cond) (ba : Addr) (b0 b1 b2 : Int32) (h0 : Heap) (n0 : Nat) (Z0 : n0 ≤ h0.size) (Ab : own_A Z h0 ba .byte [.int b0, .int b1, .int b2]) :
    own_MF l (⟨"java/lang/StringLatin1", "indexOf", "([BIII)I"⟩ : MethodName) jdk_43_method_22_code 4 (some .int) ws ({ frames := 1, cells := 0, slots := 0, locals := 24 } : Room) #[.ref ba, .int 124, .int 0, .int 3] Z h0 (fun v h L => (∃ r : Int32, v = some (.int r) ∧ ((r.toInt < 0 ∧ b0.toInt ≠ 124 ∧ b1.toInt ≠ 124 ∧ b2.toInt ≠ 124) ∨ (0 ≤ r.toInt ∧ (b0.toInt = 124 ∨ b1.toInt = 124 ∨ b2.toInt = 124)))) ∧ L = [] ∧ h = h0) := by
  refine own_body pf15 (ls0 := [.val (.ref ba), .val (.int 124), .val (.int 0), .val (.int 3)]) (fun m => by first | (simp [entryFrame, mkF, argsToLocals, Value.category, maxLocals]; done) | rfl) ?_
  intro p e s m below meth c T0 hx hby hml hown hnm hlk hret hZ X0 e0
  have hK := hKt15 hw; have hF := hFt15 hw
  have N0 := Fr.nil n0
  refine own_blk dec15 seq15 hby hx hZ hown hK hF 1 [] [] X0 e0 ?_
  show own_Aft X0 h0 _ 1 [zA ba, zI 124, zI 0, zI 3] [.int 124]
  refine fun T1 X1 eh1 => ?_
  refine own_callSP X1 hx hZ hown (hw _ (wm 70 rfl)) (hw _ (wm 71 rfl)) (hw _ (wm 68 rfl)) (hw _ (wm 72 rfl)) (by decide) eh1 [.int 124] pd16 rfl (fr := 0) (lo := 0) (rm16_124 l Z a0 hw [] h0 n0 Z0) (by rw [hml]; rfl) 0 rfl (Nat.le_of_eq rfl) (hb hby d15_1) (by decide) (by decide) (by decide) (by decide) (fun T2 rv2 X2 eh2 qc2 => ?_)
  obtain rfl := qc2
  show own_Go p.tables e below _ (T2.setTop (mkF m 4 (Array.mk [zA ba, zI 124, zI 0, zI 3]) [.int 1]))
  refine own_blk dec15 seq15 hby hx hZ hown hK hF 3 [true] [] X2 eh2 ?_
  show (((1 : Int32)).toInt ≠ 0) ∧ own_Aft X2 h0 _ 11 [zA ba, zI 124, zI 0, zI 3] [.int 0, .int 0]
  refine ⟨by decide, fun T3 X3 eh3 => ?_⟩
  refine own_callSP X3 hx hZ hown (hw _ (wm 73 rfl)) (hw _ (wm 74 rfl)) (hw _ (wm 75 rfl)) (hw _ (wm 76 rfl)) (by decide) eh3 [.int 0, .int 0] pd17 rfl (fr := 0) (lo := 0) (rm17 l Z a0 hw [] h0 n0 Z0) (by rw [hml]; rfl) 0 rfl (Nat.le_of_eq rfl) (hb hby d15_11) (by decide) (by decide) (by decide) (by decide) (fun T4 rv4 X4 eh4 qc4 => ?_)
  obtain rfl := qc4
  show own_Go p.tables e below _ (T4.setTop (mkF m 14 (Array.mk [zA ba, zI 124, zI 0, zI 3]) [.int 0]))
  refine own_blk dec15 seq15 hby hx hZ hown hK hF 4 [] [.int 3] X4 eh4 ?_
  show (own_ln Z h0 ba (3 : Int32)) ∧ own_Aft X4 h0 _ 18 [zA ba, zI 124, zI 0, zI 3] [.int 3, .int 3]
  refine ⟨Ab.ln (3 : Int32) rfl, fun T5 X5 eh5 => ?_⟩
  refine own_callSP X5 hx hZ hown (hw _ (wm 77 rfl)) (hw _ (wm 78 rfl)) (hw _ (wm 75 rfl)) (hw _ (wm 79 rfl)) (by decide) eh5 [.int 3, .int 3] pd18 rfl (fr := 0) (lo := 0) (rm18_3 l Z a0 hw [] h0 n0 Z0) (by rw [hml]; rfl) 0 rfl (Nat.le_of_eq rfl) (hb hby d15_18) (by decide) (by decide) (by decide) (by decide) (fun T6 rv6 X6 eh6 qc6 => ?_)
  obtain rfl := qc6
  show own_Go p.tables e below _ (T6.setTop (mkF m 21 (Array.mk [zA ba, zI 124, zI 0, zI 3]) [.int 3]))
  refine own_blk dec15 seq15 hby hx hZ hown hK hF 8 [true] [] X6 eh6 ?_
  show (((0 : Int32)).toInt < ((3 : Int32)).toInt) ∧ own_Aft X6 h0 _ 33 [zA ba, zI 124, zI 0, zI 3] [.int 3, .int 0, .int 124, .ref ba]
  refine ⟨by decide, fun T7 X7 eh7 => ?_⟩
  refine own_callSP X7 hx hZ hown (hw _ (wm 80 rfl)) (hw _ (wm 81 rfl)) (hw _ (wm 68 rfl)) (hw _ (wm 82 rfl)) (by decide) eh7 [.ref ba, .int 124, .int 0, .int 3] pd19 rfl (fr := 0) (lo := 0) (rm19_3_124 l Z a0 hw [] ba b0 b1 b2 h0 n0 Z0 Ab) (by rw [hml]; rfl) 0 rfl (Nat.le_of_eq rfl) (hb hby d15_33) (by decide) (by decide) (by decide) (by decide) (fun T8 rv8 X8 eh8 qc8 => ?_)
  obtain ⟨r, rfl, hr⟩ := qc8
  show own_Go p.tables e below _ (T8.setTop (mkF m 36 (Array.mk [zA ba, zI 124, zI 0, zI 3]) [.int r]))
  exact own_ret X8 hx hlk eh8 hret (by first | rfl | decide) (Or.inl ⟨rfl, by simp, _, rfl⟩) (hb hby d15_36) (by decide) (by decide) (⟨⟨_, rfl, hr⟩, rfl, rfl⟩)
set_option maxRecDepth 65536 in
set_option maxHeartbeats 40000000 in
theorem rm15_4_59 (l : Launch) (Z : State) (a0 : Array Value) (hw : ∀ d ∈ tables_1, d.before a0 Z = true) (ws : List Jvm.Cond) (ba : Addr) (b0 b1 b2 b3 : Int32) (h0 : Heap) (n0 : Nat) (Z0 : n0 ≤ h0.size) (Ab : own_A Z h0 ba .byte [.int b0, .int b1, .int b2, .int b3]) :
    own_MF l (⟨"java/lang/StringLatin1", "indexOf", "([BIII)I"⟩ : MethodName) jdk_43_method_22_code 4 (some .int) ws ({ frames := 1, cells := 0, slots := 0, locals := 24 } : Room) #[.ref ba, .int 59, .int 0, .int 4] Z h0 (fun v h L => (∃ r : Int32, v = some (.int r) ∧ ((r.toInt < 0 ∧ b0.toInt ≠ 59 ∧ b1.toInt ≠ 59 ∧ b2.toInt ≠ 59 ∧ b3.toInt ≠ 59) ∨ (0 ≤ r.toInt ∧ (b0.toInt = 59 ∨ b1.toInt = 59 ∨ b2.toInt = 59 ∨ b3.toInt = 59)))) ∧ L = [] ∧ h = h0) := by
  refine own_body pf15 (ls0 := [.val (.ref ba), .val (.int 59), .val (.int 0), .val (.int 4)]) (fun m => by first | (simp [entryFrame, mkF, argsToLocals, Value.category, maxLocals]; done) | rfl) ?_
  intro p e s m below meth c T0 hx hby hml hown hnm hlk hret hZ X0 e0
  have hK := hKt15 hw; have hF := hFt15 hw
  have N0 := Fr.nil n0
  refine own_blk dec15 seq15 hby hx hZ hown hK hF 1 [] [] X0 e0 ?_
  show own_Aft X0 h0 _ 1 [zA ba, zI 59, zI 0, zI 4] [.int 59]
  refine fun T1 X1 eh1 => ?_
  refine own_callSP X1 hx hZ hown (hw _ (wm 70 rfl)) (hw _ (wm 71 rfl)) (hw _ (wm 68 rfl)) (hw _ (wm 72 rfl)) (by decide) eh1 [.int 59] pd16 rfl (fr := 0) (lo := 0) (rm16_59 l Z a0 hw [] h0 n0 Z0) (by rw [hml]; rfl) 0 rfl (Nat.le_of_eq rfl) (hb hby d15_1) (by decide) (by decide) (by decide) (by decide) (fun T2 rv2 X2 eh2 qc2 => ?_)
  obtain rfl := qc2
  show own_Go p.tables e below _ (T2.setTop (mkF m 4 (Array.mk [zA ba, zI 59, zI 0, zI 4]) [.int 1]))
  refine own_blk dec15 seq15 hby hx hZ hown hK hF 3 [true] [] X2 eh2 ?_
  show (((1 : Int32)).toInt ≠ 0) ∧ own_Aft X2 h0 _ 11 [zA ba, zI 59, zI 0, zI 4] [.int 0, .int 0]
  refine ⟨by decide, fun T3 X3 eh3 => ?_⟩
  refine own_callSP X3 hx hZ hown (hw _ (wm 73 rfl)) (hw _ (wm 74 rfl)) (hw _ (wm 75 rfl)) (hw _ (wm 76 rfl)) (by decide) eh3 [.int 0, .int 0] pd17 rfl (fr := 0) (lo := 0) (rm17 l Z a0 hw [] h0 n0 Z0) (by rw [hml]; rfl) 0 rfl (Nat.le_of_eq rfl) (hb hby d15_11) (by decide) (by decide) (by decide) (by decide) (fun T4 rv4 X4 eh4 qc4 => ?_)
  obtain rfl := qc4
  show own_Go p.tables e below _ (T4.setTop (mkF m 14 (Array.mk [zA ba, zI 59, zI 0, zI 4]) [.int 0]))
  refine own_blk dec15 seq15 hby hx hZ hown hK hF 4 [] [.int 4] X4 eh4 ?_
  show (own_ln Z h0 ba (4 : Int32)) ∧ own_Aft X4 h0 _ 18 [zA ba, zI 59, zI 0, zI 4] [.int 4, .int 4]
  refine ⟨Ab.ln (4 : Int32) rfl, fun T5 X5 eh5 => ?_⟩
  refine own_callSP X5 hx hZ hown (hw _ (wm 77 rfl)) (hw _ (wm 78 rfl)) (hw _ (wm 75 rfl)) (hw _ (wm 79 rfl)) (by decide) eh5 [.int 4, .int 4] pd18 rfl (fr := 0) (lo := 0) (rm18_4 l Z a0 hw [] h0 n0 Z0) (by rw [hml]; rfl) 0 rfl (Nat.le_of_eq rfl) (hb hby d15_18) (by decide) (by decide) (by decide) (by decide) (fun T6 rv6 X6 eh6 qc6 => ?_)
  obtain rfl := qc6
  show own_Go p.tables e below _ (T6.setTop (mkF m 21 (Array.mk [zA ba, zI 59, zI 0, zI 4]) [.int 4]))
  refine own_blk dec15 seq15 hby hx hZ hown hK hF 8 [true] [] X6 eh6 ?_
  show (((0 : Int32)).toInt < ((4 : Int32)).toInt) ∧ own_Aft X6 h0 _ 33 [zA ba, zI 59, zI 0, zI 4] [.int 4, .int 0, .int 59, .ref ba]
  refine ⟨by decide, fun T7 X7 eh7 => ?_⟩
  refine own_callSP X7 hx hZ hown (hw _ (wm 80 rfl)) (hw _ (wm 81 rfl)) (hw _ (wm 68 rfl)) (hw _ (wm 82 rfl)) (by decide) eh7 [.ref ba, .int 59, .int 0, .int 4] pd19 rfl (fr := 0) (lo := 0) (rm19_4_59 l Z a0 hw [] ba b0 b1 b2 b3 h0 n0 Z0 Ab) (by rw [hml]; rfl) 0 rfl (Nat.le_of_eq rfl) (hb hby d15_33) (by decide) (by decide) (by decide) (by decide) (fun T8 rv8 X8 eh8 qc8 => ?_)
  obtain ⟨r, rfl, hr⟩ := qc8
  show own_Go p.tables e below _ (T8.setTop (mkF m 36 (Array.mk [zA ba, zI 59, zI 0, zI 4]) [.int r]))
  exact own_ret X8 hx hlk eh8 hret (by first | rfl | decide) (Or.inl ⟨rfl, by simp, _, rfl⟩) (hb hby d15_36) (by decide) (by decide) (⟨⟨_, rfl, hr⟩, rfl, rfl⟩)
set_option maxRecDepth 65536 in
set_option maxHeartbeats 40000000 in
theorem rm15_4_124 (l : Launch) (Z : State) (a0 : Array Value) (hw : ∀ d ∈ tables_1, d.before a0 Z = true) (ws : List Jvm.Cond) (ba : Addr) (b0 b1 b2 b3 : Int32) (h0 : Heap) (n0 : Nat) (Z0 : n0 ≤ h0.size) (Ab : own_A Z h0 ba .byte [.int b0, .int b1, .int b2, .int b3]) :
    own_MF l (⟨"java/lang/StringLatin1", "indexOf", "([BIII)I"⟩ : MethodName) jdk_43_method_22_code 4 (some .int) ws ({ frames := 1, cells := 0, slots := 0, locals := 24 } : Room) #[.ref ba, .int 124, .int 0, .int 4] Z h0 (fun v h L => (∃ r : Int32, v = some (.int r) ∧ ((r.toInt < 0 ∧ b0.toInt ≠ 124 ∧ b1.toInt ≠ 124 ∧ b2.toInt ≠ 124 ∧ b3.toInt ≠ 124) ∨ (0 ≤ r.toInt ∧ (b0.toInt = 124 ∨ b1.toInt = 124 ∨ b2.toInt = 124 ∨ b3.toInt = 124)))) ∧ L = [] ∧ h = h0) := by
  refine own_body pf15 (ls0 := [.val (.ref ba), .val (.int 124), .val (.int 0), .val (.int 4)]) (fun m => by first | (simp [entryFrame, mkF, argsToLocals, Value.category, maxLocals]; done) | rfl) ?_
  intro p e s m below meth c T0 hx hby hml hown hnm hlk hret hZ X0 e0
  have hK := hKt15 hw; have hF := hFt15 hw
  have N0 := Fr.nil n0
  refine own_blk dec15 seq15 hby hx hZ hown hK hF 1 [] [] X0 e0 ?_
  show own_Aft X0 h0 _ 1 [zA ba, zI 124, zI 0, zI 4] [.int 124]
  refine fun T1 X1 eh1 => ?_
  refine own_callSP X1 hx hZ hown (hw _ (wm 70 rfl)) (hw _ (wm 71 rfl)) (hw _ (wm 68 rfl)) (hw _ (wm 72 rfl)) (by decide) eh1 [.int 124] pd16 rfl (fr := 0) (lo := 0) (rm16_124 l Z a0 hw [] h0 n0 Z0) (by rw [hml]; rfl) 0 rfl (Nat.le_of_eq rfl) (hb hby d15_1) (by decide) (by decide) (by decide) (by decide) (fun T2 rv2 X2 eh2 qc2 => ?_)
  obtain rfl := qc2
  show own_Go p.tables e below _ (T2.setTop (mkF m 4 (Array.mk [zA ba, zI 124, zI 0, zI 4]) [.int 1]))
  refine own_blk dec15 seq15 hby hx hZ hown hK hF 3 [true] [] X2 eh2 ?_
  show (((1 : Int32)).toInt ≠ 0) ∧ own_Aft X2 h0 _ 11 [zA ba, zI 124, zI 0, zI 4] [.int 0, .int 0]
  refine ⟨by decide, fun T3 X3 eh3 => ?_⟩
  refine own_callSP X3 hx hZ hown (hw _ (wm 73 rfl)) (hw _ (wm 74 rfl)) (hw _ (wm 75 rfl)) (hw _ (wm 76 rfl)) (by decide) eh3 [.int 0, .int 0] pd17 rfl (fr := 0) (lo := 0) (rm17 l Z a0 hw [] h0 n0 Z0) (by rw [hml]; rfl) 0 rfl (Nat.le_of_eq rfl) (hb hby d15_11) (by decide) (by decide) (by decide) (by decide) (fun T4 rv4 X4 eh4 qc4 => ?_)
  obtain rfl := qc4
  show own_Go p.tables e below _ (T4.setTop (mkF m 14 (Array.mk [zA ba, zI 124, zI 0, zI 4]) [.int 0]))
  refine own_blk dec15 seq15 hby hx hZ hown hK hF 4 [] [.int 4] X4 eh4 ?_
  show (own_ln Z h0 ba (4 : Int32)) ∧ own_Aft X4 h0 _ 18 [zA ba, zI 124, zI 0, zI 4] [.int 4, .int 4]
  refine ⟨Ab.ln (4 : Int32) rfl, fun T5 X5 eh5 => ?_⟩
  refine own_callSP X5 hx hZ hown (hw _ (wm 77 rfl)) (hw _ (wm 78 rfl)) (hw _ (wm 75 rfl)) (hw _ (wm 79 rfl)) (by decide) eh5 [.int 4, .int 4] pd18 rfl (fr := 0) (lo := 0) (rm18_4 l Z a0 hw [] h0 n0 Z0) (by rw [hml]; rfl) 0 rfl (Nat.le_of_eq rfl) (hb hby d15_18) (by decide) (by decide) (by decide) (by decide) (fun T6 rv6 X6 eh6 qc6 => ?_)
  obtain rfl := qc6
  show own_Go p.tables e below _ (T6.setTop (mkF m 21 (Array.mk [zA ba, zI 124, zI 0, zI 4]) [.int 4]))
  refine own_blk dec15 seq15 hby hx hZ hown hK hF 8 [true] [] X6 eh6 ?_
  show (((0 : Int32)).toInt < ((4 : Int32)).toInt) ∧ own_Aft X6 h0 _ 33 [zA ba, zI 124, zI 0, zI 4] [.int 4, .int 0, .int 124, .ref ba]
  refine ⟨by decide, fun T7 X7 eh7 => ?_⟩
  refine own_callSP X7 hx hZ hown (hw _ (wm 80 rfl)) (hw _ (wm 81 rfl)) (hw _ (wm 68 rfl)) (hw _ (wm 82 rfl)) (by decide) eh7 [.ref ba, .int 124, .int 0, .int 4] pd19 rfl (fr := 0) (lo := 0) (rm19_4_124 l Z a0 hw [] ba b0 b1 b2 b3 h0 n0 Z0 Ab) (by rw [hml]; rfl) 0 rfl (Nat.le_of_eq rfl) (hb hby d15_33) (by decide) (by decide) (by decide) (by decide) (fun T8 rv8 X8 eh8 qc8 => ?_)
  obtain ⟨r, rfl, hr⟩ := qc8
  show own_Go p.tables e below _ (T8.setTop (mkF m 36 (Array.mk [zA ba, zI 124, zI 0, zI 4]) [.int r]))
  exact own_ret X8 hx hlk eh8 hret (by first | rfl | decide) (Or.inl ⟨rfl, by simp, _, rfl⟩) (hb hby d15_36) (by decide) (by decide) (⟨⟨_, rfl, hr⟩, rfl, rfl⟩)
set_option maxRecDepth 65536 in
set_option maxHeartbeats 40000000 in
theorem rm14 (l : Launch) (Z : State) (a0 : Array Value) (hw : ∀ d ∈ tables_1, d.before a0 Z = true) (ws : List Jvm.Cond) (a : Addr) (zc : Int32) (h0 : Heap) (n0 : Nat) (Z0 : n0 ≤ h0.size) (S1 : Sta Z h0 "java/lang/String" "COMPACT_STRINGS" "Z" (.int zc)) (zn : ¬ zc = (0 : Int32)) (F1 : Fld Z h0 a "java/lang/String" "coder" "B" (.int (0 : Int32))) :
    own_MF l (⟨"java/lang/String", "coder", "()B"⟩ : MethodName) jdk_42_method_152_code 1 (some .byte) ws ({ frames := 0, cells := 0, slots := 0, locals := 0 } : Room) #[.ref a] Z h0 (fun v h L => (v = some (.int 0)) ∧ L = [] ∧ h = h0) := by
  refine own_body pf14 (ls0 := [.val (.ref a)]) (fun m => by first | (simp [entryFrame, mkF, argsToLocals, Value.category, maxLocals]; done) | rfl) ?_
  intro p e s m below meth c T0 hx hby hml hown hnm hlk hret hZ X0 e0
  have hK := hKt10 hw; have hF := hFt10 hw
  have N0 := Fr.nil n0
  have zi : ¬ (zc.toInt = 0) := fun q => zn (Int32.toInt_inj.mp q)
  refine own_gS X0 hx hZ hown (hw _ (wm 18 rfl)) e0 S1 (hb hby d14_0) (fun T1 X1 eh1 => ?_)
  show own_Go p.tables e below _ (T1.setTop (mkF m 3 (Array.mk [zA a]) [.int zc]))
  refine own_blk dec14 seq14 hby hx hZ hown hK hF 4 [false] [.int 0] X1 eh1 ?_
  show (¬ ((zc).toInt = 0)) ∧ (Fld Z h0 a "java/lang/String" "coder" "B" (.int 0)) ∧ own_Aft X1 h0 _ 14 [zA a] [.int 0]
  refine ⟨zi, F1, fun T2 X2 eh2 => ?_⟩
  exact own_ret X2 hx hlk eh2 hret (by first | rfl | decide) (Or.inl ⟨rfl, by simp, _, rfl⟩) (hb hby d14_14) (by decide) (by decide) (⟨rfl, rfl, rfl⟩)
set_option maxRecDepth 65536 in
set_option maxHeartbeats 40000000 in
theorem rm12 (l : Launch) (Z : State) (a0 : Array Value) (hw : ∀ d ∈ tables_1, d.before a0 Z = true) (ws : List Jvm.Cond) (a : Addr) (zc : Int32) (h0 : Heap) (n0 : Nat) (Z0 : n0 ≤ h0.size) (S1 : Sta Z h0 "java/lang/String" "COMPACT_STRINGS" "Z" (.int zc)) (zn : ¬ zc = (0 : Int32)) (F1 : Fld Z h0 a "java/lang/String" "coder" "B" (.int (0 : Int32))) :
    own_MF l (⟨"java/lang/String", "isLatin1", "()Z"⟩ : MethodName) jdk_42_method_154_code 1 (some .boolean) ws ({ frames := 0, cells := 0, slots := 0, locals := 0 } : Room) #[.ref a] Z h0 (fun v h L => (v = some (.int 1)) ∧ L = [] ∧ h = h0) := by
  refine own_body pf12 (ls0 := [.val (.ref a)]) (fun m => by first | (simp [entryFrame, mkF, argsToLocals, Value.category, maxLocals]; done) | rfl) ?_
  intro p e s m below meth c T0 hx hby hml hown hnm hlk hret hZ X0 e0
  have hK := hKt10 hw; have hF := hFt10 hw
  have N0 := Fr.nil n0
  have zi : ¬ (zc.toInt = 0) := fun q => zn (Int32.toInt_inj.mp q)
  refine own_gS X0 hx hZ hown (hw _ (wm 18 rfl)) e0 S1 (hb hby d12_0) (fun T1 X1 eh1 => ?_)
  show own_Go p.tables e below _ (T1.setTop (mkF m 3 (Array.mk [zA a]) [.int zc]))
  refine own_blk dec12 seq12 hby hx hZ hown hK hF 6 [false, false] [.int 0] X1 eh1 ?_
  show (¬ ((zc).toInt = 0)) ∧ (Fld Z h0 a "java/lang/String" "coder" "B" (.int 0)) ∧ (¬ (((0 : Int32)).toInt ≠ 0)) ∧ own_Aft X1 h0 _ 18 [zA a] [.int 1]
  refine ⟨zi, F1, by decide, fun T2 X2 eh2 => ?_⟩
  exact own_ret X2 hx hlk eh2 hret (by first | rfl | decide) (Or.inl ⟨rfl, by simp, _, rfl⟩) (hb hby d12_18) (by decide) (by decide) (⟨rfl, rfl, rfl⟩)
set_option maxRecDepth 65536 in
set_option maxHeartbeats 40000000 in
theorem rm13_1 (l : Launch) (Z : State) (a0 : Array Value) (hw : ∀ d ∈ tables_1, d.before a0 Z = true) (ws : List Jvm.Cond) (a ba : Addr) (zc : Int32) (b0 : Int32) (h0 : Heap) (n0 : Nat) (Z0 : n0 ≤ h0.size) (S1 : Sta Z h0 "java/lang/String" "COMPACT_STRINGS" "Z" (.int zc)) (zn : ¬ zc = (0 : Int32)) (EX : Exa Z h0 a "java/lang/String") (F1 : Fld Z h0 a "java/lang/String" "coder" "B" (.int (0 : Int32))) (F2 : Fld Z h0 a "java/lang/String" "value" "[B" (.ref ba)) (Ab : own_A Z h0 ba .byte [.int b0]) :
    own_MF l (⟨"java/lang/String", "length", "()I"⟩ : MethodName) jdk_42_method_54_code 1 (some .int) ws ({ frames := 1, cells := 0, slots := 0, locals := 16 } : Room) #[.ref a] Z h0 (fun v h L => (v = some (.int 1)) ∧ L = [] ∧ h = h0) := by
  refine own_body pf13 (ls0 := [.val (.ref a)]) (fun m => by first | (simp [entryFrame, mkF, argsToLocals, Value.category, maxLocals]; done) | rfl) ?_
  intro p e s m below meth c T0 hx hby hml hown hnm hlk hret hZ X0 e0
  have hK := hKt10 hw; have hF := hFt10 hw
  have N0 := Fr.nil n0
  refine own_blk dec13 seq13 hby hx hZ hown hK hF 4 [] [.ref ba, .int 1] X0 e0 ?_
  show (Fld Z h0 a "java/lang/String" "value" "[B" (.ref ba)) ∧ (own_ln Z h0 ba (1 : Int32)) ∧ own_Aft X0 h0 _ 6 [zA a] [.ref a, .int 1]
  refine ⟨F2, Ab.ln (1 : Int32) rfl, fun T1 X1 eh1 => ?_⟩
  refine own_callVP X1 hx hZ hown (hw _ (wm 61 rfl)) (hw _ (wm 62 rfl)) (hw _ (wm 64 rfl)) (hw _ (wm 63 rfl)) (hw _ (wm 6 rfl)) (hw _ (wm 65 rfl)) (by decide) eh1 EX [] pd14 rfl (fr := 0) (lo := 0) (rm14 l Z a0 hw [] a zc h0 n0 Z0 S1 zn F1) (by rw [hml]; rfl) 1 rfl (Nat.le_of_eq rfl) (hb hby d13_6) (by decide) (by decide) (by decide) (by decide) (fun T2 rv2 X2 eh2 qc2 => ?_)
  obtain rfl := qc2
  show own_Go p.tables e below _ (T2.setTop (mkF m 9 (Array.mk [zA a]) [.int 0, .int 1]))
  refine own_blk dec13 seq13 hby hx hZ hown hK hF 1 [] [] X2 eh2 ?_
  show own_Aft X2 h0 _ 10 [zA a] [.int 1]
  refine fun T3 X3 eh3 => ?_
  exact own_ret X3 hx hlk eh3 hret (by first | rfl | decide) (Or.inl ⟨rfl, by simp, _, rfl⟩) (hb hby d13_10) (by decide) (by decide) (⟨rfl, rfl, rfl⟩)
set_option maxRecDepth 65536 in
set_option maxHeartbeats 40000000 in
theorem rm13_2 (l : Launch) (Z : State) (a0 : Array Value) (hw : ∀ d ∈ tables_1, d.before a0 Z = true) (ws : List Jvm.Cond) (a ba : Addr) (zc : Int32) (b0 b1 : Int32) (h0 : Heap) (n0 : Nat) (Z0 : n0 ≤ h0.size) (S1 : Sta Z h0 "java/lang/String" "COMPACT_STRINGS" "Z" (.int zc)) (zn : ¬ zc = (0 : Int32)) (EX : Exa Z h0 a "java/lang/String") (F1 : Fld Z h0 a "java/lang/String" "coder" "B" (.int (0 : Int32))) (F2 : Fld Z h0 a "java/lang/String" "value" "[B" (.ref ba)) (Ab : own_A Z h0 ba .byte [.int b0, .int b1]) :
    own_MF l (⟨"java/lang/String", "length", "()I"⟩ : MethodName) jdk_42_method_54_code 1 (some .int) ws ({ frames := 1, cells := 0, slots := 0, locals := 16 } : Room) #[.ref a] Z h0 (fun v h L => (v = some (.int 2)) ∧ L = [] ∧ h = h0) := by
  refine own_body pf13 (ls0 := [.val (.ref a)]) (fun m => by first | (simp [entryFrame, mkF, argsToLocals, Value.category, maxLocals]; done) | rfl) ?_
  intro p e s m below meth c T0 hx hby hml hown hnm hlk hret hZ X0 e0
  have hK := hKt10 hw; have hF := hFt10 hw
  have N0 := Fr.nil n0
  refine own_blk dec13 seq13 hby hx hZ hown hK hF 4 [] [.ref ba, .int 2] X0 e0 ?_
  show (Fld Z h0 a "java/lang/String" "value" "[B" (.ref ba)) ∧ (own_ln Z h0 ba (2 : Int32)) ∧ own_Aft X0 h0 _ 6 [zA a] [.ref a, .int 2]
  refine ⟨F2, Ab.ln (2 : Int32) rfl, fun T1 X1 eh1 => ?_⟩
  refine own_callVP X1 hx hZ hown (hw _ (wm 61 rfl)) (hw _ (wm 62 rfl)) (hw _ (wm 64 rfl)) (hw _ (wm 63 rfl)) (hw _ (wm 6 rfl)) (hw _ (wm 65 rfl)) (by decide) eh1 EX [] pd14 rfl (fr := 0) (lo := 0) (rm14 l Z a0 hw [] a zc h0 n0 Z0 S1 zn F1) (by rw [hml]; rfl) 1 rfl (Nat.le_of_eq rfl) (hb hby d13_6) (by decide) (by decide) (by decide) (by decide) (fun T2 rv2 X2 eh2 qc2 => ?_)
  obtain rfl := qc2
  show own_Go p.tables e below _ (T2.setTop (mkF m 9 (Array.mk [zA a]) [.int 0, .int 2]))
  refine own_blk dec13 seq13 hby hx hZ hown hK hF 1 [] [] X2 eh2 ?_
  show own_Aft X2 h0 _ 10 [zA a] [.int 2]
  refine fun T3 X3 eh3 => ?_
  exact own_ret X3 hx hlk eh3 hret (by first | rfl | decide) (Or.inl ⟨rfl, by simp, _, rfl⟩) (hb hby d13_10) (by decide) (by decide) (⟨rfl, rfl, rfl⟩)
set_option maxRecDepth 65536 in
set_option maxHeartbeats 40000000 in
theorem rm13_3 (l : Launch) (Z : State) (a0 : Array Value) (hw : ∀ d ∈ tables_1, d.before a0 Z = true) (ws : List Jvm.Cond) (a ba : Addr) (zc : Int32) (b0 b1 b2 : Int32) (h0 : Heap) (n0 : Nat) (Z0 : n0 ≤ h0.size) (S1 : Sta Z h0 "java/lang/String" "COMPACT_STRINGS" "Z" (.int zc)) (zn : ¬ zc = (0 : Int32)) (EX : Exa Z h0 a "java/lang/String") (F1 : Fld Z h0 a "java/lang/String" "coder" "B" (.int (0 : Int32))) (F2 : Fld Z h0 a "java/lang/String" "value" "[B" (.ref ba)) (Ab : own_A Z h0 ba .byte [.int b0, .int b1, .int b2]) :
    own_MF l (⟨"java/lang/String", "length", "()I"⟩ : MethodName) jdk_42_method_54_code 1 (some .int) ws ({ frames := 1, cells := 0, slots := 0, locals := 16 } : Room) #[.ref a] Z h0 (fun v h L => (v = some (.int 3)) ∧ L = [] ∧ h = h0) := by
  refine own_body pf13 (ls0 := [.val (.ref a)]) (fun m => by first | (simp [entryFrame, mkF, argsToLocals, Value.category, maxLocals]; done) | rfl) ?_
  intro p e s m below meth c T0 hx hby hml hown hnm hlk hret hZ X0 e0
  have hK := hKt10 hw; have hF := hFt10 hw
  have N0 := Fr.nil n0
  refine own_blk dec13 seq13 hby hx hZ hown hK hF 4 [] [.ref ba, .int 3] X0 e0 ?_
  show (Fld Z h0 a "java/lang/String" "value" "[B" (.ref ba)) ∧ (own_ln Z h0 ba (3 : Int32)) ∧ own_Aft X0 h0 _ 6 [zA a] [.ref a, .int 3]
  refine ⟨F2, Ab.ln (3 : Int32) rfl, fun T1 X1 eh1 => ?_⟩
  refine own_callVP X1 hx hZ hown (hw _ (wm 61 rfl)) (hw _ (wm 62 rfl)) (hw _ (wm 64 rfl)) (hw _ (wm 63 rfl)) (hw _ (wm 6 rfl)) (hw _ (wm 65 rfl)) (by decide) eh1 EX [] pd14 rfl (fr := 0) (lo := 0) (rm14 l Z a0 hw [] a zc h0 n0 Z0 S1 zn F1) (by rw [hml]; rfl) 1 rfl (Nat.le_of_eq rfl) (hb hby d13_6) (by decide) (by decide) (by decide) (by decide) (fun T2 rv2 X2 eh2 qc2 => ?_)
  obtain rfl := qc2
  show own_Go p.tables e below _ (T2.setTop (mkF m 9 (Array.mk [zA a]) [.int 0, .int 3]))
  refine own_blk dec13 seq13 hby hx hZ hown hK hF 1 [] [] X2 eh2 ?_
  show own_Aft X2 h0 _ 10 [zA a] [.int 3]
  refine fun T3 X3 eh3 => ?_
  exact own_ret X3 hx hlk eh3 hret (by first | rfl | decide) (Or.inl ⟨rfl, by simp, _, rfl⟩) (hb hby d13_10) (by decide) (by decide) (⟨rfl, rfl, rfl⟩)
set_option maxRecDepth 65536 in
set_option maxHeartbeats 40000000 in
theorem rm13_4 (l : Launch) (Z : State) (a0 : Array Value) (hw : ∀ d ∈ tables_1, d.before a0 Z = true) (ws : List Jvm.Cond) (a ba : Addr) (zc : Int32) (b0 b1 b2 b3 : Int32) (h0 : Heap) (n0 : Nat) (Z0 : n0 ≤ h0.size) (S1 : Sta Z h0 "java/lang/String" "COMPACT_STRINGS" "Z" (.int zc)) (zn : ¬ zc = (0 : Int32)) (EX : Exa Z h0 a "java/lang/String") (F1 : Fld Z h0 a "java/lang/String" "coder" "B" (.int (0 : Int32))) (F2 : Fld Z h0 a "java/lang/String" "value" "[B" (.ref ba)) (Ab : own_A Z h0 ba .byte [.int b0, .int b1, .int b2, .int b3]) :
    own_MF l (⟨"java/lang/String", "length", "()I"⟩ : MethodName) jdk_42_method_54_code 1 (some .int) ws ({ frames := 1, cells := 0, slots := 0, locals := 16 } : Room) #[.ref a] Z h0 (fun v h L => (v = some (.int 4)) ∧ L = [] ∧ h = h0) := by
  refine own_body pf13 (ls0 := [.val (.ref a)]) (fun m => by first | (simp [entryFrame, mkF, argsToLocals, Value.category, maxLocals]; done) | rfl) ?_
  intro p e s m below meth c T0 hx hby hml hown hnm hlk hret hZ X0 e0
  have hK := hKt10 hw; have hF := hFt10 hw
  have N0 := Fr.nil n0
  refine own_blk dec13 seq13 hby hx hZ hown hK hF 4 [] [.ref ba, .int 4] X0 e0 ?_
  show (Fld Z h0 a "java/lang/String" "value" "[B" (.ref ba)) ∧ (own_ln Z h0 ba (4 : Int32)) ∧ own_Aft X0 h0 _ 6 [zA a] [.ref a, .int 4]
  refine ⟨F2, Ab.ln (4 : Int32) rfl, fun T1 X1 eh1 => ?_⟩
  refine own_callVP X1 hx hZ hown (hw _ (wm 61 rfl)) (hw _ (wm 62 rfl)) (hw _ (wm 64 rfl)) (hw _ (wm 63 rfl)) (hw _ (wm 6 rfl)) (hw _ (wm 65 rfl)) (by decide) eh1 EX [] pd14 rfl (fr := 0) (lo := 0) (rm14 l Z a0 hw [] a zc h0 n0 Z0 S1 zn F1) (by rw [hml]; rfl) 1 rfl (Nat.le_of_eq rfl) (hb hby d13_6) (by decide) (by decide) (by decide) (by decide) (fun T2 rv2 X2 eh2 qc2 => ?_)
  obtain rfl := qc2
  show own_Go p.tables e below _ (T2.setTop (mkF m 9 (Array.mk [zA a]) [.int 0, .int 4]))
  refine own_blk dec13 seq13 hby hx hZ hown hK hF 1 [] [] X2 eh2 ?_
  show own_Aft X2 h0 _ 10 [zA a] [.int 4]
  refine fun T3 X3 eh3 => ?_
  exact own_ret X3 hx hlk eh3 hret (by first | rfl | decide) (Or.inl ⟨rfl, by simp, _, rfl⟩) (hb hby d13_10) (by decide) (by decide) (⟨rfl, rfl, rfl⟩)
set_option maxRecDepth 65536 in
set_option maxHeartbeats 40000000 in
theorem rm11_1_59 (l : Launch) (Z : State) (a0 : Array Value) (hw : ∀ d ∈ tables_1, d.before a0 Z = true) (ws : List Jvm.Cond) (a ba : Addr) (zc : Int32) (b0 : Int32) (h0 : Heap) (n0 : Nat) (Z0 : n0 ≤ h0.size) (S1 : Sta Z h0 "java/lang/String" "COMPACT_STRINGS" "Z" (.int zc)) (zn : ¬ zc = (0 : Int32)) (EX : Exa Z h0 a "java/lang/String") (F1 : Fld Z h0 a "java/lang/String" "coder" "B" (.int (0 : Int32))) (F2 : Fld Z h0 a "java/lang/String" "value" "[B" (.ref ba)) (Ab : own_A Z h0 ba .byte [.int b0]) :
    own_MF l (⟨"java/lang/String", "indexOf", "(II)I"⟩ : MethodName) jdk_42_method_80_code 3 (some .int) ws ({ frames := 2, cells := 0, slots := 0, locals := 40 } : Room) #[.ref a, .int 59, .int 0] Z h0 (fun v h L => (∃ r : Int32, v = some (.int r) ∧ ((r.toInt < 0 ∧ b0.toInt ≠ 59) ∨ (0 ≤ r.toInt ∧ (b0.toInt = 59)))) ∧ L = [] ∧ h = h0) := by
  refine own_body pf11 (ls0 := [.val (.ref a), .val (.int 59), .val (.int 0)]) (fun m => by first | (simp [entryFrame, mkF, argsToLocals, Value.category, maxLocals]; done) | rfl) ?_
  intro p e s m below meth c T0 hx hby hml hown hnm hlk hret hZ X0 e0
  have hK := hKt10 hw; have hF := hFt10 hw
  have N0 := Fr.nil n0
  refine own_blk dec11 seq11 hby hx hZ hown hK hF 1 [] [] X0 e0 ?_
  show own_Aft X0 h0 _ 1 [zA a, zI 59, zI 0] [.ref a]
  refine fun T1 X1 eh1 => ?_
  refine own_callVP X1 hx hZ hown (hw _ (wm 51 rfl)) (hw _ (wm 52 rfl)) (hw _ (wm 54 rfl)) (hw _ (wm 53 rfl)) (hw _ (wm 6 rfl)) (hw _ (wm 55 rfl)) (by decide) eh1 EX [] pd12 rfl (fr := 0) (lo := 0) (rm12 l Z a0 hw [] a zc h0 n0 Z0 S1 zn F1) (by rw [hml]; rfl) 0 rfl (Nat.le_of_eq rfl) (hb hby d11_1) (by decide) (by decide) (by decide) (by decide) (fun T2 rv2 X2 eh2 qc2 => ?_)
  obtain rfl := qc2
  show own_Go p.tables e below _ (T2.setTop (mkF m 4 (Array.mk [zA a, zI 59, zI 0]) [.int 1]))
  refine own_blk dec11 seq11 hby hx hZ hown hK hF 6 [false] [.ref ba] X2 eh2 ?_
  show (¬ (((1 : Int32)).toInt = 0)) ∧ (Fld Z h0 a "java/lang/String" "value" "[B" (.ref ba)) ∧ own_Aft X2 h0 _ 14 [zA a, zI 59, zI 0] [.ref a, .int 0, .int 59, .ref ba]
  refine ⟨by decide, F2, fun T3 X3 eh3 => ?_⟩
  refine own_callVP X3 hx hZ hown (hw _ (wm 56 rfl)) (hw _ (wm 57 rfl)) (hw _ (wm 59 rfl)) (hw _ (wm 58 rfl)) (hw _ (wm 6 rfl)) (hw _ (wm 60 rfl)) (by decide) eh3 EX [] pd13 rfl (fr := 1) (lo := 16) (rm13_1 l Z a0 hw [] a ba zc b0 h0 n0 Z0 S1 zn EX F1 F2 Ab) (by rw [hml]; rfl) 3 rfl (Nat.le_of_eq rfl) (hb hby d11_14) (by decide) (by decide) (by decide) (by decide) (fun T4 rv4 X4 eh4 qc4 => ?_)
  obtain rfl := qc4
  show own_Go p.tables e below _ (T4.setTop (mkF m 17 (Array.mk [zA a, zI 59, zI 0]) [.int 1, .int 0, .int 59, .ref ba]))
  refine own_callSP X4 hx hZ hown (hw _ (wm 66 rfl)) (hw _ (wm 67 rfl)) (hw _ (wm 68 rfl)) (hw _ (wm 69 rfl)) (by decide) eh4 [.ref ba, .int 59, .int 0, .int 1] pd15 rfl (fr := 1) (lo := 24) (rm15_1_59 l Z a0 hw [] ba b0 h0 n0 Z0 Ab) (by rw [hml]; rfl) 0 rfl (Nat.le_of_eq rfl) (hb hby d11_17) (by decide) (by decide) (by decide) (by decide) (fun T5 rv5 X5 eh5 qc5 => ?_)
  obtain ⟨r, rfl, hr⟩ := qc5
  show own_Go p.tables e below _ (T5.setTop (mkF m 20 (Array.mk [zA a, zI 59, zI 0]) [.int r]))
  refine own_blk dec11 seq11 hby hx hZ hown hK hF 1 [] [] X5 eh5 ?_
  show own_Aft X5 h0 _ 36 [zA a, zI 59, zI 0] [.int r]
  refine fun T6 X6 eh6 => ?_
  exact own_ret X6 hx hlk eh6 hret (by first | rfl | decide) (Or.inl ⟨rfl, by simp, _, rfl⟩) (hb hby d11_36) (by decide) (by decide) (⟨⟨_, rfl, hr⟩, rfl, rfl⟩)
set_option maxRecDepth 65536 in
set_option maxHeartbeats 40000000 in
theorem rm10_1_59 (l : Launch) (Z : State) (a0 : Array Value) (hw : ∀ d ∈ tables_1, d.before a0 Z = true) (ws : List Jvm.Cond) (a ba : Addr) (zc : Int32) (b0 : Int32) (h0 : Heap) (n0 : Nat) (Z0 : n0 ≤ h0.size) (S1 : Sta Z h0 "java/lang/String" "COMPACT_STRINGS" "Z" (.int zc)) (zn : ¬ zc = (0 : Int32)) (EX : Exa Z h0 a "java/lang/String") (F1 : Fld Z h0 a "java/lang/String" "coder" "B" (.int (0 : Int32))) (F2 : Fld Z h0 a "java/lang/String" "value" "[B" (.ref ba)) (Ab : own_A Z h0 ba .byte [.int b0]) :
    own_MF l (⟨"java/lang/String", "indexOf", "(I)I"⟩ : MethodName) jdk_42_method_79_code 2 (some .int) ws ({ frames := 3, cells := 0, slots := 0, locals := 56 } : Room) #[.ref a, .int 59] Z h0 (fun v h L => (∃ r : Int32, v = some (.int r) ∧ ((r.toInt < 0 ∧ b0.toInt ≠ 59) ∨ (0 ≤ r.toInt ∧ (b0.toInt = 59)))) ∧ L = [] ∧ h = h0) := by
  refine own_body pf10 (ls0 := [.val (.ref a), .val (.int 59)]) (fun m => by first | (simp [entryFrame, mkF, argsToLocals, Value.category, maxLocals]; done) | rfl) ?_
  intro p e s m below meth c T0 hx hby hml hown hnm hlk hret hZ X0 e0
  have hK := hKt10 hw; have hF := hFt10 hw
  have N0 := Fr.nil n0
  refine own_blk dec10 seq10 hby hx hZ hown hK hF 3 [] [] X0 e0 ?_
  show own_Aft X0 h0 _ 3 [zA a, zI 59] [.int 0, .int 59, .ref a]
  refine fun T1 X1 eh1 => ?_
  refine own_callVP X1 hx hZ hown (hw _ (wm 46 rfl)) (hw _ (wm 47 rfl)) (hw _ (wm 49 rfl)) (hw _ (wm 48 rfl)) (hw _ (wm 6 rfl)) (hw _ (wm 50 rfl)) (by decide) eh1 EX [.int 59, .int 0] pd11 rfl (fr := 2) (lo := 40) (rm11_1_59 l Z a0 hw [] a ba zc b0 h0 n0 Z0 S1 zn EX F1 F2 Ab) (by rw [hml]; rfl) 0 rfl (Nat.le_of_eq rfl) (hb hby d10_3) (by decide) (by decide) (by decide) (by decide) (fun T2 rv2 X2 eh2 qc2 => ?_)
  obtain ⟨r, rfl, hr⟩ := qc2
  show own_Go p.tables e below _ (T2.setTop (mkF m 6 (Array.mk [zA a, zI 59]) [.int r]))
  exact own_ret X2 hx hlk eh2 hret (by first | rfl | decide) (Or.inl ⟨rfl, by simp, _, rfl⟩) (hb hby d10_6) (by decide) (by decide) (⟨⟨_, rfl, hr⟩, rfl, rfl⟩)
set_option maxRecDepth 65536 in
set_option maxHeartbeats 40000000 in
theorem rm11_1_124 (l : Launch) (Z : State) (a0 : Array Value) (hw : ∀ d ∈ tables_1, d.before a0 Z = true) (ws : List Jvm.Cond) (a ba : Addr) (zc : Int32) (b0 : Int32) (h0 : Heap) (n0 : Nat) (Z0 : n0 ≤ h0.size) (S1 : Sta Z h0 "java/lang/String" "COMPACT_STRINGS" "Z" (.int zc)) (zn : ¬ zc = (0 : Int32)) (EX : Exa Z h0 a "java/lang/String") (F1 : Fld Z h0 a "java/lang/String" "coder" "B" (.int (0 : Int32))) (F2 : Fld Z h0 a "java/lang/String" "value" "[B" (.ref ba)) (Ab : own_A Z h0 ba .byte [.int b0]) :
    own_MF l (⟨"java/lang/String", "indexOf", "(II)I"⟩ : MethodName) jdk_42_method_80_code 3 (some .int) ws ({ frames := 2, cells := 0, slots := 0, locals := 40 } : Room) #[.ref a, .int 124, .int 0] Z h0 (fun v h L => (∃ r : Int32, v = some (.int r) ∧ ((r.toInt < 0 ∧ b0.toInt ≠ 124) ∨ (0 ≤ r.toInt ∧ (b0.toInt = 124)))) ∧ L = [] ∧ h = h0) := by
  refine own_body pf11 (ls0 := [.val (.ref a), .val (.int 124), .val (.int 0)]) (fun m => by first | (simp [entryFrame, mkF, argsToLocals, Value.category, maxLocals]; done) | rfl) ?_
  intro p e s m below meth c T0 hx hby hml hown hnm hlk hret hZ X0 e0
  have hK := hKt10 hw; have hF := hFt10 hw
  have N0 := Fr.nil n0
  refine own_blk dec11 seq11 hby hx hZ hown hK hF 1 [] [] X0 e0 ?_
  show own_Aft X0 h0 _ 1 [zA a, zI 124, zI 0] [.ref a]
  refine fun T1 X1 eh1 => ?_
  refine own_callVP X1 hx hZ hown (hw _ (wm 51 rfl)) (hw _ (wm 52 rfl)) (hw _ (wm 54 rfl)) (hw _ (wm 53 rfl)) (hw _ (wm 6 rfl)) (hw _ (wm 55 rfl)) (by decide) eh1 EX [] pd12 rfl (fr := 0) (lo := 0) (rm12 l Z a0 hw [] a zc h0 n0 Z0 S1 zn F1) (by rw [hml]; rfl) 0 rfl (Nat.le_of_eq rfl) (hb hby d11_1) (by decide) (by decide) (by decide) (by decide) (fun T2 rv2 X2 eh2 qc2 => ?_)
  obtain rfl := qc2
  show own_Go p.tables e below _ (T2.setTop (mkF m 4 (Array.mk [zA a, zI 124, zI 0]) [.int 1]))
  refine own_blk dec11 seq11 hby hx hZ hown hK hF 6 [false] [.ref ba] X2 eh2 ?_
  show (¬ (((1 : Int32)).toInt = 0)) ∧ (Fld Z h0 a "java/lang/String" "value" "[B" (.ref ba)) ∧ own_Aft X2 h0 _ 14 [zA a, zI 124, zI 0] [.ref a, .int 0, .int 124, .ref ba]
  refine ⟨by decide, F2, fun T3 X3 eh3 => ?_⟩
  refine own_callVP X3 hx hZ hown (hw _ (wm 56 rfl)) (hw _ (wm 57 rfl)) (hw _ (wm 59 rfl)) (hw _ (wm 58 rfl)) (hw _ (wm 6 rfl)) (hw _ (wm 60 rfl)) (by decide) eh3 EX [] pd13 rfl (fr := 1) (lo := 16) (rm13_1 l Z a0 hw [] a ba zc b0 h0 n0 Z0 S1 zn EX F1 F2 Ab) (by rw [hml]; rfl) 3 rfl (Nat.le_of_eq rfl) (hb hby d11_14) (by decide) (by decide) (by decide) (by decide) (fun T4 rv4 X4 eh4 qc4 => ?_)
  obtain rfl := qc4
  show own_Go p.tables e below _ (T4.setTop (mkF m 17 (Array.mk [zA a, zI 124, zI 0]) [.int 1, .int 0, .int 124, .ref ba]))
  refine own_callSP X4 hx hZ hown (hw _ (wm 66 rfl)) (hw _ (wm 67 rfl)) (hw _ (wm 68 rfl)) (hw _ (wm 69 rfl)) (by decide) eh4 [.ref ba, .int 124, .int 0, .int 1] pd15 rfl (fr := 1) (lo := 24) (rm15_1_124 l Z a0 hw [] ba b0 h0 n0 Z0 Ab) (by rw [hml]; rfl) 0 rfl (Nat.le_of_eq rfl) (hb hby d11_17) (by decide) (by decide) (by decide) (by decide) (fun T5 rv5 X5 eh5 qc5 => ?_)
  obtain ⟨r, rfl, hr⟩ := qc5
  show own_Go p.tables e below _ (T5.setTop (mkF m 20 (Array.mk [zA a, zI 124, zI 0]) [.int r]))
  refine own_blk dec11 seq11 hby hx hZ hown hK hF 1 [] [] X5 eh5 ?_
  show own_Aft X5 h0 _ 36 [zA a, zI 124, zI 0] [.int r]
  refine fun T6 X6 eh6 => ?_
  exact own_ret X6 hx hlk eh6 hret (by first | rfl | decide) (Or.inl ⟨rfl, by simp, _, rfl⟩) (hb hby d11_36) (by decide) (by decide) (⟨⟨_, rfl, hr⟩, rfl, rfl⟩)
set_option maxRecDepth 65536 in
set_option maxHeartbeats 40000000 in
theorem rm10_1_124 (l : Launch) (Z : State) (a0 : Array Value) (hw : ∀ d ∈ tables_1, d.before a0 Z = true) (ws : List Jvm.Cond) (a ba : Addr) (zc : Int32) (b0 : Int32) (h0 : Heap) (n0 : Nat) (Z0 : n0 ≤ h0.size) (S1 : Sta Z h0 "java/lang/String" "COMPACT_STRINGS" "Z" (.int zc)) (zn : ¬ zc = (0 : Int32)) (EX : Exa Z h0 a "java/lang/String") (F1 : Fld Z h0 a "java/lang/String" "coder" "B" (.int (0 : Int32))) (F2 : Fld Z h0 a "java/lang/String" "value" "[B" (.ref ba)) (Ab : own_A Z h0 ba .byte [.int b0]) :
    own_MF l (⟨"java/lang/String", "indexOf", "(I)I"⟩ : MethodName) jdk_42_method_79_code 2 (some .int) ws ({ frames := 3, cells := 0, slots := 0, locals := 56 } : Room) #[.ref a, .int 124] Z h0 (fun v h L => (∃ r : Int32, v = some (.int r) ∧ ((r.toInt < 0 ∧ b0.toInt ≠ 124) ∨ (0 ≤ r.toInt ∧ (b0.toInt = 124)))) ∧ L = [] ∧ h = h0) := by
  refine own_body pf10 (ls0 := [.val (.ref a), .val (.int 124)]) (fun m => by first | (simp [entryFrame, mkF, argsToLocals, Value.category, maxLocals]; done) | rfl) ?_
  intro p e s m below meth c T0 hx hby hml hown hnm hlk hret hZ X0 e0
  have hK := hKt10 hw; have hF := hFt10 hw
  have N0 := Fr.nil n0
  refine own_blk dec10 seq10 hby hx hZ hown hK hF 3 [] [] X0 e0 ?_
  show own_Aft X0 h0 _ 3 [zA a, zI 124] [.int 0, .int 124, .ref a]
  refine fun T1 X1 eh1 => ?_
  refine own_callVP X1 hx hZ hown (hw _ (wm 46 rfl)) (hw _ (wm 47 rfl)) (hw _ (wm 49 rfl)) (hw _ (wm 48 rfl)) (hw _ (wm 6 rfl)) (hw _ (wm 50 rfl)) (by decide) eh1 EX [.int 124, .int 0] pd11 rfl (fr := 2) (lo := 40) (rm11_1_124 l Z a0 hw [] a ba zc b0 h0 n0 Z0 S1 zn EX F1 F2 Ab) (by rw [hml]; rfl) 0 rfl (Nat.le_of_eq rfl) (hb hby d10_3) (by decide) (by decide) (by decide) (by decide) (fun T2 rv2 X2 eh2 qc2 => ?_)
  obtain ⟨r, rfl, hr⟩ := qc2
  show own_Go p.tables e below _ (T2.setTop (mkF m 6 (Array.mk [zA a, zI 124]) [.int r]))
  exact own_ret X2 hx hlk eh2 hret (by first | rfl | decide) (Or.inl ⟨rfl, by simp, _, rfl⟩) (hb hby d10_6) (by decide) (by decide) (⟨⟨_, rfl, hr⟩, rfl, rfl⟩)
set_option maxRecDepth 65536 in
set_option maxHeartbeats 40000000 in
theorem rm11_2_59 (l : Launch) (Z : State) (a0 : Array Value) (hw : ∀ d ∈ tables_1, d.before a0 Z = true) (ws : List Jvm.Cond) (a ba : Addr) (zc : Int32) (b0 b1 : Int32) (h0 : Heap) (n0 : Nat) (Z0 : n0 ≤ h0.size) (S1 : Sta Z h0 "java/lang/String" "COMPACT_STRINGS" "Z" (.int zc)) (zn : ¬ zc = (0 : Int32)) (EX : Exa Z h0 a "java/lang/String") (F1 : Fld Z h0 a "java/lang/String" "coder" "B" (.int (0 : Int32))) (F2 : Fld Z h0 a "java/lang/String" "value" "[B" (.ref ba)) (Ab : own_A Z h0 ba .byte [.int b0, .int b1]) :
    own_MF l (⟨"java/lang/String", "indexOf", "(II)I"⟩ : MethodName) jdk_42_method_80_code 3 (some .int) ws ({ frames := 2, cells := 0, slots := 0, locals := 40 } : Room) #[.ref a, .int 59, .int 0] Z h0 (fun v h L => (∃ r : Int32, v = some (.int r) ∧ ((r.toInt < 0 ∧ b0.toInt ≠ 59 ∧ b1.toInt ≠ 59) ∨ (0 ≤ r.toInt ∧ (b0.toInt = 59 ∨ b1.toInt = 59)))) ∧ L = [] ∧ h = h0) := by
  refine own_body pf11 (ls0 := [.val (.ref a), .val (.int 59), .val (.int 0)]) (fun m => by first | (simp [entryFrame, mkF, argsToLocals, Value.category, maxLocals]; done) | rfl) ?_
  intro p e s m below meth c T0 hx hby hml hown hnm hlk hret hZ X0 e0
  have hK := hKt10 hw; have hF := hFt10 hw
  have N0 := Fr.nil n0
  refine own_blk dec11 seq11 hby hx hZ hown hK hF 1 [] [] X0 e0 ?_
  show own_Aft X0 h0 _ 1 [zA a, zI 59, zI 0] [.ref a]
  refine fun T1 X1 eh1 => ?_
  refine own_callVP X1 hx hZ hown (hw _ (wm 51 rfl)) (hw _ (wm 52 rfl)) (hw _ (wm 54 rfl)) (hw _ (wm 53 rfl)) (hw _ (wm 6 rfl)) (hw _ (wm 55 rfl)) (by decide) eh1 EX [] pd12 rfl (fr := 0) (lo := 0) (rm12 l Z a0 hw [] a zc h0 n0 Z0 S1 zn F1) (by rw [hml]; rfl) 0 rfl (Nat.le_of_eq rfl) (hb hby d11_1) (by decide) (by decide) (by decide) (by decide) (fun T2 rv2 X2 eh2 qc2 => ?_)
  obtain rfl := qc2
  show own_Go p.tables e below _ (T2.setTop (mkF m 4 (Array.mk [zA a, zI 59, zI 0]) [.int 1]))
  refine own_blk dec11 seq11 hby hx hZ hown hK hF 6 [false] [.ref ba] X2 eh2 ?_
  show (¬ (((1 : Int32)).toInt = 0)) ∧ (Fld Z h0 a "java/lang/String" "value" "[B" (.ref ba)) ∧ own_Aft X2 h0 _ 14 [zA a, zI 59, zI 0] [.ref a, .int 0, .int 59, .ref ba]
  refine ⟨by decide, F2, fun T3 X3 eh3 => ?_⟩
  refine own_callVP X3 hx hZ hown (hw _ (wm 56 rfl)) (hw _ (wm 57 rfl)) (hw _ (wm 59 rfl)) (hw _ (wm 58 rfl)) (hw _ (wm 6 rfl)) (hw _ (wm 60 rfl)) (by decide) eh3 EX [] pd13 rfl (fr := 1) (lo := 16) (rm13_2 l Z a0 hw [] a ba zc b0 b1 h0 n0 Z0 S1 zn EX F1 F2 Ab) (by rw [hml]; rfl) 3 rfl (Nat.le_of_eq rfl) (hb hby d11_14) (by decide) (by decide) (by decide) (by decide) (fun T4 rv4 X4 eh4 qc4 => ?_)
  obtain rfl := qc4
  show own_Go p.tables e below _ (T4.setTop (mkF m 17 (Array.mk [zA a, zI 59, zI 0]) [.int 2, .int 0, .int 59, .ref ba]))
  refine own_callSP X4 hx hZ hown (hw _ (wm 66 rfl)) (hw _ (wm 67 rfl)) (hw _ (wm 68 rfl)) (hw _ (wm 69 rfl)) (by decide) eh4 [.ref ba, .int 59, .int 0, .int 2] pd15 rfl (fr := 1) (lo := 24) (rm15_2_59 l Z a0 hw [] ba b0 b1 h0 n0 Z0 Ab) (by rw [hml]; rfl) 0 rfl (Nat.le_of_eq rfl) (hb hby d11_17) (by decide) (by decide) (by decide) (by decide) (fun T5 rv5 X5 eh5 qc5 => ?_)
  obtain ⟨r, rfl, hr⟩ := qc5
  show own_Go p.tables e below _ (T5.setTop (mkF m 20 (Array.mk [zA a, zI 59, zI 0]) [.int r]))
  refine own_blk dec11 seq11 hby hx hZ hown hK hF 1 [] [] X5 eh5 ?_
  show own_Aft X5 h0 _ 36 [zA a, zI 59, zI 0] [.int r]
  refine fun T6 X6 eh6 => ?_
  exact own_ret X6 hx hlk eh6 hret (by first | rfl | decide) (Or.inl ⟨rfl, by simp, _, rfl⟩) (hb hby d11_36) (by decide) (by decide) (⟨⟨_, rfl, hr⟩, rfl, rfl⟩)
set_option maxRecDepth 65536 in
set_option maxHeartbeats 40000000 in
theorem rm10_2_59 (l : Launch) (Z : State) (a0 : Array Value) (hw : ∀ d ∈ tables_1, d.before a0 Z = true) (ws : List Jvm.Cond) (a ba : Addr) (zc : Int32) (b0 b1 : Int32) (h0 : Heap) (n0 : Nat) (Z0 : n0 ≤ h0.size) (S1 : Sta Z h0 "java/lang/String" "COMPACT_STRINGS" "Z" (.int zc)) (zn : ¬ zc = (0 : Int32)) (EX : Exa Z h0 a "java/lang/String") (F1 : Fld Z h0 a "java/lang/String" "coder" "B" (.int (0 : Int32))) (F2 : Fld Z h0 a "java/lang/String" "value" "[B" (.ref ba)) (Ab : own_A Z h0 ba .byte [.int b0, .int b1]) :
    own_MF l (⟨"java/lang/String", "indexOf", "(I)I"⟩ : MethodName) jdk_42_method_79_code 2 (some .int) ws ({ frames := 3, cells := 0, slots := 0, locals := 56 } : Room) #[.ref a, .int 59] Z h0 (fun v h L => (∃ r : Int32, v = some (.int r) ∧ ((r.toInt < 0 ∧ b0.toInt ≠ 59 ∧ b1.toInt ≠ 59) ∨ (0 ≤ r.toInt ∧ (b0.toInt = 59 ∨ b1.toInt = 59)))) ∧ L = [] ∧ h = h0) := by
  refine own_body pf10 (ls0 := [.val (.ref a), .val (.int 59)]) (fun m => by first | (simp [entryFrame, mkF, argsToLocals, Value.category, maxLocals]; done) | rfl) ?_
  intro p e s m below meth c T0 hx hby hml hown hnm hlk hret hZ X0 e0
  have hK := hKt10 hw; have hF := hFt10 hw
  have N0 := Fr.nil n0
  refine own_blk dec10 seq10 hby hx hZ hown hK hF 3 [] [] X0 e0 ?_
  show own_Aft X0 h0 _ 3 [zA a, zI 59] [.int 0, .int 59, .ref a]
  refine fun T1 X1 eh1 => ?_
  refine own_callVP X1 hx hZ hown (hw _ (wm 46 rfl)) (hw _ (wm 47 rfl)) (hw _ (wm 49 rfl)) (hw _ (wm 48 rfl)) (hw _ (wm 6 rfl)) (hw _ (wm 50 rfl)) (by decide) eh1 EX [.int 59, .int 0] pd11 rfl (fr := 2) (lo := 40) (rm11_2_59 l Z a0 hw [] a ba zc b0 b1 h0 n0 Z0 S1 zn EX F1 F2 Ab) (by rw [hml]; rfl) 0 rfl (Nat.le_of_eq rfl) (hb hby d10_3) (by decide) (by decide) (by decide) (by decide) (fun T2 rv2 X2 eh2 qc2 => ?_)
  obtain ⟨r, rfl, hr⟩ := qc2
  show own_Go p.tables e below _ (T2.setTop (mkF m 6 (Array.mk [zA a, zI 59]) [.int r]))
  exact own_ret X2 hx hlk eh2 hret (by first | rfl | decide) (Or.inl ⟨rfl, by simp, _, rfl⟩) (hb hby d10_6) (by decide) (by decide) (⟨⟨_, rfl, hr⟩, rfl, rfl⟩)
set_option maxRecDepth 65536 in
set_option maxHeartbeats 40000000 in
theorem rm11_2_124 (l : Launch) (Z : State) (a0 : Array Value) (hw : ∀ d ∈ tables_1, d.before a0 Z = true) (ws : List Jvm.Cond) (a ba : Addr) (zc : Int32) (b0 b1 : Int32) (h0 : Heap) (n0 : Nat) (Z0 : n0 ≤ h0.size) (S1 : Sta Z h0 "java/lang/String" "COMPACT_STRINGS" "Z" (.int zc)) (zn : ¬ zc = (0 : Int32)) (EX : Exa Z h0 a "java/lang/String") (F1 : Fld Z h0 a "java/lang/String" "coder" "B" (.int (0 : Int32))) (F2 : Fld Z h0 a "java/lang/String" "value" "[B" (.ref ba)) (Ab : own_A Z h0 ba .byte [.int b0, .int b1]) :
    own_MF l (⟨"java/lang/String", "indexOf", "(II)I"⟩ : MethodName) jdk_42_method_80_code 3 (some .int) ws ({ frames := 2, cells := 0, slots := 0, locals := 40 } : Room) #[.ref a, .int 124, .int 0] Z h0 (fun v h L => (∃ r : Int32, v = some (.int r) ∧ ((r.toInt < 0 ∧ b0.toInt ≠ 124 ∧ b1.toInt ≠ 124) ∨ (0 ≤ r.toInt ∧ (b0.toInt = 124 ∨ b1.toInt = 124)))) ∧ L = [] ∧ h = h0) := by
  refine own_body pf11 (ls0 := [.val (.ref a), .val (.int 124), .val (.int 0)]) (fun m => by first | (simp [entryFrame, mkF, argsToLocals, Value.category, maxLocals]; done) | rfl) ?_
  intro p e s m below meth c T0 hx hby hml hown hnm hlk hret hZ X0 e0
  have hK := hKt10 hw; have hF := hFt10 hw
  have N0 := Fr.nil n0
  refine own_blk dec11 seq11 hby hx hZ hown hK hF 1 [] [] X0 e0 ?_
  show own_Aft X0 h0 _ 1 [zA a, zI 124, zI 0] [.ref a]
  refine fun T1 X1 eh1 => ?_
  refine own_callVP X1 hx hZ hown (hw _ (wm 51 rfl)) (hw _ (wm 52 rfl)) (hw _ (wm 54 rfl)) (hw _ (wm 53 rfl)) (hw _ (wm 6 rfl)) (hw _ (wm 55 rfl)) (by decide) eh1 EX [] pd12 rfl (fr := 0) (lo := 0) (rm12 l Z a0 hw [] a zc h0 n0 Z0 S1 zn F1) (by rw [hml]; rfl) 0 rfl (Nat.le_of_eq rfl) (hb hby d11_1) (by decide) (by decide) (by decide) (by decide) (fun T2 rv2 X2 eh2 qc2 => ?_)
  obtain rfl := qc2
  show own_Go p.tables e below _ (T2.setTop (mkF m 4 (Array.mk [zA a, zI 124, zI 0]) [.int 1]))
  refine own_blk dec11 seq11 hby hx hZ hown hK hF 6 [false] [.ref ba] X2 eh2 ?_
  show (¬ (((1 : Int32)).toInt = 0)) ∧ (Fld Z h0 a "java/lang/String" "value" "[B" (.ref ba)) ∧ own_Aft X2 h0 _ 14 [zA a, zI 124, zI 0] [.ref a, .int 0, .int 124, .ref ba]
  refine ⟨by decide, F2, fun T3 X3 eh3 => ?_⟩
  refine own_callVP X3 hx hZ hown (hw _ (wm 56 rfl)) (hw _ (wm 57 rfl)) (hw _ (wm 59 rfl)) (hw _ (wm 58 rfl)) (hw _ (wm 6 rfl)) (hw _ (wm 60 rfl)) (by decide) eh3 EX [] pd13 rfl (fr := 1) (lo := 16) (rm13_2 l Z a0 hw [] a ba zc b0 b1 h0 n0 Z0 S1 zn EX F1 F2 Ab) (by rw [hml]; rfl) 3 rfl (Nat.le_of_eq rfl) (hb hby d11_14) (by decide) (by decide) (by decide) (by decide) (fun T4 rv4 X4 eh4 qc4 => ?_)
  obtain rfl := qc4
  show own_Go p.tables e below _ (T4.setTop (mkF m 17 (Array.mk [zA a, zI 124, zI 0]) [.int 2, .int 0, .int 124, .ref ba]))
  refine own_callSP X4 hx hZ hown (hw _ (wm 66 rfl)) (hw _ (wm 67 rfl)) (hw _ (wm 68 rfl)) (hw _ (wm 69 rfl)) (by decide) eh4 [.ref ba, .int 124, .int 0, .int 2] pd15 rfl (fr := 1) (lo := 24) (rm15_2_124 l Z a0 hw [] ba b0 b1 h0 n0 Z0 Ab) (by rw [hml]; rfl) 0 rfl (Nat.le_of_eq rfl) (hb hby d11_17) (by decide) (by decide) (by decide) (by decide) (fun T5 rv5 X5 eh5 qc5 => ?_)
  obtain ⟨r, rfl, hr⟩ := qc5
  show own_Go p.tables e below _ (T5.setTop (mkF m 20 (Array.mk [zA a, zI 124, zI 0]) [.int r]))
  refine own_blk dec11 seq11 hby hx hZ hown hK hF 1 [] [] X5 eh5 ?_
  show own_Aft X5 h0 _ 36 [zA a, zI 124, zI 0] [.int r]
  refine fun T6 X6 eh6 => ?_
  exact own_ret X6 hx hlk eh6 hret (by first | rfl | decide) (Or.inl ⟨rfl, by simp, _, rfl⟩) (hb hby d11_36) (by decide) (by decide) (⟨⟨_, rfl, hr⟩, rfl, rfl⟩)
set_option maxRecDepth 65536 in
set_option maxHeartbeats 40000000 in
theorem rm10_2_124 (l : Launch) (Z : State) (a0 : Array Value) (hw : ∀ d ∈ tables_1, d.before a0 Z = true) (ws : List Jvm.Cond) (a ba : Addr) (zc : Int32) (b0 b1 : Int32) (h0 : Heap) (n0 : Nat) (Z0 : n0 ≤ h0.size) (S1 : Sta Z h0 "java/lang/String" "COMPACT_STRINGS" "Z" (.int zc)) (zn : ¬ zc = (0 : Int32)) (EX : Exa Z h0 a "java/lang/String") (F1 : Fld Z h0 a "java/lang/String" "coder" "B" (.int (0 : Int32))) (F2 : Fld Z h0 a "java/lang/String" "value" "[B" (.ref ba)) (Ab : own_A Z h0 ba .byte [.int b0, .int b1]) :
    own_MF l (⟨"java/lang/String", "indexOf", "(I)I"⟩ : MethodName) jdk_42_method_79_code 2 (some .int) ws ({ frames := 3, cells := 0, slots := 0, locals := 56 } : Room) #[.ref a, .int 124] Z h0 (fun v h L => (∃ r : Int32, v = some (.int r) ∧ ((r.toInt < 0 ∧ b0.toInt ≠ 124 ∧ b1.toInt ≠ 124) ∨ (0 ≤ r.toInt ∧ (b0.toInt = 124 ∨ b1.toInt = 124)))) ∧ L = [] ∧ h = h0) := by
  refine own_body pf10 (ls0 := [.val (.ref a), .val (.int 124)]) (fun m => by first | (simp [entryFrame, mkF, argsToLocals, Value.category, maxLocals]; done) | rfl) ?_
  intro p e s m below meth c T0 hx hby hml hown hnm hlk hret hZ X0 e0
  have hK := hKt10 hw; have hF := hFt10 hw
  have N0 := Fr.nil n0
  refine own_blk dec10 seq10 hby hx hZ hown hK hF 3 [] [] X0 e0 ?_
  show own_Aft X0 h0 _ 3 [zA a, zI 124] [.int 0, .int 124, .ref a]
  refine fun T1 X1 eh1 => ?_
  refine own_callVP X1 hx hZ hown (hw _ (wm 46 rfl)) (hw _ (wm 47 rfl)) (hw _ (wm 49 rfl)) (hw _ (wm 48 rfl)) (hw _ (wm 6 rfl)) (hw _ (wm 50 rfl)) (by decide) eh1 EX [.int 124, .int 0] pd11 rfl (fr := 2) (lo := 40) (rm11_2_124 l Z a0 hw [] a ba zc b0 b1 h0 n0 Z0 S1 zn EX F1 F2 Ab) (by rw [hml]; rfl) 0 rfl (Nat.le_of_eq rfl) (hb hby d10_3) (by decide) (by decide) (by decide) (by decide) (fun T2 rv2 X2 eh2 qc2 => ?_)
  obtain ⟨r, rfl, hr⟩ := qc2
  show own_Go p.tables e below _ (T2.setTop (mkF m 6 (Array.mk [zA a, zI 124]) [.int r]))
  exact own_ret X2 hx hlk eh2 hret (by first | rfl | decide) (Or.inl ⟨rfl, by simp, _, rfl⟩) (hb hby d10_6) (by decide) (by decide) (⟨⟨_, rfl, hr⟩, rfl, rfl⟩)
set_option maxRecDepth 65536 in
set_option maxHeartbeats 40000000 in
theorem rm11_3_59 (l : Launch) (Z : State) (a0 : Array Value) (hw : ∀ d ∈ tables_1, d.before a0 Z = true) (ws : List Jvm.Cond) (a ba : Addr) (zc : Int32) (b0 b1 b2 : Int32) (h0 : Heap) (n0 : Nat) (Z0 : n0 ≤ h0.size) (S1 : Sta Z h0 "java/lang/String" "COMPACT_STRINGS" "Z" (.int zc)) (zn : ¬ zc = (0 : Int32)) (EX : Exa Z h0 a "java/lang/String") (F1 : Fld Z h0 a "java/lang/String" "coder" "B" (.int (0 : Int32))) (F2 : Fld Z h0 a "java/lang/String" "value" "[B" (.ref ba)) (Ab : own_A Z h0 ba .byte [.int b0, .int b1, .int b2]) :
    own_MF l (⟨"java/lang/String", "indexOf", "(II)I"⟩ : MethodName) jdk_42_method_80_code 3 (some .int) ws ({ frames := 2, cells := 0, slots := 0, locals := 40 } : Room) #[.ref a, .int 59, .int 0] Z h0 (fun v h L => (∃ r : Int32, v = some (.int r) ∧ ((r.toInt < 0 ∧ b0.toInt ≠ 59 ∧ b1.toInt ≠ 59 ∧ b2.toInt ≠ 59) ∨ (0 ≤ r.toInt ∧ (b0.toInt = 59 ∨ b1.toInt = 59 ∨ b2.toInt = 59)))) ∧ L = [] ∧ h = h0) := by
  refine own_body pf11 (ls0 := [.val (.ref a), .val (.int 59), .val (.int 0)]) (fun m => by first | (simp [entryFrame, mkF, argsToLocals, Value.category, maxLocals]; done) | rfl) ?_
  intro p e s m below meth c T0 hx hby hml hown hnm hlk hret hZ X0 e0
  have hK := hKt10 hw; have hF := hFt10 hw
  have N0 := Fr.nil n0
  refine own_blk dec11 seq11 hby hx hZ hown hK hF 1 [] [] X0 e0 ?_
  show own_Aft X0 h0 _ 1 [zA a, zI 59, zI 0] [.ref a]
  refine fun T1 X1 eh1 => ?_
  refine own_callVP X1 hx hZ hown (hw _ (wm 51 rfl)) (hw _ (wm 52 rfl)) (hw _ (wm 54 rfl)) (hw _ (wm 53 rfl)) (hw _ (wm 6 rfl)) (hw _ (wm 55 rfl)) (by decide) eh1 EX [] pd12 rfl (fr := 0) (lo := 0) (rm12 l Z a0 hw [] a zc h0 n0 Z0 S1 zn F1) (by rw [hml]; rfl) 0 rfl (Nat.le_of_eq rfl) (hb hby d11_1) (by decide) (by decide) (by decide) (by decide) (fun T2 rv2 X2 eh2 qc2 => ?_)
  obtain rfl := qc2
  show own_Go p.tables e below _ (T2.setTop (mkF m 4 (Array.mk [zA a, zI 59, zI 0]) [.int 1]))
  refine own_blk dec11 seq11 hby hx hZ hown hK hF 6 [false] [.ref ba] X2 eh2 ?_
  show (¬ (((1 : Int32)).toInt = 0)) ∧ (Fld Z h0 a "java/lang/String" "value" "[B" (.ref ba)) ∧ own_Aft X2 h0 _ 14 [zA a, zI 59, zI 0] [.ref a, .int 0, .int 59, .ref ba]
  refine ⟨by decide, F2, fun T3 X3 eh3 => ?_⟩
  refine own_callVP X3 hx hZ hown (hw _ (wm 56 rfl)) (hw _ (wm 57 rfl)) (hw _ (wm 59 rfl)) (hw _ (wm 58 rfl)) (hw _ (wm 6 rfl)) (hw _ (wm 60 rfl)) (by decide) eh3 EX [] pd13 rfl (fr := 1) (lo := 16) (rm13_3 l Z a0 hw [] a ba zc b0 b1 b2 h0 n0 Z0 S1 zn EX F1 F2 Ab) (by rw [hml]; rfl) 3 rfl (Nat.le_of_eq rfl) (hb hby d11_14) (by decide) (by decide) (by decide) (by decide) (fun T4 rv4 X4 eh4 qc4 => ?_)
  obtain rfl := qc4
  show own_Go p.tables e below _ (T4.setTop (mkF m 17 (Array.mk [zA a, zI 59, zI 0]) [.int 3, .int 0, .int 59, .ref ba]))
  refine own_callSP X4 hx hZ hown (hw _ (wm 66 rfl)) (hw _ (wm 67 rfl)) (hw _ (wm 68 rfl)) (hw _ (wm 69 rfl)) (by decide) eh4 [.ref ba, .int 59, .int 0, .int 3] pd15 rfl (fr := 1) (lo := 24) (rm15_3_59 l Z a0 hw [] ba b0 b1 b2 h0 n0 Z0 Ab) (by rw [hml]; rfl) 0 rfl (Nat.le_of_eq rfl) (hb hby d11_17) (by decide) (by decide) (by decide) (by decide) (fun T5 rv5 X5 eh5 qc5 => ?_)
  obtain ⟨r, rfl, hr⟩ := qc5
  show own_Go p.tables e below _ (T5.setTop (mkF m 20 (Array.mk [zA a, zI 59, zI 0]) [.int r]))
  refine own_blk dec11 seq11 hby hx hZ hown hK hF 1 [] [] X5 eh5 ?_
  show own_Aft X5 h0 _ 36 [zA a, zI 59, zI 0] [.int r]
  refine fun T6 X6 eh6 => ?_
  exact own_ret X6 hx hlk eh6 hret (by first | rfl | decide) (Or.inl ⟨rfl, by simp, _, rfl⟩) (hb hby d11_36) (by decide) (by decide) (⟨⟨_, rfl, hr⟩, rfl, rfl⟩)
set_option maxRecDepth 65536 in
set_option maxHeartbeats 40000000 in
theorem rm10_3_59 (l : Launch) (Z : State) (a0 : Array Value) (hw : ∀ d ∈ tables_1, d.before a0 Z = true) (ws : List Jvm.Cond) (a ba : Addr) (zc : Int32) (b0 b1 b2 : Int32) (h0 : Heap) (n0 : Nat) (Z0 : n0 ≤ h0.size) (S1 : Sta Z h0 "java/lang/String" "COMPACT_STRINGS" "Z" (.int zc)) (zn : ¬ zc = (0 : Int32)) (EX : Exa Z h0 a "java/lang/String") (F1 : Fld Z h0 a "java/lang/String" "coder" "B" (.int (0 : Int32))) (F2 : Fld Z h0 a "java/lang/String" "value" "[B" (.ref ba)) (Ab : own_A Z h0 ba .byte [.int b0, .int b1, .int b2]) :
    own_MF l (⟨"java/lang/String", "indexOf", "(I)I"⟩ : MethodName) jdk_42_method_79_code 2 (some .int) ws ({ frames := 3, cells := 0, slots := 0, locals := 56 } : Room) #[.ref a, .int 59] Z h0 (fun v h L => (∃ r : Int32, v = some (.int r) ∧ ((r.toInt < 0 ∧ b0.toInt ≠ 59 ∧ b1.toInt ≠ 59 ∧ b2.toInt ≠ 59) ∨ (0 ≤ r.toInt ∧ (b0.toInt = 59 ∨ b1.toInt = 59 ∨ b2.toInt = 59)))) ∧ L = [] ∧ h = h0) := by
  refine own_body pf10 (ls0 := [.val (.ref a), .val (.int 59)]) (fun m => by first | (simp [entryFrame, mkF, argsToLocals, Value.category, maxLocals]; done) | rfl) ?_
  intro p e s m below meth c T0 hx hby hml hown hnm hlk hret hZ X0 e0
  have hK := hKt10 hw; have hF := hFt10 hw
  have N0 := Fr.nil n0
  refine own_blk dec10 seq10 hby hx hZ hown hK hF 3 [] [] X0 e0 ?_
  show own_Aft X0 h0 _ 3 [zA a, zI 59] [.int 0, .int 59, .ref a]
  refine fun T1 X1 eh1 => ?_
  refine own_callVP X1 hx hZ hown (hw _ (wm 46 rfl)) (hw _ (wm 47 rfl)) (hw _ (wm 49 rfl)) (hw _ (wm 48 rfl)) (hw _ (wm 6 rfl)) (hw _ (wm 50 rfl)) (by decide) eh1 EX [.int 59, .int 0] pd11 rfl (fr := 2) (lo := 40) (rm11_3_59 l Z a0 hw [] a ba zc b0 b1 b2 h0 n0 Z0 S1 zn EX F1 F2 Ab) (by rw [hml]; rfl) 0 rfl (Nat.le_of_eq rfl) (hb hby d10_3) (by decide) (by decide) (by decide) (by decide) (fun T2 rv2 X2 eh2 qc2 => ?_)
  obtain ⟨r, rfl, hr⟩ := qc2
  show own_Go p.tables e below _ (T2.setTop (mkF m 6 (Array.mk [zA a, zI 59]) [.int r]))
  exact own_ret X2 hx hlk eh2 hret (by first | rfl | decide) (Or.inl ⟨rfl, by simp, _, rfl⟩) (hb hby d10_6) (by decide) (by decide) (⟨⟨_, rfl, hr⟩, rfl, rfl⟩)
set_option maxRecDepth 65536 in
set_option maxHeartbeats 40000000 in
theorem rm11_3_124 (l : Launch) (Z : State) (a0 : Array Value) (hw : ∀ d ∈ tables_1, d.before a0 Z = true) (ws : List Jvm.Cond) (a ba : Addr) (zc : Int32) (b0 b1 b2 : Int32) (h0 : Heap) (n0 : Nat) (Z0 : n0 ≤ h0.size) (S1 : Sta Z h0 "java/lang/String" "COMPACT_STRINGS" "Z" (.int zc)) (zn : ¬ zc = (0 : Int32)) (EX : Exa Z h0 a "java/lang/String") (F1 : Fld Z h0 a "java/lang/String" "coder" "B" (.int (0 : Int32))) (F2 : Fld Z h0 a "java/lang/String" "value" "[B" (.ref ba)) (Ab : own_A Z h0 ba .byte [.int b0, .int b1, .int b2]) :
    own_MF l (⟨"java/lang/String", "indexOf", "(II)I"⟩ : MethodName) jdk_42_method_80_code 3 (some .int) ws ({ frames := 2, cells := 0, slots := 0, locals := 40 } : Room) #[.ref a, .int 124, .int 0] Z h0 (fun v h L => (∃ r : Int32, v = some (.int r) ∧ ((r.toInt < 0 ∧ b0.toInt ≠ 124 ∧ b1.toInt ≠ 124 ∧ b2.toInt ≠ 124) ∨ (0 ≤ r.toInt ∧ (b0.toInt = 124 ∨ b1.toInt = 124 ∨ b2.toInt = 124)))) ∧ L = [] ∧ h = h0) := by
  refine own_body pf11 (ls0 := [.val (.ref a), .val (.int 124), .val (.int 0)]) (fun m => by first | (simp [entryFrame, mkF, argsToLocals, Value.category, maxLocals]; done) | rfl) ?_
  intro p e s m below meth c T0 hx hby hml hown hnm hlk hret hZ X0 e0
  have hK := hKt10 hw; have hF := hFt10 hw
  have N0 := Fr.nil n0
  refine own_blk dec11 seq11 hby hx hZ hown hK hF 1 [] [] X0 e0 ?_
  show own_Aft X0 h0 _ 1 [zA a, zI 124, zI 0] [.ref a]
  refine fun T1 X1 eh1 => ?_
  refine own_callVP X1 hx hZ hown (hw _ (wm 51 rfl)) (hw _ (wm 52 rfl)) (hw _ (wm 54 rfl)) (hw _ (wm 53 rfl)) (hw _ (wm 6 rfl)) (hw _ (wm 55 rfl)) (by decide) eh1 EX [] pd12 rfl (fr := 0) (lo := 0) (rm12 l Z a0 hw [] a zc h0 n0 Z0 S1 zn F1) (by rw [hml]; rfl) 0 rfl (Nat.le_of_eq rfl) (hb hby d11_1) (by decide) (by decide) (by decide) (by decide) (fun T2 rv2 X2 eh2 qc2 => ?_)
  obtain rfl := qc2
  show own_Go p.tables e below _ (T2.setTop (mkF m 4 (Array.mk [zA a, zI 124, zI 0]) [.int 1]))
  refine own_blk dec11 seq11 hby hx hZ hown hK hF 6 [false] [.ref ba] X2 eh2 ?_
  show (¬ (((1 : Int32)).toInt = 0)) ∧ (Fld Z h0 a "java/lang/String" "value" "[B" (.ref ba)) ∧ own_Aft X2 h0 _ 14 [zA a, zI 124, zI 0] [.ref a, .int 0, .int 124, .ref ba]
  refine ⟨by decide, F2, fun T3 X3 eh3 => ?_⟩
  refine own_callVP X3 hx hZ hown (hw _ (wm 56 rfl)) (hw _ (wm 57 rfl)) (hw _ (wm 59 rfl)) (hw _ (wm 58 rfl)) (hw _ (wm 6 rfl)) (hw _ (wm 60 rfl)) (by decide) eh3 EX [] pd13 rfl (fr := 1) (lo := 16) (rm13_3 l Z a0 hw [] a ba zc b0 b1 b2 h0 n0 Z0 S1 zn EX F1 F2 Ab) (by rw [hml]; rfl) 3 rfl (Nat.le_of_eq rfl) (hb hby d11_14) (by decide) (by decide) (by decide) (by decide) (fun T4 rv4 X4 eh4 qc4 => ?_)
  obtain rfl := qc4
  show own_Go p.tables e below _ (T4.setTop (mkF m 17 (Array.mk [zA a, zI 124, zI 0]) [.int 3, .int 0, .int 124, .ref ba]))
  refine own_callSP X4 hx hZ hown (hw _ (wm 66 rfl)) (hw _ (wm 67 rfl)) (hw _ (wm 68 rfl)) (hw _ (wm 69 rfl)) (by decide) eh4 [.ref ba, .int 124, .int 0, .int 3] pd15 rfl (fr := 1) (lo := 24) (rm15_3_124 l Z a0 hw [] ba b0 b1 b2 h0 n0 Z0 Ab) (by rw [hml]; rfl) 0 rfl (Nat.le_of_eq rfl) (hb hby d11_17) (by decide) (by decide) (by decide) (by decide) (fun T5 rv5 X5 eh5 qc5 => ?_)
  obtain ⟨r, rfl, hr⟩ := qc5
  show own_Go p.tables e below _ (T5.setTop (mkF m 20 (Array.mk [zA a, zI 124, zI 0]) [.int r]))
  refine own_blk dec11 seq11 hby hx hZ hown hK hF 1 [] [] X5 eh5 ?_
  show own_Aft X5 h0 _ 36 [zA a, zI 124, zI 0] [.int r]
  refine fun T6 X6 eh6 => ?_
  exact own_ret X6 hx hlk eh6 hret (by first | rfl | decide) (Or.inl ⟨rfl, by simp, _, rfl⟩) (hb hby d11_36) (by decide) (by decide) (⟨⟨_, rfl, hr⟩, rfl, rfl⟩)
set_option maxRecDepth 65536 in
set_option maxHeartbeats 40000000 in
theorem rm10_3_124 (l : Launch) (Z : State) (a0 : Array Value) (hw : ∀ d ∈ tables_1, d.before a0 Z = true) (ws : List Jvm.Cond) (a ba : Addr) (zc : Int32) (b0 b1 b2 : Int32) (h0 : Heap) (n0 : Nat) (Z0 : n0 ≤ h0.size) (S1 : Sta Z h0 "java/lang/String" "COMPACT_STRINGS" "Z" (.int zc)) (zn : ¬ zc = (0 : Int32)) (EX : Exa Z h0 a "java/lang/String") (F1 : Fld Z h0 a "java/lang/String" "coder" "B" (.int (0 : Int32))) (F2 : Fld Z h0 a "java/lang/String" "value" "[B" (.ref ba)) (Ab : own_A Z h0 ba .byte [.int b0, .int b1, .int b2]) :
    own_MF l (⟨"java/lang/String", "indexOf", "(I)I"⟩ : MethodName) jdk_42_method_79_code 2 (some .int) ws ({ frames := 3, cells := 0, slots := 0, locals := 56 } : Room) #[.ref a, .int 124] Z h0 (fun v h L => (∃ r : Int32, v = some (.int r) ∧ ((r.toInt < 0 ∧ b0.toInt ≠ 124 ∧ b1.toInt ≠ 124 ∧ b2.toInt ≠ 124) ∨ (0 ≤ r.toInt ∧ (b0.toInt = 124 ∨ b1.toInt = 124 ∨ b2.toInt = 124)))) ∧ L = [] ∧ h = h0) := by
  refine own_body pf10 (ls0 := [.val (.ref a), .val (.int 124)]) (fun m => by first | (simp [entryFrame, mkF, argsToLocals, Value.category, maxLocals]; done) | rfl) ?_
  intro p e s m below meth c T0 hx hby hml hown hnm hlk hret hZ X0 e0
  have hK := hKt10 hw; have hF := hFt10 hw
  have N0 := Fr.nil n0
  refine own_blk dec10 seq10 hby hx hZ hown hK hF 3 [] [] X0 e0 ?_
  show own_Aft X0 h0 _ 3 [zA a, zI 124] [.int 0, .int 124, .ref a]
  refine fun T1 X1 eh1 => ?_
  refine own_callVP X1 hx hZ hown (hw _ (wm 46 rfl)) (hw _ (wm 47 rfl)) (hw _ (wm 49 rfl)) (hw _ (wm 48 rfl)) (hw _ (wm 6 rfl)) (hw _ (wm 50 rfl)) (by decide) eh1 EX [.int 124, .int 0] pd11 rfl (fr := 2) (lo := 40) (rm11_3_124 l Z a0 hw [] a ba zc b0 b1 b2 h0 n0 Z0 S1 zn EX F1 F2 Ab) (by rw [hml]; rfl) 0 rfl (Nat.le_of_eq rfl) (hb hby d10_3) (by decide) (by decide) (by decide) (by decide) (fun T2 rv2 X2 eh2 qc2 => ?_)
  obtain ⟨r, rfl, hr⟩ := qc2
  show own_Go p.tables e below _ (T2.setTop (mkF m 6 (Array.mk [zA a, zI 124]) [.int r]))
  exact own_ret X2 hx hlk eh2 hret (by first | rfl | decide) (Or.inl ⟨rfl, by simp, _, rfl⟩) (hb hby d10_6) (by decide) (by decide) (⟨⟨_, rfl, hr⟩, rfl, rfl⟩)
set_option maxRecDepth 65536 in
set_option maxHeartbeats 40000000 in
theorem rm11_4_59 (l : Launch) (Z : State) (a0 : Array Value) (hw : ∀ d ∈ tables_1, d.before a0 Z = true) (ws : List Jvm.Cond) (a ba : Addr) (zc : Int32) (b0 b1 b2 b3 : Int32) (h0 : Heap) (n0 : Nat) (Z0 : n0 ≤ h0.size) (S1 : Sta Z h0 "java/lang/String" "COMPACT_STRINGS" "Z" (.int zc)) (zn : ¬ zc = (0 : Int32)) (EX : Exa Z h0 a "java/lang/String") (F1 : Fld Z h0 a "java/lang/String" "coder" "B" (.int (0 : Int32))) (F2 : Fld Z h0 a "java/lang/String" "value" "[B" (.ref ba)) (Ab : own_A Z h0 ba .byte [.int b0, .int b1, .int b2, .int b3]) :
    own_MF l (⟨"java/lang/String", "indexOf", "(II)I"⟩ : MethodName) jdk_42_method_80_code 3 (some .int) ws ({ frames := 2, cells := 0, slots := 0, locals := 40 } : Room) #[.ref a, .int 59, .int 0] Z h0 (fun v h L => (∃ r : Int32, v = some (.int r) ∧ ((r.toInt < 0 ∧ b0.toInt ≠ 59 ∧ b1.toInt ≠ 59 ∧ b2.toInt ≠ 59 ∧ b3.toInt ≠ 59) ∨ (0 ≤ r.toInt ∧ (b0.toInt = 59 ∨ b1.toInt = 59 ∨ b2.toInt = 59 ∨ b3.toInt = 59)))) ∧ L = [] ∧ h = h0) := by
  refine own_body pf11 (ls0 := [.val (.ref a), .val (.int 59), .val (.int 0)]) (fun m => by first | (simp [entryFrame, mkF, argsToLocals, Value.category, maxLocals]; done) | rfl) ?_
  intro p e s m below meth c T0 hx hby hml hown hnm hlk hret hZ X0 e0
  have hK := hKt10 hw; have hF := hFt10 hw
  have N0 := Fr.nil n0
  refine own_blk dec11 seq11 hby hx hZ hown hK hF 1 [] [] X0 e0 ?_
  show own_Aft X0 h0 _ 1 [zA a, zI 59, zI 0] [.ref a]
  refine fun T1 X1 eh1 => ?_
  refine own_callVP X1 hx hZ hown (hw _ (wm 51 rfl)) (hw _ (wm 52 rfl)) (hw _ (wm 54 rfl)) (hw _ (wm 53 rfl)) (hw _ (wm 6 rfl)) (hw _ (wm 55 rfl)) (by decide) eh1 EX [] pd12 rfl (fr := 0) (lo := 0) (rm12 l Z a0 hw [] a zc h0 n0 Z0 S1 zn F1) (by rw [hml]; rfl) 0 rfl (Nat.le_of_eq rfl) (hb hby d11_1) (by decide) (by decide) (by decide) (by decide) (fun T2 rv2 X2 eh2 qc2 => ?_)
  obtain rfl := qc2
  show own_Go p.tables e below _ (T2.setTop (mkF m 4 (Array.mk [zA a, zI 59, zI 0]) [.int 1]))
  refine own_blk dec11 seq11 hby hx hZ hown hK hF 6 [false] [.ref ba] X2 eh2 ?_
  show (¬ (((1 : Int32)).toInt = 0)) ∧ (Fld Z h0 a "java/lang/String" "value" "[B" (.ref ba)) ∧ own_Aft X2 h0 _ 14 [zA a, zI 59, zI 0] [.ref a, .int 0, .int 59, .ref ba]
  refine ⟨by decide, F2, fun T3 X3 eh3 => ?_⟩
  refine own_callVP X3 hx hZ hown (hw _ (wm 56 rfl)) (hw _ (wm 57 rfl)) (hw _ (wm 59 rfl)) (hw _ (wm 58 rfl)) (hw _ (wm 6 rfl)) (hw _ (wm 60 rfl)) (by decide) eh3 EX [] pd13 rfl (fr := 1) (lo := 16) (rm13_4 l Z a0 hw [] a ba zc b0 b1 b2 b3 h0 n0 Z0 S1 zn EX F1 F2 Ab) (by rw [hml]; rfl) 3 rfl (Nat.le_of_eq rfl) (hb hby d11_14) (by decide) (by decide) (by decide) (by decide) (fun T4 rv4 X4 eh4 qc4 => ?_)
  obtain rfl := qc4
  show own_Go p.tables e below _ (T4.setTop (mkF m 17 (Array.mk [zA a, zI 59, zI 0]) [.int 4, .int 0, .int 59, .ref ba]))
  refine own_callSP X4 hx hZ hown (hw _ (wm 66 rfl)) (hw _ (wm 67 rfl)) (hw _ (wm 68 rfl)) (hw _ (wm 69 rfl)) (by decide) eh4 [.ref ba, .int 59, .int 0, .int 4] pd15 rfl (fr := 1) (lo := 24) (rm15_4_59 l Z a0 hw [] ba b0 b1 b2 b3 h0 n0 Z0 Ab) (by rw [hml]; rfl) 0 rfl (Nat.le_of_eq rfl) (hb hby d11_17) (by decide) (by decide) (by decide) (by decide) (fun T5 rv5 X5 eh5 qc5 => ?_)
  obtain ⟨r, rfl, hr⟩ := qc5
  show own_Go p.tables e below _ (T5.setTop (mkF m 20 (Array.mk [zA a, zI 59, zI 0]) [.int r]))
  refine own_blk dec11 seq11 hby hx hZ hown hK hF 1 [] [] X5 eh5 ?_
  show own_Aft X5 h0 _ 36 [zA a, zI 59, zI 0] [.int r]
  refine fun T6 X6 eh6 => ?_
  exact own_ret X6 hx hlk eh6 hret (by first | rfl | decide) (Or.inl ⟨rfl, by simp, _, rfl⟩) (hb hby d11_36) (by decide) (by decide) (⟨⟨_, rfl, hr⟩, rfl, rfl⟩)
set_option maxRecDepth 65536 in
set_option maxHeartbeats 40000000 in
theorem rm10_4_59 (l : Launch) (Z : State) (a0 : Array Value) (hw : ∀ d ∈ tables_1, d.before a0 Z = true) (ws : List Jvm.Cond) (a ba : Addr) (zc : Int32) (b0 b1 b2 b3 : Int32) (h0 : Heap) (n0 : Nat) (Z0 : n0 ≤ h0.size) (S1 : Sta Z h0 "java/lang/String" "COMPACT_STRINGS" "Z" (.int zc)) (zn : ¬ zc = (0 : Int32)) (EX : Exa Z h0 a "java/lang/String") (F1 : Fld Z h0 a "java/lang/String" "coder" "B" (.int (0 : Int32))) (F2 : Fld Z h0 a "java/lang/String" "value" "[B" (.ref ba)) (Ab : own_A Z h0 ba .byte [.int b0, .int b1, .int b2, .int b3]) :
    own_MF l (⟨"java/lang/String", "indexOf", "(I)I"⟩ : MethodName) jdk_42_method_79_code 2 (some .int) ws ({ frames := 3, cells := 0, slots := 0, locals := 56 } : Room) #[.ref a, .int 59] Z h0 (fun v h L => (∃ r : Int32, v = some (.int r) ∧ ((r.toInt < 0 ∧ b0.toInt ≠ 59 ∧ b1.toInt ≠ 59 ∧ b2.toInt ≠ 59 ∧ b3.toInt ≠ 59) ∨ (0 ≤ r.toInt ∧ (b0.toInt = 59 ∨ b1.toInt = 59 ∨ b2.toInt = 59 ∨ b3.toInt = 59)))) ∧ L = [] ∧ h = h0) := by
  refine own_body pf10 (ls0 := [.val (.ref a), .val (.int 59)]) (fun m => by first | (simp [entryFrame, mkF, argsToLocals, Value.category, maxLocals]; done) | rfl) ?_
  intro p e s m below meth c T0 hx hby hml hown hnm hlk hret hZ X0 e0
  have hK := hKt10 hw; have hF := hFt10 hw
  have N0 := Fr.nil n0
  refine own_blk dec10 seq10 hby hx hZ hown hK hF 3 [] [] X0 e0 ?_
  show own_Aft X0 h0 _ 3 [zA a, zI 59] [.int 0, .int 59, .ref a]
  refine fun T1 X1 eh1 => ?_
  refine own_callVP X1 hx hZ hown (hw _ (wm 46 rfl)) (hw _ (wm 47 rfl)) (hw _ (wm 49 rfl)) (hw _ (wm 48 rfl)) (hw _ (wm 6 rfl)) (hw _ (wm 50 rfl)) (by decide) eh1 EX [.int 59, .int 0] pd11 rfl (fr := 2) (lo := 40) (rm11_4_59 l Z a0 hw [] a ba zc b0 b1 b2 b3 h0 n0 Z0 S1 zn EX F1 F2 Ab) (by rw [hml]; rfl) 0 rfl (Nat.le_of_eq rfl) (hb hby d10_3) (by decide) (by decide) (by decide) (by decide) (fun T2 rv2 X2 eh2 qc2 => ?_)
  obtain ⟨r, rfl, hr⟩ := qc2
  show own_Go p.tables e below _ (T2.setTop (mkF m 6 (Array.mk [zA a, zI 59]) [.int r]))
  exact own_ret X2 hx hlk eh2 hret (by first | rfl | decide) (Or.inl ⟨rfl, by simp, _, rfl⟩) (hb hby d10_6) (by decide) (by decide) (⟨⟨_, rfl, hr⟩, rfl, rfl⟩)
set_option maxRecDepth 65536 in
set_option maxHeartbeats 40000000 in
theorem rm11_4_124 (l : Launch) (Z : State) (a0 : Array Value) (hw : ∀ d ∈ tables_1, d.before a0 Z = true) (ws : List Jvm.Cond) (a ba : Addr) (zc : Int32) (b0 b1 b2 b3 : Int32) (h0 : Heap) (n0 : Nat) (Z0 : n0 ≤ h0.size) (S1 : Sta Z h0 "java/lang/String" "COMPACT_STRINGS" "Z" (.int zc)) (zn : ¬ zc = (0 : Int32)) (EX : Exa Z h0 a "java/lang/String") (F1 : Fld Z h0 a "java/lang/String" "coder" "B" (.int (0 : Int32))) (F2 : Fld Z h0 a "java/lang/String" "value" "[B" (.ref ba)) (Ab : own_A Z h0 ba .byte [.int b0, .int b1, .int b2, .int b3]) :
    own_MF l (⟨"java/lang/String", "indexOf", "(II)I"⟩ : MethodName) jdk_42_method_80_code 3 (some .int) ws ({ frames := 2, cells := 0, slots := 0, locals := 40 } : Room) #[.ref a, .int 124, .int 0] Z h0 (fun v h L => (∃ r : Int32, v = some (.int r) ∧ ((r.toInt < 0 ∧ b0.toInt ≠ 124 ∧ b1.toInt ≠ 124 ∧ b2.toInt ≠ 124 ∧ b3.toInt ≠ 124) ∨ (0 ≤ r.toInt ∧ (b0.toInt = 124 ∨ b1.toInt = 124 ∨ b2.toInt = 124 ∨ b3.toInt = 124)))) ∧ L = [] ∧ h = h0) := by
  refine own_body pf11 (ls0 := [.val (.ref a), .val (.int 124), .val (.int 0)]) (fun m => by first | (simp [entryFrame, mkF, argsToLocals, Value.category, maxLocals]; done) | rfl) ?_
  intro p e s m below meth c T0 hx hby hml hown hnm hlk hret hZ X0 e0
  have hK := hKt10 hw; have hF := hFt10 hw
  have N0 := Fr.nil n0
  refine own_blk dec11 seq11 hby hx hZ hown hK hF 1 [] [] X0 e0 ?_
  show own_Aft X0 h0 _ 1 [zA a, zI 124, zI 0] [.ref a]
  refine fun T1 X1 eh1 => ?_
  refine own_callVP X1 hx hZ hown (hw _ (wm 51 rfl)) (hw _ (wm 52 rfl)) (hw _ (wm 54 rfl)) (hw _ (wm 53 rfl)) (hw _ (wm 6 rfl)) (hw _ (wm 55 rfl)) (by decide) eh1 EX [] pd12 rfl (fr := 0) (lo := 0) (rm12 l Z a0 hw [] a zc h0 n0 Z0 S1 zn F1) (by rw [hml]; rfl) 0 rfl (Nat.le_of_eq rfl) (hb hby d11_1) (by decide) (by decide) (by decide) (by decide) (fun T2 rv2 X2 eh2 qc2 => ?_)
  obtain rfl := qc2
  show own_Go p.tables e below _ (T2.setTop (mkF m 4 (Array.mk [zA a, zI 124, zI 0]) [.int 1]))
  refine own_blk dec11 seq11 hby hx hZ hown hK hF 6 [false] [.ref ba] X2 eh2 ?_
  show (¬ (((1 : Int32)).toInt = 0)) ∧ (Fld Z h0 a "java/lang/String" "value" "[B" (.ref ba)) ∧ own_Aft X2 h0 _ 14 [zA a, zI 124, zI 0] [.ref a, .int 0, .int 124, .ref ba]
  refine ⟨by decide, F2, fun T3 X3 eh3 => ?_⟩
  refine own_callVP X3 hx hZ hown (hw _ (wm 56 rfl)) (hw _ (wm 57 rfl)) (hw _ (wm 59 rfl)) (hw _ (wm 58 rfl)) (hw _ (wm 6 rfl)) (hw _ (wm 60 rfl)) (by decide) eh3 EX [] pd13 rfl (fr := 1) (lo := 16) (rm13_4 l Z a0 hw [] a ba zc b0 b1 b2 b3 h0 n0 Z0 S1 zn EX F1 F2 Ab) (by rw [hml]; rfl) 3 rfl (Nat.le_of_eq rfl) (hb hby d11_14) (by decide) (by decide) (by decide) (by decide) (fun T4 rv4 X4 eh4 qc4 => ?_)
  obtain rfl := qc4
  show own_Go p.tables e below _ (T4.setTop (mkF m 17 (Array.mk [zA a, zI 124, zI 0]) [.int 4, .int 0, .int 124, .ref ba]))
  refine own_callSP X4 hx hZ hown (hw _ (wm 66 rfl)) (hw _ (wm 67 rfl)) (hw _ (wm 68 rfl)) (hw _ (wm 69 rfl)) (by decide) eh4 [.ref ba, .int 124, .int 0, .int 4] pd15 rfl (fr := 1) (lo := 24) (rm15_4_124 l Z a0 hw [] ba b0 b1 b2 b3 h0 n0 Z0 Ab) (by rw [hml]; rfl) 0 rfl (Nat.le_of_eq rfl) (hb hby d11_17) (by decide) (by decide) (by decide) (by decide) (fun T5 rv5 X5 eh5 qc5 => ?_)
  obtain ⟨r, rfl, hr⟩ := qc5
  show own_Go p.tables e below _ (T5.setTop (mkF m 20 (Array.mk [zA a, zI 124, zI 0]) [.int r]))
  refine own_blk dec11 seq11 hby hx hZ hown hK hF 1 [] [] X5 eh5 ?_
  show own_Aft X5 h0 _ 36 [zA a, zI 124, zI 0] [.int r]
  refine fun T6 X6 eh6 => ?_
  exact own_ret X6 hx hlk eh6 hret (by first | rfl | decide) (Or.inl ⟨rfl, by simp, _, rfl⟩) (hb hby d11_36) (by decide) (by decide) (⟨⟨_, rfl, hr⟩, rfl, rfl⟩)
set_option maxRecDepth 65536 in
set_option maxHeartbeats 40000000 in
theorem rm10_4_124 (l : Launch) (Z : State) (a0 : Array Value) (hw : ∀ d ∈ tables_1, d.before a0 Z = true) (ws : List Jvm.Cond) (a ba : Addr) (zc : Int32) (b0 b1 b2 b3 : Int32) (h0 : Heap) (n0 : Nat) (Z0 : n0 ≤ h0.size) (S1 : Sta Z h0 "java/lang/String" "COMPACT_STRINGS" "Z" (.int zc)) (zn : ¬ zc = (0 : Int32)) (EX : Exa Z h0 a "java/lang/String") (F1 : Fld Z h0 a "java/lang/String" "coder" "B" (.int (0 : Int32))) (F2 : Fld Z h0 a "java/lang/String" "value" "[B" (.ref ba)) (Ab : own_A Z h0 ba .byte [.int b0, .int b1, .int b2, .int b3]) :
    own_MF l (⟨"java/lang/String", "indexOf", "(I)I"⟩ : MethodName) jdk_42_method_79_code 2 (some .int) ws ({ frames := 3, cells := 0, slots := 0, locals := 56 } : Room) #[.ref a, .int 124] Z h0 (fun v h L => (∃ r : Int32, v = some (.int r) ∧ ((r.toInt < 0 ∧ b0.toInt ≠ 124 ∧ b1.toInt ≠ 124 ∧ b2.toInt ≠ 124 ∧ b3.toInt ≠ 124) ∨ (0 ≤ r.toInt ∧ (b0.toInt = 124 ∨ b1.toInt = 124 ∨ b2.toInt = 124 ∨ b3.toInt = 124)))) ∧ L = [] ∧ h = h0) := by
  refine own_body pf10 (ls0 := [.val (.ref a), .val (.int 124)]) (fun m => by first | (simp [entryFrame, mkF, argsToLocals, Value.category, maxLocals]; done) | rfl) ?_
  intro p e s m below meth c T0 hx hby hml hown hnm hlk hret hZ X0 e0
  have hK := hKt10 hw; have hF := hFt10 hw
  have N0 := Fr.nil n0
  refine own_blk dec10 seq10 hby hx hZ hown hK hF 3 [] [] X0 e0 ?_
  show own_Aft X0 h0 _ 3 [zA a, zI 124] [.int 0, .int 124, .ref a]
  refine fun T1 X1 eh1 => ?_
  refine own_callVP X1 hx hZ hown (hw _ (wm 46 rfl)) (hw _ (wm 47 rfl)) (hw _ (wm 49 rfl)) (hw _ (wm 48 rfl)) (hw _ (wm 6 rfl)) (hw _ (wm 50 rfl)) (by decide) eh1 EX [.int 124, .int 0] pd11 rfl (fr := 2) (lo := 40) (rm11_4_124 l Z a0 hw [] a ba zc b0 b1 b2 b3 h0 n0 Z0 S1 zn EX F1 F2 Ab) (by rw [hml]; rfl) 0 rfl (Nat.le_of_eq rfl) (hb hby d10_3) (by decide) (by decide) (by decide) (by decide) (fun T2 rv2 X2 eh2 qc2 => ?_)
  obtain ⟨r, rfl, hr⟩ := qc2
  show own_Go p.tables e below _ (T2.setTop (mkF m 6 (Array.mk [zA a, zI 124]) [.int r]))
  exact own_ret X2 hx hlk eh2 hret (by first | rfl | decide) (Or.inl ⟨rfl, by simp, _, rfl⟩) (hb hby d10_6) (by decide) (by decide) (⟨⟨_, rfl, hr⟩, rfl, rfl⟩)
set_option maxRecDepth 65536 in
set_option maxHeartbeats 40000000 in
theorem rm9_1 (l : Launch) (Z : State) (a0 : Array Value) (hw : ∀ d ∈ tables_1, d.before a0 Z = true) (ws : List Jvm.Cond) (a ba : Addr) (zc : Int32) (b0 : Int32) (h0 : Heap) (n0 : Nat) (Z0 : n0 ≤ h0.size) (S1 : Sta Z h0 "java/lang/String" "COMPACT_STRINGS" "Z" (.int zc)) (zn : ¬ zc = (0 : Int32)) (EX : Exa Z h0 a "java/lang/String") (F1 : Fld Z h0 a "java/lang/String" "coder" "B" (.int (0 : Int32))) (F2 : Fld Z h0 a "java/lang/String" "value" "[B" (.ref ba)) (Ab : own_A Z h0 ba .byte [.int b0]) :
    own_MF l (⟨"com/example/kartei/kartei/directory/KimCodes", "isAppTagCode", "(Ljava/lang/String;)Z"⟩ : MethodName) prog_11_method_3_code 1 (some .boolean) ws ({ frames := 4, cells := 0, slots := 0, locals := 72 } : Room) #[.ref a] Z h0 (fun v h L => (∃ r : Int32, v = some (.int r) ∧ ((r = 1 ∧ b0.toInt ≠ 59 ∧ b0.toInt ≠ 124) ∨ (r = 0 ∧ (b0.toInt = 59 ∨ b0.toInt = 124)))) ∧ L = [] ∧ h = h0) := by
  refine own_body pf9 (ls0 := [.val (.ref a)]) (fun m => by first | (simp [entryFrame, mkF, argsToLocals, Value.category, maxLocals]; done) | rfl) ?_
  intro p e s m below meth c T0 hx hby hml hown hnm hlk hret hZ X0 e0
  have hK := hKt9 hw; have hF := hFt9 hw
  have N0 := Fr.nil n0
  refine own_blk dec9 seq9 hby hx hZ hown hK hF 2 [] [.int 59] X0 e0 ?_
  show ((Int8.ofInt 59).toInt32 = (59 : Int32)) ∧ own_Aft X0 h0 _ 3 [zA a] [.int 59, .ref a]
  refine ⟨by decide +kernel, fun T1 X1 eh1 => ?_⟩
  refine own_callVP X1 hx hZ hown (hw _ (wm 41 rfl)) (hw _ (wm 42 rfl)) (hw _ (wm 44 rfl)) (hw _ (wm 43 rfl)) (hw _ (wm 6 rfl)) (hw _ (wm 45 rfl)) (by decide) eh1 EX [.int 59] pd10 rfl (fr := 3) (lo := 56) (rm10_1_59 l Z a0 hw [] a ba zc b0 h0 n0 Z0 S1 zn EX F1 F2 Ab) (by rw [hml]; rfl) 0 rfl (Nat.le_of_eq rfl) (hb hby d9_3) (by decide) (by decide) (by decide) (by decide) (fun T2 rv2 X2 eh2 qc2 => ?_)
  obtain ⟨r, rfl, hr⟩ := qc2
  show own_Go p.tables e below _ (T2.setTop (mkF m 6 (Array.mk [zA a]) [.int r]))
  rcases hr with hr | hr
  · skip
    refine own_blk dec9 seq9 hby hx hZ hown hK hF 3 [false] [.int 124] X2 eh2 ?_
    show (¬ (0 ≤ (r).toInt)) ∧ ((Int8.ofInt 124).toInt32 = (124 : Int32)) ∧ own_Aft X2 h0 _ 12 [zA a] [.int 124, .ref a]
    refine ⟨by omega, by decide +kernel, fun T3 X3 eh3 => ?_⟩
    refine own_callVP X3 hx hZ hown (hw _ (wm 41 rfl)) (hw _ (wm 42 rfl)) (hw _ (wm 44 rfl)) (hw _ (wm 43 rfl)) (hw _ (wm 6 rfl)) (hw _ (wm 45 rfl)) (by decide) eh3 EX [.int 124] pd10 rfl (fr := 3) (lo := 56) (rm10_1_124 l Z a0 hw [] a ba zc b0 h0 n0 Z0 S1 zn EX F1 F2 Ab) (by rw [hml]; rfl) 0 rfl (Nat.le_of_eq rfl) (hb hby d9_12) (by decide) (by decide) (by decide) (by decide) (fun T4 rv4 X4 eh4 qc4 => ?_)
    obtain ⟨r', rfl, hs⟩ := qc4
    show own_Go p.tables e below _ (T4.setTop (mkF m 15 (Array.mk [zA a]) [.int r']))
    rcases hs with hs | hs
    · skip
      refine own_blk dec9 seq9 hby hx hZ hown hK hF 3 [false] [] X4 eh4 ?_
      show (¬ (0 ≤ (r').toInt)) ∧ own_Aft X4 h0 _ 23 [zA a] [.int 1]
      refine ⟨by omega, fun T5 X5 eh5 => ?_⟩
      exact own_ret X5 hx hlk eh5 hret (by first | rfl | decide) (Or.inl ⟨rfl, by simp, _, rfl⟩) (hb hby d9_23) (by decide) (by decide) (⟨⟨_, rfl, Or.inl ⟨rfl, by omega⟩⟩, rfl, rfl⟩)
    · skip
      refine own_blk dec9 seq9 hby hx hZ hown hK hF 2 [true] [] X4 eh4 ?_
      show (0 ≤ (r').toInt) ∧ own_Aft X4 h0 _ 23 [zA a] [.int 0]
      refine ⟨hs.1, fun T6 X6 eh6 => ?_⟩
      exact own_ret X6 hx hlk eh6 hret (by first | rfl | decide) (Or.inl ⟨rfl, by simp, _, rfl⟩) (hb hby d9_23) (by decide) (by decide) (⟨⟨_, rfl, Or.inr ⟨rfl, by omega⟩⟩, rfl, rfl⟩)
  · skip
    refine own_blk dec9 seq9 hby hx hZ hown hK hF 2 [true] [] X2 eh2 ?_
    show (0 ≤ (r).toInt) ∧ own_Aft X2 h0 _ 23 [zA a] [.int 0]
    refine ⟨hr.1, fun T7 X7 eh7 => ?_⟩
    exact own_ret X7 hx hlk eh7 hret (by first | rfl | decide) (Or.inl ⟨rfl, by simp, _, rfl⟩) (hb hby d9_23) (by decide) (by decide) (⟨⟨_, rfl, Or.inr ⟨rfl, by omega⟩⟩, rfl, rfl⟩)
set_option maxRecDepth 65536 in
set_option maxHeartbeats 40000000 in
theorem rm9_2 (l : Launch) (Z : State) (a0 : Array Value) (hw : ∀ d ∈ tables_1, d.before a0 Z = true) (ws : List Jvm.Cond) (a ba : Addr) (zc : Int32) (b0 b1 : Int32) (h0 : Heap) (n0 : Nat) (Z0 : n0 ≤ h0.size) (S1 : Sta Z h0 "java/lang/String" "COMPACT_STRINGS" "Z" (.int zc)) (zn : ¬ zc = (0 : Int32)) (EX : Exa Z h0 a "java/lang/String") (F1 : Fld Z h0 a "java/lang/String" "coder" "B" (.int (0 : Int32))) (F2 : Fld Z h0 a "java/lang/String" "value" "[B" (.ref ba)) (Ab : own_A Z h0 ba .byte [.int b0, .int b1]) :
    own_MF l (⟨"com/example/kartei/kartei/directory/KimCodes", "isAppTagCode", "(Ljava/lang/String;)Z"⟩ : MethodName) prog_11_method_3_code 1 (some .boolean) ws ({ frames := 4, cells := 0, slots := 0, locals := 72 } : Room) #[.ref a] Z h0 (fun v h L => (∃ r : Int32, v = some (.int r) ∧ ((r = 1 ∧ b0.toInt ≠ 59 ∧ b0.toInt ≠ 124 ∧ b1.toInt ≠ 59 ∧ b1.toInt ≠ 124) ∨ (r = 0 ∧ (b0.toInt = 59 ∨ b0.toInt = 124 ∨ b1.toInt = 59 ∨ b1.toInt = 124)))) ∧ L = [] ∧ h = h0) := by
  refine own_body pf9 (ls0 := [.val (.ref a)]) (fun m => by first | (simp [entryFrame, mkF, argsToLocals, Value.category, maxLocals]; done) | rfl) ?_
  intro p e s m below meth c T0 hx hby hml hown hnm hlk hret hZ X0 e0
  have hK := hKt9 hw; have hF := hFt9 hw
  have N0 := Fr.nil n0
  refine own_blk dec9 seq9 hby hx hZ hown hK hF 2 [] [.int 59] X0 e0 ?_
  show ((Int8.ofInt 59).toInt32 = (59 : Int32)) ∧ own_Aft X0 h0 _ 3 [zA a] [.int 59, .ref a]
  refine ⟨by decide +kernel, fun T1 X1 eh1 => ?_⟩
  refine own_callVP X1 hx hZ hown (hw _ (wm 41 rfl)) (hw _ (wm 42 rfl)) (hw _ (wm 44 rfl)) (hw _ (wm 43 rfl)) (hw _ (wm 6 rfl)) (hw _ (wm 45 rfl)) (by decide) eh1 EX [.int 59] pd10 rfl (fr := 3) (lo := 56) (rm10_2_59 l Z a0 hw [] a ba zc b0 b1 h0 n0 Z0 S1 zn EX F1 F2 Ab) (by rw [hml]; rfl) 0 rfl (Nat.le_of_eq rfl) (hb hby d9_3) (by decide) (by decide) (by decide) (by decide) (fun T2 rv2 X2 eh2 qc2 => ?_)
  obtain ⟨r, rfl, hr⟩ := qc2
  show own_Go p.tables e below _ (T2.setTop (mkF m 6 (Array.mk [zA a]) [.int r]))
  rcases hr with hr | hr
  · skip
    refine own_blk dec9 seq9 hby hx hZ hown hK hF 3 [false] [.int 124] X2 eh2 ?_
    show (¬ (0 ≤ (r).toInt)) ∧ ((Int8.ofInt 124).toInt32 = (124 : Int32)) ∧ own_Aft X2 h0 _ 12 [zA a] [.int 124, .ref a]
    refine ⟨by omega, by decide +kernel, fun T3 X3 eh3 => ?_⟩
    refine own_callVP X3 hx hZ hown (hw _ (wm 41 rfl)) (hw _ (wm 42 rfl)) (hw _ (wm 44 rfl)) (hw _ (wm 43 rfl)) (hw _ (wm 6 rfl)) (hw _ (wm 45 rfl)) (by decide) eh3 EX [.int 124] pd10 rfl (fr := 3) (lo := 56) (rm10_2_124 l Z a0 hw [] a ba zc b0 b1 h0 n0 Z0 S1 zn EX F1 F2 Ab) (by rw [hml]; rfl) 0 rfl (Nat.le_of_eq rfl) (hb hby d9_12) (by decide) (by decide) (by decide) (by decide) (fun T4 rv4 X4 eh4 qc4 => ?_)
    obtain ⟨r', rfl, hs⟩ := qc4
    show own_Go p.tables e below _ (T4.setTop (mkF m 15 (Array.mk [zA a]) [.int r']))
    rcases hs with hs | hs
    · skip
      refine own_blk dec9 seq9 hby hx hZ hown hK hF 3 [false] [] X4 eh4 ?_
      show (¬ (0 ≤ (r').toInt)) ∧ own_Aft X4 h0 _ 23 [zA a] [.int 1]
      refine ⟨by omega, fun T5 X5 eh5 => ?_⟩
      exact own_ret X5 hx hlk eh5 hret (by first | rfl | decide) (Or.inl ⟨rfl, by simp, _, rfl⟩) (hb hby d9_23) (by decide) (by decide) (⟨⟨_, rfl, Or.inl ⟨rfl, by omega⟩⟩, rfl, rfl⟩)
    · skip
      refine own_blk dec9 seq9 hby hx hZ hown hK hF 2 [true] [] X4 eh4 ?_
      show (0 ≤ (r').toInt) ∧ own_Aft X4 h0 _ 23 [zA a] [.int 0]
      refine ⟨hs.1, fun T6 X6 eh6 => ?_⟩
      exact own_ret X6 hx hlk eh6 hret (by first | rfl | decide) (Or.inl ⟨rfl, by simp, _, rfl⟩) (hb hby d9_23) (by decide) (by decide) (⟨⟨_, rfl, Or.inr ⟨rfl, by omega⟩⟩, rfl, rfl⟩)
  · skip
    refine own_blk dec9 seq9 hby hx hZ hown hK hF 2 [true] [] X2 eh2 ?_
    show (0 ≤ (r).toInt) ∧ own_Aft X2 h0 _ 23 [zA a] [.int 0]
    refine ⟨hr.1, fun T7 X7 eh7 => ?_⟩
    exact own_ret X7 hx hlk eh7 hret (by first | rfl | decide) (Or.inl ⟨rfl, by simp, _, rfl⟩) (hb hby d9_23) (by decide) (by decide) (⟨⟨_, rfl, Or.inr ⟨rfl, by omega⟩⟩, rfl, rfl⟩)
set_option maxRecDepth 65536 in
set_option maxHeartbeats 40000000 in
theorem rm9_3 (l : Launch) (Z : State) (a0 : Array Value) (hw : ∀ d ∈ tables_1, d.before a0 Z = true) (ws : List Jvm.Cond) (a ba : Addr) (zc : Int32) (b0 b1 b2 : Int32) (h0 : Heap) (n0 : Nat) (Z0 : n0 ≤ h0.size) (S1 : Sta Z h0 "java/lang/String" "COMPACT_STRINGS" "Z" (.int zc)) (zn : ¬ zc = (0 : Int32)) (EX : Exa Z h0 a "java/lang/String") (F1 : Fld Z h0 a "java/lang/String" "coder" "B" (.int (0 : Int32))) (F2 : Fld Z h0 a "java/lang/String" "value" "[B" (.ref ba)) (Ab : own_A Z h0 ba .byte [.int b0, .int b1, .int b2]) :
    own_MF l (⟨"com/example/kartei/kartei/directory/KimCodes", "isAppTagCode", "(Ljava/lang/String;)Z"⟩ : MethodName) prog_11_method_3_code 1 (some .boolean) ws ({ frames := 4, cells := 0, slots := 0, locals := 72 } : Room) #[.ref a] Z h0 (fun v h L => (∃ r : Int32, v = some (.int r) ∧ ((r = 1 ∧ b0.toInt ≠ 59 ∧ b0.toInt ≠ 124 ∧ b1.toInt ≠ 59 ∧ b1.toInt ≠ 124 ∧ b2.toInt ≠ 59 ∧ b2.toInt ≠ 124) ∨ (r = 0 ∧ (b0.toInt = 59 ∨ b0.toInt = 124 ∨ b1.toInt = 59 ∨ b1.toInt = 124 ∨ b2.toInt = 59 ∨ b2.toInt = 124)))) ∧ L = [] ∧ h = h0) := by
  refine own_body pf9 (ls0 := [.val (.ref a)]) (fun m => by first | (simp [entryFrame, mkF, argsToLocals, Value.category, maxLocals]; done) | rfl) ?_
  intro p e s m below meth c T0 hx hby hml hown hnm hlk hret hZ X0 e0
  have hK := hKt9 hw; have hF := hFt9 hw
  have N0 := Fr.nil n0
  refine own_blk dec9 seq9 hby hx hZ hown hK hF 2 [] [.int 59] X0 e0 ?_
  show ((Int8.ofInt 59).toInt32 = (59 : Int32)) ∧ own_Aft X0 h0 _ 3 [zA a] [.int 59, .ref a]
  refine ⟨by decide +kernel, fun T1 X1 eh1 => ?_⟩
  refine own_callVP X1 hx hZ hown (hw _ (wm 41 rfl)) (hw _ (wm 42 rfl)) (hw _ (wm 44 rfl)) (hw _ (wm 43 rfl)) (hw _ (wm 6 rfl)) (hw _ (wm 45 rfl)) (by decide) eh1 EX [.int 59] pd10 rfl (fr := 3) (lo := 56) (rm10_3_59 l Z a0 hw [] a ba zc b0 b1 b2 h0 n0 Z0 S1 zn EX F1 F2 Ab) (by rw [hml]; rfl) 0 rfl (Nat.le_of_eq rfl) (hb hby d9_3) (by decide) (by decide) (by decide) (by decide) (fun T2 rv2 X2 eh2 qc2 => ?_)
  obtain ⟨r, rfl, hr⟩ := qc2
  show own_Go p.tables e below _ (T2.setTop (mkF m 6 (Array.mk [zA a]) [.int r]))
  rcases hr with hr | hr
  · skip
    refine own_blk dec9 seq9 hby hx hZ hown hK hF 3 [false] [.int 124] X2 eh2 ?_
    show (¬ (0 ≤ (r).toInt)) ∧ ((Int8.ofInt 124).toInt32 = (124 : Int32)) ∧ own_Aft X2 h0 _ 12 [zA a] [.int 124, .ref a]
    refine ⟨by omega, by decide +kernel, fun T3 X3 eh3 => ?_⟩
    refine own_callVP X3 hx hZ hown (hw _ (wm 41 rfl)) (hw _ (wm 42 rfl)) (hw _ (wm 44 rfl)) (hw _ (wm 43 rfl)) (hw _ (wm 6 rfl)) (hw _ (wm 45 rfl)) (by decide) eh3 EX [.int 124] pd10 rfl (fr := 3) (lo := 56) (rm10_3_124 l Z a0 hw [] a ba zc b0 b1 b2 h0 n0 Z0 S1 zn EX F1 F2 Ab) (by rw [hml]; rfl) 0 rfl (Nat.le_of_eq rfl) (hb hby d9_12) (by decide) (by decide) (by decide) (by decide) (fun T4 rv4 X4 eh4 qc4 => ?_)
    obtain ⟨r', rfl, hs⟩ := qc4
    show own_Go p.tables e below _ (T4.setTop (mkF m 15 (Array.mk [zA a]) [.int r']))
    rcases hs with hs | hs
    · skip
      refine own_blk dec9 seq9 hby hx hZ hown hK hF 3 [false] [] X4 eh4 ?_
      show (¬ (0 ≤ (r').toInt)) ∧ own_Aft X4 h0 _ 23 [zA a] [.int 1]
      refine ⟨by omega, fun T5 X5 eh5 => ?_⟩
      exact own_ret X5 hx hlk eh5 hret (by first | rfl | decide) (Or.inl ⟨rfl, by simp, _, rfl⟩) (hb hby d9_23) (by decide) (by decide) (⟨⟨_, rfl, Or.inl ⟨rfl, by omega⟩⟩, rfl, rfl⟩)
    · skip
      refine own_blk dec9 seq9 hby hx hZ hown hK hF 2 [true] [] X4 eh4 ?_
      show (0 ≤ (r').toInt) ∧ own_Aft X4 h0 _ 23 [zA a] [.int 0]
      refine ⟨hs.1, fun T6 X6 eh6 => ?_⟩
      exact own_ret X6 hx hlk eh6 hret (by first | rfl | decide) (Or.inl ⟨rfl, by simp, _, rfl⟩) (hb hby d9_23) (by decide) (by decide) (⟨⟨_, rfl, Or.inr ⟨rfl, by omega⟩⟩, rfl, rfl⟩)
  · skip
    refine own_blk dec9 seq9 hby hx hZ hown hK hF 2 [true] [] X2 eh2 ?_
    show (0 ≤ (r).toInt) ∧ own_Aft X2 h0 _ 23 [zA a] [.int 0]
    refine ⟨hr.1, fun T7 X7 eh7 => ?_⟩
    exact own_ret X7 hx hlk eh7 hret (by first | rfl | decide) (Or.inl ⟨rfl, by simp, _, rfl⟩) (hb hby d9_23) (by decide) (by decide) (⟨⟨_, rfl, Or.inr ⟨rfl, by omega⟩⟩, rfl, rfl⟩)
set_option maxRecDepth 65536 in
set_option maxHeartbeats 40000000 in
theorem rm9_4 (l : Launch) (Z : State) (a0 : Array Value) (hw : ∀ d ∈ tables_1, d.before a0 Z = true) (ws : List Jvm.Cond) (a ba : Addr) (zc : Int32) (b0 b1 b2 b3 : Int32) (h0 : Heap) (n0 : Nat) (Z0 : n0 ≤ h0.size) (S1 : Sta Z h0 "java/lang/String" "COMPACT_STRINGS" "Z" (.int zc)) (zn : ¬ zc = (0 : Int32)) (EX : Exa Z h0 a "java/lang/String") (F1 : Fld Z h0 a "java/lang/String" "coder" "B" (.int (0 : Int32))) (F2 : Fld Z h0 a "java/lang/String" "value" "[B" (.ref ba)) (Ab : own_A Z h0 ba .byte [.int b0, .int b1, .int b2, .int b3]) :
    own_MF l (⟨"com/example/kartei/kartei/directory/KimCodes", "isAppTagCode", "(Ljava/lang/String;)Z"⟩ : MethodName) prog_11_method_3_code 1 (some .boolean) ws ({ frames := 4, cells := 0, slots := 0, locals := 72 } : Room) #[.ref a] Z h0 (fun v h L => (∃ r : Int32, v = some (.int r) ∧ ((r = 1 ∧ b0.toInt ≠ 59 ∧ b0.toInt ≠ 124 ∧ b1.toInt ≠ 59 ∧ b1.toInt ≠ 124 ∧ b2.toInt ≠ 59 ∧ b2.toInt ≠ 124 ∧ b3.toInt ≠ 59 ∧ b3.toInt ≠ 124) ∨ (r = 0 ∧ (b0.toInt = 59 ∨ b0.toInt = 124 ∨ b1.toInt = 59 ∨ b1.toInt = 124 ∨ b2.toInt = 59 ∨ b2.toInt = 124 ∨ b3.toInt = 59 ∨ b3.toInt = 124)))) ∧ L = [] ∧ h = h0) := by
  refine own_body pf9 (ls0 := [.val (.ref a)]) (fun m => by first | (simp [entryFrame, mkF, argsToLocals, Value.category, maxLocals]; done) | rfl) ?_
  intro p e s m below meth c T0 hx hby hml hown hnm hlk hret hZ X0 e0
  have hK := hKt9 hw; have hF := hFt9 hw
  have N0 := Fr.nil n0
  refine own_blk dec9 seq9 hby hx hZ hown hK hF 2 [] [.int 59] X0 e0 ?_
  show ((Int8.ofInt 59).toInt32 = (59 : Int32)) ∧ own_Aft X0 h0 _ 3 [zA a] [.int 59, .ref a]
  refine ⟨by decide +kernel, fun T1 X1 eh1 => ?_⟩
  refine own_callVP X1 hx hZ hown (hw _ (wm 41 rfl)) (hw _ (wm 42 rfl)) (hw _ (wm 44 rfl)) (hw _ (wm 43 rfl)) (hw _ (wm 6 rfl)) (hw _ (wm 45 rfl)) (by decide) eh1 EX [.int 59] pd10 rfl (fr := 3) (lo := 56) (rm10_4_59 l Z a0 hw [] a ba zc b0 b1 b2 b3 h0 n0 Z0 S1 zn EX F1 F2 Ab) (by rw [hml]; rfl) 0 rfl (Nat.le_of_eq rfl) (hb hby d9_3) (by decide) (by decide) (by decide) (by decide) (fun T2 rv2 X2 eh2 qc2 => ?_)
  obtain ⟨r, rfl, hr⟩ := qc2
  show own_Go p.tables e below _ (T2.setTop (mkF m 6 (Array.mk [zA a]) [.int r]))
  rcases hr with hr | hr
  · skip
    refine own_blk dec9 seq9 hby hx hZ hown hK hF 3 [false] [.int 124] X2 eh2 ?_
    show (¬ (0 ≤ (r).toInt)) ∧ ((Int8.ofInt 124).toInt32 = (124 : Int32)) ∧ own_Aft X2 h0 _ 12 [zA a] [.int 124, .ref a]
    refine ⟨by omega, by decide +kernel, fun T3 X3 eh3 => ?_⟩
    refine own_callVP X3 hx hZ hown (hw _ (wm 41 rfl)) (hw _ (wm 42 rfl)) (hw _ (wm 44 rfl)) (hw _ (wm 43 rfl)) (hw _ (wm 6 rfl)) (hw _ (wm 45 rfl)) (by decide) eh3 EX [.int 124] pd10 rfl (fr := 3) (lo := 56) (rm10_4_124 l Z a0 hw [] a ba zc b0 b1 b2 b3 h0 n0 Z0 S1 zn EX F1 F2 Ab) (by rw [hml]; rfl) 0 rfl (Nat.le_of_eq rfl) (hb hby d9_12) (by decide) (by decide) (by decide) (by decide) (fun T4 rv4 X4 eh4 qc4 => ?_)
    obtain ⟨r', rfl, hs⟩ := qc4
    show own_Go p.tables e below _ (T4.setTop (mkF m 15 (Array.mk [zA a]) [.int r']))
    rcases hs with hs | hs
    · skip
      refine own_blk dec9 seq9 hby hx hZ hown hK hF 3 [false] [] X4 eh4 ?_
      show (¬ (0 ≤ (r').toInt)) ∧ own_Aft X4 h0 _ 23 [zA a] [.int 1]
      refine ⟨by omega, fun T5 X5 eh5 => ?_⟩
      exact own_ret X5 hx hlk eh5 hret (by first | rfl | decide) (Or.inl ⟨rfl, by simp, _, rfl⟩) (hb hby d9_23) (by decide) (by decide) (⟨⟨_, rfl, Or.inl ⟨rfl, by omega⟩⟩, rfl, rfl⟩)
    · skip
      refine own_blk dec9 seq9 hby hx hZ hown hK hF 2 [true] [] X4 eh4 ?_
      show (0 ≤ (r').toInt) ∧ own_Aft X4 h0 _ 23 [zA a] [.int 0]
      refine ⟨hs.1, fun T6 X6 eh6 => ?_⟩
      exact own_ret X6 hx hlk eh6 hret (by first | rfl | decide) (Or.inl ⟨rfl, by simp, _, rfl⟩) (hb hby d9_23) (by decide) (by decide) (⟨⟨_, rfl, Or.inr ⟨rfl, by omega⟩⟩, rfl, rfl⟩)
  · skip
    refine own_blk dec9 seq9 hby hx hZ hown hK hF 2 [true] [] X2 eh2 ?_
    show (0 ≤ (r).toInt) ∧ own_Aft X2 h0 _ 23 [zA a] [.int 0]
    refine ⟨hr.1, fun T7 X7 eh7 => ?_⟩
    exact own_ret X7 hx hlk eh7 hret (by first | rfl | decide) (Or.inl ⟨rfl, by simp, _, rfl⟩) (hb hby d9_23) (by decide) (by decide) (⟨⟨_, rfl, Or.inr ⟨rfl, by omega⟩⟩, rfl, rfl⟩)
set_option maxRecDepth 65536 in
set_option maxHeartbeats 40000000 in
theorem rm0 (l : Launch) (Z : State) (a0 : Array Value) (hw : ∀ d ∈ tables_1, d.before a0 Z = true) (ws : List Jvm.Cond) (ln xa xb xc xd zc : Int32) (h0 : Heap) (n0 : Nat) (Z0 : n0 ≤ h0.size) (X00 : Old Z n0 h0) (S0 : Sta Z Z.heap "java/lang/String" "COMPACT_STRINGS" "Z" (.int zc)) (zn : ¬ zc = (0 : Int32)) :
    MetFree l x (head1 (Jvm.Cond.code x code maxLocals ret :: ws) room_1) (fun as_ U => as_ = #[.int ln, .int xa, .int xb, .int xc, .int xd] ∧ Z.Warmed39 U.vm ∧ U.heap = h0) (fun _ _ _ _ _ => True) (fun _ U o U' => own_Fin U 16 128 (fun v h L => v = some (.int 1) ∧ Fr n0 L) o U') := by
  refine own_body pf0 (ls0 := [.val (.int ln), .val (.int xa), .val (.int xb), .val (.int xc), .val (.int xd), .unset, .unset, .unset, .unset, .unset, .unset, .unset]) (fun m => by first | (simp [entryFrame, mkF, argsToLocals, Value.category, maxLocals]; done) | rfl) ?_
  intro p e s m below meth c T0 hx hby hml hown hnm hlk hret hZ X0 e0
  have hK := hKt0 hw; have hF := hFt0 hw
  have N0 := Fr.nil n0
  have hws : ∀ d ∈ StrChars.Road.words, d.before a0 Z = true := fun d hd => hw d ((by decide +kernel : ∀ d ∈ StrChars.Road.words, d ∈ tables_1) d hd)
  have s1 := own_and32 ln 3 (by decide)
  have s2 : (3 : Int32).toInt = 3 := rfl
  have s3 : (1 : Int32).toInt = 1 := rfl
  refine own_blk dec0 seq0 hby hx hZ hown hK hF 6 [] [] X0 e0 ?_
  show own_Aft X0 h0 _ 7 [zI ln, zI xa, zI xb, zI xc, zI xd, zI ((ln &&& (3 : Int32)) + (1 : Int32)), zU, zU, zU, zU, zU, zU] []
  refine fun T1 X1 eh1 => ?_
  have s5 : 1 ≤ ((ln &&& (3 : Int32)) + (1 : Int32)).toInt ∧ ((ln &&& (3 : Int32)) + (1 : Int32)).toInt ≤ 4 := by have s6 : ((ln &&& (3 : Int32)) + (1 : Int32)).toInt = (ln &&& (3 : Int32)).toInt + (1 : Int32).toInt := own_add32 (by omega) (by omega); omega
  generalize (ln &&& (3 : Int32)) + (1 : Int32) = nn at s5 ⊢
  show own_Go p.tables e below _ (T1.setTop (mkF m 7 (Array.mk [zI ln, zI xa, zI xb, zI xc, zI xd, zI nn, zU, zU, zU, zU, zU, zU]) []))
  refine own_blk dec0 seq0 hby hx hZ hown hK hF 1 [] [] X1 eh1 ?_
  show own_Aft X1 h0 _ 8 [zI ln, zI xa, zI xb, zI xc, zI xd, zI nn, zU, zU, zU, zU, zU, zU] [.int xa]
  refine fun T2 X2 eh2 => ?_
  refine own_callSP X2 hx hZ hown (hw _ (wm 0 rfl)) (hw _ (wm 1 rfl)) (hw _ (wm 2 rfl)) (hw _ (wm 3 rfl)) (by decide) eh2 [.int xa] pd1 rfl (fr := 0) (lo := 0) (rm1 l Z a0 hw [] xa h0 n0 Z0) (by rw [hml]; rfl) 0 rfl (Nat.le_of_eq rfl) (hb hby at_8) (by decide) (by decide) (by decide) (by decide) (fun T3 rv3 X3 eh3 qc3 => ?_)
  obtain ⟨y0, rfl, u0, v0⟩ := qc3
  show own_Go p.tables e below _ (T3.setTop (mkF m 11 (Array.mk [zI ln, zI xa, zI xb, zI xc, zI xd, zI nn, zU, zU, zU, zU, zU, zU]) [.int y0]))
  refine own_blk dec0 seq0 hby hx hZ hown hK hF 2 [] [] X3 eh3 ?_
  show own_Aft X3 h0 _ 14 [zI ln, zI xa, zI xb, zI xc, zI xd, zI nn, zI y0, zU, zU, zU, zU, zU] [.int xb]
  refine fun T4 X4 eh4 => ?_
  refine own_callSP X4 hx hZ hown (hw _ (wm 0 rfl)) (hw _ (wm 1 rfl)) (hw _ (wm 2 rfl)) (hw _ (wm 3 rfl)) (by decide) eh4 [.int xb] pd1 rfl (fr := 0) (lo := 0) (rm1 l Z a0 hw [] xb h0 n0 Z0) (by rw [hml]; rfl) 0 rfl (Nat.le_of_eq rfl) (hb hby at_14) (by decide) (by decide) (by decide) (by decide) (fun T5 rv5 X5 eh5 qc5 => ?_)
  obtain ⟨y1, rfl, u1, v1⟩ := qc5
  show own_Go p.tables e below _ (T5.setTop (mkF m 17 (Array.mk [zI ln, zI xa, zI xb, zI xc, zI xd, zI nn, zI y0, zU, zU, zU, zU, zU]) [.int y1]))
  refine own_blk dec0 seq0 hby hx hZ hown hK hF 2 [] [] X5 eh5 ?_
  show own_Aft X5 h0 _ 20 [zI ln, zI xa, zI xb, zI xc, zI xd, zI nn, zI y0, zI y1, zU, zU, zU, zU] [.int xc]
  refine fun T6 X6 eh6 => ?_
  refine own_callSP X6 hx hZ hown (hw _ (wm 0 rfl)) (hw _ (wm 1 rfl)) (hw _ (wm 2 rfl)) (hw _ (wm 3 rfl)) (by decide) eh6 [.int xc] pd1 rfl (fr := 0) (lo := 0) (rm1 l Z a0 hw [] xc h0 n0 Z0) (by rw [hml]; rfl) 0 rfl (Nat.le_of_eq rfl) (hb hby at_20) (by decide) (by decide) (by decide) (by decide) (fun T7 rv7 X7 eh7 qc7 => ?_)
  obtain ⟨y2, rfl, u2, v2⟩ := qc7
  show own_Go p.tables e below _ (T7.setTop (mkF m 23 (Array.mk [zI ln, zI xa, zI xb, zI xc, zI xd, zI nn, zI y0, zI y1, zU, zU, zU, zU]) [.int y2]))
  refine own_blk dec0 seq0 hby hx hZ hown hK hF 2 [] [] X7 eh7 ?_
  show own_Aft X7 h0 _ 27 [zI ln, zI xa, zI xb, zI xc, zI xd, zI nn, zI y0, zI y1, zI y2, zU, zU, zU] [.int xd]
  refine fun T8 X8 eh8 => ?_
  refine own_callSP X8 hx hZ hown (hw _ (wm 0 rfl)) (hw _ (wm 1 rfl)) (hw _ (wm 2 rfl)) (hw _ (wm 3 rfl)) (by decide) eh8 [.int xd] pd1 rfl (fr := 0) (lo := 0) (rm1 l Z a0 hw [] xd h0 n0 Z0) (by rw [hml]; rfl) 0 rfl (Nat.le_of_eq rfl) (hb hby at_27) (by decide) (by decide) (by decide) (by decide) (fun T9 rv9 X9 eh9 qc9 => ?_)
  obtain ⟨y3, rfl, u3, v3⟩ := qc9
  show own_Go p.tables e below _ (T9.setTop (mkF m 30 (Array.mk [zI ln, zI xa, zI xb, zI xc, zI xd, zI nn, zI y0, zI y1, zI y2, zU, zU, zU]) [.int y3]))
  refine own_blk dec0 seq0 hby hx hZ hown hK hF 1 [] [] X9 eh9 ?_
  show own_Aft X9 h0 _ 32 [zI ln, zI xa, zI xb, zI xc, zI xd, zI nn, zI y0, zI y1, zI y2, zI y3, zU, zU] []
  refine fun T10 X10 eh10 => ?_
  obtain hn | hn | hn | hn : nn.toInt = (1 : Int32).toInt ∨ nn.toInt = (2 : Int32).toInt ∨ nn.toInt = (3 : Int32).toInt ∨ nn.toInt = (4 : Int32).toInt := by show nn.toInt = 1 ∨ nn.toInt = 2 ∨ nn.toInt = 3 ∨ nn.toInt = 4; omega
  · skip
    obtain rfl : nn = (1 : Int32) := Int32.toInt_inj.mp hn
    show own_Go p.tables e below _ (T10.setTop (mkF m 32 (Array.mk [zI ln, zI xa, zI xb, zI xc, zI xd, zI 1, zI y0, zI y1, zI y2, zI y3, zU, zU]) []))
    refine own_blk dec0 seq0 hby hx hZ hown hK hF 3 [false] [] X10 eh10 ?_
    show (¬ (((1 : Int32)).toInt ≠ ((1 : Int32)).toInt)) ∧ own_Aft X10 h0 _ 38 [zI ln, zI xa, zI xb, zI xc, zI xd, zI 1, zI y0, zI y1, zI y2, zI y3, zU, zU] []
    refine ⟨by decide, fun T11 X11 eh11 => ?_⟩
    refine own_new X11 hx hZ hown (hw _ (wm 4 rfl)) (hw _ (wm 5 rfl)) (hw _ (wm 6 rfl)) eh11 (hb hby at_38) (by decide) (by decide) (fun T12 hp12 so ga12 X12 eh12 Ex12 Ea12 Dn12 => ?_)
    have nw_so : n0 ≤ so := by rw [ga12]; exact Z0
    have Z_12 : n0 ≤ hp12.size := Nat.le_trans Z0 Ex12.1
    have Od12 := Old.ext X00 Ex12
    have Fn12_coder : Fld Z hp12 so "java/lang/String" "coder" "B" (.int 0) := Dn12 (Or.inr (hw _ (wm 31 rfl))) (ty := .byte) (by decide)
    have Fn12_value : Fld Z hp12 so "java/lang/String" "value" "[B" (.null) := Dn12 (Or.inr (hw _ (wm 33 rfl))) (ty := (.array .byte)) (by decide)
    show own_Go p.tables e below _ (T12.setTop (mkF m 41 (Array.mk [zI ln, zI xa, zI xb, zI xc, zI xd, zI 1, zI y0, zI y1, zI y2, zI y3, zU, zU]) [.ref so]))
    refine own_blk dec0 seq0 hby hx hZ hown hK hF 2 [] [] X12 eh12 ?_
    show own_Aft X12 hp12 _ 43 [zI ln, zI xa, zI xb, zI xc, zI xd, zI 1, zI y0, zI y1, zI y2, zI y3, zU, zU] [.int 1, .ref so, .ref so]
    refine fun T13 X13 eh13 => ?_
    refine own_newP X13 hx hZ (hw _ (wm 7 rfl)) eh13 1 rfl (cap := 1) (by decide) (by decide) (hb hby at_43) (by decide) (by decide) (fun T14 hp14 ca ga14 X14 eh14 Ex14 Ar14 => ?_)
    have ne_so_ca : so ≠ ca := fun q => absurd Ea12.lt (by rw [q, ga14]; exact Nat.lt_irrefl _)
    have nw_ca : n0 ≤ ca := by rw [ga14]; exact Z_12
    have Ea12_14 := Exa.ext Ex14 Ea12
    have Fn12_coder_14 := Fld.ext Ex14 Fn12_coder
    have Fn12_value_14 := Fld.ext Ex14 Fn12_value
    have Z_14 : n0 ≤ hp14.size := Nat.le_trans Z_12 Ex14.1
    have Od14 := Old.ext Od12 Ex14
    have Ar14' : own_A Z hp14 ca .char [.int 0] := Ar14
    show own_Go p.tables e below _ (T14.setTop (mkF m 45 (Array.mk [zI ln, zI xa, zI xb, zI xc, zI xd, zI 1, zI y0, zI y1, zI y2, zI y3, zU, zU]) [.ref ca, .ref so, .ref so]))
    refine own_blk dec0 seq0 hby hx hZ hown hK hF 3 [] [] X14 eh14 ?_
    show own_Aft X14 hp14 _ 49 [zI ln, zI xa, zI xb, zI xc, zI xd, zI 1, zI y0, zI y1, zI y2, zI y3, zU, zU] [.int y0, .int 0, .ref ca, .ref ca, .ref so, .ref so]
    refine fun T15 X15 eh15 => ?_
    refine own_sC X15 hx hZ eh15 Ar14' 0 rfl (by show 0 < 1; decide) (own_narC u0 v0) (hb hby at_49) (fun T16 hp16 X16 eh16 Wr16 Ar16 => ?_)
    have Ar16' : own_A Z hp16 ca .char [.int y0] := Ar16
    have Ea12_16 := Exa.wr Wr16 Ea12_14
    have Fn12_coder_16 := Fld.other Wr16 Fn12_coder_14 (Or.inl ne_so_ca)
    have Fn12_value_16 := Fld.other Wr16 Fn12_value_14 (Or.inl ne_so_ca)
    have Nf16 := Fr.snoc X16 N0 nw_ca
    have Z_16 : n0 ≤ hp16.size := by rw [Wr.size Wr16]; exact Z_14
    have Od16 := Old.wr Od14 Wr16 nw_ca
    show own_Go p.tables e below _ (T16.setTop (mkF m 50 (Array.mk [zI ln, zI xa, zI xb, zI xc, zI xd, zI 1, zI y0, zI y1, zI y2, zI y3, zU, zU]) [.ref ca, .ref so, .ref so]))
    obtain ⟨kC, AC⟩ := Ar16'.arv (N := (1 : Int32)) rfl (.int 0) (by intro v hv; simp only [List.mem_cons, List.not_mem_nil, or_false] at hv; rcases hv with rfl <;> first | exact own_fitC u0 v0)
    have hp : ∀ q ∈ ([y0] : List Int32), ¬ q < 0 ∧ ¬ (255 : Int32) < q := by
      intro q hq; simp only [List.mem_cons, List.not_mem_nil, or_false] at hq
      have l0 : (0 : Int32).toInt = 0 := rfl
      have l1 : (255 : Int32).toInt = 255 := rfl
      rw [Int32.lt_iff_toInt_lt, Int32.lt_iff_toInt_lt]
      rcases hq with rfl <;> exact ⟨by omega, by omega⟩
    refine own_callIB X16 hx hZ hown rfl (hw _ (wm 8 rfl)) (hw _ (wm 9 rfl)) (hw _ (wm 10 rfl)) (by decide) eh16 so [.ref ca] pd2 rfl (kc := 1) (ks := 1) 1 (StrChars.Road.backV (W := 1) hZ hws (kI := 4) (hw _ (wm 5 rfl)) (cs := [y0]) (bs := [y0].map (fun q => q.toInt8.toInt32)) (n := 1) (n0 := n0) nw_so Z_16 Ea12_16 Fn12_value_16 Fn12_coder_16 AC (S0.ext Od16.2) zn rfl rfl (by decide) (by decide) hp rfl (by decide) (by decide)) (by rw [hml]; rfl) rfl (Nat.le_of_eq rfl) (hb hby at_50) (by decide) (by decide) (fun T17 rv17 Lc17 X17 qc17 => ?_)
    obtain ⟨rfl, M1, K1, EX, F1, ba, kb, nba, hba, nbx, F2, Kb⟩ := qc17
    have Ab : own_A Z T17.heap ba .byte [.int y0.toInt8.toInt32] := own_A.of Kb rfl
    have Od : Old Z n0 T17.heap := Old.keep Od16 K1 (fun q hq => by rw [List.mem_singleton.mp hq]; exact nw_so)
    have N1_ := Fr.app Nf16 M1
    have Zz : n0 ≤ T17.heap.size := Nat.le_trans nw_so (Nat.le_of_lt EX.lt)
    have B0 := own_byte59 u0 v0; have D0 := own_byte124 u0 v0
    show own_Go p.tables e below _ (T17.setTop (mkF m 53 (Array.mk [zI ln, zI xa, zI xb, zI xc, zI xd, zI 1, zI y0, zI y1, zI y2, zI y3, zU, zU]) [.ref so]))
    refine own_blk dec0 seq0 hby hx hZ hown hK hF 2 [] [] X17 rfl ?_
    show own_Aft X17 T17.heap _ 57 [zI ln, zI xa, zI xb, zI xc, zI xd, zI 1, zI y0, zI y1, zI y2, zI y3, zA so, zU] [.int y0]
    refine fun T18 X18 eh18 => ?_
    refine own_callSP X18 hx hZ hown (hw _ (wm 34 rfl)) (hw _ (wm 35 rfl)) (hw _ (wm 2 rfl)) (hw _ (wm 36 rfl)) (by decide) eh18 [.int y0] pd8 rfl (fr := 0) (lo := 0) (rm8 l Z a0 hw [] y0 T17.heap n0 Zz) (by rw [hml]; rfl) 0 rfl (Nat.le_of_eq rfl) (hb hby at_57) (by decide) (by decide) (by decide) (by decide) (fun T19 rv19 X19 eh19 qc19 => ?_)
    obtain ⟨k0, rfl, hk0⟩ := qc19
    show own_Go p.tables e below _ (T19.setTop (mkF m 60 (Array.mk [zI ln, zI xa, zI xb, zI xc, zI xd, zI 1, zI y0, zI y1, zI y2, zI y3, zA so, zU]) [.int k0]))
    rcases hk0 with hk0 | hk0
    · skip
      obtain ⟨rfl, hk0⟩ := hk0
      show own_Go p.tables e below _ (T19.setTop (mkF m 60 (Array.mk [zI ln, zI xa, zI xb, zI xc, zI xd, zI 1, zI y0, zI y1, zI y2, zI y3, zA so, zU]) [.int 1]))
      refine own_blk dec0 seq0 hby hx hZ hown hK hF 3 [] [] X19 eh19 ?_
      show own_Aft X19 T17.heap _ 259 [zI ln, zI xa, zI xb, zI xc, zI xd, zI 1, zI y0, zI y1, zI y2, zI y3, zA so, zI 1] [.ref so]
      refine fun T20 X20 eh20 => ?_
      refine own_callSP X20 hx hZ hown (hw _ (wm 37 rfl)) (hw _ (wm 38 rfl)) (hw _ (wm 39 rfl)) (hw _ (wm 40 rfl)) (by decide) eh20 [.ref so] pd9 rfl (fr := 4) (lo := 72) (rm9_1 l Z a0 hw [] so ba zc y0.toInt8.toInt32 T17.heap n0 Zz (S0.ext Od.2) zn EX F1 F2 Ab) (by rw [hml]; rfl) 0 rfl (Nat.le_of_eq rfl) (hb hby at_259) (by decide) (by decide) (by decide) (by decide) (fun T21 rv21 X21 eh21 qc21 => ?_)
      obtain ⟨got, rfl, hg⟩ := qc21
      show own_Go p.tables e below _ (T21.setTop (mkF m 262 (Array.mk [zI ln, zI xa, zI xb, zI xc, zI xd, zI 1, zI y0, zI y1, zI y2, zI y3, zA so, zI 1]) [.int got]))
      simp only [ne_eq, B0, D0] at hg
      clear B0 D0
      have e0_ : (0 : Int32).toInt = 0 := rfl
      have e1_ : (1 : Int32).toInt = 1 := rfl
      have hgt : got.toInt = ((1 : Int32)).toInt := by rcases hg with ⟨rfl, hg⟩ | ⟨rfl, hg⟩ <;> first | rfl | (exfalso; omega)
      refine own_blk dec0 seq0 hby hx hZ hown hK hF 4 [false] [] X21 eh21 ?_
      show (¬ ((got).toInt ≠ ((1 : Int32)).toInt)) ∧ own_Aft X21 T17.heap _ 272 [zI ln, zI xa, zI xb, zI xc, zI xd, zI 1, zI y0, zI y1, zI y2, zI y3, zA so, zI 1] [.int 1]
      refine ⟨by omega, fun T22 X22 eh22 => ?_⟩
      exact own_ret X22 hx hlk eh22 hret (by first | rfl | decide) (Or.inl ⟨rfl, by simp, _, rfl⟩) (hb hby at_272) (by decide) (by decide) (⟨rfl, N1_⟩)
    · skip
      obtain ⟨rfl, hk0⟩ := hk0
      show own_Go p.tables e below _ (T19.setTop (mkF m 60 (Array.mk [zI ln, zI xa, zI xb, zI xc, zI xd, zI 1, zI y0, zI y1, zI y2, zI y3, zA so, zU]) [.int 0]))
      refine own_blk dec0 seq0 hby hx hZ hown hK hF 3 [] [] X19 eh19 ?_
      show own_Aft X19 T17.heap _ 259 [zI ln, zI xa, zI xb, zI xc, zI xd, zI 1, zI y0, zI y1, zI y2, zI y3, zA so, zI 0] [.ref so]
      refine fun T23 X23 eh23 => ?_
      refine own_callSP X23 hx hZ hown (hw _ (wm 37 rfl)) (hw _ (wm 38 rfl)) (hw _ (wm 39 rfl)) (hw _ (wm 40 rfl)) (by decide) eh23 [.ref so] pd9 rfl (fr := 4) (lo := 72) (rm9_1 l Z a0 hw [] so ba zc y0.toInt8.toInt32 T17.heap n0 Zz (S0.ext Od.2) zn EX F1 F2 Ab) (by rw [hml]; rfl) 0 rfl (Nat.le_of_eq rfl) (hb hby at_259) (by decide) (by decide) (by decide) (by decide) (fun T24 rv24 X24 eh24 qc24 => ?_)
      obtain ⟨got, rfl, hg⟩ := qc24
      show own_Go p.tables e below _ (T24.setTop (mkF m 262 (Array.mk [zI ln, zI xa, zI xb, zI xc, zI xd, zI 1, zI y0, zI y1, zI y2, zI y3, zA so, zI 0]) [.int got]))
      simp only [ne_eq, B0, D0] at hg
      clear B0 D0
      have e0_ : (0 : Int32).toInt = 0 := rfl
      have e1_ : (1 : Int32).toInt = 1 := rfl
      have hgt : got.toInt = ((0 : Int32)).toInt := by rcases hg with ⟨rfl, hg⟩ | ⟨rfl, hg⟩ <;> first | rfl | (exfalso; omega)
      refine own_blk dec0 seq0 hby hx hZ hown hK hF 4 [false] [] X24 eh24 ?_
      show (¬ ((got).toInt ≠ ((0 : Int32)).toInt)) ∧ own_Aft X24 T17.heap _ 272 [zI ln, zI xa, zI xb, zI xc, zI xd, zI 1, zI y0, zI y1, zI y2, zI y3, zA so, zI 0] [.int 1]
      refine ⟨by omega, fun T25 X25 eh25 => ?_⟩
      exact own_ret X25 hx hlk eh25 hret (by first | rfl | decide) (Or.inl ⟨rfl, by simp, _, rfl⟩) (hb hby at_272) (by decide) (by decide) (⟨rfl, N1_⟩)
  · skip
    obtain rfl : nn = (2 : Int32) := Int32.toInt_inj.mp hn
    show own_Go p.tables e below _ (T10.setTop (mkF m 32 (Array.mk [zI ln, zI xa, zI xb, zI xc, zI xd, zI 2, zI y0, zI y1, zI y2, zI y3, zU, zU]) []))
    refine own_blk dec0 seq0 hby hx hZ hown hK hF 6 [true, false] [] X10 eh10 ?_
    show (((2 : Int32)).toInt ≠ ((1 : Int32)).toInt) ∧ (¬ (((2 : Int32)).toInt ≠ ((2 : Int32)).toInt)) ∧ own_Aft X10 h0 _ 71 [zI ln, zI xa, zI xb, zI xc, zI xd, zI 2, zI y0, zI y1, zI y2, zI y3, zU, zU] []
    refine ⟨by decide, by decide, fun T26 X26 eh26 => ?_⟩
    refine own_new X26 hx hZ hown (hw _ (wm 4 rfl)) (hw _ (wm 5 rfl)) (hw _ (wm 6 rfl)) eh26 (hb hby at_71) (by decide) (by decide) (fun T27 hp27 so ga27 X27 eh27 Ex27 Ea27 Dn27 => ?_)
    have nw_so : n0 ≤ so := by rw [ga27]; exact Z0
    have Z_27 : n0 ≤ hp27.size := Nat.le_trans Z0 Ex27.1
    have Od27 := Old.ext X00 Ex27
    have Fn27_coder : Fld Z hp27 so "java/lang/String" "coder" "B" (.int 0) := Dn27 (Or.inr (hw _ (wm 31 rfl))) (ty := .byte) (by decide)
    have Fn27_value : Fld Z hp27 so "java/lang/String" "value" "[B" (.null) := Dn27 (Or.inr (hw _ (wm 33 rfl))) (ty := (.array .byte)) (by decide)
    show own_Go p.tables e below _ (T27.setTop (mkF m 74 (Array.mk [zI ln, zI xa, zI xb, zI xc, zI xd, zI 2, zI y0, zI y1, zI y2, zI y3, zU, zU]) [.ref so]))
    refine own_blk dec0 seq0 hby hx hZ hown hK hF 2 [] [] X27 eh27 ?_
    show own_Aft X27 hp27 _ 76 [zI ln, zI xa, zI xb, zI xc, zI xd, zI 2, zI y0, zI y1, zI y2, zI y3, zU, zU] [.int 2, .ref so, .ref so]
    refine fun T28 X28 eh28 => ?_
    refine own_newP X28 hx hZ (hw _ (wm 7 rfl)) eh28 2 rfl (cap := 2) (by decide) (by decide) (hb hby at_76) (by decide) (by decide) (fun T29 hp29 ca ga29 X29 eh29 Ex29 Ar29 => ?_)
    have ne_so_ca : so ≠ ca := fun q => absurd Ea27.lt (by rw [q, ga29]; exact Nat.lt_irrefl _)
    have nw_ca : n0 ≤ ca := by rw [ga29]; exact Z_27
    have Ea27_29 := Exa.ext Ex29 Ea27
    have Fn27_coder_29 := Fld.ext Ex29 Fn27_coder
    have Fn27_value_29 := Fld.ext Ex29 Fn27_value
    have Z_29 : n0 ≤ hp29.size := Nat.le_trans Z_27 Ex29.1
    have Od29 := Old.ext Od27 Ex29
    have Ar29' : own_A Z hp29 ca .char [.int 0, .int 0] := Ar29
    show own_Go p.tables e below _ (T29.setTop (mkF m 78 (Array.mk [zI ln, zI xa, zI xb, zI xc, zI xd, zI 2, zI y0, zI y1, zI y2, zI y3, zU, zU]) [.ref ca, .ref so, .ref so]))
    refine own_blk dec0 seq0 hby hx hZ hown hK hF 3 [] [] X29 eh29 ?_
    show own_Aft X29 hp29 _ 82 [zI ln, zI xa, zI xb, zI xc, zI xd, zI 2, zI y0, zI y1, zI y2, zI y3, zU, zU] [.int y0, .int 0, .ref ca, .ref ca, .ref so, .ref so]
    refine fun T30 X30 eh30 => ?_
    refine own_sC X30 hx hZ eh30 Ar29' 0 rfl (by show 0 < 2; decide) (own_narC u0 v0) (hb hby at_82) (fun T31 hp31 X31 eh31 Wr31 Ar31 => ?_)
    have Ar31' : own_A Z hp31 ca .char [.int y0, .int 0] := Ar31
    have Ea27_31 := Exa.wr Wr31 Ea27_29
    have Fn27_coder_31 := Fld.other Wr31 Fn27_coder_29 (Or.inl ne_so_ca)
    have Fn27_value_31 := Fld.other Wr31 Fn27_value_29 (Or.inl ne_so_ca)
    have Nf31 := Fr.snoc X31 N0 nw_ca
    have Z_31 : n0 ≤ hp31.size := by rw [Wr.size Wr31]; exact Z_29
    have Od31 := Old.wr Od29 Wr31 nw_ca
    refine own_blk dec0 seq0 hby hx hZ hown hK hF 3 [] [] X31 eh31 ?_
    show own_Aft X31 hp31 _ 87 [zI ln, zI xa, zI xb, zI xc, zI xd, zI 2, zI y0, zI y1, zI y2, zI y3, zU, zU] [.int y1, .int 1, .ref ca, .ref ca, .ref so, .ref so]
    refine fun T32 X32 eh32 => ?_
    refine own_sC X32 hx hZ eh32 Ar31' 1 rfl (by show 1 < 2; decide) (own_narC u1 v1) (hb hby at_87) (fun T33 hp33 X33 eh33 Wr33 Ar33 => ?_)
    have Ar33' : own_A Z hp33 ca .char [.int y0, .int y1] := Ar33
    have Ea27_33 := Exa.wr Wr33 Ea27_31
    have Fn27_coder_33 := Fld.other Wr33 Fn27_coder_31 (Or.inl ne_so_ca)
    have Fn27_value_33 := Fld.other Wr33 Fn27_value_31 (Or.inl ne_so_ca)
    have Nf33 := Fr.snoc X33 Nf31 nw_ca
    have Z_33 : n0 ≤ hp33.size := by rw [Wr.size Wr33]; exact Z_31
    have Od33 := Old.wr Od31 Wr33 nw_ca
    show own_Go p.tables e below _ (T33.setTop (mkF m 88 (Array.mk [zI ln, zI xa, zI xb, zI xc, zI xd, zI 2, zI y0, zI y1, zI y2, zI y3, zU, zU]) [.ref ca, .ref so, .ref so]))
    obtain ⟨kC, AC⟩ := Ar33'.arv (N := (2 : Int32)) rfl (.int 0) (by intro v hv; simp only [List.mem_cons, List.not_mem_nil, or_false] at hv; rcases hv with rfl | rfl <;> first | exact own_fitC u0 v0 | exact own_fitC u1 v1)
    have hp : ∀ q ∈ ([y0, y1] : List Int32), ¬ q < 0 ∧ ¬ (255 : Int32) < q := by
      intro q hq; simp only [List.mem_cons, List.not_mem_nil, or_false] at hq
      have l0 : (0 : Int32).toInt = 0 := rfl
      have l1 : (255 : Int32).toInt = 255 := rfl
      rw [Int32.lt_iff_toInt_lt, Int32.lt_iff_toInt_lt]
      rcases hq with rfl | rfl <;> exact ⟨by omega, by omega⟩
    refine own_callIB X33 hx hZ hown rfl (hw _ (wm 8 rfl)) (hw _ (wm 9 rfl)) (hw _ (wm 10 rfl)) (by decide) eh33 so [.ref ca] pd2 rfl (kc := 1) (ks := 2) 1 (StrChars.Road.backV (W := 1) hZ hws (kI := 4) (hw _ (wm 5 rfl)) (cs := [y0, y1]) (bs := [y0, y1].map (fun q => q.toInt8.toInt32)) (n := 2) (n0 := n0) nw_so Z_33 Ea27_33 Fn27_value_33 Fn27_coder_33 AC (S0.ext Od33.2) zn rfl rfl (by decide) (by decide) hp rfl (by decide) (by decide)) (by rw [hml]; rfl) rfl (Nat.le_of_eq rfl) (hb hby at_88) (by decide) (by decide) (fun T34 rv34 Lc34 X34 qc34 => ?_)
    obtain ⟨rfl, M1, K1, EX, F1, ba, kb, nba, hba, nbx, F2, Kb⟩ := qc34
    have Ab : own_A Z T34.heap ba .byte [.int y0.toInt8.toInt32, .int y1.toInt8.toInt32] := own_A.of Kb rfl
    have Od : Old Z n0 T34.heap := Old.keep Od33 K1 (fun q hq => by rw [List.mem_singleton.mp hq]; exact nw_so)
    have N1_ := Fr.app Nf33 M1
    have Zz : n0 ≤ T34.heap.size := Nat.le_trans nw_so (Nat.le_of_lt EX.lt)
    have B0 := own_byte59 u0 v0; have D0 := own_byte124 u0 v0
    have B1 := own_byte59 u1 v1; have D1 := own_byte124 u1 v1
    show own_Go p.tables e below _ (T34.setTop (mkF m 91 (Array.mk [zI ln, zI xa, zI xb, zI xc, zI xd, zI 2, zI y0, zI y1, zI y2, zI y3, zU, zU]) [.ref so]))
    refine own_blk dec0 seq0 hby hx hZ hown hK hF 2 [] [] X34 rfl ?_
    show own_Aft X34 T34.heap _ 95 [zI ln, zI xa, zI xb, zI xc, zI xd, zI 2, zI y0, zI y1, zI y2, zI y3, zA so, zU] [.int y0]
    refine fun T35 X35 eh35 => ?_
    refine own_callSP X35 hx hZ hown (hw _ (wm 34 rfl)) (hw _ (wm 35 rfl)) (hw _ (wm 2 rfl)) (hw _ (wm 36 rfl)) (by decide) eh35 [.int y0] pd8 rfl (fr := 0) (lo := 0) (rm8 l Z a0 hw [] y0 T34.heap n0 Zz) (by rw [hml]; rfl) 0 rfl (Nat.le_of_eq rfl) (hb hby at_95) (by decide) (by decide) (by decide) (by decide) (fun T36 rv36 X36 eh36 qc36 => ?_)
    obtain ⟨k0, rfl, hk0⟩ := qc36
    show own_Go p.tables e below _ (T36.setTop (mkF m 98 (Array.mk [zI ln, zI xa, zI xb, zI xc, zI xd, zI 2, zI y0, zI y1, zI y2, zI y3, zA so, zU]) [.int k0]))
    rcases hk0 with hk0 | hk0
    · skip
      obtain ⟨rfl, hk0⟩ := hk0
      show own_Go p.tables e below _ (T36.setTop (mkF m 98 (Array.mk [zI ln, zI xa, zI xb, zI xc, zI xd, zI 2, zI y0, zI y1, zI y2, zI y3, zA so, zU]) [.int 1]))
      refine own_blk dec0 seq0 hby hx hZ hown hK hF 2 [false] [] X36 eh36 ?_
      show (¬ (((1 : Int32)).toInt = 0)) ∧ own_Aft X36 T34.heap _ 103 [zI ln, zI xa, zI xb, zI xc, zI xd, zI 2, zI y0, zI y1, zI y2, zI y3, zA so, zU] [.int y1]
      refine ⟨by decide, fun T37 X37 eh37 => ?_⟩
      refine own_callSP X37 hx hZ hown (hw _ (wm 34 rfl)) (hw _ (wm 35 rfl)) (hw _ (wm 2 rfl)) (hw _ (wm 36 rfl)) (by decide) eh37 [.int y1] pd8 rfl (fr := 0) (lo := 0) (rm8 l Z a0 hw [] y1 T34.heap n0 Zz) (by rw [hml]; rfl) 0 rfl (Nat.le_of_eq rfl) (hb hby at_103) (by decide) (by decide) (by decide) (by decide) (fun T38 rv38 X38 eh38 qc38 => ?_)
      obtain ⟨k1, rfl, hk1⟩ := qc38
      show own_Go p.tables e below _ (T38.setTop (mkF m 106 (Array.mk [zI ln, zI xa, zI xb, zI xc, zI xd, zI 2, zI y0, zI y1, zI y2, zI y3, zA so, zU]) [.int k1]))
      rcases hk1 with hk1 | hk1
      · skip
        obtain ⟨rfl, hk1⟩ := hk1
        show own_Go p.tables e below _ (T38.setTop (mkF m 106 (Array.mk [zI ln, zI xa, zI xb, zI xc, zI xd, zI 2, zI y0, zI y1, zI y2, zI y3, zA so, zU]) [.int 1]))
        refine own_blk dec0 seq0 hby hx hZ hown hK hF 6 [false] [] X38 eh38 ?_
        show (¬ (((1 : Int32)).toInt = 0)) ∧ own_Aft X38 T34.heap _ 259 [zI ln, zI xa, zI xb, zI xc, zI xd, zI 2, zI y0, zI y1, zI y2, zI y3, zA so, zI 1] [.ref so]
        refine ⟨by decide, fun T39 X39 eh39 => ?_⟩
        refine own_callSP X39 hx hZ hown (hw _ (wm 37 rfl)) (hw _ (wm 38 rfl)) (hw _ (wm 39 rfl)) (hw _ (wm 40 rfl)) (by decide) eh39 [.ref so] pd9 rfl (fr := 4) (lo := 72) (rm9_2 l Z a0 hw [] so ba zc y0.toInt8.toInt32 y1.toInt8.toInt32 T34.heap n0 Zz (S0.ext Od.2) zn EX F1 F2 Ab) (by rw [hml]; rfl) 0 rfl (Nat.le_of_eq rfl) (hb hby at_259) (by decide) (by decide) (by decide) (by decide) (fun T40 rv40 X40 eh40 qc40 => ?_)
        obtain ⟨got, rfl, hg⟩ := qc40
        show own_Go p.tables e below _ (T40.setTop (mkF m 262 (Array.mk [zI ln, zI xa, zI xb, zI xc, zI xd, zI 2, zI y0, zI y1, zI y2, zI y3, zA so, zI 1]) [.int got]))
        simp only [ne_eq, B0, D0, B1, D1] at hg
        clear B0 D0 B1 D1
        have e0_ : (0 : Int32).toInt = 0 := rfl
        have e1_ : (1 : Int32).toInt = 1 := rfl
        have hgt : got.toInt = ((1 : Int32)).toInt := by rcases hg with ⟨rfl, hg⟩ | ⟨rfl, hg⟩ <;> first | rfl | (exfalso; omega)
        refine own_blk dec0 seq0 hby hx hZ hown hK hF 4 [false] [] X40 eh40 ?_
        show (¬ ((got).toInt ≠ ((1 : Int32)).toInt)) ∧ own_Aft X40 T34.heap _ 272 [zI ln, zI xa, zI xb, zI xc, zI xd, zI 2, zI y0, zI y1, zI y2, zI y3, zA so, zI 1] [.int 1]
        refine ⟨by omega, fun T41 X41 eh41 => ?_⟩
        exact own_ret X41 hx hlk eh41 hret (by first | rfl | decide) (Or.inl ⟨rfl, by simp, _, rfl⟩) (hb hby at_272) (by decide) (by decide) (⟨rfl, N1_⟩)
      · skip
        obtain ⟨rfl, hk1⟩ := hk1
        show own_Go p.tables e below _ (T38.setTop (mkF m 106 (Array.mk [zI ln, zI xa, zI xb, zI xc, zI xd, zI 2, zI y0, zI y1, zI y2, zI y3, zA so, zU]) [.int 0]))
        refine own_blk dec0 seq0 hby hx hZ hown hK hF 5 [true] [] X38 eh38 ?_
        show (((0 : Int32)).toInt = 0) ∧ own_Aft X38 T34.heap _ 259 [zI ln, zI xa, zI xb, zI xc, zI xd, zI 2, zI y0, zI y1, zI y2, zI y3, zA so, zI 0] [.ref so]
        refine ⟨by decide, fun T42 X42 eh42 => ?_⟩
        refine own_callSP X42 hx hZ hown (hw _ (wm 37 rfl)) (hw _ (wm 38 rfl)) (hw _ (wm 39 rfl)) (hw _ (wm 40 rfl)) (by decide) eh42 [.ref so] pd9 rfl (fr := 4) (lo := 72) (rm9_2 l Z a0 hw [] so ba zc y0.toInt8.toInt32 y1.toInt8.toInt32 T34.heap n0 Zz (S0.ext Od.2) zn EX F1 F2 Ab) (by rw [hml]; rfl) 0 rfl (Nat.le_of_eq rfl) (hb hby at_259) (by decide) (by decide) (by decide) (by decide) (fun T43 rv43 X43 eh43 qc43 => ?_)
        obtain ⟨got, rfl, hg⟩ := qc43
        show own_Go p.tables e below _ (T43.setTop (mkF m 262 (Array.mk [zI ln, zI xa, zI xb, zI xc, zI xd, zI 2, zI y0, zI y1, zI y2, zI y3, zA so, zI 0]) [.int got]))
        simp only [ne_eq, B0, D0, B1, D1] at hg
        clear B0 D0 B1 D1
        have e0_ : (0 : Int32).toInt = 0 := rfl
        have e1_ : (1 : Int32).toInt = 1 := rfl
        have hgt : got.toInt = ((0 : Int32)).toInt := by rcases hg with ⟨rfl, hg⟩ | ⟨rfl, hg⟩ <;> first | rfl | (exfalso; omega)
        refine own_blk dec0 seq0 hby hx hZ hown hK hF 4 [false] [] X43 eh43 ?_
        show (¬ ((got).toInt ≠ ((0 : Int32)).toInt)) ∧ own_Aft X43 T34.heap _ 272 [zI ln, zI xa, zI xb, zI xc, zI xd, zI 2, zI y0, zI y1, zI y2, zI y3, zA so, zI 0] [.int 1]
        refine ⟨by omega, fun T44 X44 eh44 => ?_⟩
        exact own_ret X44 hx hlk eh44 hret (by first | rfl | decide) (Or.inl ⟨rfl, by simp, _, rfl⟩) (hb hby at_272) (by decide) (by decide) (⟨rfl, N1_⟩)
    · skip
      obtain ⟨rfl, hk0⟩ := hk0
      show own_Go p.tables e below _ (T36.setTop (mkF m 98 (Array.mk [zI ln, zI xa, zI xb, zI xc, zI xd, zI 2, zI y0, zI y1, zI y2, zI y3, zA so, zU]) [.int 0]))
      refine own_blk dec0 seq0 hby hx hZ hown hK hF 5 [true] [] X36 eh36 ?_
      show (((0 : Int32)).toInt = 0) ∧ own_Aft X36 T34.heap _ 259 [zI ln, zI xa, zI xb, zI xc, zI xd, zI 2, zI y0, zI y1, zI y2, zI y3, zA so, zI 0] [.ref so]
      refine ⟨by decide, fun T45 X45 eh45 => ?_⟩
      refine own_callSP X45 hx hZ hown (hw _ (wm 37 rfl)) (hw _ (wm 38 rfl)) (hw _ (wm 39 rfl)) (hw _ (wm 40 rfl)) (by decide) eh45 [.ref so] pd9 rfl (fr := 4) (lo := 72) (rm9_2 l Z a0 hw [] so ba zc y0.toInt8.toInt32 y1.toInt8.toInt32 T34.heap n0 Zz (S0.ext Od.2) zn EX F1 F2 Ab) (by rw [hml]; rfl) 0 rfl (Nat.le_of_eq rfl) (hb hby at_259) (by decide) (by decide) (by decide) (by decide) (fun T46 rv46 X46 eh46 qc46 => ?_)
      obtain ⟨got, rfl, hg⟩ := qc46
      show own_Go p.tables e below _ (T46.setTop (mkF m 262 (Array.mk [zI ln, zI xa, zI xb, zI xc, zI xd, zI 2, zI y0, zI y1, zI y2, zI y3, zA so, zI 0]) [.int got]))
      simp only [ne_eq, B0, D0, B1, D1] at hg
      clear B0 D0 B1 D1
      have e0_ : (0 : Int32).toInt = 0 := rfl
      have e1_ : (1 : Int32).toInt = 1 := rfl
      have hgt : got.toInt = ((0 : Int32)).toInt := by rcases hg with ⟨rfl, hg⟩ | ⟨rfl, hg⟩ <;> first | rfl | (exfalso; omega)
      refine own_blk dec0 seq0 hby hx hZ hown hK hF 4 [false] [] X46 eh46 ?_
      show (¬ ((got).toInt ≠ ((0 : Int32)).toInt)) ∧ own_Aft X46 T34.heap _ 272 [zI ln, zI xa, zI xb, zI xc, zI xd, zI 2, zI y0, zI y1, zI y2, zI y3, zA so, zI 0] [.int 1]
      refine ⟨by omega, fun T47 X47 eh47 => ?_⟩
      exact own_ret X47 hx hlk eh47 hret (by first | rfl | decide) (Or.inl ⟨rfl, by simp, _, rfl⟩) (hb hby at_272) (by decide) (by decide) (⟨rfl, N1_⟩)
  · skip
    obtain rfl : nn = (3 : Int32) := Int32.toInt_inj.mp hn
    show own_Go p.tables e below _ (T10.setTop (mkF m 32 (Array.mk [zI ln, zI xa, zI xb, zI xc, zI xd, zI 3, zI y0, zI y1, zI y2, zI y3, zU, zU]) []))
    refine own_blk dec0 seq0 hby hx hZ hown hK hF 9 [true, true, false] [] X10 eh10 ?_
    show (((3 : Int32)).toInt ≠ ((1 : Int32)).toInt) ∧ (((3 : Int32)).toInt ≠ ((2 : Int32)).toInt) ∧ (¬ (((3 : Int32)).toInt ≠ ((3 : Int32)).toInt)) ∧ own_Aft X10 h0 _ 125 [zI ln, zI xa, zI xb, zI xc, zI xd, zI 3, zI y0, zI y1, zI y2, zI y3, zU, zU] []
    refine ⟨by decide, by decide, by decide, fun T48 X48 eh48 => ?_⟩
    refine own_new X48 hx hZ hown (hw _ (wm 4 rfl)) (hw _ (wm 5 rfl)) (hw _ (wm 6 rfl)) eh48 (hb hby at_125) (by decide) (by decide) (fun T49 hp49 so ga49 X49 eh49 Ex49 Ea49 Dn49 => ?_)
    have nw_so : n0 ≤ so := by rw [ga49]; exact Z0
    have Z_49 : n0 ≤ hp49.size := Nat.le_trans Z0 Ex49.1
    have Od49 := Old.ext X00 Ex49
    have Fn49_coder : Fld Z hp49 so "java/lang/String" "coder" "B" (.int 0) := Dn49 (Or.inr (hw _ (wm 31 rfl))) (ty := .byte) (by decide)
    have Fn49_value : Fld Z hp49 so "java/lang/String" "value" "[B" (.null) := Dn49 (Or.inr (hw _ (wm 33 rfl))) (ty := (.array .byte)) (by decide)
    show own_Go p.tables e below _ (T49.setTop (mkF m 128 (Array.mk [zI ln, zI xa, zI xb, zI xc, zI xd, zI 3, zI y0, zI y1, zI y2, zI y3, zU, zU]) [.ref so]))
    refine own_blk dec0 seq0 hby hx hZ hown hK hF 2 [] [] X49 eh49 ?_
    show own_Aft X49 hp49 _ 130 [zI ln, zI xa, zI xb, zI xc, zI xd, zI 3, zI y0, zI y1, zI y2, zI y3, zU, zU] [.int 3, .ref so, .ref so]
    refine fun T50 X50 eh50 => ?_
    refine own_newP X50 hx hZ (hw _ (wm 7 rfl)) eh50 3 rfl (cap := 3) (by decide) (by decide) (hb hby at_130) (by decide) (by decide) (fun T51 hp51 ca ga51 X51 eh51 Ex51 Ar51 => ?_)
    have ne_so_ca : so ≠ ca := fun q => absurd Ea49.lt (by rw [q, ga51]; exact Nat.lt_irrefl _)
    have nw_ca : n0 ≤ ca := by rw [ga51]; exact Z_49
    have Ea49_51 := Exa.ext Ex51 Ea49
    have Fn49_coder_51 := Fld.ext Ex51 Fn49_coder
    have Fn49_value_51 := Fld.ext Ex51 Fn49_value
    have Z_51 : n0 ≤ hp51.size := Nat.le_trans Z_49 Ex51.1
    have Od51 := Old.ext Od49 Ex51
    have Ar51' : own_A Z hp51 ca .char [.int 0, .int 0, .int 0] := Ar51
    show own_Go p.tables e below _ (T51.setTop (mkF m 132 (Array.mk [zI ln, zI xa, zI xb, zI xc, zI xd, zI 3, zI y0, zI y1, zI y2, zI y3, zU, zU]) [.ref ca, .ref so, .ref so]))
    refine own_blk dec0 seq0 hby hx hZ hown hK hF 3 [] [] X51 eh51 ?_
    show own_Aft X51 hp51 _ 136 [zI ln, zI xa, zI xb, zI xc, zI xd, zI 3, zI y0, zI y1, zI y2, zI y3, zU, zU] [.int y0, .int 0, .ref ca, .ref ca, .ref so, .ref so]
    refine fun T52 X52 eh52 => ?_
    refine own_sC X52 hx hZ eh52 Ar51' 0 rfl (by show 0 < 3; decide) (own_narC u0 v0) (hb hby at_136) (fun T53 hp53 X53 eh53 Wr53 Ar53 => ?_)
    have Ar53' : own_A Z hp53 ca .char [.int y0, .int 0, .int 0] := Ar53
    have Ea49_53 := Exa.wr Wr53 Ea49_51
    have Fn49_coder_53 := Fld.other Wr53 Fn49_coder_51 (Or.inl ne_so_ca)
    have Fn49_value_53 := Fld.other Wr53 Fn49_value_51 (Or.inl ne_so_ca)
    have Nf53 := Fr.snoc X53 N0 nw_ca
    have Z_53 : n0 ≤ hp53.size := by rw [Wr.size Wr53]; exact Z_51
    have Od53 := Old.wr Od51 Wr53 nw_ca
    refine own_blk dec0 seq0 hby hx hZ hown hK hF 3 [] [] X53 eh53 ?_
    show own_Aft X53 hp53 _ 141 [zI ln, zI xa, zI xb, zI xc, zI xd, zI 3, zI y0, zI y1, zI y2, zI y3, zU, zU] [.int y1, .int 1, .ref ca, .ref ca, .ref so, .ref so]
    refine fun T54 X54 eh54 => ?_
    refine own_sC X54 hx hZ eh54 Ar53' 1 rfl (by show 1 < 3; decide) (own_narC u1 v1) (hb hby at_141) (fun T55 hp55 X55 eh55 Wr55 Ar55 => ?_)
    have Ar55' : own_A Z hp55 ca .char [.int y0, .int y1, .int 0] := Ar55
    have Ea49_55 := Exa.wr Wr55 Ea49_53
    have Fn49_coder_55 := Fld.other Wr55 Fn49_coder_53 (Or.inl ne_so_ca)
    have Fn49_value_55 := Fld.other Wr55 Fn49_value_53 (Or.inl ne_so_ca)
    have Nf55 := Fr.snoc X55 Nf53 nw_ca
    have Z_55 : n0 ≤ hp55.size := by rw [Wr.size Wr55]; exact Z_53
    have Od55 := Old.wr Od53 Wr55 nw_ca
    refine own_blk dec0 seq0 hby hx hZ hown hK hF 3 [] [] X55 eh55 ?_
    show own_Aft X55 hp55 _ 146 [zI ln, zI xa, zI xb, zI xc, zI xd, zI 3, zI y0, zI y1, zI y2, zI y3, zU, zU] [.int y2, .int 2, .ref ca, .ref ca, .ref so, .ref so]
    refine fun T56 X56 eh56 => ?_
    refine own_sC X56 hx hZ eh56 Ar55' 2 rfl (by show 2 < 3; decide) (own_narC u2 v2) (hb hby at_146) (fun T57 hp57 X57 eh57 Wr57 Ar57 => ?_)
    have Ar57' : own_A Z hp57 ca .char [.int y0, .int y1, .int y2] := Ar57
    have Ea49_57 := Exa.wr Wr57 Ea49_55
    have Fn49_coder_57 := Fld.other Wr57 Fn49_coder_55 (Or.inl ne_so_ca)
    have Fn49_value_57 := Fld.other Wr57 Fn49_value_55 (Or.inl ne_so_ca)
    have Nf57 := Fr.snoc X57 Nf55 nw_ca
    have Z_57 : n0 ≤ hp57.size := by rw [Wr.size Wr57]; exact Z_55
    have Od57 := Old.wr Od55 Wr57 nw_ca
    show own_Go p.tables e below _ (T57.setTop (mkF m 147 (Array.mk [zI ln, zI xa, zI xb, zI xc, zI xd, zI 3, zI y0, zI y1, zI y2, zI y3, zU, zU]) [.ref ca, .ref so, .ref so]))
    obtain ⟨kC, AC⟩ := Ar57'.arv (N := (3 : Int32)) rfl (.int 0) (by intro v hv; simp only [List.mem_cons, List.not_mem_nil, or_false] at hv; rcases hv with rfl | rfl | rfl <;> first | exact own_fitC u0 v0 | exact own_fitC u1 v1 | exact own_fitC u2 v2)
    have hp : ∀ q ∈ ([y0, y1, y2] : List Int32), ¬ q < 0 ∧ ¬ (255 : Int32) < q := by
      intro q hq; simp only [List.mem_cons, List.not_mem_nil, or_false] at hq
      have l0 : (0 : Int32).toInt = 0 := rfl
      have l1 : (255 : Int32).toInt = 255 := rfl
      rw [Int32.lt_iff_toInt_lt, Int32.lt_iff_toInt_lt]
      rcases hq with rfl | rfl | rfl <;> exact ⟨by omega, by omega⟩
    refine own_callIB X57 hx hZ hown rfl (hw _ (wm 8 rfl)) (hw _ (wm 9 rfl)) (hw _ (wm 10 rfl)) (by decide) eh57 so [.ref ca] pd2 rfl (kc := 1) (ks := 3) 1 (StrChars.Road.backV (W := 1) hZ hws (kI := 4) (hw _ (wm 5 rfl)) (cs := [y0, y1, y2]) (bs := [y0, y1, y2].map (fun q => q.toInt8.toInt32)) (n := 3) (n0 := n0) nw_so Z_57 Ea49_57 Fn49_value_57 Fn49_coder_57 AC (S0.ext Od57.2) zn rfl rfl (by decide) (by decide) hp rfl (by decide) (by decide)) (by rw [hml]; rfl) rfl (Nat.le_of_eq rfl) (hb hby at_147) (by decide) (by decide) (fun T58 rv58 Lc58 X58 qc58 => ?_)
    obtain ⟨rfl, M1, K1, EX, F1, ba, kb, nba, hba, nbx, F2, Kb⟩ := qc58
    have Ab : own_A Z T58.heap ba .byte [.int y0.toInt8.toInt32, .int y1.toInt8.toInt32, .int y2.toInt8.toInt32] := own_A.of Kb rfl
    have Od : Old Z n0 T58.heap := Old.keep Od57 K1 (fun q hq => by rw [List.mem_singleton.mp hq]; exact nw_so)
    have N1_ := Fr.app Nf57 M1
    have Zz : n0 ≤ T58.heap.size := Nat.le_trans nw_so (Nat.le_of_lt EX.lt)
    have B0 := own_byte59 u0 v0; have D0 := own_byte124 u0 v0
    have B1 := own_byte59 u1 v1; have D1 := own_byte124 u1 v1
    have B2 := own_byte59 u2 v2; have D2 := own_byte124 u2 v2
    show own_Go p.tables e below _ (T58.setTop (mkF m 150 (Array.mk [zI ln, zI xa, zI xb, zI xc, zI xd, zI 3, zI y0, zI y1, zI y2, zI y3, zU, zU]) [.ref so]))
    refine own_blk dec0 seq0 hby hx hZ hown hK hF 2 [] [] X58 rfl ?_
    show own_Aft X58 T58.heap _ 154 [zI ln, zI xa, zI xb, zI xc, zI xd, zI 3, zI y0, zI y1, zI y2, zI y3, zA so, zU] [.int y0]
    refine fun T59 X59 eh59 => ?_
    refine own_callSP X59 hx hZ hown (hw _ (wm 34 rfl)) (hw _ (wm 35 rfl)) (hw _ (wm 2 rfl)) (hw _ (wm 36 rfl)) (by decide) eh59 [.int y0] pd8 rfl (fr := 0) (lo := 0) (rm8 l Z a0 hw [] y0 T58.heap n0 Zz) (by rw [hml]; rfl) 0 rfl (Nat.le_of_eq rfl) (hb hby at_154) (by decide) (by decide) (by decide) (by decide) (fun T60 rv60 X60 eh60 qc60 => ?_)
    obtain ⟨k0, rfl, hk0⟩ := qc60
    show own_Go p.tables e below _ (T60.setTop (mkF m 157 (Array.mk [zI ln, zI xa, zI xb, zI xc, zI xd, zI 3, zI y0, zI y1, zI y2, zI y3, zA so, zU]) [.int k0]))
    rcases hk0 with hk0 | hk0
    · skip
      obtain ⟨rfl, hk0⟩ := hk0
      show own_Go p.tables e below _ (T60.setTop (mkF m 157 (Array.mk [zI ln, zI xa, zI xb, zI xc, zI xd, zI 3, zI y0, zI y1, zI y2, zI y3, zA so, zU]) [.int 1]))
      refine own_blk dec0 seq0 hby hx hZ hown hK hF 2 [false] [] X60 eh60 ?_
      show (¬ (((1 : Int32)).toInt = 0)) ∧ own_Aft X60 T58.heap _ 162 [zI ln, zI xa, zI xb, zI xc, zI xd, zI 3, zI y0, zI y1, zI y2, zI y3, zA so, zU] [.int y1]
      refine ⟨by decide, fun T61 X61 eh61 => ?_⟩
      refine own_callSP X61 hx hZ hown (hw _ (wm 34 rfl)) (hw _ (wm 35 rfl)) (hw _ (wm 2 rfl)) (hw _ (wm 36 rfl)) (by decide) eh61 [.int y1] pd8 rfl (fr := 0) (lo := 0) (rm8 l Z a0 hw [] y1 T58.heap n0 Zz) (by rw [hml]; rfl) 0 rfl (Nat.le_of_eq rfl) (hb hby at_162) (by decide) (by decide) (by decide) (by decide) (fun T62 rv62 X62 eh62 qc62 => ?_)
      obtain ⟨k1, rfl, hk1⟩ := qc62
      show own_Go p.tables e below _ (T62.setTop (mkF m 165 (Array.mk [zI ln, zI xa, zI xb, zI xc, zI xd, zI 3, zI y0, zI y1, zI y2, zI y3, zA so, zU]) [.int k1]))
      rcases hk1 with hk1 | hk1
      · skip
        obtain ⟨rfl, hk1⟩ := hk1
        show own_Go p.tables e below _ (T62.setTop (mkF m 165 (Array.mk [zI ln, zI xa, zI xb, zI xc, zI xd, zI 3, zI y0, zI y1, zI y2, zI y3, zA so, zU]) [.int 1]))
        refine own_blk dec0 seq0 hby hx hZ hown hK hF 2 [false] [] X62 eh62 ?_
        show (¬ (((1 : Int32)).toInt = 0)) ∧ own_Aft X62 T58.heap _ 170 [zI ln, zI xa, zI xb, zI xc, zI xd, zI 3, zI y0, zI y1, zI y2, zI y3, zA so, zU] [.int y2]
        refine ⟨by decide, fun T63 X63 eh63 => ?_⟩
        refine own_callSP X63 hx hZ hown (hw _ (wm 34 rfl)) (hw _ (wm 35 rfl)) (hw _ (wm 2 rfl)) (hw _ (wm 36 rfl)) (by decide) eh63 [.int y2] pd8 rfl (fr := 0) (lo := 0) (rm8 l Z a0 hw [] y2 T58.heap n0 Zz) (by rw [hml]; rfl) 0 rfl (Nat.le_of_eq rfl) (hb hby at_170) (by decide) (by decide) (by decide) (by decide) (fun T64 rv64 X64 eh64 qc64 => ?_)
        obtain ⟨k2, rfl, hk2⟩ := qc64
        show own_Go p.tables e below _ (T64.setTop (mkF m 173 (Array.mk [zI ln, zI xa, zI xb, zI xc, zI xd, zI 3, zI y0, zI y1, zI y2, zI y3, zA so, zU]) [.int k2]))
        rcases hk2 with hk2 | hk2
        · skip
          obtain ⟨rfl, hk2⟩ := hk2
          show own_Go p.tables e below _ (T64.setTop (mkF m 173 (Array.mk [zI ln, zI xa, zI xb, zI xc, zI xd, zI 3, zI y0, zI y1, zI y2, zI y3, zA so, zU]) [.int 1]))
          refine own_blk dec0 seq0 hby hx hZ hown hK hF 6 [false] [] X64 eh64 ?_
          show (¬ (((1 : Int32)).toInt = 0)) ∧ own_Aft X64 T58.heap _ 259 [zI ln, zI xa, zI xb, zI xc, zI xd, zI 3, zI y0, zI y1, zI y2, zI y3, zA so, zI 1] [.ref so]
          refine ⟨by decide, fun T65 X65 eh65 => ?_⟩
          refine own_callSP X65 hx hZ hown (hw _ (wm 37 rfl)) (hw _ (wm 38 rfl)) (hw _ (wm 39 rfl)) (hw _ (wm 40 rfl)) (by decide) eh65 [.ref so] pd9 rfl (fr := 4) (lo := 72) (rm9_3 l Z a0 hw [] so ba zc y0.toInt8.toInt32 y1.toInt8.toInt32 y2.toInt8.toInt32 T58.heap n0 Zz (S0.ext Od.2) zn EX F1 F2 Ab) (by rw [hml]; rfl) 0 rfl (Nat.le_of_eq rfl) (hb hby at_259) (by decide) (by decide) (by decide) (by decide) (fun T66 rv66 X66 eh66 qc66 => ?_)
          obtain ⟨got, rfl, hg⟩ := qc66
          show own_Go p.tables e below _ (T66.setTop (mkF m 262 (Array.mk [zI ln, zI xa, zI xb, zI xc, zI xd, zI 3, zI y0, zI y1, zI y2, zI y3, zA so, zI 1]) [.int got]))
          simp only [ne_eq, B0, D0, B1, D1, B2, D2] at hg
          clear B0 D0 B1 D1 B2 D2
          have e0_ : (0 : Int32).toInt = 0 := rfl
          have e1_ : (1 : Int32).toInt = 1 := rfl
          have hgt : got.toInt = ((1 : Int32)).toInt := by rcases hg with ⟨rfl, hg⟩ | ⟨rfl, hg⟩ <;> first | rfl | (exfalso; omega)
          refine own_blk dec0 seq0 hby hx hZ hown hK hF 4 [false] [] X66 eh66 ?_
          show (¬ ((got).toInt ≠ ((1 : Int32)).toInt)) ∧ own_Aft X66 T58.heap _ 272 [zI ln, zI xa, zI xb, zI xc, zI xd, zI 3, zI y0, zI y1, zI y2, zI y3, zA so, zI 1] [.int 1]
          refine ⟨by omega, fun T67 X67 eh67 => ?_⟩
          exact own_ret X67 hx hlk eh67 hret (by first | rfl | decide) (Or.inl ⟨rfl, by simp, _, rfl⟩) (hb hby at_272) (by decide) (by decide) (⟨rfl, N1_⟩)
        · skip
          obtain ⟨rfl, hk2⟩ := hk2
          show own_Go p.tables e below _ (T64.setTop (mkF m 173 (Array.mk [zI ln, zI xa, zI xb, zI xc, zI xd, zI 3, zI y0, zI y1, zI y2, zI y3, zA so, zU]) [.int 0]))
          refine own_blk dec0 seq0 hby hx hZ hown hK hF 5 [true] [] X64 eh64 ?_
          show (((0 : Int32)).toInt = 0) ∧ own_Aft X64 T58.heap _ 259 [zI ln, zI xa, zI xb, zI xc, zI xd, zI 3, zI y0, zI y1, zI y2, zI y3, zA so, zI 0] [.ref so]
          refine ⟨by decide, fun T68 X68 eh68 => ?_⟩
          refine own_callSP X68 hx hZ hown (hw _ (wm 37 rfl)) (hw _ (wm 38 rfl)) (hw _ (wm 39 rfl)) (hw _ (wm 40 rfl)) (by decide) eh68 [.ref so] pd9 rfl (fr := 4) (lo := 72) (rm9_3 l Z a0 hw [] so ba zc y0.toInt8.toInt32 y1.toInt8.toInt32 y2.toInt8.toInt32 T58.heap n0 Zz (S0.ext Od.2) zn EX F1 F2 Ab) (by rw [hml]; rfl) 0 rfl (Nat.le_of_eq rfl) (hb hby at_259) (by decide) (by decide) (by decide) (by decide) (fun T69 rv69 X69 eh69 qc69 => ?_)
          obtain ⟨got, rfl, hg⟩ := qc69
          show own_Go p.tables e below _ (T69.setTop (mkF m 262 (Array.mk [zI ln, zI xa, zI xb, zI xc, zI xd, zI 3, zI y0, zI y1, zI y2, zI y3, zA so, zI 0]) [.int got]))
          simp only [ne_eq, B0, D0, B1, D1, B2, D2] at hg
          clear B0 D0 B1 D1 B2 D2
          have e0_ : (0 : Int32).toInt = 0 := rfl
          have e1_ : (1 : Int32).toInt = 1 := rfl
          have hgt : got.toInt = ((0 : Int32)).toInt := by rcases hg with ⟨rfl, hg⟩ | ⟨rfl, hg⟩ <;> first | rfl | (exfalso; omega)
          refine own_blk dec0 seq0 hby hx hZ hown hK hF 4 [false] [] X69 eh69 ?_
          show (¬ ((got).toInt ≠ ((0 : Int32)).toInt)) ∧ own_Aft X69 T58.heap _ 272 [zI ln, zI xa, zI xb, zI xc, zI xd, zI 3, zI y0, zI y1, zI y2, zI y3, zA so, zI 0] [.int 1]
          refine ⟨by omega, fun T70 X70 eh70 => ?_⟩
          exact own_ret X70 hx hlk eh70 hret (by first | rfl | decide) (Or.inl ⟨rfl, by simp, _, rfl⟩) (hb hby at_272) (by decide) (by decide) (⟨rfl, N1_⟩)
      · skip
        obtain ⟨rfl, hk1⟩ := hk1
        show own_Go p.tables e below _ (T62.setTop (mkF m 165 (Array.mk [zI ln, zI xa, zI xb, zI xc, zI xd, zI 3, zI y0, zI y1, zI y2, zI y3, zA so, zU]) [.int 0]))
        refine own_blk dec0 seq0 hby hx hZ hown hK hF 5 [true] [] X62 eh62 ?_
        show (((0 : Int32)).toInt = 0) ∧ own_Aft X62 T58.heap _ 259 [zI ln, zI xa, zI xb, zI xc, zI xd, zI 3, zI y0, zI y1, zI y2, zI y3, zA so, zI 0] [.ref so]
        refine ⟨by decide, fun T71 X71 eh71 => ?_⟩
        refine own_callSP X71 hx hZ hown (hw _ (wm 37 rfl)) (hw _ (wm 38 rfl)) (hw _ (wm 39 rfl)) (hw _ (wm 40 rfl)) (by decide) eh71 [.ref so] pd9 rfl (fr := 4) (lo := 72) (rm9_3 l Z a0 hw [] so ba zc y0.toInt8.toInt32 y1.toInt8.toInt32 y2.toInt8.toInt32 T58.heap n0 Zz (S0.ext Od.2) zn EX F1 F2 Ab) (by rw [hml]; rfl) 0 rfl (Nat.le_of_eq rfl) (hb hby at_259) (by decide) (by decide) (by decide) (by decide) (fun T72 rv72 X72 eh72 qc72 => ?_)
        obtain ⟨got, rfl, hg⟩ := qc72
        show own_Go p.tables e below _ (T72.setTop (mkF m 262 (Array.mk [zI ln, zI xa, zI xb, zI xc, zI xd, zI 3, zI y0, zI y1, zI y2, zI y3, zA so, zI 0]) [.int got]))
        simp only [ne_eq, B0, D0, B1, D1, B2, D2] at hg
        clear B0 D0 B1 D1 B2 D2
        have e0_ : (0 : Int32).toInt = 0 := rfl
        have e1_ : (1 : Int32).toInt = 1 := rfl
        have hgt : got.toInt = ((0 : Int32)).toInt := by rcases hg with ⟨rfl, hg⟩ | ⟨rfl, hg⟩ <;> first | rfl | (exfalso; omega)
        refine own_blk dec0 seq0 hby hx hZ hown hK hF 4 [false] [] X72 eh72 ?_
        show (¬ ((got).toInt ≠ ((0 : Int32)).toInt)) ∧ own_Aft X72 T58.heap _ 272 [zI ln, zI xa, zI xb, zI xc, zI xd, zI 3, zI y0, zI y1, zI y2, zI y3, zA so, zI 0] [.int 1]
        refine ⟨by omega, fun T73 X73 eh73 => ?_⟩
        exact own_ret X73 hx hlk eh73 hret (by first | rfl | decide) (Or.inl ⟨rfl, by simp, _, rfl⟩) (hb hby at_272) (by decide) (by decide) (⟨rfl, N1_⟩)
    · skip
      obtain ⟨rfl, hk0⟩ := hk0
      show own_Go p.tables e below _ (T60.setTop (mkF m 157 (Array.mk [zI ln, zI xa, zI xb, zI xc, zI xd, zI 3, zI y0, zI y1, zI y2, zI y3, zA so, zU]) [.int 0]))
      refine own_blk dec0 seq0 hby hx hZ hown hK hF 5 [true] [] X60 eh60 ?_
      show (((0 : Int32)).toInt = 0) ∧ own_Aft X60 T58.heap _ 259 [zI ln, zI xa, zI xb, zI xc, zI xd, zI 3, zI y0, zI y1, zI y2, zI y3, zA so, zI 0] [.ref so]
      refine ⟨by decide, fun T74 X74 eh74 => ?_⟩
      refine own_callSP X74 hx hZ hown (hw _ (wm 37 rfl)) (hw _ (wm 38 rfl)) (hw _ (wm 39 rfl)) (hw _ (wm 40 rfl)) (by decide) eh74 [.ref so] pd9 rfl (fr := 4) (lo := 72) (rm9_3 l Z a0 hw [] so ba zc y0.toInt8.toInt32 y1.toInt8.toInt32 y2.toInt8.toInt32 T58.heap n0 Zz (S0.ext Od.2) zn EX F1 F2 Ab) (by rw [hml]; rfl) 0 rfl (Nat.le_of_eq rfl) (hb hby at_259) (by decide) (by decide) (by decide) (by decide) (fun T75 rv75 X75 eh75 qc75 => ?_)
      obtain ⟨got, rfl, hg⟩ := qc75
      show own_Go p.tables e below _ (T75.setTop (mkF m 262 (Array.mk [zI ln, zI xa, zI xb, zI xc, zI xd, zI 3, zI y0, zI y1, zI y2, zI y3, zA so, zI 0]) [.int got]))
      simp only [ne_eq, B0, D0, B1, D1, B2, D2] at hg
      clear B0 D0 B1 D1 B2 D2
      have e0_ : (0 : Int32).toInt = 0 := rfl
      have e1_ : (1 : Int32).toInt = 1 := rfl
      have hgt : got.toInt = ((0 : Int32)).toInt := by rcases hg with ⟨rfl, hg⟩ | ⟨rfl, hg⟩ <;> first | rfl | (exfalso; omega)
      refine own_blk dec0 seq0 hby hx hZ hown hK hF 4 [false] [] X75 eh75 ?_
      show (¬ ((got).toInt ≠ ((0 : Int32)).toInt)) ∧ own_Aft X75 T58.heap _ 272 [zI ln, zI xa, zI xb, zI xc, zI xd, zI 3, zI y0, zI y1, zI y2, zI y3, zA so, zI 0] [.int 1]
      refine ⟨by omega, fun T76 X76 eh76 => ?_⟩
      exact own_ret X76 hx hlk eh76 hret (by first | rfl | decide) (Or.inl ⟨rfl, by simp, _, rfl⟩) (hb hby at_272) (by decide) (by decide) (⟨rfl, N1_⟩)
  · skip
    obtain rfl : nn = (4 : Int32) := Int32.toInt_inj.mp hn
    show own_Go p.tables e below _ (T10.setTop (mkF m 32 (Array.mk [zI ln, zI xa, zI xb, zI xc, zI xd, zI 4, zI y0, zI y1, zI y2, zI y3, zU, zU]) []))
    refine own_blk dec0 seq0 hby hx hZ hown hK hF 9 [true, true, true] [] X10 eh10 ?_
    show (((4 : Int32)).toInt ≠ ((1 : Int32)).toInt) ∧ (((4 : Int32)).toInt ≠ ((2 : Int32)).toInt) ∧ (((4 : Int32)).toInt ≠ ((3 : Int32)).toInt) ∧ own_Aft X10 h0 _ 186 [zI ln, zI xa, zI xb, zI xc, zI xd, zI 4, zI y0, zI y1, zI y2, zI y3, zU, zU] []
    refine ⟨by decide, by decide, by decide, fun T77 X77 eh77 => ?_⟩
    refine own_new X77 hx hZ hown (hw _ (wm 4 rfl)) (hw _ (wm 5 rfl)) (hw _ (wm 6 rfl)) eh77 (hb hby at_186) (by decide) (by decide) (fun T78 hp78 so ga78 X78 eh78 Ex78 Ea78 Dn78 => ?_)
    have nw_so : n0 ≤ so := by rw [ga78]; exact Z0
    have Z_78 : n0 ≤ hp78.size := Nat.le_trans Z0 Ex78.1
    have Od78 := Old.ext X00 Ex78
    have Fn78_coder : Fld Z hp78 so "java/lang/String" "coder" "B" (.int 0) := Dn78 (Or.inr (hw _ (wm 31 rfl))) (ty := .byte) (by decide)
    have Fn78_value : Fld Z hp78 so "java/lang/String" "value" "[B" (.null) := Dn78 (Or.inr (hw _ (wm 33 rfl))) (ty := (.array .byte)) (by decide)
    show own_Go p.tables e below _ (T78.setTop (mkF m 189 (Array.mk [zI ln, zI xa, zI xb, zI xc, zI xd, zI 4, zI y0, zI y1, zI y2, zI y3, zU, zU]) [.ref so]))
    refine own_blk dec0 seq0 hby hx hZ hown hK hF 2 [] [] X78 eh78 ?_
    show own_Aft X78 hp78 _ 191 [zI ln, zI xa, zI xb, zI xc, zI xd, zI 4, zI y0, zI y1, zI y2, zI y3, zU, zU] [.int 4, .ref so, .ref so]
    refine fun T79 X79 eh79 => ?_
    refine own_newP X79 hx hZ (hw _ (wm 7 rfl)) eh79 4 rfl (cap := 4) (by decide) (by decide) (hb hby at_191) (by decide) (by decide) (fun T80 hp80 ca ga80 X80 eh80 Ex80 Ar80 => ?_)
    have ne_so_ca : so ≠ ca := fun q => absurd Ea78.lt (by rw [q, ga80]; exact Nat.lt_irrefl _)
    have nw_ca : n0 ≤ ca := by rw [ga80]; exact Z_78
    have Ea78_80 := Exa.ext Ex80 Ea78
    have Fn78_coder_80 := Fld.ext Ex80 Fn78_coder
    have Fn78_value_80 := Fld.ext Ex80 Fn78_value
    have Z_80 : n0 ≤ hp80.size := Nat.le_trans Z_78 Ex80.1
    have Od80 := Old.ext Od78 Ex80
    have Ar80' : own_A Z hp80 ca .char [.int 0, .int 0, .int 0, .int 0] := Ar80
    show own_Go p.tables e below _ (T80.setTop (mkF m 193 (Array.mk [zI ln, zI xa, zI xb, zI xc, zI xd, zI 4, zI y0, zI y1, zI y2, zI y3, zU, zU]) [.ref ca, .ref so, .ref so]))
    refine own_blk dec0 seq0 hby hx hZ hown hK hF 3 [] [] X80 eh80 ?_
    show own_Aft X80 hp80 _ 197 [zI ln, zI xa, zI xb, zI xc, zI xd, zI 4, zI y0, zI y1, zI y2, zI y3, zU, zU] [.int y0, .int 0, .ref ca, .ref ca, .ref so, .ref so]
    refine fun T81 X81 eh81 => ?_
    refine own_sC X81 hx hZ eh81 Ar80' 0 rfl (by show 0 < 4; decide) (own_narC u0 v0) (hb hby at_197) (fun T82 hp82 X82 eh82 Wr82 Ar82 => ?_)
    have Ar82' : own_A Z hp82 ca .char [.int y0, .int 0, .int 0, .int 0] := Ar82
    have Ea78_82 := Exa.wr Wr82 Ea78_80
    have Fn78_coder_82 := Fld.other Wr82 Fn78_coder_80 (Or.inl ne_so_ca)
    have Fn78_value_82 := Fld.other Wr82 Fn78_value_80 (Or.inl ne_so_ca)
    have Nf82 := Fr.snoc X82 N0 nw_ca
    have Z_82 : n0 ≤ hp82.size := by rw [Wr.size Wr82]; exact Z_80
    have Od82 := Old.wr Od80 Wr82 nw_ca
    refine own_blk dec0 seq0 hby hx hZ hown hK hF 3 [] [] X82 eh82 ?_
    show own_Aft X82 hp82 _ 202 [zI ln, zI xa, zI xb, zI xc, zI xd, zI 4, zI y0, zI y1, zI y2, zI y3, zU, zU] [.int y1, .int 1, .ref ca, .ref ca, .ref so, .ref so]
    refine fun T83 X83 eh83 => ?_
    refine own_sC X83 hx hZ eh83 Ar82' 1 rfl (by show 1 < 4; decide) (own_narC u1 v1) (hb hby at_202) (fun T84 hp84 X84 eh84 Wr84 Ar84 => ?_)
    have Ar84' : own_A Z hp84 ca .char [.int y0, .int y1, .int 0, .int 0] := Ar84
    have Ea78_84 := Exa.wr Wr84 Ea78_82
    have Fn78_coder_84 := Fld.other Wr84 Fn78_coder_82 (Or.inl ne_so_ca)
    have Fn78_value_84 := Fld.other Wr84 Fn78_value_82 (Or.inl ne_so_ca)
    have Nf84 := Fr.snoc X84 Nf82 nw_ca
    have Z_84 : n0 ≤ hp84.size := by rw [Wr.size Wr84]; exact Z_82
    have Od84 := Old.wr Od82 Wr84 nw_ca
    refine own_blk dec0 seq0 hby hx hZ hown hK hF 3 [] [] X84 eh84 ?_
    show own_Aft X84 hp84 _ 207 [zI ln, zI xa, zI xb, zI xc, zI xd, zI 4, zI y0, zI y1, zI y2, zI y3, zU, zU] [.int y2, .int 2, .ref ca, .ref ca, .ref so, .ref so]
    refine fun T85 X85 eh85 => ?_
    refine own_sC X85 hx hZ eh85 Ar84' 2 rfl (by show 2 < 4; decide) (own_narC u2 v2) (hb hby at_207) (fun T86 hp86 X86 eh86 Wr86 Ar86 => ?_)
    have Ar86' : own_A Z hp86 ca .char [.int y0, .int y1, .int y2, .int 0] := Ar86
    have Ea78_86 := Exa.wr Wr86 Ea78_84
    have Fn78_coder_86 := Fld.other Wr86 Fn78_coder_84 (Or.inl ne_so_ca)
    have Fn78_value_86 := Fld.other Wr86 Fn78_value_84 (Or.inl ne_so_ca)
    have Nf86 := Fr.snoc X86 Nf84 nw_ca
    have Z_86 : n0 ≤ hp86.size := by rw [Wr.size Wr86]; exact Z_84
    have Od86 := Old.wr Od84 Wr86 nw_ca
    refine own_blk dec0 seq0 hby hx hZ hown hK hF 3 [] [] X86 eh86 ?_
    show own_Aft X86 hp86 _ 212 [zI ln, zI xa, zI xb, zI xc, zI xd, zI 4, zI y0, zI y1, zI y2, zI y3, zU, zU] [.int y3, .int 3, .ref ca, .ref ca, .ref so, .ref so]
    refine fun T87 X87 eh87 => ?_
    refine own_sC X87 hx hZ eh87 Ar86' 3 rfl (by show 3 < 4; decide) (own_narC u3 v3) (hb hby at_212) (fun T88 hp88 X88 eh88 Wr88 Ar88 => ?_)
    have Ar88' : own_A Z hp88 ca .char [.int y0, .int y1, .int y2, .int y3] := Ar88
    have Ea78_88 := Exa.wr Wr88 Ea78_86
    have Fn78_coder_88 := Fld.other Wr88 Fn78_coder_86 (Or.inl ne_so_ca)
    have Fn78_value_88 := Fld.other Wr88 Fn78_value_86 (Or.inl ne_so_ca)
    have Nf88 := Fr.snoc X88 Nf86 nw_ca
    have Z_88 : n0 ≤ hp88.size := by rw [Wr.size Wr88]; exact Z_86
    have Od88 := Old.wr Od86 Wr88 nw_ca
    show own_Go p.tables e below _ (T88.setTop (mkF m 213 (Array.mk [zI ln, zI xa, zI xb, zI xc, zI xd, zI 4, zI y0, zI y1, zI y2, zI y3, zU, zU]) [.ref ca, .ref so, .ref so]))
    obtain ⟨kC, AC⟩ := Ar88'.arv (N := (4 : Int32)) rfl (.int 0) (by intro v hv; simp only [List.mem_cons, List.not_mem_nil, or_false] at hv; rcases hv with rfl | rfl | rfl | rfl <;> first | exact own_fitC u0 v0 | exact own_fitC u1 v1 | exact own_fitC u2 v2 | exact own_fitC u3 v3)
    have hp : ∀ q ∈ ([y0, y1, y2, y3] : List Int32), ¬ q < 0 ∧ ¬ (255 : Int32) < q := by
      intro q hq; simp only [List.mem_cons, List.not_mem_nil, or_false] at hq
      have l0 : (0 : Int32).toInt = 0 := rfl
      have l1 : (255 : Int32).toInt = 255 := rfl
      rw [Int32.lt_iff_toInt_lt, Int32.lt_iff_toInt_lt]
      rcases hq with rfl | rfl | rfl | rfl <;> exact ⟨by omega, by omega⟩
    refine own_callIB X88 hx hZ hown rfl (hw _ (wm 8 rfl)) (hw _ (wm 9 rfl)) (hw _ (wm 10 rfl)) (by decide) eh88 so [.ref ca] pd2 rfl (kc := 1) (ks := 4) 1 (StrChars.Road.backV (W := 1) hZ hws (kI := 4) (hw _ (wm 5 rfl)) (cs := [y0, y1, y2, y3]) (bs := [y0, y1, y2, y3].map (fun q => q.toInt8.toInt32)) (n := 4) (n0 := n0) nw_so Z_88 Ea78_88 Fn78_value_88 Fn78_coder_88 AC (S0.ext Od88.2) zn rfl rfl (by decide) (by decide) hp rfl (by decide) (by decide)) (by rw [hml]; rfl) rfl (Nat.le_of_eq rfl) (hb hby at_213) (by decide) (by decide) (fun T89 rv89 Lc89 X89 qc89 => ?_)
    obtain ⟨rfl, M1, K1, EX, F1, ba, kb, nba, hba, nbx, F2, Kb⟩ := qc89
    have Ab : own_A Z T89.heap ba .byte [.int y0.toInt8.toInt32, .int y1.toInt8.toInt32, .int y2.toInt8.toInt32, .int y3.toInt8.toInt32] := own_A.of Kb rfl
    have Od : Old Z n0 T89.heap := Old.keep Od88 K1 (fun q hq => by rw [List.mem_singleton.mp hq]; exact nw_so)
    have N1_ := Fr.app Nf88 M1
    have Zz : n0 ≤ T89.heap.size := Nat.le_trans nw_so (Nat.le_of_lt EX.lt)
    have B0 := own_byte59 u0 v0; have D0 := own_byte124 u0 v0
    have B1 := own_byte59 u1 v1; have D1 := own_byte124 u1 v1
    have B2 := own_byte59 u2 v2; have D2 := own_byte124 u2 v2
    have B3 := own_byte59 u3 v3; have D3 := own_byte124 u3 v3
    show own_Go p.tables e below _ (T89.setTop (mkF m 216 (Array.mk [zI ln, zI xa, zI xb, zI xc, zI xd, zI 4, zI y0, zI y1, zI y2, zI y3, zU, zU]) [.ref so]))
    refine own_blk dec0 seq0 hby hx hZ hown hK hF 2 [] [] X89 rfl ?_
    show own_Aft X89 T89.heap _ 220 [zI ln, zI xa, zI xb, zI xc, zI xd, zI 4, zI y0, zI y1, zI y2, zI y3, zA so, zU] [.int y0]
    refine fun T90 X90 eh90 => ?_
    refine own_callSP X90 hx hZ hown (hw _ (wm 34 rfl)) (hw _ (wm 35 rfl)) (hw _ (wm 2 rfl)) (hw _ (wm 36 rfl)) (by decide) eh90 [.int y0] pd8 rfl (fr := 0) (lo := 0) (rm8 l Z a0 hw [] y0 T89.heap n0 Zz) (by rw [hml]; rfl) 0 rfl (Nat.le_of_eq rfl) (hb hby at_220) (by decide) (by decide) (by decide) (by decide) (fun T91 rv91 X91 eh91 qc91 => ?_)
    obtain ⟨k0, rfl, hk0⟩ := qc91
    show own_Go p.tables e below _ (T91.setTop (mkF m 223 (Array.mk [zI ln, zI xa, zI xb, zI xc, zI xd, zI 4, zI y0, zI y1, zI y2, zI y3, zA so, zU]) [.int k0]))
    rcases hk0 with hk0 | hk0
    · skip
      obtain ⟨rfl, hk0⟩ := hk0
      show own_Go p.tables e below _ (T91.setTop (mkF m 223 (Array.mk [zI ln, zI xa, zI xb, zI xc, zI xd, zI 4, zI y0, zI y1, zI y2, zI y3, zA so, zU]) [.int 1]))
      refine own_blk dec0 seq0 hby hx hZ hown hK hF 2 [false] [] X91 eh91 ?_
      show (¬ (((1 : Int32)).toInt = 0)) ∧ own_Aft X91 T89.heap _ 228 [zI ln, zI xa, zI xb, zI xc, zI xd, zI 4, zI y0, zI y1, zI y2, zI y3, zA so, zU] [.int y1]
      refine ⟨by decide, fun T92 X92 eh92 => ?_⟩
      refine own_callSP X92 hx hZ hown (hw _ (wm 34 rfl)) (hw _ (wm 35 rfl)) (hw _ (wm 2 rfl)) (hw _ (wm 36 rfl)) (by decide) eh92 [.int y1] pd8 rfl (fr := 0) (lo := 0) (rm8 l Z a0 hw [] y1 T89.heap n0 Zz) (by rw [hml]; rfl) 0 rfl (Nat.le_of_eq rfl) (hb hby at_228) (by decide) (by decide) (by decide) (by decide) (fun T93 rv93 X93 eh93 qc93 => ?_)
      obtain ⟨k1, rfl, hk1⟩ := qc93
      show own_Go p.tables e below _ (T93.setTop (mkF m 231 (Array.mk [zI ln, zI xa, zI xb, zI xc, zI xd, zI 4, zI y0, zI y1, zI y2, zI y3, zA so, zU]) [.int k1]))
      rcases hk1 with hk1 | hk1
      · skip
        obtain ⟨rfl, hk1⟩ := hk1
        show own_Go p.tables e below _ (T93.setTop (mkF m 231 (Array.mk [zI ln, zI xa, zI xb, zI xc, zI xd, zI 4, zI y0, zI y1, zI y2, zI y3, zA so, zU]) [.int 1]))
        refine own_blk dec0 seq0 hby hx hZ hown hK hF 2 [false] [] X93 eh93 ?_
        show (¬ (((1 : Int32)).toInt = 0)) ∧ own_Aft X93 T89.heap _ 236 [zI ln, zI xa, zI xb, zI xc, zI xd, zI 4, zI y0, zI y1, zI y2, zI y3, zA so, zU] [.int y2]
        refine ⟨by decide, fun T94 X94 eh94 => ?_⟩
        refine own_callSP X94 hx hZ hown (hw _ (wm 34 rfl)) (hw _ (wm 35 rfl)) (hw _ (wm 2 rfl)) (hw _ (wm 36 rfl)) (by decide) eh94 [.int y2] pd8 rfl (fr := 0) (lo := 0) (rm8 l Z a0 hw [] y2 T89.heap n0 Zz) (by rw [hml]; rfl) 0 rfl (Nat.le_of_eq rfl) (hb hby at_236) (by decide) (by decide) (by decide) (by decide) (fun T95 rv95 X95 eh95 qc95 => ?_)
        obtain ⟨k2, rfl, hk2⟩ := qc95
        show own_Go p.tables e below _ (T95.setTop (mkF m 239 (Array.mk [zI ln, zI xa, zI xb, zI xc, zI xd, zI 4, zI y0, zI y1, zI y2, zI y3, zA so, zU]) [.int k2]))
        rcases hk2 with hk2 | hk2
        · skip
          obtain ⟨rfl, hk2⟩ := hk2
          show own_Go p.tables e below _ (T95.setTop (mkF m 239 (Array.mk [zI ln, zI xa, zI xb, zI xc, zI xd, zI 4, zI y0, zI y1, zI y2, zI y3, zA so, zU]) [.int 1]))
          refine own_blk dec0 seq0 hby hx hZ hown hK hF 2 [false] [] X95 eh95 ?_
          show (¬ (((1 : Int32)).toInt = 0)) ∧ own_Aft X95 T89.heap _ 244 [zI ln, zI xa, zI xb, zI xc, zI xd, zI 4, zI y0, zI y1, zI y2, zI y3, zA so, zU] [.int y3]
          refine ⟨by decide, fun T96 X96 eh96 => ?_⟩
          refine own_callSP X96 hx hZ hown (hw _ (wm 34 rfl)) (hw _ (wm 35 rfl)) (hw _ (wm 2 rfl)) (hw _ (wm 36 rfl)) (by decide) eh96 [.int y3] pd8 rfl (fr := 0) (lo := 0) (rm8 l Z a0 hw [] y3 T89.heap n0 Zz) (by rw [hml]; rfl) 0 rfl (Nat.le_of_eq rfl) (hb hby at_244) (by decide) (by decide) (by decide) (by decide) (fun T97 rv97 X97 eh97 qc97 => ?_)
          obtain ⟨k3, rfl, hk3⟩ := qc97
          show own_Go p.tables e below _ (T97.setTop (mkF m 247 (Array.mk [zI ln, zI xa, zI xb, zI xc, zI xd, zI 4, zI y0, zI y1, zI y2, zI y3, zA so, zU]) [.int k3]))
          rcases hk3 with hk3 | hk3
          · skip
            obtain ⟨rfl, hk3⟩ := hk3
            show own_Go p.tables e below _ (T97.setTop (mkF m 247 (Array.mk [zI ln, zI xa, zI xb, zI xc, zI xd, zI 4, zI y0, zI y1, zI y2, zI y3, zA so, zU]) [.int 1]))
            refine own_blk dec0 seq0 hby hx hZ hown hK hF 5 [false] [] X97 eh97 ?_
            show (¬ (((1 : Int32)).toInt = 0)) ∧ own_Aft X97 T89.heap _ 259 [zI ln, zI xa, zI xb, zI xc, zI xd, zI 4, zI y0, zI y1, zI y2, zI y3, zA so, zI 1] [.ref so]
            refine ⟨by decide, fun T98 X98 eh98 => ?_⟩
            refine own_callSP X98 hx hZ hown (hw _ (wm 37 rfl)) (hw _ (wm 38 rfl)) (hw _ (wm 39 rfl)) (hw _ (wm 40 rfl)) (by decide) eh98 [.ref so] pd9 rfl (fr := 4) (lo := 72) (rm9_4 l Z a0 hw [] so ba zc y0.toInt8.toInt32 y1.toInt8.toInt32 y2.toInt8.toInt32 y3.toInt8.toInt32 T89.heap n0 Zz (S0.ext Od.2) zn EX F1 F2 Ab) (by rw [hml]; rfl) 0 rfl (Nat.le_of_eq rfl) (hb hby at_259) (by decide) (by decide) (by decide) (by decide) (fun T99 rv99 X99 eh99 qc99 => ?_)
            obtain ⟨got, rfl, hg⟩ := qc99
            show own_Go p.tables e below _ (T99.setTop (mkF m 262 (Array.mk [zI ln, zI xa, zI xb, zI xc, zI xd, zI 4, zI y0, zI y1, zI y2, zI y3, zA so, zI 1]) [.int got]))
            simp only [ne_eq, B0, D0, B1, D1, B2, D2, B3, D3] at hg
            clear B0 D0 B1 D1 B2 D2 B3 D3
            have e0_ : (0 : Int32).toInt = 0 := rfl
            have e1_ : (1 : Int32).toInt = 1 := rfl
            have hgt : got.toInt = ((1 : Int32)).toInt := by rcases hg with ⟨rfl, hg⟩ | ⟨rfl, hg⟩ <;> first | rfl | (exfalso; omega)
            refine own_blk dec0 seq0 hby hx hZ hown hK hF 4 [false] [] X99 eh99 ?_
            show (¬ ((got).toInt ≠ ((1 : Int32)).toInt)) ∧ own_Aft X99 T89.heap _ 272 [zI ln, zI xa, zI xb, zI xc, zI xd, zI 4, zI y0, zI y1, zI y2, zI y3, zA so, zI 1] [.int 1]
            refine ⟨by omega, fun T100 X100 eh100 => ?_⟩
            exact own_ret X100 hx hlk eh100 hret (by first | rfl | decide) (Or.inl ⟨rfl, by simp, _, rfl⟩) (hb hby at_272) (by decide) (by decide) (⟨rfl, N1_⟩)
          · skip
            obtain ⟨rfl, hk3⟩ := hk3
            show own_Go p.tables e below _ (T97.setTop (mkF m 247 (Array.mk [zI ln, zI xa, zI xb, zI xc, zI xd, zI 4, zI y0, zI y1, zI y2, zI y3, zA so, zU]) [.int 0]))
            refine own_blk dec0 seq0 hby hx hZ hown hK hF 4 [true] [] X97 eh97 ?_
            show (((0 : Int32)).toInt = 0) ∧ own_Aft X97 T89.heap _ 259 [zI ln, zI xa, zI xb, zI xc, zI xd, zI 4, zI y0, zI y1, zI y2, zI y3, zA so, zI 0] [.ref so]
            refine ⟨by decide, fun T101 X101 eh101 => ?_⟩
            refine own_callSP X101 hx hZ hown (hw _ (wm 37 rfl)) (hw _ (wm 38 rfl)) (hw _ (wm 39 rfl)) (hw _ (wm 40 rfl)) (by decide) eh101 [.ref so] pd9 rfl (fr := 4) (lo := 72) (rm9_4 l Z a0 hw [] so ba zc y0.toInt8.toInt32 y1.toInt8.toInt32 y2.toInt8.toInt32 y3.toInt8.toInt32 T89.heap n0 Zz (S0.ext Od.2) zn EX F1 F2 Ab) (by rw [hml]; rfl) 0 rfl (Nat.le_of_eq rfl) (hb hby at_259) (by decide) (by decide) (by decide) (by decide) (fun T102 rv102 X102 eh102 qc102 => ?_)
            obtain ⟨got, rfl, hg⟩ := qc102
            show own_Go p.tables e below _ (T102.setTop (mkF m 262 (Array.mk [zI ln, zI xa, zI xb, zI xc, zI xd, zI 4, zI y0, zI y1, zI y2, zI y3, zA so, zI 0]) [.int got]))
            simp only [ne_eq, B0, D0, B1, D1, B2, D2, B3, D3] at hg
            clear B0 D0 B1 D1 B2 D2 B3 D3
            have e0_ : (0 : Int32).toInt = 0 := rfl
            have e1_ : (1 : Int32).toInt = 1 := rfl
            have hgt : got.toInt = ((0 : Int32)).toInt := by rcases hg with ⟨rfl, hg⟩ | ⟨rfl, hg⟩ <;> first | rfl | (exfalso; omega)
            refine own_blk dec0 seq0 hby hx hZ hown hK hF 4 [false] [] X102 eh102 ?_
            show (¬ ((got).toInt ≠ ((0 : Int32)).toInt)) ∧ own_Aft X102 T89.heap _ 272 [zI ln, zI xa, zI xb, zI xc, zI xd, zI 4, zI y0, zI y1, zI y2, zI y3, zA so, zI 0] [.int 1]
            refine ⟨by omega, fun T103 X103 eh103 => ?_⟩
            exact own_ret X103 hx hlk eh103 hret (by first | rfl | decide) (Or.inl ⟨rfl, by simp, _, rfl⟩) (hb hby at_272) (by decide) (by decide) (⟨rfl, N1_⟩)
        · skip
          obtain ⟨rfl, hk2⟩ := hk2
          show own_Go p.tables e below _ (T95.setTop (mkF m 239 (Array.mk [zI ln, zI xa, zI xb, zI xc, zI xd, zI 4, zI y0, zI y1, zI y2, zI y3, zA so, zU]) [.int 0]))
          refine own_blk dec0 seq0 hby hx hZ hown hK hF 4 [true] [] X95 eh95 ?_
          show (((0 : Int32)).toInt = 0) ∧ own_Aft X95 T89.heap _ 259 [zI ln, zI xa, zI xb, zI xc, zI xd, zI 4, zI y0, zI y1, zI y2, zI y3, zA so, zI 0] [.ref so]
          refine ⟨by decide, fun T104 X104 eh104 => ?_⟩
          refine own_callSP X104 hx hZ hown (hw _ (wm 37 rfl)) (hw _ (wm 38 rfl)) (hw _ (wm 39 rfl)) (hw _ (wm 40 rfl)) (by decide) eh104 [.ref so] pd9 rfl (fr := 4) (lo := 72) (rm9_4 l Z a0 hw [] so ba zc y0.toInt8.toInt32 y1.toInt8.toInt32 y2.toInt8.toInt32 y3.toInt8.toInt32 T89.heap n0 Zz (S0.ext Od.2) zn EX F1 F2 Ab) (by rw [hml]; rfl) 0 rfl (Nat.le_of_eq rfl) (hb hby at_259) (by decide) (by decide) (by decide) (by decide) (fun T105 rv105 X105 eh105 qc105 => ?_)
          obtain ⟨got, rfl, hg⟩ := qc105
          show own_Go p.tables e below _ (T105.setTop (mkF m 262 (Array.mk [zI ln, zI xa, zI xb, zI xc, zI xd, zI 4, zI y0, zI y1, zI y2, zI y3, zA so, zI 0]) [.int got]))
          simp only [ne_eq, B0, D0, B1, D1, B2, D2, B3, D3] at hg
          clear B0 D0 B1 D1 B2 D2 B3 D3
          have e0_ : (0 : Int32).toInt = 0 := rfl
          have e1_ : (1 : Int32).toInt = 1 := rfl
          have hgt : got.toInt = ((0 : Int32)).toInt := by rcases hg with ⟨rfl, hg⟩ | ⟨rfl, hg⟩ <;> first | rfl | (exfalso; omega)
          refine own_blk dec0 seq0 hby hx hZ hown hK hF 4 [false] [] X105 eh105 ?_
          show (¬ ((got).toInt ≠ ((0 : Int32)).toInt)) ∧ own_Aft X105 T89.heap _ 272 [zI ln, zI xa, zI xb, zI xc, zI xd, zI 4, zI y0, zI y1, zI y2, zI y3, zA so, zI 0] [.int 1]
          refine ⟨by omega, fun T106 X106 eh106 => ?_⟩
          exact own_ret X106 hx hlk eh106 hret (by first | rfl | decide) (Or.inl ⟨rfl, by simp, _, rfl⟩) (hb hby at_272) (by decide) (by decide) (⟨rfl, N1_⟩)
      · skip
        obtain ⟨rfl, hk1⟩ := hk1
        show own_Go p.tables e below _ (T93.setTop (mkF m 231 (Array.mk [zI ln, zI xa, zI xb, zI xc, zI xd, zI 4, zI y0, zI y1, zI y2, zI y3, zA so, zU]) [.int 0]))
        refine own_blk dec0 seq0 hby hx hZ hown hK hF 4 [true] [] X93 eh93 ?_
        show (((0 : Int32)).toInt = 0) ∧ own_Aft X93 T89.heap _ 259 [zI ln, zI xa, zI xb, zI xc, zI xd, zI 4, zI y0, zI y1, zI y2, zI y3, zA so, zI 0] [.ref so]
        refine ⟨by decide, fun T107 X107 eh107 => ?_⟩
        refine own_callSP X107 hx hZ hown (hw _ (wm 37 rfl)) (hw _ (wm 38 rfl)) (hw _ (wm 39 rfl)) (hw _ (wm 40 rfl)) (by decide) eh107 [.ref so] pd9 rfl (fr := 4) (lo := 72) (rm9_4 l Z a0 hw [] so ba zc y0.toInt8.toInt32 y1.toInt8.toInt32 y2.toInt8.toInt32 y3.toInt8.toInt32 T89.heap n0 Zz (S0.ext Od.2) zn EX F1 F2 Ab) (by rw [hml]; rfl) 0 rfl (Nat.le_of_eq rfl) (hb hby at_259) (by decide) (by decide) (by decide) (by decide) (fun T108 rv108 X108 eh108 qc108 => ?_)
        obtain ⟨got, rfl, hg⟩ := qc108
        show own_Go p.tables e below _ (T108.setTop (mkF m 262 (Array.mk [zI ln, zI xa, zI xb, zI xc, zI xd, zI 4, zI y0, zI y1, zI y2, zI y3, zA so, zI 0]) [.int got]))
        simp only [ne_eq, B0, D0, B1, D1, B2, D2, B3, D3] at hg
        clear B0 D0 B1 D1 B2 D2 B3 D3
        have e0_ : (0 : Int32).toInt = 0 := rfl
        have e1_ : (1 : Int32).toInt = 1 := rfl
        have hgt : got.toInt = ((0 : Int32)).toInt := by rcases hg with ⟨rfl, hg⟩ | ⟨rfl, hg⟩ <;> first | rfl | (exfalso; omega)
        refine own_blk dec0 seq0 hby hx hZ hown hK hF 4 [false] [] X108 eh108 ?_
        show (¬ ((got).toInt ≠ ((0 : Int32)).toInt)) ∧ own_Aft X108 T89.heap _ 272 [zI ln, zI xa, zI xb, zI xc, zI xd, zI 4, zI y0, zI y1, zI y2, zI y3, zA so, zI 0] [.int 1]
        refine ⟨by omega, fun T109 X109 eh109 => ?_⟩
        exact own_ret X109 hx hlk eh109 hret (by first | rfl | decide) (Or.inl ⟨rfl, by simp, _, rfl⟩) (hb hby at_272) (by decide) (by decide) (⟨rfl, N1_⟩)
    · skip
      obtain ⟨rfl, hk0⟩ := hk0
      show own_Go p.tables e below _ (T91.setTop (mkF m 223 (Array.mk [zI ln, zI xa, zI xb, zI xc, zI xd, zI 4, zI y0, zI y1, zI y2, zI y3, zA so, zU]) [.int 0]))
      refine own_blk dec0 seq0 hby hx hZ hown hK hF 4 [true] [] X91 eh91 ?_
      show (((0 : Int32)).toInt = 0) ∧ own_Aft X91 T89.heap _ 259 [zI ln, zI xa, zI xb, zI xc, zI xd, zI 4, zI y0, zI y1, zI y2, zI y3, zA so, zI 0] [.ref so]
      refine ⟨by decide, fun T110 X110 eh110 => ?_⟩
      refine own_callSP X110 hx hZ hown (hw _ (wm 37 rfl)) (hw _ (wm 38 rfl)) (hw _ (wm 39 rfl)) (hw _ (wm 40 rfl)) (by decide) eh110 [.ref so] pd9 rfl (fr := 4) (lo := 72) (rm9_4 l Z a0 hw [] so ba zc y0.toInt8.toInt32 y1.toInt8.toInt32 y2.toInt8.toInt32 y3.toInt8.toInt32 T89.heap n0 Zz (S0.ext Od.2) zn EX F1 F2 Ab) (by rw [hml]; rfl) 0 rfl (Nat.le_of_eq rfl) (hb hby at_259) (by decide) (by decide) (by decide) (by decide) (fun T111 rv111 X111 eh111 qc111 => ?_)
      obtain ⟨got, rfl, hg⟩ := qc111
      show own_Go p.tables e below _ (T111.setTop (mkF m 262 (Array.mk [zI ln, zI xa, zI xb, zI xc, zI xd, zI 4, zI y0, zI y1, zI y2, zI y3, zA so, zI 0]) [.int got]))
      simp only [ne_eq, B0, D0, B1, D1, B2, D2, B3, D3] at hg
      clear B0 D0 B1 D1 B2 D2 B3 D3
      have e0_ : (0 : Int32).toInt = 0 := rfl
      have e1_ : (1 : Int32).toInt = 1 := rfl
      have hgt : got.toInt = ((0 : Int32)).toInt := by rcases hg with ⟨rfl, hg⟩ | ⟨rfl, hg⟩ <;> first | rfl | (exfalso; omega)
      refine own_blk dec0 seq0 hby hx hZ hown hK hF 4 [false] [] X111 eh111 ?_
      show (¬ ((got).toInt ≠ ((0 : Int32)).toInt)) ∧ own_Aft X111 T89.heap _ 272 [zI ln, zI xa, zI xb, zI xc, zI xd, zI 4, zI y0, zI y1, zI y2, zI y3, zA so, zI 0] [.int 1]
      refine ⟨by omega, fun T112 X112 eh112 => ?_⟩
      exact own_ret X112 hx hlk eh112 hret (by first | rfl | decide) (Or.inl ⟨rfl, by simp, _, rfl⟩) (hb hby at_272) (by decide) (by decide) (⟨rfl, N1_⟩)
set_option maxRecDepth 65536 in
set_option maxHeartbeats 40000000 in
theorem comes_1 {Post : Tables → Env → Array Value → State → Outcome → State → Prop} (hpost : ∀ tb e args s v u, (limb_1_1.after args s (.returned v) u = true ∧ limb_1_2.after args s (.returned v) u = true ∧ True) → FrameEnd s (.returned v) u (Jvm.fieldLocs frame_1_writes args s ++ Jvm.arrayLocs frame_1_arrays args s ++ Jvm.staticLocs frame_1_statics s) 16 128 → Post tb e args s (.returned v) u) :
    ArmFor flags0 classFile x code maxLocals ret World_1 tables_1 room_1 Calls_1 rest_1 Pre_1 Post := by
  intro l hfl _ _ p e ha hc hk s m args below hf hA hF happ hP
  obtain ⟨hcalls, hrest, hpre⟩ := hP
  obtain ⟨-, -, -, hnamed, -, -, -, hat⟩ := (Spec.applies_iff hf).mp happ
  obtain ⟨hg, hn⟩ := and_e (Cond.before_iff.mp (show (Jvm.Cond.and given_1 narrow_1).before args s = true from hpre))
  obtain ⟨h1, g0⟩ := and_e hg
  obtain ⟨t0, g1⟩ := and_e g0
  obtain ⟨t1, g2⟩ := and_e g1
  obtain ⟨t2, g3⟩ := and_e g2
  obtain ⟨t3, g4⟩ := and_e g3
  obtain ⟨w0, w1, w2, w3, w4, rfl⟩ : ∃ w0 w1 w2 w3 w4 : Value, args = #[w0, w1, w2, w3, w4] := by
    have hs : args.size = 5 := by simpa [Cond.value, given_1] using h1
    obtain ⟨L⟩ := args
    match L, hs with
    | [w0, w1, w2, w3, w4], _ => exact ⟨w0, w1, w2, w3, w4, rfl⟩
  have hw := fun d (hd : d ∈ tables_1) => atoms_spec (ws := Jvm.Cond.code x code maxLocals ret :: tables_1) hat d (List.mem_cons_of_mem _ hd)
  obtain ⟨i0, e0⟩ := is_v t0
  obtain rfl : w0 = (.int i0) := Option.some.inj e0
  obtain ⟨i1, e1⟩ := is_v t1
  obtain rfl : w1 = (.int i1) := Option.some.inj e1
  obtain ⟨i2, e2⟩ := is_v t2
  obtain rfl : w2 = (.int i2) := Option.some.inj e2
  obtain ⟨i3, e3⟩ := is_v t3
  obtain rfl : w3 = (.int i3) := Option.some.inj e3
  obtain ⟨i4, e4⟩ := is_v g4
  obtain rfl : w4 = (.int i4) := Option.some.inj e4
  obtain ⟨hsets, hown0⟩ := atoms_of _ (rest_1_c_eq ▸ (show rest_1_c.before _ s = true from hrest))
  have n5 := not_v (Cond.before_iff.mp (hsets _ (List.mem_of_getElem? (i := 2) rfl)))
  obtain ⟨i11, e10⟩ := is_v (Cond.before_iff.mp (hsets _ (List.mem_of_getElem? (i := 1) rfl)))
  have S12 : Sta s s.heap "java/lang/String" "COMPACT_STRINGS" "Z" (.int i11) := Sta.start e10 (Or.inl (hsets _ (List.mem_of_getElem? (i := 0) rfl)))
  have c17 : ¬ (i11 = (0 : Int32)) := gotF (Cond.eq_ints e10 (Term.int_eval (0))) n5
  obtain ⟨n, o, h1, h2, h3, hfin⟩ := rm0 l s _ hw tables_1 i0 i1 i2 i3 i4 i11 s.heap s.heap.size (Nat.le_refl _) (Old.start s) S12 c17 p e ha hc hk s m _ below hf ((Spec.applies_iff_loose hf).mp happ).1 ⟨rfl, State.Warmed39.refl s, rfl⟩ trivial
  obtain ⟨_, L, rfl, ⟨rfl, N⟩, hq⟩ := hfin
  refine ⟨n, _, h1, h2, h3, hpost _ _ _ _ _ _ ⟨Cond.after_iff.mpr rfl, Cond.after_iff.mpr (eq_i res_at (Term.int_eval (1)) rfl), trivial⟩ ⟨hq.1, hq.2.1, (hq.2.2.sift fun y hy => Or.inr (N y hy)).mono (by decide) (by decide)⟩⟩
theorem main_1_1 : Claimed_1_1 := comes_1 fun _ _ _ _ _ _ h hF => ⟨h.1, hF⟩
theorem main_1_2 : Claimed_1_2 := comes_1 fun _ _ _ _ _ _ h hF => ⟨h.2.1, hF⟩
end Jvm.Pilot.@@N@@
namespace Jvm.Pilot.@@N@@
open Jvm Jvm.ClassFile Sem Op Lib Jvm.Free Jvm.Stand Jvm.Pilot.@@N@@.Jvm.D
/-! MADE BY PROGRAM (witnessworld.py) out of the Statement's table words and the real class files: 22 classes; the members and pool entries that the words name. The judged class is class 1, her method 3. -/
namespace start1
open Jvm.ClassFile
def u (s : String) : CpInfo := .utf8 (stringToUtf16 s)
/-- a pool by its gaps: so many unusable entries, then the entry; so many at the end -/
def gap : Nat → List CpInfo → List CpInfo
  | 0, r => r
  | n + 1, r => .unusable :: gap n r
def poolList (es : List (Nat × CpInfo)) (last : Nat) : List CpInfo := es.foldr (fun e r => gap e.1 (e.2 :: r)) (gap last [])
def pool (es : List (Nat × CpInfo)) (last : Nat) : Array CpInfo := ⟨poolList es last⟩
def fileOf (pool : Array CpInfo) (this : Nat) (attrs : Array Attribute := #[]) (ms : Array MethodInfo := #[]) (fl : Nat := 33) (sup : Nat := 0) (ifs : Array Nat := #[]) (fds : Array FieldInfo := #[]) : ClassFile where
  minorVersion := 0
  majorVersion := 65
  constantPool := pool
  accessFlags := fl
  thisClass := this
  superClass := sup
  interfaces := ifs
  fields := fds
  methods := ms
  attributes := attrs
def plain (name : String) (sup : Option ClassId) : Class where
  name := name
  kind := .ordinary
  loader := none
  accessFlags := 33
  super := sup
  interfaces := #[]
  cf := none
  fields := #[]
  methods := #[]
  instanceTypes := #[]
  staticTypes := #[]
  resolved := #[]
  callSites := []
  init := .initialized
  statics := none
  mirror := none

def pool0 : Array CpInfo := pool [(5, u "<init>"), (0, u "()V"), (1, .class_ 10), (1, u "java/lang/Object")] 113

def k0c0 : Code := { maxStack := 0, maxLocals := 1, code := object_method_1_code, exceptionTable := #[], attributes := #[] }
def k0m0 : Method := { name := "<init>", desc := "()V", sig := { parameters := [], returnType := none }, accessFlags := 1, code := some k0c0 }
/-- java/lang/Object -/
def k0 : Class := { plain "java/lang/Object" none with
  accessFlags := 33
  interfaces := #[]
  cf := some (fileOf pool0 8 #[] #[{ accessFlags := 1, nameIndex := 5, descriptorIndex := 6, attributes := #[] }] 33 0 #[] #[])
  fields := #[]
  methods := #[k0m0]
  instanceTypes := #[]
  staticTypes := #[]
  resolved := Array.replicate 124 none
  statics := none }

def pool1 : Array CpInfo := pool [(2, .class_ 4), (1, u "java/lang/Object"), (0, u "<init>"), (0, u "()V"), (0, .methodref 8 9), (0, .class_ 10), (0, .nameAndType 11 12), (0, u "com/example/kartei/kartei/directory/KimCodesIsAppTagCodePinLaw"), (0, u "ch"), (0, u "(I)C"), (0, .class_ 14), (0, u "java/lang/String"), (0, .methodref 13 16), (0, .nameAndType 5 17), (0, u "([C)V"), (0, .methodref 8 19), (0, .nameAndType 20 21), (0, u "ok"), (0, u "(C)Z"), (0, .methodref 23 24), (0, .class_ 25), (0, .nameAndType 26 27), (0, u "com/example/kartei/kartei/directory/KimCodes"), (0, u "isAppTagCode"), (0, u "(Ljava/lang/String;)Z"), (3, u "law"), (0, u "(IIIII)Z")] 2

def k1m0 : Method := { name := "<init>", desc := "()V", sig := { parameters := [], returnType := none }, accessFlags := 1, code := none }
def k1c1 : Code := { maxStack := 2, maxLocals := 2, code := method_2_code, exceptionTable := #[], attributes := #[] }
def k1m1 : Method := { name := "ch", desc := "(I)C", sig := { parameters := [.int], returnType := some .char }, accessFlags := 10, code := some k1c1 }
def k1c2 : Code := { maxStack := 2, maxLocals := 1, code := method_3_code, exceptionTable := #[], attributes := #[] }
def k1m2 : Method := { name := "ok", desc := "(C)Z", sig := { parameters := [.char], returnType := some .boolean }, accessFlags := 10, code := some k1c2 }
def k1c3 : Code := { maxStack := 6, maxLocals := 12, code := code, exceptionTable := #[], attributes := #[] }
def k1m3 : Method := { name := "law", desc := "(IIIII)Z", sig := { parameters := [.int, .int, .int, .int, .int], returnType := some .boolean }, accessFlags := 9, code := some k1c3 }
/-- com/example/kartei/kartei/directory/KimCodesIsAppTagCodePinLaw -/
def k1 : Class := { plain "com/example/kartei/kartei/directory/KimCodesIsAppTagCodePinLaw" (some 0) with
  accessFlags := 49
  interfaces := #[]
  cf := some (fileOf pool1 8 #[] #[{ accessFlags := 1, nameIndex := 5, descriptorIndex := 6, attributes := #[] }, { accessFlags := 10, nameIndex := 11, descriptorIndex := 12, attributes := #[] }, { accessFlags := 10, nameIndex := 20, descriptorIndex := 21, attributes := #[] }, { accessFlags := 9, nameIndex := 31, descriptorIndex := 32, attributes := #[] }] 49 2 #[] #[])
  fields := #[]
  methods := #[k1m0, k1m1, k1m2, k1m3]
  instanceTypes := #[]
  staticTypes := #[]
  resolved := Array.replicate 35 none
  statics := none }

def pool2 : Array CpInfo := pool [(1, .class_ 2), (0, u "java/io/Serializable"), (0, .class_ 4), (0, u "java/lang/Object")] 2

/-- java/io/Serializable -/
def k2 : Class := { plain "java/io/Serializable" (some 0) with
  accessFlags := 1537
  interfaces := #[]
  cf := some (fileOf pool2 1 #[] #[] 1537 3 #[] #[])
  fields := #[]
  methods := #[]
  instanceTypes := #[]
  staticTypes := #[]
  resolved := Array.replicate 7 none
  statics := none }

def pool3 : Array CpInfo := pool [(1, .class_ 2), (0, u "java/lang/Comparable"), (0, .class_ 4), (0, u "java/lang/Object")] 7

/-- java/lang/Comparable -/
def k3 : Class := { plain "java/lang/Comparable" (some 0) with
  accessFlags := 1537
  interfaces := #[]
  cf := some (fileOf pool3 1 #[] #[] 1537 3 #[] #[])
  fields := #[]
  methods := #[]
  instanceTypes := #[]
  staticTypes := #[]
  resolved := Array.replicate 12 none
  statics := none }

def pool4 : Array CpInfo := pool [(2, .class_ 4), (1, u "java/lang/CharSequence"), (42, .class_ 48), (0, u "java/lang/CharSequence$1CodePointIterator"), (10, .class_ 60), (0, u "java/lang/CharSequence$1CharIterator"), (5, .class_ 67), (0, u "java/lang/Object")] 63

/-- java/lang/CharSequence -/
def k4 : Class := { plain "java/lang/CharSequence" (some 0) with
  accessFlags := 1537
  interfaces := #[]
  cf := some (fileOf pool4 2 #[.nestMembers #[47, 59]] #[] 1537 66 #[] #[])
  fields := #[]
  methods := #[]
  instanceTypes := #[]
  staticTypes := #[]
  resolved := Array.replicate 131 none
  statics := none }

def pool5 : Array CpInfo := pool [(1, .class_ 2), (0, u "java/lang/constant/Constable"), (0, .class_ 4), (0, u "java/lang/Object")] 6

/-- java/lang/constant/Constable -/
def k5 : Class := { plain "java/lang/constant/Constable" (some 0) with
  accessFlags := 1537
  interfaces := #[]
  cf := some (fileOf pool5 1 #[] #[] 1537 3 #[] #[])
  fields := #[]
  methods := #[]
  instanceTypes := #[]
  staticTypes := #[]
  resolved := Array.replicate 11 none
  statics := none }

def pool6 : Array CpInfo := pool [(1, .class_ 2), (0, u "java/lang/constant/ConstantDesc"), (0, .class_ 4), (0, u "java/lang/Object")] 32

/-- java/lang/constant/ConstantDesc -/
def k6 : Class := { plain "java/lang/constant/ConstantDesc" (some 0) with
  accessFlags := 1537
  interfaces := #[]
  cf := some (fileOf pool6 1 #[] #[] 1537 3 #[] #[])
  fields := #[]
  methods := #[]
  instanceTypes := #[]
  staticTypes := #[]
  resolved := Array.replicate 37 none
  statics := none }

def pool7 : Array CpInfo := pool [(1, .methodref 2 3), (0, .class_ 4), (0, .nameAndType 5 6), (0, u "java/lang/Object"), (0, u "<init>"), (0, u "()V"), (2, .fieldref 10 11), (0, .class_ 12), (0, .nameAndType 13 14), (0, u "java/lang/String"), (0, u "value"), (0, u "[B"), (0, .fieldref 10 16), (0, .nameAndType 17 18), (0, u "coder"), (0, u "B"), (2, u "hash"), (0, u "I"), (2, u "hashIsZero"), (0, u "Z"), (0, .methodref 10 28), (0, .nameAndType 5 29), (0, u "([CIILjava/lang/Void;)V"), (8, .fieldref 10 39), (0, .nameAndType 40 26), (0, u "COMPACT_STRINGS"), (1, .class_ 44), (1, u "java/lang/StringUTF16"), (0, u "compress"), (1, .methodref 42 48), (0, .nameAndType 49 50), (0, u "coderFromArrayLen"), (0, u "([BI)B"), (56, .class_ 109), (1, u "java/lang/StringLatin1"), (32, u "()Z"), (34, .methodref 42 178), (0, .nameAndType 45 179), (0, u "([CII)[B"), (154, u "()I"), (0, .methodref 10 336), (0, .nameAndType 17 337), (0, u "()B"), (154, .methodref 10 493), (0, .nameAndType 494 142), (0, u "isLatin1"), (10, .methodref 10 506), (0, .nameAndType 507 334), (0, u "length"), (67, .class_ 576), (0, u "java/lang/CharSequence"), (22, u "CASE_INSENSITIVE_ORDER"), (0, u "Ljava/util/Comparator;"), (32, .methodref 10 634), (0, .nameAndType 635 636), (0, u "indexOf"), (0, u "(II)I"), (0, .methodref 107 638), (0, .nameAndType 635 639), (0, u "([BIII)I"), (125, u "(I)I"), (244, u "([C)V"), (90, u "serialPersistentFields"), (0, u "[Ljava/io/ObjectStreamField;"), (0, .class_ 1104), (0, u "java/lang/String$CaseInsensitiveComparator"), (1, .class_ 1107), (0, u "java/io/Serializable"), (0, .class_ 1109), (0, u "java/lang/Comparable"), (0, .class_ 1111), (0, u "java/lang/constant/Constable"), (0, .class_ 1113), (0, u "java/lang/constant/ConstantDesc"), (2, u "serialVersionUID"), (0, u "J"), (3, u "REPL"), (0, u "C"), (2, u "LATIN1"), (1, u "UTF16")] 323

def k7m0 : Method := { name := "<init>", desc := "()V", sig := { parameters := [], returnType := none }, accessFlags := 1, code := none }
def k7c1 : Code := { maxStack := 5, maxLocals := 2, code := jdk_42_method_3_code, exceptionTable := #[], attributes := #[] }
def k7m1 : Method := { name := "<init>", desc := "([C)V", sig := { parameters := [(.array .char)], returnType := none }, accessFlags := 1, code := some k7c1 }
def k7c2 : Code := { maxStack := 2, maxLocals := 1, code := jdk_42_method_54_code, exceptionTable := #[], attributes := #[] }
def k7m2 : Method := { name := "length", desc := "()I", sig := { parameters := [], returnType := some .int }, accessFlags := 1, code := some k7c2 }
def k7c3 : Code := { maxStack := 3, maxLocals := 2, code := jdk_42_method_79_code, exceptionTable := #[], attributes := #[] }
def k7m3 : Method := { name := "indexOf", desc := "(I)I", sig := { parameters := [.int], returnType := some .int }, accessFlags := 1, code := some k7c3 }
def k7c4 : Code := { maxStack := 4, maxLocals := 3, code := jdk_42_method_80_code, exceptionTable := #[], attributes := #[] }
def k7m4 : Method := { name := "indexOf", desc := "(II)I", sig := { parameters := [.int, .int], returnType := some .int }, accessFlags := 1, code := some k7c4 }
def k7c5 : Code := { maxStack := 4, maxLocals := 6, code := jdk_42_method_149_code, exceptionTable := #[], attributes := #[] }
def k7m5 : Method := { name := "<init>", desc := "([CIILjava/lang/Void;)V", sig := { parameters := [(.array .char), .int, .int, (.object "java/lang/Void")], returnType := none }, accessFlags := 2, code := some k7c5 }
def k7c6 : Code := { maxStack := 1, maxLocals := 1, code := jdk_42_method_152_code, exceptionTable := #[], attributes := #[] }
def k7m6 : Method := { name := "coder", desc := "()B", sig := { parameters := [], returnType := some .byte }, accessFlags := 0, code := some k7c6 }
def k7c7 : Code := { maxStack := 1, maxLocals := 1, code := jdk_42_method_154_code, exceptionTable := #[], attributes := #[] }
def k7m7 : Method := { name := "isLatin1", desc := "()Z", sig := { parameters := [], returnType := some .boolean }, accessFlags := 0, code := some k7c7 }
/-- java/lang/String -/
def k7 : Class := { plain "java/lang/String" (some 0) with
  accessFlags := 49
  interfaces := #[2, 3, 4, 5, 6]
  cf := some (fileOf pool7 10 #[.nestMembers #[1103]] #[{ accessFlags := 1, nameIndex := 5, descriptorIndex := 6, attributes := #[] }, { accessFlags := 1, nameIndex := 5, descriptorIndex := 1010, attributes := #[] }, { accessFlags := 1, nameIndex := 507, descriptorIndex := 334, attributes := #[] }, { accessFlags := 1, nameIndex := 635, descriptorIndex := 765, attributes := #[] }, { accessFlags := 1, nameIndex := 635, descriptorIndex := 636, attributes := #[] }, { accessFlags := 2, nameIndex := 5, descriptorIndex := 29, attributes := #[] }, { accessFlags := 0, nameIndex := 17, descriptorIndex := 337, attributes := #[] }, { accessFlags := 0, nameIndex := 494, descriptorIndex := 142, attributes := #[] }] 49 2 #[1106, 1108, 575, 1110, 1112] #[{ accessFlags := 18, nameIndex := 13, descriptorIndex := 14, attributes := #[] }, { accessFlags := 18, nameIndex := 17, descriptorIndex := 18, attributes := #[] }, { accessFlags := 2, nameIndex := 21, descriptorIndex := 22, attributes := #[] }, { accessFlags := 2, nameIndex := 25, descriptorIndex := 26, attributes := #[] }, { accessFlags := 26, nameIndex := 1116, descriptorIndex := 1117, attributes := #[] }, { accessFlags := 24, nameIndex := 40, descriptorIndex := 26, attributes := #[] }, { accessFlags := 26, nameIndex := 1101, descriptorIndex := 1102, attributes := #[] }, { accessFlags := 26, nameIndex := 1121, descriptorIndex := 1122, attributes := #[] }, { accessFlags := 25, nameIndex := 599, descriptorIndex := 600, attributes := #[] }, { accessFlags := 24, nameIndex := 1125, descriptorIndex := 18, attributes := #[] }, { accessFlags := 24, nameIndex := 1127, descriptorIndex := 18, attributes := #[] }])
  fields := #[{ name := "value", type := (.array .byte), accessFlags := 18, slot := 0, constantValue := 0 }, { name := "coder", type := .byte, accessFlags := 18, slot := 1, constantValue := 0 }, { name := "hash", type := .int, accessFlags := 2, slot := 2, constantValue := 0 }, { name := "hashIsZero", type := .boolean, accessFlags := 2, slot := 3, constantValue := 0 }, { name := "serialVersionUID", type := .long, accessFlags := 26, slot := 0, constantValue := 0 }, { name := "COMPACT_STRINGS", type := .boolean, accessFlags := 24, slot := 1, constantValue := 0 }, { name := "serialPersistentFields", type := (.array (.object "java/io/ObjectStreamField")), accessFlags := 26, slot := 2, constantValue := 0 }, { name := "REPL", type := .char, accessFlags := 26, slot := 3, constantValue := 0 }, { name := "CASE_INSENSITIVE_ORDER", type := (.object "java/util/Comparator"), accessFlags := 25, slot := 4, constantValue := 0 }, { name := "LATIN1", type := .byte, accessFlags := 24, slot := 5, constantValue := 0 }, { name := "UTF16", type := .byte, accessFlags := 24, slot := 6, constantValue := 0 }]
  methods := #[k7m0, k7m1, k7m2, k7m3, k7m4, k7m5, k7m6, k7m7]
  instanceTypes := #[(.array .byte), .byte, .int, .boolean]
  staticTypes := #[.long, .boolean, (.array (.object "java/io/ObjectStreamField")), .char, (.object "java/util/Comparator"), .byte, .byte]
  resolved := Array.replicate 1451 none
  statics := some 0 }

def pool8 : Array CpInfo := pool [(6, .class_ 8), (1, u "java/lang/Object"), (0, u "<init>"), (0, u "()V"), (1, .class_ 14), (1, u "java/lang/StringUTF16"), (31, u "$assertionsDisabled"), (0, u "Z"), (13, u "HI_BYTE_SHIFT"), (0, u "I"), (2, u "LO_BYTE_SHIFT"), (49, .methodref 12 116), (0, .nameAndType 117 118), (0, u "compress"), (0, u "([CI[BII)I"), (3, u "([CII)[B"), (138, u "coderFromArrayLen"), (0, u "([BI)B"), (106, .class_ 371), (1, u "java/lang/StringUTF16$LinesSpliterator"), (58, u "MAX_LENGTH"), (196, .class_ 628), (0, u "java/lang/StringUTF16$CodePointsSpliterator"), (0, .class_ 630), (0, u "java/lang/StringUTF16$CharsSpliterator")] 4

def k8m0 : Method := { name := "<init>", desc := "()V", sig := { parameters := [], returnType := none }, accessFlags := 0, code := none }
def k8c1 : Code := { maxStack := 2, maxLocals := 2, code := jdk_52_method_15_code, exceptionTable := #[], attributes := #[] }
def k8m1 : Method := { name := "coderFromArrayLen", desc := "([BI)B", sig := { parameters := [(.array .byte), .int], returnType := some .byte }, accessFlags := 8, code := some k8c1 }
def k8c2 : Code := { maxStack := 5, maxLocals := 6, code := jdk_52_method_16_code, exceptionTable := #[], attributes := #[] }
def k8m2 : Method := { name := "compress", desc := "([CII)[B", sig := { parameters := [(.array .char), .int, .int], returnType := some (.array .byte) }, accessFlags := 9, code := some k8c2 }
def k8c3 : Code := { maxStack := 3, maxLocals := 7, code := jdk_52_method_21_code, exceptionTable := #[], attributes := #[] }
def k8m3 : Method := { name := "compress", desc := "([CI[BII)I", sig := { parameters := [(.array .char), .int, (.array .byte), .int, .int], returnType := some .int }, accessFlags := 9, code := some k8c3 }
/-- java/lang/StringUTF16 -/
def k8 : Class := { plain "java/lang/StringUTF16" (some 0) with
  accessFlags := 48
  interfaces := #[]
  cf := some (fileOf pool8 12 #[.nestMembers #[627, 629, 369]] #[{ accessFlags := 0, nameIndex := 9, descriptorIndex := 10, attributes := #[] }, { accessFlags := 8, nameIndex := 261, descriptorIndex := 262, attributes := #[] }, { accessFlags := 9, nameIndex := 117, descriptorIndex := 122, attributes := #[] }, { accessFlags := 9, nameIndex := 117, descriptorIndex := 118, attributes := #[] }] 48 6 #[] #[{ accessFlags := 26, nameIndex := 61, descriptorIndex := 62, attributes := #[] }, { accessFlags := 26, nameIndex := 65, descriptorIndex := 62, attributes := #[] }, { accessFlags := 24, nameIndex := 430, descriptorIndex := 62, attributes := #[] }, { accessFlags := 4120, nameIndex := 46, descriptorIndex := 47, attributes := #[] }])
  fields := #[{ name := "HI_BYTE_SHIFT", type := .int, accessFlags := 26, slot := 0, constantValue := 0 }, { name := "LO_BYTE_SHIFT", type := .int, accessFlags := 26, slot := 1, constantValue := 0 }, { name := "MAX_LENGTH", type := .int, accessFlags := 24, slot := 2, constantValue := 0 }, { name := "$assertionsDisabled", type := .boolean, accessFlags := 4120, slot := 3, constantValue := 0 }]
  methods := #[k8m0, k8m1, k8m2, k8m3]
  instanceTypes := #[]
  staticTypes := #[.int, .int, .int, .boolean]
  resolved := Array.replicate 635 none
  statics := none }

def pool9 : Array CpInfo := pool [(2, .class_ 4), (1, u "java/lang/Object"), (0, u "<init>"), (0, u "()V"), (0, .class_ 8), (0, u "java/lang/Record")] 13

def k9m0 : Method := { name := "<init>", desc := "()V", sig := { parameters := [], returnType := none }, accessFlags := 4, code := none }
/-- java/lang/Record -/
def k9 : Class := { plain "java/lang/Record" (some 0) with
  accessFlags := 1057
  interfaces := #[]
  cf := some (fileOf pool9 7 #[] #[{ accessFlags := 4, nameIndex := 5, descriptorIndex := 6, attributes := #[] }] 1057 2 #[] #[])
  fields := #[]
  methods := #[k9m0]
  instanceTypes := #[]
  staticTypes := #[]
  resolved := Array.replicate 22 none
  statics := none }

def pool10 : Array CpInfo := pool [(2, .class_ 4), (1, u "java/lang/Record"), (14, .class_ 21), (1, u "com/example/kartei/kartei/directory/KimCodes"), (0, u "versions"), (0, u "Ljava/util/Set;"), (2, u "appTags"), (0, .methodref 28 29), (0, .class_ 30), (0, .nameAndType 31 32), (0, u "java/lang/String"), (0, u "indexOf"), (0, u "(I)I"), (24, u "CODE_END"), (0, u "C"), (8, u "(Ljava/lang/String;)Z"), (3, u "isAppTagCode")] 25

def k10c0 : Code := { maxStack := 2, maxLocals := 1, code := prog_11_method_3_code, exceptionTable := #[], attributes := #[] }
def k10m0 : Method := { name := "isAppTagCode", desc := "(Ljava/lang/String;)Z", sig := { parameters := [(.object "java/lang/String")], returnType := some .boolean }, accessFlags := 9, code := some k10c0 }
/-- com/example/kartei/kartei/directory/KimCodes -/
def k10 : Class := { plain "com/example/kartei/kartei/directory/KimCodes" (some 9) with
  accessFlags := 49
  interfaces := #[]
  cf := some (fileOf pool10 19 #[] #[{ accessFlags := 9, nameIndex := 71, descriptorIndex := 67, attributes := #[] }] 49 2 #[] #[{ accessFlags := 18, nameIndex := 22, descriptorIndex := 23, attributes := #[] }, { accessFlags := 18, nameIndex := 26, descriptorIndex := 23, attributes := #[] }, { accessFlags := 26, nameIndex := 57, descriptorIndex := 58, attributes := #[] }])
  fields := #[{ name := "versions", type := (.object "java/util/Set"), accessFlags := 18, slot := 0, constantValue := 0 }, { name := "appTags", type := (.object "java/util/Set"), accessFlags := 18, slot := 1, constantValue := 0 }, { name := "CODE_END", type := .char, accessFlags := 26, slot := 0, constantValue := 0 }]
  methods := #[k10m0]
  instanceTypes := #[(.object "java/util/Set"), (.object "java/util/Set")]
  staticTypes := #[.char]
  resolved := Array.replicate 97 none
  statics := none }

def pool11 : Array CpInfo := pool [(4, .class_ 6), (1, u "java/lang/Object"), (0, u "<init>"), (0, u "()V"), (5, .class_ 16), (1, u "java/lang/StringLatin1"), (21, .methodref 39 40), (0, .class_ 41), (0, .nameAndType 42 43), (0, u "java/lang/Math"), (0, u "min"), (0, u "(II)I"), (44, .methodref 14 89), (0, .nameAndType 90 91), (0, u "canEncode"), (0, u "(I)Z"), (0, .methodref 39 93), (0, .nameAndType 94 43), (0, u "max"), (0, .methodref 14 96), (0, .nameAndType 97 98), (0, u "indexOfChar"), (0, u "([BIII)I"), (2, u "indexOf"), (19, u "$assertionsDisabled"), (0, u "Z"), (98, .class_ 223), (1, u "java/lang/StringLatin1$LinesSpliterator"), (166, .class_ 391), (0, u "java/lang/StringLatin1$CharsSpliterator")] 3

def k11m0 : Method := { name := "<init>", desc := "()V", sig := { parameters := [], returnType := none }, accessFlags := 0, code := none }
def k11c1 : Code := { maxStack := 2, maxLocals := 1, code := jdk_43_method_4_code, exceptionTable := #[], attributes := #[] }
def k11m1 : Method := { name := "canEncode", desc := "(I)Z", sig := { parameters := [.int], returnType := some .boolean }, accessFlags := 9, code := some k11c1 }
def k11c2 : Code := { maxStack := 4, maxLocals := 4, code := jdk_43_method_22_code, exceptionTable := #[], attributes := #[] }
def k11m2 : Method := { name := "indexOf", desc := "([BIII)I", sig := { parameters := [(.array .byte), .int, .int, .int], returnType := some .int }, accessFlags := 9, code := some k11c2 }
def k11c3 : Code := { maxStack := 2, maxLocals := 6, code := jdk_43_method_23_code, exceptionTable := #[], attributes := #[] }
def k11m3 : Method := { name := "indexOfChar", desc := "([BIII)I", sig := { parameters := [(.array .byte), .int, .int, .int], returnType := some .int }, accessFlags := 10, code := some k11c3 }
/-- java/lang/StringLatin1 -/
def k11 : Class := { plain "java/lang/StringLatin1" (some 0) with
  accessFlags := 48
  interfaces := #[]
  cf := some (fileOf pool11 14 #[.nestMembers #[390, 221]] #[{ accessFlags := 0, nameIndex := 7, descriptorIndex := 8, attributes := #[] }, { accessFlags := 9, nameIndex := 90, descriptorIndex := 91, attributes := #[] }, { accessFlags := 9, nameIndex := 101, descriptorIndex := 98, attributes := #[] }, { accessFlags := 10, nameIndex := 97, descriptorIndex := 98, attributes := #[] }] 48 4 #[] #[{ accessFlags := 4120, nameIndex := 121, descriptorIndex := 122, attributes := #[] }])
  fields := #[{ name := "$assertionsDisabled", type := .boolean, accessFlags := 4120, slot := 0, constantValue := 0 }]
  methods := #[k11m0, k11m1, k11m2, k11m3]
  instanceTypes := #[]
  staticTypes := #[.boolean]
  resolved := Array.replicate 395 none
  statics := none }

def pool12 : Array CpInfo := pool [(1, .class_ 2), (0, u "java/lang/Math"), (1, .class_ 6), (1, u "java/lang/Object"), (0, u "<init>"), (0, u "()V"), (89, .class_ 100), (1, u "java/lang/Math$RandomNumberGeneratorHolder"), (71, u "negativeZeroFloatBits"), (0, u "J"), (2, u "negativeZeroDoubleBits"), (21, u "max"), (2, u "min"), (43, u "$assertionsDisabled"), (0, u "Z"), (88, u "(II)I"), (2, u "twoToTheDoubleScaleDown"), (0, u "D"), (4, u "twoToTheDoubleScaleUp"), (9, u "E"), (3, u "PI"), (2, u "TAU"), (2, u "DEGREES_TO_RADIANS"), (0, u "RADIANS_TO_DEGREES")] 94

def k12m0 : Method := { name := "<init>", desc := "()V", sig := { parameters := [], returnType := none }, accessFlags := 2, code := none }
def k12c1 : Code := { maxStack := 2, maxLocals := 2, code := jdk_29_method_65_code, exceptionTable := #[], attributes := #[] }
def k12m1 : Method := { name := "max", desc := "(II)I", sig := { parameters := [.int, .int], returnType := some .int }, accessFlags := 9, code := some k12c1 }
def k12c2 : Code := { maxStack := 2, maxLocals := 2, code := jdk_29_method_69_code, exceptionTable := #[], attributes := #[] }
def k12m2 : Method := { name := "min", desc := "(II)I", sig := { parameters := [.int, .int], returnType := some .int }, accessFlags := 9, code := some k12c2 }
/-- java/lang/Math -/
def k12 : Class := { plain "java/lang/Math" (some 0) with
  accessFlags := 49
  interfaces := #[]
  cf := some (fileOf pool12 1 #[.nestMembers #[98]] #[{ accessFlags := 2, nameIndex := 7, descriptorIndex := 8, attributes := #[] }, { accessFlags := 9, nameIndex := 198, descriptorIndex := 335, attributes := #[] }, { accessFlags := 9, nameIndex := 201, descriptorIndex := 335, attributes := #[] }] 49 4 #[] #[{ accessFlags := 25, nameIndex := 354, descriptorIndex := 339, attributes := #[] }, { accessFlags := 25, nameIndex := 358, descriptorIndex := 339, attributes := #[] }, { accessFlags := 25, nameIndex := 361, descriptorIndex := 339, attributes := #[] }, { accessFlags := 26, nameIndex := 364, descriptorIndex := 339, attributes := #[] }, { accessFlags := 26, nameIndex := 365, descriptorIndex := 339, attributes := #[] }, { accessFlags := 26, nameIndex := 172, descriptorIndex := 173, attributes := #[] }, { accessFlags := 26, nameIndex := 176, descriptorIndex := 173, attributes := #[] }, { accessFlags := 8, nameIndex := 344, descriptorIndex := 339, attributes := #[] }, { accessFlags := 8, nameIndex := 338, descriptorIndex := 339, attributes := #[] }, { accessFlags := 4120, nameIndex := 245, descriptorIndex := 246, attributes := #[] }])
  fields := #[{ name := "E", type := .double, accessFlags := 25, slot := 0, constantValue := 0 }, { name := "PI", type := .double, accessFlags := 25, slot := 1, constantValue := 0 }, { name := "TAU", type := .double, accessFlags := 25, slot := 2, constantValue := 0 }, { name := "DEGREES_TO_RADIANS", type := .double, accessFlags := 26, slot := 3, constantValue := 0 }, { name := "RADIANS_TO_DEGREES", type := .double, accessFlags := 26, slot := 4, constantValue := 0 }, { name := "negativeZeroFloatBits", type := .long, accessFlags := 26, slot := 5, constantValue := 0 }, { name := "negativeZeroDoubleBits", type := .long, accessFlags := 26, slot := 6, constantValue := 0 }, { name := "twoToTheDoubleScaleUp", type := .double, accessFlags := 8, slot := 7, constantValue := 0 }, { name := "twoToTheDoubleScaleDown", type := .double, accessFlags := 8, slot := 8, constantValue := 0 }, { name := "$assertionsDisabled", type := .boolean, accessFlags := 4120, slot := 9, constantValue := 0 }]
  methods := #[k12m0, k12m1, k12m2]
  instanceTypes := #[]
  staticTypes := #[.double, .double, .double, .double, .double, .long, .long, .double, .double, .boolean]
  resolved := Array.replicate 460 none
  statics := none }

def pool13 : Array CpInfo := pool [(2, .class_ 4), (1, u "java/lang/Object"), (0, u "<init>"), (0, u "()V"), (17, .class_ 26), (1, u "jdk/internal/util/Preconditions"), (28, .class_ 56), (0, u "jdk/internal/util/Preconditions$4"), (57, .class_ 115), (0, u "jdk/internal/util/Preconditions$1"), (7, u "SIOOBE_FORMATTER"), (0, u "Ljava/util/function/BiFunction;"), (0, .class_ 126), (0, u "jdk/internal/util/Preconditions$2"), (3, u "AIOOBE_FORMATTER"), (0, .class_ 132), (0, u "jdk/internal/util/Preconditions$3"), (3, u "IOOBE_FORMATTER")] 57

def k13m0 : Method := { name := "<init>", desc := "()V", sig := { parameters := [], returnType := none }, accessFlags := 1, code := none }
/-- jdk/internal/util/Preconditions -/
def k13 : Class := { plain "jdk/internal/util/Preconditions" (some 0) with
  accessFlags := 33
  interfaces := #[]
  cf := some (fileOf pool13 24 #[.nestMembers #[55, 131, 125, 114]] #[{ accessFlags := 1, nameIndex := 5, descriptorIndex := 6, attributes := #[] }] 33 2 #[] #[{ accessFlags := 25, nameIndex := 123, descriptorIndex := 124, attributes := #[] }, { accessFlags := 25, nameIndex := 130, descriptorIndex := 124, attributes := #[] }, { accessFlags := 25, nameIndex := 136, descriptorIndex := 124, attributes := #[] }])
  fields := #[{ name := "SIOOBE_FORMATTER", type := (.object "java/util/function/BiFunction"), accessFlags := 25, slot := 0, constantValue := 0 }, { name := "AIOOBE_FORMATTER", type := (.object "java/util/function/BiFunction"), accessFlags := 25, slot := 1, constantValue := 0 }, { name := "IOOBE_FORMATTER", type := (.object "java/util/function/BiFunction"), accessFlags := 25, slot := 2, constantValue := 0 }]
  methods := #[k13m0]
  instanceTypes := #[]
  staticTypes := #[(.object "java/util/function/BiFunction"), (.object "java/util/function/BiFunction"), (.object "java/util/function/BiFunction")]
  resolved := Array.replicate 194 none
  statics := some 1 }

def pool14 : Array CpInfo := pool [(9, u "<init>"), (6, .class_ 18), (1, u "java/lang/Object"), (0, u "()V"), (1, .class_ 23), (1, u "jdk/internal/util/ArraysSupport"), (0, u "LOG2_ARRAY_LONG_INDEX_SCALE"), (0, u "I"), (2, u "U"), (0, u "Ljdk/internal/misc/Unsafe;"), (8, u "BIG_ENDIAN"), (0, u "Z"), (8, u "LOG2_BYTE_BIT_SIZE"), (4, u "LOG2_ARRAY_INT_INDEX_SCALE"), (54, u "JLA"), (0, u "Ljdk/internal/access/JavaLangAccess;"), (11, u "LOG2_ARRAY_BOOLEAN_INDEX_SCALE"), (9, u "LOG2_ARRAY_BYTE_INDEX_SCALE"), (5, u "LOG2_ARRAY_CHAR_INDEX_SCALE"), (5, u "LOG2_ARRAY_SHORT_INDEX_SCALE"), (18, u "LOG2_ARRAY_FLOAT_INDEX_SCALE"), (24, u "LOG2_ARRAY_DOUBLE_INDEX_SCALE"), (89, u "T_BOOLEAN"), (2, u "T_CHAR"), (1, u "T_FLOAT"), (1, u "T_DOUBLE"), (1, u "T_BYTE"), (1, u "T_SHORT"), (1, u "T_INT"), (1, u "T_LONG"), (1, u "SOFT_MAX_ARRAY_LENGTH")] 83

def k14m0 : Method := { name := "<init>", desc := "()V", sig := { parameters := [], returnType := none }, accessFlags := 2, code := none }
/-- jdk/internal/util/ArraysSupport -/
def k14 : Class := { plain "jdk/internal/util/ArraysSupport" (some 0) with
  accessFlags := 33
  interfaces := #[]
  cf := some (fileOf pool14 21 #[] #[{ accessFlags := 2, nameIndex := 9, descriptorIndex := 19, attributes := #[] }] 33 16 #[] #[{ accessFlags := 24, nameIndex := 28, descriptorIndex := 29, attributes := #[] }, { accessFlags := 26, nameIndex := 38, descriptorIndex := 39, attributes := #[] }, { accessFlags := 25, nameIndex := 121, descriptorIndex := 25, attributes := #[] }, { accessFlags := 25, nameIndex := 131, descriptorIndex := 25, attributes := #[] }, { accessFlags := 25, nameIndex := 137, descriptorIndex := 25, attributes := #[] }, { accessFlags := 25, nameIndex := 143, descriptorIndex := 25, attributes := #[] }, { accessFlags := 25, nameIndex := 53, descriptorIndex := 25, attributes := #[] }, { accessFlags := 25, nameIndex := 24, descriptorIndex := 25, attributes := #[] }, { accessFlags := 25, nameIndex := 162, descriptorIndex := 25, attributes := #[] }, { accessFlags := 25, nameIndex := 187, descriptorIndex := 25, attributes := #[] }, { accessFlags := 26, nameIndex := 48, descriptorIndex := 25, attributes := #[] }, { accessFlags := 25, nameIndex := 277, descriptorIndex := 25, attributes := #[] }, { accessFlags := 25, nameIndex := 280, descriptorIndex := 25, attributes := #[] }, { accessFlags := 25, nameIndex := 282, descriptorIndex := 25, attributes := #[] }, { accessFlags := 25, nameIndex := 284, descriptorIndex := 25, attributes := #[] }, { accessFlags := 25, nameIndex := 286, descriptorIndex := 25, attributes := #[] }, { accessFlags := 25, nameIndex := 288, descriptorIndex := 25, attributes := #[] }, { accessFlags := 25, nameIndex := 290, descriptorIndex := 25, attributes := #[] }, { accessFlags := 25, nameIndex := 292, descriptorIndex := 25, attributes := #[] }, { accessFlags := 26, nameIndex := 108, descriptorIndex := 109, attributes := #[] }, { accessFlags := 25, nameIndex := 294, descriptorIndex := 25, attributes := #[] }])
  fields := #[{ name := "U", type := (.object "jdk/internal/misc/Unsafe"), accessFlags := 24, slot := 0, constantValue := 0 }, { name := "BIG_ENDIAN", type := .boolean, accessFlags := 26, slot := 1, constantValue := 0 }, { name := "LOG2_ARRAY_BOOLEAN_INDEX_SCALE", type := .int, accessFlags := 25, slot := 2, constantValue := 0 }, { name := "LOG2_ARRAY_BYTE_INDEX_SCALE", type := .int, accessFlags := 25, slot := 3, constantValue := 0 }, { name := "LOG2_ARRAY_CHAR_INDEX_SCALE", type := .int, accessFlags := 25, slot := 4, constantValue := 0 }, { name := "LOG2_ARRAY_SHORT_INDEX_SCALE", type := .int, accessFlags := 25, slot := 5, constantValue := 0 }, { name := "LOG2_ARRAY_INT_INDEX_SCALE", type := .int, accessFlags := 25, slot := 6, constantValue := 0 }, { name := "LOG2_ARRAY_LONG_INDEX_SCALE", type := .int, accessFlags := 25, slot := 7, constantValue := 0 }, { name := "LOG2_ARRAY_FLOAT_INDEX_SCALE", type := .int, accessFlags := 25, slot := 8, constantValue := 0 }, { name := "LOG2_ARRAY_DOUBLE_INDEX_SCALE", type := .int, accessFlags := 25, slot := 9, constantValue := 0 }, { name := "LOG2_BYTE_BIT_SIZE", type := .int, accessFlags := 26, slot := 10, constantValue := 0 }, { name := "T_BOOLEAN", type := .int, accessFlags := 25, slot := 11, constantValue := 0 }, { name := "T_CHAR", type := .int, accessFlags := 25, slot := 12, constantValue := 0 }, { name := "T_FLOAT", type := .int, accessFlags := 25, slot := 13, constantValue := 0 }, { name := "T_DOUBLE", type := .int, accessFlags := 25, slot := 14, constantValue := 0 }, { name := "T_BYTE", type := .int, accessFlags := 25, slot := 15, constantValue := 0 }, { name := "T_SHORT", type := .int, accessFlags := 25, slot := 16, constantValue := 0 }, { name := "T_INT", type := .int, accessFlags := 25, slot := 17, constantValue := 0 }, { name := "T_LONG", type := .int, accessFlags := 25, slot := 18, constantValue := 0 }, { name := "JLA", type := (.object "jdk/internal/access/JavaLangAccess"), accessFlags := 26, slot := 19, constantValue := 0 }, { name := "SOFT_MAX_ARRAY_LENGTH", type := .int, accessFlags := 25, slot := 20, constantValue := 0 }]
  methods := #[k14m0]
  instanceTypes := #[]
  staticTypes := #[(.object "jdk/internal/misc/Unsafe"), .boolean, .int, .int, .int, .int, .int, .int, .int, .int, .int, .int, .int, .int, .int, .int, .int, .int, .int, (.object "jdk/internal/access/JavaLangAccess"), .int]
  resolved := Array.replicate 378 none
  statics := none }

def pool15 : Array CpInfo := pool [(1, u "java/lang/Cloneable"), (0, .class_ 1), (0, u "java/lang/Object"), (0, .class_ 3)] 3

/-- java/lang/Cloneable -/
def k15 : Class := { plain "java/lang/Cloneable" (some 0) with
  accessFlags := 1537
  interfaces := #[]
  cf := some (fileOf pool15 2 #[] #[] 1537 4 #[] #[])
  fields := #[]
  methods := #[]
  instanceTypes := #[]
  staticTypes := #[]
  resolved := Array.replicate 8 none
  statics := none }

/-- the primitive byte -/
def k16 : Class := { plain "byte" none with kind := .primitive 'B', accessFlags := 0x411 }
/-- [B -/
def k17 : Class := { plain "[B" (some 0) with kind := .array 16 .byte, interfaces := #[15, 2], accessFlags := 1041 }

/-- the primitive char -/
def k18 : Class := { plain "char" none with kind := .primitive 'C', accessFlags := 0x411 }
/-- [C -/
def k19 : Class := { plain "[C" (some 0) with kind := .array 18 .char, interfaces := #[15, 2], accessFlags := 1041 }

/-- the primitive int -/
def k20 : Class := { plain "int" none with kind := .primitive 'I', accessFlags := 0x411 }
/-- [I -/
def k21 : Class := { plain "[I" (some 0) with kind := .array 20 .int, interfaces := #[15, 2], accessFlags := 1041 }

def heap : Heap := #[{ cls := 7, slots := #[.long 0, .int 1, .null, .int 0, .null, .int 0, .int 0], vm := .statics 7 },
  { cls := 13, slots := #[.null, .null, .null], vm := .statics 13 }]
def classes : Array Class := #[k0, k1, k2, k3, k4, k5, k6, k7, k8, k9, k10, k11, k12, k13, k14, k15, k16, k17, k18, k19, k20, k21]
def interned : List (Array UInt16 × Addr) := []
def slotsUsed : Nat := 10
def theMethod : MethodId := ⟨1, 3⟩
def args0 : Array Value := #[.int 5, .int 6, .int 7, .int 3, .int 4]
def aboutOver (below : List Frame) : State where
  vm := { classes := classes, interned := interned.toArray }
  heap := heap
  slotsUsed := slotsUsed
  threads := #[{ frames := .invoking theMethod args0 :: below }]
def below0 : List Frame := [.native { method := ⟨0, 0⟩, args := #[] }]
def about1 : State := aboutOver below0
def p0 : Program := .bare "" "" ""
def e0 : Env := launch0.env 0 0 0
theorem w_frames : about1.frames = Frame.invoking theMethod args0 :: below0 := rfl
set_option maxRecDepth 65536 in
theorem w_args : argsFit about1.vm theMethod args0 = true := by decide +kernel
set_option maxRecDepth 65536 in
theorem w_heap : heapFits about1 = true := by decide +kernel
set_option maxRecDepth 65536 in
theorem w_runnable : about1.curStatus? = some .runnable := by decide +kernel
set_option maxRecDepth 65536 in
theorem w_alone : about1.alone = true := by decide +kernel
set_option maxRecDepth 65536 in
theorem w_named : about1.methodNamed? x = some theMethod := by decide +kernel
set_option maxRecDepth 65536 in
theorem w_hears : about1.hears theMethod below0 = true := by decide +kernel
set_option maxRecDepth 65536 in
theorem w_ripe : about1.ripe theMethod args0 below0 = true := by decide +kernel
theorem w_running : about1.status = .running := rfl
set_option maxRecDepth 65536 in
theorem w_room : about1.hasRoom e0.platform room_1 = true :=
  launch0.hasRoom_least _ room_1 (by decide +kernel) (by decide +kernel) (by decide +kernel) (by decide +kernel) (by decide +kernel) (by decide +kernel)
theorem allAtoms_all (ts : List Jvm.Cond) (a : Array Jvm.Value) (st : Jvm.State) : (allAtoms ts).before a st = ts.all (fun c => c.before a st) := by
  induction ts with
  | nil => rfl
  | cons c t ih =>
    show (Jvm.Cond.and c (allAtoms t)).before a st = _
    rw [Jvm.Cond.before_and, ih, List.all_cons]
def words1 : List Jvm.Cond := Jvm.Cond.code x code maxLocals ret :: tables_1
/-- a 'code' word, met by the world's own term for the bytes: nothing is compared byte by byte -/
theorem code_word {y : MethodName} {bytes : ByteArray} {mx : Nat} {rt : Option FieldType} {a : Array Value} {s : State} {m : MethodId} {meth : Method} {c : Code} (h1 : s.methodNamed? y = some m) (h2 : s.vm.method? m = some meth) (h3 : meth.code = some c) (h4 : c.code = bytes)
    (h5 : (c.maxLocals == mx && c.exceptionTable.isEmpty && decide (c.maxStack ≤ mostOperands) && decide (meth.sig.returnType = rt) && !meth.locks && decide (parseMethodDescriptor y.desc = some meth.sig)) = true) : (Jvm.Cond.code y bytes mx rt).before a s = true := by
  simp only [Bool.and_eq_true, beq_iff_eq, Bool.not_eq_true', decide_eq_true_eq] at h5
  obtain ⟨⟨⟨⟨⟨g1, g2⟩, g3⟩, g4⟩, g5⟩, g6⟩ := h5
  simp [Cond.before, Cond.holds, Cond.value, h1, h2, h3, h4, g1, g2, g3, g4, g5, g6]
def isCode : Jvm.Cond → Bool
  | .code _ _ _ _ => true
  | _ => false
theorem all_split {L : List Jvm.Cond} {P : Jvm.Cond → Bool} (h1 : L.all (fun c => isCode c || P c) = true) (h2 : ∀ c ∈ L.filter isCode, P c = true) : L.all P = true := by
  refine List.all_eq_true.mpr fun c hc => ?_
  have h := List.all_eq_true.mp h1 c hc
  rcases Bool.eq_false_or_eq_true (isCode c) with hi | hi
  · exact h2 c (List.mem_filter.mpr ⟨hc, hi⟩)
  · simpa [hi] using h
set_option maxRecDepth 65536 in
theorem w_c0 : (Jvm.Cond.code x code maxLocals ret).before args0 about1 = true := code_word (m := ⟨1, 3⟩) (meth := k1m3) (c := k1c3) (by decide +kernel) rfl rfl rfl (by decide +kernel)
set_option maxRecDepth 65536 in
theorem w_c1 : (Jvm.Cond.code ({ cls := "com/example/kartei/kartei/directory/KimCodesIsAppTagCodePinLaw", name := "ch", desc := "(I)C" } : Jvm.MethodName) method_2_code (2 : Nat) (Option.some Jvm.ClassFile.FieldType.char)).before args0 about1 = true := code_word (m := ⟨1, 1⟩) (meth := k1m1) (c := k1c1) (by decide +kernel) rfl rfl rfl (by decide +kernel)
set_option maxRecDepth 65536 in
theorem w_c2 : (Jvm.Cond.code ({ cls := "java/lang/String", name := "<init>", desc := "([C)V" } : Jvm.MethodName) jdk_42_method_3_code (2 : Nat) (Option.none : Option Jvm.ClassFile.FieldType)).before args0 about1 = true := code_word (m := ⟨7, 1⟩) (meth := k7m1) (c := k7c1) (by decide +kernel) rfl rfl rfl (by decide +kernel)
set_option maxRecDepth 65536 in
theorem w_c3 : (Jvm.Cond.code ({ cls := "java/lang/String", name := "<init>", desc := "([CIILjava/lang/Void;)V" } : Jvm.MethodName) jdk_42_method_149_code (6 : Nat) (Option.none : Option Jvm.ClassFile.FieldType)).before args0 about1 = true := code_word (m := ⟨7, 5⟩) (meth := k7m5) (c := k7c5) (by decide +kernel) rfl rfl rfl (by decide +kernel)
set_option maxRecDepth 65536 in
theorem w_c4 : (Jvm.Cond.code ({ cls := "java/lang/Object", name := "<init>", desc := "()V" } : Jvm.MethodName) object_method_1_code (1 : Nat) (Option.none : Option Jvm.ClassFile.FieldType)).before args0 about1 = true := code_word (m := ⟨0, 0⟩) (meth := k0m0) (c := k0c0) (by decide +kernel) rfl rfl rfl (by decide +kernel)
set_option maxRecDepth 65536 in
theorem w_c5 : (Jvm.Cond.code ({ cls := "java/lang/StringUTF16", name := "compress", desc := "([CII)[B" } : Jvm.MethodName) jdk_52_method_16_code (6 : Nat) (Option.some (Jvm.ClassFile.FieldType.array Jvm.ClassFile.FieldType.byte))).before args0 about1 = true := code_word (m := ⟨8, 2⟩) (meth := k8m2) (c := k8c2) (by decide +kernel) rfl rfl rfl (by decide +kernel)
set_option maxRecDepth 65536 in
theorem w_c6 : (Jvm.Cond.code ({ cls := "java/lang/StringUTF16", name := "compress", desc := "([CI[BII)I" } : Jvm.MethodName) jdk_52_method_21_code (7 : Nat) (Option.some Jvm.ClassFile.FieldType.int)).before args0 about1 = true := code_word (m := ⟨8, 3⟩) (meth := k8m3) (c := k8c3) (by decide +kernel) rfl rfl rfl (by decide +kernel)
set_option maxRecDepth 65536 in
theorem w_c7 : (Jvm.Cond.code ({ cls := "java/lang/StringUTF16", name := "coderFromArrayLen", desc := "([BI)B" } : Jvm.MethodName) jdk_52_method_15_code (2 : Nat) (Option.some Jvm.ClassFile.FieldType.byte)).before args0 about1 = true := code_word (m := ⟨8, 1⟩) (meth := k8m1) (c := k8c1) (by decide +kernel) rfl rfl rfl (by decide +kernel)
set_option maxRecDepth 65536 in
theorem w_c8 : (Jvm.Cond.code ({ cls := "com/example/kartei/kartei/directory/KimCodesIsAppTagCodePinLaw", name := "ok", desc := "(C)Z" } : Jvm.MethodName) method_3_code (1 : Nat) (Option.some Jvm.ClassFile.FieldType.boolean)).before args0 about1 = true := code_word (m := ⟨1, 2⟩) (meth := k1m2) (c := k1c2) (by decide +kernel) rfl rfl rfl (by decide +kernel)
set_option maxRecDepth 65536 in
theorem w_c9 : (Jvm.Cond.code ({ cls := "com/example/kartei/kartei/directory/KimCodes", name := "isAppTagCode", desc := "(Ljava/lang/String;)Z" } : Jvm.MethodName) prog_11_method_3_code (1 : Nat) (Option.some Jvm.ClassFile.FieldType.boolean)).before args0 about1 = true := code_word (m := ⟨10, 0⟩) (meth := k10m0) (c := k10c0) (by decide +kernel) rfl rfl rfl (by decide +kernel)
set_option maxRecDepth 65536 in
theorem w_c10 : (Jvm.Cond.code ({ cls := "java/lang/String", name := "indexOf", desc := "(I)I" } : Jvm.MethodName) jdk_42_method_79_code (2 : Nat) (Option.some Jvm.ClassFile.FieldType.int)).before args0 about1 = true := code_word (m := ⟨7, 3⟩) (meth := k7m3) (c := k7c3) (by decide +kernel) rfl rfl rfl (by decide +kernel)
set_option maxRecDepth 65536 in
theorem w_c11 : (Jvm.Cond.code ({ cls := "java/lang/String", name := "indexOf", desc := "(II)I" } : Jvm.MethodName) jdk_42_method_80_code (3 : Nat) (Option.some Jvm.ClassFile.FieldType.int)).before args0 about1 = true := code_word (m := ⟨7, 4⟩) (meth := k7m4) (c := k7c4) (by decide +kernel) rfl rfl rfl (by decide +kernel)
set_option maxRecDepth 65536 in
theorem w_c12 : (Jvm.Cond.code ({ cls := "java/lang/String", name := "isLatin1", desc := "()Z" } : Jvm.MethodName) jdk_42_method_154_code (1 : Nat) (Option.some Jvm.ClassFile.FieldType.boolean)).before args0 about1 = true := code_word (m := ⟨7, 7⟩) (meth := k7m7) (c := k7c7) (by decide +kernel) rfl rfl rfl (by decide +kernel)
set_option maxRecDepth 65536 in
theorem w_c13 : (Jvm.Cond.code ({ cls := "java/lang/String", name := "length", desc := "()I" } : Jvm.MethodName) jdk_42_method_54_code (1 : Nat) (Option.some Jvm.ClassFile.FieldType.int)).before args0 about1 = true := code_word (m := ⟨7, 2⟩) (meth := k7m2) (c := k7c2) (by decide +kernel) rfl rfl rfl (by decide +kernel)
set_option maxRecDepth 65536 in
theorem w_c14 : (Jvm.Cond.code ({ cls := "java/lang/String", name := "coder", desc := "()B" } : Jvm.MethodName) jdk_42_method_152_code (1 : Nat) (Option.some Jvm.ClassFile.FieldType.byte)).before args0 about1 = true := code_word (m := ⟨7, 6⟩) (meth := k7m6) (c := k7c6) (by decide +kernel) rfl rfl rfl (by decide +kernel)
set_option maxRecDepth 65536 in
theorem w_c15 : (Jvm.Cond.code ({ cls := "java/lang/StringLatin1", name := "indexOf", desc := "([BIII)I" } : Jvm.MethodName) jdk_43_method_22_code (4 : Nat) (Option.some Jvm.ClassFile.FieldType.int)).before args0 about1 = true := code_word (m := ⟨11, 2⟩) (meth := k11m2) (c := k11c2) (by decide +kernel) rfl rfl rfl (by decide +kernel)
set_option maxRecDepth 65536 in
theorem w_c16 : (Jvm.Cond.code ({ cls := "java/lang/StringLatin1", name := "canEncode", desc := "(I)Z" } : Jvm.MethodName) jdk_43_method_4_code (1 : Nat) (Option.some Jvm.ClassFile.FieldType.boolean)).before args0 about1 = true := code_word (m := ⟨11, 1⟩) (meth := k11m1) (c := k11c1) (by decide +kernel) rfl rfl rfl (by decide +kernel)
set_option maxRecDepth 65536 in
theorem w_c17 : (Jvm.Cond.code ({ cls := "java/lang/Math", name := "max", desc := "(II)I" } : Jvm.MethodName) jdk_29_method_65_code (2 : Nat) (Option.some Jvm.ClassFile.FieldType.int)).before args0 about1 = true := code_word (m := ⟨12, 1⟩) (meth := k12m1) (c := k12c1) (by decide +kernel) rfl rfl rfl (by decide +kernel)
set_option maxRecDepth 65536 in
theorem w_c18 : (Jvm.Cond.code ({ cls := "java/lang/Math", name := "min", desc := "(II)I" } : Jvm.MethodName) jdk_29_method_69_code (2 : Nat) (Option.some Jvm.ClassFile.FieldType.int)).before args0 about1 = true := code_word (m := ⟨12, 2⟩) (meth := k12m2) (c := k12c2) (by decide +kernel) rfl rfl rfl (by decide +kernel)
set_option maxRecDepth 65536 in
theorem w_c19 : (Jvm.Cond.code ({ cls := "java/lang/StringLatin1", name := "indexOfChar", desc := "([BIII)I" } : Jvm.MethodName) jdk_43_method_23_code (6 : Nat) (Option.some Jvm.ClassFile.FieldType.int)).before args0 about1 = true := code_word (m := ⟨11, 3⟩) (meth := k11m3) (c := k11c3) (by decide +kernel) rfl rfl rfl (by decide +kernel)
def codes1 : List Jvm.Cond := [Jvm.Cond.code x code maxLocals ret, Jvm.Cond.code ({ cls := "com/example/kartei/kartei/directory/KimCodesIsAppTagCodePinLaw", name := "ch", desc := "(I)C" } : Jvm.MethodName) method_2_code (2 : Nat) (Option.some Jvm.ClassFile.FieldType.char), Jvm.Cond.code ({ cls := "java/lang/String", name := "<init>", desc := "([C)V" } : Jvm.MethodName) jdk_42_method_3_code (2 : Nat) (Option.none : Option Jvm.ClassFile.FieldType), Jvm.Cond.code ({ cls := "java/lang/String", name := "<init>", desc := "([CIILjava/lang/Void;)V" } : Jvm.MethodName) jdk_42_method_149_code (6 : Nat) (Option.none : Option Jvm.ClassFile.FieldType), Jvm.Cond.code ({ cls := "java/lang/Object", name := "<init>", desc := "()V" } : Jvm.MethodName) object_method_1_code (1 : Nat) (Option.none : Option Jvm.ClassFile.FieldType), Jvm.Cond.code ({ cls := "java/lang/StringUTF16", name := "compress", desc := "([CII)[B" } : Jvm.MethodName) jdk_52_method_16_code (6 : Nat) (Option.some (Jvm.ClassFile.FieldType.array Jvm.ClassFile.FieldType.byte)), Jvm.Cond.code ({ cls := "java/lang/StringUTF16", name := "compress", desc := "([CI[BII)I" } : Jvm.MethodName) jdk_52_method_21_code (7 : Nat) (Option.some Jvm.ClassFile.FieldType.int), Jvm.Cond.code ({ cls := "java/lang/StringUTF16", name := "coderFromArrayLen", desc := "([BI)B" } : Jvm.MethodName) jdk_52_method_15_code (2 : Nat) (Option.some Jvm.ClassFile.FieldType.byte), Jvm.Cond.code ({ cls := "com/example/kartei/kartei/directory/KimCodesIsAppTagCodePinLaw", name := "ok", desc := "(C)Z" } : Jvm.MethodName) method_3_code (1 : Nat) (Option.some Jvm.ClassFile.FieldType.boolean), Jvm.Cond.code ({ cls := "com/example/kartei/kartei/directory/KimCodes", name := "isAppTagCode", desc := "(Ljava/lang/String;)Z" } : Jvm.MethodName) prog_11_method_3_code (1 : Nat) (Option.some Jvm.ClassFile.FieldType.boolean), Jvm.Cond.code ({ cls := "java/lang/String", name := "indexOf", desc := "(I)I" } : Jvm.MethodName) jdk_42_method_79_code (2 : Nat) (Option.some Jvm.ClassFile.FieldType.int), Jvm.Cond.code ({ cls := "java/lang/String", name := "indexOf", desc := "(II)I" } : Jvm.MethodName) jdk_42_method_80_code (3 : Nat) (Option.some Jvm.ClassFile.FieldType.int), Jvm.Cond.code ({ cls := "java/lang/String", name := "isLatin1", desc := "()Z" } : Jvm.MethodName) jdk_42_method_154_code (1 : Nat) (Option.some Jvm.ClassFile.FieldType.boolean), Jvm.Cond.code ({ cls := "java/lang/String", name := "length", desc := "()I" } : Jvm.MethodName) jdk_42_method_54_code (1 : Nat) (Option.some Jvm.ClassFile.FieldType.int), Jvm.Cond.code ({ cls := "java/lang/String", name := "coder", desc := "()B" } : Jvm.MethodName) jdk_42_method_152_code (1 : Nat) (Option.some Jvm.ClassFile.FieldType.byte), Jvm.Cond.code ({ cls := "java/lang/StringLatin1", name := "indexOf", desc := "([BIII)I" } : Jvm.MethodName) jdk_43_method_22_code (4 : Nat) (Option.some Jvm.ClassFile.FieldType.int), Jvm.Cond.code ({ cls := "java/lang/StringLatin1", name := "canEncode", desc := "(I)Z" } : Jvm.MethodName) jdk_43_method_4_code (1 : Nat) (Option.some Jvm.ClassFile.FieldType.boolean), Jvm.Cond.code ({ cls := "java/lang/Math", name := "max", desc := "(II)I" } : Jvm.MethodName) jdk_29_method_65_code (2 : Nat) (Option.some Jvm.ClassFile.FieldType.int), Jvm.Cond.code ({ cls := "java/lang/Math", name := "min", desc := "(II)I" } : Jvm.MethodName) jdk_29_method_69_code (2 : Nat) (Option.some Jvm.ClassFile.FieldType.int), Jvm.Cond.code ({ cls := "java/lang/StringLatin1", name := "indexOfChar", desc := "([BIII)I" } : Jvm.MethodName) jdk_43_method_23_code (6 : Nat) (Option.some Jvm.ClassFile.FieldType.int)]
set_option maxRecDepth 65536 in
theorem codes_eq : words1.filter isCode = codes1 := rfl
theorem w_codes : ∀ c ∈ words1.filter isCode, c.before args0 about1 = true := by
  rw [codes_eq]
  intro c hc
  simp only [codes1, List.mem_cons, List.not_mem_nil, or_false] at hc
  rcases hc with rfl | rfl | rfl | rfl | rfl | rfl | rfl | rfl | rfl | rfl | rfl | rfl | rfl | rfl | rfl | rfl | rfl | rfl | rfl | rfl
  · exact w_c0
  · exact w_c1
  · exact w_c2
  · exact w_c3
  · exact w_c4
  · exact w_c5
  · exact w_c6
  · exact w_c7
  · exact w_c8
  · exact w_c9
  · exact w_c10
  · exact w_c11
  · exact w_c12
  · exact w_c13
  · exact w_c14
  · exact w_c15
  · exact w_c16
  · exact w_c17
  · exact w_c18
  · exact w_c19
set_option maxRecDepth 65536 in
theorem w_t1 : (words1.take 24).all (fun c => isCode c || c.before args0 about1) = true := by decide +kernel
set_option maxRecDepth 65536 in
theorem w_t2 : ((words1.drop 24).take 24).all (fun c => isCode c || c.before args0 about1) = true := by decide +kernel
set_option maxRecDepth 65536 in
theorem w_t3 : (((words1.drop 24).drop 24).take 24).all (fun c => isCode c || c.before args0 about1) = true := by decide +kernel
set_option maxRecDepth 65536 in
theorem w_t4 : (((words1.drop 24).drop 24).drop 24).all (fun c => isCode c || c.before args0 about1) = true := by decide +kernel
theorem w_tables : (allAtoms (Jvm.Cond.code x code maxLocals ret :: tables_1)).before args0 about1 = true := by
  rw [allAtoms_all]
  show words1.all (fun c => c.before args0 about1) = true
  refine all_split ?_ w_codes
  rw [← List.take_append_drop 24 words1, List.all_append, w_t1, ← List.take_append_drop 24 (words1.drop 24), List.all_append, w_t2, ← List.take_append_drop 24 ((words1.drop 24).drop 24), List.all_append, w_t3, w_t4]
  rfl
set_option maxRecDepth 65536 in
theorem w_rest : rest_1_c.before args0 about1 = true := by decide +kernel
set_option maxRecDepth 65536 in
theorem w_case : (Jvm.Cond.and given_1 narrow_1).before args0 about1 = true := by decide +kernel
theorem w_applies : (headSpec (Jvm.Cond.code x code maxLocals ret :: tables_1) room_1).applies x e0.platform about1 = true :=
  (Spec.applies_iff w_frames).mpr ⟨w_running, w_runnable, w_alone, w_named, w_hears, w_ripe, w_room, w_tables⟩
theorem atStart : AtStart classFile x code maxLocals ret World_1 tables_1 room_1 Calls_1 rest_1 Pre_1 launch0 p0 e0 about1 theMethod args0 below0 :=
  ⟨lists_1, trivial, launch0.admits_env _ _ _, launch0.least_env, fairChoices_fair.cas, fairChoices_fair.clock, w_frames, w_args, w_heap, w_applies, trivial, w_rest, w_case⟩
end start1
theorem witness_1 : WitnessClaimed_1 := ⟨start1.p0, start1.e0, start1.about1, start1.theMethod, start1.args0, start1.below0, start1.atStart⟩
end Jvm.Pilot.@@N@@
