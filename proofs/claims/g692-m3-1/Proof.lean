import JvmDerived
import JvmDerived.Pilot.@@N@@Statement
import JvmDerived.Pilot.@@N@@Code
set_option linter.unusedVariables false
set_option linter.unusedSimpArgs false
/- laws to paste: Road.backV (cut by pick.py; bodies as the Statement names them) -/
namespace Jvm.Pilot.@@N@@
namespace StrChars
open Jvm Sem ClassFile Op Lib Jvm.Stand Jvm.Free.XT Jvm.Free.ALB Jvm.Free.JM Jvm.Free
open Jvm.Lib.Cold (StaticIs)
/-- a char array whose places are chars -/
def Ch (a : Addr) (A : Cell) (U : State) : Prop := Arr .char a A U ∧ Typed .char A
theorem Ch.mv {a : Addr} {A : Cell} {U U' : State} (h : Ch a A U) (hal : U.vm.Alike U'.vm) (hh : U'.heap = U.heap) : Ch a A U' := ⟨h.1.mv hal hh, h.2⟩
theorem Ch.keep {a : Addr} {A : Cell} {U U' : State} (h : Ch a A U) (hal : U.vm.Alike U'.vm) (hk : U'.heap[a]? = some A) : Ch a A U' := ⟨h.1.keep hal hk, h.2⟩
/-- what place i of a char[]'s cell holds -/
def cv (A : Cell) (i : Nat) : Int32 := match A.slots[i]? with | some (.int x) => x | _ => 0
theorem Ch.get {a : Addr} {A : Cell} {U : State} (h : Ch a A U) {i : Nat} (hi : i < A.slots.size) : A.slots[i]? = some (.int (cv A i)) := by
  have e := Array.getElem?_eq_getElem hi
  have f := h.2 i _ e
  unfold cv; rw [e]
  generalize A.slots[i] = v at f
  cases v <;> simp [fits] at f ⊢
/-- the byte that i2b leaves of a char -/
def lo8 (x : Int32) : Int32 := x.toInt8.toInt32
theorem fits_lo8 (y : Int32) : fits .byte (.int (lo8 y)) = true := by
  have h1 := y.toInt8.le_toInt
  have h2 := y.toInt8.toInt_lt
  simp only [lo8, fits, Bool.and_eq_true, decide_eq_true_eq, Int32.le_iff_toInt_le, Int8.toInt_toInt32, show (-128 : Int32).toInt = -128 from by decide, show (127 : Int32).toInt = 127 from by decide]
  omega
/-- A' is A but that each place j of lo .. hi - 1 holds f j -/
def Laid (A A' : Cell) (lo hi : Nat) (f : Nat → Value) : Prop := A'.cls = A.cls ∧ A'.vm = A.vm ∧ A'.slots.size = A.slots.size ∧ ∀ i, A'.slots[i]? = if lo ≤ i ∧ i < hi then some (f i) else A.slots[i]?
theorem Laid.zero (A : Cell) (lo : Nat) (f : Nat → Value) : Laid A A lo (lo + 0) f := ⟨rfl, rfl, rfl, fun i => by rw [if_neg (by omega)]⟩
theorem Laid.step {A Ak : Cell} {lo k : Nat} {f : Nat → Value} {v : Value} (h : Laid A Ak lo k f) (hlo : lo ≤ k) (hk : k < Ak.slots.size) (hv : v = f k) : Laid A (Ak.setSlot k v) lo (k + 1) f := by
  refine ⟨h.1, h.2.1, by simpa [Cell.setSlot] using h.2.2.1, fun i => ?_⟩
  by_cases e : k = i
  · subst e; rw [Cell.slots_setSlot_self v hk, if_pos (by omega), hv]
  · rw [Cell.slots_setSlot_ne v e, h.2.2.2 i]
    by_cases q : lo ≤ i ∧ i < k
    · rw [if_pos q, if_pos (by omega)]
    · rw [if_neg q, if_neg (by omega)]
def U16 : String := "java/lang/StringUTF16"
namespace Cmp5
def yN : MethodName := ⟨"java/lang/StringUTF16", "compress", "([CI[BII)I"⟩
abbrev yB : ByteArray := jdk_52_method_21_code
theorem d0 : decode yB 0 = .ok (.iconst 0, 1) := by decide +kernel
theorem d1 : decode yB 1 = .ok (.istore 5, 2) := by decide +kernel
theorem d3 : decode yB 3 = .ok (.iload 5, 2) := by decide +kernel
theorem d5 : decode yB 5 = .ok (.iload 4, 2) := by decide +kernel
theorem d7 : decode yB 7 = .ok (.if_icmp (.ge) 37, 3) := by decide +kernel
theorem d10 : decode yB 10 = .ok (.aload_n 0, 1) := by decide +kernel
theorem d11 : decode yB 11 = .ok (.iload_n 1, 1) := by decide +kernel
theorem d12 : decode yB 12 = .ok (.caload, 1) := by decide +kernel
theorem d13 : decode yB 13 = .ok (.istore 6, 2) := by decide +kernel
theorem d15 : decode yB 15 = .ok (.iload 6, 2) := by decide +kernel
theorem d17 : decode yB 17 = .ok (.sipush 255, 3) := by decide +kernel
theorem d20 : decode yB 20 = .ok (.if_icmp (.le) 6, 3) := by decide +kernel
theorem d26 : decode yB 26 = .ok (.aload_n 2, 1) := by decide +kernel
theorem d27 : decode yB 27 = .ok (.iload_n 3, 1) := by decide +kernel
theorem d28 : decode yB 28 = .ok (.iload 6, 2) := by decide +kernel
theorem d30 : decode yB 30 = .ok (.i2b, 1) := by decide +kernel
theorem d31 : decode yB 31 = .ok (.bastore, 1) := by decide +kernel
theorem d32 : decode yB 32 = .ok (.iinc 1 1, 3) := by decide +kernel
theorem d35 : decode yB 35 = .ok (.iinc 3 1, 3) := by decide +kernel
theorem d38 : decode yB 38 = .ok (.iinc 5 1, 3) := by decide +kernel
theorem d41 : decode yB 41 = .ok (.goto (-38), 3) := by decide +kernel
theorem d44 : decode yB 44 = .ok (.iload 4, 2) := by decide +kernel
theorem d46 : decode yB 46 = .ok (.ireturn, 1) := by decide +kernel
def site : List Cond := []
def tab : Cond := tabOf yN yB 7 (some .int) site
def P (b : Addr) (A : Cell) (d : Addr) (B : Cell) (o q len : Nat) (args : Array Value) (s : State) : Prop := args = #[.ref b, .int (Int32.ofNat o), .ref d, .int (Int32.ofNat q), .int (Int32.ofNat len)] ∧ Ch b A s ∧ Arr .byte d B s ∧ b ≠ d ∧ o + len ≤ A.slots.size ∧ q + len ≤ B.slots.size ∧ ∀ i, i < len → ¬ 255 < cv A (o + i)
def E (b : Addr) (A : Cell) (d : Addr) (B : Cell) (o q len : Nat) (r : Option Value) (s u : State) : Prop := r = some (.int (Int32.ofNat len)) ∧ ∃ B', Put d B' s u ∧ Laid B B' q (q + len) (fun j => Value.int (lo8 (cv A (o + (j - q)))))
/-- no char of the range above 255: len; the places written hold each char's low byte -/
theorem law (l : Launch) (b : Addr) (A : Cell) (d : Addr) (B : Cell) (o q len : Nat) : Law l yN 5 5 0 0 yB 7 (some .int) site (P b A d B o q len) (E b A d B o q len) (copyLocs d q len) 0 0 := by
  refine Law.of_walk (plainFor_of_name (by decide +kernel)) (by decide +kernel) (by decide +kernel) (by decide) (fun _ _ h => by rw [h.1]; rfl) (fun _ U U' hal hh h => ⟨h.1, h.2.1.mv hal hh, h.2.2.1.mv hal hh, h.2.2.2⟩) (fun r U U' V V' h1 hal h2 h => ⟨h.1, h.2.elim fun B' q => ⟨B', q.1.mv h1 h2, q.2⟩⟩) ?_
  intro p e s m args below meth c s₁ X0 hexec hbytes hml hret hlk hnm hown hh0 W hP
  obtain ⟨rfl, hA, hB, hne, l1, l2, hp⟩ := hP
  have c1 : Steps p.tables e below (s₁.setTop (entryFrame m #[.ref b, .int (Int32.ofNat o), .ref d, .int (Int32.ofNat q), .int (Int32.ofNat len)] 7)) (s₁.setTop (mkF m 0 #[.val (.ref b), .val (.int (Int32.ofNat o)), .val (.ref d), .val (.int (Int32.ofNat q)), .val (.int (Int32.ofNat len)), .unset, .unset] [])) := entry rfl
  have hA0 := hA.1.mv X0.warmed.alike hh0
  have hB0 := hB.mv X0.warmed.alike hh0
  have a31 := hA.1.2.2.2
  have c2 : Steps p.tables e below (s₁.setTop (entryFrame m #[.ref b, .int (Int32.ofNat o), .ref d, .int (Int32.ofNat q), .int (Int32.ofNat len)] 7)) (s₁.setTop (mkF m 3 #[.val (.ref b), .val (.int (Int32.ofNat o)), .val (.ref d), .val (.int (Int32.ofNat q)), .val (.int (Int32.ofNat len)), .val (.int 0), .unset] [])) := c1.trans (by
    refine iconstV X0.here hexec rfl 0 (hb hbytes d0) (by decide) ?_
    refine XS.istore X0.here hexec rfl (hb hbytes d1) rfl rfl ?_
    exact Steps.refl _)
  have loop : ∀ (r i : Nat), i + r = len → ∀ (z : Slot), (z = .unset ∨ ∃ w, z = .val w ∧ w.category = 1) → ∀ (Tl : State) (Bk : Cell), Stand p l e { frames := 0, locals := 0, cells := 0, slots := 0 } s m #[.ref b, .int (Int32.ofNat o), .ref d, .int (Int32.ofNat q), .int (Int32.ofNat len)] below meth c Tl ([] ++ copyLocs d q i) 0 0 → Put d Bk s₁ Tl → Laid B Bk q (q + i) (fun j => Value.int (lo8 (cv A (o + (j - q))))) →
      Steps p.tables e below (s₁.setTop (entryFrame m #[.ref b, .int (Int32.ofNat o), .ref d, .int (Int32.ofNat q), .int (Int32.ofNat len)] 7)) (Tl.setTop (mkF m 3 #[.val (.ref b), .val (.int (Int32.ofNat (o + i))), .val (.ref d), .val (.int (Int32.ofNat (q + i))), .val (.int (Int32.ofNat len)), .val (.int (Int32.ofNat i)), z] [])) → ∃ (T' : State) (B' : Cell) (z' : Slot), Stand p l e { frames := 0, locals := 0, cells := 0, slots := 0 } s m #[.ref b, .int (Int32.ofNat o), .ref d, .int (Int32.ofNat q), .int (Int32.ofNat len)] below meth c T' ([] ++ copyLocs d q len) 0 0 ∧ Put d B' s₁ T' ∧ Laid B B' q (q + len) (fun j => Value.int (lo8 (cv A (o + (j - q))))) ∧
      Steps p.tables e below (s₁.setTop (entryFrame m #[.ref b, .int (Int32.ofNat o), .ref d, .int (Int32.ofNat q), .int (Int32.ofNat len)] 7)) (T'.setTop (mkF m 3 #[.val (.ref b), .val (.int (Int32.ofNat (o + len))), .val (.ref d), .val (.int (Int32.ofNat (q + len))), .val (.int (Int32.ofNat len)), .val (.int (Int32.ofNat len)), z'] [])) := by
    intro r
    induction r with
    | zero =>
      intro i hi z hz Tl Bk Xl pl fl cl
      have hil : i = len := by omega
      rw [hil] at Xl fl cl
      exact ⟨Tl, Bk, z, Xl, pl, fl, cl⟩
    | succ r ih =>
      intro i hi z hz Tl Bk Xl pl fl cl
      have all := X0.warmed.alike.symm.trans Xl.warmed.alike
      have hAl := hA0.keep all (pl.other hne hA0.1)
      have hBk := hB0.like all pl.1 fl.1 fl.2.1 fl.2.2.1
      have hlt : q + i < Bk.slots.size := by rw [fl.2.2.1]; omega
      have c3 : Steps p.tables e below (s₁.setTop (entryFrame m #[.ref b, .int (Int32.ofNat o), .ref d, .int (Int32.ofNat q), .int (Int32.ofNat len)] 7)) (Tl.setTop (mkF m 12 #[.val (.ref b), .val (.int (Int32.ofNat (o + i))), .val (.ref d), .val (.int (Int32.ofNat (q + i))), .val (.int (Int32.ofNat len)), .val (.int (Int32.ofNat i)), z] [.int (Int32.ofNat (o + i)), .ref b])) := cl.trans (by
        refine XS.iload Xl.here hexec rfl (hb hbytes d3) rfl ?_
        refine XS.iload Xl.here hexec rfl (hb hbytes d5) rfl ?_
        refine XS.icmpNo Xl.here hexec rfl (hb hbytes d7) rfl (ii_ge_f (lt32 (by omega) (by omega))) ?_
        refine XS.aloadN Xl.here hexec rfl (hb hbytes d10) rfl rfl ?_
        refine XS.iloadN Xl.here hexec rfl (hb hbytes d11) rfl ?_
        exact Steps.refl _)
      have c4 : Steps p.tables e below (s₁.setTop (entryFrame m #[.ref b, .int (Int32.ofNat o), .ref d, .int (Int32.ofNat q), .int (Int32.ofNat len)] 7)) (Tl.setTop (mkF m 13 #[.val (.ref b), .val (.int (Int32.ofNat (o + i))), .val (.ref d), .val (.int (Int32.ofNat (q + i))), .val (.int (Int32.ofNat len)), .val (.int (Int32.ofNat i)), z] [.int (cv A (o + i))])) := c3.trans (by
        refine Xl.aget hexec hAl rfl (hA.get (i := o + i) (by omega)) rfl rfl (hb hbytes d12) ?_
        exact Steps.refl _)
      have c5 : Steps p.tables e below (s₁.setTop (entryFrame m #[.ref b, .int (Int32.ofNat o), .ref d, .int (Int32.ofNat q), .int (Int32.ofNat len)] 7)) (Tl.setTop (mkF m 15 #[.val (.ref b), .val (.int (Int32.ofNat (o + i))), .val (.ref d), .val (.int (Int32.ofNat (q + i))), .val (.int (Int32.ofNat len)), .val (.int (Int32.ofNat i)), .val (.int (cv A (o + i)))] [])) := c4.trans (by
        refine XS.istoreS Xl.here hexec rfl (hb hbytes d13) rfl rfl hz ?_
        exact Steps.refl _)
      have c6 : Steps p.tables e below (s₁.setTop (entryFrame m #[.ref b, .int (Int32.ofNat o), .ref d, .int (Int32.ofNat q), .int (Int32.ofNat len)] 7)) (Tl.setTop (mkF m 31 #[.val (.ref b), .val (.int (Int32.ofNat (o + i))), .val (.ref d), .val (.int (Int32.ofNat (q + i))), .val (.int (Int32.ofNat len)), .val (.int (Int32.ofNat i)), .val (.int (cv A (o + i)))] [.int (lo8 (cv A (o + i))), .int (Int32.ofNat (q + i)), .ref d])) := c5.trans (by
        refine XS.iload Xl.here hexec rfl (hb hbytes d15) rfl ?_
        refine sipushV Xl.here hexec rfl 255 (hb hbytes d17) (by decide) ?_
        refine XS.icmpYes Xl.here hexec rfl (pc0 := 20) rfl (hb hbytes d20) rfl (ii_le_t (hp i (by omega))) (by decide) rfl ?_
        refine XS.aloadN Xl.here hexec rfl (hb hbytes d26) rfl rfl ?_
        refine XS.iloadN Xl.here hexec rfl (hb hbytes d27) rfl ?_
        refine XS.iload Xl.here hexec rfl (hb hbytes d28) rfl ?_
        refine i2b Xl.here hexec rfl (hb hbytes d30) rfl ?_
        exact Steps.refl _)
      obtain ⟨T7, X7, p7, st7⟩ := Xl.aput hexec hBk rfl hlt rfl (fits_lo8 (cv A (o + i))) (g := (mkF m 31 #[.val (.ref b), .val (.int (Int32.ofNat (o + i))), .val (.ref d), .val (.int (Int32.ofNat (q + i))), .val (.int (Int32.ofNat len)), .val (.int (Int32.ofNat i)), .val (.int (cv A (o + i)))] [.int (lo8 (cv A (o + i))), .int (Int32.ofNat (q + i)), .ref d])) rfl (rest := []) rfl (hb hbytes d31)
      have c8 : Steps p.tables e below (s₁.setTop (entryFrame m #[.ref b, .int (Int32.ofNat o), .ref d, .int (Int32.ofNat q), .int (Int32.ofNat len)] 7)) (T7.setTop (mkF m 32 #[.val (.ref b), .val (.int (Int32.ofNat (o + i))), .val (.ref d), .val (.int (Int32.ofNat (q + i))), .val (.int (Int32.ofNat len)), .val (.int (Int32.ofNat i)), .val (.int (cv A (o + i)))] [])) := c6.trans (st7 _ (Steps.refl _))
      have c9 : Steps p.tables e below (s₁.setTop (entryFrame m #[.ref b, .int (Int32.ofNat o), .ref d, .int (Int32.ofNat q), .int (Int32.ofNat len)] 7)) (T7.setTop (mkF m 3 #[.val (.ref b), .val (.int (Int32.ofNat (o + i) + 1)), .val (.ref d), .val (.int (Int32.ofNat (q + i) + 1)), .val (.int (Int32.ofNat len)), .val (.int (Int32.ofNat i + 1)), .val (.int (cv A (o + i)))] [])) := c8.trans (by
        refine iincV X7.here hexec rfl 1 (hb hbytes d32) (by decide) rfl rfl ?_
        refine iincV X7.here hexec rfl 1 (hb hbytes d35) (by decide) rfl rfl ?_
        refine iincV X7.here hexec rfl 1 (hb hbytes d38) (by decide) rfl rfl ?_
        refine XS.goto X7.here hexec rfl (pc0 := 41) rfl (hb hbytes d41) (by decide) rfl ?_
        exact Steps.refl _)
      have c10 : Steps p.tables e below (s₁.setTop (entryFrame m #[.ref b, .int (Int32.ofNat o), .ref d, .int (Int32.ofNat q), .int (Int32.ofNat len)] 7)) (T7.setTop (mkF m 3 #[.val (.ref b), .val (.int (Int32.ofNat (o + (i + 1)))), .val (.ref d), .val (.int (Int32.ofNat (q + (i + 1)))), .val (.int (Int32.ofNat len)), .val (.int (Int32.ofNat (i + 1))), .val (.int (cv A (o + i)))] [])) := by
        have := c9
        rw [succ32, succ32, succ32] at this
        exact this
      exact ih (i + 1) (by omega) _ (Or.inr ⟨_, rfl, rfl⟩) T7 _ (by rw [copyLocs_step, ← List.append_assoc]; exact X7) (pl.trans p7) (fl.step (by omega) hlt (by simp)) c10
  obtain ⟨T9, B9, z9, X9, p9, f9, g9⟩ := loop len 0 (by omega) .unset (Or.inl rfl) s₁ B (by simpa [copyLocs] using X0) ⟨hB0.1, fun _ _ => rfl, rfl⟩ (Laid.zero _ _ _) c2
  have c11 : Steps p.tables e below (s₁.setTop (entryFrame m #[.ref b, .int (Int32.ofNat o), .ref d, .int (Int32.ofNat q), .int (Int32.ofNat len)] 7)) (T9.setTop (mkF m 46 #[.val (.ref b), .val (.int (Int32.ofNat (o + len))), .val (.ref d), .val (.int (Int32.ofNat (q + len))), .val (.int (Int32.ofNat len)), .val (.int (Int32.ofNat len)), z9] [.int (Int32.ofNat len)])) := g9.trans (by
    refine XS.iload X9.here hexec rfl (hb hbytes d3) rfl ?_
    refine XS.iload X9.here hexec rfl (hb hbytes d5) rfl ?_
    refine XS.icmpYes X9.here hexec rfl (pc0 := 7) rfl (hb hbytes d7) rfl (ii_ge_t (nlt32 (by omega) (Nat.le_refl _))) (by decide) rfl ?_
    refine XS.iload X9.here hexec rfl (hb hbytes d44) rfl ?_
    exact Steps.refl _)
  exact ⟨T9, some (.int (Int32.ofNat len)), _, _, _, X9, by simp, rfl, rfl, (fun h => by cases h), ⟨rfl, B9, p9.from hh0, f9⟩, fun fs hl => c11.trans (X9.ireturnOut hexec hret rfl (Or.inl rfl) (hb hbytes d46) hl)⟩
end Cmp5
namespace Cmp3
def yN : MethodName := ⟨"java/lang/StringUTF16", "compress", "([CII)[B"⟩
abbrev yB : ByteArray := jdk_52_method_16_code
theorem d0 : decode yB 0 = .ok (.iload_n 2, 1) := by decide +kernel
theorem d1 : decode yB 1 = .ok (.newarray .byte, 2) := by decide +kernel
theorem d3 : decode yB 3 = .ok (.astore_n 3, 1) := by decide +kernel
theorem d4 : decode yB 4 = .ok (.aload_n 0, 1) := by decide +kernel
theorem d5 : decode yB 5 = .ok (.iload_n 1, 1) := by decide +kernel
theorem d6 : decode yB 6 = .ok (.aload_n 3, 1) := by decide +kernel
theorem d7 : decode yB 7 = .ok (.iconst 0, 1) := by decide +kernel
theorem d8 : decode yB 8 = .ok (.iload_n 2, 1) := by decide +kernel
theorem d9 : decode yB 9 = .ok (.invokestatic 115, 3) := by decide +kernel
theorem d12 : decode yB 12 = .ok (.istore 4, 2) := by decide +kernel
theorem d14 : decode yB 14 = .ok (.iload 4, 2) := by decide +kernel
theorem d16 : decode yB 16 = .ok (.iload_n 2, 1) := by decide +kernel
theorem d17 : decode yB 17 = .ok (.if_icmp (.eq) 40, 3) := by decide +kernel
theorem d57 : decode yB 57 = .ok (.aload_n 3, 1) := by decide +kernel
theorem d58 : decode yB 58 = .ok (.areturn, 1) := by decide +kernel
def site : List Cond := [.arrayClass .byte, Cmp5.tab] ++ staticW U16 115 Cmp5.yN
def tab : Cond := tabOf yN yB 6 (some (.array .byte)) site
def P (b : Addr) (A : Cell) (o len : Nat) (args : Array Value) (s : State) : Prop := args = #[.ref b, .int (Int32.ofNat o), .int (Int32.ofNat len)] ∧ Ch b A s ∧ o + len ≤ A.slots.size ∧ len ≤ 536870912 ∧ ∀ i, i < len → ¬ 255 < cv A (o + i)
def E (b : Addr) (A : Cell) (o len : Nat) (r : Option Value) (s u : State) : Prop := NewArr .byte "[B" len (fun j => .int (lo8 (cv A (o + j)))) r s u ∧ u.heap.size = s.heap.size + 1
/-- no char of the range above 255: a new byte[] of their low bytes -/
theorem law (l : Launch) (b : Addr) (A : Cell) (o len : Nat) : Law l yN 3 3 1 18 yB 6 (some (.array .byte)) site (P b A o len) (E b A o len) [] 1 len := by
  refine Law.of_walk (plainFor_of_name (by decide +kernel)) (by decide +kernel) (by decide +kernel) (by decide) (fun _ _ h => by rw [h.1]; rfl) (fun _ U U' hal hh h => ⟨h.1, h.2.1.mv hal hh, h.2.2⟩) (fun r U U' V V' h1 hal h2 h => ⟨NewArr.mv r U U' V V' h1 hal h2 h.1, by rw [h1, h2]; exact h.2⟩) ?_
  intro p e s m args below meth c s₁ X0 hexec hbytes hml hret hlk hnm hown hh0 W hP
  obtain ⟨rfl, hA, l1, l2, hp⟩ := hP
  have a31 := hA.1.2.2.2
  have c1 : Steps p.tables e below (s₁.setTop (entryFrame m #[.ref b, .int (Int32.ofNat o), .int (Int32.ofNat len)] 6)) (s₁.setTop (mkF m 0 #[.val (.ref b), .val (.int (Int32.ofNat o)), .val (.int (Int32.ofNat len)), .unset, .unset, .unset] [])) := entry rfl
  have c2 : Steps p.tables e below (s₁.setTop (entryFrame m #[.ref b, .int (Int32.ofNat o), .int (Int32.ofNat len)] 6)) (s₁.setTop (mkF m 1 #[.val (.ref b), .val (.int (Int32.ofNat o)), .val (.int (Int32.ofNat len)), .unset, .unset, .unset] [.int (Int32.ofNat len)])) := c1.trans (by
    refine XS.iloadN X0.here hexec rfl (hb hbytes d0) rfl ?_
    exact Steps.refl _)
  obtain ⟨T3, B3, X3, ba3, bs3, bv3, bh3, bf3, st3⟩ := X0.anew hexec (atype := .byte) (wk W (.arrayClass .byte)) rfl (by show len * 1 ≤ _; omega) (by omega) (g := (mkF m 1 #[.val (.ref b), .val (.int (Int32.ofNat o)), .val (.int (Int32.ofNat len)), .unset, .unset, .unset] [.int (Int32.ofNat len)])) rfl (hb hbytes d1) (rest := []) rfl (Nat.le_refl _) (by show 0 + len ≤ len; omega)
  rw [hh0] at ba3 st3
  have kp3 : XT.Kept s T3 := (XT.Kept.of_eq hh0).push bh3
  have hA3 := hA.keep X3.warmed.alike (kp3 _ _ hA.1.1)
  have hne : b ≠ s.heap.size := hA.1.ne
  have c4 : Steps p.tables e below (s₁.setTop (entryFrame m #[.ref b, .int (Int32.ofNat o), .int (Int32.ofNat len)] 6)) (T3.setTop (mkF m 3 #[.val (.ref b), .val (.int (Int32.ofNat o)), .val (.int (Int32.ofNat len)), .unset, .unset, .unset] [.ref s.heap.size])) := c2.trans (st3 _ (Steps.refl _))
  have c5 : Steps p.tables e below (s₁.setTop (entryFrame m #[.ref b, .int (Int32.ofNat o), .int (Int32.ofNat len)] 6)) (T3.setTop (mkF m 9 #[.val (.ref b), .val (.int (Int32.ofNat o)), .val (.int (Int32.ofNat len)), .val (.ref s.heap.size), .unset, .unset] [.int (Int32.ofNat len), .int 0, .ref s.heap.size, .int (Int32.ofNat o), .ref b])) := c4.trans (by
    refine XS.astoreN X3.here hexec rfl (hb hbytes d3) rfl rfl rfl ?_
    refine XS.aloadN X3.here hexec rfl (hb hbytes d4) rfl rfl ?_
    refine XS.iloadN X3.here hexec rfl (hb hbytes d5) rfl ?_
    refine XS.aloadN X3.here hexec rfl (hb hbytes d6) rfl rfl ?_
    refine iconstV X3.here hexec rfl 0 (hb hbytes d7) (by decide) ?_
    refine XS.iloadN X3.here hexec rfl (hb hbytes d8) rfl ?_
    exact Steps.refl _)
  obtain ⟨v6, T6, X6, E6, g6⟩ := X3.callS hexec (Cmp5.law l b A s.heap.size B3 o 0 len) hown (wks W (staticW U16 115 Cmp5.yN)) (wk W Cmp5.tab) (W := 0) (Nat.le_of_ble_eq_true rfl) (Nat.le_of_ble_eq_true rfl) (Nat.le_refl _) (by show 0 + len + 0 ≤ len; omega) (g := (mkF m 9 #[.val (.ref b), .val (.int (Int32.ofNat o)), .val (.int (Int32.ofNat len)), .val (.ref s.heap.size), .unset, .unset] [.int (Int32.ofNat len), .int (Int32.ofNat 0), .ref s.heap.size, .int (Int32.ofNat o), .ref b])) rfl (by rw [hml]; rfl) c5 (argsL := [.ref b, .int (Int32.ofNat o), .ref s.heap.size, .int (Int32.ofNat 0), .int (Int32.ofNat len)]) (rest := []) rfl rfl (by show 2 * 0 + 0 ≤ _; decide) (hb hbytes d9) (⟨rfl, hA3, ba3, hne, l1, by rw [bs3]; simp, hp⟩)
  obtain ⟨rfl, B6, p6, f6⟩ := E6
  have c7 : Steps p.tables e below (s₁.setTop (entryFrame m #[.ref b, .int (Int32.ofNat o), .int (Int32.ofNat len)] 6)) (T6.setTop (mkF m 12 #[.val (.ref b), .val (.int (Int32.ofNat o)), .val (.int (Int32.ofNat len)), .val (.ref s.heap.size), .unset, .unset] [.int (Int32.ofNat len)])) := g6
  have c8 : Steps p.tables e below (s₁.setTop (entryFrame m #[.ref b, .int (Int32.ofNat o), .int (Int32.ofNat len)] 6)) (T6.setTop (mkF m 58 #[.val (.ref b), .val (.int (Int32.ofNat o)), .val (.int (Int32.ofNat len)), .val (.ref s.heap.size), .val (.int (Int32.ofNat len)), .unset] [.ref s.heap.size])) := c7.trans (by
    refine XS.istore X6.here hexec rfl (hb hbytes d12) rfl rfl ?_
    refine XS.iload X6.here hexec rfl (hb hbytes d14) rfl ?_
    refine XS.iloadN X6.here hexec rfl (hb hbytes d16) rfl ?_
    refine XS.icmpYes X6.here hexec rfl (pc0 := 17) rfl (hb hbytes d17) rfl (ii_eq_t rfl) (by decide) rfl ?_
    refine XS.aloadN X6.here hexec rfl (hb hbytes d57) rfl rfl ?_
    exact Steps.refl _)
  have X8 := X6.wide (L' := []) (cells' := 1) (slots' := len) (fun x hx hlt => by
    simp only [List.nil_append, copyLocs, List.mem_map, List.mem_range] at hx
    obtain ⟨i, -, rfl⟩ := hx
    exact absurd hlt (Nat.lt_irrefl _)) (Nat.le_refl _) (by omega)
  exact ⟨T6, some (.ref s.heap.size), _, _, _, X8, rfl, rfl, rfl, (fun h => by cases h), ⟨⟨rfl, B6, ba3.like (X3.warmed.alike.symm.trans X6.warmed.alike) p6.1 f6.1 f6.2.1 f6.2.2.1, f6.2.1.trans bv3, by rw [X6.warmed.alike.findClass, f6.1]; exact bf3, by rw [f6.2.2.1, bs3]; simp, fun j hj => by rw [f6.2.2.2 j, if_pos (by omega)]; rfl, kp3.put p6 (Nat.le_refl _)⟩, by rw [p6.2.2, bh3, hh0]; simp⟩, fun fs hl => c8.trans (X8.areturnOut hexec rfl hret rfl (hb hbytes d58) hl)⟩
end Cmp3
namespace CodL
def yN : MethodName := ⟨"java/lang/StringUTF16", "coderFromArrayLen", "([BI)B"⟩
abbrev yB : ByteArray := jdk_52_method_15_code
theorem d0 : decode yB 0 = .ok (.iload_n 1, 1) := by decide +kernel
theorem d1 : decode yB 1 = .ok (.aload_n 0, 1) := by decide +kernel
theorem d2 : decode yB 2 = .ok (.arraylength, 1) := by decide +kernel
theorem d3 : decode yB 3 = .ok (.isub, 1) := by decide +kernel
theorem d4 : decode yB 4 = .ok (.bipush 31, 2) := by decide +kernel
theorem d6 : decode yB 6 = .ok (.iushr, 1) := by decide +kernel
theorem d7 : decode yB 7 = .ok (.i2b, 1) := by decide +kernel
theorem d8 : decode yB 8 = .ok (.ireturn, 1) := by decide +kernel
def site : List Cond := []
def tab : Cond := tabOf yN yB 2 (some .byte) site
def P (d : Addr) (B : Cell) (args : Array Value) (s : State) : Prop := args = #[.ref d, .int (Int32.ofNat B.slots.size)] ∧ Arr .byte d B s
def E (r : Option Value) (s u : State) : Prop := XT.PureE (some (.int 0)) r s u
/-- an array as long as the number of chars: LATIN1 -/
theorem law (l : Launch) (d : Addr) (B : Cell) : Law l yN 2 2 0 0 yB 2 (some .byte) site (P d B) E [] 0 0 := by
  refine Law.of_walk (plainFor_of_name (by decide +kernel)) (by decide +kernel) (by decide +kernel) (by decide) (fun _ _ h => by rw [h.1]; rfl) (fun _ U U' hal hh h => ⟨h.1, h.2.mv hal hh⟩) (fun r U U' V V' h1 hal h2 h => XT.PureE.mv r U U' V V' h1 hal h2 h) ?_
  intro p e s m args below meth c s₁ X0 hexec hbytes hml hret hlk hnm hown hh0 W hP
  obtain ⟨rfl, hB⟩ := hP
  have hB0 := hB.mv X0.warmed.alike hh0
  have c1 : Steps p.tables e below (s₁.setTop (entryFrame m #[.ref d, .int (Int32.ofNat B.slots.size)] 2)) (s₁.setTop (mkF m 0 #[.val (.ref d), .val (.int (Int32.ofNat B.slots.size))] [])) := entry rfl
  have c2 : Steps p.tables e below (s₁.setTop (entryFrame m #[.ref d, .int (Int32.ofNat B.slots.size)] 2)) (s₁.setTop (mkF m 2 #[.val (.ref d), .val (.int (Int32.ofNat B.slots.size))] [.ref d, .int (Int32.ofNat B.slots.size)])) := c1.trans (by
    refine XS.iloadN X0.here hexec rfl (hb hbytes d0) rfl ?_
    refine XS.aloadN X0.here hexec rfl (hb hbytes d1) rfl rfl ?_
    exact Steps.refl _)
  have c3 : Steps p.tables e below (s₁.setTop (entryFrame m #[.ref d, .int (Int32.ofNat B.slots.size)] 2)) (s₁.setTop (mkF m 8 #[.val (.ref d), .val (.int (Int32.ofNat B.slots.size))] [.int (lo8 (ushr (Int32.ofNat B.slots.size - Int32.ofNat B.slots.size) 31))])) := c2.trans (by
    refine X0.alen hexec hB0 rfl rfl (hb hbytes d2) ?_
    refine XS.isub X0.here hexec rfl (hb hbytes d3) rfl ?_
    refine bipushV X0.here hexec rfl 31 (hb hbytes d4) (by decide) ?_
    refine iushr X0.here hexec rfl (hb hbytes d6) rfl ?_
    refine i2b X0.here hexec rfl (hb hbytes d7) rfl ?_
    exact Steps.refl _)
  have e0 : lo8 (ushr (Int32.ofNat B.slots.size - Int32.ofNat B.slots.size) 31) = 0 := by rw [Int32.sub_self]; decide
  rw [e0] at c3
  exact ⟨s₁, some (.int 0), _, _, _, X0, rfl, rfl, rfl, (fun h => by cases h), ⟨rfl, hh0⟩, fun fs hl => c3.trans (X0.ireturnOut hexec hret rfl (Or.inr (Or.inr (Or.inl rfl))) (hb hbytes d8) hl)⟩
end CodL
/-- the String at a is Latin-1 over a new byte[] (the heap's one new cell): the low bytes of the len chars of A from o on; every cell but a is kept -/
def Got (a : Addr) (D : Cell) (fV fC : Field) (A : Cell) (o len : Nat) (r : Option Value) (s u : State) : Prop := r = none ∧ ∃ D' V : Cell, Blank "java/lang/String" a D' u ∧ Same D D' [fV.slot, fC.slot] ∧ D'.slots[fV.slot]? = some (.ref s.heap.size) ∧ D'.slots[fC.slot]? = some (.int 0) ∧ Arr .byte s.heap.size V u ∧ V.vm = .none ∧ u.vm.findClass "[B" = some V.cls ∧ V.slots.size = len ∧ (∀ j, j < len → V.slots[j]? = some (.int (lo8 (cv A (o + j))))) ∧ (∀ (y : Addr) (c : Cell), y ≠ a → s.heap[y]? = some c → u.heap[y]? = some c) ∧ u.heap.size = s.heap.size + 1
theorem Got.mv {a : Addr} {D A : Cell} {fV fC : Field} {o len : Nat} : ∀ r (U U' V V' : State), U'.heap = U.heap → V.vm.Alike V'.vm → V'.heap = V.heap → Got a D fV fC A o len r U V → Got a D fV fC A o len r U' V' :=
  fun r U U' V V' h1 hal h2 ⟨e0, D', X, a1, a2, a3, a4, a5, a6, a7, a8, a9, a10, a11⟩ => ⟨e0, D', X, a1.mv hal h2, a2, by rw [h1]; exact a3, a4, by rw [h1]; exact a5.mv hal h2, a6, by rw [hal.findClass]; exact a7, a8, a9, by rw [h1, h2]; exact a10, by rw [h1, h2]; exact a11⟩
namespace New4
def yN : MethodName := ⟨"java/lang/String", "<init>", "([CIILjava/lang/Void;)V"⟩
abbrev yB : ByteArray := jdk_42_method_149_code
theorem d0 : decode yB 0 = .ok (.aload_n 0, 1) := by decide +kernel
theorem d1 : decode yB 1 = .ok (.invokespecial 1, 3) := by decide +kernel
theorem d4 : decode yB 4 = .ok (.iload_n 3, 1) := by decide +kernel
theorem d5 : decode yB 5 = .ok (.ifCond (.ne) 22, 3) := by decide +kernel
theorem d27 : decode yB 27 = .ok (.getstatic 38, 3) := by decide +kernel
theorem d30 : decode yB 30 = .ok (.ifCond (.eq) 28, 3) := by decide +kernel
theorem d33 : decode yB 33 = .ok (.aload_n 1, 1) := by decide +kernel
theorem d34 : decode yB 34 = .ok (.iload_n 2, 1) := by decide +kernel
theorem d35 : decode yB 35 = .ok (.iload_n 3, 1) := by decide +kernel
theorem d36 : decode yB 36 = .ok (.invokestatic 177, 3) := by decide +kernel
theorem d39 : decode yB 39 = .ok (.astore 5, 2) := by decide +kernel
theorem d41 : decode yB 41 = .ok (.aload_n 0, 1) := by decide +kernel
theorem d42 : decode yB 42 = .ok (.aload 5, 2) := by decide +kernel
theorem d44 : decode yB 44 = .ok (.iload_n 3, 1) := by decide +kernel
theorem d45 : decode yB 45 = .ok (.invokestatic 47, 3) := by decide +kernel
theorem d48 : decode yB 48 = .ok (.putfield 15, 3) := by decide +kernel
theorem d51 : decode yB 51 = .ok (.aload_n 0, 1) := by decide +kernel
theorem d52 : decode yB 52 = .ok (.aload 5, 2) := by decide +kernel
theorem d54 : decode yB 54 = .ok (.putfield 9, 3) := by decide +kernel
theorem d57 : decode yB 57 = .ok (.return_, 1) := by decide +kernel
def site : List Cond := [.fieldLink "java/lang/String" 38 "java/lang/String" "COMPACT_STRINGS" "Z", Cmp3.tab, CodL.tab, .laysFinal "java/lang/String" "java/lang/String" "value" "[B", .fieldLink "java/lang/String" 9 "java/lang/String" "value" "[B", .laysFinal "java/lang/String" "java/lang/String" "coder" "B", .fieldLink "java/lang/String" 15 "java/lang/String" "coder" "B"] ++ objW "java/lang/String" 1 ++ staticW "java/lang/String" 177 Cmp3.yN ++ staticW "java/lang/String" 47 CodL.yN
def tab : Cond := tabOf yN yB 6 none site
def P (a : Addr) (D : Cell) (fV fC : Field) (b : Addr) (A : Cell) (z : Int32) (o len : Nat) (args : Array Value) (s : State) : Prop := args = #[.ref a, .ref b, .int (Int32.ofNat o), .int (Int32.ofNat len), .null] ∧ Blank "java/lang/String" a D s ∧ Found "java/lang/String" "value" "[B" fV s ∧ Found "java/lang/String" "coder" "B" fC s ∧ Ch b A s ∧ StaticIs s "java/lang/String" "COMPACT_STRINGS" "Z" (.int z) ∧ ¬ z = 0 ∧ 0 < len ∧ o + len ≤ A.slots.size ∧ len ≤ 536870912 ∧ ∀ i, i < len → ¬ 255 < cv A (o + i)
def E (a : Addr) (D : Cell) (fV fC : Field) (A : Cell) (o len : Nat) (r : Option Value) (s u : State) : Prop := Got a D fV fC A o len r s u
/-- len > 0, no char of the range above 255: a Latin-1 String of their low bytes -/
theorem law (l : Launch) (a : Addr) (D : Cell) (fV fC : Field) (b : Addr) (A : Cell) (z : Int32) (o len : Nat) : Law l yN 5 4 2 35 yB 6 none site (P a D fV fC b A z o len) (E a D fV fC A o len) [⟨a, fC.slot⟩, ⟨a, fV.slot⟩] 1 len := by
  refine Law.of_walk (plainFor_of_name (by decide +kernel)) (by decide +kernel) (by decide +kernel) (by decide) (fun _ _ h => by rw [h.1]; rfl) (fun _ U U' hal hh h => ⟨h.1, h.2.1.mv hal hh, h.2.2.1.al hal, h.2.2.2.1.al hal, h.2.2.2.2.1.mv hal hh, h.2.2.2.2.2.1.there hal hh, h.2.2.2.2.2.2⟩) (fun r U U' V V' h1 hal h2 h => Got.mv r U U' V V' h1 hal h2 h) ?_
  intro p e s m args below meth c s₁ X0 hexec hbytes hml hret hlk hnm hown hh0 W hP
  obtain ⟨rfl, hB, f1, f2, hA, s1, hz, l0, l1, l2, hp⟩ := hP
  have a31 := hA.1.2.2.2
  have c1 : Steps p.tables e below (s₁.setTop (entryFrame m #[.ref a, .ref b, .int (Int32.ofNat o), .int (Int32.ofNat len), .null] 6)) (s₁.setTop (mkF m 0 #[.val (.ref a), .val (.ref b), .val (.int (Int32.ofNat o)), .val (.int (Int32.ofNat len)), .val .null, .unset] [])) := entry rfl
  have c2 : Steps p.tables e below (s₁.setTop (entryFrame m #[.ref a, .ref b, .int (Int32.ofNat o), .int (Int32.ofNat len), .null] 6)) (s₁.setTop (mkF m 1 #[.val (.ref a), .val (.ref b), .val (.int (Int32.ofNat o)), .val (.int (Int32.ofNat len)), .val .null, .unset] [.ref a])) := c1.trans (by
    refine XS.aloadN X0.here hexec rfl (hb hbytes d0) rfl rfl ?_
    exact Steps.refl _)
  obtain ⟨T3, X3, q3, st3⟩ := X0.oinit hexec hown (wks W (objW "java/lang/String" 1)) (g := (mkF m 1 #[.val (.ref a), .val (.ref b), .val (.int (Int32.ofNat o)), .val (.int (Int32.ofNat len)), .val .null, .unset] [.ref a])) rfl (by rw [hml]; rfl) (rest := []) rfl (hb hbytes d1) (W := 0) (by show 2 * 0 + 0 ≤ _; decide) (Nat.le_of_ble_eq_true rfl) (Nat.le_of_ble_eq_true rfl)
  have hh3 := q3.trans hh0
  have c4 : Steps p.tables e below (s₁.setTop (entryFrame m #[.ref a, .ref b, .int (Int32.ofNat o), .int (Int32.ofNat len), .null] 6)) (T3.setTop (mkF m 27 #[.val (.ref a), .val (.ref b), .val (.int (Int32.ofNat o)), .val (.int (Int32.ofNat len)), .val .null, .unset] [])) := (c2.trans (st3 _ (Steps.refl _))).trans (by
    refine XS.iloadN X3.here hexec rfl (hb hbytes d4) rfl ?_
    refine XS.ifYes X3.here hexec rfl (pc0 := 5) rfl (hb hbytes d5) rfl (i0_ne_t (nz32 (by omega) l0)) (by decide) rfl ?_
    exact Steps.refl _)
  obtain ⟨T5, X5, q5, st5⟩ := X3.sget hexec hown (wk W (.fieldLink "java/lang/String" 38 "java/lang/String" "COMPACT_STRINGS" "Z")) s1 (fun _ _ h => by rw [hh3]; exact h) (g := (mkF m 27 #[.val (.ref a), .val (.ref b), .val (.int (Int32.ofNat o)), .val (.int (Int32.ofNat len)), .val .null, .unset] [])) rfl (hb hbytes d27)
  have hh5 := q5.trans hh3
  have c6 : Steps p.tables e below (s₁.setTop (entryFrame m #[.ref a, .ref b, .int (Int32.ofNat o), .int (Int32.ofNat len), .null] 6)) (T5.setTop (mkF m 30 #[.val (.ref a), .val (.ref b), .val (.int (Int32.ofNat o)), .val (.int (Int32.ofNat len)), .val .null, .unset] [.int z])) := c4.trans (st5 _ (Steps.refl _))
  have c7 : Steps p.tables e below (s₁.setTop (entryFrame m #[.ref a, .ref b, .int (Int32.ofNat o), .int (Int32.ofNat len), .null] 6)) (T5.setTop (mkF m 36 #[.val (.ref a), .val (.ref b), .val (.int (Int32.ofNat o)), .val (.int (Int32.ofNat len)), .val .null, .unset] [.int (Int32.ofNat len), .int (Int32.ofNat o), .ref b])) := c6.trans (by
    refine XS.ifNo X5.here hexec rfl (hb hbytes d30) rfl (i0_eq_f hz) ?_
    refine XS.aloadN X5.here hexec rfl (hb hbytes d33) rfl rfl ?_
    refine XS.iloadN X5.here hexec rfl (hb hbytes d34) rfl ?_
    refine XS.iloadN X5.here hexec rfl (hb hbytes d35) rfl ?_
    exact Steps.refl _)
  obtain ⟨v8, T8, X8, E8, g8⟩ := X5.callS hexec (Cmp3.law l b A o len) hown (wks W (staticW "java/lang/String" 177 Cmp3.yN)) (wk W Cmp3.tab) (W := 0) (Nat.le_of_ble_eq_true rfl) (Nat.le_of_ble_eq_true rfl) (Nat.le_refl _) (by show 0 + len ≤ len; omega) (g := (mkF m 36 #[.val (.ref a), .val (.ref b), .val (.int (Int32.ofNat o)), .val (.int (Int32.ofNat len)), .val .null, .unset] [.int (Int32.ofNat len), .int (Int32.ofNat o), .ref b])) rfl (by rw [hml]; rfl) c7 (argsL := [.ref b, .int (Int32.ofNat o), .int (Int32.ofNat len)]) (rest := []) rfl rfl (by show 2 * 0 + 0 ≤ _; decide) (hb hbytes d36) (⟨rfl, hA.mv X5.warmed.alike hh5, l1, l2, hp⟩)
  obtain ⟨e8, z8⟩ := E8
  obtain ⟨rfl, N, n1, n2, n3, n4, n5, n6⟩ := NewArr.mv _ T5 s _ _ hh5.symm (Vm.Alike.refl _) rfl e8
  rw [hh5] at z8
  have hB1 := hB.keep X8.warmed.alike (n6 _ _ hB.1)
  have hne : s.heap.size ≠ a := (Nat.ne_of_lt (Array.getElem?_eq_some_iff.mp hB.1).1).symm
  have c9 : Steps p.tables e below (s₁.setTop (entryFrame m #[.ref a, .ref b, .int (Int32.ofNat o), .int (Int32.ofNat len), .null] 6)) (T8.setTop (mkF m 39 #[.val (.ref a), .val (.ref b), .val (.int (Int32.ofNat o)), .val (.int (Int32.ofNat len)), .val .null, .unset] [.ref s.heap.size])) := g8
  have c10 : Steps p.tables e below (s₁.setTop (entryFrame m #[.ref a, .ref b, .int (Int32.ofNat o), .int (Int32.ofNat len), .null] 6)) (T8.setTop (mkF m 45 #[.val (.ref a), .val (.ref b), .val (.int (Int32.ofNat o)), .val (.int (Int32.ofNat len)), .val .null, .val (.ref s.heap.size)] [.int (Int32.ofNat N.slots.size), .ref s.heap.size, .ref a])) := by
    have hc : Steps p.tables e below (s₁.setTop (entryFrame m #[.ref a, .ref b, .int (Int32.ofNat o), .int (Int32.ofNat len), .null] 6)) (T8.setTop (mkF m 45 #[.val (.ref a), .val (.ref b), .val (.int (Int32.ofNat o)), .val (.int (Int32.ofNat len)), .val .null, .val (.ref s.heap.size)] [.int (Int32.ofNat len), .ref s.heap.size, .ref a])) := c9.trans (by
      refine XS.astore X8.here hexec rfl (hb hbytes d39) rfl rfl rfl ?_
      refine XS.aloadN X8.here hexec rfl (hb hbytes d41) rfl rfl ?_
      refine XS.aload X8.here hexec rfl (hb hbytes d42) rfl rfl ?_
      refine XS.iloadN X8.here hexec rfl (hb hbytes d44) rfl ?_
      exact Steps.refl _)
    rw [n4]; exact hc
  obtain ⟨v11, T11, X11, E11, g11⟩ := X8.callS hexec (CodL.law l s.heap.size N) hown (wks W (staticW "java/lang/String" 47 CodL.yN)) (wk W CodL.tab) (W := 1) (Nat.le_of_ble_eq_true rfl) (Nat.le_of_ble_eq_true rfl) (Nat.le_refl _) (by show 0 + len + 0 ≤ len; omega) (g := (mkF m 45 #[.val (.ref a), .val (.ref b), .val (.int (Int32.ofNat o)), .val (.int (Int32.ofNat len)), .val .null, .val (.ref s.heap.size)] [.int (Int32.ofNat N.slots.size), .ref s.heap.size, .ref a])) rfl (by rw [hml]; rfl) c10 (argsL := [.ref s.heap.size, .int (Int32.ofNat N.slots.size)]) (rest := [.ref a]) rfl rfl (by show 2 * 0 + (1 + 0) ≤ _; decide) (hb hbytes d45) (⟨rfl, n1⟩)
  obtain ⟨rfl, q11⟩ := E11
  have hB11 := hB1.mv (X8.warmed.alike.symm.trans X11.warmed.alike) q11
  have c12 : Steps p.tables e below (s₁.setTop (entryFrame m #[.ref a, .ref b, .int (Int32.ofNat o), .int (Int32.ofNat len), .null] 6)) (T11.setTop (mkF m 48 #[.val (.ref a), .val (.ref b), .val (.int (Int32.ofNat o)), .val (.int (Int32.ofNat len)), .val .null, .val (.ref s.heap.size)] [.int 0, .ref a])) := g11
  obtain ⟨T13, X13, p13, bl13, sl13, st13⟩ := X11.finit hexec hown (wk W (.fieldLink "java/lang/String" 15 "java/lang/String" "coder" "B")) (Or.inr ⟨_, (wk W (.laysFinal "java/lang/String" "java/lang/String" "coder" "B"))⟩) (Or.inl ⟨rfl, hnm⟩) f2 (Or.inl rfl) hB11 (t := .byte) (by decide +kernel) rfl (g := (mkF m 48 #[.val (.ref a), .val (.ref b), .val (.int (Int32.ofNat o)), .val (.int (Int32.ofNat len)), .val .null, .val (.ref s.heap.size)] [.int 0, .ref a])) rfl (rest := []) rfl (hb hbytes d48)
  have c14 : Steps p.tables e below (s₁.setTop (entryFrame m #[.ref a, .ref b, .int (Int32.ofNat o), .int (Int32.ofNat len), .null] 6)) (T13.setTop (mkF m 54 #[.val (.ref a), .val (.ref b), .val (.int (Int32.ofNat o)), .val (.int (Int32.ofNat len)), .val .null, .val (.ref s.heap.size)] [.ref s.heap.size, .ref a])) := (c12.trans (st13 _ (Steps.refl _))).trans (by
    refine XS.aloadN X13.here hexec rfl (hb hbytes d51) rfl rfl ?_
    refine XS.aload X13.here hexec rfl (hb hbytes d52) rfl rfl ?_
    exact Steps.refl _)
  obtain ⟨T15, X15, p15, bl15, sl15, st15⟩ := X13.finit hexec hown (wk W (.fieldLink "java/lang/String" 9 "java/lang/String" "value" "[B")) (Or.inr ⟨_, (wk W (.laysFinal "java/lang/String" "java/lang/String" "value" "[B"))⟩) (Or.inl ⟨rfl, hnm⟩) f1 (Or.inl rfl) bl13 (t := (.array .byte)) (by decide +kernel) rfl (g := (mkF m 54 #[.val (.ref a), .val (.ref b), .val (.int (Int32.ofNat o)), .val (.int (Int32.ofNat len)), .val .null, .val (.ref s.heap.size)] [.ref s.heap.size, .ref a])) rfl (rest := []) rfl (hb hbytes d54)
  have c16 : Steps p.tables e below (s₁.setTop (entryFrame m #[.ref a, .ref b, .int (Int32.ofNat o), .int (Int32.ofNat len), .null] 6)) (T15.setTop (mkF m 57 #[.val (.ref a), .val (.ref b), .val (.int (Int32.ofNat o)), .val (.int (Int32.ofNat len)), .val .null, .val (.ref s.heap.size)] [])) := c14.trans (st15 _ (Steps.refl _))
  have ap := apart (Or.inr ⟨_, (wk W (.laysFinal "java/lang/String" "java/lang/String" "value" "[B"))⟩) (Or.inr ⟨_, (wk W (.laysFinal "java/lang/String" "java/lang/String" "coder" "B"))⟩) f1 f2 (t₁ := .array .byte) (t₂ := .byte) (by decide +kernel) (by decide +kernel) (by decide)
  have al := X8.warmed.alike.symm.trans X15.warmed.alike
  have n7 : T11.heap[s.heap.size]? = some N := by rw [q11]; exact n1.1
  exact ⟨T15, none, _, _, _, X15, by simp, rfl, by omega, (fun _ => rfl), ⟨rfl, _, N, bl15, ((Same.refl D _).set _ (by simp)).set _ (by simp), sl15, (Cell.slots_setSlot_ne _ ap).trans sl13, n1.keep al (p15.other hne (p13.other hne n7)), n2, by rw [al.findClass]; exact n3, n4, n5, fun y c h1 h2 => p15.other h1 (p13.other h1 (by rw [q11]; exact n6 y c h2)), by rw [p15.2.2, p13.2.2, q11]; exact z8⟩, fun fs hl => c16.trans (X15.returnOut hexec hret (hb hbytes d57) hl)⟩
end New4
namespace New1
def yN : MethodName := ⟨"java/lang/String", "<init>", "([C)V"⟩
abbrev yB : ByteArray := jdk_42_method_3_code
theorem d0 : decode yB 0 = .ok (.aload_n 0, 1) := by decide +kernel
theorem d1 : decode yB 1 = .ok (.aload_n 1, 1) := by decide +kernel
theorem d2 : decode yB 2 = .ok (.iconst 0, 1) := by decide +kernel
theorem d3 : decode yB 3 = .ok (.aload_n 1, 1) := by decide +kernel
theorem d4 : decode yB 4 = .ok (.arraylength, 1) := by decide +kernel
theorem d5 : decode yB 5 = .ok (.aconst_null, 1) := by decide +kernel
theorem d6 : decode yB 6 = .ok (.invokespecial 27, 3) := by decide +kernel
theorem d9 : decode yB 9 = .ok (.return_, 1) := by decide +kernel
def site : List Cond := [New4.tab] ++ initW "java/lang/String" 27 New4.yN
def tab : Cond := tabOf yN yB 2 none site
def P (a : Addr) (D : Cell) (fV fC : Field) (b : Addr) (A : Cell) (z : Int32) (args : Array Value) (s : State) : Prop := args = #[.ref a, .ref b] ∧ Blank "java/lang/String" a D s ∧ Found "java/lang/String" "value" "[B" fV s ∧ Found "java/lang/String" "coder" "B" fC s ∧ Ch b A s ∧ StaticIs s "java/lang/String" "COMPACT_STRINGS" "Z" (.int z) ∧ ¬ z = 0 ∧ 0 < A.slots.size ∧ A.slots.size ≤ 536870912 ∧ ∀ i, i < A.slots.size → ¬ 255 < cv A i
def E (a : Addr) (D : Cell) (fV fC : Field) (A : Cell) (r : Option Value) (s u : State) : Prop := Got a D fV fC A 0 A.slots.size r s u
/-- new String(chars), not empty, no char above 255: a Latin-1 String of their low bytes -/
theorem law (l : Launch) (a : Addr) (D : Cell) (fV fC : Field) (b : Addr) (A : Cell) (z : Int32) : Law l yN 2 1 3 52 yB 2 none site (P a D fV fC b A z) (E a D fV fC A) [⟨a, fC.slot⟩, ⟨a, fV.slot⟩] 1 A.slots.size := by
  refine Law.of_walk (plainFor_of_name (by decide +kernel)) (by decide +kernel) (by decide +kernel) (by decide) (fun _ _ h => by rw [h.1]; rfl) (fun _ U U' hal hh h => ⟨h.1, h.2.1.mv hal hh, h.2.2.1.al hal, h.2.2.2.1.al hal, h.2.2.2.2.1.mv hal hh, h.2.2.2.2.2.1.there hal hh, h.2.2.2.2.2.2⟩) (fun r U U' V V' h1 hal h2 h => Got.mv r U U' V V' h1 hal h2 h) ?_
  intro p e s m args below meth c s₁ X0 hexec hbytes hml hret hlk hnm hown hh0 W hP
  obtain ⟨rfl, hB, f1, f2, hA, s1, hz, l0, l2, hp⟩ := hP
  have c1 : Steps p.tables e below (s₁.setTop (entryFrame m #[.ref a, .ref b] 2)) (s₁.setTop (mkF m 0 #[.val (.ref a), .val (.ref b)] [])) := entry rfl
  have c2 : Steps p.tables e below (s₁.setTop (entryFrame m #[.ref a, .ref b] 2)) (s₁.setTop (mkF m 6 #[.val (.ref a), .val (.ref b)] [.null, .int (Int32.ofNat A.slots.size), .int 0, .ref b, .ref a])) := c1.trans (by
    refine XS.aloadN X0.here hexec rfl (hb hbytes d0) rfl rfl ?_
    refine XS.aloadN X0.here hexec rfl (hb hbytes d1) rfl rfl ?_
    refine iconstV X0.here hexec rfl 0 (hb hbytes d2) (by decide) ?_
    refine XS.aloadN X0.here hexec rfl (hb hbytes d3) rfl rfl ?_
    refine X0.alen hexec (hA.1.mv X0.warmed.alike hh0) rfl rfl (hb hbytes d4) ?_
    refine XS.aconstNull X0.here hexec rfl (hb hbytes d5) ?_
    exact Steps.refl _)
  obtain ⟨v3, T3, X3, E3, g3⟩ := X0.callN hexec (New4.law l a D fV fC b A z 0 A.slots.size) rfl hown (wks W (initW "java/lang/String" 27 New4.yN)) (W New4.tab (by simp only [site, List.mem_cons, List.mem_append, true_or, or_true])) (W := 0) (Nat.le_of_ble_eq_true rfl) (Nat.le_of_ble_eq_true rfl) (Nat.le_refl _) (by show 0 + A.slots.size ≤ A.slots.size; omega) (g := (mkF m 6 #[.val (.ref a), .val (.ref b)] [.null, .int (Int32.ofNat A.slots.size), .int (Int32.ofNat 0), .ref b, .ref a])) rfl (by rw [hml]; rfl) c2 (argsL := [.ref b, .int (Int32.ofNat 0), .int (Int32.ofNat A.slots.size), .null]) (rest := []) rfl rfl (by show 2 * 0 + 0 ≤ _; decide) (hb hbytes d6) (⟨rfl, hB.mv X0.warmed.alike hh0, f1.al X0.warmed.alike, f2.al X0.warmed.alike, hA.mv X0.warmed.alike hh0, s1.there X0.warmed.alike hh0, hz, l0, by omega, l2, fun i hi => by rw [Nat.zero_add]; exact hp i hi⟩)
  have e0 := Got.mv _ s₁ s _ _ hh0.symm (Vm.Alike.refl _) rfl E3
  obtain rfl := e0.1
  have c4 : Steps p.tables e below (s₁.setTop (entryFrame m #[.ref a, .ref b] 2)) (T3.setTop (mkF m 9 #[.val (.ref a), .val (.ref b)] [])) := g3
  exact ⟨T3, none, _, _, _, X3, by simp, rfl, by omega, (fun _ => rfl), e0, fun fs hl => c4.trans (X3.returnOut hexec hret (hb hbytes d9) hl)⟩
theorem pays {l : Launch} {R : Room} {p : Program} {e : Env} {below : List Frame} {s : State} {sargs : Array Value} {len W : Nat} (a : Addr) (D : Cell) (fV fC : Field) (b : Addr) (A : Cell) (z : Int32) (htab : tab.before sargs s = true) (hfr : 4 ≤ R.frames) (hlo : W + 65 ≤ R.locals) :
    Back l R p e below s sargs yN len W (fun A₁ a₁ => A₁.cells + 1 ≤ R.cells ∧ A₁.slots + A.slots.size ≤ R.slots ∧ P a D fV fC b A z a₁ A₁.U) (fun A₁ _ v₁ B₁ => E a D fV fC A v₁ A₁.U B₁.U ∧ B₁.locs = A₁.locs ++ [⟨a, fC.slot⟩, ⟨a, fV.slot⟩] ∧ B₁.cells = A₁.cells + 1 ∧ B₁.slots = A₁.slots + A.slots.size) :=
  (law l a D fV fC b A z).pays htab hfr (by omega)
end New1
end StrChars
namespace StrChars.Road
open Jvm Sem ClassFile Op Lib Jvm.Stand Jvm.Free Jvm.Free.XT
open Jvm.Lib.Cold (StaticIs)
abbrev ST : String := "java/lang/String"
/-- every table word that New1's law asks, flat -/
abbrev words : List Jvm.Cond := [.code New1.yN New1.yB 2 none, .initialized ST, .methodLink ST 27 New4.yN, .instanceMethod New4.yN,
  .code New4.yN New4.yB 6 none, .fieldLink ST 38 ST "COMPACT_STRINGS" "Z", .laysFinal ST ST "value" "[B", .fieldLink ST 9 ST "value" "[B", .laysFinal ST ST "coder" "B", .fieldLink ST 15 ST "coder" "B",
  .methodLink ST 1 Lib.objectInit, .instanceMethod Lib.objectInit, .code Lib.objectInit ⟨#[0xb1]⟩ 1 none, .methodLink ST 177 Cmp3.yN, .static Cmp3.yN, .methodLink ST 47 CodL.yN, .static CodL.yN,
  .code Cmp3.yN Cmp3.yB 6 (some (.array .byte)), .initialized U16, .arrayClass .byte, .methodLink U16 115 Cmp5.yN, .static Cmp5.yN, .code Cmp5.yN Cmp5.yB 7 (some .int), .code CodL.yN CodL.yB 2 (some .byte)]
theorem tab_of {a : Array Value} {s : State} (h : ∀ w ∈ words, w.before a s = true) : New1.tab.before a s = true := by
  have h5 : Cmp5.tab.before a s = true := unparts (wk h (.code Cmp5.yN Cmp5.yB 7 (some .int))) (wks h (.initialized Cmp5.yN.cls :: Cmp5.site))
  have hc : CodL.tab.before a s = true := unparts (wk h (.code CodL.yN CodL.yB 2 (some .byte))) (wks h (.initialized CodL.yN.cls :: CodL.site))
  have q5 : ∀ w ∈ Cmp5.tab :: words, w.before a s = true := fun w hw => (List.mem_cons.mp hw).elim (fun e => e ▸ h5) (h w)
  have h3 : Cmp3.tab.before a s = true := unparts (wk q5 (.code Cmp3.yN Cmp3.yB 6 (some (.array .byte)))) (wks q5 (.initialized Cmp3.yN.cls :: Cmp3.site))
  have q3 : ∀ w ∈ Cmp3.tab :: CodL.tab :: words, w.before a s = true := fun w hw => (List.mem_cons.mp hw).elim (fun e => e ▸ h3) fun hw => (List.mem_cons.mp hw).elim (fun e => e ▸ hc) (h w)
  have h4 : New4.tab.before a s = true := unparts (wk q3 (.code New4.yN New4.yB 6 none)) (wks q3 (.initialized New4.yN.cls :: New4.site))
  have q4 : ∀ w ∈ New4.tab :: words, w.before a s = true := fun w hw => (List.mem_cons.mp hw).elim (fun e => e ▸ h4) (h w)
  exact unparts (wk q4 (.code New1.yN New1.yB 2 none)) (wks q4 (.initialized New1.yN.cls :: New1.site))
/-- the words ride from the start Z to the walk's own state -/
theorem moved {Z s : State} {a0 args : Array Value} (hZ : Z.Warmed39 s.vm) (hw : ∀ d ∈ words, d.before a0 Z = true) : ∀ d ∈ words, d.before args s = true := fun d hd => by
  have q := hw d hd
  have t : ∀ d ∈ words, d = .arrayClass .byte ∨ (d.onTables && d.keepsFace) = true := by decide +kernel
  rcases t d hd with rfl | t
  · exact RoadKit.mvA hZ q
  · exact RoadKit.mv hZ q t
/-- WHAT COMES BACK, over the tables of the start Z: h the heap at the call, h' behind it -/
def Q (Z : State) (x : Addr) (A : Cell) (h : Heap) (v : Option Value) (h' : Heap) (L : List Loc) : Prop := v = none ∧ (∀ y ∈ L, y.base = x) ∧ RoadKit.Keep h h' [x] ∧ h'.size = h.size + 1 ∧ RoadKit.Exa Z h' x ST ∧ RoadKit.Fld Z h' x ST "value" "[B" (.ref h.size) ∧ RoadKit.Fld Z h' x ST "coder" "B" (.int 0) ∧
  (∃ V : Cell, RoadKit.Arr Z h' h.size V .byte ∧ V.vm = .none ∧ Z.vm.findClass "[B" = some V.cls ∧ V.slots.size = A.slots.size ∧ ∀ j, j < A.slots.size → V.slots[j]? = some (.int (lo8 (cv A j)))) ∧
  ∀ (O n d : String) (w : Value), RoadKit.Fld Z h x O n d w → RoadKit.slotOf Z O n d ≠ RoadKit.slotOf Z ST "value" "[B" → RoadKit.slotOf Z O n d ≠ RoadKit.slotOf Z ST "coder" "B" → RoadKit.Fld Z h' x O n d w
/-- **new String(chars) AT A CALL, IN THE ROAD'S FORM**: for specialBack behind newO: x the fresh String, b the char[] with the cell A -/
theorem back {p : Program} {l : Launch} {e : Env} {R : Room} {s : State} {args : Array Value} {below : List Frame} {len W : Nat} {Z : State} {a0 : Array Value} {h : Heap} (hZ : Z.Warmed39 s.vm) (hw : ∀ d ∈ words, d.before a0 Z = true) {kI : Nat} (wi : (Jvm.Cond.instantiable ST kI).before a0 Z = true)
    {x b : Addr} {A : Cell} {z : Int32} {v0 c0 : Value} (E : RoadKit.Exa Z h x ST) (V : RoadKit.Fld Z h x ST "value" "[B" v0) (C : RoadKit.Fld Z h x ST "coder" "B" c0) (K : RoadKit.Arr Z h b A .char) (hty : Typed .char A) (S : RoadKit.Sta Z h ST "COMPACT_STRINGS" "Z" (.int z)) (hz : ¬ z = 0)
    (l0 : 0 < A.slots.size) (l2 : A.slots.size ≤ 536870912) (hp : ∀ i, i < A.slots.size → ¬ 255 < cv A i) (hfr : 4 ≤ R.frames) (hlo : W + 65 ≤ R.locals) :
    Back l R p e below s args New1.yN len W (fun P a => a = #[.ref x, .ref b] ∧ P.U.heap = h ∧ P.cells + 1 ≤ R.cells ∧ P.slots + A.slots.size ≤ R.slots)
      (fun P _ v B => ∃ L, Q Z x A h v B.U.heap L ∧ B.locs = P.locs ++ L ∧ B.cells = P.cells + 1 ∧ B.slots = P.slots + A.slots.size) := by
  intro m meth c P g ig mk a X hg hsize hdg hW hn hp'
  obtain ⟨rfl, rfl, r1, r2⟩ := hp'
  have al : Z.vm.Alike P.U.vm := hZ.alike.trans X.warmed.alike
  obtain ⟨D, cfV, kV, iV, fV, hD, gV, stV, knV, obV, asV, slV⟩ := id V
  obtain ⟨D', cfC, kC, iC, fC, hD', gC, stC, -, -, asC, slC⟩ := id C
  cases hD.symm.trans hD'
  obtain ⟨D2, kD, e1, e2, e3, e4, e5⟩ := id E
  cases hD.symm.trans e1
  obtain ⟨c2, k2, i1, i2, i3, -⟩ := Cond.instantiable_spec wi
  cases e2.symm.trans i1
  cases e3.symm.trans i2
  obtain ⟨kU, u1, u2⟩ := al.2.2 _ _ e3
  have hB : Blank ST x D P.U := ⟨hD, ⟨knV, fun q hq => by rw [hq] at obV; cases obV⟩, by rw [al.findClass]; exact e2, kU, u1, by rw [u2]; exact i3, by rw [u2]; exact e5 i3⟩
  have F1 : Found ST "value" "[B" fV P.U := ⟨SBG.found_only al ⟨cfV, kV, iV, gV⟩, stV⟩
  have F2 : Found ST "coder" "B" fC P.U := ⟨SBG.found_only al ⟨cfC, kC, iC, gC⟩, stC⟩
  have hA : Ch b A P.U := ⟨⟨K.1, State.isArrayOf_alike al K.2.1, K.2.2, by omega⟩, hty⟩
  have hS : StaticIs P.U ST "COMPACT_STRINGS" "Z" (.int z) := by
    obtain ⟨cfS, iS, kS, fS, st, cS, t1, t2, t3, t4, t5, t6, t7⟩ := S
    exact StaticIs.there (s := { Z with heap := P.U.heap }) ⟨cfS, iS, kS, fS, st, cS, t1, t2, t3, t4, t5, (fun q => by rw [q] at t6; cases t6), t7⟩ al rfl
  obtain ⟨v, B, X', ⟨⟨hv, E', V', q1, q2, q3, q4, q5, q6, q7, q8, q9, q10, q11⟩, hl, hc, hs⟩, st⟩ := New1.pays x D fV fC b A z (tab_of (moved hZ hw)) hfr hlo m meth c P g ig mk _ X hg hsize hdg hW hn ⟨r1, r2, rfl, hB, F1, F2, hA, hS, hz, l0, l2, hp⟩
  have al' : Z.vm.Alike B.U.vm := hZ.alike.trans X'.warmed.alike
  have hsz : E'.slots.size = D.slots.size := by
    obtain ⟨-, -, -, kB, w1, w2, w3⟩ := q1
    obtain ⟨kB', y1, y2⟩ := al'.2.2 _ _ e3
    rw [q2.2.1] at w1
    cases w1.symm.trans y1
    rw [w3, e5 i3, y2]
  refine ⟨v, B, X', ⟨_, ⟨hv, ?_, ⟨by omega, fun y cy hy hn' => q10 y cy (by simpa using hn') hy, fun y cy hy => ?_⟩, q11, ⟨E', _, q1.1, by rw [q2.2.1]; exact e2, by rw [q2.2.1]; exact e3, by rw [q2.1]; exact obV, fun _ => by rw [hsz]; exact e5 i3⟩,
    ⟨E', cfV, kV, iV, fV, q1.1, gV, stV, by rw [q2.1]; exact knV, by rw [q2.1]; exact obV, by rw [q2.2.1]; exact asV, q3⟩, ⟨E', cfC, kC, iC, fC, q1.1, gC, stC, by rw [q2.1]; exact knV, by rw [q2.1]; exact obV, by rw [q2.2.1]; exact asC, q4⟩,
    ⟨V', ⟨q5.1, State.isArrayOf_alike al'.symm q5.2.1, q5.2.2.1⟩, q6, by rw [← al'.findClass]; exact q7, q8, fun j hj => by have := q9 j hj; rwa [Nat.zero_add] at this⟩, fun O n d w F n1 n2 => ?_⟩, hl, hc, hs⟩, st⟩
  · intro y hy
    simp only [List.mem_cons, List.not_mem_nil, or_false] at hy
    rcases hy with rfl | rfl <;> rfl
  · by_cases q : y = x
    · subst q
      cases hD.symm.trans hy
      exact ⟨E', q1.1, q2.2.1, q2.1, hsz⟩
    · exact ⟨cy, q10 y cy q hy, rfl, rfl, rfl⟩
  · obtain ⟨D3, cf, k, i, f, g1, g2, g3, g4, g5, g6, g7⟩ := F
    cases hD.symm.trans g1
    simp only [RoadKit.slotOf, g2, gV, gC, Option.map_some, Option.getD_some] at n1 n2
    exact ⟨E', cf, k, i, f, q1.1, g2, g3, by rw [q2.1]; exact g4, by rw [q2.1]; exact g5, by rw [q2.2.1]; exact g6, by rw [q2.2.2 f.slot (by simp [n1, n2])]; exact g7⟩
end StrChars.Road
namespace StrChars.Road
open Jvm Sem ClassFile Op Lib Jvm.Stand Jvm.Free Jvm.Free.XT
/-- WHAT COMES BACK, the byte[] as a list of values -/
def QA (Z : State) (x : Addr) (zn : Int32) (cs : List Int32) (h : Heap) (v : Option Value) (h' : Heap) (L : List Loc) : Prop := v = none ∧ (∀ y ∈ L, y.base = x) ∧ RoadKit.Keep h h' [x] ∧ h'.size = h.size + 1 ∧ RoadKit.Exa Z h' x ST ∧ RoadKit.Fld Z h' x ST "value" "[B" (.ref h.size) ∧ RoadKit.Fld Z h' x ST "coder" "B" (.int 0) ∧
  (∃ kb, Z.vm.findClass "[B" = some kb ∧ RoadKit.Arv Z h' h.size kb .byte zn (cs.map fun c => .int (lo8 c)) (.int 0)) ∧
  ∀ (O n d : String) (w : Value), RoadKit.Fld Z h x O n d w → RoadKit.slotOf Z O n d ≠ RoadKit.slotOf Z ST "value" "[B" → RoadKit.slotOf Z O n d ≠ RoadKit.slotOf Z ST "coder" "B" → RoadKit.Fld Z h' x O n d w
/-- **new String(chars) AT A CALL, THE ARRAYS AS LISTS**: the char[] at b holds cs, not empty, no char above 255 -/
theorem backArv {p : Program} {l : Launch} {e : Env} {R : Room} {s : State} {args : Array Value} {below : List Frame} {len W : Nat} {Z : State} {a0 : Array Value} {h : Heap} (hZ : Z.Warmed39 s.vm) (hw : ∀ d ∈ words, d.before a0 Z = true) {kI : Nat} (wi : (Jvm.Cond.instantiable ST kI).before a0 Z = true)
    {x b : Addr} {k : ClassId} {zn z : Int32} {cs : List Int32} {dv v0 c0 : Value} (E : RoadKit.Exa Z h x ST) (V : RoadKit.Fld Z h x ST "value" "[B" v0) (C : RoadKit.Fld Z h x ST "coder" "B" c0) (K : RoadKit.Arv Z h b k .char zn (cs.map Value.int) dv) (S : RoadKit.Sta Z h ST "COMPACT_STRINGS" "Z" (.int z)) (hz : ¬ z = 0)
    (hlen : zn.toNatClampNeg = cs.length) (h0 : 0 < cs.length) (hbig : cs.length ≤ 536870912) (hall : ∀ c ∈ cs, ¬ 255 < c) (hfr : 4 ≤ R.frames) (hlo : W + 65 ≤ R.locals) :
    Back l R p e below s args New1.yN len W (fun P a => a = #[.ref x, .ref b] ∧ P.U.heap = h ∧ P.cells + 1 ≤ R.cells ∧ P.slots + cs.length ≤ R.slots)
      (fun P _ v B => ∃ L, QA Z x zn cs h v B.U.heap L ∧ B.locs = P.locs ++ L ∧ B.cells = P.cells + 1 ∧ B.slots = P.slots + cs.length) := by
  obtain ⟨A, K1, K2, K3, K4, K5, K6⟩ := K
  have e : A.slots.size = cs.length := K3.trans hlen
  have hat : ∀ (i : Nat) (hi : i < cs.length), A.slots[i]? = some (.int cs[i]) := fun i hi => by rw [K5 i (by omega)]; simp [List.getD_eq_getElem?_getD, hi]
  have hcv : ∀ (i : Nat) (hi : i < cs.length), cv A i = cs[i] := fun i hi => by unfold cv; rw [hat i hi]
  have hty : Typed .char A := fun i v hv => by
    have hi : i < A.slots.size := (Array.getElem?_eq_some_iff.mp hv).1
    have q := K5 i hi
    rw [hv] at q
    rw [Option.some.inj q]
    exact K6 i hi
  refine Back.mono (back hZ hw wi E V C K1 hty S hz (by omega) (by omega) (fun i hi => by rw [hcv i (by omega)]; exact hall _ (List.getElem_mem _)) hfr hlo) (fun P a hp => ⟨hp.1, hp.2.1, hp.2.2.1, by rw [e]; exact hp.2.2.2⟩) (fun P a v B hp hq => ?_)
  obtain ⟨L, ⟨q1, q2, q3, q4, q5, q6, q7, ⟨V', v1, v2, v3, v4, v5⟩, q9⟩, hl, hc, hs⟩ := hq
  refine ⟨L, ⟨q1, q2, q3, q4, q5, q6, q7, ⟨V'.cls, v3, V', v1, rfl, by rw [v4, e, hlen], K4, fun i hi => ?_, fun i hi => ?_⟩, q9⟩, hl, hc, by rw [hs, e]⟩
  · have hi' : i < cs.length := by omega
    rw [v5 i (by omega), hcv i hi']; simp [List.getD_eq_getElem?_getD, hi']
  · have hi' : i < cs.length := by omega
    simp only [List.getD_eq_getElem?_getD, List.getElem?_map, List.getElem?_eq_getElem hi', Option.map_some, Option.getD_some]
    exact fits_lo8 _
end StrChars.Road
namespace StrChars.Road
open Jvm Sem ClassFile Op Lib Jvm.Stand Jvm.Free Jvm.Free.XT
/-- WHAT COMES BACK, in the writer's own shape -/
def QV (Z : State) (x : Addr) (N : Int32) (bs : List Int32) (h : Heap) (n0 : Nat) (v : Option Value) (h' : Heap) (L : List Loc) : Prop := v = none ∧ RoadKit.Fr n0 L ∧ RoadKit.Keep h h' [x] ∧ RoadKit.Exa Z h' x ST ∧ RoadKit.Fld Z h' x ST "coder" "B" (.int 0) ∧
  ∃ (t : Addr) (kb : ClassId), n0 ≤ t ∧ h.size ≤ t ∧ ¬ t = x ∧ RoadKit.Fld Z h' x ST "value" "[B" (.ref t) ∧ RoadKit.Arv Z h' t kb .byte N (bs.map Value.int) (.int 0)
/-- **new String(chars) AT A CALL, FOR THE WRITER**: a char[] of n known ints, each 0 to 255 -/
theorem backV {p : Program} {l : Launch} {e : Env} {R : Room} {s : State} {args : Array Value} {below : List Frame} {len W : Nat} {Z : State} {a0 : Array Value} {h : Heap} (hZ : Z.Warmed39 s.vm) (hw : ∀ d ∈ words, d.before a0 Z = true) {kI : Nat} (wi : (Jvm.Cond.instantiable ST kI).before a0 Z = true)
    {x b : Addr} {kC : ClassId} {cs bs : List Int32} {d v0 c0 : Value} {z N : Int32} {n n0 : Nat} (hx0 : n0 ≤ x) (hh0 : n0 ≤ h.size) (E : RoadKit.Exa Z h x ST) (V : RoadKit.Fld Z h x ST "value" "[B" v0) (C : RoadKit.Fld Z h x ST "coder" "B" c0) (K : RoadKit.Arv Z h b kC .char N (cs.map Value.int) d) (S : RoadKit.Sta Z h ST "COMPACT_STRINGS" "Z" (.int z)) (hz : ¬ z = 0)
    (hn : cs.length = n) (hN : N = Int32.ofNat n) (l0 : 0 < n) (l2 : n ≤ 4000) (hp : ∀ c ∈ cs, ¬ c < 0 ∧ ¬ (255 : Int32) < c) (hb : bs = cs.map (fun c => c.toInt8.toInt32)) (hfr : 4 ≤ R.frames) (hlo : W + 65 ≤ R.locals) :
    Back l R p e below s args (⟨"java/lang/String", "<init>", "([C)V"⟩ : MethodName) len W (fun P a => a = #[.ref x, .ref b] ∧ P.U.heap = h ∧ P.cells + 1 ≤ R.cells ∧ P.slots + n ≤ R.slots)
      (fun P _ v B => ∃ L, QV Z x N bs h n0 v B.U.heap L ∧ B.locs = P.locs ++ L ∧ B.cells = P.cells + 1 ∧ B.slots = P.slots + n) := by
  subst hn hN hb
  refine Back.mono (backArv hZ hw wi E V C K S hz (n32 (by omega)) l0 (by omega) (fun c hc => (hp c hc).2) hfr hlo) (fun P a hp => hp) (fun P a v B hp hq => ?_)
  obtain ⟨L, ⟨q1, q2, q3, q4, q5, q6, q7, ⟨kb, v1, v2⟩, q9⟩, hl, hc, hs⟩ := hq
  exact ⟨L, ⟨q1, fun y hy => by rw [q2 y hy]; exact hx0, q3, q5, q7, h.size, kb, hh0, Nat.le_refl _, Nat.ne_of_gt E.lt, q6, by rw [List.map_map]; exact v2⟩, hl, hc, hs⟩
end StrChars.Road
end Jvm.Pilot.@@N@@
namespace Jvm.Pilot.@@N@@
open Jvm Jvm.ClassFile Sem Op Lib Jvm.Free Jvm.Stand Jvm.LawKit Jvm.RoadKit Bundle Jvm.Pilot.@@N@@.Jvm.D
/-- every run that goes on from the frame g of T to t is one of G -/
abbrev Go (p : Program) (e : Env) (below : List Frame) (T : State) (g : JFrame) (G : State → Prop) : Prop := ∀ t, Steps p.tables e below (T.setTop g) t → G t
theorem own_i2c (y : Int32) (h0 : 0 ≤ y.toInt) (h1 : y.toInt ≤ 65535) : y.toUInt32.toUInt16.toUInt32.toInt32 = y := by
  rw [← Int32.toInt_inj]
  have h := c_i2c y
  omega
theorem own_and255 (x : Int32) : 0 ≤ (x &&& (255 : Int32)).toInt ∧ (x &&& (255 : Int32)).toInt ≤ 255 := by
  have h := c_and x (255 : Int32) (by decide)
  have e : (255 : Int32).toInt = 255 := by decide
  rw [e] at h
  exact h
theorem own_c255 (x : Int32) : nar .char ((x &&& (255 : Int32)).toUInt32.toUInt16.toUInt32.toInt32) = (x &&& (255 : Int32)) := by
  have h := own_and255 x
  have e := own_i2c (x &&& (255 : Int32)) h.1 (by omega)
  show ((x &&& (255 : Int32)).toUInt32.toUInt16.toUInt32.toInt32).toUInt32.toUInt16.toUInt32.toInt32 = _
  rw [e, e]
theorem own_p255 (x : Int32) : ¬ nar .char ((x &&& (255 : Int32)).toUInt32.toUInt16.toUInt32.toInt32) < 0 ∧ ¬ (255 : Int32) < nar .char ((x &&& (255 : Int32)).toUInt32.toUInt16.toUInt32.toInt32) := by
  have h := own_and255 x
  have e : (255 : Int32).toInt = 255 := by decide
  have e0 : (0 : Int32).toInt = 0 := by decide
  rw [own_c255, Int32.lt_iff_toInt_lt, Int32.lt_iff_toInt_lt, e, e0]
  omega
theorem own_narR {C : String} {v : Value} (h : v.isRef = true) : narrow (.object C) v = v := by rcases ref_cases h with rfl | ⟨_, rfl⟩ <;> rfl
theorem own_fitR {C : String} {v : Value} (h : v.isRef = true) : fits (.object C) v = true := by rcases ref_cases h with rfl | ⟨_, rfl⟩ <;> rfl
theorem pn_0 : plainName "java/lang/Record" = true := by first | (simp [plainName, overriddenIn]; done) | decide +kernel
theorem ef_jdk_30_method_1_R (m : MethodId) (x0 : Addr) : entryFrame m #[(.ref x0)] 1 = mkF m 0 #[.val (.ref x0)] [] := by first | (simp [entryFrame, mkF, argsToLocals, Value.category]; done) | rfl
theorem d_jdk_30_method_1_0 : decode jdk_30_method_1_code 0 = .ok (.aload_n 0, 1) := by decide +kernel
theorem d_jdk_30_method_1_1 : decode jdk_30_method_1_code 1 = .ok (.invokespecial 1, 3) := by decide +kernel
theorem d_jdk_30_method_1_4 : decode jdk_30_method_1_code 4 = .ok (.return_, 1) := by decide +kernel
def QRec (Z : State) (a : Addr) (h0 : Heap) (n0 : Nat) (v : Option Value) (h : Heap) (L : List Loc) : Prop := v = none ∧ Fr n0 L ∧ h = h0
set_option maxRecDepth 65536 in
set_option maxHeartbeats 40000000 in
theorem rmRec (l : Launch) (Z : State) (a0 : Array Value) (hw : ∀ d ∈ tables_1, d.before a0 Z = true) (ws : List Jvm.Cond) (a : Addr) (h0 : Heap) (n0 : Nat) (Z0 : n0 ≤ h0.size) :
    MetFree l (⟨"java/lang/Record", "<init>", "()V"⟩ : MethodName) (head1 (Jvm.Cond.code (⟨"java/lang/Record", "<init>", "()V"⟩ : MethodName) jdk_30_method_1_code 1 none :: ws) ({ frames := 1, cells := 0, slots := 0, locals := 12 } : Room)) (fun aa UU => aa = #[(.ref a)] ∧ Z.Warmed39 UU.vm ∧ UU.heap = h0) (fun _ _ _ _ _ => True) (fun _ UU oo UU' => ∃ vv LL, oo = .returned vv ∧ QRec Z a h0 n0 vv UU'.heap LL ∧ FrameEnd UU oo UU' LL ({ frames := 1, cells := 0, slots := 0, locals := 12 } : Room).cells ({ frames := 1, cells := 0, slots := 0, locals := 12 } : Room).slots) := by
  refine MetFree.of_bodySF (plainFor_of_name pn_0) hisR ?_
  intro p e s m args below meth c s₁ Bd hml0 hP hK
  obtain ⟨rfl, hZ, hh⟩ := hP
  have hx := Bd.exec
  have hby := Bd.bytes
  have hml : c.maxLocals = 1 := hml0
  have hown : s.vm.findClass "java/lang/Record" = some m.cls := findClass_of_methodNamed Bd.named
  have hnm := (name_of_methodNamed Bd.named Bd.method).1
  have hW : ∀ (k : Nat) (d : Jvm.Cond), tables_1[k]? = some d → d.before a0 Z = true := fun k d h => hw d (List.mem_of_getElem? h)
  have X0 : Stand p l e ({ frames := 1, cells := 0, slots := 0, locals := 12 } : Room) s m #[(.ref a)] below meth c s₁ [] 0 0 := Stand.of_body Bd
  have e0 : s₁.heap = h0 := by rw [← hh, Bd.state]; rfl
  have N0 := Fr.nil n0
  obtain ⟨G, hG, K0⟩ : ∃ G : State → Prop, (∀ t, G t → Steps p.tables e below (s₁.setTop (entryFrame m #[(.ref a)] 1)) t) ∧ Go p e below s₁ (mkF m 0 #[.val (.ref a)] []) G := ⟨fun t => Steps p.tables e below (s₁.setTop (entryFrame m #[(.ref a)] 1)) t, fun _ h => h, fun t k => castTop (ef_jdk_30_method_1_R m a) k⟩
  have K1 : Go p e below s₁ (mkF m 1 #[.val (.ref a)] [(.ref a)]) G := fun tq kq => K0 tq (XS.aloadN X0.here hx rfl (hb hby d_jdk_30_method_1_0) rfl rfl kq)
  obtain ⟨T2, X2, e2, st2⟩ := initO X0 hx hZ hown (hW 45 _ rfl) (hW 16 _ rfl) (hW 17 _ rfl) e0 (g := (mkF m 1 #[.val (.ref a)] [(.ref a)])) rfl (by rw [hml]; rfl) rfl (hb hby d_jdk_30_method_1_1) (by decide) (W := 0) (by show 2 * 0 + _ ≤ _; exact Nat.le_of_eq rfl) (by decide)
  have K3 : Go p e below T2 (mkF m 4 #[.val (.ref a)] []) G := fun tq kq => K1 tq (st2 tq kq)
  obtain ⟨fs, hr, hrun, hended, hWW, hsame⟩ := X2.leave (v := none) (fun _ => rfl)
  refine ⟨_, _, hG _ (K3 _ (X2.returnOut hx Bd.returns (hb hby d_jdk_30_method_1_4) hr)), hrun, hended, _, _, rfl, ?_, ⟨_, rfl⟩, hWW, hsame.mono (by decide) (by decide)⟩
  show QRec Z a h0 n0 _ T2.heap _
  rw [e2]
  exact ⟨rfl, N0, rfl⟩
theorem pn_5 : plainName "com/example/ledgerwright/ledgerwright/OptionIsFlagPinLaw" = true := by first | (simp [plainName, overriddenIn]; done) | decide +kernel
theorem ef_method_2_II (m : MethodId) (x0 : Int32) (x1 : Int32) : entryFrame m #[(.int x0), (.int x1)] 3 = mkF m 0 #[.val (.int x0), .val (.int x1), .unset] [] := by first | (simp [entryFrame, mkF, argsToLocals, Value.category]; done) | rfl
theorem pd_7 : parseMethodDescriptor "([C)V" = some ⟨[(.array .char)], none⟩ := by decide +kernel
theorem d_method_2_0 : decode method_2_code 0 = .ok (.iload_n 0, 1) := by decide +kernel
theorem d_method_2_1 : decode method_2_code 1 = .ok (.ifCond .ne 5, 3) := by decide +kernel
theorem d_method_2_4 : decode method_2_code 4 = .ok (.aconst_null, 1) := by decide +kernel
theorem d_method_2_5 : decode method_2_code 5 = .ok (.areturn, 1) := by decide +kernel
theorem d_method_2_6 : decode method_2_code 6 = .ok (.iconst 1, 1) := by decide +kernel
theorem d_method_2_7 : decode method_2_code 7 = .ok (.newarray .char, 2) := by decide +kernel
theorem d_method_2_9 : decode method_2_code 9 = .ok (.dup, 1) := by decide +kernel
theorem d_method_2_10 : decode method_2_code 10 = .ok (.iconst 0, 1) := by decide +kernel
theorem d_method_2_11 : decode method_2_code 11 = .ok (.iload_n 1, 1) := by decide +kernel
theorem d_method_2_12 : decode method_2_code 12 = .ok (.sipush 255, 3) := by decide +kernel
theorem d_method_2_15 : decode method_2_code 15 = .ok (.iand, 1) := by decide +kernel
theorem d_method_2_16 : decode method_2_code 16 = .ok (.i2c, 1) := by decide +kernel
theorem d_method_2_17 : decode method_2_code 17 = .ok (.castore, 1) := by decide +kernel
theorem d_method_2_18 : decode method_2_code 18 = .ok (.astore_n 2, 1) := by decide +kernel
theorem d_method_2_19 : decode method_2_code 19 = .ok (.new 7, 3) := by decide +kernel
theorem d_method_2_22 : decode method_2_code 22 = .ok (.dup, 1) := by decide +kernel
theorem d_method_2_23 : decode method_2_code 23 = .ok (.aload_n 2, 1) := by decide +kernel
theorem d_method_2_24 : decode method_2_code 24 = .ok (.invokespecial 9, 3) := by decide +kernel
theorem d_method_2_27 : decode method_2_code 27 = .ok (.areturn, 1) := by decide +kernel
def QDr (Z : State) (p1 : Int32) (p2 : Int32) (cz : Int32) (h0 : Heap) (n0 : Nat) (v : Option Value) (h : Heap) (L : List Loc) : Prop := ∃ r : Value, v = some r ∧ r.isRef = true ∧ Fr n0 L ∧ Keep h0 h []
set_option maxRecDepth 65536 in
set_option maxHeartbeats 40000000 in
theorem rmDr (l : Launch) (Z : State) (a0 : Array Value) (hw : ∀ d ∈ tables_1, d.before a0 Z = true) (ws : List Jvm.Cond) (p1 : Int32) (p2 : Int32) (cz : Int32) (h0 : Heap) (n0 : Nat) (Z0 : n0 ≤ h0.size) (O0 : Old Z n0 h0) (S_cs : Sta Z Z.heap "java/lang/String" "COMPACT_STRINGS" "Z" (.int cz)) (hcz : ¬ cz = 0) :
    MetFree l (⟨"com/example/ledgerwright/ledgerwright/OptionIsFlagPinLaw", "drawn", "(II)Ljava/lang/String;"⟩ : MethodName) (head1 (Jvm.Cond.code (⟨"com/example/ledgerwright/ledgerwright/OptionIsFlagPinLaw", "drawn", "(II)Ljava/lang/String;"⟩ : MethodName) method_2_code 3 (some (.object "java/lang/String")) :: ws) ({ frames := 4, cells := 3, slots := 6, locals := 66 } : Room)) (fun aa UU => aa = #[(.int p1), (.int p2)] ∧ Z.Warmed39 UU.vm ∧ UU.heap = h0) (fun _ _ _ _ _ => True) (fun _ UU oo UU' => ∃ vv LL, oo = .returned vv ∧ QDr Z p1 p2 cz h0 n0 vv UU'.heap LL ∧ FrameEnd UU oo UU' LL ({ frames := 4, cells := 3, slots := 6, locals := 66 } : Room).cells ({ frames := 4, cells := 3, slots := 6, locals := 66 } : Room).slots) := by
  refine MetFree.of_bodySF (plainFor_of_name pn_5) hisR ?_
  intro p e s m args below meth c s₁ Bd hml0 hP hK
  obtain ⟨rfl, hZ, hh⟩ := hP
  have hx := Bd.exec
  have hby := Bd.bytes
  have hml : c.maxLocals = 3 := hml0
  have hown : s.vm.findClass "com/example/ledgerwright/ledgerwright/OptionIsFlagPinLaw" = some m.cls := findClass_of_methodNamed Bd.named
  have hnm := (name_of_methodNamed Bd.named Bd.method).1
  have hW : ∀ (k : Nat) (d : Jvm.Cond), tables_1[k]? = some d → d.before a0 Z = true := fun k d h => hw d (List.mem_of_getElem? h)
  have X0 : Stand p l e ({ frames := 4, cells := 3, slots := 6, locals := 66 } : Room) s m #[(.int p1), (.int p2)] below meth c s₁ [] 0 0 := Stand.of_body Bd
  have e0 : s₁.heap = h0 := by rw [← hh, Bd.state]; rfl
  have N0 := Fr.nil n0
  obtain ⟨G, hG, K0⟩ : ∃ G : State → Prop, (∀ t, G t → Steps p.tables e below (s₁.setTop (entryFrame m #[(.int p1), (.int p2)] 3)) t) ∧ Go p e below s₁ (mkF m 0 #[.val (.int p1), .val (.int p2), .unset] []) G := ⟨fun t => Steps p.tables e below (s₁.setTop (entryFrame m #[(.int p1), (.int p2)] 3)) t, fun _ h => h, fun t k => castTop (ef_method_2_II m p1 p2) k⟩
  have hws : ∀ d ∈ StrChars.Road.words, d.before a0 Z = true := fun d hd => hw d ((by decide +kernel : ∀ d ∈ StrChars.Road.words, d ∈ tables_1) d hd)
  have K4 : Go p e below s₁ (mkF m 1 #[.val (.int p1), .val (.int p2), .unset] [(.int p1)]) G := fun tq kq => K0 tq (XS.iloadN X0.here hx rfl (hb hby d_method_2_0) rfl kq)
  by_cases hc5 : p1 = (0 : Int32)
  · skip
    have K6 : Go p e below s₁ (mkF m 4 #[.val (.int p1), .val (.int p2), .unset] []) G := fun tq kq => K4 tq (XS.ifNo X0.here hx rfl (hb hby d_method_2_1) rfl ((if0 _ _).trans (teq hc5).2) kq)
    have K7 : Go p e below s₁ (mkF m 5 #[.val (.int p1), .val (.int p2), .unset] [.null]) G := fun tq kq => K6 tq (XS.aconstNull X0.here hx rfl (hb hby d_method_2_4) kq)
    obtain ⟨fs, hr, hrun, hended, hWW, hsame⟩ := X0.leave (v := some .null) (fun h => by rw [Bd.returns] at h; cases h)
    refine ⟨_, _, hG _ (K7 _ (retOut X0 hx Bd.returns rfl (Or.inr (Or.inr (Or.inr (Or.inr ⟨rfl, rfl, rfl⟩)))) (hb hby d_method_2_5) hr)), hrun, hended, _, _, rfl, ?_, ⟨_, rfl⟩, hWW, hsame.mono (by decide) (by decide)⟩
    show QDr Z p1 p2 cz h0 n0 _ s₁.heap _
    rw [e0]
    exact ⟨_, rfl, rfl, N0, (Keep.refl h0 [])⟩
  · skip
    have K8 : Go p e below s₁ (mkF m 6 #[.val (.int p1), .val (.int p2), .unset] []) G := fun tq kq => K4 tq (XS.ifYes X0.here hx rfl (pc0 := 1) (pc' := 6) rfl (hb hby d_method_2_1) rfl ((if0 _ _).trans (feq hc5).2) (by decide) (by decide) kq)
    have K9 : Go p e below s₁ (mkF m 7 #[.val (.int p1), .val (.int p2), .unset] [(.int (1 : Int32))]) G := fun tq kq => K8 tq (XS.iconst X0.here hx rfl (hb hby d_method_2_6) kq)
    obtain ⟨T10, h10, k10, X10, e10, E10, A10, st10⟩ := newP X0 hx hZ (hW 4 _ rfl) e0 (g := (mkF m 7 #[.val (.int p1), .val (.int p2), .unset] [(.int (1 : Int32))])) rfl (hb hby d_method_2_7) rfl (by decide) (cap := 1) (by decide) (by decide) (by decide) (by decide)
    obtain ⟨b10, g10⟩ : ∃ z, z = h0.size := ⟨_, rfl⟩
    rw [← g10] at A10 st10
    have ge_b10 : n0 ≤ b10 := Nat.le_trans Z0 (Nat.le_of_eq g10.symm)
    have sz_b10 : h0.size ≤ b10 := Nat.le_trans ((Keep.refl h0 [])).1 (Nat.le_of_eq g10.symm)
    have V10 : Arv Z h10 b10 k10 .char (1 : Int32) [(.int (0 : Int32))] (.int (0 : Int32)) := (Arv.new A10 (by decide)).pad (pad_rep [] (.int (0 : Int32)) 1)
    have K11 : Go p e below T10 (mkF m 9 #[.val (.int p1), .val (.int p2), .unset] [(.ref b10)]) G := fun tq kq => K9 tq (st10 tq kq)
    have K12 : Go p e below T10 (mkF m 10 #[.val (.int p1), .val (.int p2), .unset] [(.ref b10), (.ref b10)]) G := fun tq kq => K11 tq (XS.dup X10.here hx rfl (hb hby d_method_2_9) rfl rfl kq)
    have K13 : Go p e below T10 (mkF m 11 #[.val (.int p1), .val (.int p2), .unset] [(.int (0 : Int32)), (.ref b10), (.ref b10)]) G := fun tq kq => K12 tq (XS.iconst X10.here hx rfl (hb hby d_method_2_10) kq)
    have K14 : Go p e below T10 (mkF m 12 #[.val (.int p1), .val (.int p2), .unset] [(.int p2), (.int (0 : Int32)), (.ref b10), (.ref b10)]) G := fun tq kq => K13 tq (XS.iloadN X10.here hx rfl (hb hby d_method_2_11) rfl kq)
    have K15 : Go p e below T10 (mkF m 15 #[.val (.int p1), .val (.int p2), .unset] [(.int (255 : Int32)), (.int p2), (.int (0 : Int32)), (.ref b10), (.ref b10)]) G := fun tq kq => K14 tq (XS.sipush X10.here hx rfl (hb hby d_method_2_12) kq)
    have K16 : Go p e below T10 (mkF m 16 #[.val (.int p1), .val (.int p2), .unset] [(.int (p2 &&& (255 : Int32))), (.int (0 : Int32)), (.ref b10), (.ref b10)]) G := fun tq kq => K15 tq (XS.iand X10.here hx rfl (hb hby d_method_2_15) rfl kq)
    have K17 : Go p e below T10 (mkF m 17 #[.val (.int p1), .val (.int p2), .unset] [(.int ((p2 &&& (255 : Int32)).toUInt32.toUInt16.toUInt32.toInt32)), (.int (0 : Int32)), (.ref b10), (.ref b10)]) G := fun tq kq => K16 tq (XS.i2c X10.here hx rfl (hb hby d_method_2_16) rfl kq)
    obtain ⟨cl18, Ar18, q18, S18, Nn18, Hh18, Gg18⟩ := id V10
    have hin18 : ¬ ((0 : Int32) < 0 ∨ cl18.slots.size ≤ ((0 : Int32)).toNatClampNeg) := inb_of S18 ⟨by decide, by decide⟩
    obtain ⟨T18, h18, X18, e18, W18, st18⟩ := stC X10 hx hZ e10 Ar18 (j := (0 : Int32)) hin18 (g := (mkF m 17 #[.val (.int p1), .val (.int p2), .unset] [(.int ((p2 &&& (255 : Int32)).toUInt32.toUInt16.toUInt32.toInt32)), (.int (0 : Int32)), (.ref b10), (.ref b10)])) rfl rfl (hb hby d_method_2_17)
    have V18 : Arv Z h18 b10 k10 .char (1 : Int32) [(.int (nar .char ((p2 &&& (255 : Int32)).toUInt32.toUInt16.toUInt32.toInt32)))] (.int (0 : Int32)) := Arv.set Ar18 q18 S18 Nn18 Hh18 Gg18 (fits_nar_char _) W18 0 rfl (Nat.le_of_ble_eq_true rfl)
    have N18 := Fr.snoc X18 N0 ge_b10
    have K19 : Go p e below T18 (mkF m 18 #[.val (.int p1), .val (.int p2), .unset] [(.ref b10)]) G := fun tq kq => K17 tq (st18 tq kq)
    have K20 : Go p e below T18 (mkF m 19 #[.val (.int p1), .val (.int p2), .val (.ref b10)] []) G := fun tq kq => K19 tq (XS.astoreN X18.here hx rfl (hb hby d_method_2_18) rfl rfl (l' := #[.val (.int p1), .val (.int p2), .val (.ref b10)]) rfl kq)
    obtain ⟨T21, h21, X21, e21, E21, A21, D21, -, st21⟩ := newO X18 hx hZ hown (hW 5 _ rfl) (hW 6 _ rfl) (hW 7 _ rfl) e18 (g := (mkF m 19 #[.val (.int p1), .val (.int p2), .val (.ref b10)] [])) rfl (hb hby d_method_2_19) (by decide) (by decide)
    obtain ⟨b21, g21⟩ : ∃ z, z = h18.size := ⟨_, rfl⟩
    rw [← g21] at A21 D21 st21
    have ne21_b10 : b10 ≠ b21 := Nat.ne_of_lt (Nat.lt_of_lt_of_le V18.lt (Nat.le_of_eq g21.symm))
    have ge_b21 : n0 ≤ b21 := Nat.le_trans (Nat.le_trans (Nat.le_trans Z0 E10.1) (Keep.of_wr W18).1) (Nat.le_of_eq g21.symm)
    have sz_b21 : h0.size ≤ b21 := Nat.le_trans ((((Keep.refl h0 []).ext E10).wr W18 (Or.inr sz_b10))).1 (Nat.le_of_eq g21.symm)
    have F21_coder : Fld Z h21 b21 "java/lang/String" "coder" "B" (.int (0 : Int32)) := D21 (Or.inr (hW 31 _ rfl)) (ty := .byte) (by decide)
    have F21_value : Fld Z h21 b21 "java/lang/String" "value" "[B" .null := D21 (Or.inr (hW 33 _ rfl)) (ty := (.array .byte)) (by decide)
    have K22 : Go p e below T21 (mkF m 22 #[.val (.int p1), .val (.int p2), .val (.ref b10)] [(.ref b21)]) G := fun tq kq => K20 tq (st21 tq kq)
    have K23 : Go p e below T21 (mkF m 23 #[.val (.int p1), .val (.int p2), .val (.ref b10)] [(.ref b21), (.ref b21)]) G := fun tq kq => K22 tq (XS.dup X21.here hx rfl (hb hby d_method_2_22) rfl rfl kq)
    have K24 : Go p e below T21 (mkF m 24 #[.val (.int p1), .val (.int p2), .val (.ref b10)] [(.ref b10), (.ref b21), (.ref b21)]) G := fun tq kq => K23 tq (XS.aloadN X21.here hx rfl (hb hby d_method_2_23) rfl rfl kq)
    have hp25 : ∀ c ∈ ([(nar .char ((p2 &&& (255 : Int32)).toUInt32.toUInt16.toUInt32.toInt32))] : List Int32), ¬ c < 0 ∧ ¬ (255 : Int32) < c := by
      intro c hc
      simp only [List.mem_cons, List.not_mem_nil, or_false] at hc
      rcases hc with rfl
      · exact own_p255 _
    obtain ⟨v26, _, ⟨T26, L26, k26, n26⟩, -, X26, ⟨Lc26, hQ26, l26, y26, z26⟩, st26⟩ := X21.specialBack hx (y := (⟨"java/lang/String", "<init>", "([C)V"⟩ : MethodName)) rfl hown (mvT hZ (hW 8 _ rfl)) (mvT hZ (hW 9 _ rfl)) (mvT hZ (hW 10 _ rfl)) (by decide) (StrChars.Road.backV (W := 1) hZ hws (kI := 4) (hW 6 _ rfl) (cs := ([(nar .char ((p2 &&& (255 : Int32)).toUInt32.toUInt16.toUInt32.toInt32))] : List Int32)) (bs := (([(nar .char ((p2 &&& (255 : Int32)).toUInt32.toUInt16.toUInt32.toInt32))] : List Int32)).map (fun c => c.toInt8.toInt32)) (n := 1) ge_b21 (Nat.le_trans (Nat.le_trans (Nat.le_trans Z0 E10.1) (Keep.of_wr W18).1) E21.1) A21 F21_value F21_coder (V18.ext E21) (S_cs.ext (((O0.ext E10).wr W18 ge_b10).ext E21).2) hcz rfl rfl (by decide) (by decide) hp25 rfl (by decide) (by decide)) (g := (mkF m 24 #[.val (.int p1), .val (.int p2), .val (.ref b10)] [(.ref b10), (.ref b21), (.ref b21)])) rfl (by rw [hml]; rfl) (Steps.refl _) (a := b21) (argsL := [(.ref b10)]) (rest := [(.ref b21)]) (lenOf pd_7 rfl) rfl (by show 2 * 0 + _ ≤ _; exact Nat.le_of_eq rfl) (hb hby d_method_2_24) (fun _ _ => ⟨rfl, e21, (by decide : 2 + 1 ≤ _), (by decide : 5 + 1 ≤ _)⟩)
    dsimp only [Pt.U, Pt.locs, Pt.cells, Pt.slots] at X26 l26 y26 z26 st26 hQ26
    subst l26 y26 z26
    obtain ⟨rfl, N26q, K26q, E26q, FC26q, t26, kb26, get26, szt26, net26, FV26q, VB26q⟩ := hQ26
    have N26 := Fr.app N18 N26q
    have K27 : Go p e below T26 (mkF m 27 #[.val (.int p1), .val (.int p2), .val (.ref b10)] [(.ref b21)]) G := fun tq kq => K24 tq (st26.trans kq)
    obtain ⟨fs, hr, hrun, hended, hWW, hsame⟩ := X26.leave (v := some (.ref b21)) (fun h => by rw [Bd.returns] at h; cases h)
    refine ⟨_, _, hG _ (K27 _ (retOut X26 hx Bd.returns rfl (Or.inr (Or.inr (Or.inr (Or.inr ⟨rfl, rfl, rfl⟩)))) (hb hby d_method_2_27) hr)), hrun, hended, _, _, rfl, ?_, ⟨_, rfl⟩, hWW, hsame.mono (by decide) (by decide)⟩
    show QDr Z p1 p2 cz h0 n0 _ T26.heap _
    exact ⟨_, rfl, rfl, N26, (((((Keep.refl h0 []).ext E10).wr W18 (Or.inr sz_b10)).ext E21).trans K26q (allS (Or.inr sz_b21) all0))⟩
theorem pn_27 : plainName "com/example/ledgerwright/ledgerwright/Option" = true := by first | (simp [plainName, overriddenIn]; done) | decide +kernel
theorem ef_prog_8_method_1_RGGGIG (m : MethodId) (x0 : Addr) (x1 : Value) (x2 : Value) (x3 : Value) (x4 : Int32) (x5 : Value) (r1 : x1.isRef = true) (r2 : x2.isRef = true) (r3 : x3.isRef = true) (r5 : x5.isRef = true) : entryFrame m #[(.ref x0), x1, x2, x3, (.int x4), x5] 6 = mkF m 0 #[.val (.ref x0), .val x1, .val x2, .val x3, .val (.int x4), .val x5] [] := by rcases ref_cases r1 with rfl | ⟨_, rfl⟩ <;> rcases ref_cases r2 with rfl | ⟨_, rfl⟩ <;> rcases ref_cases r3 with rfl | ⟨_, rfl⟩ <;> rcases ref_cases r5 with rfl | ⟨_, rfl⟩ <;> first | (simp [entryFrame, mkF, argsToLocals, Value.category]; done) | rfl
theorem pd_29 : parseMethodDescriptor "()V" = some ⟨[], none⟩ := by decide +kernel
theorem d_prog_8_method_1_0 : decode prog_8_method_1_code 0 = .ok (.aload_n 0, 1) := by decide +kernel
theorem d_prog_8_method_1_1 : decode prog_8_method_1_code 1 = .ok (.invokespecial 1, 3) := by decide +kernel
theorem d_prog_8_method_1_4 : decode prog_8_method_1_code 4 = .ok (.aload_n 0, 1) := by decide +kernel
theorem d_prog_8_method_1_5 : decode prog_8_method_1_code 5 = .ok (.aload_n 1, 1) := by decide +kernel
theorem d_prog_8_method_1_6 : decode prog_8_method_1_code 6 = .ok (.putfield 7, 3) := by decide +kernel
theorem d_prog_8_method_1_9 : decode prog_8_method_1_code 9 = .ok (.aload_n 0, 1) := by decide +kernel
theorem d_prog_8_method_1_10 : decode prog_8_method_1_code 10 = .ok (.aload_n 2, 1) := by decide +kernel
theorem d_prog_8_method_1_11 : decode prog_8_method_1_code 11 = .ok (.putfield 13, 3) := by decide +kernel
theorem d_prog_8_method_1_14 : decode prog_8_method_1_code 14 = .ok (.aload_n 0, 1) := by decide +kernel
theorem d_prog_8_method_1_15 : decode prog_8_method_1_code 15 = .ok (.aload_n 3, 1) := by decide +kernel
theorem d_prog_8_method_1_16 : decode prog_8_method_1_code 16 = .ok (.putfield 16, 3) := by decide +kernel
theorem d_prog_8_method_1_19 : decode prog_8_method_1_code 19 = .ok (.aload_n 0, 1) := by decide +kernel
theorem d_prog_8_method_1_20 : decode prog_8_method_1_code 20 = .ok (.iload 4, 2) := by decide +kernel
theorem d_prog_8_method_1_22 : decode prog_8_method_1_code 22 = .ok (.putfield 19, 3) := by decide +kernel
theorem d_prog_8_method_1_25 : decode prog_8_method_1_code 25 = .ok (.aload_n 0, 1) := by decide +kernel
theorem d_prog_8_method_1_26 : decode prog_8_method_1_code 26 = .ok (.aload 5, 2) := by decide +kernel
theorem d_prog_8_method_1_28 : decode prog_8_method_1_code 28 = .ok (.putfield 23, 3) := by decide +kernel
theorem d_prog_8_method_1_31 : decode prog_8_method_1_code 31 = .ok (.return_, 1) := by decide +kernel
def QIni (Z : State) (a : Addr) (x1 : Value) (x2 : Value) (x3 : Value) (rq : Int32) (x5 : Value) (h0 : Heap) (n0 : Nat) (v : Option Value) (h : Heap) (L : List Loc) : Prop := v = none ∧ Fr n0 L ∧ Keep h0 h [a] ∧ Exa Z h a "com/example/ledgerwright/ledgerwright/Option" ∧ Fld Z h a "com/example/ledgerwright/ledgerwright/Option" "valueName" "Ljava/lang/String;" x2
set_option maxRecDepth 65536 in
set_option maxHeartbeats 40000000 in
theorem rmIni (l : Launch) (Z : State) (a0 : Array Value) (hw : ∀ d ∈ tables_1, d.before a0 Z = true) (ws : List Jvm.Cond) (a : Addr) (x1 : Value) (x2 : Value) (x3 : Value) (rq : Int32) (x5 : Value) (h0 : Heap) (n0 : Nat) (Z0 : n0 ≤ h0.size) (F_name_a : Fld Z h0 a "com/example/ledgerwright/ledgerwright/Option" "name" "Ljava/lang/String;" .null) (F_valueName_a : Fld Z h0 a "com/example/ledgerwright/ledgerwright/Option" "valueName" "Ljava/lang/String;" .null) (F_defaultValue_a : Fld Z h0 a "com/example/ledgerwright/ledgerwright/Option" "defaultValue" "Ljava/lang/String;" .null) (F_required_a : Fld Z h0 a "com/example/ledgerwright/ledgerwright/Option" "required" "Z" (.int (0 : Int32))) (F_description_a : Fld Z h0 a "com/example/ledgerwright/ledgerwright/Option" "description" "Ljava/lang/String;" .null) (E_a : Exa Z h0 a "com/example/ledgerwright/ledgerwright/Option") (ge_a : n0 ≤ a) (r_x1 : x1.isRef = true) (r_x2 : x2.isRef = true) (r_x3 : x3.isRef = true) (r_x5 : x5.isRef = true) :
    MetFree l (⟨"com/example/ledgerwright/ledgerwright/Option", "<init>", "(Ljava/lang/String;Ljava/lang/String;Ljava/lang/String;ZLjava/lang/String;)V"⟩ : MethodName) (head1 (Jvm.Cond.code (⟨"com/example/ledgerwright/ledgerwright/Option", "<init>", "(Ljava/lang/String;Ljava/lang/String;Ljava/lang/String;ZLjava/lang/String;)V"⟩ : MethodName) prog_8_method_1_code 6 none :: ws) ({ frames := 2, cells := 0, slots := 0, locals := 24 } : Room)) (fun aa UU => aa = #[(.ref a), x1, x2, x3, (.int rq), x5] ∧ Z.Warmed39 UU.vm ∧ UU.heap = h0) (fun _ _ _ _ _ => True) (fun _ UU oo UU' => ∃ vv LL, oo = .returned vv ∧ QIni Z a x1 x2 x3 rq x5 h0 n0 vv UU'.heap LL ∧ FrameEnd UU oo UU' LL ({ frames := 2, cells := 0, slots := 0, locals := 24 } : Room).cells ({ frames := 2, cells := 0, slots := 0, locals := 24 } : Room).slots) := by
  refine MetFree.of_bodySF (plainFor_of_name pn_27) hisR ?_
  intro p e s m args below meth c s₁ Bd hml0 hP hK
  obtain ⟨rfl, hZ, hh⟩ := hP
  have hx := Bd.exec
  have hby := Bd.bytes
  have hml : c.maxLocals = 6 := hml0
  have hown : s.vm.findClass "com/example/ledgerwright/ledgerwright/Option" = some m.cls := findClass_of_methodNamed Bd.named
  have hnm := (name_of_methodNamed Bd.named Bd.method).1
  have hW : ∀ (k : Nat) (d : Jvm.Cond), tables_1[k]? = some d → d.before a0 Z = true := fun k d h => hw d (List.mem_of_getElem? h)
  have X0 : Stand p l e ({ frames := 2, cells := 0, slots := 0, locals := 24 } : Room) s m #[(.ref a), x1, x2, x3, (.int rq), x5] below meth c s₁ [] 0 0 := Stand.of_body Bd
  have e0 : s₁.heap = h0 := by rw [← hh, Bd.state]; rfl
  have N0 := Fr.nil n0
  obtain ⟨G, hG, K0⟩ : ∃ G : State → Prop, (∀ t, G t → Steps p.tables e below (s₁.setTop (entryFrame m #[(.ref a), x1, x2, x3, (.int rq), x5] 6)) t) ∧ Go p e below s₁ (mkF m 0 #[.val (.ref a), .val x1, .val x2, .val x3, .val (.int rq), .val x5] []) G := ⟨fun t => Steps p.tables e below (s₁.setTop (entryFrame m #[(.ref a), x1, x2, x3, (.int rq), x5] 6)) t, fun _ h => h, fun t k => castTop (ef_prog_8_method_1_RGGGIG m a x1 x2 x3 rq x5 r_x1 r_x2 r_x3 r_x5) k⟩
  have K28 : Go p e below s₁ (mkF m 1 #[.val (.ref a), .val x1, .val x2, .val x3, .val (.int rq), .val x5] [(.ref a)]) G := fun tq kq => K0 tq (XS.aloadN X0.here hx rfl (hb hby d_prog_8_method_1_0) rfl rfl kq)
  obtain ⟨v29, _, ⟨T29, L29, k29, n29⟩, -, X29, ⟨Lc29, hQ29, l29, y29, z29⟩, st29⟩ := X0.specialBack hx (y := (⟨"java/lang/Record", "<init>", "()V"⟩ : MethodName)) rfl hown (mvT hZ (hW 40 _ rfl)) (mvT hZ (hW 41 _ rfl)) (mvT hZ (hW 44 _ rfl)) (by decide) (backOf (W := 0) (rmRec l Z a0 hw [] a h0 n0 Z0) hZ (hW 44 _ rfl) (hW 43 _ rfl) (by decide) (by decide)) (g := (mkF m 1 #[.val (.ref a), .val x1, .val x2, .val x3, .val (.int rq), .val x5] [(.ref a)])) rfl (by rw [hml]; rfl) (Steps.refl _) (a := a) (argsL := []) (rest := []) (lenOf pd_29 rfl) rfl (by show 2 * 0 + _ ≤ _; exact Nat.le_of_eq rfl) (hb hby d_prog_8_method_1_1) (fun _ _ => ⟨rfl, e0, (by decide : 0 + 0 ≤ _), (by decide : 0 + 0 ≤ _)⟩)
  dsimp only [Pt.U, Pt.locs, Pt.cells, Pt.slots] at X29 l29 y29 z29 st29 hQ29
  subst l29 y29 z29
  obtain ⟨rfl, N29q, E29q⟩ := hQ29
  have N29 := Fr.app N0 N29q
  have K30 : Go p e below T29 (mkF m 4 #[.val (.ref a), .val x1, .val x2, .val x3, .val (.int rq), .val x5] []) G := fun tq kq => K28 tq (st29.trans kq)
  have K31 : Go p e below T29 (mkF m 5 #[.val (.ref a), .val x1, .val x2, .val x3, .val (.int rq), .val x5] [(.ref a)]) G := fun tq kq => K30 tq (XS.aloadN X29.here hx rfl (hb hby d_prog_8_method_1_4) rfl rfl kq)
  have K32 : Go p e below T29 (mkF m 6 #[.val (.ref a), .val x1, .val x2, .val x3, .val (.int rq), .val x5] [x1, (.ref a)]) G := fun tq kq => K31 tq (XS.aloadN X29.here hx rfl (hb hby d_prog_8_method_1_5) rfl r_x1 kq)
  obtain ⟨T33, h33, X33, e33, W33, st33⟩ := putF X29 hx hZ hown (host := "") (Or.inl (hW 46 _ rfl)) Via.refl E29q F_name_a E_a (Or.inr ⟨(hW 47 _ rfl), rfl, hnm⟩) (hW 35 _ rfl) (ty := (.object "java/lang/String")) (by decide) (own_narR r_x1) (own_fitR r_x1) (g := (mkF m 6 #[.val (.ref a), .val x1, .val x2, .val x3, .val (.int rq), .val x5] [x1, (.ref a)])) rfl rfl (hb hby d_prog_8_method_1_6)
  have N33 := Fr.snoc X33 N29 ge_a
  have F33 := Fld.same W33 F_name_a
  have K34 : Go p e below T33 (mkF m 9 #[.val (.ref a), .val x1, .val x2, .val x3, .val (.int rq), .val x5] []) G := fun tq kq => K32 tq (st33 tq kq)
  have K35 : Go p e below T33 (mkF m 10 #[.val (.ref a), .val x1, .val x2, .val x3, .val (.int rq), .val x5] [(.ref a)]) G := fun tq kq => K34 tq (XS.aloadN X33.here hx rfl (hb hby d_prog_8_method_1_9) rfl rfl kq)
  have K36 : Go p e below T33 (mkF m 11 #[.val (.ref a), .val x1, .val x2, .val x3, .val (.int rq), .val x5] [x2, (.ref a)]) G := fun tq kq => K35 tq (XS.aloadN X33.here hx rfl (hb hby d_prog_8_method_1_10) rfl r_x2 kq)
  obtain ⟨T37, h37, X37, e37, W37, st37⟩ := putF X33 hx hZ hown (host := "") (Or.inl (hW 48 _ rfl)) Via.refl e33 (F_valueName_a.other W33 (Or.inr (slot_ne (Or.inr (hW 49 _ rfl)) (Or.inr (hW 47 _ rfl)) (by decide) (t := (.object "java/lang/String")) (t' := (.object "java/lang/String")) (by decide) (by decide)))) (E_a.wr W33) (Or.inr ⟨(hW 49 _ rfl), rfl, hnm⟩) (hW 35 _ rfl) (ty := (.object "java/lang/String")) (by decide) (own_narR r_x2) (own_fitR r_x2) (g := (mkF m 11 #[.val (.ref a), .val x1, .val x2, .val x3, .val (.int rq), .val x5] [x2, (.ref a)])) rfl rfl (hb hby d_prog_8_method_1_11)
  have N37 := Fr.snoc X37 N33 ge_a
  have F37 := Fld.same W37 (F_valueName_a.other W33 (Or.inr (slot_ne (Or.inr (hW 49 _ rfl)) (Or.inr (hW 47 _ rfl)) (by decide) (t := (.object "java/lang/String")) (t' := (.object "java/lang/String")) (by decide) (by decide))))
  have K38 : Go p e below T37 (mkF m 14 #[.val (.ref a), .val x1, .val x2, .val x3, .val (.int rq), .val x5] []) G := fun tq kq => K36 tq (st37 tq kq)
  have K39 : Go p e below T37 (mkF m 15 #[.val (.ref a), .val x1, .val x2, .val x3, .val (.int rq), .val x5] [(.ref a)]) G := fun tq kq => K38 tq (XS.aloadN X37.here hx rfl (hb hby d_prog_8_method_1_14) rfl rfl kq)
  have K40 : Go p e below T37 (mkF m 16 #[.val (.ref a), .val x1, .val x2, .val x3, .val (.int rq), .val x5] [x3, (.ref a)]) G := fun tq kq => K39 tq (XS.aloadN X37.here hx rfl (hb hby d_prog_8_method_1_15) rfl r_x3 kq)
  obtain ⟨T41, h41, X41, e41, W41, st41⟩ := putF X37 hx hZ hown (host := "") (Or.inl (hW 50 _ rfl)) Via.refl e37 ((F_defaultValue_a.other W33 (Or.inr (slot_ne (Or.inr (hW 51 _ rfl)) (Or.inr (hW 47 _ rfl)) (by decide) (t := (.object "java/lang/String")) (t' := (.object "java/lang/String")) (by decide) (by decide)))).other W37 (Or.inr (slot_ne (Or.inr (hW 51 _ rfl)) (Or.inr (hW 49 _ rfl)) (by decide) (t := (.object "java/lang/String")) (t' := (.object "java/lang/String")) (by decide) (by decide)))) ((E_a.wr W33).wr W37) (Or.inr ⟨(hW 51 _ rfl), rfl, hnm⟩) (hW 35 _ rfl) (ty := (.object "java/lang/String")) (by decide) (own_narR r_x3) (own_fitR r_x3) (g := (mkF m 16 #[.val (.ref a), .val x1, .val x2, .val x3, .val (.int rq), .val x5] [x3, (.ref a)])) rfl rfl (hb hby d_prog_8_method_1_16)
  have N41 := Fr.snoc X41 N37 ge_a
  have F41 := Fld.same W41 ((F_defaultValue_a.other W33 (Or.inr (slot_ne (Or.inr (hW 51 _ rfl)) (Or.inr (hW 47 _ rfl)) (by decide) (t := (.object "java/lang/String")) (t' := (.object "java/lang/String")) (by decide) (by decide)))).other W37 (Or.inr (slot_ne (Or.inr (hW 51 _ rfl)) (Or.inr (hW 49 _ rfl)) (by decide) (t := (.object "java/lang/String")) (t' := (.object "java/lang/String")) (by decide) (by decide))))
  have K42 : Go p e below T41 (mkF m 19 #[.val (.ref a), .val x1, .val x2, .val x3, .val (.int rq), .val x5] []) G := fun tq kq => K40 tq (st41 tq kq)
  have K43 : Go p e below T41 (mkF m 20 #[.val (.ref a), .val x1, .val x2, .val x3, .val (.int rq), .val x5] [(.ref a)]) G := fun tq kq => K42 tq (XS.aloadN X41.here hx rfl (hb hby d_prog_8_method_1_19) rfl rfl kq)
  have K44 : Go p e below T41 (mkF m 22 #[.val (.ref a), .val x1, .val x2, .val x3, .val (.int rq), .val x5] [(.int rq), (.ref a)]) G := fun tq kq => K43 tq (XS.iload X41.here hx rfl (hb hby d_prog_8_method_1_20) rfl kq)
  obtain ⟨T45, h45, X45, e45, W45, st45⟩ := putFN X41 hx hZ hown (hW 52 _ rfl) Via.refl e41 (((F_required_a.other W33 (Or.inr (slot_ne (Or.inr (hW 53 _ rfl)) (Or.inr (hW 47 _ rfl)) (by decide) (t := .boolean) (t' := (.object "java/lang/String")) (by decide) (by decide)))).other W37 (Or.inr (slot_ne (Or.inr (hW 53 _ rfl)) (Or.inr (hW 49 _ rfl)) (by decide) (t := .boolean) (t' := (.object "java/lang/String")) (by decide) (by decide)))).other W41 (Or.inr (slot_ne (Or.inr (hW 53 _ rfl)) (Or.inr (hW 51 _ rfl)) (by decide) (t := .boolean) (t' := (.object "java/lang/String")) (by decide) (by decide)))) (((E_a.wr W33).wr W37).wr W41) (Or.inr ⟨(hW 53 _ rfl), rfl, hnm⟩) (hW 35 _ rfl) (ty := .boolean) (v' := (.int (nar .boolean rq))) (by decide) rfl (fits_nar_bool _) (g := (mkF m 22 #[.val (.ref a), .val x1, .val x2, .val x3, .val (.int rq), .val x5] [(.int rq), (.ref a)])) rfl rfl (hb hby d_prog_8_method_1_22)
  have N45 := Fr.snoc X45 N41 ge_a
  have F45 := Fld.same W45 (((F_required_a.other W33 (Or.inr (slot_ne (Or.inr (hW 53 _ rfl)) (Or.inr (hW 47 _ rfl)) (by decide) (t := .boolean) (t' := (.object "java/lang/String")) (by decide) (by decide)))).other W37 (Or.inr (slot_ne (Or.inr (hW 53 _ rfl)) (Or.inr (hW 49 _ rfl)) (by decide) (t := .boolean) (t' := (.object "java/lang/String")) (by decide) (by decide)))).other W41 (Or.inr (slot_ne (Or.inr (hW 53 _ rfl)) (Or.inr (hW 51 _ rfl)) (by decide) (t := .boolean) (t' := (.object "java/lang/String")) (by decide) (by decide))))
  have K46 : Go p e below T45 (mkF m 25 #[.val (.ref a), .val x1, .val x2, .val x3, .val (.int rq), .val x5] []) G := fun tq kq => K44 tq (st45 tq kq)
  have K47 : Go p e below T45 (mkF m 26 #[.val (.ref a), .val x1, .val x2, .val x3, .val (.int rq), .val x5] [(.ref a)]) G := fun tq kq => K46 tq (XS.aloadN X45.here hx rfl (hb hby d_prog_8_method_1_25) rfl rfl kq)
  have K48 : Go p e below T45 (mkF m 28 #[.val (.ref a), .val x1, .val x2, .val x3, .val (.int rq), .val x5] [x5, (.ref a)]) G := fun tq kq => K47 tq (XS.aload X45.here hx rfl (hb hby d_prog_8_method_1_26) rfl r_x5 kq)
  obtain ⟨T49, h49, X49, e49, W49, st49⟩ := putF X45 hx hZ hown (host := "") (Or.inl (hW 54 _ rfl)) Via.refl e45 ((((F_description_a.other W33 (Or.inr (slot_ne (Or.inr (hW 55 _ rfl)) (Or.inr (hW 47 _ rfl)) (by decide) (t := (.object "java/lang/String")) (t' := (.object "java/lang/String")) (by decide) (by decide)))).other W37 (Or.inr (slot_ne (Or.inr (hW 55 _ rfl)) (Or.inr (hW 49 _ rfl)) (by decide) (t := (.object "java/lang/String")) (t' := (.object "java/lang/String")) (by decide) (by decide)))).other W41 (Or.inr (slot_ne (Or.inr (hW 55 _ rfl)) (Or.inr (hW 51 _ rfl)) (by decide) (t := (.object "java/lang/String")) (t' := (.object "java/lang/String")) (by decide) (by decide)))).other W45 (Or.inr (slot_ne (Or.inr (hW 55 _ rfl)) (Or.inr (hW 53 _ rfl)) (by decide) (t := (.object "java/lang/String")) (t' := .boolean) (by decide) (by decide)))) ((((E_a.wr W33).wr W37).wr W41).wr W45) (Or.inr ⟨(hW 55 _ rfl), rfl, hnm⟩) (hW 35 _ rfl) (ty := (.object "java/lang/String")) (by decide) (own_narR r_x5) (own_fitR r_x5) (g := (mkF m 28 #[.val (.ref a), .val x1, .val x2, .val x3, .val (.int rq), .val x5] [x5, (.ref a)])) rfl rfl (hb hby d_prog_8_method_1_28)
  have N49 := Fr.snoc X49 N45 ge_a
  have F49 := Fld.same W49 ((((F_description_a.other W33 (Or.inr (slot_ne (Or.inr (hW 55 _ rfl)) (Or.inr (hW 47 _ rfl)) (by decide) (t := (.object "java/lang/String")) (t' := (.object "java/lang/String")) (by decide) (by decide)))).other W37 (Or.inr (slot_ne (Or.inr (hW 55 _ rfl)) (Or.inr (hW 49 _ rfl)) (by decide) (t := (.object "java/lang/String")) (t' := (.object "java/lang/String")) (by decide) (by decide)))).other W41 (Or.inr (slot_ne (Or.inr (hW 55 _ rfl)) (Or.inr (hW 51 _ rfl)) (by decide) (t := (.object "java/lang/String")) (t' := (.object "java/lang/String")) (by decide) (by decide)))).other W45 (Or.inr (slot_ne (Or.inr (hW 55 _ rfl)) (Or.inr (hW 53 _ rfl)) (by decide) (t := (.object "java/lang/String")) (t' := .boolean) (by decide) (by decide))))
  have K50 : Go p e below T49 (mkF m 31 #[.val (.ref a), .val x1, .val x2, .val x3, .val (.int rq), .val x5] []) G := fun tq kq => K48 tq (st49 tq kq)
  obtain ⟨fs, hr, hrun, hended, hWW, hsame⟩ := X49.leave (v := none) (fun _ => rfl)
  refine ⟨_, _, hG _ (K50 _ (X49.returnOut hx Bd.returns (hb hby d_prog_8_method_1_31) hr)), hrun, hended, _, _, rfl, ?_, ⟨_, rfl⟩, hWW, hsame.mono (by decide) (by decide)⟩
  show QIni Z a x1 x2 x3 rq x5 h0 n0 _ T49.heap _
  rw [e49]
  exact ⟨rfl, N49, ((((((Keep.refl h0 [a]).wr W33 (Or.inl (List.mem_of_getElem? (i := 0) rfl))).wr W37 (Or.inl (List.mem_of_getElem? (i := 0) rfl))).wr W41 (Or.inl (List.mem_of_getElem? (i := 0) rfl))).wr W45 (Or.inl (List.mem_of_getElem? (i := 0) rfl))).wr W49 (Or.inl (List.mem_of_getElem? (i := 0) rfl))), (((((E_a.wr W33).wr W37).wr W41).wr W45).wr W49), (((F37.other W41 (Or.inr (slot_ne (Or.inr (hW 49 _ rfl)) (Or.inr (hW 51 _ rfl)) (by decide) (t := (.object "java/lang/String")) (t' := (.object "java/lang/String")) (by decide) (by decide)))).other W45 (Or.inr (slot_ne (Or.inr (hW 49 _ rfl)) (Or.inr (hW 53 _ rfl)) (by decide) (t := (.object "java/lang/String")) (t' := .boolean) (by decide) (by decide)))).other W49 (Or.inr (slot_ne (Or.inr (hW 49 _ rfl)) (Or.inr (hW 55 _ rfl)) (by decide) (t := (.object "java/lang/String")) (t' := (.object "java/lang/String")) (by decide) (by decide))))⟩
theorem ef_prog_8_method_6_R (m : MethodId) (x0 : Addr) : entryFrame m #[(.ref x0)] 1 = mkF m 0 #[.val (.ref x0)] [] := by first | (simp [entryFrame, mkF, argsToLocals, Value.category]; done) | rfl
theorem d_prog_8_method_6_0 : decode prog_8_method_6_code 0 = .ok (.aload_n 0, 1) := by decide +kernel
theorem d_prog_8_method_6_1 : decode prog_8_method_6_code 1 = .ok (.getfield 13, 3) := by decide +kernel
theorem d_prog_8_method_6_4 : decode prog_8_method_6_code 4 = .ok (.ifnonnull 7, 3) := by decide +kernel
theorem d_prog_8_method_6_7 : decode prog_8_method_6_code 7 = .ok (.iconst 1, 1) := by decide +kernel
theorem d_prog_8_method_6_8 : decode prog_8_method_6_code 8 = .ok (.goto 4, 3) := by decide +kernel
theorem d_prog_8_method_6_12 : decode prog_8_method_6_code 12 = .ok (.ireturn, 1) := by decide +kernel
def QFN (Z : State) (a : Addr) (h0 : Heap) (n0 : Nat) (v : Option Value) (h : Heap) (L : List Loc) : Prop := v = some (.int (1 : Int32)) ∧ Fr n0 L ∧ h = h0
set_option maxRecDepth 65536 in
set_option maxHeartbeats 40000000 in
theorem rmFN (l : Launch) (Z : State) (a0 : Array Value) (hw : ∀ d ∈ tables_1, d.before a0 Z = true) (ws : List Jvm.Cond) (a : Addr) (h0 : Heap) (n0 : Nat) (Z0 : n0 ≤ h0.size) (F_valueName_a : Fld Z h0 a "com/example/ledgerwright/ledgerwright/Option" "valueName" "Ljava/lang/String;" .null) :
    MetFree l (⟨"com/example/ledgerwright/ledgerwright/Option", "isFlag", "()Z"⟩ : MethodName) (head1 (Jvm.Cond.code (⟨"com/example/ledgerwright/ledgerwright/Option", "isFlag", "()Z"⟩ : MethodName) prog_8_method_6_code 1 (some .boolean) :: ws) ({ frames := 0, cells := 0, slots := 0, locals := 0 } : Room)) (fun aa UU => aa = #[(.ref a)] ∧ Z.Warmed39 UU.vm ∧ UU.heap = h0) (fun _ _ _ _ _ => True) (fun _ UU oo UU' => ∃ vv LL, oo = .returned vv ∧ QFN Z a h0 n0 vv UU'.heap LL ∧ FrameEnd UU oo UU' LL ({ frames := 0, cells := 0, slots := 0, locals := 0 } : Room).cells ({ frames := 0, cells := 0, slots := 0, locals := 0 } : Room).slots) := by
  refine MetFree.of_bodySF (plainFor_of_name pn_27) hisR ?_
  intro p e s m args below meth c s₁ Bd hml0 hP hK
  obtain ⟨rfl, hZ, hh⟩ := hP
  have hx := Bd.exec
  have hby := Bd.bytes
  have hml : c.maxLocals = 1 := hml0
  have hown : s.vm.findClass "com/example/ledgerwright/ledgerwright/Option" = some m.cls := findClass_of_methodNamed Bd.named
  have hnm := (name_of_methodNamed Bd.named Bd.method).1
  have hW : ∀ (k : Nat) (d : Jvm.Cond), tables_1[k]? = some d → d.before a0 Z = true := fun k d h => hw d (List.mem_of_getElem? h)
  have X0 : Stand p l e ({ frames := 0, cells := 0, slots := 0, locals := 0 } : Room) s m #[(.ref a)] below meth c s₁ [] 0 0 := Stand.of_body Bd
  have e0 : s₁.heap = h0 := by rw [← hh, Bd.state]; rfl
  have N0 := Fr.nil n0
  obtain ⟨G, hG, K0⟩ : ∃ G : State → Prop, (∀ t, G t → Steps p.tables e below (s₁.setTop (entryFrame m #[(.ref a)] 1)) t) ∧ Go p e below s₁ (mkF m 0 #[.val (.ref a)] []) G := ⟨fun t => Steps p.tables e below (s₁.setTop (entryFrame m #[(.ref a)] 1)) t, fun _ h => h, fun t k => castTop (ef_prog_8_method_6_R m a) k⟩
  have K51 : Go p e below s₁ (mkF m 1 #[.val (.ref a)] [(.ref a)]) G := fun tq kq => K0 tq (XS.aloadN X0.here hx rfl (hb hby d_prog_8_method_6_0) rfl rfl kq)
  obtain ⟨T52, X52, e52, st52⟩ := getF X0 hx hZ hown (host := "") (Or.inl (hW 48 _ rfl)) Via.refl e0 F_valueName_a (g := (mkF m 1 #[.val (.ref a)] [(.ref a)])) rfl rfl (hb hby d_prog_8_method_6_1)
  have K53 : Go p e below T52 (mkF m 4 #[.val (.ref a)] [.null]) G := fun tq kq => K51 tq (st52 tq kq)
  have K54 : Go p e below T52 (mkF m 7 #[.val (.ref a)] []) G := fun tq kq => K53 tq (XS.ifnonnullNo X52.here hx rfl (hb hby d_prog_8_method_6_4) rfl kq)
  have K55 : Go p e below T52 (mkF m 8 #[.val (.ref a)] [(.int (1 : Int32))]) G := fun tq kq => K54 tq (XS.iconst X52.here hx rfl (hb hby d_prog_8_method_6_7) kq)
  have K56 : Go p e below T52 (mkF m 12 #[.val (.ref a)] [(.int (1 : Int32))]) G := fun tq kq => K55 tq (XS.goto X52.here hx rfl (pc0 := 8) (pc' := 12) rfl (hb hby d_prog_8_method_6_8) (by decide) (by decide) kq)
  obtain ⟨fs, hr, hrun, hended, hWW, hsame⟩ := X52.leave (v := some (.int (1 : Int32))) (fun h => by rw [Bd.returns] at h; cases h)
  refine ⟨_, _, hG _ (K56 _ (retN X52 hx (t := .boolean) Bd.returns (by simp) (hb hby d_prog_8_method_6_12) hr)), hrun, hended, _, _, rfl, ?_, ⟨_, rfl⟩, hWW, hsame.mono (by decide) (by decide)⟩
  show QFN Z a h0 n0 _ T52.heap _
  rw [e52]
  exact ⟨rfl, N0, rfl⟩
theorem d_prog_8_method_6_11 : decode prog_8_method_6_code 11 = .ok (.iconst 0, 1) := by decide +kernel
def QFR (Z : State) (a : Addr) (b : Addr) (h0 : Heap) (n0 : Nat) (v : Option Value) (h : Heap) (L : List Loc) : Prop := v = some (.int (0 : Int32)) ∧ Fr n0 L ∧ h = h0
set_option maxRecDepth 65536 in
set_option maxHeartbeats 40000000 in
theorem rmFR (l : Launch) (Z : State) (a0 : Array Value) (hw : ∀ d ∈ tables_1, d.before a0 Z = true) (ws : List Jvm.Cond) (a : Addr) (b : Addr) (h0 : Heap) (n0 : Nat) (Z0 : n0 ≤ h0.size) (F_valueName_a : Fld Z h0 a "com/example/ledgerwright/ledgerwright/Option" "valueName" "Ljava/lang/String;" (.ref b)) :
    MetFree l (⟨"com/example/ledgerwright/ledgerwright/Option", "isFlag", "()Z"⟩ : MethodName) (head1 (Jvm.Cond.code (⟨"com/example/ledgerwright/ledgerwright/Option", "isFlag", "()Z"⟩ : MethodName) prog_8_method_6_code 1 (some .boolean) :: ws) ({ frames := 0, cells := 0, slots := 0, locals := 0 } : Room)) (fun aa UU => aa = #[(.ref a)] ∧ Z.Warmed39 UU.vm ∧ UU.heap = h0) (fun _ _ _ _ _ => True) (fun _ UU oo UU' => ∃ vv LL, oo = .returned vv ∧ QFR Z a b h0 n0 vv UU'.heap LL ∧ FrameEnd UU oo UU' LL ({ frames := 0, cells := 0, slots := 0, locals := 0 } : Room).cells ({ frames := 0, cells := 0, slots := 0, locals := 0 } : Room).slots) := by
  refine MetFree.of_bodySF (plainFor_of_name pn_27) hisR ?_
  intro p e s m args below meth c s₁ Bd hml0 hP hK
  obtain ⟨rfl, hZ, hh⟩ := hP
  have hx := Bd.exec
  have hby := Bd.bytes
  have hml : c.maxLocals = 1 := hml0
  have hown : s.vm.findClass "com/example/ledgerwright/ledgerwright/Option" = some m.cls := findClass_of_methodNamed Bd.named
  have hnm := (name_of_methodNamed Bd.named Bd.method).1
  have hW : ∀ (k : Nat) (d : Jvm.Cond), tables_1[k]? = some d → d.before a0 Z = true := fun k d h => hw d (List.mem_of_getElem? h)
  have X0 : Stand p l e ({ frames := 0, cells := 0, slots := 0, locals := 0 } : Room) s m #[(.ref a)] below meth c s₁ [] 0 0 := Stand.of_body Bd
  have e0 : s₁.heap = h0 := by rw [← hh, Bd.state]; rfl
  have N0 := Fr.nil n0
  obtain ⟨G, hG, K0⟩ : ∃ G : State → Prop, (∀ t, G t → Steps p.tables e below (s₁.setTop (entryFrame m #[(.ref a)] 1)) t) ∧ Go p e below s₁ (mkF m 0 #[.val (.ref a)] []) G := ⟨fun t => Steps p.tables e below (s₁.setTop (entryFrame m #[(.ref a)] 1)) t, fun _ h => h, fun t k => castTop (ef_prog_8_method_6_R m a) k⟩
  have K57 : Go p e below s₁ (mkF m 1 #[.val (.ref a)] [(.ref a)]) G := fun tq kq => K0 tq (XS.aloadN X0.here hx rfl (hb hby d_prog_8_method_6_0) rfl rfl kq)
  obtain ⟨T58, X58, e58, st58⟩ := getF X0 hx hZ hown (host := "") (Or.inl (hW 48 _ rfl)) Via.refl e0 F_valueName_a (g := (mkF m 1 #[.val (.ref a)] [(.ref a)])) rfl rfl (hb hby d_prog_8_method_6_1)
  have K59 : Go p e below T58 (mkF m 4 #[.val (.ref a)] [(.ref b)]) G := fun tq kq => K57 tq (st58 tq kq)
  have K60 : Go p e below T58 (mkF m 11 #[.val (.ref a)] []) G := fun tq kq => K59 tq (XS.ifnonnullYes X58.here hx rfl (pc0 := 4) (pc' := 11) rfl (hb hby d_prog_8_method_6_4) rfl (by decide) (by decide) kq)
  have K61 : Go p e below T58 (mkF m 12 #[.val (.ref a)] [(.int (0 : Int32))]) G := fun tq kq => K60 tq (XS.iconst X58.here hx rfl (hb hby d_prog_8_method_6_11) kq)
  obtain ⟨fs, hr, hrun, hended, hWW, hsame⟩ := X58.leave (v := some (.int (0 : Int32))) (fun h => by rw [Bd.returns] at h; cases h)
  refine ⟨_, _, hG _ (K61 _ (retN X58 hx (t := .boolean) Bd.returns (by simp) (hb hby d_prog_8_method_6_12) hr)), hrun, hended, _, _, rfl, ?_, ⟨_, rfl⟩, hWW, hsame.mono (by decide) (by decide)⟩
  show QFR Z a b h0 n0 _ T58.heap _
  rw [e58]
  exact ⟨rfl, N0, rfl⟩
theorem ef_code_IIII (m : MethodId) (x0 : Int32) (x1 : Int32) (x2 : Int32) (x3 : Int32) : entryFrame m #[(.int x0), (.int x1), (.int x2), (.int x3)] maxLocals = mkF m 0 #[.val (.int x0), .val (.int x1), .val (.int x2), .val (.int x3), .unset, .unset, .unset, .unset, .unset, .unset, .unset] [] := by first | (simp [entryFrame, mkF, argsToLocals, Value.category, maxLocals]; done) | rfl
theorem pd_57 : parseMethodDescriptor "(II)Ljava/lang/String;" = some ⟨[.int, .int], some (.object "java/lang/String")⟩ := by decide +kernel
theorem pd_58 : parseMethodDescriptor "(Ljava/lang/String;Ljava/lang/String;Ljava/lang/String;ZLjava/lang/String;)V" = some ⟨[(.object "java/lang/String"), (.object "java/lang/String"), (.object "java/lang/String"), .boolean, (.object "java/lang/String")], none⟩ := by decide +kernel
theorem pd_59 : parseMethodDescriptor "()Z" = some ⟨[], some .boolean⟩ := by decide +kernel
def Q0 (Z : State) (q0 : Int32) (q1 : Int32) (q2 : Int32) (q3 : Int32) (cz : Int32) (h0 : Heap) (n0 : Nat) (v : Option Value) (h : Heap) (L : List Loc) : Prop := v = some (.int 1) ∧ Fr n0 L
set_option maxRecDepth 65536 in
set_option maxHeartbeats 40000000 in
theorem rm0 (l : Launch) (Z : State) (a0 : Array Value) (hw : ∀ d ∈ tables_1, d.before a0 Z = true) (ws : List Jvm.Cond) (q0 : Int32) (q1 : Int32) (q2 : Int32) (q3 : Int32) (cz : Int32) (h0 : Heap) (n0 : Nat) (Z0 : n0 ≤ h0.size) (O0 : Old Z n0 h0) (S_cs : Sta Z Z.heap "java/lang/String" "COMPACT_STRINGS" "Z" (.int cz)) (hcz : ¬ cz = 0) :
    MetFree l x (head1 (Jvm.Cond.code x code maxLocals ret :: ws) room_1) (fun aa UU => aa = #[(.int q0), (.int q1), (.int q2), (.int q3)] ∧ Z.Warmed39 UU.vm ∧ UU.heap = h0) (fun _ _ _ _ _ => True) (fun _ UU oo UU' => ∃ vv LL, oo = .returned vv ∧ Q0 Z q0 q1 q2 q3 cz h0 n0 vv UU'.heap LL ∧ ReturnedEndW UU oo UU' LL 40 1216) := by
  refine MetFree.of_bodySF (plainFor_of_name pn_5) hisR ?_
  intro p e s m args below meth c s₁ Bd hml0 hP hK
  obtain ⟨rfl, hZ, hh⟩ := hP
  have hx := Bd.exec
  have hby := Bd.bytes
  have hml : c.maxLocals = 11 := hml0
  have hown : s.vm.findClass "com/example/ledgerwright/ledgerwright/OptionIsFlagPinLaw" = some m.cls := findClass_of_methodNamed Bd.named
  have hnm := (name_of_methodNamed Bd.named Bd.method).1
  have hW : ∀ (k : Nat) (d : Jvm.Cond), tables_1[k]? = some d → d.before a0 Z = true := fun k d h => hw d (List.mem_of_getElem? h)
  have X0 : Stand p l e room_1 s m #[(.int q0), (.int q1), (.int q2), (.int q3)] below meth c s₁ [] 0 0 := Stand.of_body Bd
  have e0 : s₁.heap = h0 := by rw [← hh, Bd.state]; rfl
  have N0 := Fr.nil n0
  obtain ⟨G, hG, K0⟩ : ∃ G : State → Prop, (∀ t, G t → Steps p.tables e below (s₁.setTop (entryFrame m #[(.int q0), (.int q1), (.int q2), (.int q3)] maxLocals)) t) ∧ Go p e below s₁ (mkF m 0 #[.val (.int q0), .val (.int q1), .val (.int q2), .val (.int q3), .unset, .unset, .unset, .unset, .unset, .unset, .unset] []) G := ⟨fun t => Steps p.tables e below (s₁.setTop (entryFrame m #[(.int q0), (.int q1), (.int q2), (.int q3)] maxLocals)) t, fun _ h => h, fun t k => castTop (ef_code_IIII m q0 q1 q2 q3) k⟩
  have hws : ∀ d ∈ StrChars.Road.words, d.before a0 Z = true := fun d hd => hw d ((by decide +kernel : ∀ d ∈ StrChars.Road.words, d ∈ tables_1) d hd)
  have K62 : Go p e below s₁ (mkF m 1 #[.val (.int q0), .val (.int q1), .val (.int q2), .val (.int q3), .unset, .unset, .unset, .unset, .unset, .unset, .unset] [(.int q0)]) G := fun tq kq => K0 tq (XS.iloadN X0.here hx rfl (hb hby at_0) rfl kq)
  have K63 : Go p e below s₁ (mkF m 2 #[.val (.int q0), .val (.int q1), .val (.int q2), .val (.int q3), .unset, .unset, .unset, .unset, .unset, .unset, .unset] [(.int (3 : Int32)), (.int q0)]) G := fun tq kq => K62 tq (XS.iconst X0.here hx rfl (hb hby at_1) kq)
  have K64 : Go p e below s₁ (mkF m 3 #[.val (.int q0), .val (.int q1), .val (.int q2), .val (.int q3), .unset, .unset, .unset, .unset, .unset, .unset, .unset] [(.int (q0 &&& (3 : Int32)))]) G := fun tq kq => K63 tq (XS.iand X0.here hx rfl (hb hby at_2) rfl kq)
  have K65 : Go p e below s₁ (mkF m 5 #[.val (.int q0), .val (.int q1), .val (.int q2), .val (.int q3), .val (.int (q0 &&& (3 : Int32))), .unset, .unset, .unset, .unset, .unset, .unset] []) G := fun tq kq => K64 tq (XS.istore X0.here hx rfl (hb hby at_3) rfl (l' := #[.val (.int q0), .val (.int q1), .val (.int q2), .val (.int q3), .val (.int (q0 &&& (3 : Int32))), .unset, .unset, .unset, .unset, .unset, .unset]) rfl kq)
  have K66 : Go p e below s₁ (mkF m 7 #[.val (.int q0), .val (.int q1), .val (.int q2), .val (.int q3), .val (.int (q0 &&& (3 : Int32))), .unset, .unset, .unset, .unset, .unset, .unset] [(.int (q0 &&& (3 : Int32)))]) G := fun tq kq => K65 tq (XS.iload X0.here hx rfl (hb hby at_5) rfl kq)
  by_cases hc67 : (q0 &&& (3 : Int32)) = (0 : Int32)
  · skip
    have K68 : Go p e below s₁ (mkF m 10 #[.val (.int q0), .val (.int q1), .val (.int q2), .val (.int q3), .val (.int (q0 &&& (3 : Int32))), .unset, .unset, .unset, .unset, .unset, .unset] []) G := fun tq kq => K66 tq (XS.ifNo X0.here hx rfl (hb hby at_7) rfl ((if0 _ _).trans (teq hc67).2) kq)
    have K69 : Go p e below s₁ (mkF m 11 #[.val (.int q0), .val (.int q1), .val (.int q2), .val (.int q3), .val (.int (q0 &&& (3 : Int32))), .unset, .unset, .unset, .unset, .unset, .unset] [.null]) G := fun tq kq => K68 tq (XS.aconstNull X0.here hx rfl (hb hby at_10) kq)
    have K70 : Go p e below s₁ (mkF m 13 #[.val (.int q0), .val (.int q1), .val (.int q2), .val (.int q3), .val (.int (q0 &&& (3 : Int32))), .val .null, .unset, .unset, .unset, .unset, .unset] []) G := fun tq kq => K69 tq (XS.astore X0.here hx rfl (hb hby at_11) rfl rfl (l' := #[.val (.int q0), .val (.int q1), .val (.int q2), .val (.int q3), .val (.int (q0 &&& (3 : Int32))), .val .null, .unset, .unset, .unset, .unset, .unset]) rfl kq)
    have K71 : Go p e below s₁ (mkF m 100 #[.val (.int q0), .val (.int q1), .val (.int q2), .val (.int q3), .val (.int (q0 &&& (3 : Int32))), .val .null, .unset, .unset, .unset, .unset, .unset] []) G := fun tq kq => K70 tq (XS.goto X0.here hx rfl (pc0 := 13) (pc' := 100) rfl (hb hby at_13) (by decide) (by decide) kq)
    have K72 : Go p e below s₁ (mkF m 101 #[.val (.int q0), .val (.int q1), .val (.int q2), .val (.int q3), .val (.int (q0 &&& (3 : Int32))), .val .null, .unset, .unset, .unset, .unset, .unset] [(.int q0)]) G := fun tq kq => K71 tq (XS.iloadN X0.here hx rfl (hb hby at_100) rfl kq)
    have K73 : Go p e below s₁ (mkF m 102 #[.val (.int q0), .val (.int q1), .val (.int q2), .val (.int q3), .val (.int (q0 &&& (3 : Int32))), .val .null, .unset, .unset, .unset, .unset, .unset] [(.int (4 : Int32)), (.int q0)]) G := fun tq kq => K72 tq (XS.iconst X0.here hx rfl (hb hby at_101) kq)
    have K74 : Go p e below s₁ (mkF m 103 #[.val (.int q0), .val (.int q1), .val (.int q2), .val (.int q3), .val (.int (q0 &&& (3 : Int32))), .val .null, .unset, .unset, .unset, .unset, .unset] [(.int (q0 &&& (4 : Int32)))]) G := fun tq kq => K73 tq (XS.iand X0.here hx rfl (hb hby at_102) rfl kq)
    by_cases hc75 : (q0 &&& (4 : Int32)) = (0 : Int32)
    · skip
      have K76 : Go p e below s₁ (mkF m 110 #[.val (.int q0), .val (.int q1), .val (.int q2), .val (.int q3), .val (.int (q0 &&& (3 : Int32))), .val .null, .unset, .unset, .unset, .unset, .unset] []) G := fun tq kq => K74 tq (XS.ifYes X0.here hx rfl (pc0 := 103) (pc' := 110) rfl (hb hby at_103) rfl ((if0 _ _).trans (teq hc75).1) (by decide) (by decide) kq)
      have K77 : Go p e below s₁ (mkF m 111 #[.val (.int q0), .val (.int q1), .val (.int q2), .val (.int q3), .val (.int (q0 &&& (3 : Int32))), .val .null, .unset, .unset, .unset, .unset, .unset] [(.int (0 : Int32))]) G := fun tq kq => K76 tq (XS.iconst X0.here hx rfl (hb hby at_110) kq)
      have K78 : Go p e below s₁ (mkF m 113 #[.val (.int q0), .val (.int q1), .val (.int q2), .val (.int q3), .val (.int (q0 &&& (3 : Int32))), .val .null, .val (.int (0 : Int32)), .unset, .unset, .unset, .unset] []) G := fun tq kq => K77 tq (XS.istore X0.here hx rfl (hb hby at_111) rfl (l' := #[.val (.int q0), .val (.int q1), .val (.int q2), .val (.int q3), .val (.int (q0 &&& (3 : Int32))), .val .null, .val (.int (0 : Int32)), .unset, .unset, .unset, .unset]) rfl kq)
      have K79 : Go p e below s₁ (mkF m 114 #[.val (.int q0), .val (.int q1), .val (.int q2), .val (.int q3), .val (.int (q0 &&& (3 : Int32))), .val .null, .val (.int (0 : Int32)), .unset, .unset, .unset, .unset] [(.int q2)]) G := fun tq kq => K78 tq (XS.iloadN X0.here hx rfl (hb hby at_113) rfl kq)
      have K80 : Go p e below s₁ (mkF m 115 #[.val (.int q0), .val (.int q1), .val (.int q2), .val (.int q3), .val (.int (q0 &&& (3 : Int32))), .val .null, .val (.int (0 : Int32)), .unset, .unset, .unset, .unset] [(.int (1 : Int32)), (.int q2)]) G := fun tq kq => K79 tq (XS.iconst X0.here hx rfl (hb hby at_114) kq)
      have K81 : Go p e below s₁ (mkF m 116 #[.val (.int q0), .val (.int q1), .val (.int q2), .val (.int q3), .val (.int (q0 &&& (3 : Int32))), .val .null, .val (.int (0 : Int32)), .unset, .unset, .unset, .unset] [(.int (q2 &&& (1 : Int32)))]) G := fun tq kq => K80 tq (XS.iand X0.here hx rfl (hb hby at_115) rfl kq)
      have K82 : Go p e below s₁ (mkF m 117 #[.val (.int q0), .val (.int q1), .val (.int q2), .val (.int q3), .val (.int (q0 &&& (3 : Int32))), .val .null, .val (.int (0 : Int32)), .unset, .unset, .unset, .unset] [(.int q2), (.int (q2 &&& (1 : Int32)))]) G := fun tq kq => K81 tq (XS.iloadN X0.here hx rfl (hb hby at_116) rfl kq)
      have K83 : Go p e below s₁ (mkF m 118 #[.val (.int q0), .val (.int q1), .val (.int q2), .val (.int q3), .val (.int (q0 &&& (3 : Int32))), .val .null, .val (.int (0 : Int32)), .unset, .unset, .unset, .unset] [(.int (1 : Int32)), (.int q2), (.int (q2 &&& (1 : Int32)))]) G := fun tq kq => K82 tq (XS.iconst X0.here hx rfl (hb hby at_117) kq)
      have K84 : Go p e below s₁ (mkF m 119 #[.val (.int q0), .val (.int q1), .val (.int q2), .val (.int q3), .val (.int (q0 &&& (3 : Int32))), .val .null, .val (.int (0 : Int32)), .unset, .unset, .unset, .unset] [(.int ((q2.toUInt32 >>> ((1 : Int32) &&& 31).toUInt32).toInt32)), (.int (q2 &&& (1 : Int32)))]) G := fun tq kq => K83 tq (XS.iushr X0.here hx rfl (hb hby at_118) rfl kq)
      obtain ⟨v85, _, ⟨T85, L85, k85, n85⟩, -, X85, ⟨Lc85, hQ85, l85, y85, z85⟩, st85⟩ := Jvm.LawKit.callS X0 hx (y := (⟨"com/example/ledgerwright/ledgerwright/OptionIsFlagPinLaw", "drawn", "(II)Ljava/lang/String;"⟩ : MethodName)) hown (mvT hZ (hW 0 _ rfl)) (mvT hZ (hW 1 _ rfl)) (mvT hZ (hW 2 _ rfl)) (mvT hZ (hW 3 _ rfl)) (by decide) (backOf (W := 0) (rmDr l Z a0 hw [] (q2 &&& (1 : Int32)) ((q2.toUInt32 >>> ((1 : Int32) &&& 31).toUInt32).toInt32) cz h0 n0 Z0 O0 S_cs hcz) hZ (hW 3 _ rfl) (hW 2 _ rfl) (by decide) (by decide)) (g := (mkF m 119 #[.val (.int q0), .val (.int q1), .val (.int q2), .val (.int q3), .val (.int (q0 &&& (3 : Int32))), .val .null, .val (.int (0 : Int32)), .unset, .unset, .unset, .unset] [(.int ((q2.toUInt32 >>> ((1 : Int32) &&& 31).toUInt32).toInt32)), (.int (q2 &&& (1 : Int32)))])) rfl (by rw [hml]; rfl) (argsL := [(.int (q2 &&& (1 : Int32))), (.int ((q2.toUInt32 >>> ((1 : Int32) &&& 31).toUInt32).toInt32))]) (rest := []) (lenOf pd_57 rfl) rfl (by show 2 * 0 + _ ≤ _; exact Nat.le_of_eq rfl) (hb hby at_119) (fun _ _ => ⟨rfl, e0, (by decide : 0 + 3 ≤ _), (by decide : 0 + 6 ≤ _)⟩)
      dsimp only [Pt.U, Pt.locs, Pt.cells, Pt.slots] at X85 l85 y85 z85 st85 hQ85
      subst l85 y85 z85
      obtain ⟨r85, rfl, i85, N85q, K85q⟩ := hQ85
      have N85 := Fr.app N0 N85q
      have K86 : Go p e below T85 (mkF m 122 #[.val (.int q0), .val (.int q1), .val (.int q2), .val (.int q3), .val (.int (q0 &&& (3 : Int32))), .val .null, .val (.int (0 : Int32)), .unset, .unset, .unset, .unset] [r85]) G := fun tq kq => K84 tq (st85 tq kq)
      have K87 : Go p e below T85 (mkF m 124 #[.val (.int q0), .val (.int q1), .val (.int q2), .val (.int q3), .val (.int (q0 &&& (3 : Int32))), .val .null, .val (.int (0 : Int32)), .val r85, .unset, .unset, .unset] []) G := fun tq kq => K86 tq (XS.astore X85.here hx rfl (hb hby at_122) rfl i85 (l' := #[.val (.int q0), .val (.int q1), .val (.int q2), .val (.int q3), .val (.int (q0 &&& (3 : Int32))), .val .null, .val (.int (0 : Int32)), .val r85, .unset, .unset, .unset]) (by rcases ref_cases i85 with q | ⟨_, q⟩ <;> subst q <;> rfl) kq)
      have K88 : Go p e below T85 (mkF m 125 #[.val (.int q0), .val (.int q1), .val (.int q2), .val (.int q3), .val (.int (q0 &&& (3 : Int32))), .val .null, .val (.int (0 : Int32)), .val r85, .unset, .unset, .unset] [(.int q3)]) G := fun tq kq => K87 tq (XS.iloadN X85.here hx rfl (hb hby at_124) rfl kq)
      have K89 : Go p e below T85 (mkF m 126 #[.val (.int q0), .val (.int q1), .val (.int q2), .val (.int q3), .val (.int (q0 &&& (3 : Int32))), .val .null, .val (.int (0 : Int32)), .val r85, .unset, .unset, .unset] [(.int (1 : Int32)), (.int q3)]) G := fun tq kq => K88 tq (XS.iconst X85.here hx rfl (hb hby at_125) kq)
      have K90 : Go p e below T85 (mkF m 127 #[.val (.int q0), .val (.int q1), .val (.int q2), .val (.int q3), .val (.int (q0 &&& (3 : Int32))), .val .null, .val (.int (0 : Int32)), .val r85, .unset, .unset, .unset] [(.int (q3 &&& (1 : Int32)))]) G := fun tq kq => K89 tq (XS.iand X85.here hx rfl (hb hby at_126) rfl kq)
      have K91 : Go p e below T85 (mkF m 128 #[.val (.int q0), .val (.int q1), .val (.int q2), .val (.int q3), .val (.int (q0 &&& (3 : Int32))), .val .null, .val (.int (0 : Int32)), .val r85, .unset, .unset, .unset] [(.int q3), (.int (q3 &&& (1 : Int32)))]) G := fun tq kq => K90 tq (XS.iloadN X85.here hx rfl (hb hby at_127) rfl kq)
      have K92 : Go p e below T85 (mkF m 129 #[.val (.int q0), .val (.int q1), .val (.int q2), .val (.int q3), .val (.int (q0 &&& (3 : Int32))), .val .null, .val (.int (0 : Int32)), .val r85, .unset, .unset, .unset] [(.int (1 : Int32)), (.int q3), (.int (q3 &&& (1 : Int32)))]) G := fun tq kq => K91 tq (XS.iconst X85.here hx rfl (hb hby at_128) kq)
      have K93 : Go p e below T85 (mkF m 130 #[.val (.int q0), .val (.int q1), .val (.int q2), .val (.int q3), .val (.int (q0 &&& (3 : Int32))), .val .null, .val (.int (0 : Int32)), .val r85, .unset, .unset, .unset] [(.int ((q3.toUInt32 >>> ((1 : Int32) &&& 31).toUInt32).toInt32)), (.int (q3 &&& (1 : Int32)))]) G := fun tq kq => K92 tq (XS.iushr X85.here hx rfl (hb hby at_129) rfl kq)
      obtain ⟨v94, _, ⟨T94, L94, k94, n94⟩, -, X94, ⟨Lc94, hQ94, l94, y94, z94⟩, st94⟩ := Jvm.LawKit.callS X85 hx (y := (⟨"com/example/ledgerwright/ledgerwright/OptionIsFlagPinLaw", "drawn", "(II)Ljava/lang/String;"⟩ : MethodName)) hown (mvT hZ (hW 0 _ rfl)) (mvT hZ (hW 1 _ rfl)) (mvT hZ (hW 2 _ rfl)) (mvT hZ (hW 3 _ rfl)) (by decide) (backOf (W := 0) (rmDr l Z a0 hw [] (q3 &&& (1 : Int32)) ((q3.toUInt32 >>> ((1 : Int32) &&& 31).toUInt32).toInt32) cz T85.heap n0 (Nat.le_trans Z0 K85q.1) (O0.keep K85q all0) S_cs hcz) hZ (hW 3 _ rfl) (hW 2 _ rfl) (by decide) (by decide)) (g := (mkF m 130 #[.val (.int q0), .val (.int q1), .val (.int q2), .val (.int q3), .val (.int (q0 &&& (3 : Int32))), .val .null, .val (.int (0 : Int32)), .val r85, .unset, .unset, .unset] [(.int ((q3.toUInt32 >>> ((1 : Int32) &&& 31).toUInt32).toInt32)), (.int (q3 &&& (1 : Int32)))])) rfl (by rw [hml]; rfl) (argsL := [(.int (q3 &&& (1 : Int32))), (.int ((q3.toUInt32 >>> ((1 : Int32) &&& 31).toUInt32).toInt32))]) (rest := []) (lenOf pd_57 rfl) rfl (by show 2 * 0 + _ ≤ _; exact Nat.le_of_eq rfl) (hb hby at_130) (fun _ _ => ⟨rfl, rfl, (by decide : 3 + 3 ≤ _), (by decide : 6 + 6 ≤ _)⟩)
      dsimp only [Pt.U, Pt.locs, Pt.cells, Pt.slots] at X94 l94 y94 z94 st94 hQ94
      subst l94 y94 z94
      obtain ⟨r94, rfl, i94, N94q, K94q⟩ := hQ94
      have N94 := Fr.app N85 N94q
      have K95 : Go p e below T94 (mkF m 133 #[.val (.int q0), .val (.int q1), .val (.int q2), .val (.int q3), .val (.int (q0 &&& (3 : Int32))), .val .null, .val (.int (0 : Int32)), .val r85, .unset, .unset, .unset] [r94]) G := fun tq kq => K93 tq (st94 tq kq)
      have K96 : Go p e below T94 (mkF m 135 #[.val (.int q0), .val (.int q1), .val (.int q2), .val (.int q3), .val (.int (q0 &&& (3 : Int32))), .val .null, .val (.int (0 : Int32)), .val r85, .val r94, .unset, .unset] []) G := fun tq kq => K95 tq (XS.astore X94.here hx rfl (hb hby at_133) rfl i94 (l' := #[.val (.int q0), .val (.int q1), .val (.int q2), .val (.int q3), .val (.int (q0 &&& (3 : Int32))), .val .null, .val (.int (0 : Int32)), .val r85, .val r94, .unset, .unset]) (by rcases ref_cases i94 with q | ⟨_, q⟩ <;> subst q <;> rfl) kq)
      have K97 : Go p e below T94 (mkF m 136 #[.val (.int q0), .val (.int q1), .val (.int q2), .val (.int q3), .val (.int (q0 &&& (3 : Int32))), .val .null, .val (.int (0 : Int32)), .val r85, .val r94, .unset, .unset] [(.int q3)]) G := fun tq kq => K96 tq (XS.iloadN X94.here hx rfl (hb hby at_135) rfl kq)
      have K98 : Go p e below T94 (mkF m 138 #[.val (.int q0), .val (.int q1), .val (.int q2), .val (.int q3), .val (.int (q0 &&& (3 : Int32))), .val .null, .val (.int (0 : Int32)), .val r85, .val r94, .unset, .unset] [(.int (9 : Int32)), (.int q3)]) G := fun tq kq => K97 tq (XS.bipush X94.here hx rfl (hb hby at_136) kq)
      have K99 : Go p e below T94 (mkF m 139 #[.val (.int q0), .val (.int q1), .val (.int q2), .val (.int q3), .val (.int (q0 &&& (3 : Int32))), .val .null, .val (.int (0 : Int32)), .val r85, .val r94, .unset, .unset] [(.int ((q3.toUInt32 >>> ((9 : Int32) &&& 31).toUInt32).toInt32))]) G := fun tq kq => K98 tq (XS.iushr X94.here hx rfl (hb hby at_138) rfl kq)
      have K100 : Go p e below T94 (mkF m 140 #[.val (.int q0), .val (.int q1), .val (.int q2), .val (.int q3), .val (.int (q0 &&& (3 : Int32))), .val .null, .val (.int (0 : Int32)), .val r85, .val r94, .unset, .unset] [(.int (1 : Int32)), (.int ((q3.toUInt32 >>> ((9 : Int32) &&& 31).toUInt32).toInt32))]) G := fun tq kq => K99 tq (XS.iconst X94.here hx rfl (hb hby at_139) kq)
      have K101 : Go p e below T94 (mkF m 141 #[.val (.int q0), .val (.int q1), .val (.int q2), .val (.int q3), .val (.int (q0 &&& (3 : Int32))), .val .null, .val (.int (0 : Int32)), .val r85, .val r94, .unset, .unset] [(.int (((q3.toUInt32 >>> ((9 : Int32) &&& 31).toUInt32).toInt32) &&& (1 : Int32)))]) G := fun tq kq => K100 tq (XS.iand X94.here hx rfl (hb hby at_140) rfl kq)
      have K102 : Go p e below T94 (mkF m 142 #[.val (.int q0), .val (.int q1), .val (.int q2), .val (.int q3), .val (.int (q0 &&& (3 : Int32))), .val .null, .val (.int (0 : Int32)), .val r85, .val r94, .unset, .unset] [(.int q3), (.int (((q3.toUInt32 >>> ((9 : Int32) &&& 31).toUInt32).toInt32) &&& (1 : Int32)))]) G := fun tq kq => K101 tq (XS.iloadN X94.here hx rfl (hb hby at_141) rfl kq)
      have K103 : Go p e below T94 (mkF m 144 #[.val (.int q0), .val (.int q1), .val (.int q2), .val (.int q3), .val (.int (q0 &&& (3 : Int32))), .val .null, .val (.int (0 : Int32)), .val r85, .val r94, .unset, .unset] [(.int (10 : Int32)), (.int q3), (.int (((q3.toUInt32 >>> ((9 : Int32) &&& 31).toUInt32).toInt32) &&& (1 : Int32)))]) G := fun tq kq => K102 tq (XS.bipush X94.here hx rfl (hb hby at_142) kq)
      have K104 : Go p e below T94 (mkF m 145 #[.val (.int q0), .val (.int q1), .val (.int q2), .val (.int q3), .val (.int (q0 &&& (3 : Int32))), .val .null, .val (.int (0 : Int32)), .val r85, .val r94, .unset, .unset] [(.int ((q3.toUInt32 >>> ((10 : Int32) &&& 31).toUInt32).toInt32)), (.int (((q3.toUInt32 >>> ((9 : Int32) &&& 31).toUInt32).toInt32) &&& (1 : Int32)))]) G := fun tq kq => K103 tq (XS.iushr X94.here hx rfl (hb hby at_144) rfl kq)
      obtain ⟨v105, _, ⟨T105, L105, k105, n105⟩, -, X105, ⟨Lc105, hQ105, l105, y105, z105⟩, st105⟩ := Jvm.LawKit.callS X94 hx (y := (⟨"com/example/ledgerwright/ledgerwright/OptionIsFlagPinLaw", "drawn", "(II)Ljava/lang/String;"⟩ : MethodName)) hown (mvT hZ (hW 0 _ rfl)) (mvT hZ (hW 1 _ rfl)) (mvT hZ (hW 2 _ rfl)) (mvT hZ (hW 3 _ rfl)) (by decide) (backOf (W := 0) (rmDr l Z a0 hw [] (((q3.toUInt32 >>> ((9 : Int32) &&& 31).toUInt32).toInt32) &&& (1 : Int32)) ((q3.toUInt32 >>> ((10 : Int32) &&& 31).toUInt32).toInt32) cz T94.heap n0 (Nat.le_trans (Nat.le_trans Z0 K85q.1) K94q.1) ((O0.keep K85q all0).keep K94q all0) S_cs hcz) hZ (hW 3 _ rfl) (hW 2 _ rfl) (by decide) (by decide)) (g := (mkF m 145 #[.val (.int q0), .val (.int q1), .val (.int q2), .val (.int q3), .val (.int (q0 &&& (3 : Int32))), .val .null, .val (.int (0 : Int32)), .val r85, .val r94, .unset, .unset] [(.int ((q3.toUInt32 >>> ((10 : Int32) &&& 31).toUInt32).toInt32)), (.int (((q3.toUInt32 >>> ((9 : Int32) &&& 31).toUInt32).toInt32) &&& (1 : Int32)))])) rfl (by rw [hml]; rfl) (argsL := [(.int (((q3.toUInt32 >>> ((9 : Int32) &&& 31).toUInt32).toInt32) &&& (1 : Int32))), (.int ((q3.toUInt32 >>> ((10 : Int32) &&& 31).toUInt32).toInt32))]) (rest := []) (lenOf pd_57 rfl) rfl (by show 2 * 0 + _ ≤ _; exact Nat.le_of_eq rfl) (hb hby at_145) (fun _ _ => ⟨rfl, rfl, (by decide : 6 + 3 ≤ _), (by decide : 12 + 6 ≤ _)⟩)
      dsimp only [Pt.U, Pt.locs, Pt.cells, Pt.slots] at X105 l105 y105 z105 st105 hQ105
      subst l105 y105 z105
      obtain ⟨r105, rfl, i105, N105q, K105q⟩ := hQ105
      have N105 := Fr.app N94 N105q
      have K106 : Go p e below T105 (mkF m 148 #[.val (.int q0), .val (.int q1), .val (.int q2), .val (.int q3), .val (.int (q0 &&& (3 : Int32))), .val .null, .val (.int (0 : Int32)), .val r85, .val r94, .unset, .unset] [r105]) G := fun tq kq => K104 tq (st105 tq kq)
      have K107 : Go p e below T105 (mkF m 150 #[.val (.int q0), .val (.int q1), .val (.int q2), .val (.int q3), .val (.int (q0 &&& (3 : Int32))), .val .null, .val (.int (0 : Int32)), .val r85, .val r94, .val r105, .unset] []) G := fun tq kq => K106 tq (XS.astore X105.here hx rfl (hb hby at_148) rfl i105 (l' := #[.val (.int q0), .val (.int q1), .val (.int q2), .val (.int q3), .val (.int (q0 &&& (3 : Int32))), .val .null, .val (.int (0 : Int32)), .val r85, .val r94, .val r105, .unset]) (by rcases ref_cases i105 with q | ⟨_, q⟩ <;> subst q <;> rfl) kq)
      obtain ⟨T108, h108, X108, e108, E108, A108, D108, -, st108⟩ := newO X105 hx hZ hown (hW 34 _ rfl) (hW 35 _ rfl) (hW 36 _ rfl) rfl (g := (mkF m 150 #[.val (.int q0), .val (.int q1), .val (.int q2), .val (.int q3), .val (.int (q0 &&& (3 : Int32))), .val .null, .val (.int (0 : Int32)), .val r85, .val r94, .val r105, .unset] [])) rfl (hb hby at_150) (by decide) (by decide)
      obtain ⟨b108, g108⟩ : ∃ z, z = T105.heap.size := ⟨_, rfl⟩
      rw [← g108] at A108 D108 st108
      have ge_b108 : n0 ≤ b108 := Nat.le_trans (Nat.le_trans (Nat.le_trans (Nat.le_trans Z0 K85q.1) K94q.1) K105q.1) (Nat.le_of_eq g108.symm)
      have sz_b108 : h0.size ≤ b108 := Nat.le_trans (((((Keep.refl h0 []).trans K85q all0).trans K94q all0).trans K105q all0)).1 (Nat.le_of_eq g108.symm)
      have F108_name : Fld Z h108 b108 "com/example/ledgerwright/ledgerwright/Option" "name" "Ljava/lang/String;" .null := D108 (Or.inr (hW 47 _ rfl)) (ty := (.object "java/lang/String")) (by decide)
      have F108_valueName : Fld Z h108 b108 "com/example/ledgerwright/ledgerwright/Option" "valueName" "Ljava/lang/String;" .null := D108 (Or.inr (hW 49 _ rfl)) (ty := (.object "java/lang/String")) (by decide)
      have F108_defaultValue : Fld Z h108 b108 "com/example/ledgerwright/ledgerwright/Option" "defaultValue" "Ljava/lang/String;" .null := D108 (Or.inr (hW 51 _ rfl)) (ty := (.object "java/lang/String")) (by decide)
      have F108_required : Fld Z h108 b108 "com/example/ledgerwright/ledgerwright/Option" "required" "Z" (.int (0 : Int32)) := D108 (Or.inr (hW 53 _ rfl)) (ty := .boolean) (by decide)
      have F108_description : Fld Z h108 b108 "com/example/ledgerwright/ledgerwright/Option" "description" "Ljava/lang/String;" .null := D108 (Or.inr (hW 55 _ rfl)) (ty := (.object "java/lang/String")) (by decide)
      have K109 : Go p e below T108 (mkF m 153 #[.val (.int q0), .val (.int q1), .val (.int q2), .val (.int q3), .val (.int (q0 &&& (3 : Int32))), .val .null, .val (.int (0 : Int32)), .val r85, .val r94, .val r105, .unset] [(.ref b108)]) G := fun tq kq => K107 tq (st108 tq kq)
      have K110 : Go p e below T108 (mkF m 154 #[.val (.int q0), .val (.int q1), .val (.int q2), .val (.int q3), .val (.int (q0 &&& (3 : Int32))), .val .null, .val (.int (0 : Int32)), .val r85, .val r94, .val r105, .unset] [(.ref b108), (.ref b108)]) G := fun tq kq => K109 tq (XS.dup X108.here hx rfl (hb hby at_153) rfl rfl kq)
      have K111 : Go p e below T108 (mkF m 156 #[.val (.int q0), .val (.int q1), .val (.int q2), .val (.int q3), .val (.int (q0 &&& (3 : Int32))), .val .null, .val (.int (0 : Int32)), .val r85, .val r94, .val r105, .unset] [r85, (.ref b108), (.ref b108)]) G := fun tq kq => K110 tq (XS.aload X108.here hx rfl (hb hby at_154) rfl i85 kq)
      have K112 : Go p e below T108 (mkF m 158 #[.val (.int q0), .val (.int q1), .val (.int q2), .val (.int q3), .val (.int (q0 &&& (3 : Int32))), .val .null, .val (.int (0 : Int32)), .val r85, .val r94, .val r105, .unset] [.null, r85, (.ref b108), (.ref b108)]) G := fun tq kq => K111 tq (XS.aload X108.here hx rfl (hb hby at_156) rfl rfl kq)
      have K113 : Go p e below T108 (mkF m 160 #[.val (.int q0), .val (.int q1), .val (.int q2), .val (.int q3), .val (.int (q0 &&& (3 : Int32))), .val .null, .val (.int (0 : Int32)), .val r85, .val r94, .val r105, .unset] [r94, .null, r85, (.ref b108), (.ref b108)]) G := fun tq kq => K112 tq (XS.aload X108.here hx rfl (hb hby at_158) rfl i94 kq)
      have K114 : Go p e below T108 (mkF m 162 #[.val (.int q0), .val (.int q1), .val (.int q2), .val (.int q3), .val (.int (q0 &&& (3 : Int32))), .val .null, .val (.int (0 : Int32)), .val r85, .val r94, .val r105, .unset] [(.int (0 : Int32)), r94, .null, r85, (.ref b108), (.ref b108)]) G := fun tq kq => K113 tq (XS.iload X108.here hx rfl (hb hby at_160) rfl kq)
      have K115 : Go p e below T108 (mkF m 164 #[.val (.int q0), .val (.int q1), .val (.int q2), .val (.int q3), .val (.int (q0 &&& (3 : Int32))), .val .null, .val (.int (0 : Int32)), .val r85, .val r94, .val r105, .unset] [r105, (.int (0 : Int32)), r94, .null, r85, (.ref b108), (.ref b108)]) G := fun tq kq => K114 tq (XS.aload X108.here hx rfl (hb hby at_162) rfl i105 kq)
      obtain ⟨v116, _, ⟨T116, L116, k116, n116⟩, -, X116, ⟨Lc116, hQ116, l116, y116, z116⟩, st116⟩ := X108.specialBack hx (y := (⟨"com/example/ledgerwright/ledgerwright/Option", "<init>", "(Ljava/lang/String;Ljava/lang/String;Ljava/lang/String;ZLjava/lang/String;)V"⟩ : MethodName)) rfl hown (mvT hZ (hW 37 _ rfl)) (mvT hZ (hW 38 _ rfl)) (mvT hZ (hW 39 _ rfl)) (by decide) (backOf (W := 1) (rmIni l Z a0 hw [] b108 r85 .null r94 (0 : Int32) r105 h108 n0 (Nat.le_trans (Nat.le_trans (Nat.le_trans (Nat.le_trans Z0 K85q.1) K94q.1) K105q.1) E108.1) F108_name F108_valueName F108_defaultValue F108_required F108_description A108 ge_b108 i85 rfl i94 i105) hZ (hW 39 _ rfl) (hW 36 _ rfl) (by decide) (by decide)) (g := (mkF m 164 #[.val (.int q0), .val (.int q1), .val (.int q2), .val (.int q3), .val (.int (q0 &&& (3 : Int32))), .val .null, .val (.int (0 : Int32)), .val r85, .val r94, .val r105, .unset] [r105, (.int (0 : Int32)), r94, .null, r85, (.ref b108), (.ref b108)])) rfl (by rw [hml]; rfl) (Steps.refl _) (a := b108) (argsL := [r85, .null, r94, (.int (0 : Int32)), r105]) (rest := [(.ref b108)]) (lenOf pd_58 rfl) rfl (by show 2 * 0 + _ ≤ _; exact Nat.le_of_eq rfl) (hb hby at_164) (fun _ _ => ⟨rfl, e108, (by decide : 10 + 0 ≤ _), (by decide : 23 + 0 ≤ _)⟩)
      dsimp only [Pt.U, Pt.locs, Pt.cells, Pt.slots] at X116 l116 y116 z116 st116 hQ116
      subst l116 y116 z116
      obtain ⟨rfl, N116q, K116q, E116q, F116q_valueName⟩ := hQ116
      have N116 := Fr.app N105 N116q
      have K117 : Go p e below T116 (mkF m 167 #[.val (.int q0), .val (.int q1), .val (.int q2), .val (.int q3), .val (.int (q0 &&& (3 : Int32))), .val .null, .val (.int (0 : Int32)), .val r85, .val r94, .val r105, .unset] [(.ref b108)]) G := fun tq kq => K115 tq (st116.trans kq)
      have K118 : Go p e below T116 (mkF m 169 #[.val (.int q0), .val (.int q1), .val (.int q2), .val (.int q3), .val (.int (q0 &&& (3 : Int32))), .val .null, .val (.int (0 : Int32)), .val r85, .val r94, .val r105, .val (.ref b108)] []) G := fun tq kq => K117 tq (XS.astore X116.here hx rfl (hb hby at_167) rfl rfl (l' := #[.val (.int q0), .val (.int q1), .val (.int q2), .val (.int q3), .val (.int (q0 &&& (3 : Int32))), .val .null, .val (.int (0 : Int32)), .val r85, .val r94, .val r105, .val (.ref b108)]) rfl kq)
      have K119 : Go p e below T116 (mkF m 171 #[.val (.int q0), .val (.int q1), .val (.int q2), .val (.int q3), .val (.int (q0 &&& (3 : Int32))), .val .null, .val (.int (0 : Int32)), .val r85, .val r94, .val r105, .val (.ref b108)] [(.ref b108)]) G := fun tq kq => K118 tq (XS.aload X116.here hx rfl (hb hby at_169) rfl rfl kq)
      obtain ⟨cq120, kq120, q120a, q120b, q120c⟩ := isOf hZ rfl E116q
      obtain ⟨v120, _, ⟨T120, L120, k120, n120⟩, -, X120, ⟨Lc120, hQ120, l120, y120, z120⟩, st120⟩ := X116.virtualBack hx (y := (⟨"com/example/ledgerwright/ledgerwright/Option", "isFlag", "()Z"⟩ : MethodName)) (z := (⟨"com/example/ledgerwright/ledgerwright/Option", "isFlag", "()Z"⟩ : MethodName)) hown (mvT hZ (hW 56 _ rfl)) (mvT hZ (hW 57 _ rfl)) (notFace_of_selects (args := #[]) (mvT hZ (hW 59 _ rfl))) (mvT hZ (hW 59 _ rfl)) (mvT hZ (hW 58 _ rfl)) (by decide) (backOf (W := 0) (rmFN l Z a0 hw [] b108  T116.heap n0 (Nat.le_trans (Nat.le_trans (Nat.le_trans (Nat.le_trans (Nat.le_trans Z0 K85q.1) K94q.1) K105q.1) E108.1) K116q.1) F116q_valueName) hZ (hW 60 _ rfl) (hW 36 _ rfl) (by decide) (by decide)) q120a q120c (g := (mkF m 171 #[.val (.int q0), .val (.int q1), .val (.int q2), .val (.int q3), .val (.int (q0 &&& (3 : Int32))), .val .null, .val (.int (0 : Int32)), .val r85, .val r94, .val r105, .val (.ref b108)] [(.ref b108)])) rfl (by rw [hml]; rfl) (Steps.refl _) (argsL := []) (rest := []) (lenOf pd_59 rfl) rfl (by show 2 * 0 + _ ≤ _; exact Nat.le_of_eq rfl) (hb hby at_171) (fun _ _ => ⟨rfl, rfl, (by decide : 10 + 0 ≤ _), (by decide : 23 + 0 ≤ _)⟩)
      dsimp only [Pt.U, Pt.locs, Pt.cells, Pt.slots] at X120 l120 y120 z120 st120 hQ120
      subst l120 y120 z120
      obtain ⟨rfl, N120q, E120q⟩ := hQ120
      have N120 := Fr.app N116 N120q
      have K121 : Go p e below T120 (mkF m 174 #[.val (.int q0), .val (.int q1), .val (.int q2), .val (.int q3), .val (.int (q0 &&& (3 : Int32))), .val .null, .val (.int (0 : Int32)), .val r85, .val r94, .val r105, .val (.ref b108)] [(.int (1 : Int32))]) G := fun tq kq => K119 tq (st120.trans kq)
      have K122 : Go p e below T120 (mkF m 176 #[.val (.int q0), .val (.int q1), .val (.int q2), .val (.int q3), .val (.int (q0 &&& (3 : Int32))), .val .null, .val (.int (0 : Int32)), .val r85, .val r94, .val r105, .val (.ref b108)] [(.int (q0 &&& (3 : Int32))), (.int (1 : Int32))]) G := fun tq kq => K121 tq (XS.iload X120.here hx rfl (hb hby at_174) rfl kq)
      have K123 : Go p e below T120 (mkF m 179 #[.val (.int q0), .val (.int q1), .val (.int q2), .val (.int q3), .val (.int (q0 &&& (3 : Int32))), .val .null, .val (.int (0 : Int32)), .val r85, .val r94, .val r105, .val (.ref b108)] [(.int (1 : Int32))]) G := fun tq kq => K122 tq (XS.ifNo X120.here hx rfl (hb hby at_176) rfl ((if0 _ _).trans (teq hc67).2) kq)
      have K124 : Go p e below T120 (mkF m 180 #[.val (.int q0), .val (.int q1), .val (.int q2), .val (.int q3), .val (.int (q0 &&& (3 : Int32))), .val .null, .val (.int (0 : Int32)), .val r85, .val r94, .val r105, .val (.ref b108)] [(.int (1 : Int32)), (.int (1 : Int32))]) G := fun tq kq => K123 tq (XS.iconst X120.here hx rfl (hb hby at_179) kq)
      have K125 : Go p e below T120 (mkF m 184 #[.val (.int q0), .val (.int q1), .val (.int q2), .val (.int q3), .val (.int (q0 &&& (3 : Int32))), .val .null, .val (.int (0 : Int32)), .val r85, .val r94, .val r105, .val (.ref b108)] [(.int (1 : Int32)), (.int (1 : Int32))]) G := fun tq kq => K124 tq (XS.goto X120.here hx rfl (pc0 := 180) (pc' := 184) rfl (hb hby at_180) (by decide) (by decide) kq)
      have K126 : Go p e below T120 (mkF m 187 #[.val (.int q0), .val (.int q1), .val (.int q2), .val (.int q3), .val (.int (q0 &&& (3 : Int32))), .val .null, .val (.int (0 : Int32)), .val r85, .val r94, .val r105, .val (.ref b108)] []) G := fun tq kq => K125 tq (XS.icmpNo X120.here hx rfl (hb hby at_184) rfl ((teq (by decide : (1 : Int32) = (1 : Int32))).2) kq)
      have K127 : Go p e below T120 (mkF m 188 #[.val (.int q0), .val (.int q1), .val (.int q2), .val (.int q3), .val (.int (q0 &&& (3 : Int32))), .val .null, .val (.int (0 : Int32)), .val r85, .val r94, .val r105, .val (.ref b108)] [(.int (1 : Int32))]) G := fun tq kq => K126 tq (XS.iconst X120.here hx rfl (hb hby at_187) kq)
      have K128 : Go p e below T120 (mkF m 192 #[.val (.int q0), .val (.int q1), .val (.int q2), .val (.int q3), .val (.int (q0 &&& (3 : Int32))), .val .null, .val (.int (0 : Int32)), .val r85, .val r94, .val r105, .val (.ref b108)] [(.int (1 : Int32))]) G := fun tq kq => K127 tq (XS.goto X120.here hx rfl (pc0 := 188) (pc' := 192) rfl (hb hby at_188) (by decide) (by decide) kq)
      obtain ⟨fs, hr, hrun, hended, hWW, hsame⟩ := X120.leave (v := some (.int (1 : Int32))) (fun h => by rw [Bd.returns] at h; cases h)
      refine ⟨_, _, hG _ (K128 _ (retN X120 hx (t := .boolean) Bd.returns (by simp) (hb hby at_192) hr)), hrun, hended, _, _, rfl, ?_, wide ⟨⟨_, rfl⟩, hWW, hsame.mono (by decide) (by decide)⟩⟩
      show Q0 Z q0 q1 q2 q3 cz h0 n0 _ T120.heap _
      rw [E120q]
      exact ⟨rfl, N120⟩
    · skip
      have K129 : Go p e below s₁ (mkF m 106 #[.val (.int q0), .val (.int q1), .val (.int q2), .val (.int q3), .val (.int (q0 &&& (3 : Int32))), .val .null, .unset, .unset, .unset, .unset, .unset] []) G := fun tq kq => K74 tq (XS.ifNo X0.here hx rfl (hb hby at_103) rfl ((if0 _ _).trans (feq hc75).1) kq)
      have K130 : Go p e below s₁ (mkF m 107 #[.val (.int q0), .val (.int q1), .val (.int q2), .val (.int q3), .val (.int (q0 &&& (3 : Int32))), .val .null, .unset, .unset, .unset, .unset, .unset] [(.int (1 : Int32))]) G := fun tq kq => K129 tq (XS.iconst X0.here hx rfl (hb hby at_106) kq)
      have K131 : Go p e below s₁ (mkF m 111 #[.val (.int q0), .val (.int q1), .val (.int q2), .val (.int q3), .val (.int (q0 &&& (3 : Int32))), .val .null, .unset, .unset, .unset, .unset, .unset] [(.int (1 : Int32))]) G := fun tq kq => K130 tq (XS.goto X0.here hx rfl (pc0 := 107) (pc' := 111) rfl (hb hby at_107) (by decide) (by decide) kq)
      have K132 : Go p e below s₁ (mkF m 113 #[.val (.int q0), .val (.int q1), .val (.int q2), .val (.int q3), .val (.int (q0 &&& (3 : Int32))), .val .null, .val (.int (1 : Int32)), .unset, .unset, .unset, .unset] []) G := fun tq kq => K131 tq (XS.istore X0.here hx rfl (hb hby at_111) rfl (l' := #[.val (.int q0), .val (.int q1), .val (.int q2), .val (.int q3), .val (.int (q0 &&& (3 : Int32))), .val .null, .val (.int (1 : Int32)), .unset, .unset, .unset, .unset]) rfl kq)
      have K133 : Go p e below s₁ (mkF m 114 #[.val (.int q0), .val (.int q1), .val (.int q2), .val (.int q3), .val (.int (q0 &&& (3 : Int32))), .val .null, .val (.int (1 : Int32)), .unset, .unset, .unset, .unset] [(.int q2)]) G := fun tq kq => K132 tq (XS.iloadN X0.here hx rfl (hb hby at_113) rfl kq)
      have K134 : Go p e below s₁ (mkF m 115 #[.val (.int q0), .val (.int q1), .val (.int q2), .val (.int q3), .val (.int (q0 &&& (3 : Int32))), .val .null, .val (.int (1 : Int32)), .unset, .unset, .unset, .unset] [(.int (1 : Int32)), (.int q2)]) G := fun tq kq => K133 tq (XS.iconst X0.here hx rfl (hb hby at_114) kq)
      have K135 : Go p e below s₁ (mkF m 116 #[.val (.int q0), .val (.int q1), .val (.int q2), .val (.int q3), .val (.int (q0 &&& (3 : Int32))), .val .null, .val (.int (1 : Int32)), .unset, .unset, .unset, .unset] [(.int (q2 &&& (1 : Int32)))]) G := fun tq kq => K134 tq (XS.iand X0.here hx rfl (hb hby at_115) rfl kq)
      have K136 : Go p e below s₁ (mkF m 117 #[.val (.int q0), .val (.int q1), .val (.int q2), .val (.int q3), .val (.int (q0 &&& (3 : Int32))), .val .null, .val (.int (1 : Int32)), .unset, .unset, .unset, .unset] [(.int q2), (.int (q2 &&& (1 : Int32)))]) G := fun tq kq => K135 tq (XS.iloadN X0.here hx rfl (hb hby at_116) rfl kq)
      have K137 : Go p e below s₁ (mkF m 118 #[.val (.int q0), .val (.int q1), .val (.int q2), .val (.int q3), .val (.int (q0 &&& (3 : Int32))), .val .null, .val (.int (1 : Int32)), .unset, .unset, .unset, .unset] [(.int (1 : Int32)), (.int q2), (.int (q2 &&& (1 : Int32)))]) G := fun tq kq => K136 tq (XS.iconst X0.here hx rfl (hb hby at_117) kq)
      have K138 : Go p e below s₁ (mkF m 119 #[.val (.int q0), .val (.int q1), .val (.int q2), .val (.int q3), .val (.int (q0 &&& (3 : Int32))), .val .null, .val (.int (1 : Int32)), .unset, .unset, .unset, .unset] [(.int ((q2.toUInt32 >>> ((1 : Int32) &&& 31).toUInt32).toInt32)), (.int (q2 &&& (1 : Int32)))]) G := fun tq kq => K137 tq (XS.iushr X0.here hx rfl (hb hby at_118) rfl kq)
      obtain ⟨v139, _, ⟨T139, L139, k139, n139⟩, -, X139, ⟨Lc139, hQ139, l139, y139, z139⟩, st139⟩ := Jvm.LawKit.callS X0 hx (y := (⟨"com/example/ledgerwright/ledgerwright/OptionIsFlagPinLaw", "drawn", "(II)Ljava/lang/String;"⟩ : MethodName)) hown (mvT hZ (hW 0 _ rfl)) (mvT hZ (hW 1 _ rfl)) (mvT hZ (hW 2 _ rfl)) (mvT hZ (hW 3 _ rfl)) (by decide) (backOf (W := 0) (rmDr l Z a0 hw [] (q2 &&& (1 : Int32)) ((q2.toUInt32 >>> ((1 : Int32) &&& 31).toUInt32).toInt32) cz h0 n0 Z0 O0 S_cs hcz) hZ (hW 3 _ rfl) (hW 2 _ rfl) (by decide) (by decide)) (g := (mkF m 119 #[.val (.int q0), .val (.int q1), .val (.int q2), .val (.int q3), .val (.int (q0 &&& (3 : Int32))), .val .null, .val (.int (1 : Int32)), .unset, .unset, .unset, .unset] [(.int ((q2.toUInt32 >>> ((1 : Int32) &&& 31).toUInt32).toInt32)), (.int (q2 &&& (1 : Int32)))])) rfl (by rw [hml]; rfl) (argsL := [(.int (q2 &&& (1 : Int32))), (.int ((q2.toUInt32 >>> ((1 : Int32) &&& 31).toUInt32).toInt32))]) (rest := []) (lenOf pd_57 rfl) rfl (by show 2 * 0 + _ ≤ _; exact Nat.le_of_eq rfl) (hb hby at_119) (fun _ _ => ⟨rfl, e0, (by decide : 0 + 3 ≤ _), (by decide : 0 + 6 ≤ _)⟩)
      dsimp only [Pt.U, Pt.locs, Pt.cells, Pt.slots] at X139 l139 y139 z139 st139 hQ139
      subst l139 y139 z139
      obtain ⟨r139, rfl, i139, N139q, K139q⟩ := hQ139
      have N139 := Fr.app N0 N139q
      have K140 : Go p e below T139 (mkF m 122 #[.val (.int q0), .val (.int q1), .val (.int q2), .val (.int q3), .val (.int (q0 &&& (3 : Int32))), .val .null, .val (.int (1 : Int32)), .unset, .unset, .unset, .unset] [r139]) G := fun tq kq => K138 tq (st139 tq kq)
      have K141 : Go p e below T139 (mkF m 124 #[.val (.int q0), .val (.int q1), .val (.int q2), .val (.int q3), .val (.int (q0 &&& (3 : Int32))), .val .null, .val (.int (1 : Int32)), .val r139, .unset, .unset, .unset] []) G := fun tq kq => K140 tq (XS.astore X139.here hx rfl (hb hby at_122) rfl i139 (l' := #[.val (.int q0), .val (.int q1), .val (.int q2), .val (.int q3), .val (.int (q0 &&& (3 : Int32))), .val .null, .val (.int (1 : Int32)), .val r139, .unset, .unset, .unset]) (by rcases ref_cases i139 with q | ⟨_, q⟩ <;> subst q <;> rfl) kq)
      have K142 : Go p e below T139 (mkF m 125 #[.val (.int q0), .val (.int q1), .val (.int q2), .val (.int q3), .val (.int (q0 &&& (3 : Int32))), .val .null, .val (.int (1 : Int32)), .val r139, .unset, .unset, .unset] [(.int q3)]) G := fun tq kq => K141 tq (XS.iloadN X139.here hx rfl (hb hby at_124) rfl kq)
      have K143 : Go p e below T139 (mkF m 126 #[.val (.int q0), .val (.int q1), .val (.int q2), .val (.int q3), .val (.int (q0 &&& (3 : Int32))), .val .null, .val (.int (1 : Int32)), .val r139, .unset, .unset, .unset] [(.int (1 : Int32)), (.int q3)]) G := fun tq kq => K142 tq (XS.iconst X139.here hx rfl (hb hby at_125) kq)
      have K144 : Go p e below T139 (mkF m 127 #[.val (.int q0), .val (.int q1), .val (.int q2), .val (.int q3), .val (.int (q0 &&& (3 : Int32))), .val .null, .val (.int (1 : Int32)), .val r139, .unset, .unset, .unset] [(.int (q3 &&& (1 : Int32)))]) G := fun tq kq => K143 tq (XS.iand X139.here hx rfl (hb hby at_126) rfl kq)
      have K145 : Go p e below T139 (mkF m 128 #[.val (.int q0), .val (.int q1), .val (.int q2), .val (.int q3), .val (.int (q0 &&& (3 : Int32))), .val .null, .val (.int (1 : Int32)), .val r139, .unset, .unset, .unset] [(.int q3), (.int (q3 &&& (1 : Int32)))]) G := fun tq kq => K144 tq (XS.iloadN X139.here hx rfl (hb hby at_127) rfl kq)
      have K146 : Go p e below T139 (mkF m 129 #[.val (.int q0), .val (.int q1), .val (.int q2), .val (.int q3), .val (.int (q0 &&& (3 : Int32))), .val .null, .val (.int (1 : Int32)), .val r139, .unset, .unset, .unset] [(.int (1 : Int32)), (.int q3), (.int (q3 &&& (1 : Int32)))]) G := fun tq kq => K145 tq (XS.iconst X139.here hx rfl (hb hby at_128) kq)
      have K147 : Go p e below T139 (mkF m 130 #[.val (.int q0), .val (.int q1), .val (.int q2), .val (.int q3), .val (.int (q0 &&& (3 : Int32))), .val .null, .val (.int (1 : Int32)), .val r139, .unset, .unset, .unset] [(.int ((q3.toUInt32 >>> ((1 : Int32) &&& 31).toUInt32).toInt32)), (.int (q3 &&& (1 : Int32)))]) G := fun tq kq => K146 tq (XS.iushr X139.here hx rfl (hb hby at_129) rfl kq)
      obtain ⟨v148, _, ⟨T148, L148, k148, n148⟩, -, X148, ⟨Lc148, hQ148, l148, y148, z148⟩, st148⟩ := Jvm.LawKit.callS X139 hx (y := (⟨"com/example/ledgerwright/ledgerwright/OptionIsFlagPinLaw", "drawn", "(II)Ljava/lang/String;"⟩ : MethodName)) hown (mvT hZ (hW 0 _ rfl)) (mvT hZ (hW 1 _ rfl)) (mvT hZ (hW 2 _ rfl)) (mvT hZ (hW 3 _ rfl)) (by decide) (backOf (W := 0) (rmDr l Z a0 hw [] (q3 &&& (1 : Int32)) ((q3.toUInt32 >>> ((1 : Int32) &&& 31).toUInt32).toInt32) cz T139.heap n0 (Nat.le_trans Z0 K139q.1) (O0.keep K139q all0) S_cs hcz) hZ (hW 3 _ rfl) (hW 2 _ rfl) (by decide) (by decide)) (g := (mkF m 130 #[.val (.int q0), .val (.int q1), .val (.int q2), .val (.int q3), .val (.int (q0 &&& (3 : Int32))), .val .null, .val (.int (1 : Int32)), .val r139, .unset, .unset, .unset] [(.int ((q3.toUInt32 >>> ((1 : Int32) &&& 31).toUInt32).toInt32)), (.int (q3 &&& (1 : Int32)))])) rfl (by rw [hml]; rfl) (argsL := [(.int (q3 &&& (1 : Int32))), (.int ((q3.toUInt32 >>> ((1 : Int32) &&& 31).toUInt32).toInt32))]) (rest := []) (lenOf pd_57 rfl) rfl (by show 2 * 0 + _ ≤ _; exact Nat.le_of_eq rfl) (hb hby at_130) (fun _ _ => ⟨rfl, rfl, (by decide : 3 + 3 ≤ _), (by decide : 6 + 6 ≤ _)⟩)
      dsimp only [Pt.U, Pt.locs, Pt.cells, Pt.slots] at X148 l148 y148 z148 st148 hQ148
      subst l148 y148 z148
      obtain ⟨r148, rfl, i148, N148q, K148q⟩ := hQ148
      have N148 := Fr.app N139 N148q
      have K149 : Go p e below T148 (mkF m 133 #[.val (.int q0), .val (.int q1), .val (.int q2), .val (.int q3), .val (.int (q0 &&& (3 : Int32))), .val .null, .val (.int (1 : Int32)), .val r139, .unset, .unset, .unset] [r148]) G := fun tq kq => K147 tq (st148 tq kq)
      have K150 : Go p e below T148 (mkF m 135 #[.val (.int q0), .val (.int q1), .val (.int q2), .val (.int q3), .val (.int (q0 &&& (3 : Int32))), .val .null, .val (.int (1 : Int32)), .val r139, .val r148, .unset, .unset] []) G := fun tq kq => K149 tq (XS.astore X148.here hx rfl (hb hby at_133) rfl i148 (l' := #[.val (.int q0), .val (.int q1), .val (.int q2), .val (.int q3), .val (.int (q0 &&& (3 : Int32))), .val .null, .val (.int (1 : Int32)), .val r139, .val r148, .unset, .unset]) (by rcases ref_cases i148 with q | ⟨_, q⟩ <;> subst q <;> rfl) kq)
      have K151 : Go p e below T148 (mkF m 136 #[.val (.int q0), .val (.int q1), .val (.int q2), .val (.int q3), .val (.int (q0 &&& (3 : Int32))), .val .null, .val (.int (1 : Int32)), .val r139, .val r148, .unset, .unset] [(.int q3)]) G := fun tq kq => K150 tq (XS.iloadN X148.here hx rfl (hb hby at_135) rfl kq)
      have K152 : Go p e below T148 (mkF m 138 #[.val (.int q0), .val (.int q1), .val (.int q2), .val (.int q3), .val (.int (q0 &&& (3 : Int32))), .val .null, .val (.int (1 : Int32)), .val r139, .val r148, .unset, .unset] [(.int (9 : Int32)), (.int q3)]) G := fun tq kq => K151 tq (XS.bipush X148.here hx rfl (hb hby at_136) kq)
      have K153 : Go p e below T148 (mkF m 139 #[.val (.int q0), .val (.int q1), .val (.int q2), .val (.int q3), .val (.int (q0 &&& (3 : Int32))), .val .null, .val (.int (1 : Int32)), .val r139, .val r148, .unset, .unset] [(.int ((q3.toUInt32 >>> ((9 : Int32) &&& 31).toUInt32).toInt32))]) G := fun tq kq => K152 tq (XS.iushr X148.here hx rfl (hb hby at_138) rfl kq)
      have K154 : Go p e below T148 (mkF m 140 #[.val (.int q0), .val (.int q1), .val (.int q2), .val (.int q3), .val (.int (q0 &&& (3 : Int32))), .val .null, .val (.int (1 : Int32)), .val r139, .val r148, .unset, .unset] [(.int (1 : Int32)), (.int ((q3.toUInt32 >>> ((9 : Int32) &&& 31).toUInt32).toInt32))]) G := fun tq kq => K153 tq (XS.iconst X148.here hx rfl (hb hby at_139) kq)
      have K155 : Go p e below T148 (mkF m 141 #[.val (.int q0), .val (.int q1), .val (.int q2), .val (.int q3), .val (.int (q0 &&& (3 : Int32))), .val .null, .val (.int (1 : Int32)), .val r139, .val r148, .unset, .unset] [(.int (((q3.toUInt32 >>> ((9 : Int32) &&& 31).toUInt32).toInt32) &&& (1 : Int32)))]) G := fun tq kq => K154 tq (XS.iand X148.here hx rfl (hb hby at_140) rfl kq)
      have K156 : Go p e below T148 (mkF m 142 #[.val (.int q0), .val (.int q1), .val (.int q2), .val (.int q3), .val (.int (q0 &&& (3 : Int32))), .val .null, .val (.int (1 : Int32)), .val r139, .val r148, .unset, .unset] [(.int q3), (.int (((q3.toUInt32 >>> ((9 : Int32) &&& 31).toUInt32).toInt32) &&& (1 : Int32)))]) G := fun tq kq => K155 tq (XS.iloadN X148.here hx rfl (hb hby at_141) rfl kq)
      have K157 : Go p e below T148 (mkF m 144 #[.val (.int q0), .val (.int q1), .val (.int q2), .val (.int q3), .val (.int (q0 &&& (3 : Int32))), .val .null, .val (.int (1 : Int32)), .val r139, .val r148, .unset, .unset] [(.int (10 : Int32)), (.int q3), (.int (((q3.toUInt32 >>> ((9 : Int32) &&& 31).toUInt32).toInt32) &&& (1 : Int32)))]) G := fun tq kq => K156 tq (XS.bipush X148.here hx rfl (hb hby at_142) kq)
      have K158 : Go p e below T148 (mkF m 145 #[.val (.int q0), .val (.int q1), .val (.int q2), .val (.int q3), .val (.int (q0 &&& (3 : Int32))), .val .null, .val (.int (1 : Int32)), .val r139, .val r148, .unset, .unset] [(.int ((q3.toUInt32 >>> ((10 : Int32) &&& 31).toUInt32).toInt32)), (.int (((q3.toUInt32 >>> ((9 : Int32) &&& 31).toUInt32).toInt32) &&& (1 : Int32)))]) G := fun tq kq => K157 tq (XS.iushr X148.here hx rfl (hb hby at_144) rfl kq)
      obtain ⟨v159, _, ⟨T159, L159, k159, n159⟩, -, X159, ⟨Lc159, hQ159, l159, y159, z159⟩, st159⟩ := Jvm.LawKit.callS X148 hx (y := (⟨"com/example/ledgerwright/ledgerwright/OptionIsFlagPinLaw", "drawn", "(II)Ljava/lang/String;"⟩ : MethodName)) hown (mvT hZ (hW 0 _ rfl)) (mvT hZ (hW 1 _ rfl)) (mvT hZ (hW 2 _ rfl)) (mvT hZ (hW 3 _ rfl)) (by decide) (backOf (W := 0) (rmDr l Z a0 hw [] (((q3.toUInt32 >>> ((9 : Int32) &&& 31).toUInt32).toInt32) &&& (1 : Int32)) ((q3.toUInt32 >>> ((10 : Int32) &&& 31).toUInt32).toInt32) cz T148.heap n0 (Nat.le_trans (Nat.le_trans Z0 K139q.1) K148q.1) ((O0.keep K139q all0).keep K148q all0) S_cs hcz) hZ (hW 3 _ rfl) (hW 2 _ rfl) (by decide) (by decide)) (g := (mkF m 145 #[.val (.int q0), .val (.int q1), .val (.int q2), .val (.int q3), .val (.int (q0 &&& (3 : Int32))), .val .null, .val (.int (1 : Int32)), .val r139, .val r148, .unset, .unset] [(.int ((q3.toUInt32 >>> ((10 : Int32) &&& 31).toUInt32).toInt32)), (.int (((q3.toUInt32 >>> ((9 : Int32) &&& 31).toUInt32).toInt32) &&& (1 : Int32)))])) rfl (by rw [hml]; rfl) (argsL := [(.int (((q3.toUInt32 >>> ((9 : Int32) &&& 31).toUInt32).toInt32) &&& (1 : Int32))), (.int ((q3.toUInt32 >>> ((10 : Int32) &&& 31).toUInt32).toInt32))]) (rest := []) (lenOf pd_57 rfl) rfl (by show 2 * 0 + _ ≤ _; exact Nat.le_of_eq rfl) (hb hby at_145) (fun _ _ => ⟨rfl, rfl, (by decide : 6 + 3 ≤ _), (by decide : 12 + 6 ≤ _)⟩)
      dsimp only [Pt.U, Pt.locs, Pt.cells, Pt.slots] at X159 l159 y159 z159 st159 hQ159
      subst l159 y159 z159
      obtain ⟨r159, rfl, i159, N159q, K159q⟩ := hQ159
      have N159 := Fr.app N148 N159q
      have K160 : Go p e below T159 (mkF m 148 #[.val (.int q0), .val (.int q1), .val (.int q2), .val (.int q3), .val (.int (q0 &&& (3 : Int32))), .val .null, .val (.int (1 : Int32)), .val r139, .val r148, .unset, .unset] [r159]) G := fun tq kq => K158 tq (st159 tq kq)
      have K161 : Go p e below T159 (mkF m 150 #[.val (.int q0), .val (.int q1), .val (.int q2), .val (.int q3), .val (.int (q0 &&& (3 : Int32))), .val .null, .val (.int (1 : Int32)), .val r139, .val r148, .val r159, .unset] []) G := fun tq kq => K160 tq (XS.astore X159.here hx rfl (hb hby at_148) rfl i159 (l' := #[.val (.int q0), .val (.int q1), .val (.int q2), .val (.int q3), .val (.int (q0 &&& (3 : Int32))), .val .null, .val (.int (1 : Int32)), .val r139, .val r148, .val r159, .unset]) (by rcases ref_cases i159 with q | ⟨_, q⟩ <;> subst q <;> rfl) kq)
      obtain ⟨T162, h162, X162, e162, E162, A162, D162, -, st162⟩ := newO X159 hx hZ hown (hW 34 _ rfl) (hW 35 _ rfl) (hW 36 _ rfl) rfl (g := (mkF m 150 #[.val (.int q0), .val (.int q1), .val (.int q2), .val (.int q3), .val (.int (q0 &&& (3 : Int32))), .val .null, .val (.int (1 : Int32)), .val r139, .val r148, .val r159, .unset] [])) rfl (hb hby at_150) (by decide) (by decide)
      obtain ⟨b162, g162⟩ : ∃ z, z = T159.heap.size := ⟨_, rfl⟩
      rw [← g162] at A162 D162 st162
      have ge_b162 : n0 ≤ b162 := Nat.le_trans (Nat.le_trans (Nat.le_trans (Nat.le_trans Z0 K139q.1) K148q.1) K159q.1) (Nat.le_of_eq g162.symm)
      have sz_b162 : h0.size ≤ b162 := Nat.le_trans (((((Keep.refl h0 []).trans K139q all0).trans K148q all0).trans K159q all0)).1 (Nat.le_of_eq g162.symm)
      have F162_name : Fld Z h162 b162 "com/example/ledgerwright/ledgerwright/Option" "name" "Ljava/lang/String;" .null := D162 (Or.inr (hW 47 _ rfl)) (ty := (.object "java/lang/String")) (by decide)
      have F162_valueName : Fld Z h162 b162 "com/example/ledgerwright/ledgerwright/Option" "valueName" "Ljava/lang/String;" .null := D162 (Or.inr (hW 49 _ rfl)) (ty := (.object "java/lang/String")) (by decide)
      have F162_defaultValue : Fld Z h162 b162 "com/example/ledgerwright/ledgerwright/Option" "defaultValue" "Ljava/lang/String;" .null := D162 (Or.inr (hW 51 _ rfl)) (ty := (.object "java/lang/String")) (by decide)
      have F162_required : Fld Z h162 b162 "com/example/ledgerwright/ledgerwright/Option" "required" "Z" (.int (0 : Int32)) := D162 (Or.inr (hW 53 _ rfl)) (ty := .boolean) (by decide)
      have F162_description : Fld Z h162 b162 "com/example/ledgerwright/ledgerwright/Option" "description" "Ljava/lang/String;" .null := D162 (Or.inr (hW 55 _ rfl)) (ty := (.object "java/lang/String")) (by decide)
      have K163 : Go p e below T162 (mkF m 153 #[.val (.int q0), .val (.int q1), .val (.int q2), .val (.int q3), .val (.int (q0 &&& (3 : Int32))), .val .null, .val (.int (1 : Int32)), .val r139, .val r148, .val r159, .unset] [(.ref b162)]) G := fun tq kq => K161 tq (st162 tq kq)
      have K164 : Go p e below T162 (mkF m 154 #[.val (.int q0), .val (.int q1), .val (.int q2), .val (.int q3), .val (.int (q0 &&& (3 : Int32))), .val .null, .val (.int (1 : Int32)), .val r139, .val r148, .val r159, .unset] [(.ref b162), (.ref b162)]) G := fun tq kq => K163 tq (XS.dup X162.here hx rfl (hb hby at_153) rfl rfl kq)
      have K165 : Go p e below T162 (mkF m 156 #[.val (.int q0), .val (.int q1), .val (.int q2), .val (.int q3), .val (.int (q0 &&& (3 : Int32))), .val .null, .val (.int (1 : Int32)), .val r139, .val r148, .val r159, .unset] [r139, (.ref b162), (.ref b162)]) G := fun tq kq => K164 tq (XS.aload X162.here hx rfl (hb hby at_154) rfl i139 kq)
      have K166 : Go p e below T162 (mkF m 158 #[.val (.int q0), .val (.int q1), .val (.int q2), .val (.int q3), .val (.int (q0 &&& (3 : Int32))), .val .null, .val (.int (1 : Int32)), .val r139, .val r148, .val r159, .unset] [.null, r139, (.ref b162), (.ref b162)]) G := fun tq kq => K165 tq (XS.aload X162.here hx rfl (hb hby at_156) rfl rfl kq)
      have K167 : Go p e below T162 (mkF m 160 #[.val (.int q0), .val (.int q1), .val (.int q2), .val (.int q3), .val (.int (q0 &&& (3 : Int32))), .val .null, .val (.int (1 : Int32)), .val r139, .val r148, .val r159, .unset] [r148, .null, r139, (.ref b162), (.ref b162)]) G := fun tq kq => K166 tq (XS.aload X162.here hx rfl (hb hby at_158) rfl i148 kq)
      have K168 : Go p e below T162 (mkF m 162 #[.val (.int q0), .val (.int q1), .val (.int q2), .val (.int q3), .val (.int (q0 &&& (3 : Int32))), .val .null, .val (.int (1 : Int32)), .val r139, .val r148, .val r159, .unset] [(.int (1 : Int32)), r148, .null, r139, (.ref b162), (.ref b162)]) G := fun tq kq => K167 tq (XS.iload X162.here hx rfl (hb hby at_160) rfl kq)
      have K169 : Go p e below T162 (mkF m 164 #[.val (.int q0), .val (.int q1), .val (.int q2), .val (.int q3), .val (.int (q0 &&& (3 : Int32))), .val .null, .val (.int (1 : Int32)), .val r139, .val r148, .val r159, .unset] [r159, (.int (1 : Int32)), r148, .null, r139, (.ref b162), (.ref b162)]) G := fun tq kq => K168 tq (XS.aload X162.here hx rfl (hb hby at_162) rfl i159 kq)
      obtain ⟨v170, _, ⟨T170, L170, k170, n170⟩, -, X170, ⟨Lc170, hQ170, l170, y170, z170⟩, st170⟩ := X162.specialBack hx (y := (⟨"com/example/ledgerwright/ledgerwright/Option", "<init>", "(Ljava/lang/String;Ljava/lang/String;Ljava/lang/String;ZLjava/lang/String;)V"⟩ : MethodName)) rfl hown (mvT hZ (hW 37 _ rfl)) (mvT hZ (hW 38 _ rfl)) (mvT hZ (hW 39 _ rfl)) (by decide) (backOf (W := 1) (rmIni l Z a0 hw [] b162 r139 .null r148 (1 : Int32) r159 h162 n0 (Nat.le_trans (Nat.le_trans (Nat.le_trans (Nat.le_trans Z0 K139q.1) K148q.1) K159q.1) E162.1) F162_name F162_valueName F162_defaultValue F162_required F162_description A162 ge_b162 i139 rfl i148 i159) hZ (hW 39 _ rfl) (hW 36 _ rfl) (by decide) (by decide)) (g := (mkF m 164 #[.val (.int q0), .val (.int q1), .val (.int q2), .val (.int q3), .val (.int (q0 &&& (3 : Int32))), .val .null, .val (.int (1 : Int32)), .val r139, .val r148, .val r159, .unset] [r159, (.int (1 : Int32)), r148, .null, r139, (.ref b162), (.ref b162)])) rfl (by rw [hml]; rfl) (Steps.refl _) (a := b162) (argsL := [r139, .null, r148, (.int (1 : Int32)), r159]) (rest := [(.ref b162)]) (lenOf pd_58 rfl) rfl (by show 2 * 0 + _ ≤ _; exact Nat.le_of_eq rfl) (hb hby at_164) (fun _ _ => ⟨rfl, e162, (by decide : 10 + 0 ≤ _), (by decide : 23 + 0 ≤ _)⟩)
      dsimp only [Pt.U, Pt.locs, Pt.cells, Pt.slots] at X170 l170 y170 z170 st170 hQ170
      subst l170 y170 z170
      obtain ⟨rfl, N170q, K170q, E170q, F170q_valueName⟩ := hQ170
      have N170 := Fr.app N159 N170q
      have K171 : Go p e below T170 (mkF m 167 #[.val (.int q0), .val (.int q1), .val (.int q2), .val (.int q3), .val (.int (q0 &&& (3 : Int32))), .val .null, .val (.int (1 : Int32)), .val r139, .val r148, .val r159, .unset] [(.ref b162)]) G := fun tq kq => K169 tq (st170.trans kq)
      have K172 : Go p e below T170 (mkF m 169 #[.val (.int q0), .val (.int q1), .val (.int q2), .val (.int q3), .val (.int (q0 &&& (3 : Int32))), .val .null, .val (.int (1 : Int32)), .val r139, .val r148, .val r159, .val (.ref b162)] []) G := fun tq kq => K171 tq (XS.astore X170.here hx rfl (hb hby at_167) rfl rfl (l' := #[.val (.int q0), .val (.int q1), .val (.int q2), .val (.int q3), .val (.int (q0 &&& (3 : Int32))), .val .null, .val (.int (1 : Int32)), .val r139, .val r148, .val r159, .val (.ref b162)]) rfl kq)
      have K173 : Go p e below T170 (mkF m 171 #[.val (.int q0), .val (.int q1), .val (.int q2), .val (.int q3), .val (.int (q0 &&& (3 : Int32))), .val .null, .val (.int (1 : Int32)), .val r139, .val r148, .val r159, .val (.ref b162)] [(.ref b162)]) G := fun tq kq => K172 tq (XS.aload X170.here hx rfl (hb hby at_169) rfl rfl kq)
      obtain ⟨cq174, kq174, q174a, q174b, q174c⟩ := isOf hZ rfl E170q
      obtain ⟨v174, _, ⟨T174, L174, k174, n174⟩, -, X174, ⟨Lc174, hQ174, l174, y174, z174⟩, st174⟩ := X170.virtualBack hx (y := (⟨"com/example/ledgerwright/ledgerwright/Option", "isFlag", "()Z"⟩ : MethodName)) (z := (⟨"com/example/ledgerwright/ledgerwright/Option", "isFlag", "()Z"⟩ : MethodName)) hown (mvT hZ (hW 56 _ rfl)) (mvT hZ (hW 57 _ rfl)) (notFace_of_selects (args := #[]) (mvT hZ (hW 59 _ rfl))) (mvT hZ (hW 59 _ rfl)) (mvT hZ (hW 58 _ rfl)) (by decide) (backOf (W := 0) (rmFN l Z a0 hw [] b162  T170.heap n0 (Nat.le_trans (Nat.le_trans (Nat.le_trans (Nat.le_trans (Nat.le_trans Z0 K139q.1) K148q.1) K159q.1) E162.1) K170q.1) F170q_valueName) hZ (hW 60 _ rfl) (hW 36 _ rfl) (by decide) (by decide)) q174a q174c (g := (mkF m 171 #[.val (.int q0), .val (.int q1), .val (.int q2), .val (.int q3), .val (.int (q0 &&& (3 : Int32))), .val .null, .val (.int (1 : Int32)), .val r139, .val r148, .val r159, .val (.ref b162)] [(.ref b162)])) rfl (by rw [hml]; rfl) (Steps.refl _) (argsL := []) (rest := []) (lenOf pd_59 rfl) rfl (by show 2 * 0 + _ ≤ _; exact Nat.le_of_eq rfl) (hb hby at_171) (fun _ _ => ⟨rfl, rfl, (by decide : 10 + 0 ≤ _), (by decide : 23 + 0 ≤ _)⟩)
      dsimp only [Pt.U, Pt.locs, Pt.cells, Pt.slots] at X174 l174 y174 z174 st174 hQ174
      subst l174 y174 z174
      obtain ⟨rfl, N174q, E174q⟩ := hQ174
      have N174 := Fr.app N170 N174q
      have K175 : Go p e below T174 (mkF m 174 #[.val (.int q0), .val (.int q1), .val (.int q2), .val (.int q3), .val (.int (q0 &&& (3 : Int32))), .val .null, .val (.int (1 : Int32)), .val r139, .val r148, .val r159, .val (.ref b162)] [(.int (1 : Int32))]) G := fun tq kq => K173 tq (st174.trans kq)
      have K176 : Go p e below T174 (mkF m 176 #[.val (.int q0), .val (.int q1), .val (.int q2), .val (.int q3), .val (.int (q0 &&& (3 : Int32))), .val .null, .val (.int (1 : Int32)), .val r139, .val r148, .val r159, .val (.ref b162)] [(.int (q0 &&& (3 : Int32))), (.int (1 : Int32))]) G := fun tq kq => K175 tq (XS.iload X174.here hx rfl (hb hby at_174) rfl kq)
      have K177 : Go p e below T174 (mkF m 179 #[.val (.int q0), .val (.int q1), .val (.int q2), .val (.int q3), .val (.int (q0 &&& (3 : Int32))), .val .null, .val (.int (1 : Int32)), .val r139, .val r148, .val r159, .val (.ref b162)] [(.int (1 : Int32))]) G := fun tq kq => K176 tq (XS.ifNo X174.here hx rfl (hb hby at_176) rfl ((if0 _ _).trans (teq hc67).2) kq)
      have K178 : Go p e below T174 (mkF m 180 #[.val (.int q0), .val (.int q1), .val (.int q2), .val (.int q3), .val (.int (q0 &&& (3 : Int32))), .val .null, .val (.int (1 : Int32)), .val r139, .val r148, .val r159, .val (.ref b162)] [(.int (1 : Int32)), (.int (1 : Int32))]) G := fun tq kq => K177 tq (XS.iconst X174.here hx rfl (hb hby at_179) kq)
      have K179 : Go p e below T174 (mkF m 184 #[.val (.int q0), .val (.int q1), .val (.int q2), .val (.int q3), .val (.int (q0 &&& (3 : Int32))), .val .null, .val (.int (1 : Int32)), .val r139, .val r148, .val r159, .val (.ref b162)] [(.int (1 : Int32)), (.int (1 : Int32))]) G := fun tq kq => K178 tq (XS.goto X174.here hx rfl (pc0 := 180) (pc' := 184) rfl (hb hby at_180) (by decide) (by decide) kq)
      have K180 : Go p e below T174 (mkF m 187 #[.val (.int q0), .val (.int q1), .val (.int q2), .val (.int q3), .val (.int (q0 &&& (3 : Int32))), .val .null, .val (.int (1 : Int32)), .val r139, .val r148, .val r159, .val (.ref b162)] []) G := fun tq kq => K179 tq (XS.icmpNo X174.here hx rfl (hb hby at_184) rfl ((teq (by decide : (1 : Int32) = (1 : Int32))).2) kq)
      have K181 : Go p e below T174 (mkF m 188 #[.val (.int q0), .val (.int q1), .val (.int q2), .val (.int q3), .val (.int (q0 &&& (3 : Int32))), .val .null, .val (.int (1 : Int32)), .val r139, .val r148, .val r159, .val (.ref b162)] [(.int (1 : Int32))]) G := fun tq kq => K180 tq (XS.iconst X174.here hx rfl (hb hby at_187) kq)
      have K182 : Go p e below T174 (mkF m 192 #[.val (.int q0), .val (.int q1), .val (.int q2), .val (.int q3), .val (.int (q0 &&& (3 : Int32))), .val .null, .val (.int (1 : Int32)), .val r139, .val r148, .val r159, .val (.ref b162)] [(.int (1 : Int32))]) G := fun tq kq => K181 tq (XS.goto X174.here hx rfl (pc0 := 188) (pc' := 192) rfl (hb hby at_188) (by decide) (by decide) kq)
      obtain ⟨fs, hr, hrun, hended, hWW, hsame⟩ := X174.leave (v := some (.int (1 : Int32))) (fun h => by rw [Bd.returns] at h; cases h)
      refine ⟨_, _, hG _ (K182 _ (retN X174 hx (t := .boolean) Bd.returns (by simp) (hb hby at_192) hr)), hrun, hended, _, _, rfl, ?_, wide ⟨⟨_, rfl⟩, hWW, hsame.mono (by decide) (by decide)⟩⟩
      show Q0 Z q0 q1 q2 q3 cz h0 n0 _ T174.heap _
      rw [E174q]
      exact ⟨rfl, N174⟩
  · skip
    have K183 : Go p e below s₁ (mkF m 16 #[.val (.int q0), .val (.int q1), .val (.int q2), .val (.int q3), .val (.int (q0 &&& (3 : Int32))), .unset, .unset, .unset, .unset, .unset, .unset] []) G := fun tq kq => K66 tq (XS.ifYes X0.here hx rfl (pc0 := 7) (pc' := 16) rfl (hb hby at_7) rfl ((if0 _ _).trans (feq hc67).2) (by decide) (by decide) kq)
    have K184 : Go p e below s₁ (mkF m 18 #[.val (.int q0), .val (.int q1), .val (.int q2), .val (.int q3), .val (.int (q0 &&& (3 : Int32))), .unset, .unset, .unset, .unset, .unset, .unset] [(.int (q0 &&& (3 : Int32)))]) G := fun tq kq => K183 tq (XS.iload X0.here hx rfl (hb hby at_16) rfl kq)
    have K185 : Go p e below s₁ (mkF m 19 #[.val (.int q0), .val (.int q1), .val (.int q2), .val (.int q3), .val (.int (q0 &&& (3 : Int32))), .unset, .unset, .unset, .unset, .unset, .unset] [(.int (1 : Int32)), (.int (q0 &&& (3 : Int32)))]) G := fun tq kq => K184 tq (XS.iconst X0.here hx rfl (hb hby at_18) kq)
    by_cases hc186 : (q0 &&& (3 : Int32)) = (1 : Int32)
    · skip
      have K187 : Go p e below s₁ (mkF m 22 #[.val (.int q0), .val (.int q1), .val (.int q2), .val (.int q3), .val (.int (q0 &&& (3 : Int32))), .unset, .unset, .unset, .unset, .unset, .unset] []) G := fun tq kq => K185 tq (XS.icmpNo X0.here hx rfl (hb hby at_19) rfl ((teq hc186).2) kq)
      have hS0 := (State.WarmedH.refl s).since 0
      obtain ⟨a188, T188, h188, k188, X188, e188, E188, hS188, hk188, hZ, hown, st188⟩ := ldcS (s := s) (vm0 := s.vm) X0 hx hZ hown (hW 61 _ rfl) (fun d hd => hw d ((by decide +kernel : ∀ d ∈ Bundle.stringAtoms, d ∈ tables_1) d hd)) e0 hS0 (Nat.zero_le _) (g := (mkF m 22 #[.val (.int q0), .val (.int q1), .val (.int q2), .val (.int q3), .val (.int (q0 &&& (3 : Int32))), .unset, .unset, .unset, .unset, .unset, .unset] [])) rfl (hb hby at_22) (n := 0) (by decide) (by decide) (by decide) (by decide)
      have K189 : Go p e below T188 (mkF m 24 #[.val (.int q0), .val (.int q1), .val (.int q2), .val (.int q3), .val (.int (q0 &&& (3 : Int32))), .unset, .unset, .unset, .unset, .unset, .unset] [(.ref a188)]) G := fun tq kq => K187 tq (st188 tq kq)
      have K190 : Go p e below T188 (mkF m 26 #[.val (.int q0), .val (.int q1), .val (.int q2), .val (.int q3), .val (.int (q0 &&& (3 : Int32))), .val (.ref a188), .unset, .unset, .unset, .unset, .unset] []) G := fun tq kq => K189 tq (XS.astore X188.here hx rfl (hb hby at_24) rfl rfl (l' := #[.val (.int q0), .val (.int q1), .val (.int q2), .val (.int q3), .val (.int (q0 &&& (3 : Int32))), .val (.ref a188), .unset, .unset, .unset, .unset, .unset]) rfl kq)
      have K191 : Go p e below T188 (mkF m 100 #[.val (.int q0), .val (.int q1), .val (.int q2), .val (.int q3), .val (.int (q0 &&& (3 : Int32))), .val (.ref a188), .unset, .unset, .unset, .unset, .unset] []) G := fun tq kq => K190 tq (XS.goto X188.here hx rfl (pc0 := 26) (pc' := 100) rfl (hb hby at_26) (by decide) (by decide) kq)
      have K192 : Go p e below T188 (mkF m 101 #[.val (.int q0), .val (.int q1), .val (.int q2), .val (.int q3), .val (.int (q0 &&& (3 : Int32))), .val (.ref a188), .unset, .unset, .unset, .unset, .unset] [(.int q0)]) G := fun tq kq => K191 tq (XS.iloadN X188.here hx rfl (hb hby at_100) rfl kq)
      have K193 : Go p e below T188 (mkF m 102 #[.val (.int q0), .val (.int q1), .val (.int q2), .val (.int q3), .val (.int (q0 &&& (3 : Int32))), .val (.ref a188), .unset, .unset, .unset, .unset, .unset] [(.int (4 : Int32)), (.int q0)]) G := fun tq kq => K192 tq (XS.iconst X188.here hx rfl (hb hby at_101) kq)
      have K194 : Go p e below T188 (mkF m 103 #[.val (.int q0), .val (.int q1), .val (.int q2), .val (.int q3), .val (.int (q0 &&& (3 : Int32))), .val (.ref a188), .unset, .unset, .unset, .unset, .unset] [(.int (q0 &&& (4 : Int32)))]) G := fun tq kq => K193 tq (XS.iand X188.here hx rfl (hb hby at_102) rfl kq)
      by_cases hc195 : (q0 &&& (4 : Int32)) = (0 : Int32)
      · skip
        have K196 : Go p e below T188 (mkF m 110 #[.val (.int q0), .val (.int q1), .val (.int q2), .val (.int q3), .val (.int (q0 &&& (3 : Int32))), .val (.ref a188), .unset, .unset, .unset, .unset, .unset] []) G := fun tq kq => K194 tq (XS.ifYes X188.here hx rfl (pc0 := 103) (pc' := 110) rfl (hb hby at_103) rfl ((if0 _ _).trans (teq hc195).1) (by decide) (by decide) kq)
        have K197 : Go p e below T188 (mkF m 111 #[.val (.int q0), .val (.int q1), .val (.int q2), .val (.int q3), .val (.int (q0 &&& (3 : Int32))), .val (.ref a188), .unset, .unset, .unset, .unset, .unset] [(.int (0 : Int32))]) G := fun tq kq => K196 tq (XS.iconst X188.here hx rfl (hb hby at_110) kq)
        have K198 : Go p e below T188 (mkF m 113 #[.val (.int q0), .val (.int q1), .val (.int q2), .val (.int q3), .val (.int (q0 &&& (3 : Int32))), .val (.ref a188), .val (.int (0 : Int32)), .unset, .unset, .unset, .unset] []) G := fun tq kq => K197 tq (XS.istore X188.here hx rfl (hb hby at_111) rfl (l' := #[.val (.int q0), .val (.int q1), .val (.int q2), .val (.int q3), .val (.int (q0 &&& (3 : Int32))), .val (.ref a188), .val (.int (0 : Int32)), .unset, .unset, .unset, .unset]) rfl kq)
        have K199 : Go p e below T188 (mkF m 114 #[.val (.int q0), .val (.int q1), .val (.int q2), .val (.int q3), .val (.int (q0 &&& (3 : Int32))), .val (.ref a188), .val (.int (0 : Int32)), .unset, .unset, .unset, .unset] [(.int q2)]) G := fun tq kq => K198 tq (XS.iloadN X188.here hx rfl (hb hby at_113) rfl kq)
        have K200 : Go p e below T188 (mkF m 115 #[.val (.int q0), .val (.int q1), .val (.int q2), .val (.int q3), .val (.int (q0 &&& (3 : Int32))), .val (.ref a188), .val (.int (0 : Int32)), .unset, .unset, .unset, .unset] [(.int (1 : Int32)), (.int q2)]) G := fun tq kq => K199 tq (XS.iconst X188.here hx rfl (hb hby at_114) kq)
        have K201 : Go p e below T188 (mkF m 116 #[.val (.int q0), .val (.int q1), .val (.int q2), .val (.int q3), .val (.int (q0 &&& (3 : Int32))), .val (.ref a188), .val (.int (0 : Int32)), .unset, .unset, .unset, .unset] [(.int (q2 &&& (1 : Int32)))]) G := fun tq kq => K200 tq (XS.iand X188.here hx rfl (hb hby at_115) rfl kq)
        have K202 : Go p e below T188 (mkF m 117 #[.val (.int q0), .val (.int q1), .val (.int q2), .val (.int q3), .val (.int (q0 &&& (3 : Int32))), .val (.ref a188), .val (.int (0 : Int32)), .unset, .unset, .unset, .unset] [(.int q2), (.int (q2 &&& (1 : Int32)))]) G := fun tq kq => K201 tq (XS.iloadN X188.here hx rfl (hb hby at_116) rfl kq)
        have K203 : Go p e below T188 (mkF m 118 #[.val (.int q0), .val (.int q1), .val (.int q2), .val (.int q3), .val (.int (q0 &&& (3 : Int32))), .val (.ref a188), .val (.int (0 : Int32)), .unset, .unset, .unset, .unset] [(.int (1 : Int32)), (.int q2), (.int (q2 &&& (1 : Int32)))]) G := fun tq kq => K202 tq (XS.iconst X188.here hx rfl (hb hby at_117) kq)
        have K204 : Go p e below T188 (mkF m 119 #[.val (.int q0), .val (.int q1), .val (.int q2), .val (.int q3), .val (.int (q0 &&& (3 : Int32))), .val (.ref a188), .val (.int (0 : Int32)), .unset, .unset, .unset, .unset] [(.int ((q2.toUInt32 >>> ((1 : Int32) &&& 31).toUInt32).toInt32)), (.int (q2 &&& (1 : Int32)))]) G := fun tq kq => K203 tq (XS.iushr X188.here hx rfl (hb hby at_118) rfl kq)
        obtain ⟨v205, _, ⟨T205, L205, k205, n205⟩, -, X205, ⟨Lc205, hQ205, l205, y205, z205⟩, st205⟩ := Jvm.LawKit.callS X188 hx (y := (⟨"com/example/ledgerwright/ledgerwright/OptionIsFlagPinLaw", "drawn", "(II)Ljava/lang/String;"⟩ : MethodName)) hown (mvT hZ (hW 0 _ rfl)) (mvT hZ (hW 1 _ rfl)) (mvT hZ (hW 2 _ rfl)) (mvT hZ (hW 3 _ rfl)) (by decide) (backOf (W := 0) (rmDr l Z a0 hw [] (q2 &&& (1 : Int32)) ((q2.toUInt32 >>> ((1 : Int32) &&& 31).toUInt32).toInt32) cz h188 n0 (Nat.le_trans Z0 E188.1) (O0.ext E188) S_cs hcz) hZ (hW 3 _ rfl) (hW 2 _ rfl) (by decide) (by decide)) (g := (mkF m 119 #[.val (.int q0), .val (.int q1), .val (.int q2), .val (.int q3), .val (.int (q0 &&& (3 : Int32))), .val (.ref a188), .val (.int (0 : Int32)), .unset, .unset, .unset, .unset] [(.int ((q2.toUInt32 >>> ((1 : Int32) &&& 31).toUInt32).toInt32)), (.int (q2 &&& (1 : Int32)))])) rfl (by rw [hml]; rfl) (argsL := [(.int (q2 &&& (1 : Int32))), (.int ((q2.toUInt32 >>> ((1 : Int32) &&& 31).toUInt32).toInt32))]) (rest := []) (lenOf pd_57 rfl) rfl (by show 2 * 0 + _ ≤ _; exact Nat.le_of_eq rfl) (hb hby at_119) (fun _ _ => ⟨rfl, e188, (by decide : 2 + 3 ≤ _), (by decide : 4 + 6 ≤ _)⟩)
        dsimp only [Pt.U, Pt.locs, Pt.cells, Pt.slots] at X205 l205 y205 z205 st205 hQ205
        subst l205 y205 z205
        obtain ⟨r205, rfl, i205, N205q, K205q⟩ := hQ205
        have N205 := Fr.app N0 N205q
        have K206 : Go p e below T205 (mkF m 122 #[.val (.int q0), .val (.int q1), .val (.int q2), .val (.int q3), .val (.int (q0 &&& (3 : Int32))), .val (.ref a188), .val (.int (0 : Int32)), .unset, .unset, .unset, .unset] [r205]) G := fun tq kq => K204 tq (st205 tq kq)
        have K207 : Go p e below T205 (mkF m 124 #[.val (.int q0), .val (.int q1), .val (.int q2), .val (.int q3), .val (.int (q0 &&& (3 : Int32))), .val (.ref a188), .val (.int (0 : Int32)), .val r205, .unset, .unset, .unset] []) G := fun tq kq => K206 tq (XS.astore X205.here hx rfl (hb hby at_122) rfl i205 (l' := #[.val (.int q0), .val (.int q1), .val (.int q2), .val (.int q3), .val (.int (q0 &&& (3 : Int32))), .val (.ref a188), .val (.int (0 : Int32)), .val r205, .unset, .unset, .unset]) (by rcases ref_cases i205 with q | ⟨_, q⟩ <;> subst q <;> rfl) kq)
        have K208 : Go p e below T205 (mkF m 125 #[.val (.int q0), .val (.int q1), .val (.int q2), .val (.int q3), .val (.int (q0 &&& (3 : Int32))), .val (.ref a188), .val (.int (0 : Int32)), .val r205, .unset, .unset, .unset] [(.int q3)]) G := fun tq kq => K207 tq (XS.iloadN X205.here hx rfl (hb hby at_124) rfl kq)
        have K209 : Go p e below T205 (mkF m 126 #[.val (.int q0), .val (.int q1), .val (.int q2), .val (.int q3), .val (.int (q0 &&& (3 : Int32))), .val (.ref a188), .val (.int (0 : Int32)), .val r205, .unset, .unset, .unset] [(.int (1 : Int32)), (.int q3)]) G := fun tq kq => K208 tq (XS.iconst X205.here hx rfl (hb hby at_125) kq)
        have K210 : Go p e below T205 (mkF m 127 #[.val (.int q0), .val (.int q1), .val (.int q2), .val (.int q3), .val (.int (q0 &&& (3 : Int32))), .val (.ref a188), .val (.int (0 : Int32)), .val r205, .unset, .unset, .unset] [(.int (q3 &&& (1 : Int32)))]) G := fun tq kq => K209 tq (XS.iand X205.here hx rfl (hb hby at_126) rfl kq)
        have K211 : Go p e below T205 (mkF m 128 #[.val (.int q0), .val (.int q1), .val (.int q2), .val (.int q3), .val (.int (q0 &&& (3 : Int32))), .val (.ref a188), .val (.int (0 : Int32)), .val r205, .unset, .unset, .unset] [(.int q3), (.int (q3 &&& (1 : Int32)))]) G := fun tq kq => K210 tq (XS.iloadN X205.here hx rfl (hb hby at_127) rfl kq)
        have K212 : Go p e below T205 (mkF m 129 #[.val (.int q0), .val (.int q1), .val (.int q2), .val (.int q3), .val (.int (q0 &&& (3 : Int32))), .val (.ref a188), .val (.int (0 : Int32)), .val r205, .unset, .unset, .unset] [(.int (1 : Int32)), (.int q3), (.int (q3 &&& (1 : Int32)))]) G := fun tq kq => K211 tq (XS.iconst X205.here hx rfl (hb hby at_128) kq)
        have K213 : Go p e below T205 (mkF m 130 #[.val (.int q0), .val (.int q1), .val (.int q2), .val (.int q3), .val (.int (q0 &&& (3 : Int32))), .val (.ref a188), .val (.int (0 : Int32)), .val r205, .unset, .unset, .unset] [(.int ((q3.toUInt32 >>> ((1 : Int32) &&& 31).toUInt32).toInt32)), (.int (q3 &&& (1 : Int32)))]) G := fun tq kq => K212 tq (XS.iushr X205.here hx rfl (hb hby at_129) rfl kq)
        obtain ⟨v214, _, ⟨T214, L214, k214, n214⟩, -, X214, ⟨Lc214, hQ214, l214, y214, z214⟩, st214⟩ := Jvm.LawKit.callS X205 hx (y := (⟨"com/example/ledgerwright/ledgerwright/OptionIsFlagPinLaw", "drawn", "(II)Ljava/lang/String;"⟩ : MethodName)) hown (mvT hZ (hW 0 _ rfl)) (mvT hZ (hW 1 _ rfl)) (mvT hZ (hW 2 _ rfl)) (mvT hZ (hW 3 _ rfl)) (by decide) (backOf (W := 0) (rmDr l Z a0 hw [] (q3 &&& (1 : Int32)) ((q3.toUInt32 >>> ((1 : Int32) &&& 31).toUInt32).toInt32) cz T205.heap n0 (Nat.le_trans (Nat.le_trans Z0 E188.1) K205q.1) ((O0.ext E188).keep K205q all0) S_cs hcz) hZ (hW 3 _ rfl) (hW 2 _ rfl) (by decide) (by decide)) (g := (mkF m 130 #[.val (.int q0), .val (.int q1), .val (.int q2), .val (.int q3), .val (.int (q0 &&& (3 : Int32))), .val (.ref a188), .val (.int (0 : Int32)), .val r205, .unset, .unset, .unset] [(.int ((q3.toUInt32 >>> ((1 : Int32) &&& 31).toUInt32).toInt32)), (.int (q3 &&& (1 : Int32)))])) rfl (by rw [hml]; rfl) (argsL := [(.int (q3 &&& (1 : Int32))), (.int ((q3.toUInt32 >>> ((1 : Int32) &&& 31).toUInt32).toInt32))]) (rest := []) (lenOf pd_57 rfl) rfl (by show 2 * 0 + _ ≤ _; exact Nat.le_of_eq rfl) (hb hby at_130) (fun _ _ => ⟨rfl, rfl, (by decide : 5 + 3 ≤ _), (by decide : 10 + 6 ≤ _)⟩)
        dsimp only [Pt.U, Pt.locs, Pt.cells, Pt.slots] at X214 l214 y214 z214 st214 hQ214
        subst l214 y214 z214
        obtain ⟨r214, rfl, i214, N214q, K214q⟩ := hQ214
        have N214 := Fr.app N205 N214q
        have K215 : Go p e below T214 (mkF m 133 #[.val (.int q0), .val (.int q1), .val (.int q2), .val (.int q3), .val (.int (q0 &&& (3 : Int32))), .val (.ref a188), .val (.int (0 : Int32)), .val r205, .unset, .unset, .unset] [r214]) G := fun tq kq => K213 tq (st214 tq kq)
        have K216 : Go p e below T214 (mkF m 135 #[.val (.int q0), .val (.int q1), .val (.int q2), .val (.int q3), .val (.int (q0 &&& (3 : Int32))), .val (.ref a188), .val (.int (0 : Int32)), .val r205, .val r214, .unset, .unset] []) G := fun tq kq => K215 tq (XS.astore X214.here hx rfl (hb hby at_133) rfl i214 (l' := #[.val (.int q0), .val (.int q1), .val (.int q2), .val (.int q3), .val (.int (q0 &&& (3 : Int32))), .val (.ref a188), .val (.int (0 : Int32)), .val r205, .val r214, .unset, .unset]) (by rcases ref_cases i214 with q | ⟨_, q⟩ <;> subst q <;> rfl) kq)
        have K217 : Go p e below T214 (mkF m 136 #[.val (.int q0), .val (.int q1), .val (.int q2), .val (.int q3), .val (.int (q0 &&& (3 : Int32))), .val (.ref a188), .val (.int (0 : Int32)), .val r205, .val r214, .unset, .unset] [(.int q3)]) G := fun tq kq => K216 tq (XS.iloadN X214.here hx rfl (hb hby at_135) rfl kq)
        have K218 : Go p e below T214 (mkF m 138 #[.val (.int q0), .val (.int q1), .val (.int q2), .val (.int q3), .val (.int (q0 &&& (3 : Int32))), .val (.ref a188), .val (.int (0 : Int32)), .val r205, .val r214, .unset, .unset] [(.int (9 : Int32)), (.int q3)]) G := fun tq kq => K217 tq (XS.bipush X214.here hx rfl (hb hby at_136) kq)
        have K219 : Go p e below T214 (mkF m 139 #[.val (.int q0), .val (.int q1), .val (.int q2), .val (.int q3), .val (.int (q0 &&& (3 : Int32))), .val (.ref a188), .val (.int (0 : Int32)), .val r205, .val r214, .unset, .unset] [(.int ((q3.toUInt32 >>> ((9 : Int32) &&& 31).toUInt32).toInt32))]) G := fun tq kq => K218 tq (XS.iushr X214.here hx rfl (hb hby at_138) rfl kq)
        have K220 : Go p e below T214 (mkF m 140 #[.val (.int q0), .val (.int q1), .val (.int q2), .val (.int q3), .val (.int (q0 &&& (3 : Int32))), .val (.ref a188), .val (.int (0 : Int32)), .val r205, .val r214, .unset, .unset] [(.int (1 : Int32)), (.int ((q3.toUInt32 >>> ((9 : Int32) &&& 31).toUInt32).toInt32))]) G := fun tq kq => K219 tq (XS.iconst X214.here hx rfl (hb hby at_139) kq)
        have K221 : Go p e below T214 (mkF m 141 #[.val (.int q0), .val (.int q1), .val (.int q2), .val (.int q3), .val (.int (q0 &&& (3 : Int32))), .val (.ref a188), .val (.int (0 : Int32)), .val r205, .val r214, .unset, .unset] [(.int (((q3.toUInt32 >>> ((9 : Int32) &&& 31).toUInt32).toInt32) &&& (1 : Int32)))]) G := fun tq kq => K220 tq (XS.iand X214.here hx rfl (hb hby at_140) rfl kq)
        have K222 : Go p e below T214 (mkF m 142 #[.val (.int q0), .val (.int q1), .val (.int q2), .val (.int q3), .val (.int (q0 &&& (3 : Int32))), .val (.ref a188), .val (.int (0 : Int32)), .val r205, .val r214, .unset, .unset] [(.int q3), (.int (((q3.toUInt32 >>> ((9 : Int32) &&& 31).toUInt32).toInt32) &&& (1 : Int32)))]) G := fun tq kq => K221 tq (XS.iloadN X214.here hx rfl (hb hby at_141) rfl kq)
        have K223 : Go p e below T214 (mkF m 144 #[.val (.int q0), .val (.int q1), .val (.int q2), .val (.int q3), .val (.int (q0 &&& (3 : Int32))), .val (.ref a188), .val (.int (0 : Int32)), .val r205, .val r214, .unset, .unset] [(.int (10 : Int32)), (.int q3), (.int (((q3.toUInt32 >>> ((9 : Int32) &&& 31).toUInt32).toInt32) &&& (1 : Int32)))]) G := fun tq kq => K222 tq (XS.bipush X214.here hx rfl (hb hby at_142) kq)
        have K224 : Go p e below T214 (mkF m 145 #[.val (.int q0), .val (.int q1), .val (.int q2), .val (.int q3), .val (.int (q0 &&& (3 : Int32))), .val (.ref a188), .val (.int (0 : Int32)), .val r205, .val r214, .unset, .unset] [(.int ((q3.toUInt32 >>> ((10 : Int32) &&& 31).toUInt32).toInt32)), (.int (((q3.toUInt32 >>> ((9 : Int32) &&& 31).toUInt32).toInt32) &&& (1 : Int32)))]) G := fun tq kq => K223 tq (XS.iushr X214.here hx rfl (hb hby at_144) rfl kq)
        obtain ⟨v225, _, ⟨T225, L225, k225, n225⟩, -, X225, ⟨Lc225, hQ225, l225, y225, z225⟩, st225⟩ := Jvm.LawKit.callS X214 hx (y := (⟨"com/example/ledgerwright/ledgerwright/OptionIsFlagPinLaw", "drawn", "(II)Ljava/lang/String;"⟩ : MethodName)) hown (mvT hZ (hW 0 _ rfl)) (mvT hZ (hW 1 _ rfl)) (mvT hZ (hW 2 _ rfl)) (mvT hZ (hW 3 _ rfl)) (by decide) (backOf (W := 0) (rmDr l Z a0 hw [] (((q3.toUInt32 >>> ((9 : Int32) &&& 31).toUInt32).toInt32) &&& (1 : Int32)) ((q3.toUInt32 >>> ((10 : Int32) &&& 31).toUInt32).toInt32) cz T214.heap n0 (Nat.le_trans (Nat.le_trans (Nat.le_trans Z0 E188.1) K205q.1) K214q.1) (((O0.ext E188).keep K205q all0).keep K214q all0) S_cs hcz) hZ (hW 3 _ rfl) (hW 2 _ rfl) (by decide) (by decide)) (g := (mkF m 145 #[.val (.int q0), .val (.int q1), .val (.int q2), .val (.int q3), .val (.int (q0 &&& (3 : Int32))), .val (.ref a188), .val (.int (0 : Int32)), .val r205, .val r214, .unset, .unset] [(.int ((q3.toUInt32 >>> ((10 : Int32) &&& 31).toUInt32).toInt32)), (.int (((q3.toUInt32 >>> ((9 : Int32) &&& 31).toUInt32).toInt32) &&& (1 : Int32)))])) rfl (by rw [hml]; rfl) (argsL := [(.int (((q3.toUInt32 >>> ((9 : Int32) &&& 31).toUInt32).toInt32) &&& (1 : Int32))), (.int ((q3.toUInt32 >>> ((10 : Int32) &&& 31).toUInt32).toInt32))]) (rest := []) (lenOf pd_57 rfl) rfl (by show 2 * 0 + _ ≤ _; exact Nat.le_of_eq rfl) (hb hby at_145) (fun _ _ => ⟨rfl, rfl, (by decide : 8 + 3 ≤ _), (by decide : 16 + 6 ≤ _)⟩)
        dsimp only [Pt.U, Pt.locs, Pt.cells, Pt.slots] at X225 l225 y225 z225 st225 hQ225
        subst l225 y225 z225
        obtain ⟨r225, rfl, i225, N225q, K225q⟩ := hQ225
        have N225 := Fr.app N214 N225q
        have K226 : Go p e below T225 (mkF m 148 #[.val (.int q0), .val (.int q1), .val (.int q2), .val (.int q3), .val (.int (q0 &&& (3 : Int32))), .val (.ref a188), .val (.int (0 : Int32)), .val r205, .val r214, .unset, .unset] [r225]) G := fun tq kq => K224 tq (st225 tq kq)
        have K227 : Go p e below T225 (mkF m 150 #[.val (.int q0), .val (.int q1), .val (.int q2), .val (.int q3), .val (.int (q0 &&& (3 : Int32))), .val (.ref a188), .val (.int (0 : Int32)), .val r205, .val r214, .val r225, .unset] []) G := fun tq kq => K226 tq (XS.astore X225.here hx rfl (hb hby at_148) rfl i225 (l' := #[.val (.int q0), .val (.int q1), .val (.int q2), .val (.int q3), .val (.int (q0 &&& (3 : Int32))), .val (.ref a188), .val (.int (0 : Int32)), .val r205, .val r214, .val r225, .unset]) (by rcases ref_cases i225 with q | ⟨_, q⟩ <;> subst q <;> rfl) kq)
        obtain ⟨T228, h228, X228, e228, E228, A228, D228, -, st228⟩ := newO X225 hx hZ hown (hW 34 _ rfl) (hW 35 _ rfl) (hW 36 _ rfl) rfl (g := (mkF m 150 #[.val (.int q0), .val (.int q1), .val (.int q2), .val (.int q3), .val (.int (q0 &&& (3 : Int32))), .val (.ref a188), .val (.int (0 : Int32)), .val r205, .val r214, .val r225, .unset] [])) rfl (hb hby at_150) (by decide) (by decide)
        obtain ⟨b228, g228⟩ : ∃ z, z = T225.heap.size := ⟨_, rfl⟩
        rw [← g228] at A228 D228 st228
        have ge_b228 : n0 ≤ b228 := Nat.le_trans (Nat.le_trans (Nat.le_trans (Nat.le_trans (Nat.le_trans Z0 E188.1) K205q.1) K214q.1) K225q.1) (Nat.le_of_eq g228.symm)
        have sz_b228 : h0.size ≤ b228 := Nat.le_trans ((((((Keep.refl h0 []).ext E188).trans K205q all0).trans K214q all0).trans K225q all0)).1 (Nat.le_of_eq g228.symm)
        have F228_name : Fld Z h228 b228 "com/example/ledgerwright/ledgerwright/Option" "name" "Ljava/lang/String;" .null := D228 (Or.inr (hW 47 _ rfl)) (ty := (.object "java/lang/String")) (by decide)
        have F228_valueName : Fld Z h228 b228 "com/example/ledgerwright/ledgerwright/Option" "valueName" "Ljava/lang/String;" .null := D228 (Or.inr (hW 49 _ rfl)) (ty := (.object "java/lang/String")) (by decide)
        have F228_defaultValue : Fld Z h228 b228 "com/example/ledgerwright/ledgerwright/Option" "defaultValue" "Ljava/lang/String;" .null := D228 (Or.inr (hW 51 _ rfl)) (ty := (.object "java/lang/String")) (by decide)
        have F228_required : Fld Z h228 b228 "com/example/ledgerwright/ledgerwright/Option" "required" "Z" (.int (0 : Int32)) := D228 (Or.inr (hW 53 _ rfl)) (ty := .boolean) (by decide)
        have F228_description : Fld Z h228 b228 "com/example/ledgerwright/ledgerwright/Option" "description" "Ljava/lang/String;" .null := D228 (Or.inr (hW 55 _ rfl)) (ty := (.object "java/lang/String")) (by decide)
        have K229 : Go p e below T228 (mkF m 153 #[.val (.int q0), .val (.int q1), .val (.int q2), .val (.int q3), .val (.int (q0 &&& (3 : Int32))), .val (.ref a188), .val (.int (0 : Int32)), .val r205, .val r214, .val r225, .unset] [(.ref b228)]) G := fun tq kq => K227 tq (st228 tq kq)
        have K230 : Go p e below T228 (mkF m 154 #[.val (.int q0), .val (.int q1), .val (.int q2), .val (.int q3), .val (.int (q0 &&& (3 : Int32))), .val (.ref a188), .val (.int (0 : Int32)), .val r205, .val r214, .val r225, .unset] [(.ref b228), (.ref b228)]) G := fun tq kq => K229 tq (XS.dup X228.here hx rfl (hb hby at_153) rfl rfl kq)
        have K231 : Go p e below T228 (mkF m 156 #[.val (.int q0), .val (.int q1), .val (.int q2), .val (.int q3), .val (.int (q0 &&& (3 : Int32))), .val (.ref a188), .val (.int (0 : Int32)), .val r205, .val r214, .val r225, .unset] [r205, (.ref b228), (.ref b228)]) G := fun tq kq => K230 tq (XS.aload X228.here hx rfl (hb hby at_154) rfl i205 kq)
        have K232 : Go p e below T228 (mkF m 158 #[.val (.int q0), .val (.int q1), .val (.int q2), .val (.int q3), .val (.int (q0 &&& (3 : Int32))), .val (.ref a188), .val (.int (0 : Int32)), .val r205, .val r214, .val r225, .unset] [(.ref a188), r205, (.ref b228), (.ref b228)]) G := fun tq kq => K231 tq (XS.aload X228.here hx rfl (hb hby at_156) rfl rfl kq)
        have K233 : Go p e below T228 (mkF m 160 #[.val (.int q0), .val (.int q1), .val (.int q2), .val (.int q3), .val (.int (q0 &&& (3 : Int32))), .val (.ref a188), .val (.int (0 : Int32)), .val r205, .val r214, .val r225, .unset] [r214, (.ref a188), r205, (.ref b228), (.ref b228)]) G := fun tq kq => K232 tq (XS.aload X228.here hx rfl (hb hby at_158) rfl i214 kq)
        have K234 : Go p e below T228 (mkF m 162 #[.val (.int q0), .val (.int q1), .val (.int q2), .val (.int q3), .val (.int (q0 &&& (3 : Int32))), .val (.ref a188), .val (.int (0 : Int32)), .val r205, .val r214, .val r225, .unset] [(.int (0 : Int32)), r214, (.ref a188), r205, (.ref b228), (.ref b228)]) G := fun tq kq => K233 tq (XS.iload X228.here hx rfl (hb hby at_160) rfl kq)
        have K235 : Go p e below T228 (mkF m 164 #[.val (.int q0), .val (.int q1), .val (.int q2), .val (.int q3), .val (.int (q0 &&& (3 : Int32))), .val (.ref a188), .val (.int (0 : Int32)), .val r205, .val r214, .val r225, .unset] [r225, (.int (0 : Int32)), r214, (.ref a188), r205, (.ref b228), (.ref b228)]) G := fun tq kq => K234 tq (XS.aload X228.here hx rfl (hb hby at_162) rfl i225 kq)
        obtain ⟨v236, _, ⟨T236, L236, k236, n236⟩, -, X236, ⟨Lc236, hQ236, l236, y236, z236⟩, st236⟩ := X228.specialBack hx (y := (⟨"com/example/ledgerwright/ledgerwright/Option", "<init>", "(Ljava/lang/String;Ljava/lang/String;Ljava/lang/String;ZLjava/lang/String;)V"⟩ : MethodName)) rfl hown (mvT hZ (hW 37 _ rfl)) (mvT hZ (hW 38 _ rfl)) (mvT hZ (hW 39 _ rfl)) (by decide) (backOf (W := 1) (rmIni l Z a0 hw [] b228 r205 (.ref a188) r214 (0 : Int32) r225 h228 n0 (Nat.le_trans (Nat.le_trans (Nat.le_trans (Nat.le_trans (Nat.le_trans Z0 E188.1) K205q.1) K214q.1) K225q.1) E228.1) F228_name F228_valueName F228_defaultValue F228_required F228_description A228 ge_b228 i205 rfl i214 i225) hZ (hW 39 _ rfl) (hW 36 _ rfl) (by decide) (by decide)) (g := (mkF m 164 #[.val (.int q0), .val (.int q1), .val (.int q2), .val (.int q3), .val (.int (q0 &&& (3 : Int32))), .val (.ref a188), .val (.int (0 : Int32)), .val r205, .val r214, .val r225, .unset] [r225, (.int (0 : Int32)), r214, (.ref a188), r205, (.ref b228), (.ref b228)])) rfl (by rw [hml]; rfl) (Steps.refl _) (a := b228) (argsL := [r205, (.ref a188), r214, (.int (0 : Int32)), r225]) (rest := [(.ref b228)]) (lenOf pd_58 rfl) rfl (by show 2 * 0 + _ ≤ _; exact Nat.le_of_eq rfl) (hb hby at_164) (fun _ _ => ⟨rfl, e228, (by decide : 12 + 0 ≤ _), (by decide : 27 + 0 ≤ _)⟩)
        dsimp only [Pt.U, Pt.locs, Pt.cells, Pt.slots] at X236 l236 y236 z236 st236 hQ236
        subst l236 y236 z236
        obtain ⟨rfl, N236q, K236q, E236q, F236q_valueName⟩ := hQ236
        have N236 := Fr.app N225 N236q
        have K237 : Go p e below T236 (mkF m 167 #[.val (.int q0), .val (.int q1), .val (.int q2), .val (.int q3), .val (.int (q0 &&& (3 : Int32))), .val (.ref a188), .val (.int (0 : Int32)), .val r205, .val r214, .val r225, .unset] [(.ref b228)]) G := fun tq kq => K235 tq (st236.trans kq)
        have K238 : Go p e below T236 (mkF m 169 #[.val (.int q0), .val (.int q1), .val (.int q2), .val (.int q3), .val (.int (q0 &&& (3 : Int32))), .val (.ref a188), .val (.int (0 : Int32)), .val r205, .val r214, .val r225, .val (.ref b228)] []) G := fun tq kq => K237 tq (XS.astore X236.here hx rfl (hb hby at_167) rfl rfl (l' := #[.val (.int q0), .val (.int q1), .val (.int q2), .val (.int q3), .val (.int (q0 &&& (3 : Int32))), .val (.ref a188), .val (.int (0 : Int32)), .val r205, .val r214, .val r225, .val (.ref b228)]) rfl kq)
        have K239 : Go p e below T236 (mkF m 171 #[.val (.int q0), .val (.int q1), .val (.int q2), .val (.int q3), .val (.int (q0 &&& (3 : Int32))), .val (.ref a188), .val (.int (0 : Int32)), .val r205, .val r214, .val r225, .val (.ref b228)] [(.ref b228)]) G := fun tq kq => K238 tq (XS.aload X236.here hx rfl (hb hby at_169) rfl rfl kq)
        obtain ⟨cq240, kq240, q240a, q240b, q240c⟩ := isOf hZ rfl E236q
        obtain ⟨v240, _, ⟨T240, L240, k240, n240⟩, -, X240, ⟨Lc240, hQ240, l240, y240, z240⟩, st240⟩ := X236.virtualBack hx (y := (⟨"com/example/ledgerwright/ledgerwright/Option", "isFlag", "()Z"⟩ : MethodName)) (z := (⟨"com/example/ledgerwright/ledgerwright/Option", "isFlag", "()Z"⟩ : MethodName)) hown (mvT hZ (hW 56 _ rfl)) (mvT hZ (hW 57 _ rfl)) (notFace_of_selects (args := #[]) (mvT hZ (hW 59 _ rfl))) (mvT hZ (hW 59 _ rfl)) (mvT hZ (hW 58 _ rfl)) (by decide) (backOf (W := 0) (rmFR l Z a0 hw [] b228 a188 T236.heap n0 (Nat.le_trans (Nat.le_trans (Nat.le_trans (Nat.le_trans (Nat.le_trans (Nat.le_trans Z0 E188.1) K205q.1) K214q.1) K225q.1) E228.1) K236q.1) F236q_valueName) hZ (hW 60 _ rfl) (hW 36 _ rfl) (by decide) (by decide)) q240a q240c (g := (mkF m 171 #[.val (.int q0), .val (.int q1), .val (.int q2), .val (.int q3), .val (.int (q0 &&& (3 : Int32))), .val (.ref a188), .val (.int (0 : Int32)), .val r205, .val r214, .val r225, .val (.ref b228)] [(.ref b228)])) rfl (by rw [hml]; rfl) (Steps.refl _) (argsL := []) (rest := []) (lenOf pd_59 rfl) rfl (by show 2 * 0 + _ ≤ _; exact Nat.le_of_eq rfl) (hb hby at_171) (fun _ _ => ⟨rfl, rfl, (by decide : 12 + 0 ≤ _), (by decide : 27 + 0 ≤ _)⟩)
        dsimp only [Pt.U, Pt.locs, Pt.cells, Pt.slots] at X240 l240 y240 z240 st240 hQ240
        subst l240 y240 z240
        obtain ⟨rfl, N240q, E240q⟩ := hQ240
        have N240 := Fr.app N236 N240q
        have K241 : Go p e below T240 (mkF m 174 #[.val (.int q0), .val (.int q1), .val (.int q2), .val (.int q3), .val (.int (q0 &&& (3 : Int32))), .val (.ref a188), .val (.int (0 : Int32)), .val r205, .val r214, .val r225, .val (.ref b228)] [(.int (0 : Int32))]) G := fun tq kq => K239 tq (st240.trans kq)
        have K242 : Go p e below T240 (mkF m 176 #[.val (.int q0), .val (.int q1), .val (.int q2), .val (.int q3), .val (.int (q0 &&& (3 : Int32))), .val (.ref a188), .val (.int (0 : Int32)), .val r205, .val r214, .val r225, .val (.ref b228)] [(.int (q0 &&& (3 : Int32))), (.int (0 : Int32))]) G := fun tq kq => K241 tq (XS.iload X240.here hx rfl (hb hby at_174) rfl kq)
        have K243 : Go p e below T240 (mkF m 183 #[.val (.int q0), .val (.int q1), .val (.int q2), .val (.int q3), .val (.int (q0 &&& (3 : Int32))), .val (.ref a188), .val (.int (0 : Int32)), .val r205, .val r214, .val r225, .val (.ref b228)] [(.int (0 : Int32))]) G := fun tq kq => K242 tq (XS.ifYes X240.here hx rfl (pc0 := 176) (pc' := 183) rfl (hb hby at_176) rfl ((if0 _ _).trans (feq hc67).2) (by decide) (by decide) kq)
        have K244 : Go p e below T240 (mkF m 184 #[.val (.int q0), .val (.int q1), .val (.int q2), .val (.int q3), .val (.int (q0 &&& (3 : Int32))), .val (.ref a188), .val (.int (0 : Int32)), .val r205, .val r214, .val r225, .val (.ref b228)] [(.int (0 : Int32)), (.int (0 : Int32))]) G := fun tq kq => K243 tq (XS.iconst X240.here hx rfl (hb hby at_183) kq)
        have K245 : Go p e below T240 (mkF m 187 #[.val (.int q0), .val (.int q1), .val (.int q2), .val (.int q3), .val (.int (q0 &&& (3 : Int32))), .val (.ref a188), .val (.int (0 : Int32)), .val r205, .val r214, .val r225, .val (.ref b228)] []) G := fun tq kq => K244 tq (XS.icmpNo X240.here hx rfl (hb hby at_184) rfl ((teq (by decide : (0 : Int32) = (0 : Int32))).2) kq)
        have K246 : Go p e below T240 (mkF m 188 #[.val (.int q0), .val (.int q1), .val (.int q2), .val (.int q3), .val (.int (q0 &&& (3 : Int32))), .val (.ref a188), .val (.int (0 : Int32)), .val r205, .val r214, .val r225, .val (.ref b228)] [(.int (1 : Int32))]) G := fun tq kq => K245 tq (XS.iconst X240.here hx rfl (hb hby at_187) kq)
        have K247 : Go p e below T240 (mkF m 192 #[.val (.int q0), .val (.int q1), .val (.int q2), .val (.int q3), .val (.int (q0 &&& (3 : Int32))), .val (.ref a188), .val (.int (0 : Int32)), .val r205, .val r214, .val r225, .val (.ref b228)] [(.int (1 : Int32))]) G := fun tq kq => K246 tq (XS.goto X240.here hx rfl (pc0 := 188) (pc' := 192) rfl (hb hby at_188) (by decide) (by decide) kq)
        obtain ⟨fs, hr, hrun, hended, hRE⟩ := X240.leaveW hS188 (by first | exact (Nat.le_trans (Nat.le_trans (Nat.le_trans (Nat.le_trans (Nat.le_trans hk188 K205q.1) K214q.1) K225q.1) E228.1) K236q.1) | (rw [E240q]; exact (Nat.le_trans (Nat.le_trans (Nat.le_trans (Nat.le_trans (Nat.le_trans hk188 K205q.1) K214q.1) K225q.1) E228.1) K236q.1))) (v := some (.int (1 : Int32))) (fun h => by rw [Bd.returns] at h; cases h)
        refine ⟨_, _, hG _ (K247 _ (retN X240 hx (t := .boolean) Bd.returns (by simp) (hb hby at_192) hr)), hrun, hended, _, _, rfl, ?_, hRE.1, hRE.2.1, hRE.2.2.1, hRE.2.2.2.mono (by decide) (by decide)⟩
        show Q0 Z q0 q1 q2 q3 cz h0 n0 _ T240.heap _
        rw [E240q]
        exact ⟨rfl, N240⟩
      · skip
        have K248 : Go p e below T188 (mkF m 106 #[.val (.int q0), .val (.int q1), .val (.int q2), .val (.int q3), .val (.int (q0 &&& (3 : Int32))), .val (.ref a188), .unset, .unset, .unset, .unset, .unset] []) G := fun tq kq => K194 tq (XS.ifNo X188.here hx rfl (hb hby at_103) rfl ((if0 _ _).trans (feq hc195).1) kq)
        have K249 : Go p e below T188 (mkF m 107 #[.val (.int q0), .val (.int q1), .val (.int q2), .val (.int q3), .val (.int (q0 &&& (3 : Int32))), .val (.ref a188), .unset, .unset, .unset, .unset, .unset] [(.int (1 : Int32))]) G := fun tq kq => K248 tq (XS.iconst X188.here hx rfl (hb hby at_106) kq)
        have K250 : Go p e below T188 (mkF m 111 #[.val (.int q0), .val (.int q1), .val (.int q2), .val (.int q3), .val (.int (q0 &&& (3 : Int32))), .val (.ref a188), .unset, .unset, .unset, .unset, .unset] [(.int (1 : Int32))]) G := fun tq kq => K249 tq (XS.goto X188.here hx rfl (pc0 := 107) (pc' := 111) rfl (hb hby at_107) (by decide) (by decide) kq)
        have K251 : Go p e below T188 (mkF m 113 #[.val (.int q0), .val (.int q1), .val (.int q2), .val (.int q3), .val (.int (q0 &&& (3 : Int32))), .val (.ref a188), .val (.int (1 : Int32)), .unset, .unset, .unset, .unset] []) G := fun tq kq => K250 tq (XS.istore X188.here hx rfl (hb hby at_111) rfl (l' := #[.val (.int q0), .val (.int q1), .val (.int q2), .val (.int q3), .val (.int (q0 &&& (3 : Int32))), .val (.ref a188), .val (.int (1 : Int32)), .unset, .unset, .unset, .unset]) rfl kq)
        have K252 : Go p e below T188 (mkF m 114 #[.val (.int q0), .val (.int q1), .val (.int q2), .val (.int q3), .val (.int (q0 &&& (3 : Int32))), .val (.ref a188), .val (.int (1 : Int32)), .unset, .unset, .unset, .unset] [(.int q2)]) G := fun tq kq => K251 tq (XS.iloadN X188.here hx rfl (hb hby at_113) rfl kq)
        have K253 : Go p e below T188 (mkF m 115 #[.val (.int q0), .val (.int q1), .val (.int q2), .val (.int q3), .val (.int (q0 &&& (3 : Int32))), .val (.ref a188), .val (.int (1 : Int32)), .unset, .unset, .unset, .unset] [(.int (1 : Int32)), (.int q2)]) G := fun tq kq => K252 tq (XS.iconst X188.here hx rfl (hb hby at_114) kq)
        have K254 : Go p e below T188 (mkF m 116 #[.val (.int q0), .val (.int q1), .val (.int q2), .val (.int q3), .val (.int (q0 &&& (3 : Int32))), .val (.ref a188), .val (.int (1 : Int32)), .unset, .unset, .unset, .unset] [(.int (q2 &&& (1 : Int32)))]) G := fun tq kq => K253 tq (XS.iand X188.here hx rfl (hb hby at_115) rfl kq)
        have K255 : Go p e below T188 (mkF m 117 #[.val (.int q0), .val (.int q1), .val (.int q2), .val (.int q3), .val (.int (q0 &&& (3 : Int32))), .val (.ref a188), .val (.int (1 : Int32)), .unset, .unset, .unset, .unset] [(.int q2), (.int (q2 &&& (1 : Int32)))]) G := fun tq kq => K254 tq (XS.iloadN X188.here hx rfl (hb hby at_116) rfl kq)
        have K256 : Go p e below T188 (mkF m 118 #[.val (.int q0), .val (.int q1), .val (.int q2), .val (.int q3), .val (.int (q0 &&& (3 : Int32))), .val (.ref a188), .val (.int (1 : Int32)), .unset, .unset, .unset, .unset] [(.int (1 : Int32)), (.int q2), (.int (q2 &&& (1 : Int32)))]) G := fun tq kq => K255 tq (XS.iconst X188.here hx rfl (hb hby at_117) kq)
        have K257 : Go p e below T188 (mkF m 119 #[.val (.int q0), .val (.int q1), .val (.int q2), .val (.int q3), .val (.int (q0 &&& (3 : Int32))), .val (.ref a188), .val (.int (1 : Int32)), .unset, .unset, .unset, .unset] [(.int ((q2.toUInt32 >>> ((1 : Int32) &&& 31).toUInt32).toInt32)), (.int (q2 &&& (1 : Int32)))]) G := fun tq kq => K256 tq (XS.iushr X188.here hx rfl (hb hby at_118) rfl kq)
        obtain ⟨v258, _, ⟨T258, L258, k258, n258⟩, -, X258, ⟨Lc258, hQ258, l258, y258, z258⟩, st258⟩ := Jvm.LawKit.callS X188 hx (y := (⟨"com/example/ledgerwright/ledgerwright/OptionIsFlagPinLaw", "drawn", "(II)Ljava/lang/String;"⟩ : MethodName)) hown (mvT hZ (hW 0 _ rfl)) (mvT hZ (hW 1 _ rfl)) (mvT hZ (hW 2 _ rfl)) (mvT hZ (hW 3 _ rfl)) (by decide) (backOf (W := 0) (rmDr l Z a0 hw [] (q2 &&& (1 : Int32)) ((q2.toUInt32 >>> ((1 : Int32) &&& 31).toUInt32).toInt32) cz h188 n0 (Nat.le_trans Z0 E188.1) (O0.ext E188) S_cs hcz) hZ (hW 3 _ rfl) (hW 2 _ rfl) (by decide) (by decide)) (g := (mkF m 119 #[.val (.int q0), .val (.int q1), .val (.int q2), .val (.int q3), .val (.int (q0 &&& (3 : Int32))), .val (.ref a188), .val (.int (1 : Int32)), .unset, .unset, .unset, .unset] [(.int ((q2.toUInt32 >>> ((1 : Int32) &&& 31).toUInt32).toInt32)), (.int (q2 &&& (1 : Int32)))])) rfl (by rw [hml]; rfl) (argsL := [(.int (q2 &&& (1 : Int32))), (.int ((q2.toUInt32 >>> ((1 : Int32) &&& 31).toUInt32).toInt32))]) (rest := []) (lenOf pd_57 rfl) rfl (by show 2 * 0 + _ ≤ _; exact Nat.le_of_eq rfl) (hb hby at_119) (fun _ _ => ⟨rfl, e188, (by decide : 2 + 3 ≤ _), (by decide : 4 + 6 ≤ _)⟩)
        dsimp only [Pt.U, Pt.locs, Pt.cells, Pt.slots] at X258 l258 y258 z258 st258 hQ258
        subst l258 y258 z258
        obtain ⟨r258, rfl, i258, N258q, K258q⟩ := hQ258
        have N258 := Fr.app N0 N258q
        have K259 : Go p e below T258 (mkF m 122 #[.val (.int q0), .val (.int q1), .val (.int q2), .val (.int q3), .val (.int (q0 &&& (3 : Int32))), .val (.ref a188), .val (.int (1 : Int32)), .unset, .unset, .unset, .unset] [r258]) G := fun tq kq => K257 tq (st258 tq kq)
        have K260 : Go p e below T258 (mkF m 124 #[.val (.int q0), .val (.int q1), .val (.int q2), .val (.int q3), .val (.int (q0 &&& (3 : Int32))), .val (.ref a188), .val (.int (1 : Int32)), .val r258, .unset, .unset, .unset] []) G := fun tq kq => K259 tq (XS.astore X258.here hx rfl (hb hby at_122) rfl i258 (l' := #[.val (.int q0), .val (.int q1), .val (.int q2), .val (.int q3), .val (.int (q0 &&& (3 : Int32))), .val (.ref a188), .val (.int (1 : Int32)), .val r258, .unset, .unset, .unset]) (by rcases ref_cases i258 with q | ⟨_, q⟩ <;> subst q <;> rfl) kq)
        have K261 : Go p e below T258 (mkF m 125 #[.val (.int q0), .val (.int q1), .val (.int q2), .val (.int q3), .val (.int (q0 &&& (3 : Int32))), .val (.ref a188), .val (.int (1 : Int32)), .val r258, .unset, .unset, .unset] [(.int q3)]) G := fun tq kq => K260 tq (XS.iloadN X258.here hx rfl (hb hby at_124) rfl kq)
        have K262 : Go p e below T258 (mkF m 126 #[.val (.int q0), .val (.int q1), .val (.int q2), .val (.int q3), .val (.int (q0 &&& (3 : Int32))), .val (.ref a188), .val (.int (1 : Int32)), .val r258, .unset, .unset, .unset] [(.int (1 : Int32)), (.int q3)]) G := fun tq kq => K261 tq (XS.iconst X258.here hx rfl (hb hby at_125) kq)
        have K263 : Go p e below T258 (mkF m 127 #[.val (.int q0), .val (.int q1), .val (.int q2), .val (.int q3), .val (.int (q0 &&& (3 : Int32))), .val (.ref a188), .val (.int (1 : Int32)), .val r258, .unset, .unset, .unset] [(.int (q3 &&& (1 : Int32)))]) G := fun tq kq => K262 tq (XS.iand X258.here hx rfl (hb hby at_126) rfl kq)
        have K264 : Go p e below T258 (mkF m 128 #[.val (.int q0), .val (.int q1), .val (.int q2), .val (.int q3), .val (.int (q0 &&& (3 : Int32))), .val (.ref a188), .val (.int (1 : Int32)), .val r258, .unset, .unset, .unset] [(.int q3), (.int (q3 &&& (1 : Int32)))]) G := fun tq kq => K263 tq (XS.iloadN X258.here hx rfl (hb hby at_127) rfl kq)
        have K265 : Go p e below T258 (mkF m 129 #[.val (.int q0), .val (.int q1), .val (.int q2), .val (.int q3), .val (.int (q0 &&& (3 : Int32))), .val (.ref a188), .val (.int (1 : Int32)), .val r258, .unset, .unset, .unset] [(.int (1 : Int32)), (.int q3), (.int (q3 &&& (1 : Int32)))]) G := fun tq kq => K264 tq (XS.iconst X258.here hx rfl (hb hby at_128) kq)
        have K266 : Go p e below T258 (mkF m 130 #[.val (.int q0), .val (.int q1), .val (.int q2), .val (.int q3), .val (.int (q0 &&& (3 : Int32))), .val (.ref a188), .val (.int (1 : Int32)), .val r258, .unset, .unset, .unset] [(.int ((q3.toUInt32 >>> ((1 : Int32) &&& 31).toUInt32).toInt32)), (.int (q3 &&& (1 : Int32)))]) G := fun tq kq => K265 tq (XS.iushr X258.here hx rfl (hb hby at_129) rfl kq)
        obtain ⟨v267, _, ⟨T267, L267, k267, n267⟩, -, X267, ⟨Lc267, hQ267, l267, y267, z267⟩, st267⟩ := Jvm.LawKit.callS X258 hx (y := (⟨"com/example/ledgerwright/ledgerwright/OptionIsFlagPinLaw", "drawn", "(II)Ljava/lang/String;"⟩ : MethodName)) hown (mvT hZ (hW 0 _ rfl)) (mvT hZ (hW 1 _ rfl)) (mvT hZ (hW 2 _ rfl)) (mvT hZ (hW 3 _ rfl)) (by decide) (backOf (W := 0) (rmDr l Z a0 hw [] (q3 &&& (1 : Int32)) ((q3.toUInt32 >>> ((1 : Int32) &&& 31).toUInt32).toInt32) cz T258.heap n0 (Nat.le_trans (Nat.le_trans Z0 E188.1) K258q.1) ((O0.ext E188).keep K258q all0) S_cs hcz) hZ (hW 3 _ rfl) (hW 2 _ rfl) (by decide) (by decide)) (g := (mkF m 130 #[.val (.int q0), .val (.int q1), .val (.int q2), .val (.int q3), .val (.int (q0 &&& (3 : Int32))), .val (.ref a188), .val (.int (1 : Int32)), .val r258, .unset, .unset, .unset] [(.int ((q3.toUInt32 >>> ((1 : Int32) &&& 31).toUInt32).toInt32)), (.int (q3 &&& (1 : Int32)))])) rfl (by rw [hml]; rfl) (argsL := [(.int (q3 &&& (1 : Int32))), (.int ((q3.toUInt32 >>> ((1 : Int32) &&& 31).toUInt32).toInt32))]) (rest := []) (lenOf pd_57 rfl) rfl (by show 2 * 0 + _ ≤ _; exact Nat.le_of_eq rfl) (hb hby at_130) (fun _ _ => ⟨rfl, rfl, (by decide : 5 + 3 ≤ _), (by decide : 10 + 6 ≤ _)⟩)
        dsimp only [Pt.U, Pt.locs, Pt.cells, Pt.slots] at X267 l267 y267 z267 st267 hQ267
        subst l267 y267 z267
        obtain ⟨r267, rfl, i267, N267q, K267q⟩ := hQ267
        have N267 := Fr.app N258 N267q
        have K268 : Go p e below T267 (mkF m 133 #[.val (.int q0), .val (.int q1), .val (.int q2), .val (.int q3), .val (.int (q0 &&& (3 : Int32))), .val (.ref a188), .val (.int (1 : Int32)), .val r258, .unset, .unset, .unset] [r267]) G := fun tq kq => K266 tq (st267 tq kq)
        have K269 : Go p e below T267 (mkF m 135 #[.val (.int q0), .val (.int q1), .val (.int q2), .val (.int q3), .val (.int (q0 &&& (3 : Int32))), .val (.ref a188), .val (.int (1 : Int32)), .val r258, .val r267, .unset, .unset] []) G := fun tq kq => K268 tq (XS.astore X267.here hx rfl (hb hby at_133) rfl i267 (l' := #[.val (.int q0), .val (.int q1), .val (.int q2), .val (.int q3), .val (.int (q0 &&& (3 : Int32))), .val (.ref a188), .val (.int (1 : Int32)), .val r258, .val r267, .unset, .unset]) (by rcases ref_cases i267 with q | ⟨_, q⟩ <;> subst q <;> rfl) kq)
        have K270 : Go p e below T267 (mkF m 136 #[.val (.int q0), .val (.int q1), .val (.int q2), .val (.int q3), .val (.int (q0 &&& (3 : Int32))), .val (.ref a188), .val (.int (1 : Int32)), .val r258, .val r267, .unset, .unset] [(.int q3)]) G := fun tq kq => K269 tq (XS.iloadN X267.here hx rfl (hb hby at_135) rfl kq)
        have K271 : Go p e below T267 (mkF m 138 #[.val (.int q0), .val (.int q1), .val (.int q2), .val (.int q3), .val (.int (q0 &&& (3 : Int32))), .val (.ref a188), .val (.int (1 : Int32)), .val r258, .val r267, .unset, .unset] [(.int (9 : Int32)), (.int q3)]) G := fun tq kq => K270 tq (XS.bipush X267.here hx rfl (hb hby at_136) kq)
        have K272 : Go p e below T267 (mkF m 139 #[.val (.int q0), .val (.int q1), .val (.int q2), .val (.int q3), .val (.int (q0 &&& (3 : Int32))), .val (.ref a188), .val (.int (1 : Int32)), .val r258, .val r267, .unset, .unset] [(.int ((q3.toUInt32 >>> ((9 : Int32) &&& 31).toUInt32).toInt32))]) G := fun tq kq => K271 tq (XS.iushr X267.here hx rfl (hb hby at_138) rfl kq)
        have K273 : Go p e below T267 (mkF m 140 #[.val (.int q0), .val (.int q1), .val (.int q2), .val (.int q3), .val (.int (q0 &&& (3 : Int32))), .val (.ref a188), .val (.int (1 : Int32)), .val r258, .val r267, .unset, .unset] [(.int (1 : Int32)), (.int ((q3.toUInt32 >>> ((9 : Int32) &&& 31).toUInt32).toInt32))]) G := fun tq kq => K272 tq (XS.iconst X267.here hx rfl (hb hby at_139) kq)
        have K274 : Go p e below T267 (mkF m 141 #[.val (.int q0), .val (.int q1), .val (.int q2), .val (.int q3), .val (.int (q0 &&& (3 : Int32))), .val (.ref a188), .val (.int (1 : Int32)), .val r258, .val r267, .unset, .unset] [(.int (((q3.toUInt32 >>> ((9 : Int32) &&& 31).toUInt32).toInt32) &&& (1 : Int32)))]) G := fun tq kq => K273 tq (XS.iand X267.here hx rfl (hb hby at_140) rfl kq)
        have K275 : Go p e below T267 (mkF m 142 #[.val (.int q0), .val (.int q1), .val (.int q2), .val (.int q3), .val (.int (q0 &&& (3 : Int32))), .val (.ref a188), .val (.int (1 : Int32)), .val r258, .val r267, .unset, .unset] [(.int q3), (.int (((q3.toUInt32 >>> ((9 : Int32) &&& 31).toUInt32).toInt32) &&& (1 : Int32)))]) G := fun tq kq => K274 tq (XS.iloadN X267.here hx rfl (hb hby at_141) rfl kq)
        have K276 : Go p e below T267 (mkF m 144 #[.val (.int q0), .val (.int q1), .val (.int q2), .val (.int q3), .val (.int (q0 &&& (3 : Int32))), .val (.ref a188), .val (.int (1 : Int32)), .val r258, .val r267, .unset, .unset] [(.int (10 : Int32)), (.int q3), (.int (((q3.toUInt32 >>> ((9 : Int32) &&& 31).toUInt32).toInt32) &&& (1 : Int32)))]) G := fun tq kq => K275 tq (XS.bipush X267.here hx rfl (hb hby at_142) kq)
        have K277 : Go p e below T267 (mkF m 145 #[.val (.int q0), .val (.int q1), .val (.int q2), .val (.int q3), .val (.int (q0 &&& (3 : Int32))), .val (.ref a188), .val (.int (1 : Int32)), .val r258, .val r267, .unset, .unset] [(.int ((q3.toUInt32 >>> ((10 : Int32) &&& 31).toUInt32).toInt32)), (.int (((q3.toUInt32 >>> ((9 : Int32) &&& 31).toUInt32).toInt32) &&& (1 : Int32)))]) G := fun tq kq => K276 tq (XS.iushr X267.here hx rfl (hb hby at_144) rfl kq)
        obtain ⟨v278, _, ⟨T278, L278, k278, n278⟩, -, X278, ⟨Lc278, hQ278, l278, y278, z278⟩, st278⟩ := Jvm.LawKit.callS X267 hx (y := (⟨"com/example/ledgerwright/ledgerwright/OptionIsFlagPinLaw", "drawn", "(II)Ljava/lang/String;"⟩ : MethodName)) hown (mvT hZ (hW 0 _ rfl)) (mvT hZ (hW 1 _ rfl)) (mvT hZ (hW 2 _ rfl)) (mvT hZ (hW 3 _ rfl)) (by decide) (backOf (W := 0) (rmDr l Z a0 hw [] (((q3.toUInt32 >>> ((9 : Int32) &&& 31).toUInt32).toInt32) &&& (1 : Int32)) ((q3.toUInt32 >>> ((10 : Int32) &&& 31).toUInt32).toInt32) cz T267.heap n0 (Nat.le_trans (Nat.le_trans (Nat.le_trans Z0 E188.1) K258q.1) K267q.1) (((O0.ext E188).keep K258q all0).keep K267q all0) S_cs hcz) hZ (hW 3 _ rfl) (hW 2 _ rfl) (by decide) (by decide)) (g := (mkF m 145 #[.val (.int q0), .val (.int q1), .val (.int q2), .val (.int q3), .val (.int (q0 &&& (3 : Int32))), .val (.ref a188), .val (.int (1 : Int32)), .val r258, .val r267, .unset, .unset] [(.int ((q3.toUInt32 >>> ((10 : Int32) &&& 31).toUInt32).toInt32)), (.int (((q3.toUInt32 >>> ((9 : Int32) &&& 31).toUInt32).toInt32) &&& (1 : Int32)))])) rfl (by rw [hml]; rfl) (argsL := [(.int (((q3.toUInt32 >>> ((9 : Int32) &&& 31).toUInt32).toInt32) &&& (1 : Int32))), (.int ((q3.toUInt32 >>> ((10 : Int32) &&& 31).toUInt32).toInt32))]) (rest := []) (lenOf pd_57 rfl) rfl (by show 2 * 0 + _ ≤ _; exact Nat.le_of_eq rfl) (hb hby at_145) (fun _ _ => ⟨rfl, rfl, (by decide : 8 + 3 ≤ _), (by decide : 16 + 6 ≤ _)⟩)
        dsimp only [Pt.U, Pt.locs, Pt.cells, Pt.slots] at X278 l278 y278 z278 st278 hQ278
        subst l278 y278 z278
        obtain ⟨r278, rfl, i278, N278q, K278q⟩ := hQ278
        have N278 := Fr.app N267 N278q
        have K279 : Go p e below T278 (mkF m 148 #[.val (.int q0), .val (.int q1), .val (.int q2), .val (.int q3), .val (.int (q0 &&& (3 : Int32))), .val (.ref a188), .val (.int (1 : Int32)), .val r258, .val r267, .unset, .unset] [r278]) G := fun tq kq => K277 tq (st278 tq kq)
        have K280 : Go p e below T278 (mkF m 150 #[.val (.int q0), .val (.int q1), .val (.int q2), .val (.int q3), .val (.int (q0 &&& (3 : Int32))), .val (.ref a188), .val (.int (1 : Int32)), .val r258, .val r267, .val r278, .unset] []) G := fun tq kq => K279 tq (XS.astore X278.here hx rfl (hb hby at_148) rfl i278 (l' := #[.val (.int q0), .val (.int q1), .val (.int q2), .val (.int q3), .val (.int (q0 &&& (3 : Int32))), .val (.ref a188), .val (.int (1 : Int32)), .val r258, .val r267, .val r278, .unset]) (by rcases ref_cases i278 with q | ⟨_, q⟩ <;> subst q <;> rfl) kq)
        obtain ⟨T281, h281, X281, e281, E281, A281, D281, -, st281⟩ := newO X278 hx hZ hown (hW 34 _ rfl) (hW 35 _ rfl) (hW 36 _ rfl) rfl (g := (mkF m 150 #[.val (.int q0), .val (.int q1), .val (.int q2), .val (.int q3), .val (.int (q0 &&& (3 : Int32))), .val (.ref a188), .val (.int (1 : Int32)), .val r258, .val r267, .val r278, .unset] [])) rfl (hb hby at_150) (by decide) (by decide)
        obtain ⟨b281, g281⟩ : ∃ z, z = T278.heap.size := ⟨_, rfl⟩
        rw [← g281] at A281 D281 st281
        have ge_b281 : n0 ≤ b281 := Nat.le_trans (Nat.le_trans (Nat.le_trans (Nat.le_trans (Nat.le_trans Z0 E188.1) K258q.1) K267q.1) K278q.1) (Nat.le_of_eq g281.symm)
        have sz_b281 : h0.size ≤ b281 := Nat.le_trans ((((((Keep.refl h0 []).ext E188).trans K258q all0).trans K267q all0).trans K278q all0)).1 (Nat.le_of_eq g281.symm)
        have F281_name : Fld Z h281 b281 "com/example/ledgerwright/ledgerwright/Option" "name" "Ljava/lang/String;" .null := D281 (Or.inr (hW 47 _ rfl)) (ty := (.object "java/lang/String")) (by decide)
        have F281_valueName : Fld Z h281 b281 "com/example/ledgerwright/ledgerwright/Option" "valueName" "Ljava/lang/String;" .null := D281 (Or.inr (hW 49 _ rfl)) (ty := (.object "java/lang/String")) (by decide)
        have F281_defaultValue : Fld Z h281 b281 "com/example/ledgerwright/ledgerwright/Option" "defaultValue" "Ljava/lang/String;" .null := D281 (Or.inr (hW 51 _ rfl)) (ty := (.object "java/lang/String")) (by decide)
        have F281_required : Fld Z h281 b281 "com/example/ledgerwright/ledgerwright/Option" "required" "Z" (.int (0 : Int32)) := D281 (Or.inr (hW 53 _ rfl)) (ty := .boolean) (by decide)
        have F281_description : Fld Z h281 b281 "com/example/ledgerwright/ledgerwright/Option" "description" "Ljava/lang/String;" .null := D281 (Or.inr (hW 55 _ rfl)) (ty := (.object "java/lang/String")) (by decide)
        have K282 : Go p e below T281 (mkF m 153 #[.val (.int q0), .val (.int q1), .val (.int q2), .val (.int q3), .val (.int (q0 &&& (3 : Int32))), .val (.ref a188), .val (.int (1 : Int32)), .val r258, .val r267, .val r278, .unset] [(.ref b281)]) G := fun tq kq => K280 tq (st281 tq kq)
        have K283 : Go p e below T281 (mkF m 154 #[.val (.int q0), .val (.int q1), .val (.int q2), .val (.int q3), .val (.int (q0 &&& (3 : Int32))), .val (.ref a188), .val (.int (1 : Int32)), .val r258, .val r267, .val r278, .unset] [(.ref b281), (.ref b281)]) G := fun tq kq => K282 tq (XS.dup X281.here hx rfl (hb hby at_153) rfl rfl kq)
        have K284 : Go p e below T281 (mkF m 156 #[.val (.int q0), .val (.int q1), .val (.int q2), .val (.int q3), .val (.int (q0 &&& (3 : Int32))), .val (.ref a188), .val (.int (1 : Int32)), .val r258, .val r267, .val r278, .unset] [r258, (.ref b281), (.ref b281)]) G := fun tq kq => K283 tq (XS.aload X281.here hx rfl (hb hby at_154) rfl i258 kq)
        have K285 : Go p e below T281 (mkF m 158 #[.val (.int q0), .val (.int q1), .val (.int q2), .val (.int q3), .val (.int (q0 &&& (3 : Int32))), .val (.ref a188), .val (.int (1 : Int32)), .val r258, .val r267, .val r278, .unset] [(.ref a188), r258, (.ref b281), (.ref b281)]) G := fun tq kq => K284 tq (XS.aload X281.here hx rfl (hb hby at_156) rfl rfl kq)
        have K286 : Go p e below T281 (mkF m 160 #[.val (.int q0), .val (.int q1), .val (.int q2), .val (.int q3), .val (.int (q0 &&& (3 : Int32))), .val (.ref a188), .val (.int (1 : Int32)), .val r258, .val r267, .val r278, .unset] [r267, (.ref a188), r258, (.ref b281), (.ref b281)]) G := fun tq kq => K285 tq (XS.aload X281.here hx rfl (hb hby at_158) rfl i267 kq)
        have K287 : Go p e below T281 (mkF m 162 #[.val (.int q0), .val (.int q1), .val (.int q2), .val (.int q3), .val (.int (q0 &&& (3 : Int32))), .val (.ref a188), .val (.int (1 : Int32)), .val r258, .val r267, .val r278, .unset] [(.int (1 : Int32)), r267, (.ref a188), r258, (.ref b281), (.ref b281)]) G := fun tq kq => K286 tq (XS.iload X281.here hx rfl (hb hby at_160) rfl kq)
        have K288 : Go p e below T281 (mkF m 164 #[.val (.int q0), .val (.int q1), .val (.int q2), .val (.int q3), .val (.int (q0 &&& (3 : Int32))), .val (.ref a188), .val (.int (1 : Int32)), .val r258, .val r267, .val r278, .unset] [r278, (.int (1 : Int32)), r267, (.ref a188), r258, (.ref b281), (.ref b281)]) G := fun tq kq => K287 tq (XS.aload X281.here hx rfl (hb hby at_162) rfl i278 kq)
        obtain ⟨v289, _, ⟨T289, L289, k289, n289⟩, -, X289, ⟨Lc289, hQ289, l289, y289, z289⟩, st289⟩ := X281.specialBack hx (y := (⟨"com/example/ledgerwright/ledgerwright/Option", "<init>", "(Ljava/lang/String;Ljava/lang/String;Ljava/lang/String;ZLjava/lang/String;)V"⟩ : MethodName)) rfl hown (mvT hZ (hW 37 _ rfl)) (mvT hZ (hW 38 _ rfl)) (mvT hZ (hW 39 _ rfl)) (by decide) (backOf (W := 1) (rmIni l Z a0 hw [] b281 r258 (.ref a188) r267 (1 : Int32) r278 h281 n0 (Nat.le_trans (Nat.le_trans (Nat.le_trans (Nat.le_trans (Nat.le_trans Z0 E188.1) K258q.1) K267q.1) K278q.1) E281.1) F281_name F281_valueName F281_defaultValue F281_required F281_description A281 ge_b281 i258 rfl i267 i278) hZ (hW 39 _ rfl) (hW 36 _ rfl) (by decide) (by decide)) (g := (mkF m 164 #[.val (.int q0), .val (.int q1), .val (.int q2), .val (.int q3), .val (.int (q0 &&& (3 : Int32))), .val (.ref a188), .val (.int (1 : Int32)), .val r258, .val r267, .val r278, .unset] [r278, (.int (1 : Int32)), r267, (.ref a188), r258, (.ref b281), (.ref b281)])) rfl (by rw [hml]; rfl) (Steps.refl _) (a := b281) (argsL := [r258, (.ref a188), r267, (.int (1 : Int32)), r278]) (rest := [(.ref b281)]) (lenOf pd_58 rfl) rfl (by show 2 * 0 + _ ≤ _; exact Nat.le_of_eq rfl) (hb hby at_164) (fun _ _ => ⟨rfl, e281, (by decide : 12 + 0 ≤ _), (by decide : 27 + 0 ≤ _)⟩)
        dsimp only [Pt.U, Pt.locs, Pt.cells, Pt.slots] at X289 l289 y289 z289 st289 hQ289
        subst l289 y289 z289
        obtain ⟨rfl, N289q, K289q, E289q, F289q_valueName⟩ := hQ289
        have N289 := Fr.app N278 N289q
        have K290 : Go p e below T289 (mkF m 167 #[.val (.int q0), .val (.int q1), .val (.int q2), .val (.int q3), .val (.int (q0 &&& (3 : Int32))), .val (.ref a188), .val (.int (1 : Int32)), .val r258, .val r267, .val r278, .unset] [(.ref b281)]) G := fun tq kq => K288 tq (st289.trans kq)
        have K291 : Go p e below T289 (mkF m 169 #[.val (.int q0), .val (.int q1), .val (.int q2), .val (.int q3), .val (.int (q0 &&& (3 : Int32))), .val (.ref a188), .val (.int (1 : Int32)), .val r258, .val r267, .val r278, .val (.ref b281)] []) G := fun tq kq => K290 tq (XS.astore X289.here hx rfl (hb hby at_167) rfl rfl (l' := #[.val (.int q0), .val (.int q1), .val (.int q2), .val (.int q3), .val (.int (q0 &&& (3 : Int32))), .val (.ref a188), .val (.int (1 : Int32)), .val r258, .val r267, .val r278, .val (.ref b281)]) rfl kq)
        have K292 : Go p e below T289 (mkF m 171 #[.val (.int q0), .val (.int q1), .val (.int q2), .val (.int q3), .val (.int (q0 &&& (3 : Int32))), .val (.ref a188), .val (.int (1 : Int32)), .val r258, .val r267, .val r278, .val (.ref b281)] [(.ref b281)]) G := fun tq kq => K291 tq (XS.aload X289.here hx rfl (hb hby at_169) rfl rfl kq)
        obtain ⟨cq293, kq293, q293a, q293b, q293c⟩ := isOf hZ rfl E289q
        obtain ⟨v293, _, ⟨T293, L293, k293, n293⟩, -, X293, ⟨Lc293, hQ293, l293, y293, z293⟩, st293⟩ := X289.virtualBack hx (y := (⟨"com/example/ledgerwright/ledgerwright/Option", "isFlag", "()Z"⟩ : MethodName)) (z := (⟨"com/example/ledgerwright/ledgerwright/Option", "isFlag", "()Z"⟩ : MethodName)) hown (mvT hZ (hW 56 _ rfl)) (mvT hZ (hW 57 _ rfl)) (notFace_of_selects (args := #[]) (mvT hZ (hW 59 _ rfl))) (mvT hZ (hW 59 _ rfl)) (mvT hZ (hW 58 _ rfl)) (by decide) (backOf (W := 0) (rmFR l Z a0 hw [] b281 a188 T289.heap n0 (Nat.le_trans (Nat.le_trans (Nat.le_trans (Nat.le_trans (Nat.le_trans (Nat.le_trans Z0 E188.1) K258q.1) K267q.1) K278q.1) E281.1) K289q.1) F289q_valueName) hZ (hW 60 _ rfl) (hW 36 _ rfl) (by decide) (by decide)) q293a q293c (g := (mkF m 171 #[.val (.int q0), .val (.int q1), .val (.int q2), .val (.int q3), .val (.int (q0 &&& (3 : Int32))), .val (.ref a188), .val (.int (1 : Int32)), .val r258, .val r267, .val r278, .val (.ref b281)] [(.ref b281)])) rfl (by rw [hml]; rfl) (Steps.refl _) (argsL := []) (rest := []) (lenOf pd_59 rfl) rfl (by show 2 * 0 + _ ≤ _; exact Nat.le_of_eq rfl) (hb hby at_171) (fun _ _ => ⟨rfl, rfl, (by decide : 12 + 0 ≤ _), (by decide : 27 + 0 ≤ _)⟩)
        dsimp only [Pt.U, Pt.locs, Pt.cells, Pt.slots] at X293 l293 y293 z293 st293 hQ293
        subst l293 y293 z293
        obtain ⟨rfl, N293q, E293q⟩ := hQ293
        have N293 := Fr.app N289 N293q
        have K294 : Go p e below T293 (mkF m 174 #[.val (.int q0), .val (.int q1), .val (.int q2), .val (.int q3), .val (.int (q0 &&& (3 : Int32))), .val (.ref a188), .val (.int (1 : Int32)), .val r258, .val r267, .val r278, .val (.ref b281)] [(.int (0 : Int32))]) G := fun tq kq => K292 tq (st293.trans kq)
        have K295 : Go p e below T293 (mkF m 176 #[.val (.int q0), .val (.int q1), .val (.int q2), .val (.int q3), .val (.int (q0 &&& (3 : Int32))), .val (.ref a188), .val (.int (1 : Int32)), .val r258, .val r267, .val r278, .val (.ref b281)] [(.int (q0 &&& (3 : Int32))), (.int (0 : Int32))]) G := fun tq kq => K294 tq (XS.iload X293.here hx rfl (hb hby at_174) rfl kq)
        have K296 : Go p e below T293 (mkF m 183 #[.val (.int q0), .val (.int q1), .val (.int q2), .val (.int q3), .val (.int (q0 &&& (3 : Int32))), .val (.ref a188), .val (.int (1 : Int32)), .val r258, .val r267, .val r278, .val (.ref b281)] [(.int (0 : Int32))]) G := fun tq kq => K295 tq (XS.ifYes X293.here hx rfl (pc0 := 176) (pc' := 183) rfl (hb hby at_176) rfl ((if0 _ _).trans (feq hc67).2) (by decide) (by decide) kq)
        have K297 : Go p e below T293 (mkF m 184 #[.val (.int q0), .val (.int q1), .val (.int q2), .val (.int q3), .val (.int (q0 &&& (3 : Int32))), .val (.ref a188), .val (.int (1 : Int32)), .val r258, .val r267, .val r278, .val (.ref b281)] [(.int (0 : Int32)), (.int (0 : Int32))]) G := fun tq kq => K296 tq (XS.iconst X293.here hx rfl (hb hby at_183) kq)
        have K298 : Go p e below T293 (mkF m 187 #[.val (.int q0), .val (.int q1), .val (.int q2), .val (.int q3), .val (.int (q0 &&& (3 : Int32))), .val (.ref a188), .val (.int (1 : Int32)), .val r258, .val r267, .val r278, .val (.ref b281)] []) G := fun tq kq => K297 tq (XS.icmpNo X293.here hx rfl (hb hby at_184) rfl ((teq (by decide : (0 : Int32) = (0 : Int32))).2) kq)
        have K299 : Go p e below T293 (mkF m 188 #[.val (.int q0), .val (.int q1), .val (.int q2), .val (.int q3), .val (.int (q0 &&& (3 : Int32))), .val (.ref a188), .val (.int (1 : Int32)), .val r258, .val r267, .val r278, .val (.ref b281)] [(.int (1 : Int32))]) G := fun tq kq => K298 tq (XS.iconst X293.here hx rfl (hb hby at_187) kq)
        have K300 : Go p e below T293 (mkF m 192 #[.val (.int q0), .val (.int q1), .val (.int q2), .val (.int q3), .val (.int (q0 &&& (3 : Int32))), .val (.ref a188), .val (.int (1 : Int32)), .val r258, .val r267, .val r278, .val (.ref b281)] [(.int (1 : Int32))]) G := fun tq kq => K299 tq (XS.goto X293.here hx rfl (pc0 := 188) (pc' := 192) rfl (hb hby at_188) (by decide) (by decide) kq)
        obtain ⟨fs, hr, hrun, hended, hRE⟩ := X293.leaveW hS188 (by first | exact (Nat.le_trans (Nat.le_trans (Nat.le_trans (Nat.le_trans (Nat.le_trans hk188 K258q.1) K267q.1) K278q.1) E281.1) K289q.1) | (rw [E293q]; exact (Nat.le_trans (Nat.le_trans (Nat.le_trans (Nat.le_trans (Nat.le_trans hk188 K258q.1) K267q.1) K278q.1) E281.1) K289q.1))) (v := some (.int (1 : Int32))) (fun h => by rw [Bd.returns] at h; cases h)
        refine ⟨_, _, hG _ (K300 _ (retN X293 hx (t := .boolean) Bd.returns (by simp) (hb hby at_192) hr)), hrun, hended, _, _, rfl, ?_, hRE.1, hRE.2.1, hRE.2.2.1, hRE.2.2.2.mono (by decide) (by decide)⟩
        show Q0 Z q0 q1 q2 q3 cz h0 n0 _ T293.heap _
        rw [E293q]
        exact ⟨rfl, N293⟩
    · skip
      have K301 : Go p e below s₁ (mkF m 29 #[.val (.int q0), .val (.int q1), .val (.int q2), .val (.int q3), .val (.int (q0 &&& (3 : Int32))), .unset, .unset, .unset, .unset, .unset, .unset] []) G := fun tq kq => K185 tq (XS.icmpYes X0.here hx rfl (pc0 := 19) (pc' := 29) rfl (hb hby at_19) rfl ((feq hc186).2) (by decide) (by decide) kq)
      have K302 : Go p e below s₁ (mkF m 31 #[.val (.int q0), .val (.int q1), .val (.int q2), .val (.int q3), .val (.int (q0 &&& (3 : Int32))), .unset, .unset, .unset, .unset, .unset, .unset] [(.int (q0 &&& (3 : Int32)))]) G := fun tq kq => K301 tq (XS.iload X0.here hx rfl (hb hby at_29) rfl kq)
      have K303 : Go p e below s₁ (mkF m 32 #[.val (.int q0), .val (.int q1), .val (.int q2), .val (.int q3), .val (.int (q0 &&& (3 : Int32))), .unset, .unset, .unset, .unset, .unset, .unset] [(.int (2 : Int32)), (.int (q0 &&& (3 : Int32)))]) G := fun tq kq => K302 tq (XS.iconst X0.here hx rfl (hb hby at_31) kq)
      by_cases hc304 : (q0 &&& (3 : Int32)) = (2 : Int32)
      · skip
        have K305 : Go p e below s₁ (mkF m 35 #[.val (.int q0), .val (.int q1), .val (.int q2), .val (.int q3), .val (.int (q0 &&& (3 : Int32))), .unset, .unset, .unset, .unset, .unset, .unset] []) G := fun tq kq => K303 tq (XS.icmpNo X0.here hx rfl (hb hby at_32) rfl ((teq hc304).2) kq)
        have K306 : Go p e below s₁ (mkF m 36 #[.val (.int q0), .val (.int q1), .val (.int q2), .val (.int q3), .val (.int (q0 &&& (3 : Int32))), .unset, .unset, .unset, .unset, .unset, .unset] [(.int (1 : Int32))]) G := fun tq kq => K305 tq (XS.iconst X0.here hx rfl (hb hby at_35) kq)
        obtain ⟨T307, h307, k307, X307, e307, E307, A307, st307⟩ := newP X0 hx hZ (hW 4 _ rfl) e0 (g := (mkF m 36 #[.val (.int q0), .val (.int q1), .val (.int q2), .val (.int q3), .val (.int (q0 &&& (3 : Int32))), .unset, .unset, .unset, .unset, .unset, .unset] [(.int (1 : Int32))])) rfl (hb hby at_36) rfl (by decide) (cap := 1) (by decide) (by decide) (by decide) (by decide)
        obtain ⟨b307, g307⟩ : ∃ z, z = h0.size := ⟨_, rfl⟩
        rw [← g307] at A307 st307
        have ge_b307 : n0 ≤ b307 := Nat.le_trans Z0 (Nat.le_of_eq g307.symm)
        have sz_b307 : h0.size ≤ b307 := Nat.le_trans ((Keep.refl h0 [])).1 (Nat.le_of_eq g307.symm)
        have V307 : Arv Z h307 b307 k307 .char (1 : Int32) [(.int (0 : Int32))] (.int (0 : Int32)) := (Arv.new A307 (by decide)).pad (pad_rep [] (.int (0 : Int32)) 1)
        have K308 : Go p e below T307 (mkF m 38 #[.val (.int q0), .val (.int q1), .val (.int q2), .val (.int q3), .val (.int (q0 &&& (3 : Int32))), .unset, .unset, .unset, .unset, .unset, .unset] [(.ref b307)]) G := fun tq kq => K306 tq (st307 tq kq)
        have K309 : Go p e below T307 (mkF m 39 #[.val (.int q0), .val (.int q1), .val (.int q2), .val (.int q3), .val (.int (q0 &&& (3 : Int32))), .unset, .unset, .unset, .unset, .unset, .unset] [(.ref b307), (.ref b307)]) G := fun tq kq => K308 tq (XS.dup X307.here hx rfl (hb hby at_38) rfl rfl kq)
        have K310 : Go p e below T307 (mkF m 40 #[.val (.int q0), .val (.int q1), .val (.int q2), .val (.int q3), .val (.int (q0 &&& (3 : Int32))), .unset, .unset, .unset, .unset, .unset, .unset] [(.int (0 : Int32)), (.ref b307), (.ref b307)]) G := fun tq kq => K309 tq (XS.iconst X307.here hx rfl (hb hby at_39) kq)
        have K311 : Go p e below T307 (mkF m 41 #[.val (.int q0), .val (.int q1), .val (.int q2), .val (.int q3), .val (.int (q0 &&& (3 : Int32))), .unset, .unset, .unset, .unset, .unset, .unset] [(.int q1), (.int (0 : Int32)), (.ref b307), (.ref b307)]) G := fun tq kq => K310 tq (XS.iloadN X307.here hx rfl (hb hby at_40) rfl kq)
        have K312 : Go p e below T307 (mkF m 44 #[.val (.int q0), .val (.int q1), .val (.int q2), .val (.int q3), .val (.int (q0 &&& (3 : Int32))), .unset, .unset, .unset, .unset, .unset, .unset] [(.int (255 : Int32)), (.int q1), (.int (0 : Int32)), (.ref b307), (.ref b307)]) G := fun tq kq => K311 tq (XS.sipush X307.here hx rfl (hb hby at_41) kq)
        have K313 : Go p e below T307 (mkF m 45 #[.val (.int q0), .val (.int q1), .val (.int q2), .val (.int q3), .val (.int (q0 &&& (3 : Int32))), .unset, .unset, .unset, .unset, .unset, .unset] [(.int (q1 &&& (255 : Int32))), (.int (0 : Int32)), (.ref b307), (.ref b307)]) G := fun tq kq => K312 tq (XS.iand X307.here hx rfl (hb hby at_44) rfl kq)
        have K314 : Go p e below T307 (mkF m 46 #[.val (.int q0), .val (.int q1), .val (.int q2), .val (.int q3), .val (.int (q0 &&& (3 : Int32))), .unset, .unset, .unset, .unset, .unset, .unset] [(.int ((q1 &&& (255 : Int32)).toUInt32.toUInt16.toUInt32.toInt32)), (.int (0 : Int32)), (.ref b307), (.ref b307)]) G := fun tq kq => K313 tq (XS.i2c X307.here hx rfl (hb hby at_45) rfl kq)
        obtain ⟨cl315, Ar315, q315, S315, Nn315, Hh315, Gg315⟩ := id V307
        have hin315 : ¬ ((0 : Int32) < 0 ∨ cl315.slots.size ≤ ((0 : Int32)).toNatClampNeg) := inb_of S315 ⟨by decide, by decide⟩
        obtain ⟨T315, h315, X315, e315, W315, st315⟩ := stC X307 hx hZ e307 Ar315 (j := (0 : Int32)) hin315 (g := (mkF m 46 #[.val (.int q0), .val (.int q1), .val (.int q2), .val (.int q3), .val (.int (q0 &&& (3 : Int32))), .unset, .unset, .unset, .unset, .unset, .unset] [(.int ((q1 &&& (255 : Int32)).toUInt32.toUInt16.toUInt32.toInt32)), (.int (0 : Int32)), (.ref b307), (.ref b307)])) rfl rfl (hb hby at_46)
        have V315 : Arv Z h315 b307 k307 .char (1 : Int32) [(.int (nar .char ((q1 &&& (255 : Int32)).toUInt32.toUInt16.toUInt32.toInt32)))] (.int (0 : Int32)) := Arv.set Ar315 q315 S315 Nn315 Hh315 Gg315 (fits_nar_char _) W315 0 rfl (Nat.le_of_ble_eq_true rfl)
        have N315 := Fr.snoc X315 N0 ge_b307
        have K316 : Go p e below T315 (mkF m 47 #[.val (.int q0), .val (.int q1), .val (.int q2), .val (.int q3), .val (.int (q0 &&& (3 : Int32))), .unset, .unset, .unset, .unset, .unset, .unset] [(.ref b307)]) G := fun tq kq => K314 tq (st315 tq kq)
        have K317 : Go p e below T315 (mkF m 49 #[.val (.int q0), .val (.int q1), .val (.int q2), .val (.int q3), .val (.int (q0 &&& (3 : Int32))), .unset, .val (.ref b307), .unset, .unset, .unset, .unset] []) G := fun tq kq => K316 tq (XS.astore X315.here hx rfl (hb hby at_47) rfl rfl (l' := #[.val (.int q0), .val (.int q1), .val (.int q2), .val (.int q3), .val (.int (q0 &&& (3 : Int32))), .unset, .val (.ref b307), .unset, .unset, .unset, .unset]) rfl kq)
        obtain ⟨T318, h318, X318, e318, E318, A318, D318, -, st318⟩ := newO X315 hx hZ hown (hW 5 _ rfl) (hW 6 _ rfl) (hW 7 _ rfl) e315 (g := (mkF m 49 #[.val (.int q0), .val (.int q1), .val (.int q2), .val (.int q3), .val (.int (q0 &&& (3 : Int32))), .unset, .val (.ref b307), .unset, .unset, .unset, .unset] [])) rfl (hb hby at_49) (by decide) (by decide)
        obtain ⟨b318, g318⟩ : ∃ z, z = h315.size := ⟨_, rfl⟩
        rw [← g318] at A318 D318 st318
        have ne318_b307 : b307 ≠ b318 := Nat.ne_of_lt (Nat.lt_of_lt_of_le V315.lt (Nat.le_of_eq g318.symm))
        have ge_b318 : n0 ≤ b318 := Nat.le_trans (Nat.le_trans (Nat.le_trans Z0 E307.1) (Keep.of_wr W315).1) (Nat.le_of_eq g318.symm)
        have sz_b318 : h0.size ≤ b318 := Nat.le_trans ((((Keep.refl h0 []).ext E307).wr W315 (Or.inr sz_b307))).1 (Nat.le_of_eq g318.symm)
        have F318_coder : Fld Z h318 b318 "java/lang/String" "coder" "B" (.int (0 : Int32)) := D318 (Or.inr (hW 31 _ rfl)) (ty := .byte) (by decide)
        have F318_value : Fld Z h318 b318 "java/lang/String" "value" "[B" .null := D318 (Or.inr (hW 33 _ rfl)) (ty := (.array .byte)) (by decide)
        have K319 : Go p e below T318 (mkF m 52 #[.val (.int q0), .val (.int q1), .val (.int q2), .val (.int q3), .val (.int (q0 &&& (3 : Int32))), .unset, .val (.ref b307), .unset, .unset, .unset, .unset] [(.ref b318)]) G := fun tq kq => K317 tq (st318 tq kq)
        have K320 : Go p e below T318 (mkF m 53 #[.val (.int q0), .val (.int q1), .val (.int q2), .val (.int q3), .val (.int (q0 &&& (3 : Int32))), .unset, .val (.ref b307), .unset, .unset, .unset, .unset] [(.ref b318), (.ref b318)]) G := fun tq kq => K319 tq (XS.dup X318.here hx rfl (hb hby at_52) rfl rfl kq)
        have K321 : Go p e below T318 (mkF m 55 #[.val (.int q0), .val (.int q1), .val (.int q2), .val (.int q3), .val (.int (q0 &&& (3 : Int32))), .unset, .val (.ref b307), .unset, .unset, .unset, .unset] [(.ref b307), (.ref b318), (.ref b318)]) G := fun tq kq => K320 tq (XS.aload X318.here hx rfl (hb hby at_53) rfl rfl kq)
        have hp322 : ∀ c ∈ ([(nar .char ((q1 &&& (255 : Int32)).toUInt32.toUInt16.toUInt32.toInt32))] : List Int32), ¬ c < 0 ∧ ¬ (255 : Int32) < c := by
          intro c hc
          simp only [List.mem_cons, List.not_mem_nil, or_false] at hc
          rcases hc with rfl
          · exact own_p255 _
        obtain ⟨v323, _, ⟨T323, L323, k323, n323⟩, -, X323, ⟨Lc323, hQ323, l323, y323, z323⟩, st323⟩ := X318.specialBack hx (y := (⟨"java/lang/String", "<init>", "([C)V"⟩ : MethodName)) rfl hown (mvT hZ (hW 8 _ rfl)) (mvT hZ (hW 9 _ rfl)) (mvT hZ (hW 10 _ rfl)) (by decide) (StrChars.Road.backV (W := 1) hZ hws (kI := 4) (hW 6 _ rfl) (cs := ([(nar .char ((q1 &&& (255 : Int32)).toUInt32.toUInt16.toUInt32.toInt32))] : List Int32)) (bs := (([(nar .char ((q1 &&& (255 : Int32)).toUInt32.toUInt16.toUInt32.toInt32))] : List Int32)).map (fun c => c.toInt8.toInt32)) (n := 1) ge_b318 (Nat.le_trans (Nat.le_trans (Nat.le_trans Z0 E307.1) (Keep.of_wr W315).1) E318.1) A318 F318_value F318_coder (V315.ext E318) (S_cs.ext (((O0.ext E307).wr W315 ge_b307).ext E318).2) hcz rfl rfl (by decide) (by decide) hp322 rfl (by decide) (by decide)) (g := (mkF m 55 #[.val (.int q0), .val (.int q1), .val (.int q2), .val (.int q3), .val (.int (q0 &&& (3 : Int32))), .unset, .val (.ref b307), .unset, .unset, .unset, .unset] [(.ref b307), (.ref b318), (.ref b318)])) rfl (by rw [hml]; rfl) (Steps.refl _) (a := b318) (argsL := [(.ref b307)]) (rest := [(.ref b318)]) (lenOf pd_7 rfl) rfl (by show 2 * 0 + _ ≤ _; exact Nat.le_of_eq rfl) (hb hby at_55) (fun _ _ => ⟨rfl, e318, (by decide : 2 + 1 ≤ _), (by decide : 5 + 1 ≤ _)⟩)
        dsimp only [Pt.U, Pt.locs, Pt.cells, Pt.slots] at X323 l323 y323 z323 st323 hQ323
        subst l323 y323 z323
        obtain ⟨rfl, N323q, K323q, E323q, FC323q, t323, kb323, get323, szt323, net323, FV323q, VB323q⟩ := hQ323
        have N323 := Fr.app N315 N323q
        have K324 : Go p e below T323 (mkF m 58 #[.val (.int q0), .val (.int q1), .val (.int q2), .val (.int q3), .val (.int (q0 &&& (3 : Int32))), .unset, .val (.ref b307), .unset, .unset, .unset, .unset] [(.ref b318)]) G := fun tq kq => K321 tq (st323.trans kq)
        have K325 : Go p e below T323 (mkF m 60 #[.val (.int q0), .val (.int q1), .val (.int q2), .val (.int q3), .val (.int (q0 &&& (3 : Int32))), .val (.ref b318), .val (.ref b307), .unset, .unset, .unset, .unset] []) G := fun tq kq => K324 tq (XS.astore X323.here hx rfl (hb hby at_58) rfl rfl (l' := #[.val (.int q0), .val (.int q1), .val (.int q2), .val (.int q3), .val (.int (q0 &&& (3 : Int32))), .val (.ref b318), .val (.ref b307), .unset, .unset, .unset, .unset]) rfl kq)
        have K326 : Go p e below T323 (mkF m 100 #[.val (.int q0), .val (.int q1), .val (.int q2), .val (.int q3), .val (.int (q0 &&& (3 : Int32))), .val (.ref b318), .val (.ref b307), .unset, .unset, .unset, .unset] []) G := fun tq kq => K325 tq (XS.goto X323.here hx rfl (pc0 := 60) (pc' := 100) rfl (hb hby at_60) (by decide) (by decide) kq)
        have K327 : Go p e below T323 (mkF m 101 #[.val (.int q0), .val (.int q1), .val (.int q2), .val (.int q3), .val (.int (q0 &&& (3 : Int32))), .val (.ref b318), .val (.ref b307), .unset, .unset, .unset, .unset] [(.int q0)]) G := fun tq kq => K326 tq (XS.iloadN X323.here hx rfl (hb hby at_100) rfl kq)
        have K328 : Go p e below T323 (mkF m 102 #[.val (.int q0), .val (.int q1), .val (.int q2), .val (.int q3), .val (.int (q0 &&& (3 : Int32))), .val (.ref b318), .val (.ref b307), .unset, .unset, .unset, .unset] [(.int (4 : Int32)), (.int q0)]) G := fun tq kq => K327 tq (XS.iconst X323.here hx rfl (hb hby at_101) kq)
        have K329 : Go p e below T323 (mkF m 103 #[.val (.int q0), .val (.int q1), .val (.int q2), .val (.int q3), .val (.int (q0 &&& (3 : Int32))), .val (.ref b318), .val (.ref b307), .unset, .unset, .unset, .unset] [(.int (q0 &&& (4 : Int32)))]) G := fun tq kq => K328 tq (XS.iand X323.here hx rfl (hb hby at_102) rfl kq)
        by_cases hc330 : (q0 &&& (4 : Int32)) = (0 : Int32)
        · skip
          have K331 : Go p e below T323 (mkF m 110 #[.val (.int q0), .val (.int q1), .val (.int q2), .val (.int q3), .val (.int (q0 &&& (3 : Int32))), .val (.ref b318), .val (.ref b307), .unset, .unset, .unset, .unset] []) G := fun tq kq => K329 tq (XS.ifYes X323.here hx rfl (pc0 := 103) (pc' := 110) rfl (hb hby at_103) rfl ((if0 _ _).trans (teq hc330).1) (by decide) (by decide) kq)
          have K332 : Go p e below T323 (mkF m 111 #[.val (.int q0), .val (.int q1), .val (.int q2), .val (.int q3), .val (.int (q0 &&& (3 : Int32))), .val (.ref b318), .val (.ref b307), .unset, .unset, .unset, .unset] [(.int (0 : Int32))]) G := fun tq kq => K331 tq (XS.iconst X323.here hx rfl (hb hby at_110) kq)
          have K333 : Go p e below T323 (mkF m 113 #[.val (.int q0), .val (.int q1), .val (.int q2), .val (.int q3), .val (.int (q0 &&& (3 : Int32))), .val (.ref b318), .val (.int (0 : Int32)), .unset, .unset, .unset, .unset] []) G := fun tq kq => K332 tq (XS.istore X323.here hx rfl (hb hby at_111) rfl (l' := #[.val (.int q0), .val (.int q1), .val (.int q2), .val (.int q3), .val (.int (q0 &&& (3 : Int32))), .val (.ref b318), .val (.int (0 : Int32)), .unset, .unset, .unset, .unset]) rfl kq)
          have K334 : Go p e below T323 (mkF m 114 #[.val (.int q0), .val (.int q1), .val (.int q2), .val (.int q3), .val (.int (q0 &&& (3 : Int32))), .val (.ref b318), .val (.int (0 : Int32)), .unset, .unset, .unset, .unset] [(.int q2)]) G := fun tq kq => K333 tq (XS.iloadN X323.here hx rfl (hb hby at_113) rfl kq)
          have K335 : Go p e below T323 (mkF m 115 #[.val (.int q0), .val (.int q1), .val (.int q2), .val (.int q3), .val (.int (q0 &&& (3 : Int32))), .val (.ref b318), .val (.int (0 : Int32)), .unset, .unset, .unset, .unset] [(.int (1 : Int32)), (.int q2)]) G := fun tq kq => K334 tq (XS.iconst X323.here hx rfl (hb hby at_114) kq)
          have K336 : Go p e below T323 (mkF m 116 #[.val (.int q0), .val (.int q1), .val (.int q2), .val (.int q3), .val (.int (q0 &&& (3 : Int32))), .val (.ref b318), .val (.int (0 : Int32)), .unset, .unset, .unset, .unset] [(.int (q2 &&& (1 : Int32)))]) G := fun tq kq => K335 tq (XS.iand X323.here hx rfl (hb hby at_115) rfl kq)
          have K337 : Go p e below T323 (mkF m 117 #[.val (.int q0), .val (.int q1), .val (.int q2), .val (.int q3), .val (.int (q0 &&& (3 : Int32))), .val (.ref b318), .val (.int (0 : Int32)), .unset, .unset, .unset, .unset] [(.int q2), (.int (q2 &&& (1 : Int32)))]) G := fun tq kq => K336 tq (XS.iloadN X323.here hx rfl (hb hby at_116) rfl kq)
          have K338 : Go p e below T323 (mkF m 118 #[.val (.int q0), .val (.int q1), .val (.int q2), .val (.int q3), .val (.int (q0 &&& (3 : Int32))), .val (.ref b318), .val (.int (0 : Int32)), .unset, .unset, .unset, .unset] [(.int (1 : Int32)), (.int q2), (.int (q2 &&& (1 : Int32)))]) G := fun tq kq => K337 tq (XS.iconst X323.here hx rfl (hb hby at_117) kq)
          have K339 : Go p e below T323 (mkF m 119 #[.val (.int q0), .val (.int q1), .val (.int q2), .val (.int q3), .val (.int (q0 &&& (3 : Int32))), .val (.ref b318), .val (.int (0 : Int32)), .unset, .unset, .unset, .unset] [(.int ((q2.toUInt32 >>> ((1 : Int32) &&& 31).toUInt32).toInt32)), (.int (q2 &&& (1 : Int32)))]) G := fun tq kq => K338 tq (XS.iushr X323.here hx rfl (hb hby at_118) rfl kq)
          obtain ⟨v340, _, ⟨T340, L340, k340, n340⟩, -, X340, ⟨Lc340, hQ340, l340, y340, z340⟩, st340⟩ := Jvm.LawKit.callS X323 hx (y := (⟨"com/example/ledgerwright/ledgerwright/OptionIsFlagPinLaw", "drawn", "(II)Ljava/lang/String;"⟩ : MethodName)) hown (mvT hZ (hW 0 _ rfl)) (mvT hZ (hW 1 _ rfl)) (mvT hZ (hW 2 _ rfl)) (mvT hZ (hW 3 _ rfl)) (by decide) (backOf (W := 0) (rmDr l Z a0 hw [] (q2 &&& (1 : Int32)) ((q2.toUInt32 >>> ((1 : Int32) &&& 31).toUInt32).toInt32) cz T323.heap n0 (Nat.le_trans (Nat.le_trans (Nat.le_trans (Nat.le_trans Z0 E307.1) (Keep.of_wr W315).1) E318.1) K323q.1) ((((O0.ext E307).wr W315 ge_b307).ext E318).keep K323q (allS ge_b318 all0)) S_cs hcz) hZ (hW 3 _ rfl) (hW 2 _ rfl) (by decide) (by decide)) (g := (mkF m 119 #[.val (.int q0), .val (.int q1), .val (.int q2), .val (.int q3), .val (.int (q0 &&& (3 : Int32))), .val (.ref b318), .val (.int (0 : Int32)), .unset, .unset, .unset, .unset] [(.int ((q2.toUInt32 >>> ((1 : Int32) &&& 31).toUInt32).toInt32)), (.int (q2 &&& (1 : Int32)))])) rfl (by rw [hml]; rfl) (argsL := [(.int (q2 &&& (1 : Int32))), (.int ((q2.toUInt32 >>> ((1 : Int32) &&& 31).toUInt32).toInt32))]) (rest := []) (lenOf pd_57 rfl) rfl (by show 2 * 0 + _ ≤ _; exact Nat.le_of_eq rfl) (hb hby at_119) (fun _ _ => ⟨rfl, rfl, (by decide : 3 + 3 ≤ _), (by decide : 6 + 6 ≤ _)⟩)
          dsimp only [Pt.U, Pt.locs, Pt.cells, Pt.slots] at X340 l340 y340 z340 st340 hQ340
          subst l340 y340 z340
          obtain ⟨r340, rfl, i340, N340q, K340q⟩ := hQ340
          have N340 := Fr.app N323 N340q
          have K341 : Go p e below T340 (mkF m 122 #[.val (.int q0), .val (.int q1), .val (.int q2), .val (.int q3), .val (.int (q0 &&& (3 : Int32))), .val (.ref b318), .val (.int (0 : Int32)), .unset, .unset, .unset, .unset] [r340]) G := fun tq kq => K339 tq (st340 tq kq)
          have K342 : Go p e below T340 (mkF m 124 #[.val (.int q0), .val (.int q1), .val (.int q2), .val (.int q3), .val (.int (q0 &&& (3 : Int32))), .val (.ref b318), .val (.int (0 : Int32)), .val r340, .unset, .unset, .unset] []) G := fun tq kq => K341 tq (XS.astore X340.here hx rfl (hb hby at_122) rfl i340 (l' := #[.val (.int q0), .val (.int q1), .val (.int q2), .val (.int q3), .val (.int (q0 &&& (3 : Int32))), .val (.ref b318), .val (.int (0 : Int32)), .val r340, .unset, .unset, .unset]) (by rcases ref_cases i340 with q | ⟨_, q⟩ <;> subst q <;> rfl) kq)
          have K343 : Go p e below T340 (mkF m 125 #[.val (.int q0), .val (.int q1), .val (.int q2), .val (.int q3), .val (.int (q0 &&& (3 : Int32))), .val (.ref b318), .val (.int (0 : Int32)), .val r340, .unset, .unset, .unset] [(.int q3)]) G := fun tq kq => K342 tq (XS.iloadN X340.here hx rfl (hb hby at_124) rfl kq)
          have K344 : Go p e below T340 (mkF m 126 #[.val (.int q0), .val (.int q1), .val (.int q2), .val (.int q3), .val (.int (q0 &&& (3 : Int32))), .val (.ref b318), .val (.int (0 : Int32)), .val r340, .unset, .unset, .unset] [(.int (1 : Int32)), (.int q3)]) G := fun tq kq => K343 tq (XS.iconst X340.here hx rfl (hb hby at_125) kq)
          have K345 : Go p e below T340 (mkF m 127 #[.val (.int q0), .val (.int q1), .val (.int q2), .val (.int q3), .val (.int (q0 &&& (3 : Int32))), .val (.ref b318), .val (.int (0 : Int32)), .val r340, .unset, .unset, .unset] [(.int (q3 &&& (1 : Int32)))]) G := fun tq kq => K344 tq (XS.iand X340.here hx rfl (hb hby at_126) rfl kq)
          have K346 : Go p e below T340 (mkF m 128 #[.val (.int q0), .val (.int q1), .val (.int q2), .val (.int q3), .val (.int (q0 &&& (3 : Int32))), .val (.ref b318), .val (.int (0 : Int32)), .val r340, .unset, .unset, .unset] [(.int q3), (.int (q3 &&& (1 : Int32)))]) G := fun tq kq => K345 tq (XS.iloadN X340.here hx rfl (hb hby at_127) rfl kq)
          have K347 : Go p e below T340 (mkF m 129 #[.val (.int q0), .val (.int q1), .val (.int q2), .val (.int q3), .val (.int (q0 &&& (3 : Int32))), .val (.ref b318), .val (.int (0 : Int32)), .val r340, .unset, .unset, .unset] [(.int (1 : Int32)), (.int q3), (.int (q3 &&& (1 : Int32)))]) G := fun tq kq => K346 tq (XS.iconst X340.here hx rfl (hb hby at_128) kq)
          have K348 : Go p e below T340 (mkF m 130 #[.val (.int q0), .val (.int q1), .val (.int q2), .val (.int q3), .val (.int (q0 &&& (3 : Int32))), .val (.ref b318), .val (.int (0 : Int32)), .val r340, .unset, .unset, .unset] [(.int ((q3.toUInt32 >>> ((1 : Int32) &&& 31).toUInt32).toInt32)), (.int (q3 &&& (1 : Int32)))]) G := fun tq kq => K347 tq (XS.iushr X340.here hx rfl (hb hby at_129) rfl kq)
          obtain ⟨v349, _, ⟨T349, L349, k349, n349⟩, -, X349, ⟨Lc349, hQ349, l349, y349, z349⟩, st349⟩ := Jvm.LawKit.callS X340 hx (y := (⟨"com/example/ledgerwright/ledgerwright/OptionIsFlagPinLaw", "drawn", "(II)Ljava/lang/String;"⟩ : MethodName)) hown (mvT hZ (hW 0 _ rfl)) (mvT hZ (hW 1 _ rfl)) (mvT hZ (hW 2 _ rfl)) (mvT hZ (hW 3 _ rfl)) (by decide) (backOf (W := 0) (rmDr l Z a0 hw [] (q3 &&& (1 : Int32)) ((q3.toUInt32 >>> ((1 : Int32) &&& 31).toUInt32).toInt32) cz T340.heap n0 (Nat.le_trans (Nat.le_trans (Nat.le_trans (Nat.le_trans (Nat.le_trans Z0 E307.1) (Keep.of_wr W315).1) E318.1) K323q.1) K340q.1) (((((O0.ext E307).wr W315 ge_b307).ext E318).keep K323q (allS ge_b318 all0)).keep K340q all0) S_cs hcz) hZ (hW 3 _ rfl) (hW 2 _ rfl) (by decide) (by decide)) (g := (mkF m 130 #[.val (.int q0), .val (.int q1), .val (.int q2), .val (.int q3), .val (.int (q0 &&& (3 : Int32))), .val (.ref b318), .val (.int (0 : Int32)), .val r340, .unset, .unset, .unset] [(.int ((q3.toUInt32 >>> ((1 : Int32) &&& 31).toUInt32).toInt32)), (.int (q3 &&& (1 : Int32)))])) rfl (by rw [hml]; rfl) (argsL := [(.int (q3 &&& (1 : Int32))), (.int ((q3.toUInt32 >>> ((1 : Int32) &&& 31).toUInt32).toInt32))]) (rest := []) (lenOf pd_57 rfl) rfl (by show 2 * 0 + _ ≤ _; exact Nat.le_of_eq rfl) (hb hby at_130) (fun _ _ => ⟨rfl, rfl, (by decide : 6 + 3 ≤ _), (by decide : 12 + 6 ≤ _)⟩)
          dsimp only [Pt.U, Pt.locs, Pt.cells, Pt.slots] at X349 l349 y349 z349 st349 hQ349
          subst l349 y349 z349
          obtain ⟨r349, rfl, i349, N349q, K349q⟩ := hQ349
          have N349 := Fr.app N340 N349q
          have K350 : Go p e below T349 (mkF m 133 #[.val (.int q0), .val (.int q1), .val (.int q2), .val (.int q3), .val (.int (q0 &&& (3 : Int32))), .val (.ref b318), .val (.int (0 : Int32)), .val r340, .unset, .unset, .unset] [r349]) G := fun tq kq => K348 tq (st349 tq kq)
          have K351 : Go p e below T349 (mkF m 135 #[.val (.int q0), .val (.int q1), .val (.int q2), .val (.int q3), .val (.int (q0 &&& (3 : Int32))), .val (.ref b318), .val (.int (0 : Int32)), .val r340, .val r349, .unset, .unset] []) G := fun tq kq => K350 tq (XS.astore X349.here hx rfl (hb hby at_133) rfl i349 (l' := #[.val (.int q0), .val (.int q1), .val (.int q2), .val (.int q3), .val (.int (q0 &&& (3 : Int32))), .val (.ref b318), .val (.int (0 : Int32)), .val r340, .val r349, .unset, .unset]) (by rcases ref_cases i349 with q | ⟨_, q⟩ <;> subst q <;> rfl) kq)
          have K352 : Go p e below T349 (mkF m 136 #[.val (.int q0), .val (.int q1), .val (.int q2), .val (.int q3), .val (.int (q0 &&& (3 : Int32))), .val (.ref b318), .val (.int (0 : Int32)), .val r340, .val r349, .unset, .unset] [(.int q3)]) G := fun tq kq => K351 tq (XS.iloadN X349.here hx rfl (hb hby at_135) rfl kq)
          have K353 : Go p e below T349 (mkF m 138 #[.val (.int q0), .val (.int q1), .val (.int q2), .val (.int q3), .val (.int (q0 &&& (3 : Int32))), .val (.ref b318), .val (.int (0 : Int32)), .val r340, .val r349, .unset, .unset] [(.int (9 : Int32)), (.int q3)]) G := fun tq kq => K352 tq (XS.bipush X349.here hx rfl (hb hby at_136) kq)
          have K354 : Go p e below T349 (mkF m 139 #[.val (.int q0), .val (.int q1), .val (.int q2), .val (.int q3), .val (.int (q0 &&& (3 : Int32))), .val (.ref b318), .val (.int (0 : Int32)), .val r340, .val r349, .unset, .unset] [(.int ((q3.toUInt32 >>> ((9 : Int32) &&& 31).toUInt32).toInt32))]) G := fun tq kq => K353 tq (XS.iushr X349.here hx rfl (hb hby at_138) rfl kq)
          have K355 : Go p e below T349 (mkF m 140 #[.val (.int q0), .val (.int q1), .val (.int q2), .val (.int q3), .val (.int (q0 &&& (3 : Int32))), .val (.ref b318), .val (.int (0 : Int32)), .val r340, .val r349, .unset, .unset] [(.int (1 : Int32)), (.int ((q3.toUInt32 >>> ((9 : Int32) &&& 31).toUInt32).toInt32))]) G := fun tq kq => K354 tq (XS.iconst X349.here hx rfl (hb hby at_139) kq)
          have K356 : Go p e below T349 (mkF m 141 #[.val (.int q0), .val (.int q1), .val (.int q2), .val (.int q3), .val (.int (q0 &&& (3 : Int32))), .val (.ref b318), .val (.int (0 : Int32)), .val r340, .val r349, .unset, .unset] [(.int (((q3.toUInt32 >>> ((9 : Int32) &&& 31).toUInt32).toInt32) &&& (1 : Int32)))]) G := fun tq kq => K355 tq (XS.iand X349.here hx rfl (hb hby at_140) rfl kq)
          have K357 : Go p e below T349 (mkF m 142 #[.val (.int q0), .val (.int q1), .val (.int q2), .val (.int q3), .val (.int (q0 &&& (3 : Int32))), .val (.ref b318), .val (.int (0 : Int32)), .val r340, .val r349, .unset, .unset] [(.int q3), (.int (((q3.toUInt32 >>> ((9 : Int32) &&& 31).toUInt32).toInt32) &&& (1 : Int32)))]) G := fun tq kq => K356 tq (XS.iloadN X349.here hx rfl (hb hby at_141) rfl kq)
          have K358 : Go p e below T349 (mkF m 144 #[.val (.int q0), .val (.int q1), .val (.int q2), .val (.int q3), .val (.int (q0 &&& (3 : Int32))), .val (.ref b318), .val (.int (0 : Int32)), .val r340, .val r349, .unset, .unset] [(.int (10 : Int32)), (.int q3), (.int (((q3.toUInt32 >>> ((9 : Int32) &&& 31).toUInt32).toInt32) &&& (1 : Int32)))]) G := fun tq kq => K357 tq (XS.bipush X349.here hx rfl (hb hby at_142) kq)
          have K359 : Go p e below T349 (mkF m 145 #[.val (.int q0), .val (.int q1), .val (.int q2), .val (.int q3), .val (.int (q0 &&& (3 : Int32))), .val (.ref b318), .val (.int (0 : Int32)), .val r340, .val r349, .unset, .unset] [(.int ((q3.toUInt32 >>> ((10 : Int32) &&& 31).toUInt32).toInt32)), (.int (((q3.toUInt32 >>> ((9 : Int32) &&& 31).toUInt32).toInt32) &&& (1 : Int32)))]) G := fun tq kq => K358 tq (XS.iushr X349.here hx rfl (hb hby at_144) rfl kq)
          obtain ⟨v360, _, ⟨T360, L360, k360, n360⟩, -, X360, ⟨Lc360, hQ360, l360, y360, z360⟩, st360⟩ := Jvm.LawKit.callS X349 hx (y := (⟨"com/example/ledgerwright/ledgerwright/OptionIsFlagPinLaw", "drawn", "(II)Ljava/lang/String;"⟩ : MethodName)) hown (mvT hZ (hW 0 _ rfl)) (mvT hZ (hW 1 _ rfl)) (mvT hZ (hW 2 _ rfl)) (mvT hZ (hW 3 _ rfl)) (by decide) (backOf (W := 0) (rmDr l Z a0 hw [] (((q3.toUInt32 >>> ((9 : Int32) &&& 31).toUInt32).toInt32) &&& (1 : Int32)) ((q3.toUInt32 >>> ((10 : Int32) &&& 31).toUInt32).toInt32) cz T349.heap n0 (Nat.le_trans (Nat.le_trans (Nat.le_trans (Nat.le_trans (Nat.le_trans (Nat.le_trans Z0 E307.1) (Keep.of_wr W315).1) E318.1) K323q.1) K340q.1) K349q.1) ((((((O0.ext E307).wr W315 ge_b307).ext E318).keep K323q (allS ge_b318 all0)).keep K340q all0).keep K349q all0) S_cs hcz) hZ (hW 3 _ rfl) (hW 2 _ rfl) (by decide) (by decide)) (g := (mkF m 145 #[.val (.int q0), .val (.int q1), .val (.int q2), .val (.int q3), .val (.int (q0 &&& (3 : Int32))), .val (.ref b318), .val (.int (0 : Int32)), .val r340, .val r349, .unset, .unset] [(.int ((q3.toUInt32 >>> ((10 : Int32) &&& 31).toUInt32).toInt32)), (.int (((q3.toUInt32 >>> ((9 : Int32) &&& 31).toUInt32).toInt32) &&& (1 : Int32)))])) rfl (by rw [hml]; rfl) (argsL := [(.int (((q3.toUInt32 >>> ((9 : Int32) &&& 31).toUInt32).toInt32) &&& (1 : Int32))), (.int ((q3.toUInt32 >>> ((10 : Int32) &&& 31).toUInt32).toInt32))]) (rest := []) (lenOf pd_57 rfl) rfl (by show 2 * 0 + _ ≤ _; exact Nat.le_of_eq rfl) (hb hby at_145) (fun _ _ => ⟨rfl, rfl, (by decide : 9 + 3 ≤ _), (by decide : 18 + 6 ≤ _)⟩)
          dsimp only [Pt.U, Pt.locs, Pt.cells, Pt.slots] at X360 l360 y360 z360 st360 hQ360
          subst l360 y360 z360
          obtain ⟨r360, rfl, i360, N360q, K360q⟩ := hQ360
          have N360 := Fr.app N349 N360q
          have K361 : Go p e below T360 (mkF m 148 #[.val (.int q0), .val (.int q1), .val (.int q2), .val (.int q3), .val (.int (q0 &&& (3 : Int32))), .val (.ref b318), .val (.int (0 : Int32)), .val r340, .val r349, .unset, .unset] [r360]) G := fun tq kq => K359 tq (st360 tq kq)
          have K362 : Go p e below T360 (mkF m 150 #[.val (.int q0), .val (.int q1), .val (.int q2), .val (.int q3), .val (.int (q0 &&& (3 : Int32))), .val (.ref b318), .val (.int (0 : Int32)), .val r340, .val r349, .val r360, .unset] []) G := fun tq kq => K361 tq (XS.astore X360.here hx rfl (hb hby at_148) rfl i360 (l' := #[.val (.int q0), .val (.int q1), .val (.int q2), .val (.int q3), .val (.int (q0 &&& (3 : Int32))), .val (.ref b318), .val (.int (0 : Int32)), .val r340, .val r349, .val r360, .unset]) (by rcases ref_cases i360 with q | ⟨_, q⟩ <;> subst q <;> rfl) kq)
          obtain ⟨T363, h363, X363, e363, E363, A363, D363, -, st363⟩ := newO X360 hx hZ hown (hW 34 _ rfl) (hW 35 _ rfl) (hW 36 _ rfl) rfl (g := (mkF m 150 #[.val (.int q0), .val (.int q1), .val (.int q2), .val (.int q3), .val (.int (q0 &&& (3 : Int32))), .val (.ref b318), .val (.int (0 : Int32)), .val r340, .val r349, .val r360, .unset] [])) rfl (hb hby at_150) (by decide) (by decide)
          obtain ⟨b363, g363⟩ : ∃ z, z = T360.heap.size := ⟨_, rfl⟩
          rw [← g363] at A363 D363 st363
          have ne363_b307 : b307 ≠ b363 := Nat.ne_of_lt (Nat.lt_of_lt_of_le (((((V315.ext E318).keep K323q (ninS ne318_b307 nin0)).keep K340q nin0).keep K349q nin0).keep K360q nin0).lt (Nat.le_of_eq g363.symm))
          have ne363_b318 : b318 ≠ b363 := Nat.ne_of_lt (Nat.lt_of_lt_of_le (((E323q.keep K340q).keep K349q).keep K360q).lt (Nat.le_of_eq g363.symm))
          have ne363_t323 : t323 ≠ b363 := Nat.ne_of_lt (Nat.lt_of_lt_of_le (((VB323q.keep K340q nin0).keep K349q nin0).keep K360q nin0).lt (Nat.le_of_eq g363.symm))
          have ge_b363 : n0 ≤ b363 := Nat.le_trans (Nat.le_trans (Nat.le_trans (Nat.le_trans (Nat.le_trans (Nat.le_trans (Nat.le_trans (Nat.le_trans Z0 E307.1) (Keep.of_wr W315).1) E318.1) K323q.1) K340q.1) K349q.1) K360q.1) (Nat.le_of_eq g363.symm)
          have sz_b363 : h0.size ≤ b363 := Nat.le_trans (((((((((Keep.refl h0 []).ext E307).wr W315 (Or.inr sz_b307)).ext E318).trans K323q (allS (Or.inr sz_b318) all0)).trans K340q all0).trans K349q all0).trans K360q all0)).1 (Nat.le_of_eq g363.symm)
          have F363_name : Fld Z h363 b363 "com/example/ledgerwright/ledgerwright/Option" "name" "Ljava/lang/String;" .null := D363 (Or.inr (hW 47 _ rfl)) (ty := (.object "java/lang/String")) (by decide)
          have F363_valueName : Fld Z h363 b363 "com/example/ledgerwright/ledgerwright/Option" "valueName" "Ljava/lang/String;" .null := D363 (Or.inr (hW 49 _ rfl)) (ty := (.object "java/lang/String")) (by decide)
          have F363_defaultValue : Fld Z h363 b363 "com/example/ledgerwright/ledgerwright/Option" "defaultValue" "Ljava/lang/String;" .null := D363 (Or.inr (hW 51 _ rfl)) (ty := (.object "java/lang/String")) (by decide)
          have F363_required : Fld Z h363 b363 "com/example/ledgerwright/ledgerwright/Option" "required" "Z" (.int (0 : Int32)) := D363 (Or.inr (hW 53 _ rfl)) (ty := .boolean) (by decide)
          have F363_description : Fld Z h363 b363 "com/example/ledgerwright/ledgerwright/Option" "description" "Ljava/lang/String;" .null := D363 (Or.inr (hW 55 _ rfl)) (ty := (.object "java/lang/String")) (by decide)
          have K364 : Go p e below T363 (mkF m 153 #[.val (.int q0), .val (.int q1), .val (.int q2), .val (.int q3), .val (.int (q0 &&& (3 : Int32))), .val (.ref b318), .val (.int (0 : Int32)), .val r340, .val r349, .val r360, .unset] [(.ref b363)]) G := fun tq kq => K362 tq (st363 tq kq)
          have K365 : Go p e below T363 (mkF m 154 #[.val (.int q0), .val (.int q1), .val (.int q2), .val (.int q3), .val (.int (q0 &&& (3 : Int32))), .val (.ref b318), .val (.int (0 : Int32)), .val r340, .val r349, .val r360, .unset] [(.ref b363), (.ref b363)]) G := fun tq kq => K364 tq (XS.dup X363.here hx rfl (hb hby at_153) rfl rfl kq)
          have K366 : Go p e below T363 (mkF m 156 #[.val (.int q0), .val (.int q1), .val (.int q2), .val (.int q3), .val (.int (q0 &&& (3 : Int32))), .val (.ref b318), .val (.int (0 : Int32)), .val r340, .val r349, .val r360, .unset] [r340, (.ref b363), (.ref b363)]) G := fun tq kq => K365 tq (XS.aload X363.here hx rfl (hb hby at_154) rfl i340 kq)
          have K367 : Go p e below T363 (mkF m 158 #[.val (.int q0), .val (.int q1), .val (.int q2), .val (.int q3), .val (.int (q0 &&& (3 : Int32))), .val (.ref b318), .val (.int (0 : Int32)), .val r340, .val r349, .val r360, .unset] [(.ref b318), r340, (.ref b363), (.ref b363)]) G := fun tq kq => K366 tq (XS.aload X363.here hx rfl (hb hby at_156) rfl rfl kq)
          have K368 : Go p e below T363 (mkF m 160 #[.val (.int q0), .val (.int q1), .val (.int q2), .val (.int q3), .val (.int (q0 &&& (3 : Int32))), .val (.ref b318), .val (.int (0 : Int32)), .val r340, .val r349, .val r360, .unset] [r349, (.ref b318), r340, (.ref b363), (.ref b363)]) G := fun tq kq => K367 tq (XS.aload X363.here hx rfl (hb hby at_158) rfl i349 kq)
          have K369 : Go p e below T363 (mkF m 162 #[.val (.int q0), .val (.int q1), .val (.int q2), .val (.int q3), .val (.int (q0 &&& (3 : Int32))), .val (.ref b318), .val (.int (0 : Int32)), .val r340, .val r349, .val r360, .unset] [(.int (0 : Int32)), r349, (.ref b318), r340, (.ref b363), (.ref b363)]) G := fun tq kq => K368 tq (XS.iload X363.here hx rfl (hb hby at_160) rfl kq)
          have K370 : Go p e below T363 (mkF m 164 #[.val (.int q0), .val (.int q1), .val (.int q2), .val (.int q3), .val (.int (q0 &&& (3 : Int32))), .val (.ref b318), .val (.int (0 : Int32)), .val r340, .val r349, .val r360, .unset] [r360, (.int (0 : Int32)), r349, (.ref b318), r340, (.ref b363), (.ref b363)]) G := fun tq kq => K369 tq (XS.aload X363.here hx rfl (hb hby at_162) rfl i360 kq)
          obtain ⟨v371, _, ⟨T371, L371, k371, n371⟩, -, X371, ⟨Lc371, hQ371, l371, y371, z371⟩, st371⟩ := X363.specialBack hx (y := (⟨"com/example/ledgerwright/ledgerwright/Option", "<init>", "(Ljava/lang/String;Ljava/lang/String;Ljava/lang/String;ZLjava/lang/String;)V"⟩ : MethodName)) rfl hown (mvT hZ (hW 37 _ rfl)) (mvT hZ (hW 38 _ rfl)) (mvT hZ (hW 39 _ rfl)) (by decide) (backOf (W := 1) (rmIni l Z a0 hw [] b363 r340 (.ref b318) r349 (0 : Int32) r360 h363 n0 (Nat.le_trans (Nat.le_trans (Nat.le_trans (Nat.le_trans (Nat.le_trans (Nat.le_trans (Nat.le_trans (Nat.le_trans Z0 E307.1) (Keep.of_wr W315).1) E318.1) K323q.1) K340q.1) K349q.1) K360q.1) E363.1) F363_name F363_valueName F363_defaultValue F363_required F363_description A363 ge_b363 i340 rfl i349 i360) hZ (hW 39 _ rfl) (hW 36 _ rfl) (by decide) (by decide)) (g := (mkF m 164 #[.val (.int q0), .val (.int q1), .val (.int q2), .val (.int q3), .val (.int (q0 &&& (3 : Int32))), .val (.ref b318), .val (.int (0 : Int32)), .val r340, .val r349, .val r360, .unset] [r360, (.int (0 : Int32)), r349, (.ref b318), r340, (.ref b363), (.ref b363)])) rfl (by rw [hml]; rfl) (Steps.refl _) (a := b363) (argsL := [r340, (.ref b318), r349, (.int (0 : Int32)), r360]) (rest := [(.ref b363)]) (lenOf pd_58 rfl) rfl (by show 2 * 0 + _ ≤ _; exact Nat.le_of_eq rfl) (hb hby at_164) (fun _ _ => ⟨rfl, e363, (by decide : 13 + 0 ≤ _), (by decide : 29 + 0 ≤ _)⟩)
          dsimp only [Pt.U, Pt.locs, Pt.cells, Pt.slots] at X371 l371 y371 z371 st371 hQ371
          subst l371 y371 z371
          obtain ⟨rfl, N371q, K371q, E371q, F371q_valueName⟩ := hQ371
          have N371 := Fr.app N360 N371q
          have K372 : Go p e below T371 (mkF m 167 #[.val (.int q0), .val (.int q1), .val (.int q2), .val (.int q3), .val (.int (q0 &&& (3 : Int32))), .val (.ref b318), .val (.int (0 : Int32)), .val r340, .val r349, .val r360, .unset] [(.ref b363)]) G := fun tq kq => K370 tq (st371.trans kq)
          have K373 : Go p e below T371 (mkF m 169 #[.val (.int q0), .val (.int q1), .val (.int q2), .val (.int q3), .val (.int (q0 &&& (3 : Int32))), .val (.ref b318), .val (.int (0 : Int32)), .val r340, .val r349, .val r360, .val (.ref b363)] []) G := fun tq kq => K372 tq (XS.astore X371.here hx rfl (hb hby at_167) rfl rfl (l' := #[.val (.int q0), .val (.int q1), .val (.int q2), .val (.int q3), .val (.int (q0 &&& (3 : Int32))), .val (.ref b318), .val (.int (0 : Int32)), .val r340, .val r349, .val r360, .val (.ref b363)]) rfl kq)
          have K374 : Go p e below T371 (mkF m 171 #[.val (.int q0), .val (.int q1), .val (.int q2), .val (.int q3), .val (.int (q0 &&& (3 : Int32))), .val (.ref b318), .val (.int (0 : Int32)), .val r340, .val r349, .val r360, .val (.ref b363)] [(.ref b363)]) G := fun tq kq => K373 tq (XS.aload X371.here hx rfl (hb hby at_169) rfl rfl kq)
          obtain ⟨cq375, kq375, q375a, q375b, q375c⟩ := isOf hZ rfl E371q
          obtain ⟨v375, _, ⟨T375, L375, k375, n375⟩, -, X375, ⟨Lc375, hQ375, l375, y375, z375⟩, st375⟩ := X371.virtualBack hx (y := (⟨"com/example/ledgerwright/ledgerwright/Option", "isFlag", "()Z"⟩ : MethodName)) (z := (⟨"com/example/ledgerwright/ledgerwright/Option", "isFlag", "()Z"⟩ : MethodName)) hown (mvT hZ (hW 56 _ rfl)) (mvT hZ (hW 57 _ rfl)) (notFace_of_selects (args := #[]) (mvT hZ (hW 59 _ rfl))) (mvT hZ (hW 59 _ rfl)) (mvT hZ (hW 58 _ rfl)) (by decide) (backOf (W := 0) (rmFR l Z a0 hw [] b363 b318 T371.heap n0 (Nat.le_trans (Nat.le_trans (Nat.le_trans (Nat.le_trans (Nat.le_trans (Nat.le_trans (Nat.le_trans (Nat.le_trans (Nat.le_trans Z0 E307.1) (Keep.of_wr W315).1) E318.1) K323q.1) K340q.1) K349q.1) K360q.1) E363.1) K371q.1) F371q_valueName) hZ (hW 60 _ rfl) (hW 36 _ rfl) (by decide) (by decide)) q375a q375c (g := (mkF m 171 #[.val (.int q0), .val (.int q1), .val (.int q2), .val (.int q3), .val (.int (q0 &&& (3 : Int32))), .val (.ref b318), .val (.int (0 : Int32)), .val r340, .val r349, .val r360, .val (.ref b363)] [(.ref b363)])) rfl (by rw [hml]; rfl) (Steps.refl _) (argsL := []) (rest := []) (lenOf pd_59 rfl) rfl (by show 2 * 0 + _ ≤ _; exact Nat.le_of_eq rfl) (hb hby at_171) (fun _ _ => ⟨rfl, rfl, (by decide : 13 + 0 ≤ _), (by decide : 29 + 0 ≤ _)⟩)
          dsimp only [Pt.U, Pt.locs, Pt.cells, Pt.slots] at X375 l375 y375 z375 st375 hQ375
          subst l375 y375 z375
          obtain ⟨rfl, N375q, E375q⟩ := hQ375
          have N375 := Fr.app N371 N375q
          have K376 : Go p e below T375 (mkF m 174 #[.val (.int q0), .val (.int q1), .val (.int q2), .val (.int q3), .val (.int (q0 &&& (3 : Int32))), .val (.ref b318), .val (.int (0 : Int32)), .val r340, .val r349, .val r360, .val (.ref b363)] [(.int (0 : Int32))]) G := fun tq kq => K374 tq (st375.trans kq)
          have K377 : Go p e below T375 (mkF m 176 #[.val (.int q0), .val (.int q1), .val (.int q2), .val (.int q3), .val (.int (q0 &&& (3 : Int32))), .val (.ref b318), .val (.int (0 : Int32)), .val r340, .val r349, .val r360, .val (.ref b363)] [(.int (q0 &&& (3 : Int32))), (.int (0 : Int32))]) G := fun tq kq => K376 tq (XS.iload X375.here hx rfl (hb hby at_174) rfl kq)
          have K378 : Go p e below T375 (mkF m 183 #[.val (.int q0), .val (.int q1), .val (.int q2), .val (.int q3), .val (.int (q0 &&& (3 : Int32))), .val (.ref b318), .val (.int (0 : Int32)), .val r340, .val r349, .val r360, .val (.ref b363)] [(.int (0 : Int32))]) G := fun tq kq => K377 tq (XS.ifYes X375.here hx rfl (pc0 := 176) (pc' := 183) rfl (hb hby at_176) rfl ((if0 _ _).trans (feq hc67).2) (by decide) (by decide) kq)
          have K379 : Go p e below T375 (mkF m 184 #[.val (.int q0), .val (.int q1), .val (.int q2), .val (.int q3), .val (.int (q0 &&& (3 : Int32))), .val (.ref b318), .val (.int (0 : Int32)), .val r340, .val r349, .val r360, .val (.ref b363)] [(.int (0 : Int32)), (.int (0 : Int32))]) G := fun tq kq => K378 tq (XS.iconst X375.here hx rfl (hb hby at_183) kq)
          have K380 : Go p e below T375 (mkF m 187 #[.val (.int q0), .val (.int q1), .val (.int q2), .val (.int q3), .val (.int (q0 &&& (3 : Int32))), .val (.ref b318), .val (.int (0 : Int32)), .val r340, .val r349, .val r360, .val (.ref b363)] []) G := fun tq kq => K379 tq (XS.icmpNo X375.here hx rfl (hb hby at_184) rfl ((teq (by decide : (0 : Int32) = (0 : Int32))).2) kq)
          have K381 : Go p e below T375 (mkF m 188 #[.val (.int q0), .val (.int q1), .val (.int q2), .val (.int q3), .val (.int (q0 &&& (3 : Int32))), .val (.ref b318), .val (.int (0 : Int32)), .val r340, .val r349, .val r360, .val (.ref b363)] [(.int (1 : Int32))]) G := fun tq kq => K380 tq (XS.iconst X375.here hx rfl (hb hby at_187) kq)
          have K382 : Go p e below T375 (mkF m 192 #[.val (.int q0), .val (.int q1), .val (.int q2), .val (.int q3), .val (.int (q0 &&& (3 : Int32))), .val (.ref b318), .val (.int (0 : Int32)), .val r340, .val r349, .val r360, .val (.ref b363)] [(.int (1 : Int32))]) G := fun tq kq => K381 tq (XS.goto X375.here hx rfl (pc0 := 188) (pc' := 192) rfl (hb hby at_188) (by decide) (by decide) kq)
          obtain ⟨fs, hr, hrun, hended, hWW, hsame⟩ := X375.leave (v := some (.int (1 : Int32))) (fun h => by rw [Bd.returns] at h; cases h)
          refine ⟨_, _, hG _ (K382 _ (retN X375 hx (t := .boolean) Bd.returns (by simp) (hb hby at_192) hr)), hrun, hended, _, _, rfl, ?_, wide ⟨⟨_, rfl⟩, hWW, hsame.mono (by decide) (by decide)⟩⟩
          show Q0 Z q0 q1 q2 q3 cz h0 n0 _ T375.heap _
          rw [E375q]
          exact ⟨rfl, N375⟩
        · skip
          have K383 : Go p e below T323 (mkF m 106 #[.val (.int q0), .val (.int q1), .val (.int q2), .val (.int q3), .val (.int (q0 &&& (3 : Int32))), .val (.ref b318), .val (.ref b307), .unset, .unset, .unset, .unset] []) G := fun tq kq => K329 tq (XS.ifNo X323.here hx rfl (hb hby at_103) rfl ((if0 _ _).trans (feq hc330).1) kq)
          have K384 : Go p e below T323 (mkF m 107 #[.val (.int q0), .val (.int q1), .val (.int q2), .val (.int q3), .val (.int (q0 &&& (3 : Int32))), .val (.ref b318), .val (.ref b307), .unset, .unset, .unset, .unset] [(.int (1 : Int32))]) G := fun tq kq => K383 tq (XS.iconst X323.here hx rfl (hb hby at_106) kq)
          have K385 : Go p e below T323 (mkF m 111 #[.val (.int q0), .val (.int q1), .val (.int q2), .val (.int q3), .val (.int (q0 &&& (3 : Int32))), .val (.ref b318), .val (.ref b307), .unset, .unset, .unset, .unset] [(.int (1 : Int32))]) G := fun tq kq => K384 tq (XS.goto X323.here hx rfl (pc0 := 107) (pc' := 111) rfl (hb hby at_107) (by decide) (by decide) kq)
          have K386 : Go p e below T323 (mkF m 113 #[.val (.int q0), .val (.int q1), .val (.int q2), .val (.int q3), .val (.int (q0 &&& (3 : Int32))), .val (.ref b318), .val (.int (1 : Int32)), .unset, .unset, .unset, .unset] []) G := fun tq kq => K385 tq (XS.istore X323.here hx rfl (hb hby at_111) rfl (l' := #[.val (.int q0), .val (.int q1), .val (.int q2), .val (.int q3), .val (.int (q0 &&& (3 : Int32))), .val (.ref b318), .val (.int (1 : Int32)), .unset, .unset, .unset, .unset]) rfl kq)
          have K387 : Go p e below T323 (mkF m 114 #[.val (.int q0), .val (.int q1), .val (.int q2), .val (.int q3), .val (.int (q0 &&& (3 : Int32))), .val (.ref b318), .val (.int (1 : Int32)), .unset, .unset, .unset, .unset] [(.int q2)]) G := fun tq kq => K386 tq (XS.iloadN X323.here hx rfl (hb hby at_113) rfl kq)
          have K388 : Go p e below T323 (mkF m 115 #[.val (.int q0), .val (.int q1), .val (.int q2), .val (.int q3), .val (.int (q0 &&& (3 : Int32))), .val (.ref b318), .val (.int (1 : Int32)), .unset, .unset, .unset, .unset] [(.int (1 : Int32)), (.int q2)]) G := fun tq kq => K387 tq (XS.iconst X323.here hx rfl (hb hby at_114) kq)
          have K389 : Go p e below T323 (mkF m 116 #[.val (.int q0), .val (.int q1), .val (.int q2), .val (.int q3), .val (.int (q0 &&& (3 : Int32))), .val (.ref b318), .val (.int (1 : Int32)), .unset, .unset, .unset, .unset] [(.int (q2 &&& (1 : Int32)))]) G := fun tq kq => K388 tq (XS.iand X323.here hx rfl (hb hby at_115) rfl kq)
          have K390 : Go p e below T323 (mkF m 117 #[.val (.int q0), .val (.int q1), .val (.int q2), .val (.int q3), .val (.int (q0 &&& (3 : Int32))), .val (.ref b318), .val (.int (1 : Int32)), .unset, .unset, .unset, .unset] [(.int q2), (.int (q2 &&& (1 : Int32)))]) G := fun tq kq => K389 tq (XS.iloadN X323.here hx rfl (hb hby at_116) rfl kq)
          have K391 : Go p e below T323 (mkF m 118 #[.val (.int q0), .val (.int q1), .val (.int q2), .val (.int q3), .val (.int (q0 &&& (3 : Int32))), .val (.ref b318), .val (.int (1 : Int32)), .unset, .unset, .unset, .unset] [(.int (1 : Int32)), (.int q2), (.int (q2 &&& (1 : Int32)))]) G := fun tq kq => K390 tq (XS.iconst X323.here hx rfl (hb hby at_117) kq)
          have K392 : Go p e below T323 (mkF m 119 #[.val (.int q0), .val (.int q1), .val (.int q2), .val (.int q3), .val (.int (q0 &&& (3 : Int32))), .val (.ref b318), .val (.int (1 : Int32)), .unset, .unset, .unset, .unset] [(.int ((q2.toUInt32 >>> ((1 : Int32) &&& 31).toUInt32).toInt32)), (.int (q2 &&& (1 : Int32)))]) G := fun tq kq => K391 tq (XS.iushr X323.here hx rfl (hb hby at_118) rfl kq)
          obtain ⟨v393, _, ⟨T393, L393, k393, n393⟩, -, X393, ⟨Lc393, hQ393, l393, y393, z393⟩, st393⟩ := Jvm.LawKit.callS X323 hx (y := (⟨"com/example/ledgerwright/ledgerwright/OptionIsFlagPinLaw", "drawn", "(II)Ljava/lang/String;"⟩ : MethodName)) hown (mvT hZ (hW 0 _ rfl)) (mvT hZ (hW 1 _ rfl)) (mvT hZ (hW 2 _ rfl)) (mvT hZ (hW 3 _ rfl)) (by decide) (backOf (W := 0) (rmDr l Z a0 hw [] (q2 &&& (1 : Int32)) ((q2.toUInt32 >>> ((1 : Int32) &&& 31).toUInt32).toInt32) cz T323.heap n0 (Nat.le_trans (Nat.le_trans (Nat.le_trans (Nat.le_trans Z0 E307.1) (Keep.of_wr W315).1) E318.1) K323q.1) ((((O0.ext E307).wr W315 ge_b307).ext E318).keep K323q (allS ge_b318 all0)) S_cs hcz) hZ (hW 3 _ rfl) (hW 2 _ rfl) (by decide) (by decide)) (g := (mkF m 119 #[.val (.int q0), .val (.int q1), .val (.int q2), .val (.int q3), .val (.int (q0 &&& (3 : Int32))), .val (.ref b318), .val (.int (1 : Int32)), .unset, .unset, .unset, .unset] [(.int ((q2.toUInt32 >>> ((1 : Int32) &&& 31).toUInt32).toInt32)), (.int (q2 &&& (1 : Int32)))])) rfl (by rw [hml]; rfl) (argsL := [(.int (q2 &&& (1 : Int32))), (.int ((q2.toUInt32 >>> ((1 : Int32) &&& 31).toUInt32).toInt32))]) (rest := []) (lenOf pd_57 rfl) rfl (by show 2 * 0 + _ ≤ _; exact Nat.le_of_eq rfl) (hb hby at_119) (fun _ _ => ⟨rfl, rfl, (by decide : 3 + 3 ≤ _), (by decide : 6 + 6 ≤ _)⟩)
          dsimp only [Pt.U, Pt.locs, Pt.cells, Pt.slots] at X393 l393 y393 z393 st393 hQ393
          subst l393 y393 z393
          obtain ⟨r393, rfl, i393, N393q, K393q⟩ := hQ393
          have N393 := Fr.app N323 N393q
          have K394 : Go p e below T393 (mkF m 122 #[.val (.int q0), .val (.int q1), .val (.int q2), .val (.int q3), .val (.int (q0 &&& (3 : Int32))), .val (.ref b318), .val (.int (1 : Int32)), .unset, .unset, .unset, .unset] [r393]) G := fun tq kq => K392 tq (st393 tq kq)
          have K395 : Go p e below T393 (mkF m 124 #[.val (.int q0), .val (.int q1), .val (.int q2), .val (.int q3), .val (.int (q0 &&& (3 : Int32))), .val (.ref b318), .val (.int (1 : Int32)), .val r393, .unset, .unset, .unset] []) G := fun tq kq => K394 tq (XS.astore X393.here hx rfl (hb hby at_122) rfl i393 (l' := #[.val (.int q0), .val (.int q1), .val (.int q2), .val (.int q3), .val (.int (q0 &&& (3 : Int32))), .val (.ref b318), .val (.int (1 : Int32)), .val r393, .unset, .unset, .unset]) (by rcases ref_cases i393 with q | ⟨_, q⟩ <;> subst q <;> rfl) kq)
          have K396 : Go p e below T393 (mkF m 125 #[.val (.int q0), .val (.int q1), .val (.int q2), .val (.int q3), .val (.int (q0 &&& (3 : Int32))), .val (.ref b318), .val (.int (1 : Int32)), .val r393, .unset, .unset, .unset] [(.int q3)]) G := fun tq kq => K395 tq (XS.iloadN X393.here hx rfl (hb hby at_124) rfl kq)
          have K397 : Go p e below T393 (mkF m 126 #[.val (.int q0), .val (.int q1), .val (.int q2), .val (.int q3), .val (.int (q0 &&& (3 : Int32))), .val (.ref b318), .val (.int (1 : Int32)), .val r393, .unset, .unset, .unset] [(.int (1 : Int32)), (.int q3)]) G := fun tq kq => K396 tq (XS.iconst X393.here hx rfl (hb hby at_125) kq)
          have K398 : Go p e below T393 (mkF m 127 #[.val (.int q0), .val (.int q1), .val (.int q2), .val (.int q3), .val (.int (q0 &&& (3 : Int32))), .val (.ref b318), .val (.int (1 : Int32)), .val r393, .unset, .unset, .unset] [(.int (q3 &&& (1 : Int32)))]) G := fun tq kq => K397 tq (XS.iand X393.here hx rfl (hb hby at_126) rfl kq)
          have K399 : Go p e below T393 (mkF m 128 #[.val (.int q0), .val (.int q1), .val (.int q2), .val (.int q3), .val (.int (q0 &&& (3 : Int32))), .val (.ref b318), .val (.int (1 : Int32)), .val r393, .unset, .unset, .unset] [(.int q3), (.int (q3 &&& (1 : Int32)))]) G := fun tq kq => K398 tq (XS.iloadN X393.here hx rfl (hb hby at_127) rfl kq)
          have K400 : Go p e below T393 (mkF m 129 #[.val (.int q0), .val (.int q1), .val (.int q2), .val (.int q3), .val (.int (q0 &&& (3 : Int32))), .val (.ref b318), .val (.int (1 : Int32)), .val r393, .unset, .unset, .unset] [(.int (1 : Int32)), (.int q3), (.int (q3 &&& (1 : Int32)))]) G := fun tq kq => K399 tq (XS.iconst X393.here hx rfl (hb hby at_128) kq)
          have K401 : Go p e below T393 (mkF m 130 #[.val (.int q0), .val (.int q1), .val (.int q2), .val (.int q3), .val (.int (q0 &&& (3 : Int32))), .val (.ref b318), .val (.int (1 : Int32)), .val r393, .unset, .unset, .unset] [(.int ((q3.toUInt32 >>> ((1 : Int32) &&& 31).toUInt32).toInt32)), (.int (q3 &&& (1 : Int32)))]) G := fun tq kq => K400 tq (XS.iushr X393.here hx rfl (hb hby at_129) rfl kq)
          obtain ⟨v402, _, ⟨T402, L402, k402, n402⟩, -, X402, ⟨Lc402, hQ402, l402, y402, z402⟩, st402⟩ := Jvm.LawKit.callS X393 hx (y := (⟨"com/example/ledgerwright/ledgerwright/OptionIsFlagPinLaw", "drawn", "(II)Ljava/lang/String;"⟩ : MethodName)) hown (mvT hZ (hW 0 _ rfl)) (mvT hZ (hW 1 _ rfl)) (mvT hZ (hW 2 _ rfl)) (mvT hZ (hW 3 _ rfl)) (by decide) (backOf (W := 0) (rmDr l Z a0 hw [] (q3 &&& (1 : Int32)) ((q3.toUInt32 >>> ((1 : Int32) &&& 31).toUInt32).toInt32) cz T393.heap n0 (Nat.le_trans (Nat.le_trans (Nat.le_trans (Nat.le_trans (Nat.le_trans Z0 E307.1) (Keep.of_wr W315).1) E318.1) K323q.1) K393q.1) (((((O0.ext E307).wr W315 ge_b307).ext E318).keep K323q (allS ge_b318 all0)).keep K393q all0) S_cs hcz) hZ (hW 3 _ rfl) (hW 2 _ rfl) (by decide) (by decide)) (g := (mkF m 130 #[.val (.int q0), .val (.int q1), .val (.int q2), .val (.int q3), .val (.int (q0 &&& (3 : Int32))), .val (.ref b318), .val (.int (1 : Int32)), .val r393, .unset, .unset, .unset] [(.int ((q3.toUInt32 >>> ((1 : Int32) &&& 31).toUInt32).toInt32)), (.int (q3 &&& (1 : Int32)))])) rfl (by rw [hml]; rfl) (argsL := [(.int (q3 &&& (1 : Int32))), (.int ((q3.toUInt32 >>> ((1 : Int32) &&& 31).toUInt32).toInt32))]) (rest := []) (lenOf pd_57 rfl) rfl (by show 2 * 0 + _ ≤ _; exact Nat.le_of_eq rfl) (hb hby at_130) (fun _ _ => ⟨rfl, rfl, (by decide : 6 + 3 ≤ _), (by decide : 12 + 6 ≤ _)⟩)
          dsimp only [Pt.U, Pt.locs, Pt.cells, Pt.slots] at X402 l402 y402 z402 st402 hQ402
          subst l402 y402 z402
          obtain ⟨r402, rfl, i402, N402q, K402q⟩ := hQ402
          have N402 := Fr.app N393 N402q
          have K403 : Go p e below T402 (mkF m 133 #[.val (.int q0), .val (.int q1), .val (.int q2), .val (.int q3), .val (.int (q0 &&& (3 : Int32))), .val (.ref b318), .val (.int (1 : Int32)), .val r393, .unset, .unset, .unset] [r402]) G := fun tq kq => K401 tq (st402 tq kq)
          have K404 : Go p e below T402 (mkF m 135 #[.val (.int q0), .val (.int q1), .val (.int q2), .val (.int q3), .val (.int (q0 &&& (3 : Int32))), .val (.ref b318), .val (.int (1 : Int32)), .val r393, .val r402, .unset, .unset] []) G := fun tq kq => K403 tq (XS.astore X402.here hx rfl (hb hby at_133) rfl i402 (l' := #[.val (.int q0), .val (.int q1), .val (.int q2), .val (.int q3), .val (.int (q0 &&& (3 : Int32))), .val (.ref b318), .val (.int (1 : Int32)), .val r393, .val r402, .unset, .unset]) (by rcases ref_cases i402 with q | ⟨_, q⟩ <;> subst q <;> rfl) kq)
          have K405 : Go p e below T402 (mkF m 136 #[.val (.int q0), .val (.int q1), .val (.int q2), .val (.int q3), .val (.int (q0 &&& (3 : Int32))), .val (.ref b318), .val (.int (1 : Int32)), .val r393, .val r402, .unset, .unset] [(.int q3)]) G := fun tq kq => K404 tq (XS.iloadN X402.here hx rfl (hb hby at_135) rfl kq)
          have K406 : Go p e below T402 (mkF m 138 #[.val (.int q0), .val (.int q1), .val (.int q2), .val (.int q3), .val (.int (q0 &&& (3 : Int32))), .val (.ref b318), .val (.int (1 : Int32)), .val r393, .val r402, .unset, .unset] [(.int (9 : Int32)), (.int q3)]) G := fun tq kq => K405 tq (XS.bipush X402.here hx rfl (hb hby at_136) kq)
          have K407 : Go p e below T402 (mkF m 139 #[.val (.int q0), .val (.int q1), .val (.int q2), .val (.int q3), .val (.int (q0 &&& (3 : Int32))), .val (.ref b318), .val (.int (1 : Int32)), .val r393, .val r402, .unset, .unset] [(.int ((q3.toUInt32 >>> ((9 : Int32) &&& 31).toUInt32).toInt32))]) G := fun tq kq => K406 tq (XS.iushr X402.here hx rfl (hb hby at_138) rfl kq)
          have K408 : Go p e below T402 (mkF m 140 #[.val (.int q0), .val (.int q1), .val (.int q2), .val (.int q3), .val (.int (q0 &&& (3 : Int32))), .val (.ref b318), .val (.int (1 : Int32)), .val r393, .val r402, .unset, .unset] [(.int (1 : Int32)), (.int ((q3.toUInt32 >>> ((9 : Int32) &&& 31).toUInt32).toInt32))]) G := fun tq kq => K407 tq (XS.iconst X402.here hx rfl (hb hby at_139) kq)
          have K409 : Go p e below T402 (mkF m 141 #[.val (.int q0), .val (.int q1), .val (.int q2), .val (.int q3), .val (.int (q0 &&& (3 : Int32))), .val (.ref b318), .val (.int (1 : Int32)), .val r393, .val r402, .unset, .unset] [(.int (((q3.toUInt32 >>> ((9 : Int32) &&& 31).toUInt32).toInt32) &&& (1 : Int32)))]) G := fun tq kq => K408 tq (XS.iand X402.here hx rfl (hb hby at_140) rfl kq)
          have K410 : Go p e below T402 (mkF m 142 #[.val (.int q0), .val (.int q1), .val (.int q2), .val (.int q3), .val (.int (q0 &&& (3 : Int32))), .val (.ref b318), .val (.int (1 : Int32)), .val r393, .val r402, .unset, .unset] [(.int q3), (.int (((q3.toUInt32 >>> ((9 : Int32) &&& 31).toUInt32).toInt32) &&& (1 : Int32)))]) G := fun tq kq => K409 tq (XS.iloadN X402.here hx rfl (hb hby at_141) rfl kq)
          have K411 : Go p e below T402 (mkF m 144 #[.val (.int q0), .val (.int q1), .val (.int q2), .val (.int q3), .val (.int (q0 &&& (3 : Int32))), .val (.ref b318), .val (.int (1 : Int32)), .val r393, .val r402, .unset, .unset] [(.int (10 : Int32)), (.int q3), (.int (((q3.toUInt32 >>> ((9 : Int32) &&& 31).toUInt32).toInt32) &&& (1 : Int32)))]) G := fun tq kq => K410 tq (XS.bipush X402.here hx rfl (hb hby at_142) kq)
          have K412 : Go p e below T402 (mkF m 145 #[.val (.int q0), .val (.int q1), .val (.int q2), .val (.int q3), .val (.int (q0 &&& (3 : Int32))), .val (.ref b318), .val (.int (1 : Int32)), .val r393, .val r402, .unset, .unset] [(.int ((q3.toUInt32 >>> ((10 : Int32) &&& 31).toUInt32).toInt32)), (.int (((q3.toUInt32 >>> ((9 : Int32) &&& 31).toUInt32).toInt32) &&& (1 : Int32)))]) G := fun tq kq => K411 tq (XS.iushr X402.here hx rfl (hb hby at_144) rfl kq)
          obtain ⟨v413, _, ⟨T413, L413, k413, n413⟩, -, X413, ⟨Lc413, hQ413, l413, y413, z413⟩, st413⟩ := Jvm.LawKit.callS X402 hx (y := (⟨"com/example/ledgerwright/ledgerwright/OptionIsFlagPinLaw", "drawn", "(II)Ljava/lang/String;"⟩ : MethodName)) hown (mvT hZ (hW 0 _ rfl)) (mvT hZ (hW 1 _ rfl)) (mvT hZ (hW 2 _ rfl)) (mvT hZ (hW 3 _ rfl)) (by decide) (backOf (W := 0) (rmDr l Z a0 hw [] (((q3.toUInt32 >>> ((9 : Int32) &&& 31).toUInt32).toInt32) &&& (1 : Int32)) ((q3.toUInt32 >>> ((10 : Int32) &&& 31).toUInt32).toInt32) cz T402.heap n0 (Nat.le_trans (Nat.le_trans (Nat.le_trans (Nat.le_trans (Nat.le_trans (Nat.le_trans Z0 E307.1) (Keep.of_wr W315).1) E318.1) K323q.1) K393q.1) K402q.1) ((((((O0.ext E307).wr W315 ge_b307).ext E318).keep K323q (allS ge_b318 all0)).keep K393q all0).keep K402q all0) S_cs hcz) hZ (hW 3 _ rfl) (hW 2 _ rfl) (by decide) (by decide)) (g := (mkF m 145 #[.val (.int q0), .val (.int q1), .val (.int q2), .val (.int q3), .val (.int (q0 &&& (3 : Int32))), .val (.ref b318), .val (.int (1 : Int32)), .val r393, .val r402, .unset, .unset] [(.int ((q3.toUInt32 >>> ((10 : Int32) &&& 31).toUInt32).toInt32)), (.int (((q3.toUInt32 >>> ((9 : Int32) &&& 31).toUInt32).toInt32) &&& (1 : Int32)))])) rfl (by rw [hml]; rfl) (argsL := [(.int (((q3.toUInt32 >>> ((9 : Int32) &&& 31).toUInt32).toInt32) &&& (1 : Int32))), (.int ((q3.toUInt32 >>> ((10 : Int32) &&& 31).toUInt32).toInt32))]) (rest := []) (lenOf pd_57 rfl) rfl (by show 2 * 0 + _ ≤ _; exact Nat.le_of_eq rfl) (hb hby at_145) (fun _ _ => ⟨rfl, rfl, (by decide : 9 + 3 ≤ _), (by decide : 18 + 6 ≤ _)⟩)
          dsimp only [Pt.U, Pt.locs, Pt.cells, Pt.slots] at X413 l413 y413 z413 st413 hQ413
          subst l413 y413 z413
          obtain ⟨r413, rfl, i413, N413q, K413q⟩ := hQ413
          have N413 := Fr.app N402 N413q
          have K414 : Go p e below T413 (mkF m 148 #[.val (.int q0), .val (.int q1), .val (.int q2), .val (.int q3), .val (.int (q0 &&& (3 : Int32))), .val (.ref b318), .val (.int (1 : Int32)), .val r393, .val r402, .unset, .unset] [r413]) G := fun tq kq => K412 tq (st413 tq kq)
          have K415 : Go p e below T413 (mkF m 150 #[.val (.int q0), .val (.int q1), .val (.int q2), .val (.int q3), .val (.int (q0 &&& (3 : Int32))), .val (.ref b318), .val (.int (1 : Int32)), .val r393, .val r402, .val r413, .unset] []) G := fun tq kq => K414 tq (XS.astore X413.here hx rfl (hb hby at_148) rfl i413 (l' := #[.val (.int q0), .val (.int q1), .val (.int q2), .val (.int q3), .val (.int (q0 &&& (3 : Int32))), .val (.ref b318), .val (.int (1 : Int32)), .val r393, .val r402, .val r413, .unset]) (by rcases ref_cases i413 with q | ⟨_, q⟩ <;> subst q <;> rfl) kq)
          obtain ⟨T416, h416, X416, e416, E416, A416, D416, -, st416⟩ := newO X413 hx hZ hown (hW 34 _ rfl) (hW 35 _ rfl) (hW 36 _ rfl) rfl (g := (mkF m 150 #[.val (.int q0), .val (.int q1), .val (.int q2), .val (.int q3), .val (.int (q0 &&& (3 : Int32))), .val (.ref b318), .val (.int (1 : Int32)), .val r393, .val r402, .val r413, .unset] [])) rfl (hb hby at_150) (by decide) (by decide)
          obtain ⟨b416, g416⟩ : ∃ z, z = T413.heap.size := ⟨_, rfl⟩
          rw [← g416] at A416 D416 st416
          have ne416_b307 : b307 ≠ b416 := Nat.ne_of_lt (Nat.lt_of_lt_of_le (((((V315.ext E318).keep K323q (ninS ne318_b307 nin0)).keep K393q nin0).keep K402q nin0).keep K413q nin0).lt (Nat.le_of_eq g416.symm))
          have ne416_b318 : b318 ≠ b416 := Nat.ne_of_lt (Nat.lt_of_lt_of_le (((E323q.keep K393q).keep K402q).keep K413q).lt (Nat.le_of_eq g416.symm))
          have ne416_t323 : t323 ≠ b416 := Nat.ne_of_lt (Nat.lt_of_lt_of_le (((VB323q.keep K393q nin0).keep K402q nin0).keep K413q nin0).lt (Nat.le_of_eq g416.symm))
          have ge_b416 : n0 ≤ b416 := Nat.le_trans (Nat.le_trans (Nat.le_trans (Nat.le_trans (Nat.le_trans (Nat.le_trans (Nat.le_trans (Nat.le_trans Z0 E307.1) (Keep.of_wr W315).1) E318.1) K323q.1) K393q.1) K402q.1) K413q.1) (Nat.le_of_eq g416.symm)
          have sz_b416 : h0.size ≤ b416 := Nat.le_trans (((((((((Keep.refl h0 []).ext E307).wr W315 (Or.inr sz_b307)).ext E318).trans K323q (allS (Or.inr sz_b318) all0)).trans K393q all0).trans K402q all0).trans K413q all0)).1 (Nat.le_of_eq g416.symm)
          have F416_name : Fld Z h416 b416 "com/example/ledgerwright/ledgerwright/Option" "name" "Ljava/lang/String;" .null := D416 (Or.inr (hW 47 _ rfl)) (ty := (.object "java/lang/String")) (by decide)
          have F416_valueName : Fld Z h416 b416 "com/example/ledgerwright/ledgerwright/Option" "valueName" "Ljava/lang/String;" .null := D416 (Or.inr (hW 49 _ rfl)) (ty := (.object "java/lang/String")) (by decide)
          have F416_defaultValue : Fld Z h416 b416 "com/example/ledgerwright/ledgerwright/Option" "defaultValue" "Ljava/lang/String;" .null := D416 (Or.inr (hW 51 _ rfl)) (ty := (.object "java/lang/String")) (by decide)
          have F416_required : Fld Z h416 b416 "com/example/ledgerwright/ledgerwright/Option" "required" "Z" (.int (0 : Int32)) := D416 (Or.inr (hW 53 _ rfl)) (ty := .boolean) (by decide)
          have F416_description : Fld Z h416 b416 "com/example/ledgerwright/ledgerwright/Option" "description" "Ljava/lang/String;" .null := D416 (Or.inr (hW 55 _ rfl)) (ty := (.object "java/lang/String")) (by decide)
          have K417 : Go p e below T416 (mkF m 153 #[.val (.int q0), .val (.int q1), .val (.int q2), .val (.int q3), .val (.int (q0 &&& (3 : Int32))), .val (.ref b318), .val (.int (1 : Int32)), .val r393, .val r402, .val r413, .unset] [(.ref b416)]) G := fun tq kq => K415 tq (st416 tq kq)
          have K418 : Go p e below T416 (mkF m 154 #[.val (.int q0), .val (.int q1), .val (.int q2), .val (.int q3), .val (.int (q0 &&& (3 : Int32))), .val (.ref b318), .val (.int (1 : Int32)), .val r393, .val r402, .val r413, .unset] [(.ref b416), (.ref b416)]) G := fun tq kq => K417 tq (XS.dup X416.here hx rfl (hb hby at_153) rfl rfl kq)
          have K419 : Go p e below T416 (mkF m 156 #[.val (.int q0), .val (.int q1), .val (.int q2), .val (.int q3), .val (.int (q0 &&& (3 : Int32))), .val (.ref b318), .val (.int (1 : Int32)), .val r393, .val r402, .val r413, .unset] [r393, (.ref b416), (.ref b416)]) G := fun tq kq => K418 tq (XS.aload X416.here hx rfl (hb hby at_154) rfl i393 kq)
          have K420 : Go p e below T416 (mkF m 158 #[.val (.int q0), .val (.int q1), .val (.int q2), .val (.int q3), .val (.int (q0 &&& (3 : Int32))), .val (.ref b318), .val (.int (1 : Int32)), .val r393, .val r402, .val r413, .unset] [(.ref b318), r393, (.ref b416), (.ref b416)]) G := fun tq kq => K419 tq (XS.aload X416.here hx rfl (hb hby at_156) rfl rfl kq)
          have K421 : Go p e below T416 (mkF m 160 #[.val (.int q0), .val (.int q1), .val (.int q2), .val (.int q3), .val (.int (q0 &&& (3 : Int32))), .val (.ref b318), .val (.int (1 : Int32)), .val r393, .val r402, .val r413, .unset] [r402, (.ref b318), r393, (.ref b416), (.ref b416)]) G := fun tq kq => K420 tq (XS.aload X416.here hx rfl (hb hby at_158) rfl i402 kq)
          have K422 : Go p e below T416 (mkF m 162 #[.val (.int q0), .val (.int q1), .val (.int q2), .val (.int q3), .val (.int (q0 &&& (3 : Int32))), .val (.ref b318), .val (.int (1 : Int32)), .val r393, .val r402, .val r413, .unset] [(.int (1 : Int32)), r402, (.ref b318), r393, (.ref b416), (.ref b416)]) G := fun tq kq => K421 tq (XS.iload X416.here hx rfl (hb hby at_160) rfl kq)
          have K423 : Go p e below T416 (mkF m 164 #[.val (.int q0), .val (.int q1), .val (.int q2), .val (.int q3), .val (.int (q0 &&& (3 : Int32))), .val (.ref b318), .val (.int (1 : Int32)), .val r393, .val r402, .val r413, .unset] [r413, (.int (1 : Int32)), r402, (.ref b318), r393, (.ref b416), (.ref b416)]) G := fun tq kq => K422 tq (XS.aload X416.here hx rfl (hb hby at_162) rfl i413 kq)
          obtain ⟨v424, _, ⟨T424, L424, k424, n424⟩, -, X424, ⟨Lc424, hQ424, l424, y424, z424⟩, st424⟩ := X416.specialBack hx (y := (⟨"com/example/ledgerwright/ledgerwright/Option", "<init>", "(Ljava/lang/String;Ljava/lang/String;Ljava/lang/String;ZLjava/lang/String;)V"⟩ : MethodName)) rfl hown (mvT hZ (hW 37 _ rfl)) (mvT hZ (hW 38 _ rfl)) (mvT hZ (hW 39 _ rfl)) (by decide) (backOf (W := 1) (rmIni l Z a0 hw [] b416 r393 (.ref b318) r402 (1 : Int32) r413 h416 n0 (Nat.le_trans (Nat.le_trans (Nat.le_trans (Nat.le_trans (Nat.le_trans (Nat.le_trans (Nat.le_trans (Nat.le_trans Z0 E307.1) (Keep.of_wr W315).1) E318.1) K323q.1) K393q.1) K402q.1) K413q.1) E416.1) F416_name F416_valueName F416_defaultValue F416_required F416_description A416 ge_b416 i393 rfl i402 i413) hZ (hW 39 _ rfl) (hW 36 _ rfl) (by decide) (by decide)) (g := (mkF m 164 #[.val (.int q0), .val (.int q1), .val (.int q2), .val (.int q3), .val (.int (q0 &&& (3 : Int32))), .val (.ref b318), .val (.int (1 : Int32)), .val r393, .val r402, .val r413, .unset] [r413, (.int (1 : Int32)), r402, (.ref b318), r393, (.ref b416), (.ref b416)])) rfl (by rw [hml]; rfl) (Steps.refl _) (a := b416) (argsL := [r393, (.ref b318), r402, (.int (1 : Int32)), r413]) (rest := [(.ref b416)]) (lenOf pd_58 rfl) rfl (by show 2 * 0 + _ ≤ _; exact Nat.le_of_eq rfl) (hb hby at_164) (fun _ _ => ⟨rfl, e416, (by decide : 13 + 0 ≤ _), (by decide : 29 + 0 ≤ _)⟩)
          dsimp only [Pt.U, Pt.locs, Pt.cells, Pt.slots] at X424 l424 y424 z424 st424 hQ424
          subst l424 y424 z424
          obtain ⟨rfl, N424q, K424q, E424q, F424q_valueName⟩ := hQ424
          have N424 := Fr.app N413 N424q
          have K425 : Go p e below T424 (mkF m 167 #[.val (.int q0), .val (.int q1), .val (.int q2), .val (.int q3), .val (.int (q0 &&& (3 : Int32))), .val (.ref b318), .val (.int (1 : Int32)), .val r393, .val r402, .val r413, .unset] [(.ref b416)]) G := fun tq kq => K423 tq (st424.trans kq)
          have K426 : Go p e below T424 (mkF m 169 #[.val (.int q0), .val (.int q1), .val (.int q2), .val (.int q3), .val (.int (q0 &&& (3 : Int32))), .val (.ref b318), .val (.int (1 : Int32)), .val r393, .val r402, .val r413, .val (.ref b416)] []) G := fun tq kq => K425 tq (XS.astore X424.here hx rfl (hb hby at_167) rfl rfl (l' := #[.val (.int q0), .val (.int q1), .val (.int q2), .val (.int q3), .val (.int (q0 &&& (3 : Int32))), .val (.ref b318), .val (.int (1 : Int32)), .val r393, .val r402, .val r413, .val (.ref b416)]) rfl kq)
          have K427 : Go p e below T424 (mkF m 171 #[.val (.int q0), .val (.int q1), .val (.int q2), .val (.int q3), .val (.int (q0 &&& (3 : Int32))), .val (.ref b318), .val (.int (1 : Int32)), .val r393, .val r402, .val r413, .val (.ref b416)] [(.ref b416)]) G := fun tq kq => K426 tq (XS.aload X424.here hx rfl (hb hby at_169) rfl rfl kq)
          obtain ⟨cq428, kq428, q428a, q428b, q428c⟩ := isOf hZ rfl E424q
          obtain ⟨v428, _, ⟨T428, L428, k428, n428⟩, -, X428, ⟨Lc428, hQ428, l428, y428, z428⟩, st428⟩ := X424.virtualBack hx (y := (⟨"com/example/ledgerwright/ledgerwright/Option", "isFlag", "()Z"⟩ : MethodName)) (z := (⟨"com/example/ledgerwright/ledgerwright/Option", "isFlag", "()Z"⟩ : MethodName)) hown (mvT hZ (hW 56 _ rfl)) (mvT hZ (hW 57 _ rfl)) (notFace_of_selects (args := #[]) (mvT hZ (hW 59 _ rfl))) (mvT hZ (hW 59 _ rfl)) (mvT hZ (hW 58 _ rfl)) (by decide) (backOf (W := 0) (rmFR l Z a0 hw [] b416 b318 T424.heap n0 (Nat.le_trans (Nat.le_trans (Nat.le_trans (Nat.le_trans (Nat.le_trans (Nat.le_trans (Nat.le_trans (Nat.le_trans (Nat.le_trans Z0 E307.1) (Keep.of_wr W315).1) E318.1) K323q.1) K393q.1) K402q.1) K413q.1) E416.1) K424q.1) F424q_valueName) hZ (hW 60 _ rfl) (hW 36 _ rfl) (by decide) (by decide)) q428a q428c (g := (mkF m 171 #[.val (.int q0), .val (.int q1), .val (.int q2), .val (.int q3), .val (.int (q0 &&& (3 : Int32))), .val (.ref b318), .val (.int (1 : Int32)), .val r393, .val r402, .val r413, .val (.ref b416)] [(.ref b416)])) rfl (by rw [hml]; rfl) (Steps.refl _) (argsL := []) (rest := []) (lenOf pd_59 rfl) rfl (by show 2 * 0 + _ ≤ _; exact Nat.le_of_eq rfl) (hb hby at_171) (fun _ _ => ⟨rfl, rfl, (by decide : 13 + 0 ≤ _), (by decide : 29 + 0 ≤ _)⟩)
          dsimp only [Pt.U, Pt.locs, Pt.cells, Pt.slots] at X428 l428 y428 z428 st428 hQ428
          subst l428 y428 z428
          obtain ⟨rfl, N428q, E428q⟩ := hQ428
          have N428 := Fr.app N424 N428q
          have K429 : Go p e below T428 (mkF m 174 #[.val (.int q0), .val (.int q1), .val (.int q2), .val (.int q3), .val (.int (q0 &&& (3 : Int32))), .val (.ref b318), .val (.int (1 : Int32)), .val r393, .val r402, .val r413, .val (.ref b416)] [(.int (0 : Int32))]) G := fun tq kq => K427 tq (st428.trans kq)
          have K430 : Go p e below T428 (mkF m 176 #[.val (.int q0), .val (.int q1), .val (.int q2), .val (.int q3), .val (.int (q0 &&& (3 : Int32))), .val (.ref b318), .val (.int (1 : Int32)), .val r393, .val r402, .val r413, .val (.ref b416)] [(.int (q0 &&& (3 : Int32))), (.int (0 : Int32))]) G := fun tq kq => K429 tq (XS.iload X428.here hx rfl (hb hby at_174) rfl kq)
          have K431 : Go p e below T428 (mkF m 183 #[.val (.int q0), .val (.int q1), .val (.int q2), .val (.int q3), .val (.int (q0 &&& (3 : Int32))), .val (.ref b318), .val (.int (1 : Int32)), .val r393, .val r402, .val r413, .val (.ref b416)] [(.int (0 : Int32))]) G := fun tq kq => K430 tq (XS.ifYes X428.here hx rfl (pc0 := 176) (pc' := 183) rfl (hb hby at_176) rfl ((if0 _ _).trans (feq hc67).2) (by decide) (by decide) kq)
          have K432 : Go p e below T428 (mkF m 184 #[.val (.int q0), .val (.int q1), .val (.int q2), .val (.int q3), .val (.int (q0 &&& (3 : Int32))), .val (.ref b318), .val (.int (1 : Int32)), .val r393, .val r402, .val r413, .val (.ref b416)] [(.int (0 : Int32)), (.int (0 : Int32))]) G := fun tq kq => K431 tq (XS.iconst X428.here hx rfl (hb hby at_183) kq)
          have K433 : Go p e below T428 (mkF m 187 #[.val (.int q0), .val (.int q1), .val (.int q2), .val (.int q3), .val (.int (q0 &&& (3 : Int32))), .val (.ref b318), .val (.int (1 : Int32)), .val r393, .val r402, .val r413, .val (.ref b416)] []) G := fun tq kq => K432 tq (XS.icmpNo X428.here hx rfl (hb hby at_184) rfl ((teq (by decide : (0 : Int32) = (0 : Int32))).2) kq)
          have K434 : Go p e below T428 (mkF m 188 #[.val (.int q0), .val (.int q1), .val (.int q2), .val (.int q3), .val (.int (q0 &&& (3 : Int32))), .val (.ref b318), .val (.int (1 : Int32)), .val r393, .val r402, .val r413, .val (.ref b416)] [(.int (1 : Int32))]) G := fun tq kq => K433 tq (XS.iconst X428.here hx rfl (hb hby at_187) kq)
          have K435 : Go p e below T428 (mkF m 192 #[.val (.int q0), .val (.int q1), .val (.int q2), .val (.int q3), .val (.int (q0 &&& (3 : Int32))), .val (.ref b318), .val (.int (1 : Int32)), .val r393, .val r402, .val r413, .val (.ref b416)] [(.int (1 : Int32))]) G := fun tq kq => K434 tq (XS.goto X428.here hx rfl (pc0 := 188) (pc' := 192) rfl (hb hby at_188) (by decide) (by decide) kq)
          obtain ⟨fs, hr, hrun, hended, hWW, hsame⟩ := X428.leave (v := some (.int (1 : Int32))) (fun h => by rw [Bd.returns] at h; cases h)
          refine ⟨_, _, hG _ (K435 _ (retN X428 hx (t := .boolean) Bd.returns (by simp) (hb hby at_192) hr)), hrun, hended, _, _, rfl, ?_, wide ⟨⟨_, rfl⟩, hWW, hsame.mono (by decide) (by decide)⟩⟩
          show Q0 Z q0 q1 q2 q3 cz h0 n0 _ T428.heap _
          rw [E428q]
          exact ⟨rfl, N428⟩
      · skip
        have K436 : Go p e below s₁ (mkF m 63 #[.val (.int q0), .val (.int q1), .val (.int q2), .val (.int q3), .val (.int (q0 &&& (3 : Int32))), .unset, .unset, .unset, .unset, .unset, .unset] []) G := fun tq kq => K303 tq (XS.icmpYes X0.here hx rfl (pc0 := 32) (pc' := 63) rfl (hb hby at_32) rfl ((feq hc304).2) (by decide) (by decide) kq)
        have K437 : Go p e below s₁ (mkF m 64 #[.val (.int q0), .val (.int q1), .val (.int q2), .val (.int q3), .val (.int (q0 &&& (3 : Int32))), .unset, .unset, .unset, .unset, .unset, .unset] [(.int (2 : Int32))]) G := fun tq kq => K436 tq (XS.iconst X0.here hx rfl (hb hby at_63) kq)
        obtain ⟨T438, h438, k438, X438, e438, E438, A438, st438⟩ := newP X0 hx hZ (hW 4 _ rfl) e0 (g := (mkF m 64 #[.val (.int q0), .val (.int q1), .val (.int q2), .val (.int q3), .val (.int (q0 &&& (3 : Int32))), .unset, .unset, .unset, .unset, .unset, .unset] [(.int (2 : Int32))])) rfl (hb hby at_64) rfl (by decide) (cap := 2) (by decide) (by decide) (by decide) (by decide)
        obtain ⟨b438, g438⟩ : ∃ z, z = h0.size := ⟨_, rfl⟩
        rw [← g438] at A438 st438
        have ge_b438 : n0 ≤ b438 := Nat.le_trans Z0 (Nat.le_of_eq g438.symm)
        have sz_b438 : h0.size ≤ b438 := Nat.le_trans ((Keep.refl h0 [])).1 (Nat.le_of_eq g438.symm)
        have V438 : Arv Z h438 b438 k438 .char (2 : Int32) [(.int (0 : Int32)), (.int (0 : Int32))] (.int (0 : Int32)) := (Arv.new A438 (by decide)).pad (pad_rep [] (.int (0 : Int32)) 2)
        have K439 : Go p e below T438 (mkF m 66 #[.val (.int q0), .val (.int q1), .val (.int q2), .val (.int q3), .val (.int (q0 &&& (3 : Int32))), .unset, .unset, .unset, .unset, .unset, .unset] [(.ref b438)]) G := fun tq kq => K437 tq (st438 tq kq)
        have K440 : Go p e below T438 (mkF m 67 #[.val (.int q0), .val (.int q1), .val (.int q2), .val (.int q3), .val (.int (q0 &&& (3 : Int32))), .unset, .unset, .unset, .unset, .unset, .unset] [(.ref b438), (.ref b438)]) G := fun tq kq => K439 tq (XS.dup X438.here hx rfl (hb hby at_66) rfl rfl kq)
        have K441 : Go p e below T438 (mkF m 68 #[.val (.int q0), .val (.int q1), .val (.int q2), .val (.int q3), .val (.int (q0 &&& (3 : Int32))), .unset, .unset, .unset, .unset, .unset, .unset] [(.int (0 : Int32)), (.ref b438), (.ref b438)]) G := fun tq kq => K440 tq (XS.iconst X438.here hx rfl (hb hby at_67) kq)
        have K442 : Go p e below T438 (mkF m 69 #[.val (.int q0), .val (.int q1), .val (.int q2), .val (.int q3), .val (.int (q0 &&& (3 : Int32))), .unset, .unset, .unset, .unset, .unset, .unset] [(.int q1), (.int (0 : Int32)), (.ref b438), (.ref b438)]) G := fun tq kq => K441 tq (XS.iloadN X438.here hx rfl (hb hby at_68) rfl kq)
        have K443 : Go p e below T438 (mkF m 72 #[.val (.int q0), .val (.int q1), .val (.int q2), .val (.int q3), .val (.int (q0 &&& (3 : Int32))), .unset, .unset, .unset, .unset, .unset, .unset] [(.int (255 : Int32)), (.int q1), (.int (0 : Int32)), (.ref b438), (.ref b438)]) G := fun tq kq => K442 tq (XS.sipush X438.here hx rfl (hb hby at_69) kq)
        have K444 : Go p e below T438 (mkF m 73 #[.val (.int q0), .val (.int q1), .val (.int q2), .val (.int q3), .val (.int (q0 &&& (3 : Int32))), .unset, .unset, .unset, .unset, .unset, .unset] [(.int (q1 &&& (255 : Int32))), (.int (0 : Int32)), (.ref b438), (.ref b438)]) G := fun tq kq => K443 tq (XS.iand X438.here hx rfl (hb hby at_72) rfl kq)
        have K445 : Go p e below T438 (mkF m 74 #[.val (.int q0), .val (.int q1), .val (.int q2), .val (.int q3), .val (.int (q0 &&& (3 : Int32))), .unset, .unset, .unset, .unset, .unset, .unset] [(.int ((q1 &&& (255 : Int32)).toUInt32.toUInt16.toUInt32.toInt32)), (.int (0 : Int32)), (.ref b438), (.ref b438)]) G := fun tq kq => K444 tq (XS.i2c X438.here hx rfl (hb hby at_73) rfl kq)
        obtain ⟨cl446, Ar446, q446, S446, Nn446, Hh446, Gg446⟩ := id V438
        have hin446 : ¬ ((0 : Int32) < 0 ∨ cl446.slots.size ≤ ((0 : Int32)).toNatClampNeg) := inb_of S446 ⟨by decide, by decide⟩
        obtain ⟨T446, h446, X446, e446, W446, st446⟩ := stC X438 hx hZ e438 Ar446 (j := (0 : Int32)) hin446 (g := (mkF m 74 #[.val (.int q0), .val (.int q1), .val (.int q2), .val (.int q3), .val (.int (q0 &&& (3 : Int32))), .unset, .unset, .unset, .unset, .unset, .unset] [(.int ((q1 &&& (255 : Int32)).toUInt32.toUInt16.toUInt32.toInt32)), (.int (0 : Int32)), (.ref b438), (.ref b438)])) rfl rfl (hb hby at_74)
        have V446 : Arv Z h446 b438 k438 .char (2 : Int32) [(.int (nar .char ((q1 &&& (255 : Int32)).toUInt32.toUInt16.toUInt32.toInt32))), (.int (0 : Int32))] (.int (0 : Int32)) := Arv.set Ar446 q446 S446 Nn446 Hh446 Gg446 (fits_nar_char _) W446 0 rfl (Nat.le_of_ble_eq_true rfl)
        have N446 := Fr.snoc X446 N0 ge_b438
        have K447 : Go p e below T446 (mkF m 75 #[.val (.int q0), .val (.int q1), .val (.int q2), .val (.int q3), .val (.int (q0 &&& (3 : Int32))), .unset, .unset, .unset, .unset, .unset, .unset] [(.ref b438)]) G := fun tq kq => K445 tq (st446 tq kq)
        have K448 : Go p e below T446 (mkF m 76 #[.val (.int q0), .val (.int q1), .val (.int q2), .val (.int q3), .val (.int (q0 &&& (3 : Int32))), .unset, .unset, .unset, .unset, .unset, .unset] [(.ref b438), (.ref b438)]) G := fun tq kq => K447 tq (XS.dup X446.here hx rfl (hb hby at_75) rfl rfl kq)
        have K449 : Go p e below T446 (mkF m 77 #[.val (.int q0), .val (.int q1), .val (.int q2), .val (.int q3), .val (.int (q0 &&& (3 : Int32))), .unset, .unset, .unset, .unset, .unset, .unset] [(.int (1 : Int32)), (.ref b438), (.ref b438)]) G := fun tq kq => K448 tq (XS.iconst X446.here hx rfl (hb hby at_76) kq)
        have K450 : Go p e below T446 (mkF m 78 #[.val (.int q0), .val (.int q1), .val (.int q2), .val (.int q3), .val (.int (q0 &&& (3 : Int32))), .unset, .unset, .unset, .unset, .unset, .unset] [(.int q1), (.int (1 : Int32)), (.ref b438), (.ref b438)]) G := fun tq kq => K449 tq (XS.iloadN X446.here hx rfl (hb hby at_77) rfl kq)
        have K451 : Go p e below T446 (mkF m 80 #[.val (.int q0), .val (.int q1), .val (.int q2), .val (.int q3), .val (.int (q0 &&& (3 : Int32))), .unset, .unset, .unset, .unset, .unset, .unset] [(.int (8 : Int32)), (.int q1), (.int (1 : Int32)), (.ref b438), (.ref b438)]) G := fun tq kq => K450 tq (XS.bipush X446.here hx rfl (hb hby at_78) kq)
        have K452 : Go p e below T446 (mkF m 81 #[.val (.int q0), .val (.int q1), .val (.int q2), .val (.int q3), .val (.int (q0 &&& (3 : Int32))), .unset, .unset, .unset, .unset, .unset, .unset] [(.int ((q1.toUInt32 >>> ((8 : Int32) &&& 31).toUInt32).toInt32)), (.int (1 : Int32)), (.ref b438), (.ref b438)]) G := fun tq kq => K451 tq (XS.iushr X446.here hx rfl (hb hby at_80) rfl kq)
        have K453 : Go p e below T446 (mkF m 84 #[.val (.int q0), .val (.int q1), .val (.int q2), .val (.int q3), .val (.int (q0 &&& (3 : Int32))), .unset, .unset, .unset, .unset, .unset, .unset] [(.int (255 : Int32)), (.int ((q1.toUInt32 >>> ((8 : Int32) &&& 31).toUInt32).toInt32)), (.int (1 : Int32)), (.ref b438), (.ref b438)]) G := fun tq kq => K452 tq (XS.sipush X446.here hx rfl (hb hby at_81) kq)
        have K454 : Go p e below T446 (mkF m 85 #[.val (.int q0), .val (.int q1), .val (.int q2), .val (.int q3), .val (.int (q0 &&& (3 : Int32))), .unset, .unset, .unset, .unset, .unset, .unset] [(.int (((q1.toUInt32 >>> ((8 : Int32) &&& 31).toUInt32).toInt32) &&& (255 : Int32))), (.int (1 : Int32)), (.ref b438), (.ref b438)]) G := fun tq kq => K453 tq (XS.iand X446.here hx rfl (hb hby at_84) rfl kq)
        have K455 : Go p e below T446 (mkF m 86 #[.val (.int q0), .val (.int q1), .val (.int q2), .val (.int q3), .val (.int (q0 &&& (3 : Int32))), .unset, .unset, .unset, .unset, .unset, .unset] [(.int ((((q1.toUInt32 >>> ((8 : Int32) &&& 31).toUInt32).toInt32) &&& (255 : Int32)).toUInt32.toUInt16.toUInt32.toInt32)), (.int (1 : Int32)), (.ref b438), (.ref b438)]) G := fun tq kq => K454 tq (XS.i2c X446.here hx rfl (hb hby at_85) rfl kq)
        obtain ⟨cl456, Ar456, q456, S456, Nn456, Hh456, Gg456⟩ := id V446
        have hin456 : ¬ ((1 : Int32) < 0 ∨ cl456.slots.size ≤ ((1 : Int32)).toNatClampNeg) := inb_of S456 ⟨by decide, by decide⟩
        obtain ⟨T456, h456, X456, e456, W456, st456⟩ := stC X446 hx hZ e446 Ar456 (j := (1 : Int32)) hin456 (g := (mkF m 86 #[.val (.int q0), .val (.int q1), .val (.int q2), .val (.int q3), .val (.int (q0 &&& (3 : Int32))), .unset, .unset, .unset, .unset, .unset, .unset] [(.int ((((q1.toUInt32 >>> ((8 : Int32) &&& 31).toUInt32).toInt32) &&& (255 : Int32)).toUInt32.toUInt16.toUInt32.toInt32)), (.int (1 : Int32)), (.ref b438), (.ref b438)])) rfl rfl (hb hby at_86)
        have V456 : Arv Z h456 b438 k438 .char (2 : Int32) [(.int (nar .char ((q1 &&& (255 : Int32)).toUInt32.toUInt16.toUInt32.toInt32))), (.int (nar .char ((((q1.toUInt32 >>> ((8 : Int32) &&& 31).toUInt32).toInt32) &&& (255 : Int32)).toUInt32.toUInt16.toUInt32.toInt32)))] (.int (0 : Int32)) := Arv.set Ar456 q456 S456 Nn456 Hh456 Gg456 (fits_nar_char _) W456 1 rfl (Nat.le_of_ble_eq_true rfl)
        have N456 := Fr.snoc X456 N446 ge_b438
        have K457 : Go p e below T456 (mkF m 87 #[.val (.int q0), .val (.int q1), .val (.int q2), .val (.int q3), .val (.int (q0 &&& (3 : Int32))), .unset, .unset, .unset, .unset, .unset, .unset] [(.ref b438)]) G := fun tq kq => K455 tq (st456 tq kq)
        have K458 : Go p e below T456 (mkF m 89 #[.val (.int q0), .val (.int q1), .val (.int q2), .val (.int q3), .val (.int (q0 &&& (3 : Int32))), .unset, .val (.ref b438), .unset, .unset, .unset, .unset] []) G := fun tq kq => K457 tq (XS.astore X456.here hx rfl (hb hby at_87) rfl rfl (l' := #[.val (.int q0), .val (.int q1), .val (.int q2), .val (.int q3), .val (.int (q0 &&& (3 : Int32))), .unset, .val (.ref b438), .unset, .unset, .unset, .unset]) rfl kq)
        obtain ⟨T459, h459, X459, e459, E459, A459, D459, -, st459⟩ := newO X456 hx hZ hown (hW 5 _ rfl) (hW 6 _ rfl) (hW 7 _ rfl) e456 (g := (mkF m 89 #[.val (.int q0), .val (.int q1), .val (.int q2), .val (.int q3), .val (.int (q0 &&& (3 : Int32))), .unset, .val (.ref b438), .unset, .unset, .unset, .unset] [])) rfl (hb hby at_89) (by decide) (by decide)
        obtain ⟨b459, g459⟩ : ∃ z, z = h456.size := ⟨_, rfl⟩
        rw [← g459] at A459 D459 st459
        have ne459_b438 : b438 ≠ b459 := Nat.ne_of_lt (Nat.lt_of_lt_of_le V456.lt (Nat.le_of_eq g459.symm))
        have ge_b459 : n0 ≤ b459 := Nat.le_trans (Nat.le_trans (Nat.le_trans (Nat.le_trans Z0 E438.1) (Keep.of_wr W446).1) (Keep.of_wr W456).1) (Nat.le_of_eq g459.symm)
        have sz_b459 : h0.size ≤ b459 := Nat.le_trans (((((Keep.refl h0 []).ext E438).wr W446 (Or.inr sz_b438)).wr W456 (Or.inr sz_b438))).1 (Nat.le_of_eq g459.symm)
        have F459_coder : Fld Z h459 b459 "java/lang/String" "coder" "B" (.int (0 : Int32)) := D459 (Or.inr (hW 31 _ rfl)) (ty := .byte) (by decide)
        have F459_value : Fld Z h459 b459 "java/lang/String" "value" "[B" .null := D459 (Or.inr (hW 33 _ rfl)) (ty := (.array .byte)) (by decide)
        have K460 : Go p e below T459 (mkF m 92 #[.val (.int q0), .val (.int q1), .val (.int q2), .val (.int q3), .val (.int (q0 &&& (3 : Int32))), .unset, .val (.ref b438), .unset, .unset, .unset, .unset] [(.ref b459)]) G := fun tq kq => K458 tq (st459 tq kq)
        have K461 : Go p e below T459 (mkF m 93 #[.val (.int q0), .val (.int q1), .val (.int q2), .val (.int q3), .val (.int (q0 &&& (3 : Int32))), .unset, .val (.ref b438), .unset, .unset, .unset, .unset] [(.ref b459), (.ref b459)]) G := fun tq kq => K460 tq (XS.dup X459.here hx rfl (hb hby at_92) rfl rfl kq)
        have K462 : Go p e below T459 (mkF m 95 #[.val (.int q0), .val (.int q1), .val (.int q2), .val (.int q3), .val (.int (q0 &&& (3 : Int32))), .unset, .val (.ref b438), .unset, .unset, .unset, .unset] [(.ref b438), (.ref b459), (.ref b459)]) G := fun tq kq => K461 tq (XS.aload X459.here hx rfl (hb hby at_93) rfl rfl kq)
        have hp463 : ∀ c ∈ ([(nar .char ((q1 &&& (255 : Int32)).toUInt32.toUInt16.toUInt32.toInt32)), (nar .char ((((q1.toUInt32 >>> ((8 : Int32) &&& 31).toUInt32).toInt32) &&& (255 : Int32)).toUInt32.toUInt16.toUInt32.toInt32))] : List Int32), ¬ c < 0 ∧ ¬ (255 : Int32) < c := by
          intro c hc
          simp only [List.mem_cons, List.not_mem_nil, or_false] at hc
          rcases hc with rfl | rfl
          · exact own_p255 _
          · exact own_p255 _
        obtain ⟨v464, _, ⟨T464, L464, k464, n464⟩, -, X464, ⟨Lc464, hQ464, l464, y464, z464⟩, st464⟩ := X459.specialBack hx (y := (⟨"java/lang/String", "<init>", "([C)V"⟩ : MethodName)) rfl hown (mvT hZ (hW 8 _ rfl)) (mvT hZ (hW 9 _ rfl)) (mvT hZ (hW 10 _ rfl)) (by decide) (StrChars.Road.backV (W := 1) hZ hws (kI := 4) (hW 6 _ rfl) (cs := ([(nar .char ((q1 &&& (255 : Int32)).toUInt32.toUInt16.toUInt32.toInt32)), (nar .char ((((q1.toUInt32 >>> ((8 : Int32) &&& 31).toUInt32).toInt32) &&& (255 : Int32)).toUInt32.toUInt16.toUInt32.toInt32))] : List Int32)) (bs := (([(nar .char ((q1 &&& (255 : Int32)).toUInt32.toUInt16.toUInt32.toInt32)), (nar .char ((((q1.toUInt32 >>> ((8 : Int32) &&& 31).toUInt32).toInt32) &&& (255 : Int32)).toUInt32.toUInt16.toUInt32.toInt32))] : List Int32)).map (fun c => c.toInt8.toInt32)) (n := 2) ge_b459 (Nat.le_trans (Nat.le_trans (Nat.le_trans (Nat.le_trans Z0 E438.1) (Keep.of_wr W446).1) (Keep.of_wr W456).1) E459.1) A459 F459_value F459_coder (V456.ext E459) (S_cs.ext ((((O0.ext E438).wr W446 ge_b438).wr W456 ge_b438).ext E459).2) hcz rfl rfl (by decide) (by decide) hp463 rfl (by decide) (by decide)) (g := (mkF m 95 #[.val (.int q0), .val (.int q1), .val (.int q2), .val (.int q3), .val (.int (q0 &&& (3 : Int32))), .unset, .val (.ref b438), .unset, .unset, .unset, .unset] [(.ref b438), (.ref b459), (.ref b459)])) rfl (by rw [hml]; rfl) (Steps.refl _) (a := b459) (argsL := [(.ref b438)]) (rest := [(.ref b459)]) (lenOf pd_7 rfl) rfl (by show 2 * 0 + _ ≤ _; exact Nat.le_of_eq rfl) (hb hby at_95) (fun _ _ => ⟨rfl, e459, (by decide : 2 + 1 ≤ _), (by decide : 6 + 2 ≤ _)⟩)
        dsimp only [Pt.U, Pt.locs, Pt.cells, Pt.slots] at X464 l464 y464 z464 st464 hQ464
        subst l464 y464 z464
        obtain ⟨rfl, N464q, K464q, E464q, FC464q, t464, kb464, get464, szt464, net464, FV464q, VB464q⟩ := hQ464
        have N464 := Fr.app N456 N464q
        have K465 : Go p e below T464 (mkF m 98 #[.val (.int q0), .val (.int q1), .val (.int q2), .val (.int q3), .val (.int (q0 &&& (3 : Int32))), .unset, .val (.ref b438), .unset, .unset, .unset, .unset] [(.ref b459)]) G := fun tq kq => K462 tq (st464.trans kq)
        have K466 : Go p e below T464 (mkF m 100 #[.val (.int q0), .val (.int q1), .val (.int q2), .val (.int q3), .val (.int (q0 &&& (3 : Int32))), .val (.ref b459), .val (.ref b438), .unset, .unset, .unset, .unset] []) G := fun tq kq => K465 tq (XS.astore X464.here hx rfl (hb hby at_98) rfl rfl (l' := #[.val (.int q0), .val (.int q1), .val (.int q2), .val (.int q3), .val (.int (q0 &&& (3 : Int32))), .val (.ref b459), .val (.ref b438), .unset, .unset, .unset, .unset]) rfl kq)
        have K467 : Go p e below T464 (mkF m 101 #[.val (.int q0), .val (.int q1), .val (.int q2), .val (.int q3), .val (.int (q0 &&& (3 : Int32))), .val (.ref b459), .val (.ref b438), .unset, .unset, .unset, .unset] [(.int q0)]) G := fun tq kq => K466 tq (XS.iloadN X464.here hx rfl (hb hby at_100) rfl kq)
        have K468 : Go p e below T464 (mkF m 102 #[.val (.int q0), .val (.int q1), .val (.int q2), .val (.int q3), .val (.int (q0 &&& (3 : Int32))), .val (.ref b459), .val (.ref b438), .unset, .unset, .unset, .unset] [(.int (4 : Int32)), (.int q0)]) G := fun tq kq => K467 tq (XS.iconst X464.here hx rfl (hb hby at_101) kq)
        have K469 : Go p e below T464 (mkF m 103 #[.val (.int q0), .val (.int q1), .val (.int q2), .val (.int q3), .val (.int (q0 &&& (3 : Int32))), .val (.ref b459), .val (.ref b438), .unset, .unset, .unset, .unset] [(.int (q0 &&& (4 : Int32)))]) G := fun tq kq => K468 tq (XS.iand X464.here hx rfl (hb hby at_102) rfl kq)
        by_cases hc470 : (q0 &&& (4 : Int32)) = (0 : Int32)
        · skip
          have K471 : Go p e below T464 (mkF m 110 #[.val (.int q0), .val (.int q1), .val (.int q2), .val (.int q3), .val (.int (q0 &&& (3 : Int32))), .val (.ref b459), .val (.ref b438), .unset, .unset, .unset, .unset] []) G := fun tq kq => K469 tq (XS.ifYes X464.here hx rfl (pc0 := 103) (pc' := 110) rfl (hb hby at_103) rfl ((if0 _ _).trans (teq hc470).1) (by decide) (by decide) kq)
          have K472 : Go p e below T464 (mkF m 111 #[.val (.int q0), .val (.int q1), .val (.int q2), .val (.int q3), .val (.int (q0 &&& (3 : Int32))), .val (.ref b459), .val (.ref b438), .unset, .unset, .unset, .unset] [(.int (0 : Int32))]) G := fun tq kq => K471 tq (XS.iconst X464.here hx rfl (hb hby at_110) kq)
          have K473 : Go p e below T464 (mkF m 113 #[.val (.int q0), .val (.int q1), .val (.int q2), .val (.int q3), .val (.int (q0 &&& (3 : Int32))), .val (.ref b459), .val (.int (0 : Int32)), .unset, .unset, .unset, .unset] []) G := fun tq kq => K472 tq (XS.istore X464.here hx rfl (hb hby at_111) rfl (l' := #[.val (.int q0), .val (.int q1), .val (.int q2), .val (.int q3), .val (.int (q0 &&& (3 : Int32))), .val (.ref b459), .val (.int (0 : Int32)), .unset, .unset, .unset, .unset]) rfl kq)
          have K474 : Go p e below T464 (mkF m 114 #[.val (.int q0), .val (.int q1), .val (.int q2), .val (.int q3), .val (.int (q0 &&& (3 : Int32))), .val (.ref b459), .val (.int (0 : Int32)), .unset, .unset, .unset, .unset] [(.int q2)]) G := fun tq kq => K473 tq (XS.iloadN X464.here hx rfl (hb hby at_113) rfl kq)
          have K475 : Go p e below T464 (mkF m 115 #[.val (.int q0), .val (.int q1), .val (.int q2), .val (.int q3), .val (.int (q0 &&& (3 : Int32))), .val (.ref b459), .val (.int (0 : Int32)), .unset, .unset, .unset, .unset] [(.int (1 : Int32)), (.int q2)]) G := fun tq kq => K474 tq (XS.iconst X464.here hx rfl (hb hby at_114) kq)
          have K476 : Go p e below T464 (mkF m 116 #[.val (.int q0), .val (.int q1), .val (.int q2), .val (.int q3), .val (.int (q0 &&& (3 : Int32))), .val (.ref b459), .val (.int (0 : Int32)), .unset, .unset, .unset, .unset] [(.int (q2 &&& (1 : Int32)))]) G := fun tq kq => K475 tq (XS.iand X464.here hx rfl (hb hby at_115) rfl kq)
          have K477 : Go p e below T464 (mkF m 117 #[.val (.int q0), .val (.int q1), .val (.int q2), .val (.int q3), .val (.int (q0 &&& (3 : Int32))), .val (.ref b459), .val (.int (0 : Int32)), .unset, .unset, .unset, .unset] [(.int q2), (.int (q2 &&& (1 : Int32)))]) G := fun tq kq => K476 tq (XS.iloadN X464.here hx rfl (hb hby at_116) rfl kq)
          have K478 : Go p e below T464 (mkF m 118 #[.val (.int q0), .val (.int q1), .val (.int q2), .val (.int q3), .val (.int (q0 &&& (3 : Int32))), .val (.ref b459), .val (.int (0 : Int32)), .unset, .unset, .unset, .unset] [(.int (1 : Int32)), (.int q2), (.int (q2 &&& (1 : Int32)))]) G := fun tq kq => K477 tq (XS.iconst X464.here hx rfl (hb hby at_117) kq)
          have K479 : Go p e below T464 (mkF m 119 #[.val (.int q0), .val (.int q1), .val (.int q2), .val (.int q3), .val (.int (q0 &&& (3 : Int32))), .val (.ref b459), .val (.int (0 : Int32)), .unset, .unset, .unset, .unset] [(.int ((q2.toUInt32 >>> ((1 : Int32) &&& 31).toUInt32).toInt32)), (.int (q2 &&& (1 : Int32)))]) G := fun tq kq => K478 tq (XS.iushr X464.here hx rfl (hb hby at_118) rfl kq)
          obtain ⟨v480, _, ⟨T480, L480, k480, n480⟩, -, X480, ⟨Lc480, hQ480, l480, y480, z480⟩, st480⟩ := Jvm.LawKit.callS X464 hx (y := (⟨"com/example/ledgerwright/ledgerwright/OptionIsFlagPinLaw", "drawn", "(II)Ljava/lang/String;"⟩ : MethodName)) hown (mvT hZ (hW 0 _ rfl)) (mvT hZ (hW 1 _ rfl)) (mvT hZ (hW 2 _ rfl)) (mvT hZ (hW 3 _ rfl)) (by decide) (backOf (W := 0) (rmDr l Z a0 hw [] (q2 &&& (1 : Int32)) ((q2.toUInt32 >>> ((1 : Int32) &&& 31).toUInt32).toInt32) cz T464.heap n0 (Nat.le_trans (Nat.le_trans (Nat.le_trans (Nat.le_trans (Nat.le_trans Z0 E438.1) (Keep.of_wr W446).1) (Keep.of_wr W456).1) E459.1) K464q.1) (((((O0.ext E438).wr W446 ge_b438).wr W456 ge_b438).ext E459).keep K464q (allS ge_b459 all0)) S_cs hcz) hZ (hW 3 _ rfl) (hW 2 _ rfl) (by decide) (by decide)) (g := (mkF m 119 #[.val (.int q0), .val (.int q1), .val (.int q2), .val (.int q3), .val (.int (q0 &&& (3 : Int32))), .val (.ref b459), .val (.int (0 : Int32)), .unset, .unset, .unset, .unset] [(.int ((q2.toUInt32 >>> ((1 : Int32) &&& 31).toUInt32).toInt32)), (.int (q2 &&& (1 : Int32)))])) rfl (by rw [hml]; rfl) (argsL := [(.int (q2 &&& (1 : Int32))), (.int ((q2.toUInt32 >>> ((1 : Int32) &&& 31).toUInt32).toInt32))]) (rest := []) (lenOf pd_57 rfl) rfl (by show 2 * 0 + _ ≤ _; exact Nat.le_of_eq rfl) (hb hby at_119) (fun _ _ => ⟨rfl, rfl, (by decide : 3 + 3 ≤ _), (by decide : 8 + 6 ≤ _)⟩)
          dsimp only [Pt.U, Pt.locs, Pt.cells, Pt.slots] at X480 l480 y480 z480 st480 hQ480
          subst l480 y480 z480
          obtain ⟨r480, rfl, i480, N480q, K480q⟩ := hQ480
          have N480 := Fr.app N464 N480q
          have K481 : Go p e below T480 (mkF m 122 #[.val (.int q0), .val (.int q1), .val (.int q2), .val (.int q3), .val (.int (q0 &&& (3 : Int32))), .val (.ref b459), .val (.int (0 : Int32)), .unset, .unset, .unset, .unset] [r480]) G := fun tq kq => K479 tq (st480 tq kq)
          have K482 : Go p e below T480 (mkF m 124 #[.val (.int q0), .val (.int q1), .val (.int q2), .val (.int q3), .val (.int (q0 &&& (3 : Int32))), .val (.ref b459), .val (.int (0 : Int32)), .val r480, .unset, .unset, .unset] []) G := fun tq kq => K481 tq (XS.astore X480.here hx rfl (hb hby at_122) rfl i480 (l' := #[.val (.int q0), .val (.int q1), .val (.int q2), .val (.int q3), .val (.int (q0 &&& (3 : Int32))), .val (.ref b459), .val (.int (0 : Int32)), .val r480, .unset, .unset, .unset]) (by rcases ref_cases i480 with q | ⟨_, q⟩ <;> subst q <;> rfl) kq)
          have K483 : Go p e below T480 (mkF m 125 #[.val (.int q0), .val (.int q1), .val (.int q2), .val (.int q3), .val (.int (q0 &&& (3 : Int32))), .val (.ref b459), .val (.int (0 : Int32)), .val r480, .unset, .unset, .unset] [(.int q3)]) G := fun tq kq => K482 tq (XS.iloadN X480.here hx rfl (hb hby at_124) rfl kq)
          have K484 : Go p e below T480 (mkF m 126 #[.val (.int q0), .val (.int q1), .val (.int q2), .val (.int q3), .val (.int (q0 &&& (3 : Int32))), .val (.ref b459), .val (.int (0 : Int32)), .val r480, .unset, .unset, .unset] [(.int (1 : Int32)), (.int q3)]) G := fun tq kq => K483 tq (XS.iconst X480.here hx rfl (hb hby at_125) kq)
          have K485 : Go p e below T480 (mkF m 127 #[.val (.int q0), .val (.int q1), .val (.int q2), .val (.int q3), .val (.int (q0 &&& (3 : Int32))), .val (.ref b459), .val (.int (0 : Int32)), .val r480, .unset, .unset, .unset] [(.int (q3 &&& (1 : Int32)))]) G := fun tq kq => K484 tq (XS.iand X480.here hx rfl (hb hby at_126) rfl kq)
          have K486 : Go p e below T480 (mkF m 128 #[.val (.int q0), .val (.int q1), .val (.int q2), .val (.int q3), .val (.int (q0 &&& (3 : Int32))), .val (.ref b459), .val (.int (0 : Int32)), .val r480, .unset, .unset, .unset] [(.int q3), (.int (q3 &&& (1 : Int32)))]) G := fun tq kq => K485 tq (XS.iloadN X480.here hx rfl (hb hby at_127) rfl kq)
          have K487 : Go p e below T480 (mkF m 129 #[.val (.int q0), .val (.int q1), .val (.int q2), .val (.int q3), .val (.int (q0 &&& (3 : Int32))), .val (.ref b459), .val (.int (0 : Int32)), .val r480, .unset, .unset, .unset] [(.int (1 : Int32)), (.int q3), (.int (q3 &&& (1 : Int32)))]) G := fun tq kq => K486 tq (XS.iconst X480.here hx rfl (hb hby at_128) kq)
          have K488 : Go p e below T480 (mkF m 130 #[.val (.int q0), .val (.int q1), .val (.int q2), .val (.int q3), .val (.int (q0 &&& (3 : Int32))), .val (.ref b459), .val (.int (0 : Int32)), .val r480, .unset, .unset, .unset] [(.int ((q3.toUInt32 >>> ((1 : Int32) &&& 31).toUInt32).toInt32)), (.int (q3 &&& (1 : Int32)))]) G := fun tq kq => K487 tq (XS.iushr X480.here hx rfl (hb hby at_129) rfl kq)
          obtain ⟨v489, _, ⟨T489, L489, k489, n489⟩, -, X489, ⟨Lc489, hQ489, l489, y489, z489⟩, st489⟩ := Jvm.LawKit.callS X480 hx (y := (⟨"com/example/ledgerwright/ledgerwright/OptionIsFlagPinLaw", "drawn", "(II)Ljava/lang/String;"⟩ : MethodName)) hown (mvT hZ (hW 0 _ rfl)) (mvT hZ (hW 1 _ rfl)) (mvT hZ (hW 2 _ rfl)) (mvT hZ (hW 3 _ rfl)) (by decide) (backOf (W := 0) (rmDr l Z a0 hw [] (q3 &&& (1 : Int32)) ((q3.toUInt32 >>> ((1 : Int32) &&& 31).toUInt32).toInt32) cz T480.heap n0 (Nat.le_trans (Nat.le_trans (Nat.le_trans (Nat.le_trans (Nat.le_trans (Nat.le_trans Z0 E438.1) (Keep.of_wr W446).1) (Keep.of_wr W456).1) E459.1) K464q.1) K480q.1) ((((((O0.ext E438).wr W446 ge_b438).wr W456 ge_b438).ext E459).keep K464q (allS ge_b459 all0)).keep K480q all0) S_cs hcz) hZ (hW 3 _ rfl) (hW 2 _ rfl) (by decide) (by decide)) (g := (mkF m 130 #[.val (.int q0), .val (.int q1), .val (.int q2), .val (.int q3), .val (.int (q0 &&& (3 : Int32))), .val (.ref b459), .val (.int (0 : Int32)), .val r480, .unset, .unset, .unset] [(.int ((q3.toUInt32 >>> ((1 : Int32) &&& 31).toUInt32).toInt32)), (.int (q3 &&& (1 : Int32)))])) rfl (by rw [hml]; rfl) (argsL := [(.int (q3 &&& (1 : Int32))), (.int ((q3.toUInt32 >>> ((1 : Int32) &&& 31).toUInt32).toInt32))]) (rest := []) (lenOf pd_57 rfl) rfl (by show 2 * 0 + _ ≤ _; exact Nat.le_of_eq rfl) (hb hby at_130) (fun _ _ => ⟨rfl, rfl, (by decide : 6 + 3 ≤ _), (by decide : 14 + 6 ≤ _)⟩)
          dsimp only [Pt.U, Pt.locs, Pt.cells, Pt.slots] at X489 l489 y489 z489 st489 hQ489
          subst l489 y489 z489
          obtain ⟨r489, rfl, i489, N489q, K489q⟩ := hQ489
          have N489 := Fr.app N480 N489q
          have K490 : Go p e below T489 (mkF m 133 #[.val (.int q0), .val (.int q1), .val (.int q2), .val (.int q3), .val (.int (q0 &&& (3 : Int32))), .val (.ref b459), .val (.int (0 : Int32)), .val r480, .unset, .unset, .unset] [r489]) G := fun tq kq => K488 tq (st489 tq kq)
          have K491 : Go p e below T489 (mkF m 135 #[.val (.int q0), .val (.int q1), .val (.int q2), .val (.int q3), .val (.int (q0 &&& (3 : Int32))), .val (.ref b459), .val (.int (0 : Int32)), .val r480, .val r489, .unset, .unset] []) G := fun tq kq => K490 tq (XS.astore X489.here hx rfl (hb hby at_133) rfl i489 (l' := #[.val (.int q0), .val (.int q1), .val (.int q2), .val (.int q3), .val (.int (q0 &&& (3 : Int32))), .val (.ref b459), .val (.int (0 : Int32)), .val r480, .val r489, .unset, .unset]) (by rcases ref_cases i489 with q | ⟨_, q⟩ <;> subst q <;> rfl) kq)
          have K492 : Go p e below T489 (mkF m 136 #[.val (.int q0), .val (.int q1), .val (.int q2), .val (.int q3), .val (.int (q0 &&& (3 : Int32))), .val (.ref b459), .val (.int (0 : Int32)), .val r480, .val r489, .unset, .unset] [(.int q3)]) G := fun tq kq => K491 tq (XS.iloadN X489.here hx rfl (hb hby at_135) rfl kq)
          have K493 : Go p e below T489 (mkF m 138 #[.val (.int q0), .val (.int q1), .val (.int q2), .val (.int q3), .val (.int (q0 &&& (3 : Int32))), .val (.ref b459), .val (.int (0 : Int32)), .val r480, .val r489, .unset, .unset] [(.int (9 : Int32)), (.int q3)]) G := fun tq kq => K492 tq (XS.bipush X489.here hx rfl (hb hby at_136) kq)
          have K494 : Go p e below T489 (mkF m 139 #[.val (.int q0), .val (.int q1), .val (.int q2), .val (.int q3), .val (.int (q0 &&& (3 : Int32))), .val (.ref b459), .val (.int (0 : Int32)), .val r480, .val r489, .unset, .unset] [(.int ((q3.toUInt32 >>> ((9 : Int32) &&& 31).toUInt32).toInt32))]) G := fun tq kq => K493 tq (XS.iushr X489.here hx rfl (hb hby at_138) rfl kq)
          have K495 : Go p e below T489 (mkF m 140 #[.val (.int q0), .val (.int q1), .val (.int q2), .val (.int q3), .val (.int (q0 &&& (3 : Int32))), .val (.ref b459), .val (.int (0 : Int32)), .val r480, .val r489, .unset, .unset] [(.int (1 : Int32)), (.int ((q3.toUInt32 >>> ((9 : Int32) &&& 31).toUInt32).toInt32))]) G := fun tq kq => K494 tq (XS.iconst X489.here hx rfl (hb hby at_139) kq)
          have K496 : Go p e below T489 (mkF m 141 #[.val (.int q0), .val (.int q1), .val (.int q2), .val (.int q3), .val (.int (q0 &&& (3 : Int32))), .val (.ref b459), .val (.int (0 : Int32)), .val r480, .val r489, .unset, .unset] [(.int (((q3.toUInt32 >>> ((9 : Int32) &&& 31).toUInt32).toInt32) &&& (1 : Int32)))]) G := fun tq kq => K495 tq (XS.iand X489.here hx rfl (hb hby at_140) rfl kq)
          have K497 : Go p e below T489 (mkF m 142 #[.val (.int q0), .val (.int q1), .val (.int q2), .val (.int q3), .val (.int (q0 &&& (3 : Int32))), .val (.ref b459), .val (.int (0 : Int32)), .val r480, .val r489, .unset, .unset] [(.int q3), (.int (((q3.toUInt32 >>> ((9 : Int32) &&& 31).toUInt32).toInt32) &&& (1 : Int32)))]) G := fun tq kq => K496 tq (XS.iloadN X489.here hx rfl (hb hby at_141) rfl kq)
          have K498 : Go p e below T489 (mkF m 144 #[.val (.int q0), .val (.int q1), .val (.int q2), .val (.int q3), .val (.int (q0 &&& (3 : Int32))), .val (.ref b459), .val (.int (0 : Int32)), .val r480, .val r489, .unset, .unset] [(.int (10 : Int32)), (.int q3), (.int (((q3.toUInt32 >>> ((9 : Int32) &&& 31).toUInt32).toInt32) &&& (1 : Int32)))]) G := fun tq kq => K497 tq (XS.bipush X489.here hx rfl (hb hby at_142) kq)
          have K499 : Go p e below T489 (mkF m 145 #[.val (.int q0), .val (.int q1), .val (.int q2), .val (.int q3), .val (.int (q0 &&& (3 : Int32))), .val (.ref b459), .val (.int (0 : Int32)), .val r480, .val r489, .unset, .unset] [(.int ((q3.toUInt32 >>> ((10 : Int32) &&& 31).toUInt32).toInt32)), (.int (((q3.toUInt32 >>> ((9 : Int32) &&& 31).toUInt32).toInt32) &&& (1 : Int32)))]) G := fun tq kq => K498 tq (XS.iushr X489.here hx rfl (hb hby at_144) rfl kq)
          obtain ⟨v500, _, ⟨T500, L500, k500, n500⟩, -, X500, ⟨Lc500, hQ500, l500, y500, z500⟩, st500⟩ := Jvm.LawKit.callS X489 hx (y := (⟨"com/example/ledgerwright/ledgerwright/OptionIsFlagPinLaw", "drawn", "(II)Ljava/lang/String;"⟩ : MethodName)) hown (mvT hZ (hW 0 _ rfl)) (mvT hZ (hW 1 _ rfl)) (mvT hZ (hW 2 _ rfl)) (mvT hZ (hW 3 _ rfl)) (by decide) (backOf (W := 0) (rmDr l Z a0 hw [] (((q3.toUInt32 >>> ((9 : Int32) &&& 31).toUInt32).toInt32) &&& (1 : Int32)) ((q3.toUInt32 >>> ((10 : Int32) &&& 31).toUInt32).toInt32) cz T489.heap n0 (Nat.le_trans (Nat.le_trans (Nat.le_trans (Nat.le_trans (Nat.le_trans (Nat.le_trans (Nat.le_trans Z0 E438.1) (Keep.of_wr W446).1) (Keep.of_wr W456).1) E459.1) K464q.1) K480q.1) K489q.1) (((((((O0.ext E438).wr W446 ge_b438).wr W456 ge_b438).ext E459).keep K464q (allS ge_b459 all0)).keep K480q all0).keep K489q all0) S_cs hcz) hZ (hW 3 _ rfl) (hW 2 _ rfl) (by decide) (by decide)) (g := (mkF m 145 #[.val (.int q0), .val (.int q1), .val (.int q2), .val (.int q3), .val (.int (q0 &&& (3 : Int32))), .val (.ref b459), .val (.int (0 : Int32)), .val r480, .val r489, .unset, .unset] [(.int ((q3.toUInt32 >>> ((10 : Int32) &&& 31).toUInt32).toInt32)), (.int (((q3.toUInt32 >>> ((9 : Int32) &&& 31).toUInt32).toInt32) &&& (1 : Int32)))])) rfl (by rw [hml]; rfl) (argsL := [(.int (((q3.toUInt32 >>> ((9 : Int32) &&& 31).toUInt32).toInt32) &&& (1 : Int32))), (.int ((q3.toUInt32 >>> ((10 : Int32) &&& 31).toUInt32).toInt32))]) (rest := []) (lenOf pd_57 rfl) rfl (by show 2 * 0 + _ ≤ _; exact Nat.le_of_eq rfl) (hb hby at_145) (fun _ _ => ⟨rfl, rfl, (by decide : 9 + 3 ≤ _), (by decide : 20 + 6 ≤ _)⟩)
          dsimp only [Pt.U, Pt.locs, Pt.cells, Pt.slots] at X500 l500 y500 z500 st500 hQ500
          subst l500 y500 z500
          obtain ⟨r500, rfl, i500, N500q, K500q⟩ := hQ500
          have N500 := Fr.app N489 N500q
          have K501 : Go p e below T500 (mkF m 148 #[.val (.int q0), .val (.int q1), .val (.int q2), .val (.int q3), .val (.int (q0 &&& (3 : Int32))), .val (.ref b459), .val (.int (0 : Int32)), .val r480, .val r489, .unset, .unset] [r500]) G := fun tq kq => K499 tq (st500 tq kq)
          have K502 : Go p e below T500 (mkF m 150 #[.val (.int q0), .val (.int q1), .val (.int q2), .val (.int q3), .val (.int (q0 &&& (3 : Int32))), .val (.ref b459), .val (.int (0 : Int32)), .val r480, .val r489, .val r500, .unset] []) G := fun tq kq => K501 tq (XS.astore X500.here hx rfl (hb hby at_148) rfl i500 (l' := #[.val (.int q0), .val (.int q1), .val (.int q2), .val (.int q3), .val (.int (q0 &&& (3 : Int32))), .val (.ref b459), .val (.int (0 : Int32)), .val r480, .val r489, .val r500, .unset]) (by rcases ref_cases i500 with q | ⟨_, q⟩ <;> subst q <;> rfl) kq)
          obtain ⟨T503, h503, X503, e503, E503, A503, D503, -, st503⟩ := newO X500 hx hZ hown (hW 34 _ rfl) (hW 35 _ rfl) (hW 36 _ rfl) rfl (g := (mkF m 150 #[.val (.int q0), .val (.int q1), .val (.int q2), .val (.int q3), .val (.int (q0 &&& (3 : Int32))), .val (.ref b459), .val (.int (0 : Int32)), .val r480, .val r489, .val r500, .unset] [])) rfl (hb hby at_150) (by decide) (by decide)
          obtain ⟨b503, g503⟩ : ∃ z, z = T500.heap.size := ⟨_, rfl⟩
          rw [← g503] at A503 D503 st503
          have ne503_b438 : b438 ≠ b503 := Nat.ne_of_lt (Nat.lt_of_lt_of_le (((((V456.ext E459).keep K464q (ninS ne459_b438 nin0)).keep K480q nin0).keep K489q nin0).keep K500q nin0).lt (Nat.le_of_eq g503.symm))
          have ne503_b459 : b459 ≠ b503 := Nat.ne_of_lt (Nat.lt_of_lt_of_le (((E464q.keep K480q).keep K489q).keep K500q).lt (Nat.le_of_eq g503.symm))
          have ne503_t464 : t464 ≠ b503 := Nat.ne_of_lt (Nat.lt_of_lt_of_le (((VB464q.keep K480q nin0).keep K489q nin0).keep K500q nin0).lt (Nat.le_of_eq g503.symm))
          have ge_b503 : n0 ≤ b503 := Nat.le_trans (Nat.le_trans (Nat.le_trans (Nat.le_trans (Nat.le_trans (Nat.le_trans (Nat.le_trans (Nat.le_trans (Nat.le_trans Z0 E438.1) (Keep.of_wr W446).1) (Keep.of_wr W456).1) E459.1) K464q.1) K480q.1) K489q.1) K500q.1) (Nat.le_of_eq g503.symm)
          have sz_b503 : h0.size ≤ b503 := Nat.le_trans ((((((((((Keep.refl h0 []).ext E438).wr W446 (Or.inr sz_b438)).wr W456 (Or.inr sz_b438)).ext E459).trans K464q (allS (Or.inr sz_b459) all0)).trans K480q all0).trans K489q all0).trans K500q all0)).1 (Nat.le_of_eq g503.symm)
          have F503_name : Fld Z h503 b503 "com/example/ledgerwright/ledgerwright/Option" "name" "Ljava/lang/String;" .null := D503 (Or.inr (hW 47 _ rfl)) (ty := (.object "java/lang/String")) (by decide)
          have F503_valueName : Fld Z h503 b503 "com/example/ledgerwright/ledgerwright/Option" "valueName" "Ljava/lang/String;" .null := D503 (Or.inr (hW 49 _ rfl)) (ty := (.object "java/lang/String")) (by decide)
          have F503_defaultValue : Fld Z h503 b503 "com/example/ledgerwright/ledgerwright/Option" "defaultValue" "Ljava/lang/String;" .null := D503 (Or.inr (hW 51 _ rfl)) (ty := (.object "java/lang/String")) (by decide)
          have F503_required : Fld Z h503 b503 "com/example/ledgerwright/ledgerwright/Option" "required" "Z" (.int (0 : Int32)) := D503 (Or.inr (hW 53 _ rfl)) (ty := .boolean) (by decide)
          have F503_description : Fld Z h503 b503 "com/example/ledgerwright/ledgerwright/Option" "description" "Ljava/lang/String;" .null := D503 (Or.inr (hW 55 _ rfl)) (ty := (.object "java/lang/String")) (by decide)
          have K504 : Go p e below T503 (mkF m 153 #[.val (.int q0), .val (.int q1), .val (.int q2), .val (.int q3), .val (.int (q0 &&& (3 : Int32))), .val (.ref b459), .val (.int (0 : Int32)), .val r480, .val r489, .val r500, .unset] [(.ref b503)]) G := fun tq kq => K502 tq (st503 tq kq)
          have K505 : Go p e below T503 (mkF m 154 #[.val (.int q0), .val (.int q1), .val (.int q2), .val (.int q3), .val (.int (q0 &&& (3 : Int32))), .val (.ref b459), .val (.int (0 : Int32)), .val r480, .val r489, .val r500, .unset] [(.ref b503), (.ref b503)]) G := fun tq kq => K504 tq (XS.dup X503.here hx rfl (hb hby at_153) rfl rfl kq)
          have K506 : Go p e below T503 (mkF m 156 #[.val (.int q0), .val (.int q1), .val (.int q2), .val (.int q3), .val (.int (q0 &&& (3 : Int32))), .val (.ref b459), .val (.int (0 : Int32)), .val r480, .val r489, .val r500, .unset] [r480, (.ref b503), (.ref b503)]) G := fun tq kq => K505 tq (XS.aload X503.here hx rfl (hb hby at_154) rfl i480 kq)
          have K507 : Go p e below T503 (mkF m 158 #[.val (.int q0), .val (.int q1), .val (.int q2), .val (.int q3), .val (.int (q0 &&& (3 : Int32))), .val (.ref b459), .val (.int (0 : Int32)), .val r480, .val r489, .val r500, .unset] [(.ref b459), r480, (.ref b503), (.ref b503)]) G := fun tq kq => K506 tq (XS.aload X503.here hx rfl (hb hby at_156) rfl rfl kq)
          have K508 : Go p e below T503 (mkF m 160 #[.val (.int q0), .val (.int q1), .val (.int q2), .val (.int q3), .val (.int (q0 &&& (3 : Int32))), .val (.ref b459), .val (.int (0 : Int32)), .val r480, .val r489, .val r500, .unset] [r489, (.ref b459), r480, (.ref b503), (.ref b503)]) G := fun tq kq => K507 tq (XS.aload X503.here hx rfl (hb hby at_158) rfl i489 kq)
          have K509 : Go p e below T503 (mkF m 162 #[.val (.int q0), .val (.int q1), .val (.int q2), .val (.int q3), .val (.int (q0 &&& (3 : Int32))), .val (.ref b459), .val (.int (0 : Int32)), .val r480, .val r489, .val r500, .unset] [(.int (0 : Int32)), r489, (.ref b459), r480, (.ref b503), (.ref b503)]) G := fun tq kq => K508 tq (XS.iload X503.here hx rfl (hb hby at_160) rfl kq)
          have K510 : Go p e below T503 (mkF m 164 #[.val (.int q0), .val (.int q1), .val (.int q2), .val (.int q3), .val (.int (q0 &&& (3 : Int32))), .val (.ref b459), .val (.int (0 : Int32)), .val r480, .val r489, .val r500, .unset] [r500, (.int (0 : Int32)), r489, (.ref b459), r480, (.ref b503), (.ref b503)]) G := fun tq kq => K509 tq (XS.aload X503.here hx rfl (hb hby at_162) rfl i500 kq)
          obtain ⟨v511, _, ⟨T511, L511, k511, n511⟩, -, X511, ⟨Lc511, hQ511, l511, y511, z511⟩, st511⟩ := X503.specialBack hx (y := (⟨"com/example/ledgerwright/ledgerwright/Option", "<init>", "(Ljava/lang/String;Ljava/lang/String;Ljava/lang/String;ZLjava/lang/String;)V"⟩ : MethodName)) rfl hown (mvT hZ (hW 37 _ rfl)) (mvT hZ (hW 38 _ rfl)) (mvT hZ (hW 39 _ rfl)) (by decide) (backOf (W := 1) (rmIni l Z a0 hw [] b503 r480 (.ref b459) r489 (0 : Int32) r500 h503 n0 (Nat.le_trans (Nat.le_trans (Nat.le_trans (Nat.le_trans (Nat.le_trans (Nat.le_trans (Nat.le_trans (Nat.le_trans (Nat.le_trans Z0 E438.1) (Keep.of_wr W446).1) (Keep.of_wr W456).1) E459.1) K464q.1) K480q.1) K489q.1) K500q.1) E503.1) F503_name F503_valueName F503_defaultValue F503_required F503_description A503 ge_b503 i480 rfl i489 i500) hZ (hW 39 _ rfl) (hW 36 _ rfl) (by decide) (by decide)) (g := (mkF m 164 #[.val (.int q0), .val (.int q1), .val (.int q2), .val (.int q3), .val (.int (q0 &&& (3 : Int32))), .val (.ref b459), .val (.int (0 : Int32)), .val r480, .val r489, .val r500, .unset] [r500, (.int (0 : Int32)), r489, (.ref b459), r480, (.ref b503), (.ref b503)])) rfl (by rw [hml]; rfl) (Steps.refl _) (a := b503) (argsL := [r480, (.ref b459), r489, (.int (0 : Int32)), r500]) (rest := [(.ref b503)]) (lenOf pd_58 rfl) rfl (by show 2 * 0 + _ ≤ _; exact Nat.le_of_eq rfl) (hb hby at_164) (fun _ _ => ⟨rfl, e503, (by decide : 13 + 0 ≤ _), (by decide : 31 + 0 ≤ _)⟩)
          dsimp only [Pt.U, Pt.locs, Pt.cells, Pt.slots] at X511 l511 y511 z511 st511 hQ511
          subst l511 y511 z511
          obtain ⟨rfl, N511q, K511q, E511q, F511q_valueName⟩ := hQ511
          have N511 := Fr.app N500 N511q
          have K512 : Go p e below T511 (mkF m 167 #[.val (.int q0), .val (.int q1), .val (.int q2), .val (.int q3), .val (.int (q0 &&& (3 : Int32))), .val (.ref b459), .val (.int (0 : Int32)), .val r480, .val r489, .val r500, .unset] [(.ref b503)]) G := fun tq kq => K510 tq (st511.trans kq)
          have K513 : Go p e below T511 (mkF m 169 #[.val (.int q0), .val (.int q1), .val (.int q2), .val (.int q3), .val (.int (q0 &&& (3 : Int32))), .val (.ref b459), .val (.int (0 : Int32)), .val r480, .val r489, .val r500, .val (.ref b503)] []) G := fun tq kq => K512 tq (XS.astore X511.here hx rfl (hb hby at_167) rfl rfl (l' := #[.val (.int q0), .val (.int q1), .val (.int q2), .val (.int q3), .val (.int (q0 &&& (3 : Int32))), .val (.ref b459), .val (.int (0 : Int32)), .val r480, .val r489, .val r500, .val (.ref b503)]) rfl kq)
          have K514 : Go p e below T511 (mkF m 171 #[.val (.int q0), .val (.int q1), .val (.int q2), .val (.int q3), .val (.int (q0 &&& (3 : Int32))), .val (.ref b459), .val (.int (0 : Int32)), .val r480, .val r489, .val r500, .val (.ref b503)] [(.ref b503)]) G := fun tq kq => K513 tq (XS.aload X511.here hx rfl (hb hby at_169) rfl rfl kq)
          obtain ⟨cq515, kq515, q515a, q515b, q515c⟩ := isOf hZ rfl E511q
          obtain ⟨v515, _, ⟨T515, L515, k515, n515⟩, -, X515, ⟨Lc515, hQ515, l515, y515, z515⟩, st515⟩ := X511.virtualBack hx (y := (⟨"com/example/ledgerwright/ledgerwright/Option", "isFlag", "()Z"⟩ : MethodName)) (z := (⟨"com/example/ledgerwright/ledgerwright/Option", "isFlag", "()Z"⟩ : MethodName)) hown (mvT hZ (hW 56 _ rfl)) (mvT hZ (hW 57 _ rfl)) (notFace_of_selects (args := #[]) (mvT hZ (hW 59 _ rfl))) (mvT hZ (hW 59 _ rfl)) (mvT hZ (hW 58 _ rfl)) (by decide) (backOf (W := 0) (rmFR l Z a0 hw [] b503 b459 T511.heap n0 (Nat.le_trans (Nat.le_trans (Nat.le_trans (Nat.le_trans (Nat.le_trans (Nat.le_trans (Nat.le_trans (Nat.le_trans (Nat.le_trans (Nat.le_trans Z0 E438.1) (Keep.of_wr W446).1) (Keep.of_wr W456).1) E459.1) K464q.1) K480q.1) K489q.1) K500q.1) E503.1) K511q.1) F511q_valueName) hZ (hW 60 _ rfl) (hW 36 _ rfl) (by decide) (by decide)) q515a q515c (g := (mkF m 171 #[.val (.int q0), .val (.int q1), .val (.int q2), .val (.int q3), .val (.int (q0 &&& (3 : Int32))), .val (.ref b459), .val (.int (0 : Int32)), .val r480, .val r489, .val r500, .val (.ref b503)] [(.ref b503)])) rfl (by rw [hml]; rfl) (Steps.refl _) (argsL := []) (rest := []) (lenOf pd_59 rfl) rfl (by show 2 * 0 + _ ≤ _; exact Nat.le_of_eq rfl) (hb hby at_171) (fun _ _ => ⟨rfl, rfl, (by decide : 13 + 0 ≤ _), (by decide : 31 + 0 ≤ _)⟩)
          dsimp only [Pt.U, Pt.locs, Pt.cells, Pt.slots] at X515 l515 y515 z515 st515 hQ515
          subst l515 y515 z515
          obtain ⟨rfl, N515q, E515q⟩ := hQ515
          have N515 := Fr.app N511 N515q
          have K516 : Go p e below T515 (mkF m 174 #[.val (.int q0), .val (.int q1), .val (.int q2), .val (.int q3), .val (.int (q0 &&& (3 : Int32))), .val (.ref b459), .val (.int (0 : Int32)), .val r480, .val r489, .val r500, .val (.ref b503)] [(.int (0 : Int32))]) G := fun tq kq => K514 tq (st515.trans kq)
          have K517 : Go p e below T515 (mkF m 176 #[.val (.int q0), .val (.int q1), .val (.int q2), .val (.int q3), .val (.int (q0 &&& (3 : Int32))), .val (.ref b459), .val (.int (0 : Int32)), .val r480, .val r489, .val r500, .val (.ref b503)] [(.int (q0 &&& (3 : Int32))), (.int (0 : Int32))]) G := fun tq kq => K516 tq (XS.iload X515.here hx rfl (hb hby at_174) rfl kq)
          have K518 : Go p e below T515 (mkF m 183 #[.val (.int q0), .val (.int q1), .val (.int q2), .val (.int q3), .val (.int (q0 &&& (3 : Int32))), .val (.ref b459), .val (.int (0 : Int32)), .val r480, .val r489, .val r500, .val (.ref b503)] [(.int (0 : Int32))]) G := fun tq kq => K517 tq (XS.ifYes X515.here hx rfl (pc0 := 176) (pc' := 183) rfl (hb hby at_176) rfl ((if0 _ _).trans (feq hc67).2) (by decide) (by decide) kq)
          have K519 : Go p e below T515 (mkF m 184 #[.val (.int q0), .val (.int q1), .val (.int q2), .val (.int q3), .val (.int (q0 &&& (3 : Int32))), .val (.ref b459), .val (.int (0 : Int32)), .val r480, .val r489, .val r500, .val (.ref b503)] [(.int (0 : Int32)), (.int (0 : Int32))]) G := fun tq kq => K518 tq (XS.iconst X515.here hx rfl (hb hby at_183) kq)
          have K520 : Go p e below T515 (mkF m 187 #[.val (.int q0), .val (.int q1), .val (.int q2), .val (.int q3), .val (.int (q0 &&& (3 : Int32))), .val (.ref b459), .val (.int (0 : Int32)), .val r480, .val r489, .val r500, .val (.ref b503)] []) G := fun tq kq => K519 tq (XS.icmpNo X515.here hx rfl (hb hby at_184) rfl ((teq (by decide : (0 : Int32) = (0 : Int32))).2) kq)
          have K521 : Go p e below T515 (mkF m 188 #[.val (.int q0), .val (.int q1), .val (.int q2), .val (.int q3), .val (.int (q0 &&& (3 : Int32))), .val (.ref b459), .val (.int (0 : Int32)), .val r480, .val r489, .val r500, .val (.ref b503)] [(.int (1 : Int32))]) G := fun tq kq => K520 tq (XS.iconst X515.here hx rfl (hb hby at_187) kq)
          have K522 : Go p e below T515 (mkF m 192 #[.val (.int q0), .val (.int q1), .val (.int q2), .val (.int q3), .val (.int (q0 &&& (3 : Int32))), .val (.ref b459), .val (.int (0 : Int32)), .val r480, .val r489, .val r500, .val (.ref b503)] [(.int (1 : Int32))]) G := fun tq kq => K521 tq (XS.goto X515.here hx rfl (pc0 := 188) (pc' := 192) rfl (hb hby at_188) (by decide) (by decide) kq)
          obtain ⟨fs, hr, hrun, hended, hWW, hsame⟩ := X515.leave (v := some (.int (1 : Int32))) (fun h => by rw [Bd.returns] at h; cases h)
          refine ⟨_, _, hG _ (K522 _ (retN X515 hx (t := .boolean) Bd.returns (by simp) (hb hby at_192) hr)), hrun, hended, _, _, rfl, ?_, wide ⟨⟨_, rfl⟩, hWW, hsame.mono (by decide) (by decide)⟩⟩
          show Q0 Z q0 q1 q2 q3 cz h0 n0 _ T515.heap _
          rw [E515q]
          exact ⟨rfl, N515⟩
        · skip
          have K523 : Go p e below T464 (mkF m 106 #[.val (.int q0), .val (.int q1), .val (.int q2), .val (.int q3), .val (.int (q0 &&& (3 : Int32))), .val (.ref b459), .val (.ref b438), .unset, .unset, .unset, .unset] []) G := fun tq kq => K469 tq (XS.ifNo X464.here hx rfl (hb hby at_103) rfl ((if0 _ _).trans (feq hc470).1) kq)
          have K524 : Go p e below T464 (mkF m 107 #[.val (.int q0), .val (.int q1), .val (.int q2), .val (.int q3), .val (.int (q0 &&& (3 : Int32))), .val (.ref b459), .val (.ref b438), .unset, .unset, .unset, .unset] [(.int (1 : Int32))]) G := fun tq kq => K523 tq (XS.iconst X464.here hx rfl (hb hby at_106) kq)
          have K525 : Go p e below T464 (mkF m 111 #[.val (.int q0), .val (.int q1), .val (.int q2), .val (.int q3), .val (.int (q0 &&& (3 : Int32))), .val (.ref b459), .val (.ref b438), .unset, .unset, .unset, .unset] [(.int (1 : Int32))]) G := fun tq kq => K524 tq (XS.goto X464.here hx rfl (pc0 := 107) (pc' := 111) rfl (hb hby at_107) (by decide) (by decide) kq)
          have K526 : Go p e below T464 (mkF m 113 #[.val (.int q0), .val (.int q1), .val (.int q2), .val (.int q3), .val (.int (q0 &&& (3 : Int32))), .val (.ref b459), .val (.int (1 : Int32)), .unset, .unset, .unset, .unset] []) G := fun tq kq => K525 tq (XS.istore X464.here hx rfl (hb hby at_111) rfl (l' := #[.val (.int q0), .val (.int q1), .val (.int q2), .val (.int q3), .val (.int (q0 &&& (3 : Int32))), .val (.ref b459), .val (.int (1 : Int32)), .unset, .unset, .unset, .unset]) rfl kq)
          have K527 : Go p e below T464 (mkF m 114 #[.val (.int q0), .val (.int q1), .val (.int q2), .val (.int q3), .val (.int (q0 &&& (3 : Int32))), .val (.ref b459), .val (.int (1 : Int32)), .unset, .unset, .unset, .unset] [(.int q2)]) G := fun tq kq => K526 tq (XS.iloadN X464.here hx rfl (hb hby at_113) rfl kq)
          have K528 : Go p e below T464 (mkF m 115 #[.val (.int q0), .val (.int q1), .val (.int q2), .val (.int q3), .val (.int (q0 &&& (3 : Int32))), .val (.ref b459), .val (.int (1 : Int32)), .unset, .unset, .unset, .unset] [(.int (1 : Int32)), (.int q2)]) G := fun tq kq => K527 tq (XS.iconst X464.here hx rfl (hb hby at_114) kq)
          have K529 : Go p e below T464 (mkF m 116 #[.val (.int q0), .val (.int q1), .val (.int q2), .val (.int q3), .val (.int (q0 &&& (3 : Int32))), .val (.ref b459), .val (.int (1 : Int32)), .unset, .unset, .unset, .unset] [(.int (q2 &&& (1 : Int32)))]) G := fun tq kq => K528 tq (XS.iand X464.here hx rfl (hb hby at_115) rfl kq)
          have K530 : Go p e below T464 (mkF m 117 #[.val (.int q0), .val (.int q1), .val (.int q2), .val (.int q3), .val (.int (q0 &&& (3 : Int32))), .val (.ref b459), .val (.int (1 : Int32)), .unset, .unset, .unset, .unset] [(.int q2), (.int (q2 &&& (1 : Int32)))]) G := fun tq kq => K529 tq (XS.iloadN X464.here hx rfl (hb hby at_116) rfl kq)
          have K531 : Go p e below T464 (mkF m 118 #[.val (.int q0), .val (.int q1), .val (.int q2), .val (.int q3), .val (.int (q0 &&& (3 : Int32))), .val (.ref b459), .val (.int (1 : Int32)), .unset, .unset, .unset, .unset] [(.int (1 : Int32)), (.int q2), (.int (q2 &&& (1 : Int32)))]) G := fun tq kq => K530 tq (XS.iconst X464.here hx rfl (hb hby at_117) kq)
          have K532 : Go p e below T464 (mkF m 119 #[.val (.int q0), .val (.int q1), .val (.int q2), .val (.int q3), .val (.int (q0 &&& (3 : Int32))), .val (.ref b459), .val (.int (1 : Int32)), .unset, .unset, .unset, .unset] [(.int ((q2.toUInt32 >>> ((1 : Int32) &&& 31).toUInt32).toInt32)), (.int (q2 &&& (1 : Int32)))]) G := fun tq kq => K531 tq (XS.iushr X464.here hx rfl (hb hby at_118) rfl kq)
          obtain ⟨v533, _, ⟨T533, L533, k533, n533⟩, -, X533, ⟨Lc533, hQ533, l533, y533, z533⟩, st533⟩ := Jvm.LawKit.callS X464 hx (y := (⟨"com/example/ledgerwright/ledgerwright/OptionIsFlagPinLaw", "drawn", "(II)Ljava/lang/String;"⟩ : MethodName)) hown (mvT hZ (hW 0 _ rfl)) (mvT hZ (hW 1 _ rfl)) (mvT hZ (hW 2 _ rfl)) (mvT hZ (hW 3 _ rfl)) (by decide) (backOf (W := 0) (rmDr l Z a0 hw [] (q2 &&& (1 : Int32)) ((q2.toUInt32 >>> ((1 : Int32) &&& 31).toUInt32).toInt32) cz T464.heap n0 (Nat.le_trans (Nat.le_trans (Nat.le_trans (Nat.le_trans (Nat.le_trans Z0 E438.1) (Keep.of_wr W446).1) (Keep.of_wr W456).1) E459.1) K464q.1) (((((O0.ext E438).wr W446 ge_b438).wr W456 ge_b438).ext E459).keep K464q (allS ge_b459 all0)) S_cs hcz) hZ (hW 3 _ rfl) (hW 2 _ rfl) (by decide) (by decide)) (g := (mkF m 119 #[.val (.int q0), .val (.int q1), .val (.int q2), .val (.int q3), .val (.int (q0 &&& (3 : Int32))), .val (.ref b459), .val (.int (1 : Int32)), .unset, .unset, .unset, .unset] [(.int ((q2.toUInt32 >>> ((1 : Int32) &&& 31).toUInt32).toInt32)), (.int (q2 &&& (1 : Int32)))])) rfl (by rw [hml]; rfl) (argsL := [(.int (q2 &&& (1 : Int32))), (.int ((q2.toUInt32 >>> ((1 : Int32) &&& 31).toUInt32).toInt32))]) (rest := []) (lenOf pd_57 rfl) rfl (by show 2 * 0 + _ ≤ _; exact Nat.le_of_eq rfl) (hb hby at_119) (fun _ _ => ⟨rfl, rfl, (by decide : 3 + 3 ≤ _), (by decide : 8 + 6 ≤ _)⟩)
          dsimp only [Pt.U, Pt.locs, Pt.cells, Pt.slots] at X533 l533 y533 z533 st533 hQ533
          subst l533 y533 z533
          obtain ⟨r533, rfl, i533, N533q, K533q⟩ := hQ533
          have N533 := Fr.app N464 N533q
          have K534 : Go p e below T533 (mkF m 122 #[.val (.int q0), .val (.int q1), .val (.int q2), .val (.int q3), .val (.int (q0 &&& (3 : Int32))), .val (.ref b459), .val (.int (1 : Int32)), .unset, .unset, .unset, .unset] [r533]) G := fun tq kq => K532 tq (st533 tq kq)
          have K535 : Go p e below T533 (mkF m 124 #[.val (.int q0), .val (.int q1), .val (.int q2), .val (.int q3), .val (.int (q0 &&& (3 : Int32))), .val (.ref b459), .val (.int (1 : Int32)), .val r533, .unset, .unset, .unset] []) G := fun tq kq => K534 tq (XS.astore X533.here hx rfl (hb hby at_122) rfl i533 (l' := #[.val (.int q0), .val (.int q1), .val (.int q2), .val (.int q3), .val (.int (q0 &&& (3 : Int32))), .val (.ref b459), .val (.int (1 : Int32)), .val r533, .unset, .unset, .unset]) (by rcases ref_cases i533 with q | ⟨_, q⟩ <;> subst q <;> rfl) kq)
          have K536 : Go p e below T533 (mkF m 125 #[.val (.int q0), .val (.int q1), .val (.int q2), .val (.int q3), .val (.int (q0 &&& (3 : Int32))), .val (.ref b459), .val (.int (1 : Int32)), .val r533, .unset, .unset, .unset] [(.int q3)]) G := fun tq kq => K535 tq (XS.iloadN X533.here hx rfl (hb hby at_124) rfl kq)
          have K537 : Go p e below T533 (mkF m 126 #[.val (.int q0), .val (.int q1), .val (.int q2), .val (.int q3), .val (.int (q0 &&& (3 : Int32))), .val (.ref b459), .val (.int (1 : Int32)), .val r533, .unset, .unset, .unset] [(.int (1 : Int32)), (.int q3)]) G := fun tq kq => K536 tq (XS.iconst X533.here hx rfl (hb hby at_125) kq)
          have K538 : Go p e below T533 (mkF m 127 #[.val (.int q0), .val (.int q1), .val (.int q2), .val (.int q3), .val (.int (q0 &&& (3 : Int32))), .val (.ref b459), .val (.int (1 : Int32)), .val r533, .unset, .unset, .unset] [(.int (q3 &&& (1 : Int32)))]) G := fun tq kq => K537 tq (XS.iand X533.here hx rfl (hb hby at_126) rfl kq)
          have K539 : Go p e below T533 (mkF m 128 #[.val (.int q0), .val (.int q1), .val (.int q2), .val (.int q3), .val (.int (q0 &&& (3 : Int32))), .val (.ref b459), .val (.int (1 : Int32)), .val r533, .unset, .unset, .unset] [(.int q3), (.int (q3 &&& (1 : Int32)))]) G := fun tq kq => K538 tq (XS.iloadN X533.here hx rfl (hb hby at_127) rfl kq)
          have K540 : Go p e below T533 (mkF m 129 #[.val (.int q0), .val (.int q1), .val (.int q2), .val (.int q3), .val (.int (q0 &&& (3 : Int32))), .val (.ref b459), .val (.int (1 : Int32)), .val r533, .unset, .unset, .unset] [(.int (1 : Int32)), (.int q3), (.int (q3 &&& (1 : Int32)))]) G := fun tq kq => K539 tq (XS.iconst X533.here hx rfl (hb hby at_128) kq)
          have K541 : Go p e below T533 (mkF m 130 #[.val (.int q0), .val (.int q1), .val (.int q2), .val (.int q3), .val (.int (q0 &&& (3 : Int32))), .val (.ref b459), .val (.int (1 : Int32)), .val r533, .unset, .unset, .unset] [(.int ((q3.toUInt32 >>> ((1 : Int32) &&& 31).toUInt32).toInt32)), (.int (q3 &&& (1 : Int32)))]) G := fun tq kq => K540 tq (XS.iushr X533.here hx rfl (hb hby at_129) rfl kq)
          obtain ⟨v542, _, ⟨T542, L542, k542, n542⟩, -, X542, ⟨Lc542, hQ542, l542, y542, z542⟩, st542⟩ := Jvm.LawKit.callS X533 hx (y := (⟨"com/example/ledgerwright/ledgerwright/OptionIsFlagPinLaw", "drawn", "(II)Ljava/lang/String;"⟩ : MethodName)) hown (mvT hZ (hW 0 _ rfl)) (mvT hZ (hW 1 _ rfl)) (mvT hZ (hW 2 _ rfl)) (mvT hZ (hW 3 _ rfl)) (by decide) (backOf (W := 0) (rmDr l Z a0 hw [] (q3 &&& (1 : Int32)) ((q3.toUInt32 >>> ((1 : Int32) &&& 31).toUInt32).toInt32) cz T533.heap n0 (Nat.le_trans (Nat.le_trans (Nat.le_trans (Nat.le_trans (Nat.le_trans (Nat.le_trans Z0 E438.1) (Keep.of_wr W446).1) (Keep.of_wr W456).1) E459.1) K464q.1) K533q.1) ((((((O0.ext E438).wr W446 ge_b438).wr W456 ge_b438).ext E459).keep K464q (allS ge_b459 all0)).keep K533q all0) S_cs hcz) hZ (hW 3 _ rfl) (hW 2 _ rfl) (by decide) (by decide)) (g := (mkF m 130 #[.val (.int q0), .val (.int q1), .val (.int q2), .val (.int q3), .val (.int (q0 &&& (3 : Int32))), .val (.ref b459), .val (.int (1 : Int32)), .val r533, .unset, .unset, .unset] [(.int ((q3.toUInt32 >>> ((1 : Int32) &&& 31).toUInt32).toInt32)), (.int (q3 &&& (1 : Int32)))])) rfl (by rw [hml]; rfl) (argsL := [(.int (q3 &&& (1 : Int32))), (.int ((q3.toUInt32 >>> ((1 : Int32) &&& 31).toUInt32).toInt32))]) (rest := []) (lenOf pd_57 rfl) rfl (by show 2 * 0 + _ ≤ _; exact Nat.le_of_eq rfl) (hb hby at_130) (fun _ _ => ⟨rfl, rfl, (by decide : 6 + 3 ≤ _), (by decide : 14 + 6 ≤ _)⟩)
          dsimp only [Pt.U, Pt.locs, Pt.cells, Pt.slots] at X542 l542 y542 z542 st542 hQ542
          subst l542 y542 z542
          obtain ⟨r542, rfl, i542, N542q, K542q⟩ := hQ542
          have N542 := Fr.app N533 N542q
          have K543 : Go p e below T542 (mkF m 133 #[.val (.int q0), .val (.int q1), .val (.int q2), .val (.int q3), .val (.int (q0 &&& (3 : Int32))), .val (.ref b459), .val (.int (1 : Int32)), .val r533, .unset, .unset, .unset] [r542]) G := fun tq kq => K541 tq (st542 tq kq)
          have K544 : Go p e below T542 (mkF m 135 #[.val (.int q0), .val (.int q1), .val (.int q2), .val (.int q3), .val (.int (q0 &&& (3 : Int32))), .val (.ref b459), .val (.int (1 : Int32)), .val r533, .val r542, .unset, .unset] []) G := fun tq kq => K543 tq (XS.astore X542.here hx rfl (hb hby at_133) rfl i542 (l' := #[.val (.int q0), .val (.int q1), .val (.int q2), .val (.int q3), .val (.int (q0 &&& (3 : Int32))), .val (.ref b459), .val (.int (1 : Int32)), .val r533, .val r542, .unset, .unset]) (by rcases ref_cases i542 with q | ⟨_, q⟩ <;> subst q <;> rfl) kq)
          have K545 : Go p e below T542 (mkF m 136 #[.val (.int q0), .val (.int q1), .val (.int q2), .val (.int q3), .val (.int (q0 &&& (3 : Int32))), .val (.ref b459), .val (.int (1 : Int32)), .val r533, .val r542, .unset, .unset] [(.int q3)]) G := fun tq kq => K544 tq (XS.iloadN X542.here hx rfl (hb hby at_135) rfl kq)
          have K546 : Go p e below T542 (mkF m 138 #[.val (.int q0), .val (.int q1), .val (.int q2), .val (.int q3), .val (.int (q0 &&& (3 : Int32))), .val (.ref b459), .val (.int (1 : Int32)), .val r533, .val r542, .unset, .unset] [(.int (9 : Int32)), (.int q3)]) G := fun tq kq => K545 tq (XS.bipush X542.here hx rfl (hb hby at_136) kq)
          have K547 : Go p e below T542 (mkF m 139 #[.val (.int q0), .val (.int q1), .val (.int q2), .val (.int q3), .val (.int (q0 &&& (3 : Int32))), .val (.ref b459), .val (.int (1 : Int32)), .val r533, .val r542, .unset, .unset] [(.int ((q3.toUInt32 >>> ((9 : Int32) &&& 31).toUInt32).toInt32))]) G := fun tq kq => K546 tq (XS.iushr X542.here hx rfl (hb hby at_138) rfl kq)
          have K548 : Go p e below T542 (mkF m 140 #[.val (.int q0), .val (.int q1), .val (.int q2), .val (.int q3), .val (.int (q0 &&& (3 : Int32))), .val (.ref b459), .val (.int (1 : Int32)), .val r533, .val r542, .unset, .unset] [(.int (1 : Int32)), (.int ((q3.toUInt32 >>> ((9 : Int32) &&& 31).toUInt32).toInt32))]) G := fun tq kq => K547 tq (XS.iconst X542.here hx rfl (hb hby at_139) kq)
          have K549 : Go p e below T542 (mkF m 141 #[.val (.int q0), .val (.int q1), .val (.int q2), .val (.int q3), .val (.int (q0 &&& (3 : Int32))), .val (.ref b459), .val (.int (1 : Int32)), .val r533, .val r542, .unset, .unset] [(.int (((q3.toUInt32 >>> ((9 : Int32) &&& 31).toUInt32).toInt32) &&& (1 : Int32)))]) G := fun tq kq => K548 tq (XS.iand X542.here hx rfl (hb hby at_140) rfl kq)
          have K550 : Go p e below T542 (mkF m 142 #[.val (.int q0), .val (.int q1), .val (.int q2), .val (.int q3), .val (.int (q0 &&& (3 : Int32))), .val (.ref b459), .val (.int (1 : Int32)), .val r533, .val r542, .unset, .unset] [(.int q3), (.int (((q3.toUInt32 >>> ((9 : Int32) &&& 31).toUInt32).toInt32) &&& (1 : Int32)))]) G := fun tq kq => K549 tq (XS.iloadN X542.here hx rfl (hb hby at_141) rfl kq)
          have K551 : Go p e below T542 (mkF m 144 #[.val (.int q0), .val (.int q1), .val (.int q2), .val (.int q3), .val (.int (q0 &&& (3 : Int32))), .val (.ref b459), .val (.int (1 : Int32)), .val r533, .val r542, .unset, .unset] [(.int (10 : Int32)), (.int q3), (.int (((q3.toUInt32 >>> ((9 : Int32) &&& 31).toUInt32).toInt32) &&& (1 : Int32)))]) G := fun tq kq => K550 tq (XS.bipush X542.here hx rfl (hb hby at_142) kq)
          have K552 : Go p e below T542 (mkF m 145 #[.val (.int q0), .val (.int q1), .val (.int q2), .val (.int q3), .val (.int (q0 &&& (3 : Int32))), .val (.ref b459), .val (.int (1 : Int32)), .val r533, .val r542, .unset, .unset] [(.int ((q3.toUInt32 >>> ((10 : Int32) &&& 31).toUInt32).toInt32)), (.int (((q3.toUInt32 >>> ((9 : Int32) &&& 31).toUInt32).toInt32) &&& (1 : Int32)))]) G := fun tq kq => K551 tq (XS.iushr X542.here hx rfl (hb hby at_144) rfl kq)
          obtain ⟨v553, _, ⟨T553, L553, k553, n553⟩, -, X553, ⟨Lc553, hQ553, l553, y553, z553⟩, st553⟩ := Jvm.LawKit.callS X542 hx (y := (⟨"com/example/ledgerwright/ledgerwright/OptionIsFlagPinLaw", "drawn", "(II)Ljava/lang/String;"⟩ : MethodName)) hown (mvT hZ (hW 0 _ rfl)) (mvT hZ (hW 1 _ rfl)) (mvT hZ (hW 2 _ rfl)) (mvT hZ (hW 3 _ rfl)) (by decide) (backOf (W := 0) (rmDr l Z a0 hw [] (((q3.toUInt32 >>> ((9 : Int32) &&& 31).toUInt32).toInt32) &&& (1 : Int32)) ((q3.toUInt32 >>> ((10 : Int32) &&& 31).toUInt32).toInt32) cz T542.heap n0 (Nat.le_trans (Nat.le_trans (Nat.le_trans (Nat.le_trans (Nat.le_trans (Nat.le_trans (Nat.le_trans Z0 E438.1) (Keep.of_wr W446).1) (Keep.of_wr W456).1) E459.1) K464q.1) K533q.1) K542q.1) (((((((O0.ext E438).wr W446 ge_b438).wr W456 ge_b438).ext E459).keep K464q (allS ge_b459 all0)).keep K533q all0).keep K542q all0) S_cs hcz) hZ (hW 3 _ rfl) (hW 2 _ rfl) (by decide) (by decide)) (g := (mkF m 145 #[.val (.int q0), .val (.int q1), .val (.int q2), .val (.int q3), .val (.int (q0 &&& (3 : Int32))), .val (.ref b459), .val (.int (1 : Int32)), .val r533, .val r542, .unset, .unset] [(.int ((q3.toUInt32 >>> ((10 : Int32) &&& 31).toUInt32).toInt32)), (.int (((q3.toUInt32 >>> ((9 : Int32) &&& 31).toUInt32).toInt32) &&& (1 : Int32)))])) rfl (by rw [hml]; rfl) (argsL := [(.int (((q3.toUInt32 >>> ((9 : Int32) &&& 31).toUInt32).toInt32) &&& (1 : Int32))), (.int ((q3.toUInt32 >>> ((10 : Int32) &&& 31).toUInt32).toInt32))]) (rest := []) (lenOf pd_57 rfl) rfl (by show 2 * 0 + _ ≤ _; exact Nat.le_of_eq rfl) (hb hby at_145) (fun _ _ => ⟨rfl, rfl, (by decide : 9 + 3 ≤ _), (by decide : 20 + 6 ≤ _)⟩)
          dsimp only [Pt.U, Pt.locs, Pt.cells, Pt.slots] at X553 l553 y553 z553 st553 hQ553
          subst l553 y553 z553
          obtain ⟨r553, rfl, i553, N553q, K553q⟩ := hQ553
          have N553 := Fr.app N542 N553q
          have K554 : Go p e below T553 (mkF m 148 #[.val (.int q0), .val (.int q1), .val (.int q2), .val (.int q3), .val (.int (q0 &&& (3 : Int32))), .val (.ref b459), .val (.int (1 : Int32)), .val r533, .val r542, .unset, .unset] [r553]) G := fun tq kq => K552 tq (st553 tq kq)
          have K555 : Go p e below T553 (mkF m 150 #[.val (.int q0), .val (.int q1), .val (.int q2), .val (.int q3), .val (.int (q0 &&& (3 : Int32))), .val (.ref b459), .val (.int (1 : Int32)), .val r533, .val r542, .val r553, .unset] []) G := fun tq kq => K554 tq (XS.astore X553.here hx rfl (hb hby at_148) rfl i553 (l' := #[.val (.int q0), .val (.int q1), .val (.int q2), .val (.int q3), .val (.int (q0 &&& (3 : Int32))), .val (.ref b459), .val (.int (1 : Int32)), .val r533, .val r542, .val r553, .unset]) (by rcases ref_cases i553 with q | ⟨_, q⟩ <;> subst q <;> rfl) kq)
          obtain ⟨T556, h556, X556, e556, E556, A556, D556, -, st556⟩ := newO X553 hx hZ hown (hW 34 _ rfl) (hW 35 _ rfl) (hW 36 _ rfl) rfl (g := (mkF m 150 #[.val (.int q0), .val (.int q1), .val (.int q2), .val (.int q3), .val (.int (q0 &&& (3 : Int32))), .val (.ref b459), .val (.int (1 : Int32)), .val r533, .val r542, .val r553, .unset] [])) rfl (hb hby at_150) (by decide) (by decide)
          obtain ⟨b556, g556⟩ : ∃ z, z = T553.heap.size := ⟨_, rfl⟩
          rw [← g556] at A556 D556 st556
          have ne556_b438 : b438 ≠ b556 := Nat.ne_of_lt (Nat.lt_of_lt_of_le (((((V456.ext E459).keep K464q (ninS ne459_b438 nin0)).keep K533q nin0).keep K542q nin0).keep K553q nin0).lt (Nat.le_of_eq g556.symm))
          have ne556_b459 : b459 ≠ b556 := Nat.ne_of_lt (Nat.lt_of_lt_of_le (((E464q.keep K533q).keep K542q).keep K553q).lt (Nat.le_of_eq g556.symm))
          have ne556_t464 : t464 ≠ b556 := Nat.ne_of_lt (Nat.lt_of_lt_of_le (((VB464q.keep K533q nin0).keep K542q nin0).keep K553q nin0).lt (Nat.le_of_eq g556.symm))
          have ge_b556 : n0 ≤ b556 := Nat.le_trans (Nat.le_trans (Nat.le_trans (Nat.le_trans (Nat.le_trans (Nat.le_trans (Nat.le_trans (Nat.le_trans (Nat.le_trans Z0 E438.1) (Keep.of_wr W446).1) (Keep.of_wr W456).1) E459.1) K464q.1) K533q.1) K542q.1) K553q.1) (Nat.le_of_eq g556.symm)
          have sz_b556 : h0.size ≤ b556 := Nat.le_trans ((((((((((Keep.refl h0 []).ext E438).wr W446 (Or.inr sz_b438)).wr W456 (Or.inr sz_b438)).ext E459).trans K464q (allS (Or.inr sz_b459) all0)).trans K533q all0).trans K542q all0).trans K553q all0)).1 (Nat.le_of_eq g556.symm)
          have F556_name : Fld Z h556 b556 "com/example/ledgerwright/ledgerwright/Option" "name" "Ljava/lang/String;" .null := D556 (Or.inr (hW 47 _ rfl)) (ty := (.object "java/lang/String")) (by decide)
          have F556_valueName : Fld Z h556 b556 "com/example/ledgerwright/ledgerwright/Option" "valueName" "Ljava/lang/String;" .null := D556 (Or.inr (hW 49 _ rfl)) (ty := (.object "java/lang/String")) (by decide)
          have F556_defaultValue : Fld Z h556 b556 "com/example/ledgerwright/ledgerwright/Option" "defaultValue" "Ljava/lang/String;" .null := D556 (Or.inr (hW 51 _ rfl)) (ty := (.object "java/lang/String")) (by decide)
          have F556_required : Fld Z h556 b556 "com/example/ledgerwright/ledgerwright/Option" "required" "Z" (.int (0 : Int32)) := D556 (Or.inr (hW 53 _ rfl)) (ty := .boolean) (by decide)
          have F556_description : Fld Z h556 b556 "com/example/ledgerwright/ledgerwright/Option" "description" "Ljava/lang/String;" .null := D556 (Or.inr (hW 55 _ rfl)) (ty := (.object "java/lang/String")) (by decide)
          have K557 : Go p e below T556 (mkF m 153 #[.val (.int q0), .val (.int q1), .val (.int q2), .val (.int q3), .val (.int (q0 &&& (3 : Int32))), .val (.ref b459), .val (.int (1 : Int32)), .val r533, .val r542, .val r553, .unset] [(.ref b556)]) G := fun tq kq => K555 tq (st556 tq kq)
          have K558 : Go p e below T556 (mkF m 154 #[.val (.int q0), .val (.int q1), .val (.int q2), .val (.int q3), .val (.int (q0 &&& (3 : Int32))), .val (.ref b459), .val (.int (1 : Int32)), .val r533, .val r542, .val r553, .unset] [(.ref b556), (.ref b556)]) G := fun tq kq => K557 tq (XS.dup X556.here hx rfl (hb hby at_153) rfl rfl kq)
          have K559 : Go p e below T556 (mkF m 156 #[.val (.int q0), .val (.int q1), .val (.int q2), .val (.int q3), .val (.int (q0 &&& (3 : Int32))), .val (.ref b459), .val (.int (1 : Int32)), .val r533, .val r542, .val r553, .unset] [r533, (.ref b556), (.ref b556)]) G := fun tq kq => K558 tq (XS.aload X556.here hx rfl (hb hby at_154) rfl i533 kq)
          have K560 : Go p e below T556 (mkF m 158 #[.val (.int q0), .val (.int q1), .val (.int q2), .val (.int q3), .val (.int (q0 &&& (3 : Int32))), .val (.ref b459), .val (.int (1 : Int32)), .val r533, .val r542, .val r553, .unset] [(.ref b459), r533, (.ref b556), (.ref b556)]) G := fun tq kq => K559 tq (XS.aload X556.here hx rfl (hb hby at_156) rfl rfl kq)
          have K561 : Go p e below T556 (mkF m 160 #[.val (.int q0), .val (.int q1), .val (.int q2), .val (.int q3), .val (.int (q0 &&& (3 : Int32))), .val (.ref b459), .val (.int (1 : Int32)), .val r533, .val r542, .val r553, .unset] [r542, (.ref b459), r533, (.ref b556), (.ref b556)]) G := fun tq kq => K560 tq (XS.aload X556.here hx rfl (hb hby at_158) rfl i542 kq)
          have K562 : Go p e below T556 (mkF m 162 #[.val (.int q0), .val (.int q1), .val (.int q2), .val (.int q3), .val (.int (q0 &&& (3 : Int32))), .val (.ref b459), .val (.int (1 : Int32)), .val r533, .val r542, .val r553, .unset] [(.int (1 : Int32)), r542, (.ref b459), r533, (.ref b556), (.ref b556)]) G := fun tq kq => K561 tq (XS.iload X556.here hx rfl (hb hby at_160) rfl kq)
          have K563 : Go p e below T556 (mkF m 164 #[.val (.int q0), .val (.int q1), .val (.int q2), .val (.int q3), .val (.int (q0 &&& (3 : Int32))), .val (.ref b459), .val (.int (1 : Int32)), .val r533, .val r542, .val r553, .unset] [r553, (.int (1 : Int32)), r542, (.ref b459), r533, (.ref b556), (.ref b556)]) G := fun tq kq => K562 tq (XS.aload X556.here hx rfl (hb hby at_162) rfl i553 kq)
          obtain ⟨v564, _, ⟨T564, L564, k564, n564⟩, -, X564, ⟨Lc564, hQ564, l564, y564, z564⟩, st564⟩ := X556.specialBack hx (y := (⟨"com/example/ledgerwright/ledgerwright/Option", "<init>", "(Ljava/lang/String;Ljava/lang/String;Ljava/lang/String;ZLjava/lang/String;)V"⟩ : MethodName)) rfl hown (mvT hZ (hW 37 _ rfl)) (mvT hZ (hW 38 _ rfl)) (mvT hZ (hW 39 _ rfl)) (by decide) (backOf (W := 1) (rmIni l Z a0 hw [] b556 r533 (.ref b459) r542 (1 : Int32) r553 h556 n0 (Nat.le_trans (Nat.le_trans (Nat.le_trans (Nat.le_trans (Nat.le_trans (Nat.le_trans (Nat.le_trans (Nat.le_trans (Nat.le_trans Z0 E438.1) (Keep.of_wr W446).1) (Keep.of_wr W456).1) E459.1) K464q.1) K533q.1) K542q.1) K553q.1) E556.1) F556_name F556_valueName F556_defaultValue F556_required F556_description A556 ge_b556 i533 rfl i542 i553) hZ (hW 39 _ rfl) (hW 36 _ rfl) (by decide) (by decide)) (g := (mkF m 164 #[.val (.int q0), .val (.int q1), .val (.int q2), .val (.int q3), .val (.int (q0 &&& (3 : Int32))), .val (.ref b459), .val (.int (1 : Int32)), .val r533, .val r542, .val r553, .unset] [r553, (.int (1 : Int32)), r542, (.ref b459), r533, (.ref b556), (.ref b556)])) rfl (by rw [hml]; rfl) (Steps.refl _) (a := b556) (argsL := [r533, (.ref b459), r542, (.int (1 : Int32)), r553]) (rest := [(.ref b556)]) (lenOf pd_58 rfl) rfl (by show 2 * 0 + _ ≤ _; exact Nat.le_of_eq rfl) (hb hby at_164) (fun _ _ => ⟨rfl, e556, (by decide : 13 + 0 ≤ _), (by decide : 31 + 0 ≤ _)⟩)
          dsimp only [Pt.U, Pt.locs, Pt.cells, Pt.slots] at X564 l564 y564 z564 st564 hQ564
          subst l564 y564 z564
          obtain ⟨rfl, N564q, K564q, E564q, F564q_valueName⟩ := hQ564
          have N564 := Fr.app N553 N564q
          have K565 : Go p e below T564 (mkF m 167 #[.val (.int q0), .val (.int q1), .val (.int q2), .val (.int q3), .val (.int (q0 &&& (3 : Int32))), .val (.ref b459), .val (.int (1 : Int32)), .val r533, .val r542, .val r553, .unset] [(.ref b556)]) G := fun tq kq => K563 tq (st564.trans kq)
          have K566 : Go p e below T564 (mkF m 169 #[.val (.int q0), .val (.int q1), .val (.int q2), .val (.int q3), .val (.int (q0 &&& (3 : Int32))), .val (.ref b459), .val (.int (1 : Int32)), .val r533, .val r542, .val r553, .val (.ref b556)] []) G := fun tq kq => K565 tq (XS.astore X564.here hx rfl (hb hby at_167) rfl rfl (l' := #[.val (.int q0), .val (.int q1), .val (.int q2), .val (.int q3), .val (.int (q0 &&& (3 : Int32))), .val (.ref b459), .val (.int (1 : Int32)), .val r533, .val r542, .val r553, .val (.ref b556)]) rfl kq)
          have K567 : Go p e below T564 (mkF m 171 #[.val (.int q0), .val (.int q1), .val (.int q2), .val (.int q3), .val (.int (q0 &&& (3 : Int32))), .val (.ref b459), .val (.int (1 : Int32)), .val r533, .val r542, .val r553, .val (.ref b556)] [(.ref b556)]) G := fun tq kq => K566 tq (XS.aload X564.here hx rfl (hb hby at_169) rfl rfl kq)
          obtain ⟨cq568, kq568, q568a, q568b, q568c⟩ := isOf hZ rfl E564q
          obtain ⟨v568, _, ⟨T568, L568, k568, n568⟩, -, X568, ⟨Lc568, hQ568, l568, y568, z568⟩, st568⟩ := X564.virtualBack hx (y := (⟨"com/example/ledgerwright/ledgerwright/Option", "isFlag", "()Z"⟩ : MethodName)) (z := (⟨"com/example/ledgerwright/ledgerwright/Option", "isFlag", "()Z"⟩ : MethodName)) hown (mvT hZ (hW 56 _ rfl)) (mvT hZ (hW 57 _ rfl)) (notFace_of_selects (args := #[]) (mvT hZ (hW 59 _ rfl))) (mvT hZ (hW 59 _ rfl)) (mvT hZ (hW 58 _ rfl)) (by decide) (backOf (W := 0) (rmFR l Z a0 hw [] b556 b459 T564.heap n0 (Nat.le_trans (Nat.le_trans (Nat.le_trans (Nat.le_trans (Nat.le_trans (Nat.le_trans (Nat.le_trans (Nat.le_trans (Nat.le_trans (Nat.le_trans Z0 E438.1) (Keep.of_wr W446).1) (Keep.of_wr W456).1) E459.1) K464q.1) K533q.1) K542q.1) K553q.1) E556.1) K564q.1) F564q_valueName) hZ (hW 60 _ rfl) (hW 36 _ rfl) (by decide) (by decide)) q568a q568c (g := (mkF m 171 #[.val (.int q0), .val (.int q1), .val (.int q2), .val (.int q3), .val (.int (q0 &&& (3 : Int32))), .val (.ref b459), .val (.int (1 : Int32)), .val r533, .val r542, .val r553, .val (.ref b556)] [(.ref b556)])) rfl (by rw [hml]; rfl) (Steps.refl _) (argsL := []) (rest := []) (lenOf pd_59 rfl) rfl (by show 2 * 0 + _ ≤ _; exact Nat.le_of_eq rfl) (hb hby at_171) (fun _ _ => ⟨rfl, rfl, (by decide : 13 + 0 ≤ _), (by decide : 31 + 0 ≤ _)⟩)
          dsimp only [Pt.U, Pt.locs, Pt.cells, Pt.slots] at X568 l568 y568 z568 st568 hQ568
          subst l568 y568 z568
          obtain ⟨rfl, N568q, E568q⟩ := hQ568
          have N568 := Fr.app N564 N568q
          have K569 : Go p e below T568 (mkF m 174 #[.val (.int q0), .val (.int q1), .val (.int q2), .val (.int q3), .val (.int (q0 &&& (3 : Int32))), .val (.ref b459), .val (.int (1 : Int32)), .val r533, .val r542, .val r553, .val (.ref b556)] [(.int (0 : Int32))]) G := fun tq kq => K567 tq (st568.trans kq)
          have K570 : Go p e below T568 (mkF m 176 #[.val (.int q0), .val (.int q1), .val (.int q2), .val (.int q3), .val (.int (q0 &&& (3 : Int32))), .val (.ref b459), .val (.int (1 : Int32)), .val r533, .val r542, .val r553, .val (.ref b556)] [(.int (q0 &&& (3 : Int32))), (.int (0 : Int32))]) G := fun tq kq => K569 tq (XS.iload X568.here hx rfl (hb hby at_174) rfl kq)
          have K571 : Go p e below T568 (mkF m 183 #[.val (.int q0), .val (.int q1), .val (.int q2), .val (.int q3), .val (.int (q0 &&& (3 : Int32))), .val (.ref b459), .val (.int (1 : Int32)), .val r533, .val r542, .val r553, .val (.ref b556)] [(.int (0 : Int32))]) G := fun tq kq => K570 tq (XS.ifYes X568.here hx rfl (pc0 := 176) (pc' := 183) rfl (hb hby at_176) rfl ((if0 _ _).trans (feq hc67).2) (by decide) (by decide) kq)
          have K572 : Go p e below T568 (mkF m 184 #[.val (.int q0), .val (.int q1), .val (.int q2), .val (.int q3), .val (.int (q0 &&& (3 : Int32))), .val (.ref b459), .val (.int (1 : Int32)), .val r533, .val r542, .val r553, .val (.ref b556)] [(.int (0 : Int32)), (.int (0 : Int32))]) G := fun tq kq => K571 tq (XS.iconst X568.here hx rfl (hb hby at_183) kq)
          have K573 : Go p e below T568 (mkF m 187 #[.val (.int q0), .val (.int q1), .val (.int q2), .val (.int q3), .val (.int (q0 &&& (3 : Int32))), .val (.ref b459), .val (.int (1 : Int32)), .val r533, .val r542, .val r553, .val (.ref b556)] []) G := fun tq kq => K572 tq (XS.icmpNo X568.here hx rfl (hb hby at_184) rfl ((teq (by decide : (0 : Int32) = (0 : Int32))).2) kq)
          have K574 : Go p e below T568 (mkF m 188 #[.val (.int q0), .val (.int q1), .val (.int q2), .val (.int q3), .val (.int (q0 &&& (3 : Int32))), .val (.ref b459), .val (.int (1 : Int32)), .val r533, .val r542, .val r553, .val (.ref b556)] [(.int (1 : Int32))]) G := fun tq kq => K573 tq (XS.iconst X568.here hx rfl (hb hby at_187) kq)
          have K575 : Go p e below T568 (mkF m 192 #[.val (.int q0), .val (.int q1), .val (.int q2), .val (.int q3), .val (.int (q0 &&& (3 : Int32))), .val (.ref b459), .val (.int (1 : Int32)), .val r533, .val r542, .val r553, .val (.ref b556)] [(.int (1 : Int32))]) G := fun tq kq => K574 tq (XS.goto X568.here hx rfl (pc0 := 188) (pc' := 192) rfl (hb hby at_188) (by decide) (by decide) kq)
          obtain ⟨fs, hr, hrun, hended, hWW, hsame⟩ := X568.leave (v := some (.int (1 : Int32))) (fun h => by rw [Bd.returns] at h; cases h)
          refine ⟨_, _, hG _ (K575 _ (retN X568 hx (t := .boolean) Bd.returns (by simp) (hb hby at_192) hr)), hrun, hended, _, _, rfl, ?_, wide ⟨⟨_, rfl⟩, hWW, hsame.mono (by decide) (by decide)⟩⟩
          show Q0 Z q0 q1 q2 q3 cz h0 n0 _ T568.heap _
          rw [E568q]
          exact ⟨rfl, N568⟩
set_option maxRecDepth 65536 in
set_option maxHeartbeats 40000000 in
theorem comes_1 {Post : Tables → Env → Array Value → State → Outcome → State → Prop} (hpost : ∀ tb e args s v u, (limb_1_1.after args s (.returned v) u = true ∧ limb_1_2.after args s (.returned v) u = true ∧ True) → ReturnedEndW s (.returned v) u (Jvm.fieldLocs frame_1_writes args s ++ Jvm.arrayLocs frame_1_arrays args s ++ Jvm.staticLocs frame_1_statics s) 40 1216 → Post tb e args s (.returned v) u) :
    ArmFor flags0 classFile x code maxLocals ret World_1 tables_1 room_1 Calls_1 rest_1 Pre_1 Post := by
  intro l hfl _ _ p e ha hc hk s m args below hf hA hF happ hP
  obtain ⟨hcalls, hrest, hpre⟩ := hP
  obtain ⟨-, -, -, hnamed, -, -, -, hat⟩ := (Spec.applies_iff hf).mp happ
  obtain ⟨hg, hn⟩ := and_e (Cond.before_iff.mp (show (Jvm.Cond.and given_1 narrow_1).before args s = true from hpre))
  obtain ⟨gg1, gg2⟩ := and_e hg
  obtain ⟨gg3, gg4⟩ := and_e gg2
  obtain ⟨gg5, gg6⟩ := and_e gg4
  obtain ⟨gg7, gg8⟩ := and_e gg6
  obtain ⟨w0, w1, w2, w3, rfl⟩ : ∃ w0 w1 w2 w3 : Value, args = #[w0, w1, w2, w3] := by
    have hs : args.size = 4 := by simpa [Cond.value, given_1] using gg1
    obtain ⟨L⟩ := args
    match L, hs with
    | [w0, w1, w2, w3], _ => exact ⟨w0, w1, w2, w3, rfl⟩
  have hw := fun d (hd : d ∈ tables_1) => atoms_spec (ws := Jvm.Cond.code x code maxLocals ret :: tables_1) hat d (List.mem_cons_of_mem _ hd)
  have hW : ∀ (k : Nat) (d : Jvm.Cond), tables_1[k]? = some d → d.before _ s = true := fun k d h => hw d (List.mem_of_getElem? h)
  have hfit : Fit s := fun {y c} hc i hi => by
    obtain ⟨ha, rfl⟩ := Array.getElem?_eq_some_iff.mp hc
    have q := List.all_eq_true.mp ((Array.all_eq_true_iff_forall_mem.mp hF) _ (Array.getElem_mem ha)) i (List.mem_range.mpr hi)
    simpa [Array.getElem?_eq_getElem hi] using q
  obtain ⟨hsets, hown0⟩ := atoms_of _ (rest_1_c_eq ▸ (show rest_1_c.before _ s = true from hrest))
  have hr0 := Cond.before_iff.mp hown0
  obtain ⟨i0, ei0⟩ := is_v gg3
  obtain rfl : w0 = (.int i0) := Option.some.inj ei0
  obtain ⟨i1, ei1⟩ := is_v gg5
  obtain rfl : w1 = (.int i1) := Option.some.inj ei1
  obtain ⟨i2, ei2⟩ := is_v gg7
  obtain rfl : w2 = (.int i2) := Option.some.inj ei2
  obtain ⟨i3, ei3⟩ := is_v gg8
  obtain rfl : w3 = (.int i3) := Option.some.inj ei3
  have hS : ∀ (k : Nat) (d : Jvm.Cond), jdkStatics_1[k]? = some d → d.before _ s = true := fun k d h => hsets d (List.mem_of_getElem? h)
  obtain ⟨cz, ecz⟩ := is_v (Cond.before_iff.mp (hS 1 _ rfl))
  have S_cs : Sta s s.heap "java/lang/String" "COMPACT_STRINGS" "Z" (.int cz) := Sta.start ecz (Or.inl (hS 0 _ rfl))
  have hcz : ¬ (cz = (0 : Int32)) := gotF (Cond.eq_ints ecz (Term.int_eval (0))) (not_v (Cond.before_iff.mp (hS 2 _ rfl)))
  obtain ⟨n, o, h1, h2, h3, _, L, rfl, ⟨rfl, N⟩, hq⟩ := rm0 l s _ hw tables_1 i0 i1 i2 i3 cz s.heap s.heap.size (Nat.le_refl _) (Old.start s) S_cs hcz p e ha hc hk s m _ below hf ((Spec.applies_iff_loose hf).mp happ).1 ⟨rfl, State.Warmed39.refl s, rfl⟩ trivial
  refine ⟨n, _, h1, h2, h3, hpost _ _ _ _ _ _ ⟨Cond.after_iff.mpr rfl, Cond.after_iff.mpr (eq_i res_at (Term.int_eval (1)) rfl), trivial⟩ ⟨hq.1, hq.2.1, hq.2.2.1, (hq.2.2.2.sift fun y hy => Or.inr (N y hy)).mono (by decide) (by decide)⟩⟩
theorem main_1_1 : Claimed_1_1 := comes_1 fun _ _ _ _ _ _ h hF => ⟨h.1, hF⟩
theorem main_1_2 : Claimed_1_2 := comes_1 fun _ _ _ _ _ _ h hF => ⟨h.2.1, hF⟩
end Jvm.Pilot.@@N@@
namespace Jvm.Pilot.@@N@@
open Jvm Jvm.ClassFile Sem Op Lib Jvm.Free Jvm.Stand Jvm.Pilot.@@N@@.Jvm.D
/-! MADE BY PROGRAM (witnessworld.py) out of the Statement's table words and the real class files: 21 classes; the members and pool entries that the words name. The judged class is class 1, her method 2. -/
namespace start1
open Jvm.ClassFile
def u (s : String) : CpInfo := .utf8 (stringToUtf16 s)
/-- a pool by its gaps: so many unusable entries, then the entry; so many at the end -/
def gap : Nat → List CpInfo → List CpInfo
  | 0, r => r
  | n + 1, r => .unusable :: gap n r
def poolList (es : List (Nat × CpInfo)) (last : Nat) : List CpInfo := es.foldr (fun e r => gap e.1 (e.2 :: r)) (gap last [])
def pool (es : List (Nat × CpInfo)) (last : Nat) : Array CpInfo := ⟨poolList es last⟩
def fileOf (pool : Array CpInfo) (this : Nat) (attrs : Array Attribute := #[]) (ms : Array MethodInfo := #[]) (fl : Nat := 33) (sup : Nat := 0) (ifs : Array Nat := #[]) (fds : Array FieldInfo := #[]) : ClassFile where
  minorVersion := 0
  majorVersion := 65
  constantPool := pool
  accessFlags := fl
  thisClass := this
  superClass := sup
  interfaces := ifs
  fields := fds
  methods := ms
  attributes := attrs
def plain (name : String) (sup : Option ClassId) : Class where
  name := name
  kind := .ordinary
  loader := none
  accessFlags := 33
  super := sup
  interfaces := #[]
  cf := none
  fields := #[]
  methods := #[]
  instanceTypes := #[]
  staticTypes := #[]
  resolved := #[]
  callSites := []
  init := .initialized
  statics := none
  mirror := none

def pool0 : Array CpInfo := pool [(5, u "<init>"), (0, u "()V"), (1, .class_ 10), (1, u "java/lang/Object")] 113

def k0c0 : Code := { maxStack := 0, maxLocals := 1, code := object_method_1_code, exceptionTable := #[], attributes := #[] }
def k0m0 : Method := { name := "<init>", desc := "()V", sig := { parameters := [], returnType := none }, accessFlags := 1, code := some k0c0 }
/-- java/lang/Object -/
def k0 : Class := { plain "java/lang/Object" none with
  accessFlags := 33
  interfaces := #[]
  cf := some (fileOf pool0 8 #[] #[{ accessFlags := 1, nameIndex := 5, descriptorIndex := 6, attributes := #[] }] 33 0 #[] #[])
  fields := #[]
  methods := #[k0m0]
  instanceTypes := #[]
  staticTypes := #[]
  resolved := Array.replicate 124 none
  statics := none }

def pool1 : Array CpInfo := pool [(2, .class_ 4), (1, u "java/lang/Object"), (0, u "<init>"), (0, u "()V"), (0, .class_ 8), (0, u "java/lang/String"), (0, .methodref 7 10), (0, .nameAndType 5 11), (0, u "([C)V"), (0, .string 13), (0, u ""), (0, .methodref 15 16), (0, .class_ 17), (0, .nameAndType 18 19), (0, u "com/example/ledgerwright/ledgerwright/OptionIsFlagPinLaw"), (0, u "drawn"), (0, u "(II)Ljava/lang/String;"), (0, .class_ 21), (0, u "com/example/ledgerwright/ledgerwright/Option"), (0, .methodref 20 23), (0, .nameAndType 5 24), (0, u "(Ljava/lang/String;Ljava/lang/String;Ljava/lang/String;ZLjava/lang/String;)V"), (0, .methodref 20 26), (0, .nameAndType 27 28), (0, u "isFlag"), (0, u "()Z"), (3, u "law"), (0, u "(IIII)Z")] 2

def k1m0 : Method := { name := "<init>", desc := "()V", sig := { parameters := [], returnType := none }, accessFlags := 1, code := none }
def k1c1 : Code := { maxStack := 5, maxLocals := 3, code := method_2_code, exceptionTable := #[], attributes := #[] }
def k1m1 : Method := { name := "drawn", desc := "(II)Ljava/lang/String;", sig := { parameters := [.int, .int], returnType := some (.object "java/lang/String") }, accessFlags := 10, code := some k1c1 }
def k1c2 : Code := { maxStack := 7, maxLocals := 11, code := code, exceptionTable := #[], attributes := #[] }
def k1m2 : Method := { name := "law", desc := "(IIII)Z", sig := { parameters := [.int, .int, .int, .int], returnType := some .boolean }, accessFlags := 9, code := some k1c2 }
/-- com/example/ledgerwright/ledgerwright/OptionIsFlagPinLaw -/
def k1 : Class := { plain "com/example/ledgerwright/ledgerwright/OptionIsFlagPinLaw" (some 0) with
  accessFlags := 49
  interfaces := #[]
  cf := some (fileOf pool1 15 #[] #[{ accessFlags := 1, nameIndex := 5, descriptorIndex := 6, attributes := #[] }, { accessFlags := 10, nameIndex := 18, descriptorIndex := 19, attributes := #[] }, { accessFlags := 9, nameIndex := 32, descriptorIndex := 33, attributes := #[] }] 49 2 #[] #[])
  fields := #[]
  methods := #[k1m0, k1m1, k1m2]
  instanceTypes := #[]
  staticTypes := #[]
  resolved := Array.replicate 36 none
  statics := none }

def pool2 : Array CpInfo := pool [(1, .class_ 2), (0, u "java/io/Serializable"), (0, .class_ 4), (0, u "java/lang/Object")] 2

/-- java/io/Serializable -/
def k2 : Class := { plain "java/io/Serializable" (some 0) with
  accessFlags := 1537
  interfaces := #[]
  cf := some (fileOf pool2 1 #[] #[] 1537 3 #[] #[])
  fields := #[]
  methods := #[]
  instanceTypes := #[]
  staticTypes := #[]
  resolved := Array.replicate 7 none
  statics := none }

def pool3 : Array CpInfo := pool [(1, .class_ 2), (0, u "java/lang/Comparable"), (0, .class_ 4), (0, u "java/lang/Object")] 7

/-- java/lang/Comparable -/
def k3 : Class := { plain "java/lang/Comparable" (some 0) with
  accessFlags := 1537
  interfaces := #[]
  cf := some (fileOf pool3 1 #[] #[] 1537 3 #[] #[])
  fields := #[]
  methods := #[]
  instanceTypes := #[]
  staticTypes := #[]
  resolved := Array.replicate 12 none
  statics := none }

def pool4 : Array CpInfo := pool [(2, .class_ 4), (1, u "java/lang/CharSequence"), (42, .class_ 48), (0, u "java/lang/CharSequence$1CodePointIterator"), (10, .class_ 60), (0, u "java/lang/CharSequence$1CharIterator"), (5, .class_ 67), (0, u "java/lang/Object")] 63

/-- java/lang/CharSequence -/
def k4 : Class := { plain "java/lang/CharSequence" (some 0) with
  accessFlags := 1537
  interfaces := #[]
  cf := some (fileOf pool4 2 #[.nestMembers #[47, 59]] #[] 1537 66 #[] #[])
  fields := #[]
  methods := #[]
  instanceTypes := #[]
  staticTypes := #[]
  resolved := Array.replicate 131 none
  statics := none }

def pool5 : Array CpInfo := pool [(1, .class_ 2), (0, u "java/lang/constant/Constable"), (0, .class_ 4), (0, u "java/lang/Object")] 6

/-- java/lang/constant/Constable -/
def k5 : Class := { plain "java/lang/constant/Constable" (some 0) with
  accessFlags := 1537
  interfaces := #[]
  cf := some (fileOf pool5 1 #[] #[] 1537 3 #[] #[])
  fields := #[]
  methods := #[]
  instanceTypes := #[]
  staticTypes := #[]
  resolved := Array.replicate 11 none
  statics := none }

def pool6 : Array CpInfo := pool [(1, .class_ 2), (0, u "java/lang/constant/ConstantDesc"), (0, .class_ 4), (0, u "java/lang/Object")] 32

/-- java/lang/constant/ConstantDesc -/
def k6 : Class := { plain "java/lang/constant/ConstantDesc" (some 0) with
  accessFlags := 1537
  interfaces := #[]
  cf := some (fileOf pool6 1 #[] #[] 1537 3 #[] #[])
  fields := #[]
  methods := #[]
  instanceTypes := #[]
  staticTypes := #[]
  resolved := Array.replicate 37 none
  statics := none }

def pool7 : Array CpInfo := pool [(1, .methodref 2 3), (0, .class_ 4), (0, .nameAndType 5 6), (0, u "java/lang/Object"), (0, u "<init>"), (0, u "()V"), (2, .fieldref 10 11), (0, .class_ 12), (0, .nameAndType 13 14), (0, u "java/lang/String"), (0, u "value"), (0, u "[B"), (0, .fieldref 10 16), (0, .nameAndType 17 18), (0, u "coder"), (0, u "B"), (2, u "hash"), (0, u "I"), (2, u "hashIsZero"), (0, u "Z"), (0, .methodref 10 28), (0, .nameAndType 5 29), (0, u "([CIILjava/lang/Void;)V"), (8, .fieldref 10 39), (0, .nameAndType 40 26), (0, u "COMPACT_STRINGS"), (1, .class_ 44), (1, u "java/lang/StringUTF16"), (0, u "compress"), (1, .methodref 42 48), (0, .nameAndType 49 50), (0, u "coderFromArrayLen"), (0, u "([BI)B"), (126, .methodref 42 178), (0, .nameAndType 45 179), (0, u "([CII)[B"), (395, .class_ 576), (0, u "java/lang/CharSequence"), (22, u "CASE_INSENSITIVE_ORDER"), (0, u "Ljava/util/Comparator;"), (409, u "([C)V"), (90, u "serialPersistentFields"), (0, u "[Ljava/io/ObjectStreamField;"), (0, .class_ 1104), (0, u "java/lang/String$CaseInsensitiveComparator"), (1, .class_ 1107), (0, u "java/io/Serializable"), (0, .class_ 1109), (0, u "java/lang/Comparable"), (0, .class_ 1111), (0, u "java/lang/constant/Constable"), (0, .class_ 1113), (0, u "java/lang/constant/ConstantDesc"), (2, u "serialVersionUID"), (0, u "J"), (3, u "REPL"), (0, u "C"), (2, u "LATIN1"), (1, u "UTF16")] 323

def k7m0 : Method := { name := "<init>", desc := "()V", sig := { parameters := [], returnType := none }, accessFlags := 1, code := none }
def k7c1 : Code := { maxStack := 5, maxLocals := 2, code := jdk_42_method_3_code, exceptionTable := #[], attributes := #[] }
def k7m1 : Method := { name := "<init>", desc := "([C)V", sig := { parameters := [(.array .char)], returnType := none }, accessFlags := 1, code := some k7c1 }
def k7c2 : Code := { maxStack := 4, maxLocals := 6, code := jdk_42_method_149_code, exceptionTable := #[], attributes := #[] }
def k7m2 : Method := { name := "<init>", desc := "([CIILjava/lang/Void;)V", sig := { parameters := [(.array .char), .int, .int, (.object "java/lang/Void")], returnType := none }, accessFlags := 2, code := some k7c2 }
/-- java/lang/String -/
def k7 : Class := { plain "java/lang/String" (some 0) with
  accessFlags := 49
  interfaces := #[2, 3, 4, 5, 6]
  cf := some (fileOf pool7 10 #[.nestMembers #[1103]] #[{ accessFlags := 1, nameIndex := 5, descriptorIndex := 6, attributes := #[] }, { accessFlags := 1, nameIndex := 5, descriptorIndex := 1010, attributes := #[] }, { accessFlags := 2, nameIndex := 5, descriptorIndex := 29, attributes := #[] }] 49 2 #[1106, 1108, 575, 1110, 1112] #[{ accessFlags := 18, nameIndex := 13, descriptorIndex := 14, attributes := #[] }, { accessFlags := 18, nameIndex := 17, descriptorIndex := 18, attributes := #[] }, { accessFlags := 2, nameIndex := 21, descriptorIndex := 22, attributes := #[] }, { accessFlags := 2, nameIndex := 25, descriptorIndex := 26, attributes := #[] }, { accessFlags := 26, nameIndex := 1116, descriptorIndex := 1117, attributes := #[] }, { accessFlags := 24, nameIndex := 40, descriptorIndex := 26, attributes := #[] }, { accessFlags := 26, nameIndex := 1101, descriptorIndex := 1102, attributes := #[] }, { accessFlags := 26, nameIndex := 1121, descriptorIndex := 1122, attributes := #[] }, { accessFlags := 25, nameIndex := 599, descriptorIndex := 600, attributes := #[] }, { accessFlags := 24, nameIndex := 1125, descriptorIndex := 18, attributes := #[] }, { accessFlags := 24, nameIndex := 1127, descriptorIndex := 18, attributes := #[] }])
  fields := #[{ name := "value", type := (.array .byte), accessFlags := 18, slot := 0, constantValue := 0 }, { name := "coder", type := .byte, accessFlags := 18, slot := 1, constantValue := 0 }, { name := "hash", type := .int, accessFlags := 2, slot := 2, constantValue := 0 }, { name := "hashIsZero", type := .boolean, accessFlags := 2, slot := 3, constantValue := 0 }, { name := "serialVersionUID", type := .long, accessFlags := 26, slot := 0, constantValue := 0 }, { name := "COMPACT_STRINGS", type := .boolean, accessFlags := 24, slot := 1, constantValue := 0 }, { name := "serialPersistentFields", type := (.array (.object "java/io/ObjectStreamField")), accessFlags := 26, slot := 2, constantValue := 0 }, { name := "REPL", type := .char, accessFlags := 26, slot := 3, constantValue := 0 }, { name := "CASE_INSENSITIVE_ORDER", type := (.object "java/util/Comparator"), accessFlags := 25, slot := 4, constantValue := 0 }, { name := "LATIN1", type := .byte, accessFlags := 24, slot := 5, constantValue := 0 }, { name := "UTF16", type := .byte, accessFlags := 24, slot := 6, constantValue := 0 }]
  methods := #[k7m0, k7m1, k7m2]
  instanceTypes := #[(.array .byte), .byte, .int, .boolean]
  staticTypes := #[.long, .boolean, (.array (.object "java/io/ObjectStreamField")), .char, (.object "java/util/Comparator"), .byte, .byte]
  resolved := Array.replicate 1451 none
  statics := some 0 }

def pool8 : Array CpInfo := pool [(6, .class_ 8), (1, u "java/lang/Object"), (0, u "<init>"), (0, u "()V"), (1, .class_ 14), (1, u "java/lang/StringUTF16"), (31, u "$assertionsDisabled"), (0, u "Z"), (13, u "HI_BYTE_SHIFT"), (0, u "I"), (2, u "LO_BYTE_SHIFT"), (49, .methodref 12 116), (0, .nameAndType 117 118), (0, u "compress"), (0, u "([CI[BII)I"), (3, u "([CII)[B"), (138, u "coderFromArrayLen"), (0, u "([BI)B"), (106, .class_ 371), (1, u "java/lang/StringUTF16$LinesSpliterator"), (58, u "MAX_LENGTH"), (196, .class_ 628), (0, u "java/lang/StringUTF16$CodePointsSpliterator"), (0, .class_ 630), (0, u "java/lang/StringUTF16$CharsSpliterator")] 4

def k8m0 : Method := { name := "<init>", desc := "()V", sig := { parameters := [], returnType := none }, accessFlags := 0, code := none }
def k8c1 : Code := { maxStack := 2, maxLocals := 2, code := jdk_52_method_15_code, exceptionTable := #[], attributes := #[] }
def k8m1 : Method := { name := "coderFromArrayLen", desc := "([BI)B", sig := { parameters := [(.array .byte), .int], returnType := some .byte }, accessFlags := 8, code := some k8c1 }
def k8c2 : Code := { maxStack := 5, maxLocals := 6, code := jdk_52_method_16_code, exceptionTable := #[], attributes := #[] }
def k8m2 : Method := { name := "compress", desc := "([CII)[B", sig := { parameters := [(.array .char), .int, .int], returnType := some (.array .byte) }, accessFlags := 9, code := some k8c2 }
def k8c3 : Code := { maxStack := 3, maxLocals := 7, code := jdk_52_method_21_code, exceptionTable := #[], attributes := #[] }
def k8m3 : Method := { name := "compress", desc := "([CI[BII)I", sig := { parameters := [(.array .char), .int, (.array .byte), .int, .int], returnType := some .int }, accessFlags := 9, code := some k8c3 }
/-- java/lang/StringUTF16 -/
def k8 : Class := { plain "java/lang/StringUTF16" (some 0) with
  accessFlags := 48
  interfaces := #[]
  cf := some (fileOf pool8 12 #[.nestMembers #[627, 629, 369]] #[{ accessFlags := 0, nameIndex := 9, descriptorIndex := 10, attributes := #[] }, { accessFlags := 8, nameIndex := 261, descriptorIndex := 262, attributes := #[] }, { accessFlags := 9, nameIndex := 117, descriptorIndex := 122, attributes := #[] }, { accessFlags := 9, nameIndex := 117, descriptorIndex := 118, attributes := #[] }] 48 6 #[] #[{ accessFlags := 26, nameIndex := 61, descriptorIndex := 62, attributes := #[] }, { accessFlags := 26, nameIndex := 65, descriptorIndex := 62, attributes := #[] }, { accessFlags := 24, nameIndex := 430, descriptorIndex := 62, attributes := #[] }, { accessFlags := 4120, nameIndex := 46, descriptorIndex := 47, attributes := #[] }])
  fields := #[{ name := "HI_BYTE_SHIFT", type := .int, accessFlags := 26, slot := 0, constantValue := 0 }, { name := "LO_BYTE_SHIFT", type := .int, accessFlags := 26, slot := 1, constantValue := 0 }, { name := "MAX_LENGTH", type := .int, accessFlags := 24, slot := 2, constantValue := 0 }, { name := "$assertionsDisabled", type := .boolean, accessFlags := 4120, slot := 3, constantValue := 0 }]
  methods := #[k8m0, k8m1, k8m2, k8m3]
  instanceTypes := #[]
  staticTypes := #[.int, .int, .int, .boolean]
  resolved := Array.replicate 635 none
  statics := none }

def pool9 : Array CpInfo := pool [(1, .methodref 2 3), (0, .class_ 4), (0, .nameAndType 5 6), (0, u "java/lang/Object"), (0, u "<init>"), (0, u "()V"), (0, .class_ 8), (0, u "java/lang/Record")] 13

def k9c0 : Code := { maxStack := 1, maxLocals := 1, code := jdk_30_method_1_code, exceptionTable := #[], attributes := #[] }
def k9m0 : Method := { name := "<init>", desc := "()V", sig := { parameters := [], returnType := none }, accessFlags := 4, code := some k9c0 }
/-- java/lang/Record -/
def k9 : Class := { plain "java/lang/Record" (some 0) with
  accessFlags := 1057
  interfaces := #[]
  cf := some (fileOf pool9 7 #[] #[{ accessFlags := 4, nameIndex := 5, descriptorIndex := 6, attributes := #[] }] 1057 2 #[] #[])
  fields := #[]
  methods := #[k9m0]
  instanceTypes := #[]
  staticTypes := #[]
  resolved := Array.replicate 22 none
  statics := none }

def pool10 : Array CpInfo := pool [(1, .methodref 2 3), (0, .class_ 4), (0, .nameAndType 5 6), (0, u "java/lang/Record"), (0, u "<init>"), (0, u "()V"), (0, .fieldref 8 9), (0, .class_ 10), (0, .nameAndType 11 12), (0, u "com/example/ledgerwright/ledgerwright/Option"), (0, u "name"), (0, u "Ljava/lang/String;"), (0, .fieldref 8 14), (0, .nameAndType 15 12), (0, u "valueName"), (0, .fieldref 8 17), (0, .nameAndType 18 12), (0, u "defaultValue"), (0, .fieldref 8 20), (0, .nameAndType 21 22), (0, u "required"), (0, u "Z"), (0, .fieldref 8 24), (0, .nameAndType 25 12), (0, u "description"), (2, u "(Ljava/lang/String;Ljava/lang/String;Ljava/lang/String;ZLjava/lang/String;)V"), (2, u "isFlag"), (0, u "()Z")] 74

def k10c0 : Code := { maxStack := 2, maxLocals := 6, code := prog_8_method_1_code, exceptionTable := #[], attributes := #[] }
def k10m0 : Method := { name := "<init>", desc := "(Ljava/lang/String;Ljava/lang/String;Ljava/lang/String;ZLjava/lang/String;)V", sig := { parameters := [(.object "java/lang/String"), (.object "java/lang/String"), (.object "java/lang/String"), .boolean, (.object "java/lang/String")], returnType := none }, accessFlags := 0, code := some k10c0 }
def k10c1 : Code := { maxStack := 1, maxLocals := 1, code := prog_8_method_6_code, exceptionTable := #[], attributes := #[] }
def k10m1 : Method := { name := "isFlag", desc := "()Z", sig := { parameters := [], returnType := some .boolean }, accessFlags := 0, code := some k10c1 }
/-- com/example/ledgerwright/ledgerwright/Option -/
def k10 : Class := { plain "com/example/ledgerwright/ledgerwright/Option" (some 9) with
  accessFlags := 48
  interfaces := #[]
  cf := some (fileOf pool10 8 #[] #[{ accessFlags := 0, nameIndex := 5, descriptorIndex := 28, attributes := #[] }, { accessFlags := 0, nameIndex := 31, descriptorIndex := 32, attributes := #[] }] 48 2 #[] #[{ accessFlags := 18, nameIndex := 11, descriptorIndex := 12, attributes := #[] }, { accessFlags := 18, nameIndex := 15, descriptorIndex := 12, attributes := #[] }, { accessFlags := 18, nameIndex := 18, descriptorIndex := 12, attributes := #[] }, { accessFlags := 18, nameIndex := 21, descriptorIndex := 22, attributes := #[] }, { accessFlags := 18, nameIndex := 25, descriptorIndex := 12, attributes := #[] }])
  fields := #[{ name := "name", type := (.object "java/lang/String"), accessFlags := 18, slot := 0, constantValue := 0 }, { name := "valueName", type := (.object "java/lang/String"), accessFlags := 18, slot := 1, constantValue := 0 }, { name := "defaultValue", type := (.object "java/lang/String"), accessFlags := 18, slot := 2, constantValue := 0 }, { name := "required", type := .boolean, accessFlags := 18, slot := 3, constantValue := 0 }, { name := "description", type := (.object "java/lang/String"), accessFlags := 18, slot := 4, constantValue := 0 }]
  methods := #[k10m0, k10m1]
  instanceTypes := #[(.object "java/lang/String"), (.object "java/lang/String"), (.object "java/lang/String"), .boolean, (.object "java/lang/String")]
  staticTypes := #[]
  resolved := Array.replicate 107 none
  statics := none }

def pool11 : Array CpInfo := pool [(4, .class_ 6), (1, u "java/lang/Object"), (0, u "<init>"), (0, u "()V"), (5, .class_ 16), (1, u "java/lang/StringLatin1"), (104, u "$assertionsDisabled"), (0, u "Z"), (98, .class_ 223), (1, u "java/lang/StringLatin1$LinesSpliterator"), (166, .class_ 391), (0, u "java/lang/StringLatin1$CharsSpliterator")] 3

def k11m0 : Method := { name := "<init>", desc := "()V", sig := { parameters := [], returnType := none }, accessFlags := 0, code := none }
/-- java/lang/StringLatin1 -/
def k11 : Class := { plain "java/lang/StringLatin1" (some 0) with
  accessFlags := 48
  interfaces := #[]
  cf := some (fileOf pool11 14 #[.nestMembers #[390, 221]] #[{ accessFlags := 0, nameIndex := 7, descriptorIndex := 8, attributes := #[] }] 48 4 #[] #[{ accessFlags := 4120, nameIndex := 121, descriptorIndex := 122, attributes := #[] }])
  fields := #[{ name := "$assertionsDisabled", type := .boolean, accessFlags := 4120, slot := 0, constantValue := 0 }]
  methods := #[k11m0]
  instanceTypes := #[]
  staticTypes := #[.boolean]
  resolved := Array.replicate 395 none
  statics := none }

def pool12 : Array CpInfo := pool [(2, .class_ 4), (1, u "java/lang/Object"), (0, u "<init>"), (0, u "()V"), (17, .class_ 26), (1, u "jdk/internal/util/Preconditions"), (28, .class_ 56), (0, u "jdk/internal/util/Preconditions$4"), (57, .class_ 115), (0, u "jdk/internal/util/Preconditions$1"), (7, u "SIOOBE_FORMATTER"), (0, u "Ljava/util/function/BiFunction;"), (0, .class_ 126), (0, u "jdk/internal/util/Preconditions$2"), (3, u "AIOOBE_FORMATTER"), (0, .class_ 132), (0, u "jdk/internal/util/Preconditions$3"), (3, u "IOOBE_FORMATTER")] 57

def k12m0 : Method := { name := "<init>", desc := "()V", sig := { parameters := [], returnType := none }, accessFlags := 1, code := none }
/-- jdk/internal/util/Preconditions -/
def k12 : Class := { plain "jdk/internal/util/Preconditions" (some 0) with
  accessFlags := 33
  interfaces := #[]
  cf := some (fileOf pool12 24 #[.nestMembers #[55, 131, 125, 114]] #[{ accessFlags := 1, nameIndex := 5, descriptorIndex := 6, attributes := #[] }] 33 2 #[] #[{ accessFlags := 25, nameIndex := 123, descriptorIndex := 124, attributes := #[] }, { accessFlags := 25, nameIndex := 130, descriptorIndex := 124, attributes := #[] }, { accessFlags := 25, nameIndex := 136, descriptorIndex := 124, attributes := #[] }])
  fields := #[{ name := "SIOOBE_FORMATTER", type := (.object "java/util/function/BiFunction"), accessFlags := 25, slot := 0, constantValue := 0 }, { name := "AIOOBE_FORMATTER", type := (.object "java/util/function/BiFunction"), accessFlags := 25, slot := 1, constantValue := 0 }, { name := "IOOBE_FORMATTER", type := (.object "java/util/function/BiFunction"), accessFlags := 25, slot := 2, constantValue := 0 }]
  methods := #[k12m0]
  instanceTypes := #[]
  staticTypes := #[(.object "java/util/function/BiFunction"), (.object "java/util/function/BiFunction"), (.object "java/util/function/BiFunction")]
  resolved := Array.replicate 194 none
  statics := some 1 }

def pool13 : Array CpInfo := pool [(9, u "<init>"), (6, .class_ 18), (1, u "java/lang/Object"), (0, u "()V"), (1, .class_ 23), (1, u "jdk/internal/util/ArraysSupport"), (0, u "LOG2_ARRAY_LONG_INDEX_SCALE"), (0, u "I"), (2, u "U"), (0, u "Ljdk/internal/misc/Unsafe;"), (8, u "BIG_ENDIAN"), (0, u "Z"), (8, u "LOG2_BYTE_BIT_SIZE"), (4, u "LOG2_ARRAY_INT_INDEX_SCALE"), (54, u "JLA"), (0, u "Ljdk/internal/access/JavaLangAccess;"), (11, u "LOG2_ARRAY_BOOLEAN_INDEX_SCALE"), (9, u "LOG2_ARRAY_BYTE_INDEX_SCALE"), (5, u "LOG2_ARRAY_CHAR_INDEX_SCALE"), (5, u "LOG2_ARRAY_SHORT_INDEX_SCALE"), (18, u "LOG2_ARRAY_FLOAT_INDEX_SCALE"), (24, u "LOG2_ARRAY_DOUBLE_INDEX_SCALE"), (89, u "T_BOOLEAN"), (2, u "T_CHAR"), (1, u "T_FLOAT"), (1, u "T_DOUBLE"), (1, u "T_BYTE"), (1, u "T_SHORT"), (1, u "T_INT"), (1, u "T_LONG"), (1, u "SOFT_MAX_ARRAY_LENGTH")] 83

def k13m0 : Method := { name := "<init>", desc := "()V", sig := { parameters := [], returnType := none }, accessFlags := 2, code := none }
/-- jdk/internal/util/ArraysSupport -/
def k13 : Class := { plain "jdk/internal/util/ArraysSupport" (some 0) with
  accessFlags := 33
  interfaces := #[]
  cf := some (fileOf pool13 21 #[] #[{ accessFlags := 2, nameIndex := 9, descriptorIndex := 19, attributes := #[] }] 33 16 #[] #[{ accessFlags := 24, nameIndex := 28, descriptorIndex := 29, attributes := #[] }, { accessFlags := 26, nameIndex := 38, descriptorIndex := 39, attributes := #[] }, { accessFlags := 25, nameIndex := 121, descriptorIndex := 25, attributes := #[] }, { accessFlags := 25, nameIndex := 131, descriptorIndex := 25, attributes := #[] }, { accessFlags := 25, nameIndex := 137, descriptorIndex := 25, attributes := #[] }, { accessFlags := 25, nameIndex := 143, descriptorIndex := 25, attributes := #[] }, { accessFlags := 25, nameIndex := 53, descriptorIndex := 25, attributes := #[] }, { accessFlags := 25, nameIndex := 24, descriptorIndex := 25, attributes := #[] }, { accessFlags := 25, nameIndex := 162, descriptorIndex := 25, attributes := #[] }, { accessFlags := 25, nameIndex := 187, descriptorIndex := 25, attributes := #[] }, { accessFlags := 26, nameIndex := 48, descriptorIndex := 25, attributes := #[] }, { accessFlags := 25, nameIndex := 277, descriptorIndex := 25, attributes := #[] }, { accessFlags := 25, nameIndex := 280, descriptorIndex := 25, attributes := #[] }, { accessFlags := 25, nameIndex := 282, descriptorIndex := 25, attributes := #[] }, { accessFlags := 25, nameIndex := 284, descriptorIndex := 25, attributes := #[] }, { accessFlags := 25, nameIndex := 286, descriptorIndex := 25, attributes := #[] }, { accessFlags := 25, nameIndex := 288, descriptorIndex := 25, attributes := #[] }, { accessFlags := 25, nameIndex := 290, descriptorIndex := 25, attributes := #[] }, { accessFlags := 25, nameIndex := 292, descriptorIndex := 25, attributes := #[] }, { accessFlags := 26, nameIndex := 108, descriptorIndex := 109, attributes := #[] }, { accessFlags := 25, nameIndex := 294, descriptorIndex := 25, attributes := #[] }])
  fields := #[{ name := "U", type := (.object "jdk/internal/misc/Unsafe"), accessFlags := 24, slot := 0, constantValue := 0 }, { name := "BIG_ENDIAN", type := .boolean, accessFlags := 26, slot := 1, constantValue := 0 }, { name := "LOG2_ARRAY_BOOLEAN_INDEX_SCALE", type := .int, accessFlags := 25, slot := 2, constantValue := 0 }, { name := "LOG2_ARRAY_BYTE_INDEX_SCALE", type := .int, accessFlags := 25, slot := 3, constantValue := 0 }, { name := "LOG2_ARRAY_CHAR_INDEX_SCALE", type := .int, accessFlags := 25, slot := 4, constantValue := 0 }, { name := "LOG2_ARRAY_SHORT_INDEX_SCALE", type := .int, accessFlags := 25, slot := 5, constantValue := 0 }, { name := "LOG2_ARRAY_INT_INDEX_SCALE", type := .int, accessFlags := 25, slot := 6, constantValue := 0 }, { name := "LOG2_ARRAY_LONG_INDEX_SCALE", type := .int, accessFlags := 25, slot := 7, constantValue := 0 }, { name := "LOG2_ARRAY_FLOAT_INDEX_SCALE", type := .int, accessFlags := 25, slot := 8, constantValue := 0 }, { name := "LOG2_ARRAY_DOUBLE_INDEX_SCALE", type := .int, accessFlags := 25, slot := 9, constantValue := 0 }, { name := "LOG2_BYTE_BIT_SIZE", type := .int, accessFlags := 26, slot := 10, constantValue := 0 }, { name := "T_BOOLEAN", type := .int, accessFlags := 25, slot := 11, constantValue := 0 }, { name := "T_CHAR", type := .int, accessFlags := 25, slot := 12, constantValue := 0 }, { name := "T_FLOAT", type := .int, accessFlags := 25, slot := 13, constantValue := 0 }, { name := "T_DOUBLE", type := .int, accessFlags := 25, slot := 14, constantValue := 0 }, { name := "T_BYTE", type := .int, accessFlags := 25, slot := 15, constantValue := 0 }, { name := "T_SHORT", type := .int, accessFlags := 25, slot := 16, constantValue := 0 }, { name := "T_INT", type := .int, accessFlags := 25, slot := 17, constantValue := 0 }, { name := "T_LONG", type := .int, accessFlags := 25, slot := 18, constantValue := 0 }, { name := "JLA", type := (.object "jdk/internal/access/JavaLangAccess"), accessFlags := 26, slot := 19, constantValue := 0 }, { name := "SOFT_MAX_ARRAY_LENGTH", type := .int, accessFlags := 25, slot := 20, constantValue := 0 }]
  methods := #[k13m0]
  instanceTypes := #[]
  staticTypes := #[(.object "jdk/internal/misc/Unsafe"), .boolean, .int, .int, .int, .int, .int, .int, .int, .int, .int, .int, .int, .int, .int, .int, .int, .int, .int, (.object "jdk/internal/access/JavaLangAccess"), .int]
  resolved := Array.replicate 378 none
  statics := none }

def pool14 : Array CpInfo := pool [(1, u "java/lang/Cloneable"), (0, .class_ 1), (0, u "java/lang/Object"), (0, .class_ 3)] 3

/-- java/lang/Cloneable -/
def k14 : Class := { plain "java/lang/Cloneable" (some 0) with
  accessFlags := 1537
  interfaces := #[]
  cf := some (fileOf pool14 2 #[] #[] 1537 4 #[] #[])
  fields := #[]
  methods := #[]
  instanceTypes := #[]
  staticTypes := #[]
  resolved := Array.replicate 8 none
  statics := none }

/-- the primitive byte -/
def k15 : Class := { plain "byte" none with kind := .primitive 'B', accessFlags := 0x411 }
/-- [B -/
def k16 : Class := { plain "[B" (some 0) with kind := .array 15 .byte, interfaces := #[14, 2], accessFlags := 1041 }

/-- the primitive char -/
def k17 : Class := { plain "char" none with kind := .primitive 'C', accessFlags := 0x411 }
/-- [C -/
def k18 : Class := { plain "[C" (some 0) with kind := .array 17 .char, interfaces := #[14, 2], accessFlags := 1041 }

/-- the primitive int -/
def k19 : Class := { plain "int" none with kind := .primitive 'I', accessFlags := 0x411 }
/-- [I -/
def k20 : Class := { plain "[I" (some 0) with kind := .array 19 .int, interfaces := #[14, 2], accessFlags := 1041 }

def heap : Heap := #[{ cls := 7, slots := #[.long 0, .int 1, .null, .int 0, .null, .int 0, .int 0], vm := .statics 7 },
  { cls := 12, slots := #[.null, .null, .null], vm := .statics 12 }]
def classes : Array Class := #[k0, k1, k2, k3, k4, k5, k6, k7, k8, k9, k10, k11, k12, k13, k14, k15, k16, k17, k18, k19, k20]
def interned : List (Array UInt16 × Addr) := []
def slotsUsed : Nat := 10
def theMethod : MethodId := ⟨1, 2⟩
def args0 : Array Value := #[.int 5, .int 3, .int 4, .int 65]
def aboutOver (below : List Frame) : State where
  vm := { classes := classes, interned := interned.toArray }
  heap := heap
  slotsUsed := slotsUsed
  threads := #[{ frames := .invoking theMethod args0 :: below }]
def below0 : List Frame := [.native { method := ⟨0, 0⟩, args := #[] }]
def about1 : State := aboutOver below0
def p0 : Program := .bare "" "" ""
def e0 : Env := launch0.env 0 0 0
theorem w_frames : about1.frames = Frame.invoking theMethod args0 :: below0 := rfl
set_option maxRecDepth 65536 in
theorem w_args : argsFit about1.vm theMethod args0 = true := by decide +kernel
set_option maxRecDepth 65536 in
theorem w_heap : heapFits about1 = true := by decide +kernel
set_option maxRecDepth 65536 in
theorem w_runnable : about1.curStatus? = some .runnable := by decide +kernel
set_option maxRecDepth 65536 in
theorem w_alone : about1.alone = true := by decide +kernel
set_option maxRecDepth 65536 in
theorem w_named : about1.methodNamed? x = some theMethod := by decide +kernel
set_option maxRecDepth 65536 in
theorem w_hears : about1.hears theMethod below0 = true := by decide +kernel
set_option maxRecDepth 65536 in
theorem w_ripe : about1.ripe theMethod args0 below0 = true := by decide +kernel
theorem w_running : about1.status = .running := rfl
set_option maxRecDepth 65536 in
theorem w_room : about1.hasRoom e0.platform room_1 = true :=
  launch0.hasRoom_least _ room_1 (by decide +kernel) (by decide +kernel) (by decide +kernel) (by decide +kernel) (by decide +kernel) (by decide +kernel)
theorem allAtoms_all (ts : List Jvm.Cond) (a : Array Jvm.Value) (st : Jvm.State) : (allAtoms ts).before a st = ts.all (fun c => c.before a st) := by
  induction ts with
  | nil => rfl
  | cons c t ih =>
    show (Jvm.Cond.and c (allAtoms t)).before a st = _
    rw [Jvm.Cond.before_and, ih, List.all_cons]
def words1 : List Jvm.Cond := Jvm.Cond.code x code maxLocals ret :: tables_1
/-- a 'code' word, met by the world's own term for the bytes: nothing is compared byte by byte -/
theorem code_word {y : MethodName} {bytes : ByteArray} {mx : Nat} {rt : Option FieldType} {a : Array Value} {s : State} {m : MethodId} {meth : Method} {c : Code} (h1 : s.methodNamed? y = some m) (h2 : s.vm.method? m = some meth) (h3 : meth.code = some c) (h4 : c.code = bytes)
    (h5 : (c.maxLocals == mx && c.exceptionTable.isEmpty && decide (c.maxStack ≤ mostOperands) && decide (meth.sig.returnType = rt) && !meth.locks && decide (parseMethodDescriptor y.desc = some meth.sig)) = true) : (Jvm.Cond.code y bytes mx rt).before a s = true := by
  simp only [Bool.and_eq_true, beq_iff_eq, Bool.not_eq_true', decide_eq_true_eq] at h5
  obtain ⟨⟨⟨⟨⟨g1, g2⟩, g3⟩, g4⟩, g5⟩, g6⟩ := h5
  simp [Cond.before, Cond.holds, Cond.value, h1, h2, h3, h4, g1, g2, g3, g4, g5, g6]
def isCode : Jvm.Cond → Bool
  | .code _ _ _ _ => true
  | _ => false
theorem all_split {L : List Jvm.Cond} {P : Jvm.Cond → Bool} (h1 : L.all (fun c => isCode c || P c) = true) (h2 : ∀ c ∈ L.filter isCode, P c = true) : L.all P = true := by
  refine List.all_eq_true.mpr fun c hc => ?_
  have h := List.all_eq_true.mp h1 c hc
  rcases Bool.eq_false_or_eq_true (isCode c) with hi | hi
  · exact h2 c (List.mem_filter.mpr ⟨hc, hi⟩)
  · simpa [hi] using h
set_option maxRecDepth 65536 in
theorem w_c0 : (Jvm.Cond.code x code maxLocals ret).before args0 about1 = true := code_word (m := ⟨1, 2⟩) (meth := k1m2) (c := k1c2) (by decide +kernel) rfl rfl rfl (by decide +kernel)
set_option maxRecDepth 65536 in
theorem w_c1 : (Jvm.Cond.code ({ cls := "com/example/ledgerwright/ledgerwright/OptionIsFlagPinLaw", name := "drawn", desc := "(II)Ljava/lang/String;" } : Jvm.MethodName) method_2_code (3 : Nat) (Option.some (Jvm.ClassFile.FieldType.object "java/lang/String"))).before args0 about1 = true := code_word (m := ⟨1, 1⟩) (meth := k1m1) (c := k1c1) (by decide +kernel) rfl rfl rfl (by decide +kernel)
set_option maxRecDepth 65536 in
theorem w_c2 : (Jvm.Cond.code ({ cls := "java/lang/String", name := "<init>", desc := "([C)V" } : Jvm.MethodName) jdk_42_method_3_code (2 : Nat) (Option.none : Option Jvm.ClassFile.FieldType)).before args0 about1 = true := code_word (m := ⟨7, 1⟩) (meth := k7m1) (c := k7c1) (by decide +kernel) rfl rfl rfl (by decide +kernel)
set_option maxRecDepth 65536 in
theorem w_c3 : (Jvm.Cond.code ({ cls := "java/lang/String", name := "<init>", desc := "([CIILjava/lang/Void;)V" } : Jvm.MethodName) jdk_42_method_149_code (6 : Nat) (Option.none : Option Jvm.ClassFile.FieldType)).before args0 about1 = true := code_word (m := ⟨7, 2⟩) (meth := k7m2) (c := k7c2) (by decide +kernel) rfl rfl rfl (by decide +kernel)
set_option maxRecDepth 65536 in
theorem w_c4 : (Jvm.Cond.code ({ cls := "java/lang/Object", name := "<init>", desc := "()V" } : Jvm.MethodName) object_method_1_code (1 : Nat) (Option.none : Option Jvm.ClassFile.FieldType)).before args0 about1 = true := code_word (m := ⟨0, 0⟩) (meth := k0m0) (c := k0c0) (by decide +kernel) rfl rfl rfl (by decide +kernel)
set_option maxRecDepth 65536 in
theorem w_c5 : (Jvm.Cond.code ({ cls := "java/lang/StringUTF16", name := "compress", desc := "([CII)[B" } : Jvm.MethodName) jdk_52_method_16_code (6 : Nat) (Option.some (Jvm.ClassFile.FieldType.array Jvm.ClassFile.FieldType.byte))).before args0 about1 = true := code_word (m := ⟨8, 2⟩) (meth := k8m2) (c := k8c2) (by decide +kernel) rfl rfl rfl (by decide +kernel)
set_option maxRecDepth 65536 in
theorem w_c6 : (Jvm.Cond.code ({ cls := "java/lang/StringUTF16", name := "compress", desc := "([CI[BII)I" } : Jvm.MethodName) jdk_52_method_21_code (7 : Nat) (Option.some Jvm.ClassFile.FieldType.int)).before args0 about1 = true := code_word (m := ⟨8, 3⟩) (meth := k8m3) (c := k8c3) (by decide +kernel) rfl rfl rfl (by decide +kernel)
set_option maxRecDepth 65536 in
theorem w_c7 : (Jvm.Cond.code ({ cls := "java/lang/StringUTF16", name := "coderFromArrayLen", desc := "([BI)B" } : Jvm.MethodName) jdk_52_method_15_code (2 : Nat) (Option.some Jvm.ClassFile.FieldType.byte)).before args0 about1 = true := code_word (m := ⟨8, 1⟩) (meth := k8m1) (c := k8c1) (by decide +kernel) rfl rfl rfl (by decide +kernel)
set_option maxRecDepth 65536 in
theorem w_c8 : (Jvm.Cond.code ({ cls := "com/example/ledgerwright/ledgerwright/Option", name := "<init>", desc := "(Ljava/lang/String;Ljava/lang/String;Ljava/lang/String;ZLjava/lang/String;)V" } : Jvm.MethodName) prog_8_method_1_code (6 : Nat) (Option.none : Option Jvm.ClassFile.FieldType)).before args0 about1 = true := code_word (m := ⟨10, 0⟩) (meth := k10m0) (c := k10c0) (by decide +kernel) rfl rfl rfl (by decide +kernel)
set_option maxRecDepth 65536 in
theorem w_c9 : (Jvm.Cond.code ({ cls := "java/lang/Record", name := "<init>", desc := "()V" } : Jvm.MethodName) jdk_30_method_1_code (1 : Nat) (Option.none : Option Jvm.ClassFile.FieldType)).before args0 about1 = true := code_word (m := ⟨9, 0⟩) (meth := k9m0) (c := k9c0) (by decide +kernel) rfl rfl rfl (by decide +kernel)
set_option maxRecDepth 65536 in
theorem w_c10 : (Jvm.Cond.code ({ cls := "com/example/ledgerwright/ledgerwright/Option", name := "isFlag", desc := "()Z" } : Jvm.MethodName) prog_8_method_6_code (1 : Nat) (Option.some Jvm.ClassFile.FieldType.boolean)).before args0 about1 = true := code_word (m := ⟨10, 1⟩) (meth := k10m1) (c := k10c1) (by decide +kernel) rfl rfl rfl (by decide +kernel)
def codes1 : List Jvm.Cond := [Jvm.Cond.code x code maxLocals ret, Jvm.Cond.code ({ cls := "com/example/ledgerwright/ledgerwright/OptionIsFlagPinLaw", name := "drawn", desc := "(II)Ljava/lang/String;" } : Jvm.MethodName) method_2_code (3 : Nat) (Option.some (Jvm.ClassFile.FieldType.object "java/lang/String")), Jvm.Cond.code ({ cls := "java/lang/String", name := "<init>", desc := "([C)V" } : Jvm.MethodName) jdk_42_method_3_code (2 : Nat) (Option.none : Option Jvm.ClassFile.FieldType), Jvm.Cond.code ({ cls := "java/lang/String", name := "<init>", desc := "([CIILjava/lang/Void;)V" } : Jvm.MethodName) jdk_42_method_149_code (6 : Nat) (Option.none : Option Jvm.ClassFile.FieldType), Jvm.Cond.code ({ cls := "java/lang/Object", name := "<init>", desc := "()V" } : Jvm.MethodName) object_method_1_code (1 : Nat) (Option.none : Option Jvm.ClassFile.FieldType), Jvm.Cond.code ({ cls := "java/lang/StringUTF16", name := "compress", desc := "([CII)[B" } : Jvm.MethodName) jdk_52_method_16_code (6 : Nat) (Option.some (Jvm.ClassFile.FieldType.array Jvm.ClassFile.FieldType.byte)), Jvm.Cond.code ({ cls := "java/lang/StringUTF16", name := "compress", desc := "([CI[BII)I" } : Jvm.MethodName) jdk_52_method_21_code (7 : Nat) (Option.some Jvm.ClassFile.FieldType.int), Jvm.Cond.code ({ cls := "java/lang/StringUTF16", name := "coderFromArrayLen", desc := "([BI)B" } : Jvm.MethodName) jdk_52_method_15_code (2 : Nat) (Option.some Jvm.ClassFile.FieldType.byte), Jvm.Cond.code ({ cls := "com/example/ledgerwright/ledgerwright/Option", name := "<init>", desc := "(Ljava/lang/String;Ljava/lang/String;Ljava/lang/String;ZLjava/lang/String;)V" } : Jvm.MethodName) prog_8_method_1_code (6 : Nat) (Option.none : Option Jvm.ClassFile.FieldType), Jvm.Cond.code ({ cls := "java/lang/Record", name := "<init>", desc := "()V" } : Jvm.MethodName) jdk_30_method_1_code (1 : Nat) (Option.none : Option Jvm.ClassFile.FieldType), Jvm.Cond.code ({ cls := "com/example/ledgerwright/ledgerwright/Option", name := "isFlag", desc := "()Z" } : Jvm.MethodName) prog_8_method_6_code (1 : Nat) (Option.some Jvm.ClassFile.FieldType.boolean)]
set_option maxRecDepth 65536 in
theorem codes_eq : words1.filter isCode = codes1 := rfl
theorem w_codes : ∀ c ∈ words1.filter isCode, c.before args0 about1 = true := by
  rw [codes_eq]
  intro c hc
  simp only [codes1, List.mem_cons, List.not_mem_nil, or_false] at hc
  rcases hc with rfl | rfl | rfl | rfl | rfl | rfl | rfl | rfl | rfl | rfl | rfl
  · exact w_c0
  · exact w_c1
  · exact w_c2
  · exact w_c3
  · exact w_c4
  · exact w_c5
  · exact w_c6
  · exact w_c7
  · exact w_c8
  · exact w_c9
  · exact w_c10
set_option maxRecDepth 65536 in
theorem w_t1 : (words1.take 24).all (fun c => isCode c || c.before args0 about1) = true := by decide +kernel
set_option maxRecDepth 65536 in
theorem w_t2 : ((words1.drop 24).take 24).all (fun c => isCode c || c.before args0 about1) = true := by decide +kernel
set_option maxRecDepth 65536 in
theorem w_t3 : ((words1.drop 24).drop 24).all (fun c => isCode c || c.before args0 about1) = true := by decide +kernel
theorem w_tables : (allAtoms (Jvm.Cond.code x code maxLocals ret :: tables_1)).before args0 about1 = true := by
  rw [allAtoms_all]
  show words1.all (fun c => c.before args0 about1) = true
  refine all_split ?_ w_codes
  rw [← List.take_append_drop 24 words1, List.all_append, w_t1, ← List.take_append_drop 24 (words1.drop 24), List.all_append, w_t2, w_t3]
  rfl
set_option maxRecDepth 65536 in
theorem w_rest : rest_1_c.before args0 about1 = true := by decide +kernel
set_option maxRecDepth 65536 in
theorem w_case : (Jvm.Cond.and given_1 narrow_1).before args0 about1 = true := by decide +kernel
theorem w_applies : (headSpec (Jvm.Cond.code x code maxLocals ret :: tables_1) room_1).applies x e0.platform about1 = true :=
  (Spec.applies_iff w_frames).mpr ⟨w_running, w_runnable, w_alone, w_named, w_hears, w_ripe, w_room, w_tables⟩
theorem atStart : AtStart classFile x code maxLocals ret World_1 tables_1 room_1 Calls_1 rest_1 Pre_1 launch0 p0 e0 about1 theMethod args0 below0 :=
  ⟨lists_1, trivial, launch0.admits_env _ _ _, launch0.least_env, fairChoices_fair.cas, fairChoices_fair.clock, w_frames, w_args, w_heap, w_applies, trivial, w_rest, w_case⟩
end start1
theorem witness_1 : WitnessClaimed_1 := ⟨start1.p0, start1.e0, start1.about1, start1.theMethod, start1.args0, start1.below0, start1.atStart⟩
end Jvm.Pilot.@@N@@
