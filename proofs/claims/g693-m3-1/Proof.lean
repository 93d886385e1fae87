import JvmDerived
import JvmDerived.Pilot.@@N@@Statement
import JvmDerived.Pilot.@@N@@Code
set_option linter.unusedVariables false
set_option linter.unusedSimpArgs false
/- laws to paste: Road.backV (cut by pick.py; bodies as the Statement names them) -/
namespace Jvm.Pilot.@@N@@
namespace StrChars
open Jvm Sem ClassFile Op Lib Jvm.Stand Jvm.Free.XT Jvm.Free.ALB Jvm.Free.JM Jvm.Free
open Jvm.Lib.Cold (StaticIs)
/-- a char array whose places are chars -/
def Ch (a : Addr) (A : Cell) (U : State) : Prop := Arr .char a A U ∧ Typed .char A
theorem Ch.mv {a : Addr} {A : Cell} {U U' : State} (h : Ch a A U) (hal : U.vm.Alike U'.vm) (hh : U'.heap = U.heap) : Ch a A U' := ⟨h.1.mv hal hh, h.2⟩
theorem Ch.keep {a : Addr} {A : Cell} {U U' : State} (h : Ch a A U) (hal : U.vm.Alike U'.vm) (hk : U'.heap[a]? = some A) : Ch a A U' := ⟨h.1.keep hal hk, h.2⟩
/-- what place i of a char[]'s cell holds -/
def cv (A : Cell) (i : Nat) : Int32 := match A.slots[i]? with | some (.int x) => x | _ => 0
theorem Ch.get {a : Addr} {A : Cell} {U : State} (h : Ch a A U) {i : Nat} (hi : i < A.slots.size) : A.slots[i]? = some (.int (cv A i)) := by
  have e := Array.getElem?_eq_getElem hi
  have f := h.2 i _ e
  unfold cv; rw [e]
  generalize A.slots[i] = v at f
  cases v <;> simp [fits] at f ⊢
/-- the byte that i2b leaves of a char -/
def lo8 (x : Int32) : Int32 := x.toInt8.toInt32
theorem fits_lo8 (y : Int32) : fits .byte (.int (lo8 y)) = true := by
  have h1 := y.toInt8.le_toInt
  have h2 := y.toInt8.toInt_lt
  simp only [lo8, fits, Bool.and_eq_true, decide_eq_true_eq, Int32.le_iff_toInt_le, Int8.toInt_toInt32, show (-128 : Int32).toInt = -128 from by decide, show (127 : Int32).toInt = 127 from by decide]
  omega
/-- A' is A but that each place j of lo .. hi - 1 holds f j -/
def Laid (A A' : Cell) (lo hi : Nat) (f : Nat → Value) : Prop := A'.cls = A.cls ∧ A'.vm = A.vm ∧ A'.slots.size = A.slots.size ∧ ∀ i, A'.slots[i]? = if lo ≤ i ∧ i < hi then some (f i) else A.slots[i]?
theorem Laid.zero (A : Cell) (lo : Nat) (f : Nat → Value) : Laid A A lo (lo + 0) f := ⟨rfl, rfl, rfl, fun i => by rw [if_neg (by omega)]⟩
theorem Laid.step {A Ak : Cell} {lo k : Nat} {f : Nat → Value} {v : Value} (h : Laid A Ak lo k f) (hlo : lo ≤ k) (hk : k < Ak.slots.size) (hv : v = f k) : Laid A (Ak.setSlot k v) lo (k + 1) f := by
  refine ⟨h.1, h.2.1, by simpa [Cell.setSlot] using h.2.2.1, fun i => ?_⟩
  by_cases e : k = i
  · subst e; rw [Cell.slots_setSlot_self v hk, if_pos (by omega), hv]
  · rw [Cell.slots_setSlot_ne v e, h.2.2.2 i]
    by_cases q : lo ≤ i ∧ i < k
    · rw [if_pos q, if_pos (by omega)]
    · rw [if_neg q, if_neg (by omega)]
def U16 : String := "java/lang/StringUTF16"
namespace Cmp5
def yN : MethodName := ⟨"java/lang/StringUTF16", "compress", "([CI[BII)I"⟩
abbrev yB : ByteArray := jdk_52_method_21_code
theorem d0 : decode yB 0 = .ok (.iconst 0, 1) := by decide +kernel
theorem d1 : decode yB 1 = .ok (.istore 5, 2) := by decide +kernel
theorem d3 : decode yB 3 = .ok (.iload 5, 2) := by decide +kernel
theorem d5 : decode yB 5 = .ok (.iload 4, 2) := by decide +kernel
theorem d7 : decode yB 7 = .ok (.if_icmp (.ge) 37, 3) := by decide +kernel
theorem d10 : decode yB 10 = .ok (.aload_n 0, 1) := by decide +kernel
theorem d11 : decode yB 11 = .ok (.iload_n 1, 1) := by decide +kernel
theorem d12 : decode yB 12 = .ok (.caload, 1) := by decide +kernel
theorem d13 : decode yB 13 = .ok (.istore 6, 2) := by decide +kernel
theorem d15 : decode yB 15 = .ok (.iload 6, 2) := by decide +kernel
theorem d17 : decode yB 17 = .ok (.sipush 255, 3) := by decide +kernel
theorem d20 : decode yB 20 = .ok (.if_icmp (.le) 6, 3) := by decide +kernel
theorem d26 : decode yB 26 = .ok (.aload_n 2, 1) := by decide +kernel
theorem d27 : decode yB 27 = .ok (.iload_n 3, 1) := by decide +kernel
theorem d28 : decode yB 28 = .ok (.iload 6, 2) := by decide +kernel
theorem d30 : decode yB 30 = .ok (.i2b, 1) := by decide +kernel
theorem d31 : decode yB 31 = .ok (.bastore, 1) := by decide +kernel
theorem d32 : decode yB 32 = .ok (.iinc 1 1, 3) := by decide +kernel
theorem d35 : decode yB 35 = .ok (.iinc 3 1, 3) := by decide +kernel
theorem d38 : decode yB 38 = .ok (.iinc 5 1, 3) := by decide +kernel
theorem d41 : decode yB 41 = .ok (.goto (-38), 3) := by decide +kernel
theorem d44 : decode yB 44 = .ok (.iload 4, 2) := by decide +kernel
theorem d46 : decode yB 46 = .ok (.ireturn, 1) := by decide +kernel
def site : List Cond := []
def tab : Cond := tabOf yN yB 7 (some .int) site
def P (b : Addr) (A : Cell) (d : Addr) (B : Cell) (o q len : Nat) (args : Array Value) (s : State) : Prop := args = #[.ref b, .int (Int32.ofNat o), .ref d, .int (Int32.ofNat q), .int (Int32.ofNat len)] ∧ Ch b A s ∧ Arr .byte d B s ∧ b ≠ d ∧ o + len ≤ A.slots.size ∧ q + len ≤ B.slots.size ∧ ∀ i, i < len → ¬ 255 < cv A (o + i)
def E (b : Addr) (A : Cell) (d : Addr) (B : Cell) (o q len : Nat) (r : Option Value) (s u : State) : Prop := r = some (.int (Int32.ofNat len)) ∧ ∃ B', Put d B' s u ∧ Laid B B' q (q + len) (fun j => Value.int (lo8 (cv A (o + (j - q)))))
/-- no char of the range above 255: len; the places written hold each char's low byte -/
theorem law (l : Launch) (b : Addr) (A : Cell) (d : Addr) (B : Cell) (o q len : Nat) : Law l yN 5 5 0 0 yB 7 (some .int) site (P b A d B o q len) (E b A d B o q len) (copyLocs d q len) 0 0 := by
  refine Law.of_walk (plainFor_of_name (by decide +kernel)) (by decide +kernel) (by decide +kernel) (by decide) (fun _ _ h => by rw [h.1]; rfl) (fun _ U U' hal hh h => ⟨h.1, h.2.1.mv hal hh, h.2.2.1.mv hal hh, h.2.2.2⟩) (fun r U U' V V' h1 hal h2 h => ⟨h.1, h.2.elim fun B' q => ⟨B', q.1.mv h1 h2, q.2⟩⟩) ?_
  intro p e s m args below meth c s₁ X0 hexec hbytes hml hret hlk hnm hown hh0 W hP
  obtain ⟨rfl, hA, hB, hne, l1, l2, hp⟩ := hP
  have c1 : Steps p.tables e below (s₁.setTop (entryFrame m #[.ref b, .int (Int32.ofNat o), .ref d, .int (Int32.ofNat q), .int (Int32.ofNat len)] 7)) (s₁.setTop (mkF m 0 #[.val (.ref b), .val (.int (Int32.ofNat o)), .val (.ref d), .val (.int (Int32.ofNat q)), .val (.int (Int32.ofNat len)), .unset, .unset] [])) := entry rfl
  have hA0 := hA.1.mv X0.warmed.alike hh0
  have hB0 := hB.mv X0.warmed.alike hh0
  have a31 := hA.1.2.2.2
  have c2 : Steps p.tables e below (s₁.setTop (entryFrame m #[.ref b, .int (Int32.ofNat o), .ref d, .int (Int32.ofNat q), .int (Int32.ofNat len)] 7)) (s₁.setTop (mkF m 3 #[.val (.ref b), .val (.int (Int32.ofNat o)), .val (.ref d), .val (.int (Int32.ofNat q)), .val (.int (Int32.ofNat len)), .val (.int 0), .unset] [])) := c1.trans (by
    refine iconstV X0.here hexec rfl 0 (hb hbytes d0) (by decide) ?_
    refine XS.istore X0.here hexec rfl (hb hbytes d1) rfl rfl ?_
    exact Steps.refl _)
  have loop : ∀ (r i : Nat), i + r = len → ∀ (z : Slot), (z = .unset ∨ ∃ w, z = .val w ∧ w.category = 1) → ∀ (Tl : State) (Bk : Cell), Stand p l e { frames := 0, locals := 0, cells := 0, slots := 0 } s m #[.ref b, .int (Int32.ofNat o), .ref d, .int (Int32.ofNat q), .int (Int32.ofNat len)] below meth c Tl ([] ++ copyLocs d q i) 0 0 → Put d Bk s₁ Tl → Laid B Bk q (q + i) (fun j => Value.int (lo8 (cv A (o + (j - q))))) →
      Steps p.tables e below (s₁.setTop (entryFrame m #[.ref b, .int (Int32.ofNat o), .ref d, .int (Int32.ofNat q), .int (Int32.ofNat len)] 7)) (Tl.setTop (mkF m 3 #[.val (.ref b), .val (.int (Int32.ofNat (o + i))), .val (.ref d), .val (.int (Int32.ofNat (q + i))), .val (.int (Int32.ofNat len)), .val (.int (Int32.ofNat i)), z] [])) → ∃ (T' : State) (B' : Cell) (z' : Slot), Stand p l e { frames := 0, locals := 0, cells := 0, slots := 0 } s m #[.ref b, .int (Int32.ofNat o), .ref d, .int (Int32.ofNat q), .int (Int32.ofNat len)] below meth c T' ([] ++ copyLocs d q len) 0 0 ∧ Put d B' s₁ T' ∧ Laid B B' q (q + len) (fun j => Value.int (lo8 (cv A (o + (j - q))))) ∧
      Steps p.tables e below (s₁.setTop (entryFrame m #[.ref b, .int (Int32.ofNat o), .ref d, .int (Int32.ofNat q), .int (Int32.ofNat len)] 7)) (T'.setTop (mkF m 3 #[.val (.ref b), .val (.int (Int32.ofNat (o + len))), .val (.ref d), .val (.int (Int32.ofNat (q + len))), .val (.int (Int32.ofNat len)), .val (.int (Int32.ofNat len)), z'] [])) := by
    intro r
    induction r with
    | zero =>
      intro i hi z hz Tl Bk Xl pl fl cl
      have hil : i = len := by omega
      rw [hil] at Xl fl cl
      exact ⟨Tl, Bk, z, Xl, pl, fl, cl⟩
    | succ r ih =>
      intro i hi z hz Tl Bk Xl pl fl cl
      have all := X0.warmed.alike.symm.trans Xl.warmed.alike
      have hAl := hA0.keep all (pl.other hne hA0.1)
      have hBk := hB0.like all pl.1 fl.1 fl.2.1 fl.2.2.1
      have hlt : q + i < Bk.slots.size := by rw [fl.2.2.1]; omega
      have c3 : Steps p.tables e below (s₁.setTop (entryFrame m #[.ref b, .int (Int32.ofNat o), .ref d, .int (Int32.ofNat q), .int (Int32.ofNat len)] 7)) (Tl.setTop (mkF m 12 #[.val (.ref b), .val (.int (Int32.ofNat (o + i))), .val (.ref d), .val (.int (Int32.ofNat (q + i))), .val (.int (Int32.ofNat len)), .val (.int (Int32.ofNat i)), z] [.int (Int32.ofNat (o + i)), .ref b])) := cl.trans (by
        refine XS.iload Xl.here hexec rfl (hb hbytes d3) rfl ?_
        refine XS.iload Xl.here hexec rfl (hb hbytes d5) rfl ?_
        refine XS.icmpNo Xl.here hexec rfl (hb hbytes d7) rfl (ii_ge_f (lt32 (by omega) (by omega))) ?_
        refine XS.aloadN Xl.here hexec rfl (hb hbytes d10) rfl rfl ?_
        refine XS.iloadN Xl.here hexec rfl (hb hbytes d11) rfl ?_
        exact Steps.refl _)
      have c4 : Steps p.tables e below (s₁.setTop (entryFrame m #[.ref b, .int (Int32.ofNat o), .ref d, .int (Int32.ofNat q), .int (Int32.ofNat len)] 7)) (Tl.setTop (mkF m 13 #[.val (.ref b), .val (.int (Int32.ofNat (o + i))), .val (.ref d), .val (.int (Int32.ofNat (q + i))), .val (.int (Int32.ofNat len)), .val (.int (Int32.ofNat i)), z] [.int (cv A (o + i))])) := c3.trans (by
        refine Xl.aget hexec hAl rfl (hA.get (i := o + i) (by omega)) rfl rfl (hb hbytes d12) ?_
        exact Steps.refl _)
      have c5 : Steps p.tables e below (s₁.setTop (entryFrame m #[.ref b, .int (Int32.ofNat o), .ref d, .int (Int32.ofNat q), .int (Int32.ofNat len)] 7)) (Tl.setTop (mkF m 15 #[.val (.ref b), .val (.int (Int32.ofNat (o + i))), .val (.ref d), .val (.int (Int32.ofNat (q + i))), .val (.int (Int32.ofNat len)), .val (.int (Int32.ofNat i)), .val (.int (cv A (o + i)))] [])) := c4.trans (by
        refine XS.istoreS Xl.here hexec rfl (hb hbytes d13) rfl rfl hz ?_
        exact Steps.refl _)
      have c6 : Steps p.tables e below (s₁.setTop (entryFrame m #[.ref b, .int (Int32.ofNat o), .ref d, .int (Int32.ofNat q), .int (Int32.ofNat len)] 7)) (Tl.setTop (mkF m 31 #[.val (.ref b), .val (.int (Int32.ofNat (o + i))), .val (.ref d), .val (.int (Int32.ofNat (q + i))), .val (.int (Int32.ofNat len)), .val (.int (Int32.ofNat i)), .val (.int (cv A (o + i)))] [.int (lo8 (cv A (o + i))), .int (Int32.ofNat (q + i)), .ref d])) := c5.trans (by
        refine XS.iload Xl.here hexec rfl (hb hbytes d15) rfl ?_
        refine sipushV Xl.here hexec rfl 255 (hb hbytes d17) (by decide) ?_
        refine XS.icmpYes Xl.here hexec rfl (pc0 := 20) rfl (hb hbytes d20) rfl (ii_le_t (hp i (by omega))) (by decide) rfl ?_
        refine XS.aloadN Xl.here hexec rfl (hb hbytes d26) rfl rfl ?_
        refine XS.iloadN Xl.here hexec rfl (hb hbytes d27) rfl ?_
        refine XS.iload Xl.here hexec rfl (hb hbytes d28) rfl ?_
        refine i2b Xl.here hexec rfl (hb hbytes d30) rfl ?_
        exact Steps.refl _)
      obtain ⟨T7, X7, p7, st7⟩ := Xl.aput hexec hBk rfl hlt rfl (fits_lo8 (cv A (o + i))) (g := (mkF m 31 #[.val (.ref b), .val (.int (Int32.ofNat (o + i))), .val (.ref d), .val (.int (Int32.ofNat (q + i))), .val (.int (Int32.ofNat len)), .val (.int (Int32.ofNat i)), .val (.int (cv A (o + i)))] [.int (lo8 (cv A (o + i))), .int (Int32.ofNat (q + i)), .ref d])) rfl (rest := []) rfl (hb hbytes d31)
      have c8 : Steps p.tables e below (s₁.setTop (entryFrame m #[.ref b, .int (Int32.ofNat o), .ref d, .int (Int32.ofNat q), .int (Int32.ofNat len)] 7)) (T7.setTop (mkF m 32 #[.val (.ref b), .val (.int (Int32.ofNat (o + i))), .val (.ref d), .val (.int (Int32.ofNat (q + i))), .val (.int (Int32.ofNat len)), .val (.int (Int32.ofNat i)), .val (.int (cv A (o + i)))] [])) := c6.trans (st7 _ (Steps.refl _))
      have c9 : Steps p.tables e below (s₁.setTop (entryFrame m #[.ref b, .int (Int32.ofNat o), .ref d, .int (Int32.ofNat q), .int (Int32.ofNat len)] 7)) (T7.setTop (mkF m 3 #[.val (.ref b), .val (.int (Int32.ofNat (o + i) + 1)), .val (.ref d), .val (.int (Int32.ofNat (q + i) + 1)), .val (.int (Int32.ofNat len)), .val (.int (Int32.ofNat i + 1)), .val (.int (cv A (o + i)))] [])) := c8.trans (by
        refine iincV X7.here hexec rfl 1 (hb hbytes d32) (by decide) rfl rfl ?_
        refine iincV X7.here hexec rfl 1 (hb hbytes d35) (by decide) rfl rfl ?_
        refine iincV X7.here hexec rfl 1 (hb hbytes d38) (by decide) rfl rfl ?_
        refine XS.goto X7.here hexec rfl (pc0 := 41) rfl (hb hbytes d41) (by decide) rfl ?_
        exact Steps.refl _)
      have c10 : Steps p.tables e below (s₁.setTop (entryFrame m #[.ref b, .int (Int32.ofNat o), .ref d, .int (Int32.ofNat q), .int (Int32.ofNat len)] 7)) (T7.setTop (mkF m 3 #[.val (.ref b), .val (.int (Int32.ofNat (o + (i + 1)))), .val (.ref d), .val (.int (Int32.ofNat (q + (i + 1)))), .val (.int (Int32.ofNat len)), .val (.int (Int32.ofNat (i + 1))), .val (.int (cv A (o + i)))] [])) := by
        have := c9
        rw [succ32, succ32, succ32] at this
        exact this
      exact ih (i + 1) (by omega) _ (Or.inr ⟨_, rfl, rfl⟩) T7 _ (by rw [copyLocs_step, ← List.append_assoc]; exact X7) (pl.trans p7) (fl.step (by omega) hlt (by simp)) c10
  obtain ⟨T9, B9, z9, X9, p9, f9, g9⟩ := loop len 0 (by omega) .unset (Or.inl rfl) s₁ B (by simpa [copyLocs] using X0) ⟨hB0.1, fun _ _ => rfl, rfl⟩ (Laid.zero _ _ _) c2
  have c11 : Steps p.tables e below (s₁.setTop (entryFrame m #[.ref b, .int (Int32.ofNat o), .ref d, .int (Int32.ofNat q), .int (Int32.ofNat len)] 7)) (T9.setTop (mkF m 46 #[.val (.ref b), .val (.int (Int32.ofNat (o + len))), .val (.ref d), .val (.int (Int32.ofNat (q + len))), .val (.int (Int32.ofNat len)), .val (.int (Int32.ofNat len)), z9] [.int (Int32.ofNat len)])) := g9.trans (by
    refine XS.iload X9.here hexec rfl (hb hbytes d3) rfl ?_
    refine XS.iload X9.here hexec rfl (hb hbytes d5) rfl ?_
    refine XS.icmpYes X9.here hexec rfl (pc0 := 7) rfl (hb hbytes d7) rfl (ii_ge_t (nlt32 (by omega) (Nat.le_refl _))) (by decide) rfl ?_
    refine XS.iload X9.here hexec rfl (hb hbytes d44) rfl ?_
    exact Steps.refl _)
  exact ⟨T9, some (.int (Int32.ofNat len)), _, _, _, X9, by simp, rfl, rfl, (fun h => by cases h), ⟨rfl, B9, p9.from hh0, f9⟩, fun fs hl => c11.trans (X9.ireturnOut hexec hret rfl (Or.inl rfl) (hb hbytes d46) hl)⟩
end Cmp5
namespace Cmp3
def yN : MethodName := ⟨"java/lang/StringUTF16", "compress", "([CII)[B"⟩
abbrev yB : ByteArray := jdk_52_method_16_code
theorem d0 : decode yB 0 = .ok (.iload_n 2, 1) := by decide +kernel
theorem d1 : decode yB 1 = .ok (.newarray .byte, 2) := by decide +kernel
theorem d3 : decode yB 3 = .ok (.astore_n 3, 1) := by decide +kernel
theorem d4 : decode yB 4 = .ok (.aload_n 0, 1) := by decide +kernel
theorem d5 : decode yB 5 = .ok (.iload_n 1, 1) := by decide +kernel
theorem d6 : decode yB 6 = .ok (.aload_n 3, 1) := by decide +kernel
theorem d7 : decode yB 7 = .ok (.iconst 0, 1) := by decide +kernel
theorem d8 : decode yB 8 = .ok (.iload_n 2, 1) := by decide +kernel
theorem d9 : decode yB 9 = .ok (.invokestatic 115, 3) := by decide +kernel
theorem d12 : decode yB 12 = .ok (.istore 4, 2) := by decide +kernel
theorem d14 : decode yB 14 = .ok (.iload 4, 2) := by decide +kernel
theorem d16 : decode yB 16 = .ok (.iload_n 2, 1) := by decide +kernel
theorem d17 : decode yB 17 = .ok (.if_icmp (.eq) 40, 3) := by decide +kernel
theorem d57 : decode yB 57 = .ok (.aload_n 3, 1) := by decide +kernel
theorem d58 : decode yB 58 = .ok (.areturn, 1) := by decide +kernel
def site : List Cond := [.arrayClass .byte, Cmp5.tab] ++ staticW U16 115 Cmp5.yN
def tab : Cond := tabOf yN yB 6 (some (.array .byte)) site
def P (b : Addr) (A : Cell) (o len : Nat) (args : Array Value) (s : State) : Prop := args = #[.ref b, .int (Int32.ofNat o), .int (Int32.ofNat len)] ∧ Ch b A s ∧ o + len ≤ A.slots.size ∧ len ≤ 536870912 ∧ ∀ i, i < len → ¬ 255 < cv A (o + i)
def E (b : Addr) (A : Cell) (o len : Nat) (r : Option Value) (s u : State) : Prop := NewArr .byte "[B" len (fun j => .int (lo8 (cv A (o + j)))) r s u ∧ u.heap.size = s.heap.size + 1
/-- no char of the range above 255: a new byte[] of their low bytes -/
theorem law (l : Launch) (b : Addr) (A : Cell) (o len : Nat) : Law l yN 3 3 1 18 yB 6 (some (.array .byte)) site (P b A o len) (E b A o len) [] 1 len := by
  refine Law.of_walk (plainFor_of_name (by decide +kernel)) (by decide +kernel) (by decide +kernel) (by decide) (fun _ _ h => by rw [h.1]; rfl) (fun _ U U' hal hh h => ⟨h.1, h.2.1.mv hal hh, h.2.2⟩) (fun r U U' V V' h1 hal h2 h => ⟨NewArr.mv r U U' V V' h1 hal h2 h.1, by rw [h1, h2]; exact h.2⟩) ?_
  intro p e s m args below meth c s₁ X0 hexec hbytes hml hret hlk hnm hown hh0 W hP
  obtain ⟨rfl, hA, l1, l2, hp⟩ := hP
  have a31 := hA.1.2.2.2
  have c1 : Steps p.tables e below (s₁.setTop (entryFrame m #[.ref b, .int (Int32.ofNat o), .int (Int32.ofNat len)] 6)) (s₁.setTop (mkF m 0 #[.val (.ref b), .val (.int (Int32.ofNat o)), .val (.int (Int32.ofNat len)), .unset, .unset, .unset] [])) := entry rfl
  have c2 : Steps p.tables e below (s₁.setTop (entryFrame m #[.ref b, .int (Int32.ofNat o), .int (Int32.ofNat len)] 6)) (s₁.setTop (mkF m 1 #[.val (.ref b), .val (.int (Int32.ofNat o)), .val (.int (Int32.ofNat len)), .unset, .unset, .unset] [.int (Int32.ofNat len)])) := c1.trans (by
    refine XS.iloadN X0.here hexec rfl (hb hbytes d0) rfl ?_
    exact Steps.refl _)
  obtain ⟨T3, B3, X3, ba3, bs3, bv3, bh3, bf3, st3⟩ := X0.anew hexec (atype := .byte) (wk W (.arrayClass .byte)) rfl (by show len * 1 ≤ _; omega) (by omega) (g := (mkF m 1 #[.val (.ref b), .val (.int (Int32.ofNat o)), .val (.int (Int32.ofNat len)), .unset, .unset, .unset] [.int (Int32.ofNat len)])) rfl (hb hbytes d1) (rest := []) rfl (Nat.le_refl _) (by show 0 + len ≤ len; omega)
  rw [hh0] at ba3 st3
  have kp3 : XT.Kept s T3 := (XT.Kept.of_eq hh0).push bh3
  have hA3 := hA.keep X3.warmed.alike (kp3 _ _ hA.1.1)
  have hne : b ≠ s.heap.size := hA.1.ne
  have c4 : Steps p.tables e below (s₁.setTop (entryFrame m #[.ref b, .int (Int32.ofNat o), .int (Int32.ofNat len)] 6)) (T3.setTop (mkF m 3 #[.val (.ref b), .val (.int (Int32.ofNat o)), .val (.int (Int32.ofNat len)), .unset, .unset, .unset] [.ref s.heap.size])) := c2.trans (st3 _ (Steps.refl _))
  have c5 : Steps p.tables e below (s₁.setTop (entryFrame m #[.ref b, .int (Int32.ofNat o), .int (Int32.ofNat len)] 6)) (T3.setTop (mkF m 9 #[.val (.ref b), .val (.int (Int32.ofNat o)), .val (.int (Int32.ofNat len)), .val (.ref s.heap.size), .unset, .unset] [.int (Int32.ofNat len), .int 0, .ref s.heap.size, .int (Int32.ofNat o), .ref b])) := c4.trans (by
    refine XS.astoreN X3.here hexec rfl (hb hbytes d3) rfl rfl rfl ?_
    refine XS.aloadN X3.here hexec rfl (hb hbytes d4) rfl rfl ?_
    refine XS.iloadN X3.here hexec rfl (hb hbytes d5) rfl ?_
    refine XS.aloadN X3.here hexec rfl (hb hbytes d6) rfl rfl ?_
    refine iconstV X3.here hexec rfl 0 (hb hbytes d7) (by decide) ?_
    refine XS.iloadN X3.here hexec rfl (hb hbytes d8) rfl ?_
    exact Steps.refl _)
  obtain ⟨v6, T6, X6, E6, g6⟩ := X3.callS hexec (Cmp5.law l b A s.heap.size B3 o 0 len) hown (wks W (staticW U16 115 Cmp5.yN)) (wk W Cmp5.tab) (W := 0) (Nat.le_of_ble_eq_true rfl) (Nat.le_of_ble_eq_true rfl) (Nat.le_refl _) (by show 0 + len + 0 ≤ len; omega) (g := (mkF m 9 #[.val (.ref b), .val (.int (Int32.ofNat o)), .val (.int (Int32.ofNat len)), .val (.ref s.heap.size), .unset, .unset] [.int (Int32.ofNat len), .int (Int32.ofNat 0), .ref s.heap.size, .int (Int32.ofNat o), .ref b])) rfl (by rw [hml]; rfl) c5 (argsL := [.ref b, .int (Int32.ofNat o), .ref s.heap.size, .int (Int32.ofNat 0), .int (Int32.ofNat len)]) (rest := []) rfl rfl (by show 2 * 0 + 0 ≤ _; decide) (hb hbytes d9) (⟨rfl, hA3, ba3, hne, l1, by rw [bs3]; simp, hp⟩)
  obtain ⟨rfl, B6, p6, f6⟩ := E6
  have c7 : Steps p.tables e below (s₁.setTop (entryFrame m #[.ref b, .int (Int32.ofNat o), .int (Int32.ofNat len)] 6)) (T6.setTop (mkF m 12 #[.val (.ref b), .val (.int (Int32.ofNat o)), .val (.int (Int32.ofNat len)), .val (.ref s.heap.size), .unset, .unset] [.int (Int32.ofNat len)])) := g6
  have c8 : Steps p.tables e below (s₁.setTop (entryFrame m #[.ref b, .int (Int32.ofNat o), .int (Int32.ofNat len)] 6)) (T6.setTop (mkF m 58 #[.val (.ref b), .val (.int (Int32.ofNat o)), .val (.int (Int32.ofNat len)), .val (.ref s.heap.size), .val (.int (Int32.ofNat len)), .unset] [.ref s.heap.size])) := c7.trans (by
    refine XS.istore X6.here hexec rfl (hb hbytes d12) rfl rfl ?_
    refine XS.iload X6.here hexec rfl (hb hbytes d14) rfl ?_
    refine XS.iloadN X6.here hexec rfl (hb hbytes d16) rfl ?_
    refine XS.icmpYes X6.here hexec rfl (pc0 := 17) rfl (hb hbytes d17) rfl (ii_eq_t rfl) (by decide) rfl ?_
    refine XS.aloadN X6.here hexec rfl (hb hbytes d57) rfl rfl ?_
    exact Steps.refl _)
  have X8 := X6.wide (L' := []) (cells' := 1) (slots' := len) (fun x hx hlt => by
    simp only [List.nil_append, copyLocs, List.mem_map, List.mem_range] at hx
    obtain ⟨i, -, rfl⟩ := hx
    exact absurd hlt (Nat.lt_irrefl _)) (Nat.le_refl _) (by omega)
  exact ⟨T6, some (.ref s.heap.size), _, _, _, X8, rfl, rfl, rfl, (fun h => by cases h), ⟨⟨rfl, B6, ba3.like (X3.warmed.alike.symm.trans X6.warmed.alike) p6.1 f6.1 f6.2.1 f6.2.2.1, f6.2.1.trans bv3, by rw [X6.warmed.alike.findClass, f6.1]; exact bf3, by rw [f6.2.2.1, bs3]; simp, fun j hj => by rw [f6.2.2.2 j, if_pos (by omega)]; rfl, kp3.put p6 (Nat.le_refl _)⟩, by rw [p6.2.2, bh3, hh0]; simp⟩, fun fs hl => c8.trans (X8.areturnOut hexec rfl hret rfl (hb hbytes d58) hl)⟩
end Cmp3
namespace CodL
def yN : MethodName := ⟨"java/lang/StringUTF16", "coderFromArrayLen", "([BI)B"⟩
abbrev yB : ByteArray := jdk_52_method_15_code
theorem d0 : decode yB 0 = .ok (.iload_n 1, 1) := by decide +kernel
theorem d1 : decode yB 1 = .ok (.aload_n 0, 1) := by decide +kernel
theorem d2 : decode yB 2 = .ok (.arraylength, 1) := by decide +kernel
theorem d3 : decode yB 3 = .ok (.isub, 1) := by decide +kernel
theorem d4 : decode yB 4 = .ok (.bipush 31, 2) := by decide +kernel
theorem d6 : decode yB 6 = .ok (.iushr, 1) := by decide +kernel
theorem d7 : decode yB 7 = .ok (.i2b, 1) := by decide +kernel
theorem d8 : decode yB 8 = .ok (.ireturn, 1) := by decide +kernel
def site : List Cond := []
def tab : Cond := tabOf yN yB 2 (some .byte) site
def P (d : Addr) (B : Cell) (args : Array Value) (s : State) : Prop := args = #[.ref d, .int (Int32.ofNat B.slots.size)] ∧ Arr .byte d B s
def E (r : Option Value) (s u : State) : Prop := XT.PureE (some (.int 0)) r s u
/-- an array as long as the number of chars: LATIN1 -/
theorem law (l : Launch) (d : Addr) (B : Cell) : Law l yN 2 2 0 0 yB 2 (some .byte) site (P d B) E [] 0 0 := by
  refine Law.of_walk (plainFor_of_name (by decide +kernel)) (by decide +kernel) (by decide +kernel) (by decide) (fun _ _ h => by rw [h.1]; rfl) (fun _ U U' hal hh h => ⟨h.1, h.2.mv hal hh⟩) (fun r U U' V V' h1 hal h2 h => XT.PureE.mv r U U' V V' h1 hal h2 h) ?_
  intro p e s m args below meth c s₁ X0 hexec hbytes hml hret hlk hnm hown hh0 W hP
  obtain ⟨rfl, hB⟩ := hP
  have hB0 := hB.mv X0.warmed.alike hh0
  have c1 : Steps p.tables e below (s₁.setTop (entryFrame m #[.ref d, .int (Int32.ofNat B.slots.size)] 2)) (s₁.setTop (mkF m 0 #[.val (.ref d), .val (.int (Int32.ofNat B.slots.size))] [])) := entry rfl
  have c2 : Steps p.tables e below (s₁.setTop (entryFrame m #[.ref d, .int (Int32.ofNat B.slots.size)] 2)) (s₁.setTop (mkF m 2 #[.val (.ref d), .val (.int (Int32.ofNat B.slots.size))] [.ref d, .int (Int32.ofNat B.slots.size)])) := c1.trans (by
    refine XS.iloadN X0.here hexec rfl (hb hbytes d0) rfl ?_
    refine XS.aloadN X0.here hexec rfl (hb hbytes d1) rfl rfl ?_
    exact Steps.refl _)
  have c3 : Steps p.tables e below (s₁.setTop (entryFrame m #[.ref d, .int (Int32.ofNat B.slots.size)] 2)) (s₁.setTop (mkF m 8 #[.val (.ref d), .val (.int (Int32.ofNat B.slots.size))] [.int (lo8 (ushr (Int32.ofNat B.slots.size - Int32.ofNat B.slots.size) 31))])) := c2.trans (by
    refine X0.alen hexec hB0 rfl rfl (hb hbytes d2) ?_
    refine XS.isub X0.here hexec rfl (hb hbytes d3) rfl ?_
    refine bipushV X0.here hexec rfl 31 (hb hbytes d4) (by decide) ?_
    refine iushr X0.here hexec rfl (hb hbytes d6) rfl ?_
    refine i2b X0.here hexec rfl (hb hbytes d7) rfl ?_
    exact Steps.refl _)
  have e0 : lo8 (ushr (Int32.ofNat B.slots.size - Int32.ofNat B.slots.size) 31) = 0 := by rw [Int32.sub_self]; decide
  rw [e0] at c3
  exact ⟨s₁, some (.int 0), _, _, _, X0, rfl, rfl, rfl, (fun h => by cases h), ⟨rfl, hh0⟩, fun fs hl => c3.trans (X0.ireturnOut hexec hret rfl (Or.inr (Or.inr (Or.inl rfl))) (hb hbytes d8) hl)⟩
end CodL
/-- the String at a is Latin-1 over a new byte[] (the heap's one new cell): the low bytes of the len chars of A from o on; every cell but a is kept -/
def Got (a : Addr) (D : Cell) (fV fC : Field) (A : Cell) (o len : Nat) (r : Option Value) (s u : State) : Prop := r = none ∧ ∃ D' V : Cell, Blank "java/lang/String" a D' u ∧ Same D D' [fV.slot, fC.slot] ∧ D'.slots[fV.slot]? = some (.ref s.heap.size) ∧ D'.slots[fC.slot]? = some (.int 0) ∧ Arr .byte s.heap.size V u ∧ V.vm = .none ∧ u.vm.findClass "[B" = some V.cls ∧ V.slots.size = len ∧ (∀ j, j < len → V.slots[j]? = some (.int (lo8 (cv A (o + j))))) ∧ (∀ (y : Addr) (c : Cell), y ≠ a → s.heap[y]? = some c → u.heap[y]? = some c) ∧ u.heap.size = s.heap.size + 1
theorem Got.mv {a : Addr} {D A : Cell} {fV fC : Field} {o len : Nat} : ∀ r (U U' V V' : State), U'.heap = U.heap → V.vm.Alike V'.vm → V'.heap = V.heap → Got a D fV fC A o len r U V → Got a D fV fC A o len r U' V' :=
  fun r U U' V V' h1 hal h2 ⟨e0, D', X, a1, a2, a3, a4, a5, a6, a7, a8, a9, a10, a11⟩ => ⟨e0, D', X, a1.mv hal h2, a2, by rw [h1]; exact a3, a4, by rw [h1]; exact a5.mv hal h2, a6, by rw [hal.findClass]; exact a7, a8, a9, by rw [h1, h2]; exact a10, by rw [h1, h2]; exact a11⟩
namespace New4
def yN : MethodName := ⟨"java/lang/String", "<init>", "([CIILjava/lang/Void;)V"⟩
abbrev yB : ByteArray := jdk_42_method_149_code
theorem d0 : decode yB 0 = .ok (.aload_n 0, 1) := by decide +kernel
theorem d1 : decode yB 1 = .ok (.invokespecial 1, 3) := by decide +kernel
theorem d4 : decode yB 4 = .ok (.iload_n 3, 1) := by decide +kernel
theorem d5 : decode yB 5 = .ok (.ifCond (.ne) 22, 3) := by decide +kernel
theorem d27 : decode yB 27 = .ok (.getstatic 38, 3) := by decide +kernel
theorem d30 : decode yB 30 = .ok (.ifCond (.eq) 28, 3) := by decide +kernel
theorem d33 : decode yB 33 = .ok (.aload_n 1, 1) := by decide +kernel
theorem d34 : decode yB 34 = .ok (.iload_n 2, 1) := by decide +kernel
theorem d35 : decode yB 35 = .ok (.iload_n 3, 1) := by decide +kernel
theorem d36 : decode yB 36 = .ok (.invokestatic 177, 3) := by decide +kernel
theorem d39 : decode yB 39 = .ok (.astore 5, 2) := by decide +kernel
theorem d41 : decode yB 41 = .ok (.aload_n 0, 1) := by decide +kernel
theorem d42 : decode yB 42 = .ok (.aload 5, 2) := by decide +kernel
theorem d44 : decode yB 44 = .ok (.iload_n 3, 1) := by decide +kernel
theorem d45 : decode yB 45 = .ok (.invokestatic 47, 3) := by decide +kernel
theorem d48 : decode yB 48 = .ok (.putfield 15, 3) := by decide +kernel
theorem d51 : decode yB 51 = .ok (.aload_n 0, 1) := by decide +kernel
theorem d52 : decode yB 52 = .ok (.aload 5, 2) := by decide +kernel
theorem d54 : decode yB 54 = .ok (.putfield 9, 3) := by decide +kernel
theorem d57 : decode yB 57 = .ok (.return_, 1) := by decide +kernel
def site : List Cond := [.fieldLink "java/lang/String" 38 "java/lang/String" "COMPACT_STRINGS" "Z", Cmp3.tab, CodL.tab, .laysFinal "java/lang/String" "java/lang/String" "value" "[B", .fieldLink "java/lang/String" 9 "java/lang/String" "value" "[B", .laysFinal "java/lang/String" "java/lang/String" "coder" "B", .fieldLink "java/lang/String" 15 "java/lang/String" "coder" "B"] ++ objW "java/lang/String" 1 ++ staticW "java/lang/String" 177 Cmp3.yN ++ staticW "java/lang/String" 47 CodL.yN
def tab : Cond := tabOf yN yB 6 none site
def P (a : Addr) (D : Cell) (fV fC : Field) (b : Addr) (A : Cell) (z : Int32) (o len : Nat) (args : Array Value) (s : State) : Prop := args = #[.ref a, .ref b, .int (Int32.ofNat o), .int (Int32.ofNat len), .null] ∧ Blank "java/lang/String" a D s ∧ Found "java/lang/String" "value" "[B" fV s ∧ Found "java/lang/String" "coder" "B" fC s ∧ Ch b A s ∧ StaticIs s "java/lang/String" "COMPACT_STRINGS" "Z" (.int z) ∧ ¬ z = 0 ∧ 0 < len ∧ o + len ≤ A.slots.size ∧ len ≤ 536870912 ∧ ∀ i, i < len → ¬ 255 < cv A (o + i)
def E (a : Addr) (D : Cell) (fV fC : Field) (A : Cell) (o len : Nat) (r : Option Value) (s u : State) : Prop := Got a D fV fC A o len r s u
/-- len > 0, no char of the range above 255: a Latin-1 String of their low bytes -/
theorem law (l : Launch) (a : Addr) (D : Cell) (fV fC : Field) (b : Addr) (A : Cell) (z : Int32) (o len : Nat) : Law l yN 5 4 2 35 yB 6 none site (P a D fV fC b A z o len) (E a D fV fC A o len) [⟨a, fC.slot⟩, ⟨a, fV.slot⟩] 1 len := by
  refine Law.of_walk (plainFor_of_name (by decide +kernel)) (by decide +kernel) (by decide +kernel) (by decide) (fun _ _ h => by rw [h.1]; rfl) (fun _ U U' hal hh h => ⟨h.1, h.2.1.mv hal hh, h.2.2.1.al hal, h.2.2.2.1.al hal, h.2.2.2.2.1.mv hal hh, h.2.2.2.2.2.1.there hal hh, h.2.2.2.2.2.2⟩) (fun r U U' V V' h1 hal h2 h => Got.mv r U U' V V' h1 hal h2 h) ?_
  intro p e s m args below meth c s₁ X0 hexec hbytes hml hret hlk hnm hown hh0 W hP
  obtain ⟨rfl, hB, f1, f2, hA, s1, hz, l0, l1, l2, hp⟩ := hP
  have a31 := hA.1.2.2.2
  have c1 : Steps p.tables e below (s₁.setTop (entryFrame m #[.ref a, .ref b, .int (Int32.ofNat o), .int (Int32.ofNat len), .null] 6)) (s₁.setTop (mkF m 0 #[.val (.ref a), .val (.ref b), .val (.int (Int32.ofNat o)), .val (.int (Int32.ofNat len)), .val .null, .unset] [])) := entry rfl
  have c2 : Steps p.tables e below (s₁.setTop (entryFrame m #[.ref a, .ref b, .int (Int32.ofNat o), .int (Int32.ofNat len), .null] 6)) (s₁.setTop (mkF m 1 #[.val (.ref a), .val (.ref b), .val (.int (Int32.ofNat o)), .val (.int (Int32.ofNat len)), .val .null, .unset] [.ref a])) := c1.trans (by
    refine XS.aloadN X0.here hexec rfl (hb hbytes d0) rfl rfl ?_
    exact Steps.refl _)
  obtain ⟨T3, X3, q3, st3⟩ := X0.oinit hexec hown (wks W (objW "java/lang/String" 1)) (g := (mkF m 1 #[.val (.ref a), .val (.ref b), .val (.int (Int32.ofNat o)), .val (.int (Int32.ofNat len)), .val .null, .unset] [.ref a])) rfl (by rw [hml]; rfl) (rest := []) rfl (hb hbytes d1) (W := 0) (by show 2 * 0 + 0 ≤ _; decide) (Nat.le_of_ble_eq_true rfl) (Nat.le_of_ble_eq_true rfl)
  have hh3 := q3.trans hh0
  have c4 : Steps p.tables e below (s₁.setTop (entryFrame m #[.ref a, .ref b, .int (Int32.ofNat o), .int (Int32.ofNat len), .null] 6)) (T3.setTop (mkF m 27 #[.val (.ref a), .val (.ref b), .val (.int (Int32.ofNat o)), .val (.int (Int32.ofNat len)), .val .null, .unset] [])) := (c2.trans (st3 _ (Steps.refl _))).trans (by
    refine XS.iloadN X3.here hexec rfl (hb hbytes d4) rfl ?_
    refine XS.ifYes X3.here hexec rfl (pc0 := 5) rfl (hb hbytes d5) rfl (i0_ne_t (nz32 (by omega) l0)) (by decide) rfl ?_
    exact Steps.refl _)
  obtain ⟨T5, X5, q5, st5⟩ := X3.sget hexec hown (wk W (.fieldLink "java/lang/String" 38 "java/lang/String" "COMPACT_STRINGS" "Z")) s1 (fun _ _ h => by rw [hh3]; exact h) (g := (mkF m 27 #[.val (.ref a), .val (.ref b), .val (.int (Int32.ofNat o)), .val (.int (Int32.ofNat len)), .val .null, .unset] [])) rfl (hb hbytes d27)
  have hh5 := q5.trans hh3
  have c6 : Steps p.tables e below (s₁.setTop (entryFrame m #[.ref a, .ref b, .int (Int32.ofNat o), .int (Int32.ofNat len), .null] 6)) (T5.setTop (mkF m 30 #[.val (.ref a), .val (.ref b), .val (.int (Int32.ofNat o)), .val (.int (Int32.ofNat len)), .val .null, .unset] [.int z])) := c4.trans (st5 _ (Steps.refl _))
  have c7 : Steps p.tables e below (s₁.setTop (entryFrame m #[.ref a, .ref b, .int (Int32.ofNat o), .int (Int32.ofNat len), .null] 6)) (T5.setTop (mkF m 36 #[.val (.ref a), .val (.ref b), .val (.int (Int32.ofNat o)), .val (.int (Int32.ofNat len)), .val .null, .unset] [.int (Int32.ofNat len), .int (Int32.ofNat o), .ref b])) := c6.trans (by
    refine XS.ifNo X5.here hexec rfl (hb hbytes d30) rfl (i0_eq_f hz) ?_
    refine XS.aloadN X5.here hexec rfl (hb hbytes d33) rfl rfl ?_
    refine XS.iloadN X5.here hexec rfl (hb hbytes d34) rfl ?_
    refine XS.iloadN X5.here hexec rfl (hb hbytes d35) rfl ?_
    exact Steps.refl _)
  obtain ⟨v8, T8, X8, E8, g8⟩ := X5.callS hexec (Cmp3.law l b A o len) hown (wks W (staticW "java/lang/String" 177 Cmp3.yN)) (wk W Cmp3.tab) (W := 0) (Nat.le_of_ble_eq_true rfl) (Nat.le_of_ble_eq_true rfl) (Nat.le_refl _) (by show 0 + len ≤ len; omega) (g := (mkF m 36 #[.val (.ref a), .val (.ref b), .val (.int (Int32.ofNat o)), .val (.int (Int32.ofNat len)), .val .null, .unset] [.int (Int32.ofNat len), .int (Int32.ofNat o), .ref b])) rfl (by rw [hml]; rfl) c7 (argsL := [.ref b, .int (Int32.ofNat o), .int (Int32.ofNat len)]) (rest := []) rfl rfl (by show 2 * 0 + 0 ≤ _; decide) (hb hbytes d36) (⟨rfl, hA.mv X5.warmed.alike hh5, l1, l2, hp⟩)
  obtain ⟨e8, z8⟩ := E8
  obtain ⟨rfl, N, n1, n2, n3, n4, n5, n6⟩ := NewArr.mv _ T5 s _ _ hh5.symm (Vm.Alike.refl _) rfl e8
  rw [hh5] at z8
  have hB1 := hB.keep X8.warmed.alike (n6 _ _ hB.1)
  have hne : s.heap.size ≠ a := (Nat.ne_of_lt (Array.getElem?_eq_some_iff.mp hB.1).1).symm
  have c9 : Steps p.tables e below (s₁.setTop (entryFrame m #[.ref a, .ref b, .int (Int32.ofNat o), .int (Int32.ofNat len), .null] 6)) (T8.setTop (mkF m 39 #[.val (.ref a), .val (.ref b), .val (.int (Int32.ofNat o)), .val (.int (Int32.ofNat len)), .val .null, .unset] [.ref s.heap.size])) := g8
  have c10 : Steps p.tables e below (s₁.setTop (entryFrame m #[.ref a, .ref b, .int (Int32.ofNat o), .int (Int32.ofNat len), .null] 6)) (T8.setTop (mkF m 45 #[.val (.ref a), .val (.ref b), .val (.int (Int32.ofNat o)), .val (.int (Int32.ofNat len)), .val .null, .val (.ref s.heap.size)] [.int (Int32.ofNat N.slots.size), .ref s.heap.size, .ref a])) := by
    have hc : Steps p.tables e below (s₁.setTop (entryFrame m #[.ref a, .ref b, .int (Int32.ofNat o), .int (Int32.ofNat len), .null] 6)) (T8.setTop (mkF m 45 #[.val (.ref a), .val (.ref b), .val (.int (Int32.ofNat o)), .val (.int (Int32.ofNat len)), .val .null, .val (.ref s.heap.size)] [.int (Int32.ofNat len), .ref s.heap.size, .ref a])) := c9.trans (by
      refine XS.astore X8.here hexec rfl (hb hbytes d39) rfl rfl rfl ?_
      refine XS.aloadN X8.here hexec rfl (hb hbytes d41) rfl rfl ?_
      refine XS.aload X8.here hexec rfl (hb hbytes d42) rfl rfl ?_
      refine XS.iloadN X8.here hexec rfl (hb hbytes d44) rfl ?_
      exact Steps.refl _)
    rw [n4]; exact hc
  obtain ⟨v11, T11, X11, E11, g11⟩ := X8.callS hexec (CodL.law l s.heap.size N) hown (wks W (staticW "java/lang/String" 47 CodL.yN)) (wk W CodL.tab) (W := 1) (Nat.le_of_ble_eq_true rfl) (Nat.le_of_ble_eq_true rfl) (Nat.le_refl _) (by show 0 + len + 0 ≤ len; omega) (g := (mkF m 45 #[.val (.ref a), .val (.ref b), .val (.int (Int32.ofNat o)), .val (.int (Int32.ofNat len)), .val .null, .val (.ref s.heap.size)] [.int (Int32.ofNat N.slots.size), .ref s.heap.size, .ref a])) rfl (by rw [hml]; rfl) c10 (argsL := [.ref s.heap.size, .int (Int32.ofNat N.slots.size)]) (rest := [.ref a]) rfl rfl (by show 2 * 0 + (1 + 0) ≤ _; decide) (hb hbytes d45) (⟨rfl, n1⟩)
  obtain ⟨rfl, q11⟩ := E11
  have hB11 := hB1.mv (X8.warmed.alike.symm.trans X11.warmed.alike) q11
  have c12 : Steps p.tables e below (s₁.setTop (entryFrame m #[.ref a, .ref b, .int (Int32.ofNat o), .int (Int32.ofNat len), .null] 6)) (T11.setTop (mkF m 48 #[.val (.ref a), .val (.ref b), .val (.int (Int32.ofNat o)), .val (.int (Int32.ofNat len)), .val .null, .val (.ref s.heap.size)] [.int 0, .ref a])) := g11
  obtain ⟨T13, X13, p13, bl13, sl13, st13⟩ := X11.finit hexec hown (wk W (.fieldLink "java/lang/String" 15 "java/lang/String" "coder" "B")) (Or.inr ⟨_, (wk W (.laysFinal "java/lang/String" "java/lang/String" "coder" "B"))⟩) (Or.inl ⟨rfl, hnm⟩) f2 (Or.inl rfl) hB11 (t := .byte) (by decide +kernel) rfl (g := (mkF m 48 #[.val (.ref a), .val (.ref b), .val (.int (Int32.ofNat o)), .val (.int (Int32.ofNat len)), .val .null, .val (.ref s.heap.size)] [.int 0, .ref a])) rfl (rest := []) rfl (hb hbytes d48)
  have c14 : Steps p.tables e below (s₁.setTop (entryFrame m #[.ref a, .ref b, .int (Int32.ofNat o), .int (Int32.ofNat len), .null] 6)) (T13.setTop (mkF m 54 #[.val (.ref a), .val (.ref b), .val (.int (Int32.ofNat o)), .val (.int (Int32.ofNat len)), .val .null, .val (.ref s.heap.size)] [.ref s.heap.size, .ref a])) := (c12.trans (st13 _ (Steps.refl _))).trans (by
    refine XS.aloadN X13.here hexec rfl (hb hbytes d51) rfl rfl ?_
    refine XS.aload X13.here hexec rfl (hb hbytes d52) rfl rfl ?_
    exact Steps.refl _)
  obtain ⟨T15, X15, p15, bl15, sl15, st15⟩ := X13.finit hexec hown (wk W (.fieldLink "java/lang/String" 9 "java/lang/String" "value" "[B")) (Or.inr ⟨_, (wk W (.laysFinal "java/lang/String" "java/lang/String" "value" "[B"))⟩) (Or.inl ⟨rfl, hnm⟩) f1 (Or.inl rfl) bl13 (t := (.array .byte)) (by decide +kernel) rfl (g := (mkF m 54 #[.val (.ref a), .val (.ref b), .val (.int (Int32.ofNat o)), .val (.int (Int32.ofNat len)), .val .null, .val (.ref s.heap.size)] [.ref s.heap.size, .ref a])) rfl (rest := []) rfl (hb hbytes d54)
  have c16 : Steps p.tables e below (s₁.setTop (entryFrame m #[.ref a, .ref b, .int (Int32.ofNat o), .int (Int32.ofNat len), .null] 6)) (T15.setTop (mkF m 57 #[.val (.ref a), .val (.ref b), .val (.int (Int32.ofNat o)), .val (.int (Int32.ofNat len)), .val .null, .val (.ref s.heap.size)] [])) := c14.trans (st15 _ (Steps.refl _))
  have ap := apart (Or.inr ⟨_, (wk W (.laysFinal "java/lang/String" "java/lang/String" "value" "[B"))⟩) (Or.inr ⟨_, (wk W (.laysFinal "java/lang/String" "java/lang/String" "coder" "B"))⟩) f1 f2 (t₁ := .array .byte) (t₂ := .byte) (by decide +kernel) (by decide +kernel) (by decide)
  have al := X8.warmed.alike.symm.trans X15.warmed.alike
  have n7 : T11.heap[s.heap.size]? = some N := by rw [q11]; exact n1.1
  exact ⟨T15, none, _, _, _, X15, by simp, rfl, by omega, (fun _ => rfl), ⟨rfl, _, N, bl15, ((Same.refl D _).set _ (by simp)).set _ (by simp), sl15, (Cell.slots_setSlot_ne _ ap).trans sl13, n1.keep al (p15.other hne (p13.other hne n7)), n2, by rw [al.findClass]; exact n3, n4, n5, fun y c h1 h2 => p15.other h1 (p13.other h1 (by rw [q11]; exact n6 y c h2)), by rw [p15.2.2, p13.2.2, q11]; exact z8⟩, fun fs hl => c16.trans (X15.returnOut hexec hret (hb hbytes d57) hl)⟩
end New4
namespace New1
def yN : MethodName := ⟨"java/lang/String", "<init>", "([C)V"⟩
abbrev yB : ByteArray := jdk_42_method_3_code
theorem d0 : decode yB 0 = .ok (.aload_n 0, 1) := by decide +kernel
theorem d1 : decode yB 1 = .ok (.aload_n 1, 1) := by decide +kernel
theorem d2 : decode yB 2 = .ok (.iconst 0, 1) := by decide +kernel
theorem d3 : decode yB 3 = .ok (.aload_n 1, 1) := by decide +kernel
theorem d4 : decode yB 4 = .ok (.arraylength, 1) := by decide +kernel
theorem d5 : decode yB 5 = .ok (.aconst_null, 1) := by decide +kernel
theorem d6 : decode yB 6 = .ok (.invokespecial 27, 3) := by decide +kernel
theorem d9 : decode yB 9 = .ok (.return_, 1) := by decide +kernel
def site : List Cond := [New4.tab] ++ initW "java/lang/String" 27 New4.yN
def tab : Cond := tabOf yN yB 2 none site
def P (a : Addr) (D : Cell) (fV fC : Field) (b : Addr) (A : Cell) (z : Int32) (args : Array Value) (s : State) : Prop := args = #[.ref a, .ref b] ∧ Blank "java/lang/String" a D s ∧ Found "java/lang/String" "value" "[B" fV s ∧ Found "java/lang/String" "coder" "B" fC s ∧ Ch b A s ∧ StaticIs s "java/lang/String" "COMPACT_STRINGS" "Z" (.int z) ∧ ¬ z = 0 ∧ 0 < A.slots.size ∧ A.slots.size ≤ 536870912 ∧ ∀ i, i < A.slots.size → ¬ 255 < cv A i
def E (a : Addr) (D : Cell) (fV fC : Field) (A : Cell) (r : Option Value) (s u : State) : Prop := Got a D fV fC A 0 A.slots.size r s u
/-- new String(chars), not empty, no char above 255: a Latin-1 String of their low bytes -/
theorem law (l : Launch) (a : Addr) (D : Cell) (fV fC : Field) (b : Addr) (A : Cell) (z : Int32) : Law l yN 2 1 3 52 yB 2 none site (P a D fV fC b A z) (E a D fV fC A) [⟨a, fC.slot⟩, ⟨a, fV.slot⟩] 1 A.slots.size := by
  refine Law.of_walk (plainFor_of_name (by decide +kernel)) (by decide +kernel) (by decide +kernel) (by decide) (fun _ _ h => by rw [h.1]; rfl) (fun _ U U' hal hh h => ⟨h.1, h.2.1.mv hal hh, h.2.2.1.al hal, h.2.2.2.1.al hal, h.2.2.2.2.1.mv hal hh, h.2.2.2.2.2.1.there hal hh, h.2.2.2.2.2.2⟩) (fun r U U' V V' h1 hal h2 h => Got.mv r U U' V V' h1 hal h2 h) ?_
  intro p e s m args below meth c s₁ X0 hexec hbytes hml hret hlk hnm hown hh0 W hP
  obtain ⟨rfl, hB, f1, f2, hA, s1, hz, l0, l2, hp⟩ := hP
  have c1 : Steps p.tables e below (s₁.setTop (entryFrame m #[.ref a, .ref b] 2)) (s₁.setTop (mkF m 0 #[.val (.ref a), .val (.ref b)] [])) := entry rfl
  have c2 : Steps p.tables e below (s₁.setTop (entryFrame m #[.ref a, .ref b] 2)) (s₁.setTop (mkF m 6 #[.val (.ref a), .val (.ref b)] [.null, .int (Int32.ofNat A.slots.size), .int 0, .ref b, .ref a])) := c1.trans (by
    refine XS.aloadN X0.here hexec rfl (hb hbytes d0) rfl rfl ?_
    refine XS.aloadN X0.here hexec rfl (hb hbytes d1) rfl rfl ?_
    refine iconstV X0.here hexec rfl 0 (hb hbytes d2) (by decide) ?_
    refine XS.aloadN X0.here hexec rfl (hb hbytes d3) rfl rfl ?_
    refine X0.alen hexec (hA.1.mv X0.warmed.alike hh0) rfl rfl (hb hbytes d4) ?_
    refine XS.aconstNull X0.here hexec rfl (hb hbytes d5) ?_
    exact Steps.refl _)
  obtain ⟨v3, T3, X3, E3, g3⟩ := X0.callN hexec (New4.law l a D fV fC b A z 0 A.slots.size) rfl hown (wks W (initW "java/lang/String" 27 New4.yN)) (W New4.tab (by simp only [site, List.mem_cons, List.mem_append, true_or, or_true])) (W := 0) (Nat.le_of_ble_eq_true rfl) (Nat.le_of_ble_eq_true rfl) (Nat.le_refl _) (by show 0 + A.slots.size ≤ A.slots.size; omega) (g := (mkF m 6 #[.val (.ref a), .val (.ref b)] [.null, .int (Int32.ofNat A.slots.size), .int (Int32.ofNat 0), .ref b, .ref a])) rfl (by rw [hml]; rfl) c2 (argsL := [.ref b, .int (Int32.ofNat 0), .int (Int32.ofNat A.slots.size), .null]) (rest := []) rfl rfl (by show 2 * 0 + 0 ≤ _; decide) (hb hbytes d6) (⟨rfl, hB.mv X0.warmed.alike hh0, f1.al X0.warmed.alike, f2.al X0.warmed.alike, hA.mv X0.warmed.alike hh0, s1.there X0.warmed.alike hh0, hz, l0, by omega, l2, fun i hi => by rw [Nat.zero_add]; exact hp i hi⟩)
  have e0 := Got.mv _ s₁ s _ _ hh0.symm (Vm.Alike.refl _) rfl E3
  obtain rfl := e0.1
  have c4 : Steps p.tables e below (s₁.setTop (entryFrame m #[.ref a, .ref b] 2)) (T3.setTop (mkF m 9 #[.val (.ref a), .val (.ref b)] [])) := g3
  exact ⟨T3, none, _, _, _, X3, by simp, rfl, by omega, (fun _ => rfl), e0, fun fs hl => c4.trans (X3.returnOut hexec hret (hb hbytes d9) hl)⟩
theorem pays {l : Launch} {R : Room} {p : Program} {e : Env} {below : List Frame} {s : State} {sargs : Array Value} {len W : Nat} (a : Addr) (D : Cell) (fV fC : Field) (b : Addr) (A : Cell) (z : Int32) (htab : tab.before sargs s = true) (hfr : 4 ≤ R.frames) (hlo : W + 65 ≤ R.locals) :
    Back l R p e below s sargs yN len W (fun A₁ a₁ => A₁.cells + 1 ≤ R.cells ∧ A₁.slots + A.slots.size ≤ R.slots ∧ P a D fV fC b A z a₁ A₁.U) (fun A₁ _ v₁ B₁ => E a D fV fC A v₁ A₁.U B₁.U ∧ B₁.locs = A₁.locs ++ [⟨a, fC.slot⟩, ⟨a, fV.slot⟩] ∧ B₁.cells = A₁.cells + 1 ∧ B₁.slots = A₁.slots + A.slots.size) :=
  (law l a D fV fC b A z).pays htab hfr (by omega)
end New1
end StrChars
namespace StrChars.Road
open Jvm Sem ClassFile Op Lib Jvm.Stand Jvm.Free Jvm.Free.XT
open Jvm.Lib.Cold (StaticIs)
abbrev ST : String := "java/lang/String"
/-- every table word that New1's law asks, flat -/
abbrev words : List Jvm.Cond := [.code New1.yN New1.yB 2 none, .initialized ST, .methodLink ST 27 New4.yN, .instanceMethod New4.yN,
  .code New4.yN New4.yB 6 none, .fieldLink ST 38 ST "COMPACT_STRINGS" "Z", .laysFinal ST ST "value" "[B", .fieldLink ST 9 ST "value" "[B", .laysFinal ST ST "coder" "B", .fieldLink ST 15 ST "coder" "B",
  .methodLink ST 1 Lib.objectInit, .instanceMethod Lib.objectInit, .code Lib.objectInit ⟨#[0xb1]⟩ 1 none, .methodLink ST 177 Cmp3.yN, .static Cmp3.yN, .methodLink ST 47 CodL.yN, .static CodL.yN,
  .code Cmp3.yN Cmp3.yB 6 (some (.array .byte)), .initialized U16, .arrayClass .byte, .methodLink U16 115 Cmp5.yN, .static Cmp5.yN, .code Cmp5.yN Cmp5.yB 7 (some .int), .code CodL.yN CodL.yB 2 (some .byte)]
theorem tab_of {a : Array Value} {s : State} (h : ∀ w ∈ words, w.before a s = true) : New1.tab.before a s = true := by
  have h5 : Cmp5.tab.before a s = true := unparts (wk h (.code Cmp5.yN Cmp5.yB 7 (some .int))) (wks h (.initialized Cmp5.yN.cls :: Cmp5.site))
  have hc : CodL.tab.before a s = true := unparts (wk h (.code CodL.yN CodL.yB 2 (some .byte))) (wks h (.initialized CodL.yN.cls :: CodL.site))
  have q5 : ∀ w ∈ Cmp5.tab :: words, w.before a s = true := fun w hw => (List.mem_cons.mp hw).elim (fun e => e ▸ h5) (h w)
  have h3 : Cmp3.tab.before a s = true := unparts (wk q5 (.code Cmp3.yN Cmp3.yB 6 (some (.array .byte)))) (wks q5 (.initialized Cmp3.yN.cls :: Cmp3.site))
  have q3 : ∀ w ∈ Cmp3.tab :: CodL.tab :: words, w.before a s = true := fun w hw => (List.mem_cons.mp hw).elim (fun e => e ▸ h3) fun hw => (List.mem_cons.mp hw).elim (fun e => e ▸ hc) (h w)
  have h4 : New4.tab.before a s = true := unparts (wk q3 (.code New4.yN New4.yB 6 none)) (wks q3 (.initialized New4.yN.cls :: New4.site))
  have q4 : ∀ w ∈ New4.tab :: words, w.before a s = true := fun w hw => (List.mem_cons.mp hw).elim (fun e => e ▸ h4) (h w)
  exact unparts (wk q4 (.code New1.yN New1.yB 2 none)) (wks q4 (.initialized New1.yN.cls :: New1.site))
/-- the words ride from the start Z to the walk's own state -/
theorem moved {Z s : State} {a0 args : Array Value} (hZ : Z.Warmed39 s.vm) (hw : ∀ d ∈ words, d.before a0 Z = true) : ∀ d ∈ words, d.before args s = true := fun d hd => by
  have q := hw d hd
  have t : ∀ d ∈ words, d = .arrayClass .byte ∨ (d.onTables && d.keepsFace) = true := by decide +kernel
  rcases t d hd with rfl | t
  · exact RoadKit.mvA hZ q
  · exact RoadKit.mv hZ q t
/-- WHAT COMES BACK, over the tables of the start Z: h the heap at the call, h' behind it -/
def Q (Z : State) (x : Addr) (A : Cell) (h : Heap) (v : Option Value) (h' : Heap) (L : List Loc) : Prop := v = none ∧ (∀ y ∈ L, y.base = x) ∧ RoadKit.Keep h h' [x] ∧ h'.size = h.size + 1 ∧ RoadKit.Exa Z h' x ST ∧ RoadKit.Fld Z h' x ST "value" "[B" (.ref h.size) ∧ RoadKit.Fld Z h' x ST "coder" "B" (.int 0) ∧
  (∃ V : Cell, RoadKit.Arr Z h' h.size V .byte ∧ V.vm = .none ∧ Z.vm.findClass "[B" = some V.cls ∧ V.slots.size = A.slots.size ∧ ∀ j, j < A.slots.size → V.slots[j]? = some (.int (lo8 (cv A j)))) ∧
  ∀ (O n d : String) (w : Value), RoadKit.Fld Z h x O n d w → RoadKit.slotOf Z O n d ≠ RoadKit.slotOf Z ST "value" "[B" → RoadKit.slotOf Z O n d ≠ RoadKit.slotOf Z ST "coder" "B" → RoadKit.Fld Z h' x O n d w
/-- **new String(chars) AT A CALL, IN THE ROAD'S FORM**: for specialBack behind newO: x the fresh String, b the char[] with the cell A -/
theorem back {p : Program} {l : Launch} {e : Env} {R : Room} {s : State} {args : Array Value} {below : List Frame} {len W : Nat} {Z : State} {a0 : Array Value} {h : Heap} (hZ : Z.Warmed39 s.vm) (hw : ∀ d ∈ words, d.before a0 Z = true) {kI : Nat} (wi : (Jvm.Cond.instantiable ST kI).before a0 Z = true)
    {x b : Addr} {A : Cell} {z : Int32} {v0 c0 : Value} (E : RoadKit.Exa Z h x ST) (V : RoadKit.Fld Z h x ST "value" "[B" v0) (C : RoadKit.Fld Z h x ST "coder" "B" c0) (K : RoadKit.Arr Z h b A .char) (hty : Typed .char A) (S : RoadKit.Sta Z h ST "COMPACT_STRINGS" "Z" (.int z)) (hz : ¬ z = 0)
    (l0 : 0 < A.slots.size) (l2 : A.slots.size ≤ 536870912) (hp : ∀ i, i < A.slots.size → ¬ 255 < cv A i) (hfr : 4 ≤ R.frames) (hlo : W + 65 ≤ R.locals) :
    Back l R p e below s args New1.yN len W (fun P a => a = #[.ref x, .ref b] ∧ P.U.heap = h ∧ P.cells + 1 ≤ R.cells ∧ P.slots + A.slots.size ≤ R.slots)
      (fun P _ v B => ∃ L, Q Z x A h v B.U.heap L ∧ B.locs = P.locs ++ L ∧ B.cells = P.cells + 1 ∧ B.slots = P.slots + A.slots.size) := by
  intro m meth c P g ig mk a X hg hsize hdg hW hn hp'
  obtain ⟨rfl, rfl, r1, r2⟩ := hp'
  have al : Z.vm.Alike P.U.vm := hZ.alike.trans X.warmed.alike
  obtain ⟨D, cfV, kV, iV, fV, hD, gV, stV, knV, obV, asV, slV⟩ := id V
  obtain ⟨D', cfC, kC, iC, fC, hD', gC, stC, -, -, asC, slC⟩ := id C
  cases hD.symm.trans hD'
  obtain ⟨D2, kD, e1, e2, e3, e4, e5⟩ := id E
  cases hD.symm.trans e1
  obtain ⟨c2, k2, i1, i2, i3, -⟩ := Cond.instantiable_spec wi
  cases e2.symm.trans i1
  cases e3.symm.trans i2
  obtain ⟨kU, u1, u2⟩ := al.2.2 _ _ e3
  have hB : Blank ST x D P.U := ⟨hD, ⟨knV, fun q hq => by rw [hq] at obV; cases obV⟩, by rw [al.findClass]; exact e2, kU, u1, by rw [u2]; exact i3, by rw [u2]; exact e5 i3⟩
  have F1 : Found ST "value" "[B" fV P.U := ⟨SBG.found_only al ⟨cfV, kV, iV, gV⟩, stV⟩
  have F2 : Found ST "coder" "B" fC P.U := ⟨SBG.found_only al ⟨cfC, kC, iC, gC⟩, stC⟩
  have hA : Ch b A P.U := ⟨⟨K.1, State.isArrayOf_alike al K.2.1, K.2.2, by omega⟩, hty⟩
  have hS : StaticIs P.U ST "COMPACT_STRINGS" "Z" (.int z) := by
    obtain ⟨cfS, iS, kS, fS, st, cS, t1, t2, t3, t4, t5, t6, t7⟩ := S
    exact StaticIs.there (s := { Z with heap := P.U.heap }) ⟨cfS, iS, kS, fS, st, cS, t1, t2, t3, t4, t5, (fun q => by rw [q] at t6; cases t6), t7⟩ al rfl
  obtain ⟨v, B, X', ⟨⟨hv, E', V', q1, q2, q3, q4, q5, q6, q7, q8, q9, q10, q11⟩, hl, hc, hs⟩, st⟩ := New1.pays x D fV fC b A z (tab_of (moved hZ hw)) hfr hlo m meth c P g ig mk _ X hg hsize hdg hW hn ⟨r1, r2, rfl, hB, F1, F2, hA, hS, hz, l0, l2, hp⟩
  have al' : Z.vm.Alike B.U.vm := hZ.alike.trans X'.warmed.alike
  have hsz : E'.slots.size = D.slots.size := by
    obtain ⟨-, -, -, kB, w1, w2, w3⟩ := q1
    obtain ⟨kB', y1, y2⟩ := al'.2.2 _ _ e3
    rw [q2.2.1] at w1
    cases w1.symm.trans y1
    rw [w3, e5 i3, y2]
  refine ⟨v, B, X', ⟨_, ⟨hv, ?_, ⟨by omega, fun y cy hy hn' => q10 y cy (by simpa using hn') hy, fun y cy hy => ?_⟩, q11, ⟨E', _, q1.1, by rw [q2.2.1]; exact e2, by rw [q2.2.1]; exact e3, by rw [q2.1]; exact obV, fun _ => by rw [hsz]; exact e5 i3⟩,
    ⟨E', cfV, kV, iV, fV, q1.1, gV, stV, by rw [q2.1]; exact knV, by rw [q2.1]; exact obV, by rw [q2.2.1]; exact asV, q3⟩, ⟨E', cfC, kC, iC, fC, q1.1, gC, stC, by rw [q2.1]; exact knV, by rw [q2.1]; exact obV, by rw [q2.2.1]; exact asC, q4⟩,
    ⟨V', ⟨q5.1, State.isArrayOf_alike al'.symm q5.2.1, q5.2.2.1⟩, q6, by rw [← al'.findClass]; exact q7, q8, fun j hj => by have := q9 j hj; rwa [Nat.zero_add] at this⟩, fun O n d w F n1 n2 => ?_⟩, hl, hc, hs⟩, st⟩
  · intro y hy
    simp only [List.mem_cons, List.not_mem_nil, or_false] at hy
    rcases hy with rfl | rfl <;> rfl
  · by_cases q : y = x
    · subst q
      cases hD.symm.trans hy
      exact ⟨E', q1.1, q2.2.1, q2.1, hsz⟩
    · exact ⟨cy, q10 y cy q hy, rfl, rfl, rfl⟩
  · obtain ⟨D3, cf, k, i, f, g1, g2, g3, g4, g5, g6, g7⟩ := F
    cases hD.symm.trans g1
    simp only [RoadKit.slotOf, g2, gV, gC, Option.map_some, Option.getD_some] at n1 n2
    exact ⟨E', cf, k, i, f, q1.1, g2, g3, by rw [q2.1]; exact g4, by rw [q2.1]; exact g5, by rw [q2.2.1]; exact g6, by rw [q2.2.2 f.slot (by simp [n1, n2])]; exact g7⟩
end StrChars.Road
namespace StrChars.Road
open Jvm Sem ClassFile Op Lib Jvm.Stand Jvm.Free Jvm.Free.XT
/-- WHAT COMES BACK, the byte[] as a list of values -/
def QA (Z : State) (x : Addr) (zn : Int32) (cs : List Int32) (h : Heap) (v : Option Value) (h' : Heap) (L : List Loc) : Prop := v = none ∧ (∀ y ∈ L, y.base = x) ∧ RoadKit.Keep h h' [x] ∧ h'.size = h.size + 1 ∧ RoadKit.Exa Z h' x ST ∧ RoadKit.Fld Z h' x ST "value" "[B" (.ref h.size) ∧ RoadKit.Fld Z h' x ST "coder" "B" (.int 0) ∧
  (∃ kb, Z.vm.findClass "[B" = some kb ∧ RoadKit.Arv Z h' h.size kb .byte zn (cs.map fun c => .int (lo8 c)) (.int 0)) ∧
  ∀ (O n d : String) (w : Value), RoadKit.Fld Z h x O n d w → RoadKit.slotOf Z O n d ≠ RoadKit.slotOf Z ST "value" "[B" → RoadKit.slotOf Z O n d ≠ RoadKit.slotOf Z ST "coder" "B" → RoadKit.Fld Z h' x O n d w
/-- **new String(chars) AT A CALL, THE ARRAYS AS LISTS**: the char[] at b holds cs, not empty, no char above 255 -/
theorem backArv {p : Program} {l : Launch} {e : Env} {R : Room} {s : State} {args : Array Value} {below : List Frame} {len W : Nat} {Z : State} {a0 : Array Value} {h : Heap} (hZ : Z.Warmed39 s.vm) (hw : ∀ d ∈ words, d.before a0 Z = true) {kI : Nat} (wi : (Jvm.Cond.instantiable ST kI).before a0 Z = true)
    {x b : Addr} {k : ClassId} {zn z : Int32} {cs : List Int32} {dv v0 c0 : Value} (E : RoadKit.Exa Z h x ST) (V : RoadKit.Fld Z h x ST "value" "[B" v0) (C : RoadKit.Fld Z h x ST "coder" "B" c0) (K : RoadKit.Arv Z h b k .char zn (cs.map Value.int) dv) (S : RoadKit.Sta Z h ST "COMPACT_STRINGS" "Z" (.int z)) (hz : ¬ z = 0)
    (hlen : zn.toNatClampNeg = cs.length) (h0 : 0 < cs.length) (hbig : cs.length ≤ 536870912) (hall : ∀ c ∈ cs, ¬ 255 < c) (hfr : 4 ≤ R.frames) (hlo : W + 65 ≤ R.locals) :
    Back l R p e below s args New1.yN len W (fun P a => a = #[.ref x, .ref b] ∧ P.U.heap = h ∧ P.cells + 1 ≤ R.cells ∧ P.slots + cs.length ≤ R.slots)
      (fun P _ v B => ∃ L, QA Z x zn cs h v B.U.heap L ∧ B.locs = P.locs ++ L ∧ B.cells = P.cells + 1 ∧ B.slots = P.slots + cs.length) := by
  obtain ⟨A, K1, K2, K3, K4, K5, K6⟩ := K
  have e : A.slots.size = cs.length := K3.trans hlen
  have hat : ∀ (i : Nat) (hi : i < cs.length), A.slots[i]? = some (.int cs[i]) := fun i hi => by rw [K5 i (by omega)]; simp [List.getD_eq_getElem?_getD, hi]
  have hcv : ∀ (i : Nat) (hi : i < cs.length), cv A i = cs[i] := fun i hi => by unfold cv; rw [hat i hi]
  have hty : Typed .char A := fun i v hv => by
    have hi : i < A.slots.size := (Array.getElem?_eq_some_iff.mp hv).1
    have q := K5 i hi
    rw [hv] at q
    rw [Option.some.inj q]
    exact K6 i hi
  refine Back.mono (back hZ hw wi E V C K1 hty S hz (by omega) (by omega) (fun i hi => by rw [hcv i (by omega)]; exact hall _ (List.getElem_mem _)) hfr hlo) (fun P a hp => ⟨hp.1, hp.2.1, hp.2.2.1, by rw [e]; exact hp.2.2.2⟩) (fun P a v B hp hq => ?_)
  obtain ⟨L, ⟨q1, q2, q3, q4, q5, q6, q7, ⟨V', v1, v2, v3, v4, v5⟩, q9⟩, hl, hc, hs⟩ := hq
  refine ⟨L, ⟨q1, q2, q3, q4, q5, q6, q7, ⟨V'.cls, v3, V', v1, rfl, by rw [v4, e, hlen], K4, fun i hi => ?_, fun i hi => ?_⟩, q9⟩, hl, hc, by rw [hs, e]⟩
  · have hi' : i < cs.length := by omega
    rw [v5 i (by omega), hcv i hi']; simp [List.getD_eq_getElem?_getD, hi']
  · have hi' : i < cs.length := by omega
    simp only [List.getD_eq_getElem?_getD, List.getElem?_map, List.getElem?_eq_getElem hi', Option.map_some, Option.getD_some]
    exact fits_lo8 _
end StrChars.Road
namespace StrChars.Road
open Jvm Sem ClassFile Op Lib Jvm.Stand Jvm.Free Jvm.Free.XT
/-- WHAT COMES BACK, in the writer's own shape -/
def QV (Z : State) (x : Addr) (N : Int32) (bs : List Int32) (h : Heap) (n0 : Nat) (v : Option Value) (h' : Heap) (L : List Loc) : Prop := v = none ∧ RoadKit.Fr n0 L ∧ RoadKit.Keep h h' [x] ∧ RoadKit.Exa Z h' x ST ∧ RoadKit.Fld Z h' x ST "coder" "B" (.int 0) ∧
  ∃ (t : Addr) (kb : ClassId), n0 ≤ t ∧ h.size ≤ t ∧ ¬ t = x ∧ RoadKit.Fld Z h' x ST "value" "[B" (.ref t) ∧ RoadKit.Arv Z h' t kb .byte N (bs.map Value.int) (.int 0)
/-- **new String(chars) AT A CALL, FOR THE WRITER**: a char[] of n known ints, each 0 to 255 -/
theorem backV {p : Program} {l : Launch} {e : Env} {R : Room} {s : State} {args : Array Value} {below : List Frame} {len W : Nat} {Z : State} {a0 : Array Value} {h : Heap} (hZ : Z.Warmed39 s.vm) (hw : ∀ d ∈ words, d.before a0 Z = true) {kI : Nat} (wi : (Jvm.Cond.instantiable ST kI).before a0 Z = true)
    {x b : Addr} {kC : ClassId} {cs bs : List Int32} {d v0 c0 : Value} {z N : Int32} {n n0 : Nat} (hx0 : n0 ≤ x) (hh0 : n0 ≤ h.size) (E : RoadKit.Exa Z h x ST) (V : RoadKit.Fld Z h x ST "value" "[B" v0) (C : RoadKit.Fld Z h x ST "coder" "B" c0) (K : RoadKit.Arv Z h b kC .char N (cs.map Value.int) d) (S : RoadKit.Sta Z h ST "COMPACT_STRINGS" "Z" (.int z)) (hz : ¬ z = 0)
    (hn : cs.length = n) (hN : N = Int32.ofNat n) (l0 : 0 < n) (l2 : n ≤ 4000) (hp : ∀ c ∈ cs, ¬ c < 0 ∧ ¬ (255 : Int32) < c) (hb : bs = cs.map (fun c => c.toInt8.toInt32)) (hfr : 4 ≤ R.frames) (hlo : W + 65 ≤ R.locals) :
    Back l R p e below s args (⟨"java/lang/String", "<init>", "([C)V"⟩ : MethodName) len W (fun P a => a = #[.ref x, .ref b] ∧ P.U.heap = h ∧ P.cells + 1 ≤ R.cells ∧ P.slots + n ≤ R.slots)
      (fun P _ v B => ∃ L, QV Z x N bs h n0 v B.U.heap L ∧ B.locs = P.locs ++ L ∧ B.cells = P.cells + 1 ∧ B.slots = P.slots + n) := by
  subst hn hN hb
  refine Back.mono (backArv hZ hw wi E V C K S hz (n32 (by omega)) l0 (by omega) (fun c hc => (hp c hc).2) hfr hlo) (fun P a hp => hp) (fun P a v B hp hq => ?_)
  obtain ⟨L, ⟨q1, q2, q3, q4, q5, q6, q7, ⟨kb, v1, v2⟩, q9⟩, hl, hc, hs⟩ := hq
  exact ⟨L, ⟨q1, fun y hy => by rw [q2 y hy]; exact hx0, q3, q5, q7, h.size, kb, hh0, Nat.le_refl _, Nat.ne_of_gt E.lt, q6, by rw [List.map_map]; exact v2⟩, hl, hc, hs⟩
end StrChars.Road
end Jvm.Pilot.@@N@@
namespace Jvm.Pilot.@@N@@
open Jvm Jvm.ClassFile Sem Op Lib Jvm.Free Jvm.Stand Jvm.LawKit Jvm.RoadKit Bundle Jvm.Pilot.@@N@@.Jvm.D
/-- every run that goes on from the frame g of T to t is one of G -/
abbrev Go (p : Program) (e : Env) (below : List Frame) (T : State) (g : JFrame) (G : State → Prop) : Prop := ∀ t, Steps p.tables e below (T.setTop g) t → G t
theorem own_i2c (y : Int32) (h0 : 0 ≤ y.toInt) (h1 : y.toInt ≤ 65535) : y.toUInt32.toUInt16.toUInt32.toInt32 = y := by
  rw [← Int32.toInt_inj]
  have h := c_i2c y
  omega
theorem own_and255 (x : Int32) : 0 ≤ (x &&& (255 : Int32)).toInt ∧ (x &&& (255 : Int32)).toInt ≤ 255 := by
  have h := c_and x (255 : Int32) (by decide)
  have e : (255 : Int32).toInt = 255 := by decide
  rw [e] at h
  exact h
theorem own_c255 (x : Int32) : nar .char ((x &&& (255 : Int32)).toUInt32.toUInt16.toUInt32.toInt32) = (x &&& (255 : Int32)) := by
  have h := own_and255 x
  have e := own_i2c (x &&& (255 : Int32)) h.1 (by omega)
  show ((x &&& (255 : Int32)).toUInt32.toUInt16.toUInt32.toInt32).toUInt32.toUInt16.toUInt32.toInt32 = _
  rw [e, e]
theorem own_p255 (x : Int32) : ¬ nar .char ((x &&& (255 : Int32)).toUInt32.toUInt16.toUInt32.toInt32) < 0 ∧ ¬ (255 : Int32) < nar .char ((x &&& (255 : Int32)).toUInt32.toUInt16.toUInt32.toInt32) := by
  have h := own_and255 x
  have e : (255 : Int32).toInt = 255 := by decide
  have e0 : (0 : Int32).toInt = 0 := by decide
  rw [own_c255, Int32.lt_iff_toInt_lt, Int32.lt_iff_toInt_lt, e, e0]
  omega
theorem pn_0 : plainName "java/lang/Throwable" = true := by first | (simp [plainName, overriddenIn]; done) | decide +kernel
theorem ef_jdk_78_method_5_RNNII (m : MethodId) (x0 : Addr) (x3 : Int32) (x4 : Int32) : entryFrame m #[(.ref x0), .null, .null, (.int x3), (.int x4)] 5 = mkF m 0 #[.val (.ref x0), .val .null, .val .null, .val (.int x3), .val (.int x4)] [] := by first | (simp [entryFrame, mkF, argsToLocals, Value.category]; done) | rfl
theorem d_jdk_78_method_5_0 : decode jdk_78_method_5_code 0 = .ok (.aload_n 0, 1) := by decide +kernel
theorem d_jdk_78_method_5_1 : decode jdk_78_method_5_code 1 = .ok (.invokespecial 1, 3) := by decide +kernel
theorem d_jdk_78_method_5_4 : decode jdk_78_method_5_code 4 = .ok (.aload_n 0, 1) := by decide +kernel
theorem d_jdk_78_method_5_5 : decode jdk_78_method_5_code 5 = .ok (.aload_n 0, 1) := by decide +kernel
theorem d_jdk_78_method_5_6 : decode jdk_78_method_5_code 6 = .ok (.putfield 7, 3) := by decide +kernel
theorem d_jdk_78_method_5_9 : decode jdk_78_method_5_code 9 = .ok (.aload_n 0, 1) := by decide +kernel
theorem d_jdk_78_method_5_10 : decode jdk_78_method_5_code 10 = .ok (.getstatic 13, 3) := by decide +kernel
theorem d_jdk_78_method_5_13 : decode jdk_78_method_5_code 13 = .ok (.putfield 17, 3) := by decide +kernel
theorem d_jdk_78_method_5_16 : decode jdk_78_method_5_code 16 = .ok (.aload_n 0, 1) := by decide +kernel
theorem d_jdk_78_method_5_17 : decode jdk_78_method_5_code 17 = .ok (.getstatic 20, 3) := by decide +kernel
theorem d_jdk_78_method_5_20 : decode jdk_78_method_5_code 20 = .ok (.putfield 24, 3) := by decide +kernel
theorem d_jdk_78_method_5_23 : decode jdk_78_method_5_code 23 = .ok (.iload 4, 2) := by decide +kernel
theorem d_jdk_78_method_5_25 : decode jdk_78_method_5_code 25 = .ok (.ifCond .eq 11, 3) := by decide +kernel
theorem d_jdk_78_method_5_36 : decode jdk_78_method_5_code 36 = .ok (.aload_n 0, 1) := by decide +kernel
theorem d_jdk_78_method_5_37 : decode jdk_78_method_5_code 37 = .ok (.aconst_null, 1) := by decide +kernel
theorem d_jdk_78_method_5_38 : decode jdk_78_method_5_code 38 = .ok (.putfield 17, 3) := by decide +kernel
theorem d_jdk_78_method_5_41 : decode jdk_78_method_5_code 41 = .ok (.aload_n 0, 1) := by decide +kernel
theorem d_jdk_78_method_5_42 : decode jdk_78_method_5_code 42 = .ok (.aload_n 1, 1) := by decide +kernel
theorem d_jdk_78_method_5_43 : decode jdk_78_method_5_code 43 = .ok (.putfield 31, 3) := by decide +kernel
theorem d_jdk_78_method_5_46 : decode jdk_78_method_5_code 46 = .ok (.aload_n 0, 1) := by decide +kernel
theorem d_jdk_78_method_5_47 : decode jdk_78_method_5_code 47 = .ok (.aload_n 2, 1) := by decide +kernel
theorem d_jdk_78_method_5_48 : decode jdk_78_method_5_code 48 = .ok (.putfield 7, 3) := by decide +kernel
theorem d_jdk_78_method_5_51 : decode jdk_78_method_5_code 51 = .ok (.iload_n 3, 1) := by decide +kernel
theorem d_jdk_78_method_5_52 : decode jdk_78_method_5_code 52 = .ok (.ifCond .ne 8, 3) := by decide +kernel
theorem d_jdk_78_method_5_55 : decode jdk_78_method_5_code 55 = .ok (.aload_n 0, 1) := by decide +kernel
theorem d_jdk_78_method_5_56 : decode jdk_78_method_5_code 56 = .ok (.aconst_null, 1) := by decide +kernel
theorem d_jdk_78_method_5_57 : decode jdk_78_method_5_code 57 = .ok (.putfield 24, 3) := by decide +kernel
theorem d_jdk_78_method_5_60 : decode jdk_78_method_5_code 60 = .ok (.return_, 1) := by decide +kernel
def QTh (Z : State) (a : Addr) (us : Addr) (ss : Addr) (h0 : Heap) (n0 : Nat) (v : Option Value) (h : Heap) (L : List Loc) : Prop := v = none ∧ Fr n0 L ∧ Keep h0 h [a] ∧ Exa Z h a "com/example/goalpost/goalpost/runtime/NotSupported" ∧ Fld Z h a "com/example/goalpost/goalpost/runtime/NotSupported" "what" "Ljava/lang/String;" .null ∧ Fld Z h a "com/example/goalpost/goalpost/runtime/NotSupported" "line" "I" (.int (0 : Int32))
set_option maxRecDepth 65536 in
set_option maxHeartbeats 40000000 in
theorem rmTh (l : Launch) (Z : State) (a0 : Array Value) (hw : ∀ d ∈ tables_1, d.before a0 Z = true) (ws : List Jvm.Cond) (a : Addr) (us : Addr) (ss : Addr) (h0 : Heap) (n0 : Nat) (Z0 : n0 ≤ h0.size) (F_cause_a : Fld Z h0 a "java/lang/Throwable" "cause" "Ljava/lang/Throwable;" .null) (F_stackTrace_a : Fld Z h0 a "java/lang/Throwable" "stackTrace" "[Ljava/lang/StackTraceElement;" .null) (F_suppressedExceptions_a : Fld Z h0 a "java/lang/Throwable" "suppressedExceptions" "Ljava/util/List;" .null) (F_detailMessage_a : Fld Z h0 a "java/lang/Throwable" "detailMessage" "Ljava/lang/String;" .null) (F_what_a : Fld Z h0 a "com/example/goalpost/goalpost/runtime/NotSupported" "what" "Ljava/lang/String;" .null) (F_line_a : Fld Z h0 a "com/example/goalpost/goalpost/runtime/NotSupported" "line" "I" (.int (0 : Int32))) (E_a : Exa Z h0 a "com/example/goalpost/goalpost/runtime/NotSupported") (ge_a : n0 ≤ a) (O0 : Old Z n0 h0) (S_us : Sta Z Z.heap "java/lang/Throwable" "UNASSIGNED_STACK" "[Ljava/lang/StackTraceElement;" (.ref us)) (S_ss : Sta Z Z.heap "java/lang/Throwable" "SUPPRESSED_SENTINEL" "Ljava/util/List;" (.ref ss)) :
    MetFree l (⟨"java/lang/Throwable", "<init>", "(Ljava/lang/String;Ljava/lang/Throwable;ZZ)V"⟩ : MethodName) (head1 (Jvm.Cond.code (⟨"java/lang/Throwable", "<init>", "(Ljava/lang/String;Ljava/lang/Throwable;ZZ)V"⟩ : MethodName) jdk_78_method_5_code 5 none :: ws) ({ frames := 1, cells := 0, slots := 0, locals := 12 } : Room)) (fun aa UU => aa = #[(.ref a), .null, .null, (.int (0 : Int32)), (.int (0 : Int32))] ∧ Z.Warmed39 UU.vm ∧ UU.heap = h0) (fun _ _ _ _ _ => True) (fun _ UU oo UU' => ∃ vv LL, oo = .returned vv ∧ QTh Z a us ss h0 n0 vv UU'.heap LL ∧ FrameEnd UU oo UU' LL ({ frames := 1, cells := 0, slots := 0, locals := 12 } : Room).cells ({ frames := 1, cells := 0, slots := 0, locals := 12 } : Room).slots) := by
  refine MetFree.of_bodySF (plainFor_of_name pn_0) hisR ?_
  intro p e s m args below meth c s₁ Bd hml0 hP hK
  obtain ⟨rfl, hZ, hh⟩ := hP
  have hx := Bd.exec
  have hby := Bd.bytes
  have hml : c.maxLocals = 5 := hml0
  have hown : s.vm.findClass "java/lang/Throwable" = some m.cls := findClass_of_methodNamed Bd.named
  have hnm := (name_of_methodNamed Bd.named Bd.method).1
  have hW : ∀ (k : Nat) (d : Jvm.Cond), tables_1[k]? = some d → d.before a0 Z = true := fun k d h => hw d (List.mem_of_getElem? h)
  have X0 : Stand p l e ({ frames := 1, cells := 0, slots := 0, locals := 12 } : Room) s m #[(.ref a), .null, .null, (.int (0 : Int32)), (.int (0 : Int32))] below meth c s₁ [] 0 0 := Stand.of_body Bd
  have e0 : s₁.heap = h0 := by rw [← hh, Bd.state]; rfl
  have N0 := Fr.nil n0
  obtain ⟨G, hG, K0⟩ : ∃ G : State → Prop, (∀ t, G t → Steps p.tables e below (s₁.setTop (entryFrame m #[(.ref a), .null, .null, (.int (0 : Int32)), (.int (0 : Int32))] 5)) t) ∧ Go p e below s₁ (mkF m 0 #[.val (.ref a), .val .null, .val .null, .val (.int (0 : Int32)), .val (.int (0 : Int32))] []) G := ⟨fun t => Steps p.tables e below (s₁.setTop (entryFrame m #[(.ref a), .null, .null, (.int (0 : Int32)), (.int (0 : Int32))] 5)) t, fun _ h => h, fun t k => castTop (ef_jdk_78_method_5_RNNII m a (0 : Int32) (0 : Int32)) k⟩
  have K1 : Go p e below s₁ (mkF m 1 #[.val (.ref a), .val .null, .val .null, .val (.int (0 : Int32)), .val (.int (0 : Int32))] [(.ref a)]) G := fun tq kq => K0 tq (XS.aloadN X0.here hx rfl (hb hby d_jdk_78_method_5_0) rfl rfl kq)
  obtain ⟨T2, X2, e2, st2⟩ := initO X0 hx hZ hown (hW 53 _ rfl) (hW 12 _ rfl) (hW 13 _ rfl) e0 (g := (mkF m 1 #[.val (.ref a), .val .null, .val .null, .val (.int (0 : Int32)), .val (.int (0 : Int32))] [(.ref a)])) rfl (by rw [hml]; rfl) rfl (hb hby d_jdk_78_method_5_1) (by decide) (W := 0) (by show 2 * 0 + _ ≤ _; exact Nat.le_of_eq rfl) (by decide)
  have K3 : Go p e below T2 (mkF m 4 #[.val (.ref a), .val .null, .val .null, .val (.int (0 : Int32)), .val (.int (0 : Int32))] []) G := fun tq kq => K1 tq (st2 tq kq)
  have K4 : Go p e below T2 (mkF m 5 #[.val (.ref a), .val .null, .val .null, .val (.int (0 : Int32)), .val (.int (0 : Int32))] [(.ref a)]) G := fun tq kq => K3 tq (XS.aloadN X2.here hx rfl (hb hby d_jdk_78_method_5_4) rfl rfl kq)
  have K5 : Go p e below T2 (mkF m 6 #[.val (.ref a), .val .null, .val .null, .val (.int (0 : Int32)), .val (.int (0 : Int32))] [(.ref a), (.ref a)]) G := fun tq kq => K4 tq (XS.aloadN X2.here hx rfl (hb hby d_jdk_78_method_5_5) rfl rfl kq)
  obtain ⟨T6, h6, X6, e6, W6, st6⟩ := putF X2 hx hZ hown (host := "") (Or.inl (hW 54 _ rfl)) Via.refl e2 F_cause_a E_a (Or.inl (hW 55 _ rfl)) (hW 31 _ rfl) (ty := (.object "java/lang/Throwable")) (by decide) rfl rfl (g := (mkF m 6 #[.val (.ref a), .val .null, .val .null, .val (.int (0 : Int32)), .val (.int (0 : Int32))] [(.ref a), (.ref a)])) rfl rfl (hb hby d_jdk_78_method_5_6)
  have N6 := Fr.snoc X6 N0 ge_a
  have F6 := Fld.same W6 F_cause_a
  have K7 : Go p e below T6 (mkF m 9 #[.val (.ref a), .val .null, .val .null, .val (.int (0 : Int32)), .val (.int (0 : Int32))] []) G := fun tq kq => K5 tq (st6 tq kq)
  have K8 : Go p e below T6 (mkF m 10 #[.val (.ref a), .val .null, .val .null, .val (.int (0 : Int32)), .val (.int (0 : Int32))] [(.ref a)]) G := fun tq kq => K7 tq (XS.aloadN X6.here hx rfl (hb hby d_jdk_78_method_5_9) rfl rfl kq)
  obtain ⟨T9, X9, e9, st9⟩ := getS2 X6 hx hZ hown (host := "") (Or.inl (hW 56 _ rfl)) Via.refl e6 (S_us.ext (O0.wr W6 ge_a).2) (g := (mkF m 10 #[.val (.ref a), .val .null, .val .null, .val (.int (0 : Int32)), .val (.int (0 : Int32))] [(.ref a)])) rfl (hb hby d_jdk_78_method_5_10)
  have K10 : Go p e below T9 (mkF m 13 #[.val (.ref a), .val .null, .val .null, .val (.int (0 : Int32)), .val (.int (0 : Int32))] [(.ref us), (.ref a)]) G := fun tq kq => K8 tq (st9 tq kq)
  obtain ⟨T11, h11, X11, e11, W11, st11⟩ := putF X9 hx hZ hown (host := "") (Or.inl (hW 57 _ rfl)) Via.refl e9 (F_stackTrace_a.other W6 (Or.inr (slot_ne (Or.inl (hW 58 _ rfl)) (Or.inl (hW 55 _ rfl)) (by decide) (t := (.array (.object "java/lang/StackTraceElement"))) (t' := (.object "java/lang/Throwable")) (by decide) (by decide)))) (E_a.wr W6) (Or.inl (hW 58 _ rfl)) (hW 31 _ rfl) (ty := (.array (.object "java/lang/StackTraceElement"))) (by decide) rfl rfl (g := (mkF m 13 #[.val (.ref a), .val .null, .val .null, .val (.int (0 : Int32)), .val (.int (0 : Int32))] [(.ref us), (.ref a)])) rfl rfl (hb hby d_jdk_78_method_5_13)
  have N11 := Fr.snoc X11 N6 ge_a
  have F11 := Fld.same W11 (F_stackTrace_a.other W6 (Or.inr (slot_ne (Or.inl (hW 58 _ rfl)) (Or.inl (hW 55 _ rfl)) (by decide) (t := (.array (.object "java/lang/StackTraceElement"))) (t' := (.object "java/lang/Throwable")) (by decide) (by decide))))
  have K12 : Go p e below T11 (mkF m 16 #[.val (.ref a), .val .null, .val .null, .val (.int (0 : Int32)), .val (.int (0 : Int32))] []) G := fun tq kq => K10 tq (st11 tq kq)
  have K13 : Go p e below T11 (mkF m 17 #[.val (.ref a), .val .null, .val .null, .val (.int (0 : Int32)), .val (.int (0 : Int32))] [(.ref a)]) G := fun tq kq => K12 tq (XS.aloadN X11.here hx rfl (hb hby d_jdk_78_method_5_16) rfl rfl kq)
  obtain ⟨T14, X14, e14, st14⟩ := getS2 X11 hx hZ hown (host := "") (Or.inl (hW 59 _ rfl)) Via.refl e11 (S_ss.ext ((O0.wr W6 ge_a).wr W11 ge_a).2) (g := (mkF m 17 #[.val (.ref a), .val .null, .val .null, .val (.int (0 : Int32)), .val (.int (0 : Int32))] [(.ref a)])) rfl (hb hby d_jdk_78_method_5_17)
  have K15 : Go p e below T14 (mkF m 20 #[.val (.ref a), .val .null, .val .null, .val (.int (0 : Int32)), .val (.int (0 : Int32))] [(.ref ss), (.ref a)]) G := fun tq kq => K13 tq (st14 tq kq)
  obtain ⟨T16, h16, X16, e16, W16, st16⟩ := putF X14 hx hZ hown (host := "") (Or.inl (hW 60 _ rfl)) Via.refl e14 ((F_suppressedExceptions_a.other W6 (Or.inr (slot_ne (Or.inl (hW 61 _ rfl)) (Or.inl (hW 55 _ rfl)) (by decide) (t := (.object "java/util/List")) (t' := (.object "java/lang/Throwable")) (by decide) (by decide)))).other W11 (Or.inr (slot_ne (Or.inl (hW 61 _ rfl)) (Or.inl (hW 58 _ rfl)) (by decide) (t := (.object "java/util/List")) (t' := (.array (.object "java/lang/StackTraceElement"))) (by decide) (by decide)))) ((E_a.wr W6).wr W11) (Or.inl (hW 61 _ rfl)) (hW 31 _ rfl) (ty := (.object "java/util/List")) (by decide) rfl rfl (g := (mkF m 20 #[.val (.ref a), .val .null, .val .null, .val (.int (0 : Int32)), .val (.int (0 : Int32))] [(.ref ss), (.ref a)])) rfl rfl (hb hby d_jdk_78_method_5_20)
  have N16 := Fr.snoc X16 N11 ge_a
  have F16 := Fld.same W16 ((F_suppressedExceptions_a.other W6 (Or.inr (slot_ne (Or.inl (hW 61 _ rfl)) (Or.inl (hW 55 _ rfl)) (by decide) (t := (.object "java/util/List")) (t' := (.object "java/lang/Throwable")) (by decide) (by decide)))).other W11 (Or.inr (slot_ne (Or.inl (hW 61 _ rfl)) (Or.inl (hW 58 _ rfl)) (by decide) (t := (.object "java/util/List")) (t' := (.array (.object "java/lang/StackTraceElement"))) (by decide) (by decide))))
  have K17 : Go p e below T16 (mkF m 23 #[.val (.ref a), .val .null, .val .null, .val (.int (0 : Int32)), .val (.int (0 : Int32))] []) G := fun tq kq => K15 tq (st16 tq kq)
  have K18 : Go p e below T16 (mkF m 25 #[.val (.ref a), .val .null, .val .null, .val (.int (0 : Int32)), .val (.int (0 : Int32))] [(.int (0 : Int32))]) G := fun tq kq => K17 tq (XS.iload X16.here hx rfl (hb hby d_jdk_78_method_5_23) rfl kq)
  have K19 : Go p e below T16 (mkF m 36 #[.val (.ref a), .val .null, .val .null, .val (.int (0 : Int32)), .val (.int (0 : Int32))] []) G := fun tq kq => K18 tq (XS.ifYes X16.here hx rfl (pc0 := 25) (pc' := 36) rfl (hb hby d_jdk_78_method_5_25) rfl ((if0 _ _).trans (teq (by decide : (0 : Int32) = (0 : Int32))).1) (by decide) (by decide) kq)
  have K20 : Go p e below T16 (mkF m 37 #[.val (.ref a), .val .null, .val .null, .val (.int (0 : Int32)), .val (.int (0 : Int32))] [(.ref a)]) G := fun tq kq => K19 tq (XS.aloadN X16.here hx rfl (hb hby d_jdk_78_method_5_36) rfl rfl kq)
  have K21 : Go p e below T16 (mkF m 38 #[.val (.ref a), .val .null, .val .null, .val (.int (0 : Int32)), .val (.int (0 : Int32))] [.null, (.ref a)]) G := fun tq kq => K20 tq (XS.aconstNull X16.here hx rfl (hb hby d_jdk_78_method_5_37) kq)
  obtain ⟨T22, h22, X22, e22, W22, st22⟩ := putF X16 hx hZ hown (host := "") (Or.inl (hW 57 _ rfl)) Via.refl e16 (F11.other W16 (Or.inr (slot_ne (Or.inl (hW 58 _ rfl)) (Or.inl (hW 61 _ rfl)) (by decide) (t := (.array (.object "java/lang/StackTraceElement"))) (t' := (.object "java/util/List")) (by decide) (by decide)))) (((E_a.wr W6).wr W11).wr W16) (Or.inl (hW 58 _ rfl)) (hW 31 _ rfl) (ty := (.array (.object "java/lang/StackTraceElement"))) (by decide) rfl rfl (g := (mkF m 38 #[.val (.ref a), .val .null, .val .null, .val (.int (0 : Int32)), .val (.int (0 : Int32))] [.null, (.ref a)])) rfl rfl (hb hby d_jdk_78_method_5_38)
  have N22 := Fr.snoc X22 N16 ge_a
  have F22 := Fld.same W22 (F11.other W16 (Or.inr (slot_ne (Or.inl (hW 58 _ rfl)) (Or.inl (hW 61 _ rfl)) (by decide) (t := (.array (.object "java/lang/StackTraceElement"))) (t' := (.object "java/util/List")) (by decide) (by decide))))
  have K23 : Go p e below T22 (mkF m 41 #[.val (.ref a), .val .null, .val .null, .val (.int (0 : Int32)), .val (.int (0 : Int32))] []) G := fun tq kq => K21 tq (st22 tq kq)
  have K24 : Go p e below T22 (mkF m 42 #[.val (.ref a), .val .null, .val .null, .val (.int (0 : Int32)), .val (.int (0 : Int32))] [(.ref a)]) G := fun tq kq => K23 tq (XS.aloadN X22.here hx rfl (hb hby d_jdk_78_method_5_41) rfl rfl kq)
  have K25 : Go p e below T22 (mkF m 43 #[.val (.ref a), .val .null, .val .null, .val (.int (0 : Int32)), .val (.int (0 : Int32))] [.null, (.ref a)]) G := fun tq kq => K24 tq (XS.aloadN X22.here hx rfl (hb hby d_jdk_78_method_5_42) rfl rfl kq)
  obtain ⟨T26, h26, X26, e26, W26, st26⟩ := putF X22 hx hZ hown (host := "") (Or.inl (hW 62 _ rfl)) Via.refl e22 ((((F_detailMessage_a.other W6 (Or.inr (slot_ne (Or.inl (hW 63 _ rfl)) (Or.inl (hW 55 _ rfl)) (by decide) (t := (.object "java/lang/String")) (t' := (.object "java/lang/Throwable")) (by decide) (by decide)))).other W11 (Or.inr (slot_ne (Or.inl (hW 63 _ rfl)) (Or.inl (hW 58 _ rfl)) (by decide) (t := (.object "java/lang/String")) (t' := (.array (.object "java/lang/StackTraceElement"))) (by decide) (by decide)))).other W16 (Or.inr (slot_ne (Or.inl (hW 63 _ rfl)) (Or.inl (hW 61 _ rfl)) (by decide) (t := (.object "java/lang/String")) (t' := (.object "java/util/List")) (by decide) (by decide)))).other W22 (Or.inr (slot_ne (Or.inl (hW 63 _ rfl)) (Or.inl (hW 58 _ rfl)) (by decide) (t := (.object "java/lang/String")) (t' := (.array (.object "java/lang/StackTraceElement"))) (by decide) (by decide)))) ((((E_a.wr W6).wr W11).wr W16).wr W22) (Or.inl (hW 63 _ rfl)) (hW 31 _ rfl) (ty := (.object "java/lang/String")) (by decide) rfl rfl (g := (mkF m 43 #[.val (.ref a), .val .null, .val .null, .val (.int (0 : Int32)), .val (.int (0 : Int32))] [.null, (.ref a)])) rfl rfl (hb hby d_jdk_78_method_5_43)
  have N26 := Fr.snoc X26 N22 ge_a
  have F26 := Fld.same W26 ((((F_detailMessage_a.other W6 (Or.inr (slot_ne (Or.inl (hW 63 _ rfl)) (Or.inl (hW 55 _ rfl)) (by decide) (t := (.object "java/lang/String")) (t' := (.object "java/lang/Throwable")) (by decide) (by decide)))).other W11 (Or.inr (slot_ne (Or.inl (hW 63 _ rfl)) (Or.inl (hW 58 _ rfl)) (by decide) (t := (.object "java/lang/String")) (t' := (.array (.object "java/lang/StackTraceElement"))) (by decide) (by decide)))).other W16 (Or.inr (slot_ne (Or.inl (hW 63 _ rfl)) (Or.inl (hW 61 _ rfl)) (by decide) (t := (.object "java/lang/String")) (t' := (.object "java/util/List")) (by decide) (by decide)))).other W22 (Or.inr (slot_ne (Or.inl (hW 63 _ rfl)) (Or.inl (hW 58 _ rfl)) (by decide) (t := (.object "java/lang/String")) (t' := (.array (.object "java/lang/StackTraceElement"))) (by decide) (by decide))))
  have K27 : Go p e below T26 (mkF m 46 #[.val (.ref a), .val .null, .val .null, .val (.int (0 : Int32)), .val (.int (0 : Int32))] []) G := fun tq kq => K25 tq (st26 tq kq)
  have K28 : Go p e below T26 (mkF m 47 #[.val (.ref a), .val .null, .val .null, .val (.int (0 : Int32)), .val (.int (0 : Int32))] [(.ref a)]) G := fun tq kq => K27 tq (XS.aloadN X26.here hx rfl (hb hby d_jdk_78_method_5_46) rfl rfl kq)
  have K29 : Go p e below T26 (mkF m 48 #[.val (.ref a), .val .null, .val .null, .val (.int (0 : Int32)), .val (.int (0 : Int32))] [.null, (.ref a)]) G := fun tq kq => K28 tq (XS.aloadN X26.here hx rfl (hb hby d_jdk_78_method_5_47) rfl rfl kq)
  obtain ⟨T30, h30, X30, e30, W30, st30⟩ := putF X26 hx hZ hown (host := "") (Or.inl (hW 54 _ rfl)) Via.refl e26 ((((F6.other W11 (Or.inr (slot_ne (Or.inl (hW 55 _ rfl)) (Or.inl (hW 58 _ rfl)) (by decide) (t := (.object "java/lang/Throwable")) (t' := (.array (.object "java/lang/StackTraceElement"))) (by decide) (by decide)))).other W16 (Or.inr (slot_ne (Or.inl (hW 55 _ rfl)) (Or.inl (hW 61 _ rfl)) (by decide) (t := (.object "java/lang/Throwable")) (t' := (.object "java/util/List")) (by decide) (by decide)))).other W22 (Or.inr (slot_ne (Or.inl (hW 55 _ rfl)) (Or.inl (hW 58 _ rfl)) (by decide) (t := (.object "java/lang/Throwable")) (t' := (.array (.object "java/lang/StackTraceElement"))) (by decide) (by decide)))).other W26 (Or.inr (slot_ne (Or.inl (hW 55 _ rfl)) (Or.inl (hW 63 _ rfl)) (by decide) (t := (.object "java/lang/Throwable")) (t' := (.object "java/lang/String")) (by decide) (by decide)))) (((((E_a.wr W6).wr W11).wr W16).wr W22).wr W26) (Or.inl (hW 55 _ rfl)) (hW 31 _ rfl) (ty := (.object "java/lang/Throwable")) (by decide) rfl rfl (g := (mkF m 48 #[.val (.ref a), .val .null, .val .null, .val (.int (0 : Int32)), .val (.int (0 : Int32))] [.null, (.ref a)])) rfl rfl (hb hby d_jdk_78_method_5_48)
  have N30 := Fr.snoc X30 N26 ge_a
  have F30 := Fld.same W30 ((((F6.other W11 (Or.inr (slot_ne (Or.inl (hW 55 _ rfl)) (Or.inl (hW 58 _ rfl)) (by decide) (t := (.object "java/lang/Throwable")) (t' := (.array (.object "java/lang/StackTraceElement"))) (by decide) (by decide)))).other W16 (Or.inr (slot_ne (Or.inl (hW 55 _ rfl)) (Or.inl (hW 61 _ rfl)) (by decide) (t := (.object "java/lang/Throwable")) (t' := (.object "java/util/List")) (by decide) (by decide)))).other W22 (Or.inr (slot_ne (Or.inl (hW 55 _ rfl)) (Or.inl (hW 58 _ rfl)) (by decide) (t := (.object "java/lang/Throwable")) (t' := (.array (.object "java/lang/StackTraceElement"))) (by decide) (by decide)))).other W26 (Or.inr (slot_ne (Or.inl (hW 55 _ rfl)) (Or.inl (hW 63 _ rfl)) (by decide) (t := (.object "java/lang/Throwable")) (t' := (.object "java/lang/String")) (by decide) (by decide))))
  have K31 : Go p e below T30 (mkF m 51 #[.val (.ref a), .val .null, .val .null, .val (.int (0 : Int32)), .val (.int (0 : Int32))] []) G := fun tq kq => K29 tq (st30 tq kq)
  have K32 : Go p e below T30 (mkF m 52 #[.val (.ref a), .val .null, .val .null, .val (.int (0 : Int32)), .val (.int (0 : Int32))] [(.int (0 : Int32))]) G := fun tq kq => K31 tq (XS.iloadN X30.here hx rfl (hb hby d_jdk_78_method_5_51) rfl kq)
  have K33 : Go p e below T30 (mkF m 55 #[.val (.ref a), .val .null, .val .null, .val (.int (0 : Int32)), .val (.int (0 : Int32))] []) G := fun tq kq => K32 tq (XS.ifNo X30.here hx rfl (hb hby d_jdk_78_method_5_52) rfl ((if0 _ _).trans (teq (by decide : (0 : Int32) = (0 : Int32))).2) kq)
  have K34 : Go p e below T30 (mkF m 56 #[.val (.ref a), .val .null, .val .null, .val (.int (0 : Int32)), .val (.int (0 : Int32))] [(.ref a)]) G := fun tq kq => K33 tq (XS.aloadN X30.here hx rfl (hb hby d_jdk_78_method_5_55) rfl rfl kq)
  have K35 : Go p e below T30 (mkF m 57 #[.val (.ref a), .val .null, .val .null, .val (.int (0 : Int32)), .val (.int (0 : Int32))] [.null, (.ref a)]) G := fun tq kq => K34 tq (XS.aconstNull X30.here hx rfl (hb hby d_jdk_78_method_5_56) kq)
  obtain ⟨T36, h36, X36, e36, W36, st36⟩ := putF X30 hx hZ hown (host := "") (Or.inl (hW 60 _ rfl)) Via.refl e30 (((F16.other W22 (Or.inr (slot_ne (Or.inl (hW 61 _ rfl)) (Or.inl (hW 58 _ rfl)) (by decide) (t := (.object "java/util/List")) (t' := (.array (.object "java/lang/StackTraceElement"))) (by decide) (by decide)))).other W26 (Or.inr (slot_ne (Or.inl (hW 61 _ rfl)) (Or.inl (hW 63 _ rfl)) (by decide) (t := (.object "java/util/List")) (t' := (.object "java/lang/String")) (by decide) (by decide)))).other W30 (Or.inr (slot_ne (Or.inl (hW 61 _ rfl)) (Or.inl (hW 55 _ rfl)) (by decide) (t := (.object "java/util/List")) (t' := (.object "java/lang/Throwable")) (by decide) (by decide)))) ((((((E_a.wr W6).wr W11).wr W16).wr W22).wr W26).wr W30) (Or.inl (hW 61 _ rfl)) (hW 31 _ rfl) (ty := (.object "java/util/List")) (by decide) rfl rfl (g := (mkF m 57 #[.val (.ref a), .val .null, .val .null, .val (.int (0 : Int32)), .val (.int (0 : Int32))] [.null, (.ref a)])) rfl rfl (hb hby d_jdk_78_method_5_57)
  have N36 := Fr.snoc X36 N30 ge_a
  have F36 := Fld.same W36 (((F16.other W22 (Or.inr (slot_ne (Or.inl (hW 61 _ rfl)) (Or.inl (hW 58 _ rfl)) (by decide) (t := (.object "java/util/List")) (t' := (.array (.object "java/lang/StackTraceElement"))) (by decide) (by decide)))).other W26 (Or.inr (slot_ne (Or.inl (hW 61 _ rfl)) (Or.inl (hW 63 _ rfl)) (by decide) (t := (.object "java/util/List")) (t' := (.object "java/lang/String")) (by decide) (by decide)))).other W30 (Or.inr (slot_ne (Or.inl (hW 61 _ rfl)) (Or.inl (hW 55 _ rfl)) (by decide) (t := (.object "java/util/List")) (t' := (.object "java/lang/Throwable")) (by decide) (by decide))))
  have K37 : Go p e below T36 (mkF m 60 #[.val (.ref a), .val .null, .val .null, .val (.int (0 : Int32)), .val (.int (0 : Int32))] []) G := fun tq kq => K35 tq (st36 tq kq)
  obtain ⟨fs, hr, hrun, hended, hWW, hsame⟩ := X36.leave (v := none) (fun _ => rfl)
  refine ⟨_, _, hG _ (K37 _ (X36.returnOut hx Bd.returns (hb hby d_jdk_78_method_5_60) hr)), hrun, hended, _, _, rfl, ?_, ⟨_, rfl⟩, hWW, hsame.mono (by decide) (by decide)⟩
  show QTh Z a us ss h0 n0 _ T36.heap _
  rw [e36]
  exact ⟨rfl, N36, ((((((((Keep.refl h0 [a]).wr W6 (Or.inl (List.mem_of_getElem? (i := 0) rfl))).wr W11 (Or.inl (List.mem_of_getElem? (i := 0) rfl))).wr W16 (Or.inl (List.mem_of_getElem? (i := 0) rfl))).wr W22 (Or.inl (List.mem_of_getElem? (i := 0) rfl))).wr W26 (Or.inl (List.mem_of_getElem? (i := 0) rfl))).wr W30 (Or.inl (List.mem_of_getElem? (i := 0) rfl))).wr W36 (Or.inl (List.mem_of_getElem? (i := 0) rfl))), (((((((E_a.wr W6).wr W11).wr W16).wr W22).wr W26).wr W30).wr W36), (((((((F_what_a.other W6 (Or.inr (slot_ne (Or.inr (hW 65 _ rfl)) (Or.inl (hW 55 _ rfl)) (by decide) (t := (.object "java/lang/String")) (t' := (.object "java/lang/Throwable")) (by decide) (by decide)))).other W11 (Or.inr (slot_ne (Or.inr (hW 65 _ rfl)) (Or.inl (hW 58 _ rfl)) (by decide) (t := (.object "java/lang/String")) (t' := (.array (.object "java/lang/StackTraceElement"))) (by decide) (by decide)))).other W16 (Or.inr (slot_ne (Or.inr (hW 65 _ rfl)) (Or.inl (hW 61 _ rfl)) (by decide) (t := (.object "java/lang/String")) (t' := (.object "java/util/List")) (by decide) (by decide)))).other W22 (Or.inr (slot_ne (Or.inr (hW 65 _ rfl)) (Or.inl (hW 58 _ rfl)) (by decide) (t := (.object "java/lang/String")) (t' := (.array (.object "java/lang/StackTraceElement"))) (by decide) (by decide)))).other W26 (Or.inr (slot_ne (Or.inr (hW 65 _ rfl)) (Or.inl (hW 63 _ rfl)) (by decide) (t := (.object "java/lang/String")) (t' := (.object "java/lang/String")) (by decide) (by decide)))).other W30 (Or.inr (slot_ne (Or.inr (hW 65 _ rfl)) (Or.inl (hW 55 _ rfl)) (by decide) (t := (.object "java/lang/String")) (t' := (.object "java/lang/Throwable")) (by decide) (by decide)))).other W36 (Or.inr (slot_ne (Or.inr (hW 65 _ rfl)) (Or.inl (hW 61 _ rfl)) (by decide) (t := (.object "java/lang/String")) (t' := (.object "java/util/List")) (by decide) (by decide)))), (((((((F_line_a.other W6 (Or.inr (slot_ne (Or.inl (hW 67 _ rfl)) (Or.inl (hW 55 _ rfl)) (by decide) (t := .int) (t' := (.object "java/lang/Throwable")) (by decide) (by decide)))).other W11 (Or.inr (slot_ne (Or.inl (hW 67 _ rfl)) (Or.inl (hW 58 _ rfl)) (by decide) (t := .int) (t' := (.array (.object "java/lang/StackTraceElement"))) (by decide) (by decide)))).other W16 (Or.inr (slot_ne (Or.inl (hW 67 _ rfl)) (Or.inl (hW 61 _ rfl)) (by decide) (t := .int) (t' := (.object "java/util/List")) (by decide) (by decide)))).other W22 (Or.inr (slot_ne (Or.inl (hW 67 _ rfl)) (Or.inl (hW 58 _ rfl)) (by decide) (t := .int) (t' := (.array (.object "java/lang/StackTraceElement"))) (by decide) (by decide)))).other W26 (Or.inr (slot_ne (Or.inl (hW 67 _ rfl)) (Or.inl (hW 63 _ rfl)) (by decide) (t := .int) (t' := (.object "java/lang/String")) (by decide) (by decide)))).other W30 (Or.inr (slot_ne (Or.inl (hW 67 _ rfl)) (Or.inl (hW 55 _ rfl)) (by decide) (t := .int) (t' := (.object "java/lang/Throwable")) (by decide) (by decide)))).other W36 (Or.inr (slot_ne (Or.inl (hW 67 _ rfl)) (Or.inl (hW 61 _ rfl)) (by decide) (t := .int) (t' := (.object "java/util/List")) (by decide) (by decide))))⟩
theorem pn_30 : plainName "java/lang/Exception" = true := by first | (simp [plainName, overriddenIn]; done) | decide +kernel
theorem ef_jdk_59_method_5_RNNII (m : MethodId) (x0 : Addr) (x3 : Int32) (x4 : Int32) : entryFrame m #[(.ref x0), .null, .null, (.int x3), (.int x4)] 5 = mkF m 0 #[.val (.ref x0), .val .null, .val .null, .val (.int x3), .val (.int x4)] [] := by first | (simp [entryFrame, mkF, argsToLocals, Value.category]; done) | rfl
theorem pd_32 : parseMethodDescriptor "(Ljava/lang/String;Ljava/lang/Throwable;ZZ)V" = some ⟨[(.object "java/lang/String"), (.object "java/lang/Throwable"), .boolean, .boolean], none⟩ := by decide +kernel
theorem d_jdk_59_method_5_0 : decode jdk_59_method_5_code 0 = .ok (.aload_n 0, 1) := by decide +kernel
theorem d_jdk_59_method_5_1 : decode jdk_59_method_5_code 1 = .ok (.aload_n 1, 1) := by decide +kernel
theorem d_jdk_59_method_5_2 : decode jdk_59_method_5_code 2 = .ok (.aload_n 2, 1) := by decide +kernel
theorem d_jdk_59_method_5_3 : decode jdk_59_method_5_code 3 = .ok (.iload_n 3, 1) := by decide +kernel
theorem d_jdk_59_method_5_4 : decode jdk_59_method_5_code 4 = .ok (.iload 4, 2) := by decide +kernel
theorem d_jdk_59_method_5_6 : decode jdk_59_method_5_code 6 = .ok (.invokespecial 16, 3) := by decide +kernel
theorem d_jdk_59_method_5_9 : decode jdk_59_method_5_code 9 = .ok (.return_, 1) := by decide +kernel
def QEx (Z : State) (a : Addr) (us : Addr) (ss : Addr) (h0 : Heap) (n0 : Nat) (v : Option Value) (h : Heap) (L : List Loc) : Prop := v = none ∧ Fr n0 L ∧ Keep h0 h [a] ∧ Exa Z h a "com/example/goalpost/goalpost/runtime/NotSupported" ∧ Fld Z h a "com/example/goalpost/goalpost/runtime/NotSupported" "what" "Ljava/lang/String;" .null ∧ Fld Z h a "com/example/goalpost/goalpost/runtime/NotSupported" "line" "I" (.int (0 : Int32))
set_option maxRecDepth 65536 in
set_option maxHeartbeats 40000000 in
theorem rmEx (l : Launch) (Z : State) (a0 : Array Value) (hw : ∀ d ∈ tables_1, d.before a0 Z = true) (ws : List Jvm.Cond) (a : Addr) (us : Addr) (ss : Addr) (h0 : Heap) (n0 : Nat) (Z0 : n0 ≤ h0.size) (F_cause_a : Fld Z h0 a "java/lang/Throwable" "cause" "Ljava/lang/Throwable;" .null) (F_stackTrace_a : Fld Z h0 a "java/lang/Throwable" "stackTrace" "[Ljava/lang/StackTraceElement;" .null) (F_suppressedExceptions_a : Fld Z h0 a "java/lang/Throwable" "suppressedExceptions" "Ljava/util/List;" .null) (F_detailMessage_a : Fld Z h0 a "java/lang/Throwable" "detailMessage" "Ljava/lang/String;" .null) (F_what_a : Fld Z h0 a "com/example/goalpost/goalpost/runtime/NotSupported" "what" "Ljava/lang/String;" .null) (F_line_a : Fld Z h0 a "com/example/goalpost/goalpost/runtime/NotSupported" "line" "I" (.int (0 : Int32))) (E_a : Exa Z h0 a "com/example/goalpost/goalpost/runtime/NotSupported") (ge_a : n0 ≤ a) (O0 : Old Z n0 h0) (S_us : Sta Z Z.heap "java/lang/Throwable" "UNASSIGNED_STACK" "[Ljava/lang/StackTraceElement;" (.ref us)) (S_ss : Sta Z Z.heap "java/lang/Throwable" "SUPPRESSED_SENTINEL" "Ljava/util/List;" (.ref ss)) :
    MetFree l (⟨"java/lang/Exception", "<init>", "(Ljava/lang/String;Ljava/lang/Throwable;ZZ)V"⟩ : MethodName) (head1 (Jvm.Cond.code (⟨"java/lang/Exception", "<init>", "(Ljava/lang/String;Ljava/lang/Throwable;ZZ)V"⟩ : MethodName) jdk_59_method_5_code 5 none :: ws) ({ frames := 2, cells := 0, slots := 0, locals := 28 } : Room)) (fun aa UU => aa = #[(.ref a), .null, .null, (.int (0 : Int32)), (.int (0 : Int32))] ∧ Z.Warmed39 UU.vm ∧ UU.heap = h0) (fun _ _ _ _ _ => True) (fun _ UU oo UU' => ∃ vv LL, oo = .returned vv ∧ QEx Z a us ss h0 n0 vv UU'.heap LL ∧ FrameEnd UU oo UU' LL ({ frames := 2, cells := 0, slots := 0, locals := 28 } : Room).cells ({ frames := 2, cells := 0, slots := 0, locals := 28 } : Room).slots) := by
  refine MetFree.of_bodySF (plainFor_of_name pn_30) hisR ?_
  intro p e s m args below meth c s₁ Bd hml0 hP hK
  obtain ⟨rfl, hZ, hh⟩ := hP
  have hx := Bd.exec
  have hby := Bd.bytes
  have hml : c.maxLocals = 5 := hml0
  have hown : s.vm.findClass "java/lang/Exception" = some m.cls := findClass_of_methodNamed Bd.named
  have hnm := (name_of_methodNamed Bd.named Bd.method).1
  have hW : ∀ (k : Nat) (d : Jvm.Cond), tables_1[k]? = some d → d.before a0 Z = true := fun k d h => hw d (List.mem_of_getElem? h)
  have X0 : Stand p l e ({ frames := 2, cells := 0, slots := 0, locals := 28 } : Room) s m #[(.ref a), .null, .null, (.int (0 : Int32)), (.int (0 : Int32))] below meth c s₁ [] 0 0 := Stand.of_body Bd
  have e0 : s₁.heap = h0 := by rw [← hh, Bd.state]; rfl
  have N0 := Fr.nil n0
  obtain ⟨G, hG, K0⟩ : ∃ G : State → Prop, (∀ t, G t → Steps p.tables e below (s₁.setTop (entryFrame m #[(.ref a), .null, .null, (.int (0 : Int32)), (.int (0 : Int32))] 5)) t) ∧ Go p e below s₁ (mkF m 0 #[.val (.ref a), .val .null, .val .null, .val (.int (0 : Int32)), .val (.int (0 : Int32))] []) G := ⟨fun t => Steps p.tables e below (s₁.setTop (entryFrame m #[(.ref a), .null, .null, (.int (0 : Int32)), (.int (0 : Int32))] 5)) t, fun _ h => h, fun t k => castTop (ef_jdk_59_method_5_RNNII m a (0 : Int32) (0 : Int32)) k⟩
  have K38 : Go p e below s₁ (mkF m 1 #[.val (.ref a), .val .null, .val .null, .val (.int (0 : Int32)), .val (.int (0 : Int32))] [(.ref a)]) G := fun tq kq => K0 tq (XS.aloadN X0.here hx rfl (hb hby d_jdk_59_method_5_0) rfl rfl kq)
  have K39 : Go p e below s₁ (mkF m 2 #[.val (.ref a), .val .null, .val .null, .val (.int (0 : Int32)), .val (.int (0 : Int32))] [.null, (.ref a)]) G := fun tq kq => K38 tq (XS.aloadN X0.here hx rfl (hb hby d_jdk_59_method_5_1) rfl rfl kq)
  have K40 : Go p e below s₁ (mkF m 3 #[.val (.ref a), .val .null, .val .null, .val (.int (0 : Int32)), .val (.int (0 : Int32))] [.null, .null, (.ref a)]) G := fun tq kq => K39 tq (XS.aloadN X0.here hx rfl (hb hby d_jdk_59_method_5_2) rfl rfl kq)
  have K41 : Go p e below s₁ (mkF m 4 #[.val (.ref a), .val .null, .val .null, .val (.int (0 : Int32)), .val (.int (0 : Int32))] [(.int (0 : Int32)), .null, .null, (.ref a)]) G := fun tq kq => K40 tq (XS.iloadN X0.here hx rfl (hb hby d_jdk_59_method_5_3) rfl kq)
  have K42 : Go p e below s₁ (mkF m 6 #[.val (.ref a), .val .null, .val .null, .val (.int (0 : Int32)), .val (.int (0 : Int32))] [(.int (0 : Int32)), (.int (0 : Int32)), .null, .null, (.ref a)]) G := fun tq kq => K41 tq (XS.iload X0.here hx rfl (hb hby d_jdk_59_method_5_4) rfl kq)
  obtain ⟨v43, _, ⟨T43, L43, k43, n43⟩, -, X43, ⟨Lc43, hQ43, l43, y43, z43⟩, st43⟩ := X0.specialBack hx (y := (⟨"java/lang/Throwable", "<init>", "(Ljava/lang/String;Ljava/lang/Throwable;ZZ)V"⟩ : MethodName)) rfl hown (mvT hZ (hW 47 _ rfl)) (mvT hZ (hW 48 _ rfl)) (mvT hZ (hW 52 _ rfl)) (by decide) (backOf (W := 0) (rmTh l Z a0 hw [] a us ss h0 n0 Z0 F_cause_a F_stackTrace_a F_suppressedExceptions_a F_detailMessage_a F_what_a F_line_a E_a ge_a O0 S_us S_ss) hZ (hW 52 _ rfl) (hW 51 _ rfl) (by decide) (by decide)) (g := (mkF m 6 #[.val (.ref a), .val .null, .val .null, .val (.int (0 : Int32)), .val (.int (0 : Int32))] [(.int (0 : Int32)), (.int (0 : Int32)), .null, .null, (.ref a)])) rfl (by rw [hml]; rfl) (Steps.refl _) (a := a) (argsL := [.null, .null, (.int (0 : Int32)), (.int (0 : Int32))]) (rest := []) (lenOf pd_32 rfl) rfl (by show 2 * 0 + _ ≤ _; exact Nat.le_of_eq rfl) (hb hby d_jdk_59_method_5_6) (fun _ _ => ⟨rfl, e0, (by decide : 0 + 0 ≤ _), (by decide : 0 + 0 ≤ _)⟩)
  dsimp only [Pt.U, Pt.locs, Pt.cells, Pt.slots] at X43 l43 y43 z43 st43 hQ43
  subst l43 y43 z43
  obtain ⟨rfl, N43q, K43q, E43q, F43q_what, F43q_line⟩ := hQ43
  have N43 := Fr.app N0 N43q
  have K44 : Go p e below T43 (mkF m 9 #[.val (.ref a), .val .null, .val .null, .val (.int (0 : Int32)), .val (.int (0 : Int32))] []) G := fun tq kq => K42 tq (st43.trans kq)
  obtain ⟨fs, hr, hrun, hended, hWW, hsame⟩ := X43.leave (v := none) (fun _ => rfl)
  refine ⟨_, _, hG _ (K44 _ (X43.returnOut hx Bd.returns (hb hby d_jdk_59_method_5_9) hr)), hrun, hended, _, _, rfl, ?_, ⟨_, rfl⟩, hWW, hsame.mono (by decide) (by decide)⟩
  show QEx Z a us ss h0 n0 _ T43.heap _
  exact ⟨rfl, N43, ((Keep.refl h0 [a]).trans K43q (allS (Or.inl (List.mem_of_getElem? (i := 0) rfl)) all0)), E43q, F43q_what, F43q_line⟩
theorem pn_40 : plainName "java/lang/RuntimeException" = true := by first | (simp [plainName, overriddenIn]; done) | decide +kernel
theorem ef_jdk_58_method_5_RNNII (m : MethodId) (x0 : Addr) (x3 : Int32) (x4 : Int32) : entryFrame m #[(.ref x0), .null, .null, (.int x3), (.int x4)] 5 = mkF m 0 #[.val (.ref x0), .val .null, .val .null, .val (.int x3), .val (.int x4)] [] := by first | (simp [entryFrame, mkF, argsToLocals, Value.category]; done) | rfl
theorem d_jdk_58_method_5_0 : decode jdk_58_method_5_code 0 = .ok (.aload_n 0, 1) := by decide +kernel
theorem d_jdk_58_method_5_1 : decode jdk_58_method_5_code 1 = .ok (.aload_n 1, 1) := by decide +kernel
theorem d_jdk_58_method_5_2 : decode jdk_58_method_5_code 2 = .ok (.aload_n 2, 1) := by decide +kernel
theorem d_jdk_58_method_5_3 : decode jdk_58_method_5_code 3 = .ok (.iload_n 3, 1) := by decide +kernel
theorem d_jdk_58_method_5_4 : decode jdk_58_method_5_code 4 = .ok (.iload 4, 2) := by decide +kernel
theorem d_jdk_58_method_5_6 : decode jdk_58_method_5_code 6 = .ok (.invokespecial 16, 3) := by decide +kernel
theorem d_jdk_58_method_5_9 : decode jdk_58_method_5_code 9 = .ok (.return_, 1) := by decide +kernel
def QRt (Z : State) (a : Addr) (us : Addr) (ss : Addr) (h0 : Heap) (n0 : Nat) (v : Option Value) (h : Heap) (L : List Loc) : Prop := v = none ∧ Fr n0 L ∧ Keep h0 h [a] ∧ Exa Z h a "com/example/goalpost/goalpost/runtime/NotSupported" ∧ Fld Z h a "com/example/goalpost/goalpost/runtime/NotSupported" "what" "Ljava/lang/String;" .null ∧ Fld Z h a "com/example/goalpost/goalpost/runtime/NotSupported" "line" "I" (.int (0 : Int32))
set_option maxRecDepth 65536 in
set_option maxHeartbeats 40000000 in
theorem rmRt (l : Launch) (Z : State) (a0 : Array Value) (hw : ∀ d ∈ tables_1, d.before a0 Z = true) (ws : List Jvm.Cond) (a : Addr) (us : Addr) (ss : Addr) (h0 : Heap) (n0 : Nat) (Z0 : n0 ≤ h0.size) (F_cause_a : Fld Z h0 a "java/lang/Throwable" "cause" "Ljava/lang/Throwable;" .null) (F_stackTrace_a : Fld Z h0 a "java/lang/Throwable" "stackTrace" "[Ljava/lang/StackTraceElement;" .null) (F_suppressedExceptions_a : Fld Z h0 a "java/lang/Throwable" "suppressedExceptions" "Ljava/util/List;" .null) (F_detailMessage_a : Fld Z h0 a "java/lang/Throwable" "detailMessage" "Ljava/lang/String;" .null) (F_what_a : Fld Z h0 a "com/example/goalpost/goalpost/runtime/NotSupported" "what" "Ljava/lang/String;" .null) (F_line_a : Fld Z h0 a "com/example/goalpost/goalpost/runtime/NotSupported" "line" "I" (.int (0 : Int32))) (E_a : Exa Z h0 a "com/example/goalpost/goalpost/runtime/NotSupported") (ge_a : n0 ≤ a) (O0 : Old Z n0 h0) (S_us : Sta Z Z.heap "java/lang/Throwable" "UNASSIGNED_STACK" "[Ljava/lang/StackTraceElement;" (.ref us)) (S_ss : Sta Z Z.heap "java/lang/Throwable" "SUPPRESSED_SENTINEL" "Ljava/util/List;" (.ref ss)) :
    MetFree l (⟨"java/lang/RuntimeException", "<init>", "(Ljava/lang/String;Ljava/lang/Throwable;ZZ)V"⟩ : MethodName) (head1 (Jvm.Cond.code (⟨"java/lang/RuntimeException", "<init>", "(Ljava/lang/String;Ljava/lang/Throwable;ZZ)V"⟩ : MethodName) jdk_58_method_5_code 5 none :: ws) ({ frames := 3, cells := 0, slots := 0, locals := 44 } : Room)) (fun aa UU => aa = #[(.ref a), .null, .null, (.int (0 : Int32)), (.int (0 : Int32))] ∧ Z.Warmed39 UU.vm ∧ UU.heap = h0) (fun _ _ _ _ _ => True) (fun _ UU oo UU' => ∃ vv LL, oo = .returned vv ∧ QRt Z a us ss h0 n0 vv UU'.heap LL ∧ FrameEnd UU oo UU' LL ({ frames := 3, cells := 0, slots := 0, locals := 44 } : Room).cells ({ frames := 3, cells := 0, slots := 0, locals := 44 } : Room).slots) := by
  refine MetFree.of_bodySF (plainFor_of_name pn_40) hisR ?_
  intro p e s m args below meth c s₁ Bd hml0 hP hK
  obtain ⟨rfl, hZ, hh⟩ := hP
  have hx := Bd.exec
  have hby := Bd.bytes
  have hml : c.maxLocals = 5 := hml0
  have hown : s.vm.findClass "java/lang/RuntimeException" = some m.cls := findClass_of_methodNamed Bd.named
  have hnm := (name_of_methodNamed Bd.named Bd.method).1
  have hW : ∀ (k : Nat) (d : Jvm.Cond), tables_1[k]? = some d → d.before a0 Z = true := fun k d h => hw d (List.mem_of_getElem? h)
  have X0 : Stand p l e ({ frames := 3, cells := 0, slots := 0, locals := 44 } : Room) s m #[(.ref a), .null, .null, (.int (0 : Int32)), (.int (0 : Int32))] below meth c s₁ [] 0 0 := Stand.of_body Bd
  have e0 : s₁.heap = h0 := by rw [← hh, Bd.state]; rfl
  have N0 := Fr.nil n0
  obtain ⟨G, hG, K0⟩ : ∃ G : State → Prop, (∀ t, G t → Steps p.tables e below (s₁.setTop (entryFrame m #[(.ref a), .null, .null, (.int (0 : Int32)), (.int (0 : Int32))] 5)) t) ∧ Go p e below s₁ (mkF m 0 #[.val (.ref a), .val .null, .val .null, .val (.int (0 : Int32)), .val (.int (0 : Int32))] []) G := ⟨fun t => Steps p.tables e below (s₁.setTop (entryFrame m #[(.ref a), .null, .null, (.int (0 : Int32)), (.int (0 : Int32))] 5)) t, fun _ h => h, fun t k => castTop (ef_jdk_58_method_5_RNNII m a (0 : Int32) (0 : Int32)) k⟩
  have K45 : Go p e below s₁ (mkF m 1 #[.val (.ref a), .val .null, .val .null, .val (.int (0 : Int32)), .val (.int (0 : Int32))] [(.ref a)]) G := fun tq kq => K0 tq (XS.aloadN X0.here hx rfl (hb hby d_jdk_58_method_5_0) rfl rfl kq)
  have K46 : Go p e below s₁ (mkF m 2 #[.val (.ref a), .val .null, .val .null, .val (.int (0 : Int32)), .val (.int (0 : Int32))] [.null, (.ref a)]) G := fun tq kq => K45 tq (XS.aloadN X0.here hx rfl (hb hby d_jdk_58_method_5_1) rfl rfl kq)
  have K47 : Go p e below s₁ (mkF m 3 #[.val (.ref a), .val .null, .val .null, .val (.int (0 : Int32)), .val (.int (0 : Int32))] [.null, .null, (.ref a)]) G := fun tq kq => K46 tq (XS.aloadN X0.here hx rfl (hb hby d_jdk_58_method_5_2) rfl rfl kq)
  have K48 : Go p e below s₁ (mkF m 4 #[.val (.ref a), .val .null, .val .null, .val (.int (0 : Int32)), .val (.int (0 : Int32))] [(.int (0 : Int32)), .null, .null, (.ref a)]) G := fun tq kq => K47 tq (XS.iloadN X0.here hx rfl (hb hby d_jdk_58_method_5_3) rfl kq)
  have K49 : Go p e below s₁ (mkF m 6 #[.val (.ref a), .val .null, .val .null, .val (.int (0 : Int32)), .val (.int (0 : Int32))] [(.int (0 : Int32)), (.int (0 : Int32)), .null, .null, (.ref a)]) G := fun tq kq => K48 tq (XS.iload X0.here hx rfl (hb hby d_jdk_58_method_5_4) rfl kq)
  obtain ⟨v50, _, ⟨T50, L50, k50, n50⟩, -, X50, ⟨Lc50, hQ50, l50, y50, z50⟩, st50⟩ := X0.specialBack hx (y := (⟨"java/lang/Exception", "<init>", "(Ljava/lang/String;Ljava/lang/Throwable;ZZ)V"⟩ : MethodName)) rfl hown (mvT hZ (hW 41 _ rfl)) (mvT hZ (hW 42 _ rfl)) (mvT hZ (hW 46 _ rfl)) (by decide) (backOf (W := 0) (rmEx l Z a0 hw [] a us ss h0 n0 Z0 F_cause_a F_stackTrace_a F_suppressedExceptions_a F_detailMessage_a F_what_a F_line_a E_a ge_a O0 S_us S_ss) hZ (hW 46 _ rfl) (hW 45 _ rfl) (by decide) (by decide)) (g := (mkF m 6 #[.val (.ref a), .val .null, .val .null, .val (.int (0 : Int32)), .val (.int (0 : Int32))] [(.int (0 : Int32)), (.int (0 : Int32)), .null, .null, (.ref a)])) rfl (by rw [hml]; rfl) (Steps.refl _) (a := a) (argsL := [.null, .null, (.int (0 : Int32)), (.int (0 : Int32))]) (rest := []) (lenOf pd_32 rfl) rfl (by show 2 * 0 + _ ≤ _; exact Nat.le_of_eq rfl) (hb hby d_jdk_58_method_5_6) (fun _ _ => ⟨rfl, e0, (by decide : 0 + 0 ≤ _), (by decide : 0 + 0 ≤ _)⟩)
  dsimp only [Pt.U, Pt.locs, Pt.cells, Pt.slots] at X50 l50 y50 z50 st50 hQ50
  subst l50 y50 z50
  obtain ⟨rfl, N50q, K50q, E50q, F50q_what, F50q_line⟩ := hQ50
  have N50 := Fr.app N0 N50q
  have K51 : Go p e below T50 (mkF m 9 #[.val (.ref a), .val .null, .val .null, .val (.int (0 : Int32)), .val (.int (0 : Int32))] []) G := fun tq kq => K49 tq (st50.trans kq)
  obtain ⟨fs, hr, hrun, hended, hWW, hsame⟩ := X50.leave (v := none) (fun _ => rfl)
  refine ⟨_, _, hG _ (K51 _ (X50.returnOut hx Bd.returns (hb hby d_jdk_58_method_5_9) hr)), hrun, hended, _, _, rfl, ?_, ⟨_, rfl⟩, hWW, hsame.mono (by decide) (by decide)⟩
  show QRt Z a us ss h0 n0 _ T50.heap _
  exact ⟨rfl, N50, ((Keep.refl h0 [a]).trans K50q (allS (Or.inl (List.mem_of_getElem? (i := 0) rfl)) all0)), E50q, F50q_what, F50q_line⟩
theorem pn_49 : plainName "com/example/goalpost/goalpost/runtime/NotSupported" = true := by first | (simp [plainName, overriddenIn]; done) | decide +kernel
theorem ef_prog_52_method_1_RR (m : MethodId) (x0 : Addr) (x1 : Addr) : entryFrame m #[(.ref x0), (.ref x1)] 2 = mkF m 0 #[.val (.ref x0), .val (.ref x1)] [] := by first | (simp [entryFrame, mkF, argsToLocals, Value.category]; done) | rfl
theorem d_prog_52_method_1_0 : decode prog_52_method_1_code 0 = .ok (.aload_n 0, 1) := by decide +kernel
theorem d_prog_52_method_1_1 : decode prog_52_method_1_code 1 = .ok (.aconst_null, 1) := by decide +kernel
theorem d_prog_52_method_1_2 : decode prog_52_method_1_code 2 = .ok (.aconst_null, 1) := by decide +kernel
theorem d_prog_52_method_1_3 : decode prog_52_method_1_code 3 = .ok (.iconst 0, 1) := by decide +kernel
theorem d_prog_52_method_1_4 : decode prog_52_method_1_code 4 = .ok (.iconst 0, 1) := by decide +kernel
theorem d_prog_52_method_1_5 : decode prog_52_method_1_code 5 = .ok (.invokespecial 1, 3) := by decide +kernel
theorem d_prog_52_method_1_8 : decode prog_52_method_1_code 8 = .ok (.aload_n 0, 1) := by decide +kernel
theorem d_prog_52_method_1_9 : decode prog_52_method_1_code 9 = .ok (.aload_n 1, 1) := by decide +kernel
theorem d_prog_52_method_1_10 : decode prog_52_method_1_code 10 = .ok (.putfield 7, 3) := by decide +kernel
theorem d_prog_52_method_1_13 : decode prog_52_method_1_code 13 = .ok (.return_, 1) := by decide +kernel
def QIni (Z : State) (a : Addr) (w : Addr) (us : Addr) (ss : Addr) (h0 : Heap) (n0 : Nat) (v : Option Value) (h : Heap) (L : List Loc) : Prop := v = none ∧ Fr n0 L ∧ Keep h0 h [a] ∧ Exa Z h a "com/example/goalpost/goalpost/runtime/NotSupported" ∧ Fld Z h a "com/example/goalpost/goalpost/runtime/NotSupported" "what" "Ljava/lang/String;" (.ref w) ∧ Fld Z h a "com/example/goalpost/goalpost/runtime/NotSupported" "line" "I" (.int (0 : Int32))
set_option maxRecDepth 65536 in
set_option maxHeartbeats 40000000 in
theorem rmIni (l : Launch) (Z : State) (a0 : Array Value) (hw : ∀ d ∈ tables_1, d.before a0 Z = true) (ws : List Jvm.Cond) (a : Addr) (w : Addr) (us : Addr) (ss : Addr) (h0 : Heap) (n0 : Nat) (Z0 : n0 ≤ h0.size) (F_cause_a : Fld Z h0 a "java/lang/Throwable" "cause" "Ljava/lang/Throwable;" .null) (F_stackTrace_a : Fld Z h0 a "java/lang/Throwable" "stackTrace" "[Ljava/lang/StackTraceElement;" .null) (F_suppressedExceptions_a : Fld Z h0 a "java/lang/Throwable" "suppressedExceptions" "Ljava/util/List;" .null) (F_detailMessage_a : Fld Z h0 a "java/lang/Throwable" "detailMessage" "Ljava/lang/String;" .null) (F_what_a : Fld Z h0 a "com/example/goalpost/goalpost/runtime/NotSupported" "what" "Ljava/lang/String;" .null) (F_line_a : Fld Z h0 a "com/example/goalpost/goalpost/runtime/NotSupported" "line" "I" (.int (0 : Int32))) (E_a : Exa Z h0 a "com/example/goalpost/goalpost/runtime/NotSupported") (ge_a : n0 ≤ a) (O0 : Old Z n0 h0) (S_us : Sta Z Z.heap "java/lang/Throwable" "UNASSIGNED_STACK" "[Ljava/lang/StackTraceElement;" (.ref us)) (S_ss : Sta Z Z.heap "java/lang/Throwable" "SUPPRESSED_SENTINEL" "Ljava/util/List;" (.ref ss)) :
    MetFree l (⟨"com/example/goalpost/goalpost/runtime/NotSupported", "<init>", "(Ljava/lang/String;)V"⟩ : MethodName) (head1 (Jvm.Cond.code (⟨"com/example/goalpost/goalpost/runtime/NotSupported", "<init>", "(Ljava/lang/String;)V"⟩ : MethodName) prog_52_method_1_code 2 none :: ws) ({ frames := 4, cells := 0, slots := 0, locals := 60 } : Room)) (fun aa UU => aa = #[(.ref a), (.ref w)] ∧ Z.Warmed39 UU.vm ∧ UU.heap = h0) (fun _ _ _ _ _ => True) (fun _ UU oo UU' => ∃ vv LL, oo = .returned vv ∧ QIni Z a w us ss h0 n0 vv UU'.heap LL ∧ FrameEnd UU oo UU' LL ({ frames := 4, cells := 0, slots := 0, locals := 60 } : Room).cells ({ frames := 4, cells := 0, slots := 0, locals := 60 } : Room).slots) := by
  refine MetFree.of_bodySF (plainFor_of_name pn_49) hisR ?_
  intro p e s m args below meth c s₁ Bd hml0 hP hK
  obtain ⟨rfl, hZ, hh⟩ := hP
  have hx := Bd.exec
  have hby := Bd.bytes
  have hml : c.maxLocals = 2 := hml0
  have hown : s.vm.findClass "com/example/goalpost/goalpost/runtime/NotSupported" = some m.cls := findClass_of_methodNamed Bd.named
  have hnm := (name_of_methodNamed Bd.named Bd.method).1
  have hW : ∀ (k : Nat) (d : Jvm.Cond), tables_1[k]? = some d → d.before a0 Z = true := fun k d h => hw d (List.mem_of_getElem? h)
  have X0 : Stand p l e ({ frames := 4, cells := 0, slots := 0, locals := 60 } : Room) s m #[(.ref a), (.ref w)] below meth c s₁ [] 0 0 := Stand.of_body Bd
  have e0 : s₁.heap = h0 := by rw [← hh, Bd.state]; rfl
  have N0 := Fr.nil n0
  obtain ⟨G, hG, K0⟩ : ∃ G : State → Prop, (∀ t, G t → Steps p.tables e below (s₁.setTop (entryFrame m #[(.ref a), (.ref w)] 2)) t) ∧ Go p e below s₁ (mkF m 0 #[.val (.ref a), .val (.ref w)] []) G := ⟨fun t => Steps p.tables e below (s₁.setTop (entryFrame m #[(.ref a), (.ref w)] 2)) t, fun _ h => h, fun t k => castTop (ef_prog_52_method_1_RR m a w) k⟩
  have K52 : Go p e below s₁ (mkF m 1 #[.val (.ref a), .val (.ref w)] [(.ref a)]) G := fun tq kq => K0 tq (XS.aloadN X0.here hx rfl (hb hby d_prog_52_method_1_0) rfl rfl kq)
  have K53 : Go p e below s₁ (mkF m 2 #[.val (.ref a), .val (.ref w)] [.null, (.ref a)]) G := fun tq kq => K52 tq (XS.aconstNull X0.here hx rfl (hb hby d_prog_52_method_1_1) kq)
  have K54 : Go p e below s₁ (mkF m 3 #[.val (.ref a), .val (.ref w)] [.null, .null, (.ref a)]) G := fun tq kq => K53 tq (XS.aconstNull X0.here hx rfl (hb hby d_prog_52_method_1_2) kq)
  have K55 : Go p e below s₁ (mkF m 4 #[.val (.ref a), .val (.ref w)] [(.int (0 : Int32)), .null, .null, (.ref a)]) G := fun tq kq => K54 tq (XS.iconst X0.here hx rfl (hb hby d_prog_52_method_1_3) kq)
  have K56 : Go p e below s₁ (mkF m 5 #[.val (.ref a), .val (.ref w)] [(.int (0 : Int32)), (.int (0 : Int32)), .null, .null, (.ref a)]) G := fun tq kq => K55 tq (XS.iconst X0.here hx rfl (hb hby d_prog_52_method_1_4) kq)
  obtain ⟨v57, _, ⟨T57, L57, k57, n57⟩, -, X57, ⟨Lc57, hQ57, l57, y57, z57⟩, st57⟩ := X0.specialBack hx (y := (⟨"java/lang/RuntimeException", "<init>", "(Ljava/lang/String;Ljava/lang/Throwable;ZZ)V"⟩ : MethodName)) rfl hown (mvT hZ (hW 36 _ rfl)) (mvT hZ (hW 37 _ rfl)) (mvT hZ (hW 40 _ rfl)) (by decide) (backOf (W := 0) (rmRt l Z a0 hw [] a us ss h0 n0 Z0 F_cause_a F_stackTrace_a F_suppressedExceptions_a F_detailMessage_a F_what_a F_line_a E_a ge_a O0 S_us S_ss) hZ (hW 40 _ rfl) (hW 39 _ rfl) (by decide) (by decide)) (g := (mkF m 5 #[.val (.ref a), .val (.ref w)] [(.int (0 : Int32)), (.int (0 : Int32)), .null, .null, (.ref a)])) rfl (by rw [hml]; rfl) (Steps.refl _) (a := a) (argsL := [.null, .null, (.int (0 : Int32)), (.int (0 : Int32))]) (rest := []) (lenOf pd_32 rfl) rfl (by show 2 * 0 + _ ≤ _; exact Nat.le_of_eq rfl) (hb hby d_prog_52_method_1_5) (fun _ _ => ⟨rfl, e0, (by decide : 0 + 0 ≤ _), (by decide : 0 + 0 ≤ _)⟩)
  dsimp only [Pt.U, Pt.locs, Pt.cells, Pt.slots] at X57 l57 y57 z57 st57 hQ57
  subst l57 y57 z57
  obtain ⟨rfl, N57q, K57q, E57q, F57q_what, F57q_line⟩ := hQ57
  have N57 := Fr.app N0 N57q
  have K58 : Go p e below T57 (mkF m 8 #[.val (.ref a), .val (.ref w)] []) G := fun tq kq => K56 tq (st57.trans kq)
  have K59 : Go p e below T57 (mkF m 9 #[.val (.ref a), .val (.ref w)] [(.ref a)]) G := fun tq kq => K58 tq (XS.aloadN X57.here hx rfl (hb hby d_prog_52_method_1_8) rfl rfl kq)
  have K60 : Go p e below T57 (mkF m 10 #[.val (.ref a), .val (.ref w)] [(.ref w), (.ref a)]) G := fun tq kq => K59 tq (XS.aloadN X57.here hx rfl (hb hby d_prog_52_method_1_9) rfl rfl kq)
  obtain ⟨T61, h61, X61, e61, W61, st61⟩ := putF X57 hx hZ hown (host := "") (Or.inl (hW 64 _ rfl)) Via.refl rfl F57q_what E57q (Or.inr ⟨(hW 65 _ rfl), rfl, hnm⟩) (hW 31 _ rfl) (ty := (.object "java/lang/String")) (by decide) rfl rfl (g := (mkF m 10 #[.val (.ref a), .val (.ref w)] [(.ref w), (.ref a)])) rfl rfl (hb hby d_prog_52_method_1_10)
  have N61 := Fr.snoc X61 N57 ge_a
  have F61 := Fld.same W61 F57q_what
  have K62 : Go p e below T61 (mkF m 13 #[.val (.ref a), .val (.ref w)] []) G := fun tq kq => K60 tq (st61 tq kq)
  obtain ⟨fs, hr, hrun, hended, hWW, hsame⟩ := X61.leave (v := none) (fun _ => rfl)
  refine ⟨_, _, hG _ (K62 _ (X61.returnOut hx Bd.returns (hb hby d_prog_52_method_1_13) hr)), hrun, hended, _, _, rfl, ?_, ⟨_, rfl⟩, hWW, hsame.mono (by decide) (by decide)⟩
  show QIni Z a w us ss h0 n0 _ T61.heap _
  rw [e61]
  exact ⟨rfl, N61, (((Keep.refl h0 [a]).trans K57q (allS (Or.inl (List.mem_of_getElem? (i := 0) rfl)) all0)).wr W61 (Or.inl (List.mem_of_getElem? (i := 0) rfl))), (E57q.wr W61), F61, (F57q_line.other W61 (Or.inr (slot_ne (Or.inl (hW 67 _ rfl)) (Or.inr (hW 65 _ rfl)) (by decide) (t := .int) (t' := (.object "java/lang/String")) (by decide) (by decide))))⟩
theorem ef_prog_52_method_2_RI (m : MethodId) (x0 : Addr) (x1 : Int32) : entryFrame m #[(.ref x0), (.int x1)] 2 = mkF m 0 #[.val (.ref x0), .val (.int x1)] [] := by first | (simp [entryFrame, mkF, argsToLocals, Value.category]; done) | rfl
theorem d_prog_52_method_2_0 : decode prog_52_method_2_code 0 = .ok (.aload_n 0, 1) := by decide +kernel
theorem d_prog_52_method_2_1 : decode prog_52_method_2_code 1 = .ok (.getfield 13, 3) := by decide +kernel
theorem d_prog_52_method_2_4 : decode prog_52_method_2_code 4 = .ok (.ifCond .ne 8, 3) := by decide +kernel
theorem d_prog_52_method_2_7 : decode prog_52_method_2_code 7 = .ok (.aload_n 0, 1) := by decide +kernel
theorem d_prog_52_method_2_8 : decode prog_52_method_2_code 8 = .ok (.iload_n 1, 1) := by decide +kernel
theorem d_prog_52_method_2_9 : decode prog_52_method_2_code 9 = .ok (.putfield 13, 3) := by decide +kernel
theorem d_prog_52_method_2_12 : decode prog_52_method_2_code 12 = .ok (.aload_n 0, 1) := by decide +kernel
theorem d_prog_52_method_2_13 : decode prog_52_method_2_code 13 = .ok (.areturn, 1) := by decide +kernel
def QAt (Z : State) (a : Addr) (p1 : Int32) (w : Addr) (ln : Int32) (h0 : Heap) (n0 : Nat) (v : Option Value) (h : Heap) (L : List Loc) : Prop := v = some (.ref a) ∧ Fr n0 L ∧ Keep h0 h [a] ∧ Exa Z h a "com/example/goalpost/goalpost/runtime/NotSupported" ∧ Fld Z h a "com/example/goalpost/goalpost/runtime/NotSupported" "what" "Ljava/lang/String;" (.ref w) ∧ Fld Z h a "com/example/goalpost/goalpost/runtime/NotSupported" "line" "I" (.int (if ln = (0 : Int32) then p1 else ln))
set_option maxRecDepth 65536 in
set_option maxHeartbeats 40000000 in
theorem rmAt (l : Launch) (Z : State) (a0 : Array Value) (hw : ∀ d ∈ tables_1, d.before a0 Z = true) (ws : List Jvm.Cond) (a : Addr) (p1 : Int32) (w : Addr) (ln : Int32) (h0 : Heap) (n0 : Nat) (Z0 : n0 ≤ h0.size) (F_what_a : Fld Z h0 a "com/example/goalpost/goalpost/runtime/NotSupported" "what" "Ljava/lang/String;" (.ref w)) (F_line_a : Fld Z h0 a "com/example/goalpost/goalpost/runtime/NotSupported" "line" "I" (.int ln)) (E_a : Exa Z h0 a "com/example/goalpost/goalpost/runtime/NotSupported") (ge_a : n0 ≤ a) :
    MetFree l (⟨"com/example/goalpost/goalpost/runtime/NotSupported", "at", "(I)Lcom/example/goalpost/goalpost/runtime/NotSupported;"⟩ : MethodName) (head1 (Jvm.Cond.code (⟨"com/example/goalpost/goalpost/runtime/NotSupported", "at", "(I)Lcom/example/goalpost/goalpost/runtime/NotSupported;"⟩ : MethodName) prog_52_method_2_code 2 (some (.object "com/example/goalpost/goalpost/runtime/NotSupported")) :: ws) ({ frames := 0, cells := 0, slots := 0, locals := 0 } : Room)) (fun aa UU => aa = #[(.ref a), (.int p1)] ∧ Z.Warmed39 UU.vm ∧ UU.heap = h0) (fun _ _ _ _ _ => True) (fun _ UU oo UU' => ∃ vv LL, oo = .returned vv ∧ QAt Z a p1 w ln h0 n0 vv UU'.heap LL ∧ FrameEnd UU oo UU' LL ({ frames := 0, cells := 0, slots := 0, locals := 0 } : Room).cells ({ frames := 0, cells := 0, slots := 0, locals := 0 } : Room).slots) := by
  refine MetFree.of_bodySF (plainFor_of_name pn_49) hisR ?_
  intro p e s m args below meth c s₁ Bd hml0 hP hK
  obtain ⟨rfl, hZ, hh⟩ := hP
  have hx := Bd.exec
  have hby := Bd.bytes
  have hml : c.maxLocals = 2 := hml0
  have hown : s.vm.findClass "com/example/goalpost/goalpost/runtime/NotSupported" = some m.cls := findClass_of_methodNamed Bd.named
  have hnm := (name_of_methodNamed Bd.named Bd.method).1
  have hW : ∀ (k : Nat) (d : Jvm.Cond), tables_1[k]? = some d → d.before a0 Z = true := fun k d h => hw d (List.mem_of_getElem? h)
  have X0 : Stand p l e ({ frames := 0, cells := 0, slots := 0, locals := 0 } : Room) s m #[(.ref a), (.int p1)] below meth c s₁ [] 0 0 := Stand.of_body Bd
  have e0 : s₁.heap = h0 := by rw [← hh, Bd.state]; rfl
  have N0 := Fr.nil n0
  obtain ⟨G, hG, K0⟩ : ∃ G : State → Prop, (∀ t, G t → Steps p.tables e below (s₁.setTop (entryFrame m #[(.ref a), (.int p1)] 2)) t) ∧ Go p e below s₁ (mkF m 0 #[.val (.ref a), .val (.int p1)] []) G := ⟨fun t => Steps p.tables e below (s₁.setTop (entryFrame m #[(.ref a), (.int p1)] 2)) t, fun _ h => h, fun t k => castTop (ef_prog_52_method_2_RI m a p1) k⟩
  have K63 : Go p e below s₁ (mkF m 1 #[.val (.ref a), .val (.int p1)] [(.ref a)]) G := fun tq kq => K0 tq (XS.aloadN X0.here hx rfl (hb hby d_prog_52_method_2_0) rfl rfl kq)
  obtain ⟨T64, X64, e64, st64⟩ := getF X0 hx hZ hown (host := "") (Or.inl (hW 73 _ rfl)) Via.refl e0 F_line_a (g := (mkF m 1 #[.val (.ref a), .val (.int p1)] [(.ref a)])) rfl rfl (hb hby d_prog_52_method_2_1)
  have K65 : Go p e below T64 (mkF m 4 #[.val (.ref a), .val (.int p1)] [(.int ln)]) G := fun tq kq => K63 tq (st64 tq kq)
  by_cases hc66 : ln = (0 : Int32)
  · skip
    have K67 : Go p e below T64 (mkF m 7 #[.val (.ref a), .val (.int p1)] []) G := fun tq kq => K65 tq (XS.ifNo X64.here hx rfl (hb hby d_prog_52_method_2_4) rfl ((if0 _ _).trans (teq hc66).2) kq)
    have K68 : Go p e below T64 (mkF m 8 #[.val (.ref a), .val (.int p1)] [(.ref a)]) G := fun tq kq => K67 tq (XS.aloadN X64.here hx rfl (hb hby d_prog_52_method_2_7) rfl rfl kq)
    have K69 : Go p e below T64 (mkF m 9 #[.val (.ref a), .val (.int p1)] [(.int p1), (.ref a)]) G := fun tq kq => K68 tq (XS.iloadN X64.here hx rfl (hb hby d_prog_52_method_2_8) rfl kq)
    obtain ⟨T70, h70, X70, e70, W70, st70⟩ := putF X64 hx hZ hown (host := "") (Or.inl (hW 73 _ rfl)) Via.refl e64 F_line_a E_a (Or.inl (hW 67 _ rfl)) (hW 31 _ rfl) (ty := .int) (by decide) rfl rfl (g := (mkF m 9 #[.val (.ref a), .val (.int p1)] [(.int p1), (.ref a)])) rfl rfl (hb hby d_prog_52_method_2_9)
    have N70 := Fr.snoc X70 N0 ge_a
    have F70 := Fld.same W70 F_line_a
    have K71 : Go p e below T70 (mkF m 12 #[.val (.ref a), .val (.int p1)] []) G := fun tq kq => K69 tq (st70 tq kq)
    have K72 : Go p e below T70 (mkF m 13 #[.val (.ref a), .val (.int p1)] [(.ref a)]) G := fun tq kq => K71 tq (XS.aloadN X70.here hx rfl (hb hby d_prog_52_method_2_12) rfl rfl kq)
    obtain ⟨fs, hr, hrun, hended, hWW, hsame⟩ := X70.leave (v := some (.ref a)) (fun h => by rw [Bd.returns] at h; cases h)
    refine ⟨_, _, hG _ (K72 _ (retOut X70 hx Bd.returns rfl (Or.inr (Or.inr (Or.inr (Or.inr ⟨rfl, rfl, rfl⟩)))) (hb hby d_prog_52_method_2_13) hr)), hrun, hended, _, _, rfl, ?_, ⟨_, rfl⟩, hWW, hsame.mono (by decide) (by decide)⟩
    show QAt Z a p1 w ln h0 n0 _ T70.heap _
    rw [e70]
    exact ⟨rfl, N70, ((Keep.refl h0 [a]).wr W70 (Or.inl (List.mem_of_getElem? (i := 0) rfl))), (E_a.wr W70), (F_what_a.other W70 (Or.inr (slot_ne (Or.inr (hW 65 _ rfl)) (Or.inl (hW 67 _ rfl)) (by decide) (t := (.object "java/lang/String")) (t' := .int) (by decide) (by decide)))), by rw [if_pos hc66]; exact F70⟩
  · skip
    have K73 : Go p e below T64 (mkF m 12 #[.val (.ref a), .val (.int p1)] []) G := fun tq kq => K65 tq (XS.ifYes X64.here hx rfl (pc0 := 4) (pc' := 12) rfl (hb hby d_prog_52_method_2_4) rfl ((if0 _ _).trans (feq hc66).2) (by decide) (by decide) kq)
    have K74 : Go p e below T64 (mkF m 13 #[.val (.ref a), .val (.int p1)] [(.ref a)]) G := fun tq kq => K73 tq (XS.aloadN X64.here hx rfl (hb hby d_prog_52_method_2_12) rfl rfl kq)
    obtain ⟨fs, hr, hrun, hended, hWW, hsame⟩ := X64.leave (v := some (.ref a)) (fun h => by rw [Bd.returns] at h; cases h)
    refine ⟨_, _, hG _ (K74 _ (retOut X64 hx Bd.returns rfl (Or.inr (Or.inr (Or.inr (Or.inr ⟨rfl, rfl, rfl⟩)))) (hb hby d_prog_52_method_2_13) hr)), hrun, hended, _, _, rfl, ?_, ⟨_, rfl⟩, hWW, hsame.mono (by decide) (by decide)⟩
    show QAt Z a p1 w ln h0 n0 _ T64.heap _
    rw [e64]
    exact ⟨rfl, N0, (Keep.refl h0 [a]), E_a, F_what_a, by rw [if_neg hc66]; exact F_line_a⟩
theorem pn_70 : plainName "com/example/goalpost/goalpost/runtime/NotSupportedAtPinLaw" = true := by first | (simp [plainName, overriddenIn]; done) | decide +kernel
theorem ef_code_IIII (m : MethodId) (x0 : Int32) (x1 : Int32) (x2 : Int32) (x3 : Int32) : entryFrame m #[(.int x0), (.int x1), (.int x2), (.int x3)] maxLocals = mkF m 0 #[.val (.int x0), .val (.int x1), .val (.int x2), .val (.int x3), .unset, .unset, .unset, .unset, .unset, .unset, .unset, .unset, .unset] [] := by first | (simp [entryFrame, mkF, argsToLocals, Value.category, maxLocals]; done) | rfl
theorem pd_72 : parseMethodDescriptor "([C)V" = some ⟨[(.array .char)], none⟩ := by decide +kernel
theorem pd_73 : parseMethodDescriptor "(Ljava/lang/String;)V" = some ⟨[(.object "java/lang/String")], none⟩ := by decide +kernel
theorem pd_74 : parseMethodDescriptor "(I)Lcom/example/goalpost/goalpost/runtime/NotSupported;" = some ⟨[.int], some (.object "com/example/goalpost/goalpost/runtime/NotSupported")⟩ := by decide +kernel
def Q0 (Z : State) (q0 : Int32) (q1 : Int32) (q2 : Int32) (q3 : Int32) (cz : Int32) (us : Addr) (ss : Addr) (h0 : Heap) (n0 : Nat) (v : Option Value) (h : Heap) (L : List Loc) : Prop := v = some (.int 1) ∧ Fr n0 L
set_option maxRecDepth 65536 in
set_option maxHeartbeats 40000000 in
theorem rm0 (l : Launch) (Z : State) (a0 : Array Value) (hw : ∀ d ∈ tables_1, d.before a0 Z = true) (ws : List Jvm.Cond) (q0 : Int32) (q1 : Int32) (q2 : Int32) (q3 : Int32) (cz : Int32) (us : Addr) (ss : Addr) (h0 : Heap) (n0 : Nat) (Z0 : n0 ≤ h0.size) (O0 : Old Z n0 h0) (S_cs : Sta Z Z.heap "java/lang/String" "COMPACT_STRINGS" "Z" (.int cz)) (hcz : ¬ cz = 0) (S_us : Sta Z Z.heap "java/lang/Throwable" "UNASSIGNED_STACK" "[Ljava/lang/StackTraceElement;" (.ref us)) (S_ss : Sta Z Z.heap "java/lang/Throwable" "SUPPRESSED_SENTINEL" "Ljava/util/List;" (.ref ss)) :
    MetFree l x (head1 (Jvm.Cond.code x code maxLocals ret :: ws) room_1) (fun aa UU => aa = #[(.int q0), (.int q1), (.int q2), (.int q3)] ∧ Z.Warmed39 UU.vm ∧ UU.heap = h0) (fun _ _ _ _ _ => True) (fun _ UU oo UU' => ∃ vv LL, oo = .returned vv ∧ Q0 Z q0 q1 q2 q3 cz us ss h0 n0 vv UU'.heap LL ∧ FrameEnd UU oo UU' LL 16 128) := by
  refine MetFree.of_bodySF (plainFor_of_name pn_70) hisR ?_
  intro p e s m args below meth c s₁ Bd hml0 hP hK
  obtain ⟨rfl, hZ, hh⟩ := hP
  have hx := Bd.exec
  have hby := Bd.bytes
  have hml : c.maxLocals = 13 := hml0
  have hown : s.vm.findClass "com/example/goalpost/goalpost/runtime/NotSupportedAtPinLaw" = some m.cls := findClass_of_methodNamed Bd.named
  have hnm := (name_of_methodNamed Bd.named Bd.method).1
  have hW : ∀ (k : Nat) (d : Jvm.Cond), tables_1[k]? = some d → d.before a0 Z = true := fun k d h => hw d (List.mem_of_getElem? h)
  have X0 : Stand p l e room_1 s m #[(.int q0), (.int q1), (.int q2), (.int q3)] below meth c s₁ [] 0 0 := Stand.of_body Bd
  have e0 : s₁.heap = h0 := by rw [← hh, Bd.state]; rfl
  have N0 := Fr.nil n0
  obtain ⟨G, hG, K0⟩ : ∃ G : State → Prop, (∀ t, G t → Steps p.tables e below (s₁.setTop (entryFrame m #[(.int q0), (.int q1), (.int q2), (.int q3)] maxLocals)) t) ∧ Go p e below s₁ (mkF m 0 #[.val (.int q0), .val (.int q1), .val (.int q2), .val (.int q3), .unset, .unset, .unset, .unset, .unset, .unset, .unset, .unset, .unset] []) G := ⟨fun t => Steps p.tables e below (s₁.setTop (entryFrame m #[(.int q0), (.int q1), (.int q2), (.int q3)] maxLocals)) t, fun _ h => h, fun t k => castTop (ef_code_IIII m q0 q1 q2 q3) k⟩
  have hws : ∀ d ∈ StrChars.Road.words, d.before a0 Z = true := fun d hd => hw d ((by decide +kernel : ∀ d ∈ StrChars.Road.words, d ∈ tables_1) d hd)
  have K75 : Go p e below s₁ (mkF m 1 #[.val (.int q0), .val (.int q1), .val (.int q2), .val (.int q3), .unset, .unset, .unset, .unset, .unset, .unset, .unset, .unset, .unset] [(.int (1 : Int32))]) G := fun tq kq => K0 tq (XS.iconst X0.here hx rfl (hb hby at_0) kq)
  obtain ⟨T76, h76, k76, X76, e76, E76, A76, st76⟩ := newP X0 hx hZ (hW 0 _ rfl) e0 (g := (mkF m 1 #[.val (.int q0), .val (.int q1), .val (.int q2), .val (.int q3), .unset, .unset, .unset, .unset, .unset, .unset, .unset, .unset, .unset] [(.int (1 : Int32))])) rfl (hb hby at_1) rfl (by decide) (cap := 1) (by decide) (by decide) (by decide) (by decide)
  obtain ⟨b76, g76⟩ : ∃ z, z = h0.size := ⟨_, rfl⟩
  rw [← g76] at A76 st76
  have ge_b76 : n0 ≤ b76 := Nat.le_trans Z0 (Nat.le_of_eq g76.symm)
  have sz_b76 : h0.size ≤ b76 := Nat.le_trans ((Keep.refl h0 [])).1 (Nat.le_of_eq g76.symm)
  have V76 : Arv Z h76 b76 k76 .char (1 : Int32) [(.int (0 : Int32))] (.int (0 : Int32)) := (Arv.new A76 (by decide)).pad (pad_rep [] (.int (0 : Int32)) 1)
  have K77 : Go p e below T76 (mkF m 3 #[.val (.int q0), .val (.int q1), .val (.int q2), .val (.int q3), .unset, .unset, .unset, .unset, .unset, .unset, .unset, .unset, .unset] [(.ref b76)]) G := fun tq kq => K75 tq (st76 tq kq)
  have K78 : Go p e below T76 (mkF m 5 #[.val (.int q0), .val (.int q1), .val (.int q2), .val (.int q3), .val (.ref b76), .unset, .unset, .unset, .unset, .unset, .unset, .unset, .unset] []) G := fun tq kq => K77 tq (XS.astore X76.here hx rfl (hb hby at_3) rfl rfl (l' := #[.val (.int q0), .val (.int q1), .val (.int q2), .val (.int q3), .val (.ref b76), .unset, .unset, .unset, .unset, .unset, .unset, .unset, .unset]) rfl kq)
  have K79 : Go p e below T76 (mkF m 7 #[.val (.int q0), .val (.int q1), .val (.int q2), .val (.int q3), .val (.ref b76), .unset, .unset, .unset, .unset, .unset, .unset, .unset, .unset] [(.ref b76)]) G := fun tq kq => K78 tq (XS.aload X76.here hx rfl (hb hby at_5) rfl rfl kq)
  have K80 : Go p e below T76 (mkF m 8 #[.val (.int q0), .val (.int q1), .val (.int q2), .val (.int q3), .val (.ref b76), .unset, .unset, .unset, .unset, .unset, .unset, .unset, .unset] [(.int (0 : Int32)), (.ref b76)]) G := fun tq kq => K79 tq (XS.iconst X76.here hx rfl (hb hby at_7) kq)
  have K81 : Go p e below T76 (mkF m 9 #[.val (.int q0), .val (.int q1), .val (.int q2), .val (.int q3), .val (.ref b76), .unset, .unset, .unset, .unset, .unset, .unset, .unset, .unset] [(.int q3), (.int (0 : Int32)), (.ref b76)]) G := fun tq kq => K80 tq (XS.iloadN X76.here hx rfl (hb hby at_8) rfl kq)
  have K82 : Go p e below T76 (mkF m 12 #[.val (.int q0), .val (.int q1), .val (.int q2), .val (.int q3), .val (.ref b76), .unset, .unset, .unset, .unset, .unset, .unset, .unset, .unset] [(.int (255 : Int32)), (.int q3), (.int (0 : Int32)), (.ref b76)]) G := fun tq kq => K81 tq (XS.sipush X76.here hx rfl (hb hby at_9) kq)
  have K83 : Go p e below T76 (mkF m 13 #[.val (.int q0), .val (.int q1), .val (.int q2), .val (.int q3), .val (.ref b76), .unset, .unset, .unset, .unset, .unset, .unset, .unset, .unset] [(.int (q3 &&& (255 : Int32))), (.int (0 : Int32)), (.ref b76)]) G := fun tq kq => K82 tq (XS.iand X76.here hx rfl (hb hby at_12) rfl kq)
  have K84 : Go p e below T76 (mkF m 14 #[.val (.int q0), .val (.int q1), .val (.int q2), .val (.int q3), .val (.ref b76), .unset, .unset, .unset, .unset, .unset, .unset, .unset, .unset] [(.int ((q3 &&& (255 : Int32)).toUInt32.toUInt16.toUInt32.toInt32)), (.int (0 : Int32)), (.ref b76)]) G := fun tq kq => K83 tq (XS.i2c X76.here hx rfl (hb hby at_13) rfl kq)
  obtain ⟨cl85, Ar85, q85, S85, Nn85, Hh85, Gg85⟩ := id V76
  have hin85 : ¬ ((0 : Int32) < 0 ∨ cl85.slots.size ≤ ((0 : Int32)).toNatClampNeg) := inb_of S85 ⟨by decide, by decide⟩
  obtain ⟨T85, h85, X85, e85, W85, st85⟩ := stC X76 hx hZ e76 Ar85 (j := (0 : Int32)) hin85 (g := (mkF m 14 #[.val (.int q0), .val (.int q1), .val (.int q2), .val (.int q3), .val (.ref b76), .unset, .unset, .unset, .unset, .unset, .unset, .unset, .unset] [(.int ((q3 &&& (255 : Int32)).toUInt32.toUInt16.toUInt32.toInt32)), (.int (0 : Int32)), (.ref b76)])) rfl rfl (hb hby at_14)
  have V85 : Arv Z h85 b76 k76 .char (1 : Int32) [(.int (nar .char ((q3 &&& (255 : Int32)).toUInt32.toUInt16.toUInt32.toInt32)))] (.int (0 : Int32)) := Arv.set Ar85 q85 S85 Nn85 Hh85 Gg85 (fits_nar_char _) W85 0 rfl (Nat.le_of_ble_eq_true rfl)
  have N85 := Fr.snoc X85 N0 ge_b76
  have K86 : Go p e below T85 (mkF m 15 #[.val (.int q0), .val (.int q1), .val (.int q2), .val (.int q3), .val (.ref b76), .unset, .unset, .unset, .unset, .unset, .unset, .unset, .unset] []) G := fun tq kq => K84 tq (st85 tq kq)
  obtain ⟨T87, h87, X87, e87, E87, A87, D87, -, st87⟩ := newO X85 hx hZ hown (hW 1 _ rfl) (hW 2 _ rfl) (hW 3 _ rfl) e85 (g := (mkF m 15 #[.val (.int q0), .val (.int q1), .val (.int q2), .val (.int q3), .val (.ref b76), .unset, .unset, .unset, .unset, .unset, .unset, .unset, .unset] [])) rfl (hb hby at_15) (by decide) (by decide)
  obtain ⟨b87, g87⟩ : ∃ z, z = h85.size := ⟨_, rfl⟩
  rw [← g87] at A87 D87 st87
  have ne87_b76 : b76 ≠ b87 := Nat.ne_of_lt (Nat.lt_of_lt_of_le V85.lt (Nat.le_of_eq g87.symm))
  have ge_b87 : n0 ≤ b87 := Nat.le_trans (Nat.le_trans (Nat.le_trans Z0 E76.1) (Keep.of_wr W85).1) (Nat.le_of_eq g87.symm)
  have sz_b87 : h0.size ≤ b87 := Nat.le_trans ((((Keep.refl h0 []).ext E76).wr W85 (Or.inr sz_b76))).1 (Nat.le_of_eq g87.symm)
  have F87_coder : Fld Z h87 b87 "java/lang/String" "coder" "B" (.int (0 : Int32)) := D87 (Or.inr (hW 27 _ rfl)) (ty := .byte) (by decide)
  have F87_value : Fld Z h87 b87 "java/lang/String" "value" "[B" .null := D87 (Or.inr (hW 29 _ rfl)) (ty := (.array .byte)) (by decide)
  have K88 : Go p e below T87 (mkF m 18 #[.val (.int q0), .val (.int q1), .val (.int q2), .val (.int q3), .val (.ref b76), .unset, .unset, .unset, .unset, .unset, .unset, .unset, .unset] [(.ref b87)]) G := fun tq kq => K86 tq (st87 tq kq)
  have K89 : Go p e below T87 (mkF m 19 #[.val (.int q0), .val (.int q1), .val (.int q2), .val (.int q3), .val (.ref b76), .unset, .unset, .unset, .unset, .unset, .unset, .unset, .unset] [(.ref b87), (.ref b87)]) G := fun tq kq => K88 tq (XS.dup X87.here hx rfl (hb hby at_18) rfl rfl kq)
  have K90 : Go p e below T87 (mkF m 21 #[.val (.int q0), .val (.int q1), .val (.int q2), .val (.int q3), .val (.ref b76), .unset, .unset, .unset, .unset, .unset, .unset, .unset, .unset] [(.ref b76), (.ref b87), (.ref b87)]) G := fun tq kq => K89 tq (XS.aload X87.here hx rfl (hb hby at_19) rfl rfl kq)
  have hp91 : ∀ c ∈ ([(nar .char ((q3 &&& (255 : Int32)).toUInt32.toUInt16.toUInt32.toInt32))] : List Int32), ¬ c < 0 ∧ ¬ (255 : Int32) < c := by
    intro c hc
    simp only [List.mem_cons, List.not_mem_nil, or_false] at hc
    rcases hc with rfl
    · exact own_p255 _
  obtain ⟨v92, _, ⟨T92, L92, k92, n92⟩, -, X92, ⟨Lc92, hQ92, l92, y92, z92⟩, st92⟩ := X87.specialBack hx (y := (⟨"java/lang/String", "<init>", "([C)V"⟩ : MethodName)) rfl hown (mvT hZ (hW 4 _ rfl)) (mvT hZ (hW 5 _ rfl)) (mvT hZ (hW 6 _ rfl)) (by decide) (StrChars.Road.backV (W := 1) hZ hws (kI := 4) (hW 2 _ rfl) (cs := ([(nar .char ((q3 &&& (255 : Int32)).toUInt32.toUInt16.toUInt32.toInt32))] : List Int32)) (bs := (([(nar .char ((q3 &&& (255 : Int32)).toUInt32.toUInt16.toUInt32.toInt32))] : List Int32)).map (fun c => c.toInt8.toInt32)) (n := 1) ge_b87 (Nat.le_trans (Nat.le_trans (Nat.le_trans Z0 E76.1) (Keep.of_wr W85).1) E87.1) A87 F87_value F87_coder (V85.ext E87) (S_cs.ext (((O0.ext E76).wr W85 ge_b76).ext E87).2) hcz rfl rfl (by decide) (by decide) hp91 rfl (by decide) (by decide)) (g := (mkF m 21 #[.val (.int q0), .val (.int q1), .val (.int q2), .val (.int q3), .val (.ref b76), .unset, .unset, .unset, .unset, .unset, .unset, .unset, .unset] [(.ref b76), (.ref b87), (.ref b87)])) rfl (by rw [hml]; rfl) (Steps.refl _) (a := b87) (argsL := [(.ref b76)]) (rest := [(.ref b87)]) (lenOf pd_72 rfl) rfl (by show 2 * 0 + _ ≤ _; exact Nat.le_of_eq rfl) (hb hby at_21) (fun _ _ => ⟨rfl, e87, (by decide : 2 + 1 ≤ _), (by decide : 5 + 1 ≤ _)⟩)
  dsimp only [Pt.U, Pt.locs, Pt.cells, Pt.slots] at X92 l92 y92 z92 st92 hQ92
  subst l92 y92 z92
  obtain ⟨rfl, N92q, K92q, E92q, FC92q, t92, kb92, get92, szt92, net92, FV92q, VB92q⟩ := hQ92
  have N92 := Fr.app N85 N92q
  have K93 : Go p e below T92 (mkF m 24 #[.val (.int q0), .val (.int q1), .val (.int q2), .val (.int q3), .val (.ref b76), .unset, .unset, .unset, .unset, .unset, .unset, .unset, .unset] [(.ref b87)]) G := fun tq kq => K90 tq (st92.trans kq)
  have K94 : Go p e below T92 (mkF m 26 #[.val (.int q0), .val (.int q1), .val (.int q2), .val (.int q3), .val (.ref b76), .val (.ref b87), .unset, .unset, .unset, .unset, .unset, .unset, .unset] []) G := fun tq kq => K93 tq (XS.astore X92.here hx rfl (hb hby at_24) rfl rfl (l' := #[.val (.int q0), .val (.int q1), .val (.int q2), .val (.int q3), .val (.ref b76), .val (.ref b87), .unset, .unset, .unset, .unset, .unset, .unset, .unset]) rfl kq)
  obtain ⟨T95, h95, X95, e95, E95, A95, D95, -, st95⟩ := newO X92 hx hZ hown (hW 30 _ rfl) (hW 31 _ rfl) (hW 32 _ rfl) rfl (g := (mkF m 26 #[.val (.int q0), .val (.int q1), .val (.int q2), .val (.int q3), .val (.ref b76), .val (.ref b87), .unset, .unset, .unset, .unset, .unset, .unset, .unset] [])) rfl (hb hby at_26) (by decide) (by decide)
  obtain ⟨b95, g95⟩ : ∃ z, z = T92.heap.size := ⟨_, rfl⟩
  rw [← g95] at A95 D95 st95
  have ne95_b76 : b76 ≠ b95 := Nat.ne_of_lt (Nat.lt_of_lt_of_le ((V85.ext E87).keep K92q (ninS ne87_b76 nin0)).lt (Nat.le_of_eq g95.symm))
  have ne95_b87 : b87 ≠ b95 := Nat.ne_of_lt (Nat.lt_of_lt_of_le E92q.lt (Nat.le_of_eq g95.symm))
  have ne95_t92 : t92 ≠ b95 := Nat.ne_of_lt (Nat.lt_of_lt_of_le VB92q.lt (Nat.le_of_eq g95.symm))
  have ge_b95 : n0 ≤ b95 := Nat.le_trans (Nat.le_trans (Nat.le_trans (Nat.le_trans (Nat.le_trans Z0 E76.1) (Keep.of_wr W85).1) E87.1) K92q.1) (Nat.le_of_eq g95.symm)
  have sz_b95 : h0.size ≤ b95 := Nat.le_trans ((((((Keep.refl h0 []).ext E76).wr W85 (Or.inr sz_b76)).ext E87).trans K92q (allS (Or.inr sz_b87) all0))).1 (Nat.le_of_eq g95.symm)
  have F95_cause : Fld Z h95 b95 "java/lang/Throwable" "cause" "Ljava/lang/Throwable;" .null := D95 (Or.inl (hW 55 _ rfl)) (ty := (.object "java/lang/Throwable")) (by decide)
  have F95_stackTrace : Fld Z h95 b95 "java/lang/Throwable" "stackTrace" "[Ljava/lang/StackTraceElement;" .null := D95 (Or.inl (hW 58 _ rfl)) (ty := (.array (.object "java/lang/StackTraceElement"))) (by decide)
  have F95_suppressedExceptions : Fld Z h95 b95 "java/lang/Throwable" "suppressedExceptions" "Ljava/util/List;" .null := D95 (Or.inl (hW 61 _ rfl)) (ty := (.object "java/util/List")) (by decide)
  have F95_detailMessage : Fld Z h95 b95 "java/lang/Throwable" "detailMessage" "Ljava/lang/String;" .null := D95 (Or.inl (hW 63 _ rfl)) (ty := (.object "java/lang/String")) (by decide)
  have F95_what : Fld Z h95 b95 "com/example/goalpost/goalpost/runtime/NotSupported" "what" "Ljava/lang/String;" .null := D95 (Or.inr (hW 65 _ rfl)) (ty := (.object "java/lang/String")) (by decide)
  have F95_line : Fld Z h95 b95 "com/example/goalpost/goalpost/runtime/NotSupported" "line" "I" (.int (0 : Int32)) := D95 (Or.inl (hW 67 _ rfl)) (ty := .int) (by decide)
  have K96 : Go p e below T95 (mkF m 29 #[.val (.int q0), .val (.int q1), .val (.int q2), .val (.int q3), .val (.ref b76), .val (.ref b87), .unset, .unset, .unset, .unset, .unset, .unset, .unset] [(.ref b95)]) G := fun tq kq => K94 tq (st95 tq kq)
  have K97 : Go p e below T95 (mkF m 30 #[.val (.int q0), .val (.int q1), .val (.int q2), .val (.int q3), .val (.ref b76), .val (.ref b87), .unset, .unset, .unset, .unset, .unset, .unset, .unset] [(.ref b95), (.ref b95)]) G := fun tq kq => K96 tq (XS.dup X95.here hx rfl (hb hby at_29) rfl rfl kq)
  have K98 : Go p e below T95 (mkF m 32 #[.val (.int q0), .val (.int q1), .val (.int q2), .val (.int q3), .val (.ref b76), .val (.ref b87), .unset, .unset, .unset, .unset, .unset, .unset, .unset] [(.ref b87), (.ref b95), (.ref b95)]) G := fun tq kq => K97 tq (XS.aload X95.here hx rfl (hb hby at_30) rfl rfl kq)
  obtain ⟨v99, _, ⟨T99, L99, k99, n99⟩, -, X99, ⟨Lc99, hQ99, l99, y99, z99⟩, st99⟩ := X95.specialBack hx (y := (⟨"com/example/goalpost/goalpost/runtime/NotSupported", "<init>", "(Ljava/lang/String;)V"⟩ : MethodName)) rfl hown (mvT hZ (hW 33 _ rfl)) (mvT hZ (hW 34 _ rfl)) (mvT hZ (hW 35 _ rfl)) (by decide) (backOf (W := 1) (rmIni l Z a0 hw [] b95 b87 us ss h95 n0 (Nat.le_trans (Nat.le_trans (Nat.le_trans (Nat.le_trans (Nat.le_trans Z0 E76.1) (Keep.of_wr W85).1) E87.1) K92q.1) E95.1) F95_cause F95_stackTrace F95_suppressedExceptions F95_detailMessage F95_what F95_line A95 ge_b95 (((((O0.ext E76).wr W85 ge_b76).ext E87).keep K92q (allS ge_b87 all0)).ext E95) S_us S_ss) hZ (hW 35 _ rfl) (hW 32 _ rfl) (by decide) (by decide)) (g := (mkF m 32 #[.val (.int q0), .val (.int q1), .val (.int q2), .val (.int q3), .val (.ref b76), .val (.ref b87), .unset, .unset, .unset, .unset, .unset, .unset, .unset] [(.ref b87), (.ref b95), (.ref b95)])) rfl (by rw [hml]; rfl) (Steps.refl _) (a := b95) (argsL := [(.ref b87)]) (rest := [(.ref b95)]) (lenOf pd_73 rfl) rfl (by show 2 * 0 + _ ≤ _; exact Nat.le_of_eq rfl) (hb hby at_32) (fun _ _ => ⟨rfl, e95, (by decide : 4 + 0 ≤ _), (by decide : 14 + 0 ≤ _)⟩)
  dsimp only [Pt.U, Pt.locs, Pt.cells, Pt.slots] at X99 l99 y99 z99 st99 hQ99
  subst l99 y99 z99
  obtain ⟨rfl, N99q, K99q, E99q, F99q_what, F99q_line⟩ := hQ99
  have N99 := Fr.app N92 N99q
  have K100 : Go p e below T99 (mkF m 35 #[.val (.int q0), .val (.int q1), .val (.int q2), .val (.int q3), .val (.ref b76), .val (.ref b87), .unset, .unset, .unset, .unset, .unset, .unset, .unset] [(.ref b95)]) G := fun tq kq => K98 tq (st99.trans kq)
  have K101 : Go p e below T99 (mkF m 37 #[.val (.int q0), .val (.int q1), .val (.int q2), .val (.int q3), .val (.ref b76), .val (.ref b87), .val (.ref b95), .unset, .unset, .unset, .unset, .unset, .unset] []) G := fun tq kq => K100 tq (XS.astore X99.here hx rfl (hb hby at_35) rfl rfl (l' := #[.val (.int q0), .val (.int q1), .val (.int q2), .val (.int q3), .val (.ref b76), .val (.ref b87), .val (.ref b95), .unset, .unset, .unset, .unset, .unset, .unset]) rfl kq)
  have K102 : Go p e below T99 (mkF m 39 #[.val (.int q0), .val (.int q1), .val (.int q2), .val (.int q3), .val (.ref b76), .val (.ref b87), .val (.ref b95), .unset, .unset, .unset, .unset, .unset, .unset] [(.ref b95)]) G := fun tq kq => K101 tq (XS.aload X99.here hx rfl (hb hby at_37) rfl rfl kq)
  obtain ⟨T103, X103, e103, st103⟩ := getF X99 hx hZ hown (host := "") (Or.inl (hW 66 _ rfl)) Via.refl rfl F99q_line (g := (mkF m 39 #[.val (.int q0), .val (.int q1), .val (.int q2), .val (.int q3), .val (.ref b76), .val (.ref b87), .val (.ref b95), .unset, .unset, .unset, .unset, .unset, .unset] [(.ref b95)])) rfl rfl (hb hby at_39)
  have K104 : Go p e below T103 (mkF m 42 #[.val (.int q0), .val (.int q1), .val (.int q2), .val (.int q3), .val (.ref b76), .val (.ref b87), .val (.ref b95), .unset, .unset, .unset, .unset, .unset, .unset] [(.int (0 : Int32))]) G := fun tq kq => K102 tq (st103 tq kq)
  have K105 : Go p e below T103 (mkF m 47 #[.val (.int q0), .val (.int q1), .val (.int q2), .val (.int q3), .val (.ref b76), .val (.ref b87), .val (.ref b95), .unset, .unset, .unset, .unset, .unset, .unset] []) G := fun tq kq => K104 tq (XS.ifYes X103.here hx rfl (pc0 := 42) (pc' := 47) rfl (hb hby at_42) rfl ((if0 _ _).trans (teq (by decide : (0 : Int32) = (0 : Int32))).1) (by decide) (by decide) kq)
  have K106 : Go p e below T103 (mkF m 49 #[.val (.int q0), .val (.int q1), .val (.int q2), .val (.int q3), .val (.ref b76), .val (.ref b87), .val (.ref b95), .unset, .unset, .unset, .unset, .unset, .unset] [(.ref b95)]) G := fun tq kq => K105 tq (XS.aload X103.here hx rfl (hb hby at_47) rfl rfl kq)
  have K107 : Go p e below T103 (mkF m 50 #[.val (.int q0), .val (.int q1), .val (.int q2), .val (.int q3), .val (.ref b76), .val (.ref b87), .val (.ref b95), .unset, .unset, .unset, .unset, .unset, .unset] [(.int q0), (.ref b95)]) G := fun tq kq => K106 tq (XS.iloadN X103.here hx rfl (hb hby at_49) rfl kq)
  obtain ⟨cq108, kq108, q108a, q108b, q108c⟩ := isOf hZ e103 E99q
  obtain ⟨v108, _, ⟨T108, L108, k108, n108⟩, -, X108, ⟨Lc108, hQ108, l108, y108, z108⟩, st108⟩ := X103.virtualBack hx (y := (⟨"com/example/goalpost/goalpost/runtime/NotSupported", "at", "(I)Lcom/example/goalpost/goalpost/runtime/NotSupported;"⟩ : MethodName)) (z := (⟨"com/example/goalpost/goalpost/runtime/NotSupported", "at", "(I)Lcom/example/goalpost/goalpost/runtime/NotSupported;"⟩ : MethodName)) hown (mvT hZ (hW 68 _ rfl)) (mvT hZ (hW 69 _ rfl)) (notFace_of_selects (args := #[]) (mvT hZ (hW 71 _ rfl))) (mvT hZ (hW 71 _ rfl)) (mvT hZ (hW 70 _ rfl)) (by decide) (backOf (W := 0) (rmAt l Z a0 hw [] b95 q0 b87 (0 : Int32) T99.heap n0 (Nat.le_trans (Nat.le_trans (Nat.le_trans (Nat.le_trans (Nat.le_trans (Nat.le_trans Z0 E76.1) (Keep.of_wr W85).1) E87.1) K92q.1) E95.1) K99q.1) F99q_what F99q_line E99q ge_b95) hZ (hW 72 _ rfl) (hW 32 _ rfl) (by decide) (by decide)) q108a q108c (g := (mkF m 50 #[.val (.int q0), .val (.int q1), .val (.int q2), .val (.int q3), .val (.ref b76), .val (.ref b87), .val (.ref b95), .unset, .unset, .unset, .unset, .unset, .unset] [(.int q0), (.ref b95)])) rfl (by rw [hml]; rfl) (Steps.refl _) (argsL := [(.int q0)]) (rest := []) (lenOf pd_74 rfl) rfl (by show 2 * 0 + _ ≤ _; exact Nat.le_of_eq rfl) (hb hby at_50) (fun _ _ => ⟨rfl, e103, (by decide : 4 + 0 ≤ _), (by decide : 14 + 0 ≤ _)⟩)
  dsimp only [Pt.U, Pt.locs, Pt.cells, Pt.slots] at X108 l108 y108 z108 st108 hQ108
  subst l108 y108 z108
  rw [QAt, if_pos (rfl : (0 : Int32) = (0 : Int32))] at hQ108
  obtain ⟨rfl, N108q, K108q, E108q, FW108q, FL108q⟩ := hQ108
  have N108 := Fr.app N99 N108q
  have K109 : Go p e below T108 (mkF m 53 #[.val (.int q0), .val (.int q1), .val (.int q2), .val (.int q3), .val (.ref b76), .val (.ref b87), .val (.ref b95), .unset, .unset, .unset, .unset, .unset, .unset] [(.ref b95)]) G := fun tq kq => K107 tq (st108.trans kq)
  have K110 : Go p e below T108 (mkF m 55 #[.val (.int q0), .val (.int q1), .val (.int q2), .val (.int q3), .val (.ref b76), .val (.ref b87), .val (.ref b95), .val (.ref b95), .unset, .unset, .unset, .unset, .unset] []) G := fun tq kq => K109 tq (XS.astore X108.here hx rfl (hb hby at_53) rfl rfl (l' := #[.val (.int q0), .val (.int q1), .val (.int q2), .val (.int q3), .val (.ref b76), .val (.ref b87), .val (.ref b95), .val (.ref b95), .unset, .unset, .unset, .unset, .unset]) rfl kq)
  have K111 : Go p e below T108 (mkF m 57 #[.val (.int q0), .val (.int q1), .val (.int q2), .val (.int q3), .val (.ref b76), .val (.ref b87), .val (.ref b95), .val (.ref b95), .unset, .unset, .unset, .unset, .unset] [(.ref b95)]) G := fun tq kq => K110 tq (XS.aload X108.here hx rfl (hb hby at_55) rfl rfl kq)
  have K112 : Go p e below T108 (mkF m 59 #[.val (.int q0), .val (.int q1), .val (.int q2), .val (.int q3), .val (.ref b76), .val (.ref b87), .val (.ref b95), .val (.ref b95), .unset, .unset, .unset, .unset, .unset] [(.ref b95), (.ref b95)]) G := fun tq kq => K111 tq (XS.aload X108.here hx rfl (hb hby at_57) rfl rfl kq)
  have K113 : Go p e below T108 (mkF m 62 #[.val (.int q0), .val (.int q1), .val (.int q2), .val (.int q3), .val (.ref b76), .val (.ref b87), .val (.ref b95), .val (.ref b95), .unset, .unset, .unset, .unset, .unset] []) G := fun tq kq => K112 tq (Jvm.RoadKit.acmp (g := (mkF m 59 #[.val (.int q0), .val (.int q1), .val (.int q2), .val (.int q3), .val (.ref b76), .val (.ref b87), .val (.ref b95), .val (.ref b95), .unset, .unset, .unset, .unset, .unset] [(.ref b95), (.ref b95)])) X108 hx rfl rfl rfl (pc0 := 59) (pc' := 62) (same := true) rfl (hb hby at_59) rfl (decide_eq_true rfl) (by decide) (by decide) kq)
  have K114 : Go p e below T108 (mkF m 64 #[.val (.int q0), .val (.int q1), .val (.int q2), .val (.int q3), .val (.ref b76), .val (.ref b87), .val (.ref b95), .val (.ref b95), .unset, .unset, .unset, .unset, .unset] [(.ref b95)]) G := fun tq kq => K113 tq (XS.aload X108.here hx rfl (hb hby at_62) rfl rfl kq)
  obtain ⟨T115, X115, e115, st115⟩ := getF X108 hx hZ hown (host := "") (Or.inl (hW 66 _ rfl)) Via.refl rfl FL108q (g := (mkF m 64 #[.val (.int q0), .val (.int q1), .val (.int q2), .val (.int q3), .val (.ref b76), .val (.ref b87), .val (.ref b95), .val (.ref b95), .unset, .unset, .unset, .unset, .unset] [(.ref b95)])) rfl rfl (hb hby at_64)
  have K116 : Go p e below T115 (mkF m 67 #[.val (.int q0), .val (.int q1), .val (.int q2), .val (.int q3), .val (.ref b76), .val (.ref b87), .val (.ref b95), .val (.ref b95), .unset, .unset, .unset, .unset, .unset] [(.int q0)]) G := fun tq kq => K114 tq (st115 tq kq)
  have K117 : Go p e below T115 (mkF m 68 #[.val (.int q0), .val (.int q1), .val (.int q2), .val (.int q3), .val (.ref b76), .val (.ref b87), .val (.ref b95), .val (.ref b95), .unset, .unset, .unset, .unset, .unset] [(.int q0), (.int q0)]) G := fun tq kq => K116 tq (XS.iloadN X115.here hx rfl (hb hby at_67) rfl kq)
  have K118 : Go p e below T115 (mkF m 71 #[.val (.int q0), .val (.int q1), .val (.int q2), .val (.int q3), .val (.ref b76), .val (.ref b87), .val (.ref b95), .val (.ref b95), .unset, .unset, .unset, .unset, .unset] []) G := fun tq kq => K117 tq (XS.icmpNo X115.here hx rfl (hb hby at_68) rfl ((teq (rfl : q0 = q0)).2) kq)
  have K119 : Go p e below T115 (mkF m 72 #[.val (.int q0), .val (.int q1), .val (.int q2), .val (.int q3), .val (.ref b76), .val (.ref b87), .val (.ref b95), .val (.ref b95), .unset, .unset, .unset, .unset, .unset] [(.int (1 : Int32))]) G := fun tq kq => K118 tq (XS.iconst X115.here hx rfl (hb hby at_71) kq)
  have K120 : Go p e below T115 (mkF m 76 #[.val (.int q0), .val (.int q1), .val (.int q2), .val (.int q3), .val (.ref b76), .val (.ref b87), .val (.ref b95), .val (.ref b95), .unset, .unset, .unset, .unset, .unset] [(.int (1 : Int32))]) G := fun tq kq => K119 tq (XS.goto X115.here hx rfl (pc0 := 72) (pc' := 76) rfl (hb hby at_72) (by decide) (by decide) kq)
  have K121 : Go p e below T115 (mkF m 78 #[.val (.int q0), .val (.int q1), .val (.int q2), .val (.int q3), .val (.ref b76), .val (.ref b87), .val (.ref b95), .val (.ref b95), .val (.int (1 : Int32)), .unset, .unset, .unset, .unset] []) G := fun tq kq => K120 tq (XS.istore X115.here hx rfl (hb hby at_76) rfl (l' := #[.val (.int q0), .val (.int q1), .val (.int q2), .val (.int q3), .val (.ref b76), .val (.ref b87), .val (.ref b95), .val (.ref b95), .val (.int (1 : Int32)), .unset, .unset, .unset, .unset]) rfl kq)
  have K122 : Go p e below T115 (mkF m 80 #[.val (.int q0), .val (.int q1), .val (.int q2), .val (.int q3), .val (.ref b76), .val (.ref b87), .val (.ref b95), .val (.ref b95), .val (.int (1 : Int32)), .unset, .unset, .unset, .unset] [(.ref b95)]) G := fun tq kq => K121 tq (XS.aload X115.here hx rfl (hb hby at_78) rfl rfl kq)
  have K123 : Go p e below T115 (mkF m 81 #[.val (.int q0), .val (.int q1), .val (.int q2), .val (.int q3), .val (.ref b76), .val (.ref b87), .val (.ref b95), .val (.ref b95), .val (.int (1 : Int32)), .unset, .unset, .unset, .unset] [(.int q1), (.ref b95)]) G := fun tq kq => K122 tq (XS.iloadN X115.here hx rfl (hb hby at_80) rfl kq)
  obtain ⟨cq124, kq124, q124a, q124b, q124c⟩ := isOf hZ e115 E108q
  obtain ⟨v124, _, ⟨T124, L124, k124, n124⟩, -, X124, ⟨Lc124, hQ124, l124, y124, z124⟩, st124⟩ := X115.virtualBack hx (y := (⟨"com/example/goalpost/goalpost/runtime/NotSupported", "at", "(I)Lcom/example/goalpost/goalpost/runtime/NotSupported;"⟩ : MethodName)) (z := (⟨"com/example/goalpost/goalpost/runtime/NotSupported", "at", "(I)Lcom/example/goalpost/goalpost/runtime/NotSupported;"⟩ : MethodName)) hown (mvT hZ (hW 68 _ rfl)) (mvT hZ (hW 69 _ rfl)) (notFace_of_selects (args := #[]) (mvT hZ (hW 71 _ rfl))) (mvT hZ (hW 71 _ rfl)) (mvT hZ (hW 70 _ rfl)) (by decide) (backOf (W := 0) (rmAt l Z a0 hw [] b95 q1 b87 q0 T108.heap n0 (Nat.le_trans (Nat.le_trans (Nat.le_trans (Nat.le_trans (Nat.le_trans (Nat.le_trans (Nat.le_trans Z0 E76.1) (Keep.of_wr W85).1) E87.1) K92q.1) E95.1) K99q.1) K108q.1) FW108q FL108q E108q ge_b95) hZ (hW 72 _ rfl) (hW 32 _ rfl) (by decide) (by decide)) q124a q124c (g := (mkF m 81 #[.val (.int q0), .val (.int q1), .val (.int q2), .val (.int q3), .val (.ref b76), .val (.ref b87), .val (.ref b95), .val (.ref b95), .val (.int (1 : Int32)), .unset, .unset, .unset, .unset] [(.int q1), (.ref b95)])) rfl (by rw [hml]; rfl) (Steps.refl _) (argsL := [(.int q1)]) (rest := []) (lenOf pd_74 rfl) rfl (by show 2 * 0 + _ ≤ _; exact Nat.le_of_eq rfl) (hb hby at_81) (fun _ _ => ⟨rfl, e115, (by decide : 4 + 0 ≤ _), (by decide : 14 + 0 ≤ _)⟩)
  dsimp only [Pt.U, Pt.locs, Pt.cells, Pt.slots] at X124 l124 y124 z124 st124 hQ124
  subst l124 y124 z124
  by_cases hc125 : q0 = (0 : Int32)
  · skip
    rw [QAt, if_pos hc125] at hQ124
    obtain ⟨rfl, N124q, K124q, E124q, FW124q, FL124q⟩ := hQ124
    have N124 := Fr.app N108 N124q
    have K126 : Go p e below T124 (mkF m 84 #[.val (.int q0), .val (.int q1), .val (.int q2), .val (.int q3), .val (.ref b76), .val (.ref b87), .val (.ref b95), .val (.ref b95), .val (.int (1 : Int32)), .unset, .unset, .unset, .unset] [(.ref b95)]) G := fun tq kq => K123 tq (st124.trans kq)
    have K127 : Go p e below T124 (mkF m 86 #[.val (.int q0), .val (.int q1), .val (.int q2), .val (.int q3), .val (.ref b76), .val (.ref b87), .val (.ref b95), .val (.ref b95), .val (.int (1 : Int32)), .val (.ref b95), .unset, .unset, .unset] []) G := fun tq kq => K126 tq (XS.astore X124.here hx rfl (hb hby at_84) rfl rfl (l' := #[.val (.int q0), .val (.int q1), .val (.int q2), .val (.int q3), .val (.ref b76), .val (.ref b87), .val (.ref b95), .val (.ref b95), .val (.int (1 : Int32)), .val (.ref b95), .unset, .unset, .unset]) rfl kq)
    have K128 : Go p e below T124 (mkF m 87 #[.val (.int q0), .val (.int q1), .val (.int q2), .val (.int q3), .val (.ref b76), .val (.ref b87), .val (.ref b95), .val (.ref b95), .val (.int (1 : Int32)), .val (.ref b95), .unset, .unset, .unset] [(.int q0)]) G := fun tq kq => K127 tq (XS.iloadN X124.here hx rfl (hb hby at_86) rfl kq)
    have K129 : Go p e below T124 (mkF m 94 #[.val (.int q0), .val (.int q1), .val (.int q2), .val (.int q3), .val (.ref b76), .val (.ref b87), .val (.ref b95), .val (.ref b95), .val (.int (1 : Int32)), .val (.ref b95), .unset, .unset, .unset] []) G := fun tq kq => K128 tq (XS.ifYes X124.here hx rfl (pc0 := 87) (pc' := 94) rfl (hb hby at_87) rfl ((if0 _ _).trans (teq hc125).1) (by decide) (by decide) kq)
    have K130 : Go p e below T124 (mkF m 95 #[.val (.int q0), .val (.int q1), .val (.int q2), .val (.int q3), .val (.ref b76), .val (.ref b87), .val (.ref b95), .val (.ref b95), .val (.int (1 : Int32)), .val (.ref b95), .unset, .unset, .unset] [(.int q1)]) G := fun tq kq => K129 tq (XS.iloadN X124.here hx rfl (hb hby at_94) rfl kq)
    have K131 : Go p e below T124 (mkF m 97 #[.val (.int q0), .val (.int q1), .val (.int q2), .val (.int q3), .val (.ref b76), .val (.ref b87), .val (.ref b95), .val (.ref b95), .val (.int (1 : Int32)), .val (.ref b95), .val (.int q1), .unset, .unset] []) G := fun tq kq => K130 tq (XS.istore X124.here hx rfl (hb hby at_95) rfl (l' := #[.val (.int q0), .val (.int q1), .val (.int q2), .val (.int q3), .val (.ref b76), .val (.ref b87), .val (.ref b95), .val (.ref b95), .val (.int (1 : Int32)), .val (.ref b95), .val (.int q1), .unset, .unset]) rfl kq)
    have K132 : Go p e below T124 (mkF m 99 #[.val (.int q0), .val (.int q1), .val (.int q2), .val (.int q3), .val (.ref b76), .val (.ref b87), .val (.ref b95), .val (.ref b95), .val (.int (1 : Int32)), .val (.ref b95), .val (.int q1), .unset, .unset] [(.int (1 : Int32))]) G := fun tq kq => K131 tq (XS.iload X124.here hx rfl (hb hby at_97) rfl kq)
    have K133 : Go p e below T124 (mkF m 102 #[.val (.int q0), .val (.int q1), .val (.int q2), .val (.int q3), .val (.ref b76), .val (.ref b87), .val (.ref b95), .val (.ref b95), .val (.int (1 : Int32)), .val (.ref b95), .val (.int q1), .unset, .unset] []) G := fun tq kq => K132 tq (XS.ifNo X124.here hx rfl (hb hby at_99) rfl ((if0 _ _).trans (feq (by decide : ¬ ((1 : Int32) = (0 : Int32)))).1) kq)
    have K134 : Go p e below T124 (mkF m 104 #[.val (.int q0), .val (.int q1), .val (.int q2), .val (.int q3), .val (.ref b76), .val (.ref b87), .val (.ref b95), .val (.ref b95), .val (.int (1 : Int32)), .val (.ref b95), .val (.int q1), .unset, .unset] [(.ref b95)]) G := fun tq kq => K133 tq (XS.aload X124.here hx rfl (hb hby at_102) rfl rfl kq)
    have K135 : Go p e below T124 (mkF m 106 #[.val (.int q0), .val (.int q1), .val (.int q2), .val (.int q3), .val (.ref b76), .val (.ref b87), .val (.ref b95), .val (.ref b95), .val (.int (1 : Int32)), .val (.ref b95), .val (.int q1), .unset, .unset] [(.ref b95), (.ref b95)]) G := fun tq kq => K134 tq (XS.aload X124.here hx rfl (hb hby at_104) rfl rfl kq)
    have K136 : Go p e below T124 (mkF m 109 #[.val (.int q0), .val (.int q1), .val (.int q2), .val (.int q3), .val (.ref b76), .val (.ref b87), .val (.ref b95), .val (.ref b95), .val (.int (1 : Int32)), .val (.ref b95), .val (.int q1), .unset, .unset] []) G := fun tq kq => K135 tq (Jvm.RoadKit.acmp (g := (mkF m 106 #[.val (.int q0), .val (.int q1), .val (.int q2), .val (.int q3), .val (.ref b76), .val (.ref b87), .val (.ref b95), .val (.ref b95), .val (.int (1 : Int32)), .val (.ref b95), .val (.int q1), .unset, .unset] [(.ref b95), (.ref b95)])) X124 hx rfl rfl rfl (pc0 := 106) (pc' := 109) (same := true) rfl (hb hby at_106) rfl (decide_eq_true rfl) (by decide) (by decide) kq)
    have K137 : Go p e below T124 (mkF m 111 #[.val (.int q0), .val (.int q1), .val (.int q2), .val (.int q3), .val (.ref b76), .val (.ref b87), .val (.ref b95), .val (.ref b95), .val (.int (1 : Int32)), .val (.ref b95), .val (.int q1), .unset, .unset] [(.ref b95)]) G := fun tq kq => K136 tq (XS.aload X124.here hx rfl (hb hby at_109) rfl rfl kq)
    obtain ⟨T138, X138, e138, st138⟩ := getF X124 hx hZ hown (host := "") (Or.inl (hW 66 _ rfl)) Via.refl rfl FL124q (g := (mkF m 111 #[.val (.int q0), .val (.int q1), .val (.int q2), .val (.int q3), .val (.ref b76), .val (.ref b87), .val (.ref b95), .val (.ref b95), .val (.int (1 : Int32)), .val (.ref b95), .val (.int q1), .unset, .unset] [(.ref b95)])) rfl rfl (hb hby at_111)
    have K139 : Go p e below T138 (mkF m 114 #[.val (.int q0), .val (.int q1), .val (.int q2), .val (.int q3), .val (.ref b76), .val (.ref b87), .val (.ref b95), .val (.ref b95), .val (.int (1 : Int32)), .val (.ref b95), .val (.int q1), .unset, .unset] [(.int q1)]) G := fun tq kq => K137 tq (st138 tq kq)
    have K140 : Go p e below T138 (mkF m 116 #[.val (.int q0), .val (.int q1), .val (.int q2), .val (.int q3), .val (.ref b76), .val (.ref b87), .val (.ref b95), .val (.ref b95), .val (.int (1 : Int32)), .val (.ref b95), .val (.int q1), .unset, .unset] [(.int q1), (.int q1)]) G := fun tq kq => K139 tq (XS.iload X138.here hx rfl (hb hby at_114) rfl kq)
    have K141 : Go p e below T138 (mkF m 119 #[.val (.int q0), .val (.int q1), .val (.int q2), .val (.int q3), .val (.ref b76), .val (.ref b87), .val (.ref b95), .val (.ref b95), .val (.int (1 : Int32)), .val (.ref b95), .val (.int q1), .unset, .unset] []) G := fun tq kq => K140 tq (XS.icmpNo X138.here hx rfl (hb hby at_116) rfl ((teq (rfl : q1 = q1)).2) kq)
    have K142 : Go p e below T138 (mkF m 120 #[.val (.int q0), .val (.int q1), .val (.int q2), .val (.int q3), .val (.ref b76), .val (.ref b87), .val (.ref b95), .val (.ref b95), .val (.int (1 : Int32)), .val (.ref b95), .val (.int q1), .unset, .unset] [(.int (1 : Int32))]) G := fun tq kq => K141 tq (XS.iconst X138.here hx rfl (hb hby at_119) kq)
    have K143 : Go p e below T138 (mkF m 124 #[.val (.int q0), .val (.int q1), .val (.int q2), .val (.int q3), .val (.ref b76), .val (.ref b87), .val (.ref b95), .val (.ref b95), .val (.int (1 : Int32)), .val (.ref b95), .val (.int q1), .unset, .unset] [(.int (1 : Int32))]) G := fun tq kq => K142 tq (XS.goto X138.here hx rfl (pc0 := 120) (pc' := 124) rfl (hb hby at_120) (by decide) (by decide) kq)
    have K144 : Go p e below T138 (mkF m 126 #[.val (.int q0), .val (.int q1), .val (.int q2), .val (.int q3), .val (.ref b76), .val (.ref b87), .val (.ref b95), .val (.ref b95), .val (.int (1 : Int32)), .val (.ref b95), .val (.int q1), .unset, .unset] []) G := fun tq kq => K143 tq (XS.istore X138.here hx rfl (hb hby at_124) rfl (l' := #[.val (.int q0), .val (.int q1), .val (.int q2), .val (.int q3), .val (.ref b76), .val (.ref b87), .val (.ref b95), .val (.ref b95), .val (.int (1 : Int32)), .val (.ref b95), .val (.int q1), .unset, .unset]) rfl kq)
    have K145 : Go p e below T138 (mkF m 128 #[.val (.int q0), .val (.int q1), .val (.int q2), .val (.int q3), .val (.ref b76), .val (.ref b87), .val (.ref b95), .val (.ref b95), .val (.int (1 : Int32)), .val (.ref b95), .val (.int q1), .unset, .unset] [(.ref b95)]) G := fun tq kq => K144 tq (XS.aload X138.here hx rfl (hb hby at_126) rfl rfl kq)
    have K146 : Go p e below T138 (mkF m 129 #[.val (.int q0), .val (.int q1), .val (.int q2), .val (.int q3), .val (.ref b76), .val (.ref b87), .val (.ref b95), .val (.ref b95), .val (.int (1 : Int32)), .val (.ref b95), .val (.int q1), .unset, .unset] [(.int q2), (.ref b95)]) G := fun tq kq => K145 tq (XS.iloadN X138.here hx rfl (hb hby at_128) rfl kq)
    obtain ⟨cq147, kq147, q147a, q147b, q147c⟩ := isOf hZ e138 E124q
    obtain ⟨v147, _, ⟨T147, L147, k147, n147⟩, -, X147, ⟨Lc147, hQ147, l147, y147, z147⟩, st147⟩ := X138.virtualBack hx (y := (⟨"com/example/goalpost/goalpost/runtime/NotSupported", "at", "(I)Lcom/example/goalpost/goalpost/runtime/NotSupported;"⟩ : MethodName)) (z := (⟨"com/example/goalpost/goalpost/runtime/NotSupported", "at", "(I)Lcom/example/goalpost/goalpost/runtime/NotSupported;"⟩ : MethodName)) hown (mvT hZ (hW 68 _ rfl)) (mvT hZ (hW 69 _ rfl)) (notFace_of_selects (args := #[]) (mvT hZ (hW 71 _ rfl))) (mvT hZ (hW 71 _ rfl)) (mvT hZ (hW 70 _ rfl)) (by decide) (backOf (W := 0) (rmAt l Z a0 hw [] b95 q2 b87 q1 T124.heap n0 (Nat.le_trans (Nat.le_trans (Nat.le_trans (Nat.le_trans (Nat.le_trans (Nat.le_trans (Nat.le_trans (Nat.le_trans Z0 E76.1) (Keep.of_wr W85).1) E87.1) K92q.1) E95.1) K99q.1) K108q.1) K124q.1) FW124q FL124q E124q ge_b95) hZ (hW 72 _ rfl) (hW 32 _ rfl) (by decide) (by decide)) q147a q147c (g := (mkF m 129 #[.val (.int q0), .val (.int q1), .val (.int q2), .val (.int q3), .val (.ref b76), .val (.ref b87), .val (.ref b95), .val (.ref b95), .val (.int (1 : Int32)), .val (.ref b95), .val (.int q1), .unset, .unset] [(.int q2), (.ref b95)])) rfl (by rw [hml]; rfl) (Steps.refl _) (argsL := [(.int q2)]) (rest := []) (lenOf pd_74 rfl) rfl (by show 2 * 0 + _ ≤ _; exact Nat.le_of_eq rfl) (hb hby at_129) (fun _ _ => ⟨rfl, e138, (by decide : 4 + 0 ≤ _), (by decide : 14 + 0 ≤ _)⟩)
    dsimp only [Pt.U, Pt.locs, Pt.cells, Pt.slots] at X147 l147 y147 z147 st147 hQ147
    subst l147 y147 z147
    by_cases hc148 : q1 = (0 : Int32)
    · skip
      rw [QAt, if_pos hc148] at hQ147
      obtain ⟨rfl, N147q, K147q, E147q, FW147q, FL147q⟩ := hQ147
      have N147 := Fr.app N124 N147q
      have K149 : Go p e below T147 (mkF m 132 #[.val (.int q0), .val (.int q1), .val (.int q2), .val (.int q3), .val (.ref b76), .val (.ref b87), .val (.ref b95), .val (.ref b95), .val (.int (1 : Int32)), .val (.ref b95), .val (.int q1), .unset, .unset] [(.ref b95)]) G := fun tq kq => K146 tq (st147.trans kq)
      have K150 : Go p e below T147 (mkF m 134 #[.val (.int q0), .val (.int q1), .val (.int q2), .val (.int q3), .val (.ref b76), .val (.ref b87), .val (.ref b95), .val (.ref b95), .val (.int (1 : Int32)), .val (.ref b95), .val (.int q1), .val (.ref b95), .unset] []) G := fun tq kq => K149 tq (XS.astore X147.here hx rfl (hb hby at_132) rfl rfl (l' := #[.val (.int q0), .val (.int q1), .val (.int q2), .val (.int q3), .val (.ref b76), .val (.ref b87), .val (.ref b95), .val (.ref b95), .val (.int (1 : Int32)), .val (.ref b95), .val (.int q1), .val (.ref b95), .unset]) rfl kq)
      have K151 : Go p e below T147 (mkF m 135 #[.val (.int q0), .val (.int q1), .val (.int q2), .val (.int q3), .val (.ref b76), .val (.ref b87), .val (.ref b95), .val (.ref b95), .val (.int (1 : Int32)), .val (.ref b95), .val (.int q1), .val (.ref b95), .unset] [(.int q0)]) G := fun tq kq => K150 tq (XS.iloadN X147.here hx rfl (hb hby at_134) rfl kq)
      have K152 : Go p e below T147 (mkF m 142 #[.val (.int q0), .val (.int q1), .val (.int q2), .val (.int q3), .val (.ref b76), .val (.ref b87), .val (.ref b95), .val (.ref b95), .val (.int (1 : Int32)), .val (.ref b95), .val (.int q1), .val (.ref b95), .unset] []) G := fun tq kq => K151 tq (XS.ifYes X147.here hx rfl (pc0 := 135) (pc' := 142) rfl (hb hby at_135) rfl ((if0 _ _).trans (teq hc125).1) (by decide) (by decide) kq)
      have K153 : Go p e below T147 (mkF m 143 #[.val (.int q0), .val (.int q1), .val (.int q2), .val (.int q3), .val (.ref b76), .val (.ref b87), .val (.ref b95), .val (.ref b95), .val (.int (1 : Int32)), .val (.ref b95), .val (.int q1), .val (.ref b95), .unset] [(.int q1)]) G := fun tq kq => K152 tq (XS.iloadN X147.here hx rfl (hb hby at_142) rfl kq)
      have K154 : Go p e below T147 (mkF m 150 #[.val (.int q0), .val (.int q1), .val (.int q2), .val (.int q3), .val (.ref b76), .val (.ref b87), .val (.ref b95), .val (.ref b95), .val (.int (1 : Int32)), .val (.ref b95), .val (.int q1), .val (.ref b95), .unset] []) G := fun tq kq => K153 tq (XS.ifYes X147.here hx rfl (pc0 := 143) (pc' := 150) rfl (hb hby at_143) rfl ((if0 _ _).trans (teq hc148).1) (by decide) (by decide) kq)
      have K155 : Go p e below T147 (mkF m 151 #[.val (.int q0), .val (.int q1), .val (.int q2), .val (.int q3), .val (.ref b76), .val (.ref b87), .val (.ref b95), .val (.ref b95), .val (.int (1 : Int32)), .val (.ref b95), .val (.int q1), .val (.ref b95), .unset] [(.int q2)]) G := fun tq kq => K154 tq (XS.iloadN X147.here hx rfl (hb hby at_150) rfl kq)
      have K156 : Go p e below T147 (mkF m 153 #[.val (.int q0), .val (.int q1), .val (.int q2), .val (.int q3), .val (.ref b76), .val (.ref b87), .val (.ref b95), .val (.ref b95), .val (.int (1 : Int32)), .val (.ref b95), .val (.int q1), .val (.ref b95), .val (.int q2)] []) G := fun tq kq => K155 tq (XS.istore X147.here hx rfl (hb hby at_151) rfl (l' := #[.val (.int q0), .val (.int q1), .val (.int q2), .val (.int q3), .val (.ref b76), .val (.ref b87), .val (.ref b95), .val (.ref b95), .val (.int (1 : Int32)), .val (.ref b95), .val (.int q1), .val (.ref b95), .val (.int q2)]) rfl kq)
      have K157 : Go p e below T147 (mkF m 155 #[.val (.int q0), .val (.int q1), .val (.int q2), .val (.int q3), .val (.ref b76), .val (.ref b87), .val (.ref b95), .val (.ref b95), .val (.int (1 : Int32)), .val (.ref b95), .val (.int q1), .val (.ref b95), .val (.int q2)] [(.int (1 : Int32))]) G := fun tq kq => K156 tq (XS.iload X147.here hx rfl (hb hby at_153) rfl kq)
      have K158 : Go p e below T147 (mkF m 158 #[.val (.int q0), .val (.int q1), .val (.int q2), .val (.int q3), .val (.ref b76), .val (.ref b87), .val (.ref b95), .val (.ref b95), .val (.int (1 : Int32)), .val (.ref b95), .val (.int q1), .val (.ref b95), .val (.int q2)] []) G := fun tq kq => K157 tq (XS.ifNo X147.here hx rfl (hb hby at_155) rfl ((if0 _ _).trans (feq (by decide : ¬ ((1 : Int32) = (0 : Int32)))).1) kq)
      have K159 : Go p e below T147 (mkF m 160 #[.val (.int q0), .val (.int q1), .val (.int q2), .val (.int q3), .val (.ref b76), .val (.ref b87), .val (.ref b95), .val (.ref b95), .val (.int (1 : Int32)), .val (.ref b95), .val (.int q1), .val (.ref b95), .val (.int q2)] [(.ref b95)]) G := fun tq kq => K158 tq (XS.aload X147.here hx rfl (hb hby at_158) rfl rfl kq)
      have K160 : Go p e below T147 (mkF m 162 #[.val (.int q0), .val (.int q1), .val (.int q2), .val (.int q3), .val (.ref b76), .val (.ref b87), .val (.ref b95), .val (.ref b95), .val (.int (1 : Int32)), .val (.ref b95), .val (.int q1), .val (.ref b95), .val (.int q2)] [(.ref b95), (.ref b95)]) G := fun tq kq => K159 tq (XS.aload X147.here hx rfl (hb hby at_160) rfl rfl kq)
      have K161 : Go p e below T147 (mkF m 165 #[.val (.int q0), .val (.int q1), .val (.int q2), .val (.int q3), .val (.ref b76), .val (.ref b87), .val (.ref b95), .val (.ref b95), .val (.int (1 : Int32)), .val (.ref b95), .val (.int q1), .val (.ref b95), .val (.int q2)] []) G := fun tq kq => K160 tq (Jvm.RoadKit.acmp (g := (mkF m 162 #[.val (.int q0), .val (.int q1), .val (.int q2), .val (.int q3), .val (.ref b76), .val (.ref b87), .val (.ref b95), .val (.ref b95), .val (.int (1 : Int32)), .val (.ref b95), .val (.int q1), .val (.ref b95), .val (.int q2)] [(.ref b95), (.ref b95)])) X147 hx rfl rfl rfl (pc0 := 162) (pc' := 165) (same := true) rfl (hb hby at_162) rfl (decide_eq_true rfl) (by decide) (by decide) kq)
      have K162 : Go p e below T147 (mkF m 167 #[.val (.int q0), .val (.int q1), .val (.int q2), .val (.int q3), .val (.ref b76), .val (.ref b87), .val (.ref b95), .val (.ref b95), .val (.int (1 : Int32)), .val (.ref b95), .val (.int q1), .val (.ref b95), .val (.int q2)] [(.ref b95)]) G := fun tq kq => K161 tq (XS.aload X147.here hx rfl (hb hby at_165) rfl rfl kq)
      obtain ⟨T163, X163, e163, st163⟩ := getF X147 hx hZ hown (host := "") (Or.inl (hW 66 _ rfl)) Via.refl rfl FL147q (g := (mkF m 167 #[.val (.int q0), .val (.int q1), .val (.int q2), .val (.int q3), .val (.ref b76), .val (.ref b87), .val (.ref b95), .val (.ref b95), .val (.int (1 : Int32)), .val (.ref b95), .val (.int q1), .val (.ref b95), .val (.int q2)] [(.ref b95)])) rfl rfl (hb hby at_167)
      have K164 : Go p e below T163 (mkF m 170 #[.val (.int q0), .val (.int q1), .val (.int q2), .val (.int q3), .val (.ref b76), .val (.ref b87), .val (.ref b95), .val (.ref b95), .val (.int (1 : Int32)), .val (.ref b95), .val (.int q1), .val (.ref b95), .val (.int q2)] [(.int q2)]) G := fun tq kq => K162 tq (st163 tq kq)
      have K165 : Go p e below T163 (mkF m 172 #[.val (.int q0), .val (.int q1), .val (.int q2), .val (.int q3), .val (.ref b76), .val (.ref b87), .val (.ref b95), .val (.ref b95), .val (.int (1 : Int32)), .val (.ref b95), .val (.int q1), .val (.ref b95), .val (.int q2)] [(.int q2), (.int q2)]) G := fun tq kq => K164 tq (XS.iload X163.here hx rfl (hb hby at_170) rfl kq)
      have K166 : Go p e below T163 (mkF m 175 #[.val (.int q0), .val (.int q1), .val (.int q2), .val (.int q3), .val (.ref b76), .val (.ref b87), .val (.ref b95), .val (.ref b95), .val (.int (1 : Int32)), .val (.ref b95), .val (.int q1), .val (.ref b95), .val (.int q2)] []) G := fun tq kq => K165 tq (XS.icmpNo X163.here hx rfl (hb hby at_172) rfl ((teq (rfl : q2 = q2)).2) kq)
      have K167 : Go p e below T163 (mkF m 177 #[.val (.int q0), .val (.int q1), .val (.int q2), .val (.int q3), .val (.ref b76), .val (.ref b87), .val (.ref b95), .val (.ref b95), .val (.int (1 : Int32)), .val (.ref b95), .val (.int q1), .val (.ref b95), .val (.int q2)] [(.ref b95)]) G := fun tq kq => K166 tq (XS.aload X163.here hx rfl (hb hby at_175) rfl rfl kq)
      obtain ⟨T168, X168, e168, st168⟩ := getF X163 hx hZ hown (host := "") (Or.inl (hW 74 _ rfl)) Via.refl e163 FW147q (g := (mkF m 177 #[.val (.int q0), .val (.int q1), .val (.int q2), .val (.int q3), .val (.ref b76), .val (.ref b87), .val (.ref b95), .val (.ref b95), .val (.int (1 : Int32)), .val (.ref b95), .val (.int q1), .val (.ref b95), .val (.int q2)] [(.ref b95)])) rfl rfl (hb hby at_177)
      have K169 : Go p e below T168 (mkF m 180 #[.val (.int q0), .val (.int q1), .val (.int q2), .val (.int q3), .val (.ref b76), .val (.ref b87), .val (.ref b95), .val (.ref b95), .val (.int (1 : Int32)), .val (.ref b95), .val (.int q1), .val (.ref b95), .val (.int q2)] [(.ref b87)]) G := fun tq kq => K167 tq (st168 tq kq)
      have K170 : Go p e below T168 (mkF m 182 #[.val (.int q0), .val (.int q1), .val (.int q2), .val (.int q3), .val (.ref b76), .val (.ref b87), .val (.ref b95), .val (.ref b95), .val (.int (1 : Int32)), .val (.ref b95), .val (.int q1), .val (.ref b95), .val (.int q2)] [(.ref b87), (.ref b87)]) G := fun tq kq => K169 tq (XS.aload X168.here hx rfl (hb hby at_180) rfl rfl kq)
      have K171 : Go p e below T168 (mkF m 185 #[.val (.int q0), .val (.int q1), .val (.int q2), .val (.int q3), .val (.ref b76), .val (.ref b87), .val (.ref b95), .val (.ref b95), .val (.int (1 : Int32)), .val (.ref b95), .val (.int q1), .val (.ref b95), .val (.int q2)] []) G := fun tq kq => K170 tq (Jvm.RoadKit.acmp (g := (mkF m 182 #[.val (.int q0), .val (.int q1), .val (.int q2), .val (.int q3), .val (.ref b76), .val (.ref b87), .val (.ref b95), .val (.ref b95), .val (.int (1 : Int32)), .val (.ref b95), .val (.int q1), .val (.ref b95), .val (.int q2)] [(.ref b87), (.ref b87)])) X168 hx rfl rfl rfl (pc0 := 182) (pc' := 185) (same := true) rfl (hb hby at_182) rfl (decide_eq_true rfl) (by decide) (by decide) kq)
      have K172 : Go p e below T168 (mkF m 186 #[.val (.int q0), .val (.int q1), .val (.int q2), .val (.int q3), .val (.ref b76), .val (.ref b87), .val (.ref b95), .val (.ref b95), .val (.int (1 : Int32)), .val (.ref b95), .val (.int q1), .val (.ref b95), .val (.int q2)] [(.int (1 : Int32))]) G := fun tq kq => K171 tq (XS.iconst X168.here hx rfl (hb hby at_185) kq)
      have K173 : Go p e below T168 (mkF m 190 #[.val (.int q0), .val (.int q1), .val (.int q2), .val (.int q3), .val (.ref b76), .val (.ref b87), .val (.ref b95), .val (.ref b95), .val (.int (1 : Int32)), .val (.ref b95), .val (.int q1), .val (.ref b95), .val (.int q2)] [(.int (1 : Int32))]) G := fun tq kq => K172 tq (XS.goto X168.here hx rfl (pc0 := 186) (pc' := 190) rfl (hb hby at_186) (by decide) (by decide) kq)
      have K174 : Go p e below T168 (mkF m 192 #[.val (.int q0), .val (.int q1), .val (.int q2), .val (.int q3), .val (.ref b76), .val (.ref b87), .val (.ref b95), .val (.ref b95), .val (.int (1 : Int32)), .val (.ref b95), .val (.int q1), .val (.ref b95), .val (.int q2)] []) G := fun tq kq => K173 tq (XS.istore X168.here hx rfl (hb hby at_190) rfl (l' := #[.val (.int q0), .val (.int q1), .val (.int q2), .val (.int q3), .val (.ref b76), .val (.ref b87), .val (.ref b95), .val (.ref b95), .val (.int (1 : Int32)), .val (.ref b95), .val (.int q1), .val (.ref b95), .val (.int q2)]) rfl kq)
      have K175 : Go p e below T168 (mkF m 194 #[.val (.int q0), .val (.int q1), .val (.int q2), .val (.int q3), .val (.ref b76), .val (.ref b87), .val (.ref b95), .val (.ref b95), .val (.int (1 : Int32)), .val (.ref b95), .val (.int q1), .val (.ref b95), .val (.int q2)] [(.int (1 : Int32))]) G := fun tq kq => K174 tq (XS.iload X168.here hx rfl (hb hby at_192) rfl kq)
      obtain ⟨fs, hr, hrun, hended, hWW, hsame⟩ := X168.leave (v := some (.int (1 : Int32))) (fun h => by rw [Bd.returns] at h; cases h)
      refine ⟨_, _, hG _ (K175 _ (retN X168 hx (t := .boolean) Bd.returns (by simp) (hb hby at_194) hr)), hrun, hended, _, _, rfl, ?_, ⟨_, rfl⟩, hWW, hsame.mono (by decide) (by decide)⟩
      show Q0 Z q0 q1 q2 q3 cz us ss h0 n0 _ T168.heap _
      rw [e168]
      exact ⟨rfl, N147⟩
    · skip
      rw [QAt, if_neg hc148] at hQ147
      obtain ⟨rfl, N147q, K147q, E147q, FW147q, FL147q⟩ := hQ147
      have N147 := Fr.app N124 N147q
      have K176 : Go p e below T147 (mkF m 132 #[.val (.int q0), .val (.int q1), .val (.int q2), .val (.int q3), .val (.ref b76), .val (.ref b87), .val (.ref b95), .val (.ref b95), .val (.int (1 : Int32)), .val (.ref b95), .val (.int q1), .unset, .unset] [(.ref b95)]) G := fun tq kq => K146 tq (st147.trans kq)
      have K177 : Go p e below T147 (mkF m 134 #[.val (.int q0), .val (.int q1), .val (.int q2), .val (.int q3), .val (.ref b76), .val (.ref b87), .val (.ref b95), .val (.ref b95), .val (.int (1 : Int32)), .val (.ref b95), .val (.int q1), .val (.ref b95), .unset] []) G := fun tq kq => K176 tq (XS.astore X147.here hx rfl (hb hby at_132) rfl rfl (l' := #[.val (.int q0), .val (.int q1), .val (.int q2), .val (.int q3), .val (.ref b76), .val (.ref b87), .val (.ref b95), .val (.ref b95), .val (.int (1 : Int32)), .val (.ref b95), .val (.int q1), .val (.ref b95), .unset]) rfl kq)
      have K178 : Go p e below T147 (mkF m 135 #[.val (.int q0), .val (.int q1), .val (.int q2), .val (.int q3), .val (.ref b76), .val (.ref b87), .val (.ref b95), .val (.ref b95), .val (.int (1 : Int32)), .val (.ref b95), .val (.int q1), .val (.ref b95), .unset] [(.int q0)]) G := fun tq kq => K177 tq (XS.iloadN X147.here hx rfl (hb hby at_134) rfl kq)
      have K179 : Go p e below T147 (mkF m 142 #[.val (.int q0), .val (.int q1), .val (.int q2), .val (.int q3), .val (.ref b76), .val (.ref b87), .val (.ref b95), .val (.ref b95), .val (.int (1 : Int32)), .val (.ref b95), .val (.int q1), .val (.ref b95), .unset] []) G := fun tq kq => K178 tq (XS.ifYes X147.here hx rfl (pc0 := 135) (pc' := 142) rfl (hb hby at_135) rfl ((if0 _ _).trans (teq hc125).1) (by decide) (by decide) kq)
      have K180 : Go p e below T147 (mkF m 143 #[.val (.int q0), .val (.int q1), .val (.int q2), .val (.int q3), .val (.ref b76), .val (.ref b87), .val (.ref b95), .val (.ref b95), .val (.int (1 : Int32)), .val (.ref b95), .val (.int q1), .val (.ref b95), .unset] [(.int q1)]) G := fun tq kq => K179 tq (XS.iloadN X147.here hx rfl (hb hby at_142) rfl kq)
      have K181 : Go p e below T147 (mkF m 146 #[.val (.int q0), .val (.int q1), .val (.int q2), .val (.int q3), .val (.ref b76), .val (.ref b87), .val (.ref b95), .val (.ref b95), .val (.int (1 : Int32)), .val (.ref b95), .val (.int q1), .val (.ref b95), .unset] []) G := fun tq kq => K180 tq (XS.ifNo X147.here hx rfl (hb hby at_143) rfl ((if0 _ _).trans (feq hc148).1) kq)
      have K182 : Go p e below T147 (mkF m 147 #[.val (.int q0), .val (.int q1), .val (.int q2), .val (.int q3), .val (.ref b76), .val (.ref b87), .val (.ref b95), .val (.ref b95), .val (.int (1 : Int32)), .val (.ref b95), .val (.int q1), .val (.ref b95), .unset] [(.int q1)]) G := fun tq kq => K181 tq (XS.iloadN X147.here hx rfl (hb hby at_146) rfl kq)
      have K183 : Go p e below T147 (mkF m 151 #[.val (.int q0), .val (.int q1), .val (.int q2), .val (.int q3), .val (.ref b76), .val (.ref b87), .val (.ref b95), .val (.ref b95), .val (.int (1 : Int32)), .val (.ref b95), .val (.int q1), .val (.ref b95), .unset] [(.int q1)]) G := fun tq kq => K182 tq (XS.goto X147.here hx rfl (pc0 := 147) (pc' := 151) rfl (hb hby at_147) (by decide) (by decide) kq)
      have K184 : Go p e below T147 (mkF m 153 #[.val (.int q0), .val (.int q1), .val (.int q2), .val (.int q3), .val (.ref b76), .val (.ref b87), .val (.ref b95), .val (.ref b95), .val (.int (1 : Int32)), .val (.ref b95), .val (.int q1), .val (.ref b95), .val (.int q1)] []) G := fun tq kq => K183 tq (XS.istore X147.here hx rfl (hb hby at_151) rfl (l' := #[.val (.int q0), .val (.int q1), .val (.int q2), .val (.int q3), .val (.ref b76), .val (.ref b87), .val (.ref b95), .val (.ref b95), .val (.int (1 : Int32)), .val (.ref b95), .val (.int q1), .val (.ref b95), .val (.int q1)]) rfl kq)
      have K185 : Go p e below T147 (mkF m 155 #[.val (.int q0), .val (.int q1), .val (.int q2), .val (.int q3), .val (.ref b76), .val (.ref b87), .val (.ref b95), .val (.ref b95), .val (.int (1 : Int32)), .val (.ref b95), .val (.int q1), .val (.ref b95), .val (.int q1)] [(.int (1 : Int32))]) G := fun tq kq => K184 tq (XS.iload X147.here hx rfl (hb hby at_153) rfl kq)
      have K186 : Go p e below T147 (mkF m 158 #[.val (.int q0), .val (.int q1), .val (.int q2), .val (.int q3), .val (.ref b76), .val (.ref b87), .val (.ref b95), .val (.ref b95), .val (.int (1 : Int32)), .val (.ref b95), .val (.int q1), .val (.ref b95), .val (.int q1)] []) G := fun tq kq => K185 tq (XS.ifNo X147.here hx rfl (hb hby at_155) rfl ((if0 _ _).trans (feq (by decide : ¬ ((1 : Int32) = (0 : Int32)))).1) kq)
      have K187 : Go p e below T147 (mkF m 160 #[.val (.int q0), .val (.int q1), .val (.int q2), .val (.int q3), .val (.ref b76), .val (.ref b87), .val (.ref b95), .val (.ref b95), .val (.int (1 : Int32)), .val (.ref b95), .val (.int q1), .val (.ref b95), .val (.int q1)] [(.ref b95)]) G := fun tq kq => K186 tq (XS.aload X147.here hx rfl (hb hby at_158) rfl rfl kq)
      have K188 : Go p e below T147 (mkF m 162 #[.val (.int q0), .val (.int q1), .val (.int q2), .val (.int q3), .val (.ref b76), .val (.ref b87), .val (.ref b95), .val (.ref b95), .val (.int (1 : Int32)), .val (.ref b95), .val (.int q1), .val (.ref b95), .val (.int q1)] [(.ref b95), (.ref b95)]) G := fun tq kq => K187 tq (XS.aload X147.here hx rfl (hb hby at_160) rfl rfl kq)
      have K189 : Go p e below T147 (mkF m 165 #[.val (.int q0), .val (.int q1), .val (.int q2), .val (.int q3), .val (.ref b76), .val (.ref b87), .val (.ref b95), .val (.ref b95), .val (.int (1 : Int32)), .val (.ref b95), .val (.int q1), .val (.ref b95), .val (.int q1)] []) G := fun tq kq => K188 tq (Jvm.RoadKit.acmp (g := (mkF m 162 #[.val (.int q0), .val (.int q1), .val (.int q2), .val (.int q3), .val (.ref b76), .val (.ref b87), .val (.ref b95), .val (.ref b95), .val (.int (1 : Int32)), .val (.ref b95), .val (.int q1), .val (.ref b95), .val (.int q1)] [(.ref b95), (.ref b95)])) X147 hx rfl rfl rfl (pc0 := 162) (pc' := 165) (same := true) rfl (hb hby at_162) rfl (decide_eq_true rfl) (by decide) (by decide) kq)
      have K190 : Go p e below T147 (mkF m 167 #[.val (.int q0), .val (.int q1), .val (.int q2), .val (.int q3), .val (.ref b76), .val (.ref b87), .val (.ref b95), .val (.ref b95), .val (.int (1 : Int32)), .val (.ref b95), .val (.int q1), .val (.ref b95), .val (.int q1)] [(.ref b95)]) G := fun tq kq => K189 tq (XS.aload X147.here hx rfl (hb hby at_165) rfl rfl kq)
      obtain ⟨T191, X191, e191, st191⟩ := getF X147 hx hZ hown (host := "") (Or.inl (hW 66 _ rfl)) Via.refl rfl FL147q (g := (mkF m 167 #[.val (.int q0), .val (.int q1), .val (.int q2), .val (.int q3), .val (.ref b76), .val (.ref b87), .val (.ref b95), .val (.ref b95), .val (.int (1 : Int32)), .val (.ref b95), .val (.int q1), .val (.ref b95), .val (.int q1)] [(.ref b95)])) rfl rfl (hb hby at_167)
      have K192 : Go p e below T191 (mkF m 170 #[.val (.int q0), .val (.int q1), .val (.int q2), .val (.int q3), .val (.ref b76), .val (.ref b87), .val (.ref b95), .val (.ref b95), .val (.int (1 : Int32)), .val (.ref b95), .val (.int q1), .val (.ref b95), .val (.int q1)] [(.int q1)]) G := fun tq kq => K190 tq (st191 tq kq)
      have K193 : Go p e below T191 (mkF m 172 #[.val (.int q0), .val (.int q1), .val (.int q2), .val (.int q3), .val (.ref b76), .val (.ref b87), .val (.ref b95), .val (.ref b95), .val (.int (1 : Int32)), .val (.ref b95), .val (.int q1), .val (.ref b95), .val (.int q1)] [(.int q1), (.int q1)]) G := fun tq kq => K192 tq (XS.iload X191.here hx rfl (hb hby at_170) rfl kq)
      have K194 : Go p e below T191 (mkF m 175 #[.val (.int q0), .val (.int q1), .val (.int q2), .val (.int q3), .val (.ref b76), .val (.ref b87), .val (.ref b95), .val (.ref b95), .val (.int (1 : Int32)), .val (.ref b95), .val (.int q1), .val (.ref b95), .val (.int q1)] []) G := fun tq kq => K193 tq (XS.icmpNo X191.here hx rfl (hb hby at_172) rfl ((teq (rfl : q1 = q1)).2) kq)
      have K195 : Go p e below T191 (mkF m 177 #[.val (.int q0), .val (.int q1), .val (.int q2), .val (.int q3), .val (.ref b76), .val (.ref b87), .val (.ref b95), .val (.ref b95), .val (.int (1 : Int32)), .val (.ref b95), .val (.int q1), .val (.ref b95), .val (.int q1)] [(.ref b95)]) G := fun tq kq => K194 tq (XS.aload X191.here hx rfl (hb hby at_175) rfl rfl kq)
      obtain ⟨T196, X196, e196, st196⟩ := getF X191 hx hZ hown (host := "") (Or.inl (hW 74 _ rfl)) Via.refl e191 FW147q (g := (mkF m 177 #[.val (.int q0), .val (.int q1), .val (.int q2), .val (.int q3), .val (.ref b76), .val (.ref b87), .val (.ref b95), .val (.ref b95), .val (.int (1 : Int32)), .val (.ref b95), .val (.int q1), .val (.ref b95), .val (.int q1)] [(.ref b95)])) rfl rfl (hb hby at_177)
      have K197 : Go p e below T196 (mkF m 180 #[.val (.int q0), .val (.int q1), .val (.int q2), .val (.int q3), .val (.ref b76), .val (.ref b87), .val (.ref b95), .val (.ref b95), .val (.int (1 : Int32)), .val (.ref b95), .val (.int q1), .val (.ref b95), .val (.int q1)] [(.ref b87)]) G := fun tq kq => K195 tq (st196 tq kq)
      have K198 : Go p e below T196 (mkF m 182 #[.val (.int q0), .val (.int q1), .val (.int q2), .val (.int q3), .val (.ref b76), .val (.ref b87), .val (.ref b95), .val (.ref b95), .val (.int (1 : Int32)), .val (.ref b95), .val (.int q1), .val (.ref b95), .val (.int q1)] [(.ref b87), (.ref b87)]) G := fun tq kq => K197 tq (XS.aload X196.here hx rfl (hb hby at_180) rfl rfl kq)
      have K199 : Go p e below T196 (mkF m 185 #[.val (.int q0), .val (.int q1), .val (.int q2), .val (.int q3), .val (.ref b76), .val (.ref b87), .val (.ref b95), .val (.ref b95), .val (.int (1 : Int32)), .val (.ref b95), .val (.int q1), .val (.ref b95), .val (.int q1)] []) G := fun tq kq => K198 tq (Jvm.RoadKit.acmp (g := (mkF m 182 #[.val (.int q0), .val (.int q1), .val (.int q2), .val (.int q3), .val (.ref b76), .val (.ref b87), .val (.ref b95), .val (.ref b95), .val (.int (1 : Int32)), .val (.ref b95), .val (.int q1), .val (.ref b95), .val (.int q1)] [(.ref b87), (.ref b87)])) X196 hx rfl rfl rfl (pc0 := 182) (pc' := 185) (same := true) rfl (hb hby at_182) rfl (decide_eq_true rfl) (by decide) (by decide) kq)
      have K200 : Go p e below T196 (mkF m 186 #[.val (.int q0), .val (.int q1), .val (.int q2), .val (.int q3), .val (.ref b76), .val (.ref b87), .val (.ref b95), .val (.ref b95), .val (.int (1 : Int32)), .val (.ref b95), .val (.int q1), .val (.ref b95), .val (.int q1)] [(.int (1 : Int32))]) G := fun tq kq => K199 tq (XS.iconst X196.here hx rfl (hb hby at_185) kq)
      have K201 : Go p e below T196 (mkF m 190 #[.val (.int q0), .val (.int q1), .val (.int q2), .val (.int q3), .val (.ref b76), .val (.ref b87), .val (.ref b95), .val (.ref b95), .val (.int (1 : Int32)), .val (.ref b95), .val (.int q1), .val (.ref b95), .val (.int q1)] [(.int (1 : Int32))]) G := fun tq kq => K200 tq (XS.goto X196.here hx rfl (pc0 := 186) (pc' := 190) rfl (hb hby at_186) (by decide) (by decide) kq)
      have K202 : Go p e below T196 (mkF m 192 #[.val (.int q0), .val (.int q1), .val (.int q2), .val (.int q3), .val (.ref b76), .val (.ref b87), .val (.ref b95), .val (.ref b95), .val (.int (1 : Int32)), .val (.ref b95), .val (.int q1), .val (.ref b95), .val (.int q1)] []) G := fun tq kq => K201 tq (XS.istore X196.here hx rfl (hb hby at_190) rfl (l' := #[.val (.int q0), .val (.int q1), .val (.int q2), .val (.int q3), .val (.ref b76), .val (.ref b87), .val (.ref b95), .val (.ref b95), .val (.int (1 : Int32)), .val (.ref b95), .val (.int q1), .val (.ref b95), .val (.int q1)]) rfl kq)
      have K203 : Go p e below T196 (mkF m 194 #[.val (.int q0), .val (.int q1), .val (.int q2), .val (.int q3), .val (.ref b76), .val (.ref b87), .val (.ref b95), .val (.ref b95), .val (.int (1 : Int32)), .val (.ref b95), .val (.int q1), .val (.ref b95), .val (.int q1)] [(.int (1 : Int32))]) G := fun tq kq => K202 tq (XS.iload X196.here hx rfl (hb hby at_192) rfl kq)
      obtain ⟨fs, hr, hrun, hended, hWW, hsame⟩ := X196.leave (v := some (.int (1 : Int32))) (fun h => by rw [Bd.returns] at h; cases h)
      refine ⟨_, _, hG _ (K203 _ (retN X196 hx (t := .boolean) Bd.returns (by simp) (hb hby at_194) hr)), hrun, hended, _, _, rfl, ?_, ⟨_, rfl⟩, hWW, hsame.mono (by decide) (by decide)⟩
      show Q0 Z q0 q1 q2 q3 cz us ss h0 n0 _ T196.heap _
      rw [e196]
      exact ⟨rfl, N147⟩
  · skip
    rw [QAt, if_neg hc125] at hQ124
    obtain ⟨rfl, N124q, K124q, E124q, FW124q, FL124q⟩ := hQ124
    have N124 := Fr.app N108 N124q
    have K204 : Go p e below T124 (mkF m 84 #[.val (.int q0), .val (.int q1), .val (.int q2), .val (.int q3), .val (.ref b76), .val (.ref b87), .val (.ref b95), .val (.ref b95), .val (.int (1 : Int32)), .unset, .unset, .unset, .unset] [(.ref b95)]) G := fun tq kq => K123 tq (st124.trans kq)
    have K205 : Go p e below T124 (mkF m 86 #[.val (.int q0), .val (.int q1), .val (.int q2), .val (.int q3), .val (.ref b76), .val (.ref b87), .val (.ref b95), .val (.ref b95), .val (.int (1 : Int32)), .val (.ref b95), .unset, .unset, .unset] []) G := fun tq kq => K204 tq (XS.astore X124.here hx rfl (hb hby at_84) rfl rfl (l' := #[.val (.int q0), .val (.int q1), .val (.int q2), .val (.int q3), .val (.ref b76), .val (.ref b87), .val (.ref b95), .val (.ref b95), .val (.int (1 : Int32)), .val (.ref b95), .unset, .unset, .unset]) rfl kq)
    have K206 : Go p e below T124 (mkF m 87 #[.val (.int q0), .val (.int q1), .val (.int q2), .val (.int q3), .val (.ref b76), .val (.ref b87), .val (.ref b95), .val (.ref b95), .val (.int (1 : Int32)), .val (.ref b95), .unset, .unset, .unset] [(.int q0)]) G := fun tq kq => K205 tq (XS.iloadN X124.here hx rfl (hb hby at_86) rfl kq)
    have K207 : Go p e below T124 (mkF m 90 #[.val (.int q0), .val (.int q1), .val (.int q2), .val (.int q3), .val (.ref b76), .val (.ref b87), .val (.ref b95), .val (.ref b95), .val (.int (1 : Int32)), .val (.ref b95), .unset, .unset, .unset] []) G := fun tq kq => K206 tq (XS.ifNo X124.here hx rfl (hb hby at_87) rfl ((if0 _ _).trans (feq hc125).1) kq)
    have K208 : Go p e below T124 (mkF m 91 #[.val (.int q0), .val (.int q1), .val (.int q2), .val (.int q3), .val (.ref b76), .val (.ref b87), .val (.ref b95), .val (.ref b95), .val (.int (1 : Int32)), .val (.ref b95), .unset, .unset, .unset] [(.int q0)]) G := fun tq kq => K207 tq (XS.iloadN X124.here hx rfl (hb hby at_90) rfl kq)
    have K209 : Go p e below T124 (mkF m 95 #[.val (.int q0), .val (.int q1), .val (.int q2), .val (.int q3), .val (.ref b76), .val (.ref b87), .val (.ref b95), .val (.ref b95), .val (.int (1 : Int32)), .val (.ref b95), .unset, .unset, .unset] [(.int q0)]) G := fun tq kq => K208 tq (XS.goto X124.here hx rfl (pc0 := 91) (pc' := 95) rfl (hb hby at_91) (by decide) (by decide) kq)
    have K210 : Go p e below T124 (mkF m 97 #[.val (.int q0), .val (.int q1), .val (.int q2), .val (.int q3), .val (.ref b76), .val (.ref b87), .val (.ref b95), .val (.ref b95), .val (.int (1 : Int32)), .val (.ref b95), .val (.int q0), .unset, .unset] []) G := fun tq kq => K209 tq (XS.istore X124.here hx rfl (hb hby at_95) rfl (l' := #[.val (.int q0), .val (.int q1), .val (.int q2), .val (.int q3), .val (.ref b76), .val (.ref b87), .val (.ref b95), .val (.ref b95), .val (.int (1 : Int32)), .val (.ref b95), .val (.int q0), .unset, .unset]) rfl kq)
    have K211 : Go p e below T124 (mkF m 99 #[.val (.int q0), .val (.int q1), .val (.int q2), .val (.int q3), .val (.ref b76), .val (.ref b87), .val (.ref b95), .val (.ref b95), .val (.int (1 : Int32)), .val (.ref b95), .val (.int q0), .unset, .unset] [(.int (1 : Int32))]) G := fun tq kq => K210 tq (XS.iload X124.here hx rfl (hb hby at_97) rfl kq)
    have K212 : Go p e below T124 (mkF m 102 #[.val (.int q0), .val (.int q1), .val (.int q2), .val (.int q3), .val (.ref b76), .val (.ref b87), .val (.ref b95), .val (.ref b95), .val (.int (1 : Int32)), .val (.ref b95), .val (.int q0), .unset, .unset] []) G := fun tq kq => K211 tq (XS.ifNo X124.here hx rfl (hb hby at_99) rfl ((if0 _ _).trans (feq (by decide : ¬ ((1 : Int32) = (0 : Int32)))).1) kq)
    have K213 : Go p e below T124 (mkF m 104 #[.val (.int q0), .val (.int q1), .val (.int q2), .val (.int q3), .val (.ref b76), .val (.ref b87), .val (.ref b95), .val (.ref b95), .val (.int (1 : Int32)), .val (.ref b95), .val (.int q0), .unset, .unset] [(.ref b95)]) G := fun tq kq => K212 tq (XS.aload X124.here hx rfl (hb hby at_102) rfl rfl kq)
    have K214 : Go p e below T124 (mkF m 106 #[.val (.int q0), .val (.int q1), .val (.int q2), .val (.int q3), .val (.ref b76), .val (.ref b87), .val (.ref b95), .val (.ref b95), .val (.int (1 : Int32)), .val (.ref b95), .val (.int q0), .unset, .unset] [(.ref b95), (.ref b95)]) G := fun tq kq => K213 tq (XS.aload X124.here hx rfl (hb hby at_104) rfl rfl kq)
    have K215 : Go p e below T124 (mkF m 109 #[.val (.int q0), .val (.int q1), .val (.int q2), .val (.int q3), .val (.ref b76), .val (.ref b87), .val (.ref b95), .val (.ref b95), .val (.int (1 : Int32)), .val (.ref b95), .val (.int q0), .unset, .unset] []) G := fun tq kq => K214 tq (Jvm.RoadKit.acmp (g := (mkF m 106 #[.val (.int q0), .val (.int q1), .val (.int q2), .val (.int q3), .val (.ref b76), .val (.ref b87), .val (.ref b95), .val (.ref b95), .val (.int (1 : Int32)), .val (.ref b95), .val (.int q0), .unset, .unset] [(.ref b95), (.ref b95)])) X124 hx rfl rfl rfl (pc0 := 106) (pc' := 109) (same := true) rfl (hb hby at_106) rfl (decide_eq_true rfl) (by decide) (by decide) kq)
    have K216 : Go p e below T124 (mkF m 111 #[.val (.int q0), .val (.int q1), .val (.int q2), .val (.int q3), .val (.ref b76), .val (.ref b87), .val (.ref b95), .val (.ref b95), .val (.int (1 : Int32)), .val (.ref b95), .val (.int q0), .unset, .unset] [(.ref b95)]) G := fun tq kq => K215 tq (XS.aload X124.here hx rfl (hb hby at_109) rfl rfl kq)
    obtain ⟨T217, X217, e217, st217⟩ := getF X124 hx hZ hown (host := "") (Or.inl (hW 66 _ rfl)) Via.refl rfl FL124q (g := (mkF m 111 #[.val (.int q0), .val (.int q1), .val (.int q2), .val (.int q3), .val (.ref b76), .val (.ref b87), .val (.ref b95), .val (.ref b95), .val (.int (1 : Int32)), .val (.ref b95), .val (.int q0), .unset, .unset] [(.ref b95)])) rfl rfl (hb hby at_111)
    have K218 : Go p e below T217 (mkF m 114 #[.val (.int q0), .val (.int q1), .val (.int q2), .val (.int q3), .val (.ref b76), .val (.ref b87), .val (.ref b95), .val (.ref b95), .val (.int (1 : Int32)), .val (.ref b95), .val (.int q0), .unset, .unset] [(.int q0)]) G := fun tq kq => K216 tq (st217 tq kq)
    have K219 : Go p e below T217 (mkF m 116 #[.val (.int q0), .val (.int q1), .val (.int q2), .val (.int q3), .val (.ref b76), .val (.ref b87), .val (.ref b95), .val (.ref b95), .val (.int (1 : Int32)), .val (.ref b95), .val (.int q0), .unset, .unset] [(.int q0), (.int q0)]) G := fun tq kq => K218 tq (XS.iload X217.here hx rfl (hb hby at_114) rfl kq)
    have K220 : Go p e below T217 (mkF m 119 #[.val (.int q0), .val (.int q1), .val (.int q2), .val (.int q3), .val (.ref b76), .val (.ref b87), .val (.ref b95), .val (.ref b95), .val (.int (1 : Int32)), .val (.ref b95), .val (.int q0), .unset, .unset] []) G := fun tq kq => K219 tq (XS.icmpNo X217.here hx rfl (hb hby at_116) rfl ((teq (rfl : q0 = q0)).2) kq)
    have K221 : Go p e below T217 (mkF m 120 #[.val (.int q0), .val (.int q1), .val (.int q2), .val (.int q3), .val (.ref b76), .val (.ref b87), .val (.ref b95), .val (.ref b95), .val (.int (1 : Int32)), .val (.ref b95), .val (.int q0), .unset, .unset] [(.int (1 : Int32))]) G := fun tq kq => K220 tq (XS.iconst X217.here hx rfl (hb hby at_119) kq)
    have K222 : Go p e below T217 (mkF m 124 #[.val (.int q0), .val (.int q1), .val (.int q2), .val (.int q3), .val (.ref b76), .val (.ref b87), .val (.ref b95), .val (.ref b95), .val (.int (1 : Int32)), .val (.ref b95), .val (.int q0), .unset, .unset] [(.int (1 : Int32))]) G := fun tq kq => K221 tq (XS.goto X217.here hx rfl (pc0 := 120) (pc' := 124) rfl (hb hby at_120) (by decide) (by decide) kq)
    have K223 : Go p e below T217 (mkF m 126 #[.val (.int q0), .val (.int q1), .val (.int q2), .val (.int q3), .val (.ref b76), .val (.ref b87), .val (.ref b95), .val (.ref b95), .val (.int (1 : Int32)), .val (.ref b95), .val (.int q0), .unset, .unset] []) G := fun tq kq => K222 tq (XS.istore X217.here hx rfl (hb hby at_124) rfl (l' := #[.val (.int q0), .val (.int q1), .val (.int q2), .val (.int q3), .val (.ref b76), .val (.ref b87), .val (.ref b95), .val (.ref b95), .val (.int (1 : Int32)), .val (.ref b95), .val (.int q0), .unset, .unset]) rfl kq)
    have K224 : Go p e below T217 (mkF m 128 #[.val (.int q0), .val (.int q1), .val (.int q2), .val (.int q3), .val (.ref b76), .val (.ref b87), .val (.ref b95), .val (.ref b95), .val (.int (1 : Int32)), .val (.ref b95), .val (.int q0), .unset, .unset] [(.ref b95)]) G := fun tq kq => K223 tq (XS.aload X217.here hx rfl (hb hby at_126) rfl rfl kq)
    have K225 : Go p e below T217 (mkF m 129 #[.val (.int q0), .val (.int q1), .val (.int q2), .val (.int q3), .val (.ref b76), .val (.ref b87), .val (.ref b95), .val (.ref b95), .val (.int (1 : Int32)), .val (.ref b95), .val (.int q0), .unset, .unset] [(.int q2), (.ref b95)]) G := fun tq kq => K224 tq (XS.iloadN X217.here hx rfl (hb hby at_128) rfl kq)
    obtain ⟨cq226, kq226, q226a, q226b, q226c⟩ := isOf hZ e217 E124q
    obtain ⟨v226, _, ⟨T226, L226, k226, n226⟩, -, X226, ⟨Lc226, hQ226, l226, y226, z226⟩, st226⟩ := X217.virtualBack hx (y := (⟨"com/example/goalpost/goalpost/runtime/NotSupported", "at", "(I)Lcom/example/goalpost/goalpost/runtime/NotSupported;"⟩ : MethodName)) (z := (⟨"com/example/goalpost/goalpost/runtime/NotSupported", "at", "(I)Lcom/example/goalpost/goalpost/runtime/NotSupported;"⟩ : MethodName)) hown (mvT hZ (hW 68 _ rfl)) (mvT hZ (hW 69 _ rfl)) (notFace_of_selects (args := #[]) (mvT hZ (hW 71 _ rfl))) (mvT hZ (hW 71 _ rfl)) (mvT hZ (hW 70 _ rfl)) (by decide) (backOf (W := 0) (rmAt l Z a0 hw [] b95 q2 b87 q0 T124.heap n0 (Nat.le_trans (Nat.le_trans (Nat.le_trans (Nat.le_trans (Nat.le_trans (Nat.le_trans (Nat.le_trans (Nat.le_trans Z0 E76.1) (Keep.of_wr W85).1) E87.1) K92q.1) E95.1) K99q.1) K108q.1) K124q.1) FW124q FL124q E124q ge_b95) hZ (hW 72 _ rfl) (hW 32 _ rfl) (by decide) (by decide)) q226a q226c (g := (mkF m 129 #[.val (.int q0), .val (.int q1), .val (.int q2), .val (.int q3), .val (.ref b76), .val (.ref b87), .val (.ref b95), .val (.ref b95), .val (.int (1 : Int32)), .val (.ref b95), .val (.int q0), .unset, .unset] [(.int q2), (.ref b95)])) rfl (by rw [hml]; rfl) (Steps.refl _) (argsL := [(.int q2)]) (rest := []) (lenOf pd_74 rfl) rfl (by show 2 * 0 + _ ≤ _; exact Nat.le_of_eq rfl) (hb hby at_129) (fun _ _ => ⟨rfl, e217, (by decide : 4 + 0 ≤ _), (by decide : 14 + 0 ≤ _)⟩)
    dsimp only [Pt.U, Pt.locs, Pt.cells, Pt.slots] at X226 l226 y226 z226 st226 hQ226
    subst l226 y226 z226
    rw [QAt, if_neg hc125] at hQ226
    obtain ⟨rfl, N226q, K226q, E226q, FW226q, FL226q⟩ := hQ226
    have N226 := Fr.app N124 N226q
    have K227 : Go p e below T226 (mkF m 132 #[.val (.int q0), .val (.int q1), .val (.int q2), .val (.int q3), .val (.ref b76), .val (.ref b87), .val (.ref b95), .val (.ref b95), .val (.int (1 : Int32)), .val (.ref b95), .val (.int q0), .unset, .unset] [(.ref b95)]) G := fun tq kq => K225 tq (st226.trans kq)
    have K228 : Go p e below T226 (mkF m 134 #[.val (.int q0), .val (.int q1), .val (.int q2), .val (.int q3), .val (.ref b76), .val (.ref b87), .val (.ref b95), .val (.ref b95), .val (.int (1 : Int32)), .val (.ref b95), .val (.int q0), .val (.ref b95), .unset] []) G := fun tq kq => K227 tq (XS.astore X226.here hx rfl (hb hby at_132) rfl rfl (l' := #[.val (.int q0), .val (.int q1), .val (.int q2), .val (.int q3), .val (.ref b76), .val (.ref b87), .val (.ref b95), .val (.ref b95), .val (.int (1 : Int32)), .val (.ref b95), .val (.int q0), .val (.ref b95), .unset]) rfl kq)
    have K229 : Go p e below T226 (mkF m 135 #[.val (.int q0), .val (.int q1), .val (.int q2), .val (.int q3), .val (.ref b76), .val (.ref b87), .val (.ref b95), .val (.ref b95), .val (.int (1 : Int32)), .val (.ref b95), .val (.int q0), .val (.ref b95), .unset] [(.int q0)]) G := fun tq kq => K228 tq (XS.iloadN X226.here hx rfl (hb hby at_134) rfl kq)
    have K230 : Go p e below T226 (mkF m 138 #[.val (.int q0), .val (.int q1), .val (.int q2), .val (.int q3), .val (.ref b76), .val (.ref b87), .val (.ref b95), .val (.ref b95), .val (.int (1 : Int32)), .val (.ref b95), .val (.int q0), .val (.ref b95), .unset] []) G := fun tq kq => K229 tq (XS.ifNo X226.here hx rfl (hb hby at_135) rfl ((if0 _ _).trans (feq hc125).1) kq)
    have K231 : Go p e below T226 (mkF m 139 #[.val (.int q0), .val (.int q1), .val (.int q2), .val (.int q3), .val (.ref b76), .val (.ref b87), .val (.ref b95), .val (.ref b95), .val (.int (1 : Int32)), .val (.ref b95), .val (.int q0), .val (.ref b95), .unset] [(.int q0)]) G := fun tq kq => K230 tq (XS.iloadN X226.here hx rfl (hb hby at_138) rfl kq)
    have K232 : Go p e below T226 (mkF m 151 #[.val (.int q0), .val (.int q1), .val (.int q2), .val (.int q3), .val (.ref b76), .val (.ref b87), .val (.ref b95), .val (.ref b95), .val (.int (1 : Int32)), .val (.ref b95), .val (.int q0), .val (.ref b95), .unset] [(.int q0)]) G := fun tq kq => K231 tq (XS.goto X226.here hx rfl (pc0 := 139) (pc' := 151) rfl (hb hby at_139) (by decide) (by decide) kq)
    have K233 : Go p e below T226 (mkF m 153 #[.val (.int q0), .val (.int q1), .val (.int q2), .val (.int q3), .val (.ref b76), .val (.ref b87), .val (.ref b95), .val (.ref b95), .val (.int (1 : Int32)), .val (.ref b95), .val (.int q0), .val (.ref b95), .val (.int q0)] []) G := fun tq kq => K232 tq (XS.istore X226.here hx rfl (hb hby at_151) rfl (l' := #[.val (.int q0), .val (.int q1), .val (.int q2), .val (.int q3), .val (.ref b76), .val (.ref b87), .val (.ref b95), .val (.ref b95), .val (.int (1 : Int32)), .val (.ref b95), .val (.int q0), .val (.ref b95), .val (.int q0)]) rfl kq)
    have K234 : Go p e below T226 (mkF m 155 #[.val (.int q0), .val (.int q1), .val (.int q2), .val (.int q3), .val (.ref b76), .val (.ref b87), .val (.ref b95), .val (.ref b95), .val (.int (1 : Int32)), .val (.ref b95), .val (.int q0), .val (.ref b95), .val (.int q0)] [(.int (1 : Int32))]) G := fun tq kq => K233 tq (XS.iload X226.here hx rfl (hb hby at_153) rfl kq)
    have K235 : Go p e below T226 (mkF m 158 #[.val (.int q0), .val (.int q1), .val (.int q2), .val (.int q3), .val (.ref b76), .val (.ref b87), .val (.ref b95), .val (.ref b95), .val (.int (1 : Int32)), .val (.ref b95), .val (.int q0), .val (.ref b95), .val (.int q0)] []) G := fun tq kq => K234 tq (XS.ifNo X226.here hx rfl (hb hby at_155) rfl ((if0 _ _).trans (feq (by decide : ¬ ((1 : Int32) = (0 : Int32)))).1) kq)
    have K236 : Go p e below T226 (mkF m 160 #[.val (.int q0), .val (.int q1), .val (.int q2), .val (.int q3), .val (.ref b76), .val (.ref b87), .val (.ref b95), .val (.ref b95), .val (.int (1 : Int32)), .val (.ref b95), .val (.int q0), .val (.ref b95), .val (.int q0)] [(.ref b95)]) G := fun tq kq => K235 tq (XS.aload X226.here hx rfl (hb hby at_158) rfl rfl kq)
    have K237 : Go p e below T226 (mkF m 162 #[.val (.int q0), .val (.int q1), .val (.int q2), .val (.int q3), .val (.ref b76), .val (.ref b87), .val (.ref b95), .val (.ref b95), .val (.int (1 : Int32)), .val (.ref b95), .val (.int q0), .val (.ref b95), .val (.int q0)] [(.ref b95), (.ref b95)]) G := fun tq kq => K236 tq (XS.aload X226.here hx rfl (hb hby at_160) rfl rfl kq)
    have K238 : Go p e below T226 (mkF m 165 #[.val (.int q0), .val (.int q1), .val (.int q2), .val (.int q3), .val (.ref b76), .val (.ref b87), .val (.ref b95), .val (.ref b95), .val (.int (1 : Int32)), .val (.ref b95), .val (.int q0), .val (.ref b95), .val (.int q0)] []) G := fun tq kq => K237 tq (Jvm.RoadKit.acmp (g := (mkF m 162 #[.val (.int q0), .val (.int q1), .val (.int q2), .val (.int q3), .val (.ref b76), .val (.ref b87), .val (.ref b95), .val (.ref b95), .val (.int (1 : Int32)), .val (.ref b95), .val (.int q0), .val (.ref b95), .val (.int q0)] [(.ref b95), (.ref b95)])) X226 hx rfl rfl rfl (pc0 := 162) (pc' := 165) (same := true) rfl (hb hby at_162) rfl (decide_eq_true rfl) (by decide) (by decide) kq)
    have K239 : Go p e below T226 (mkF m 167 #[.val (.int q0), .val (.int q1), .val (.int q2), .val (.int q3), .val (.ref b76), .val (.ref b87), .val (.ref b95), .val (.ref b95), .val (.int (1 : Int32)), .val (.ref b95), .val (.int q0), .val (.ref b95), .val (.int q0)] [(.ref b95)]) G := fun tq kq => K238 tq (XS.aload X226.here hx rfl (hb hby at_165) rfl rfl kq)
    obtain ⟨T240, X240, e240, st240⟩ := getF X226 hx hZ hown (host := "") (Or.inl (hW 66 _ rfl)) Via.refl rfl FL226q (g := (mkF m 167 #[.val (.int q0), .val (.int q1), .val (.int q2), .val (.int q3), .val (.ref b76), .val (.ref b87), .val (.ref b95), .val (.ref b95), .val (.int (1 : Int32)), .val (.ref b95), .val (.int q0), .val (.ref b95), .val (.int q0)] [(.ref b95)])) rfl rfl (hb hby at_167)
    have K241 : Go p e below T240 (mkF m 170 #[.val (.int q0), .val (.int q1), .val (.int q2), .val (.int q3), .val (.ref b76), .val (.ref b87), .val (.ref b95), .val (.ref b95), .val (.int (1 : Int32)), .val (.ref b95), .val (.int q0), .val (.ref b95), .val (.int q0)] [(.int q0)]) G := fun tq kq => K239 tq (st240 tq kq)
    have K242 : Go p e below T240 (mkF m 172 #[.val (.int q0), .val (.int q1), .val (.int q2), .val (.int q3), .val (.ref b76), .val (.ref b87), .val (.ref b95), .val (.ref b95), .val (.int (1 : Int32)), .val (.ref b95), .val (.int q0), .val (.ref b95), .val (.int q0)] [(.int q0), (.int q0)]) G := fun tq kq => K241 tq (XS.iload X240.here hx rfl (hb hby at_170) rfl kq)
    have K243 : Go p e below T240 (mkF m 175 #[.val (.int q0), .val (.int q1), .val (.int q2), .val (.int q3), .val (.ref b76), .val (.ref b87), .val (.ref b95), .val (.ref b95), .val (.int (1 : Int32)), .val (.ref b95), .val (.int q0), .val (.ref b95), .val (.int q0)] []) G := fun tq kq => K242 tq (XS.icmpNo X240.here hx rfl (hb hby at_172) rfl ((teq (rfl : q0 = q0)).2) kq)
    have K244 : Go p e below T240 (mkF m 177 #[.val (.int q0), .val (.int q1), .val (.int q2), .val (.int q3), .val (.ref b76), .val (.ref b87), .val (.ref b95), .val (.ref b95), .val (.int (1 : Int32)), .val (.ref b95), .val (.int q0), .val (.ref b95), .val (.int q0)] [(.ref b95)]) G := fun tq kq => K243 tq (XS.aload X240.here hx rfl (hb hby at_175) rfl rfl kq)
    obtain ⟨T245, X245, e245, st245⟩ := getF X240 hx hZ hown (host := "") (Or.inl (hW 74 _ rfl)) Via.refl e240 FW226q (g := (mkF m 177 #[.val (.int q0), .val (.int q1), .val (.int q2), .val (.int q3), .val (.ref b76), .val (.ref b87), .val (.ref b95), .val (.ref b95), .val (.int (1 : Int32)), .val (.ref b95), .val (.int q0), .val (.ref b95), .val (.int q0)] [(.ref b95)])) rfl rfl (hb hby at_177)
    have K246 : Go p e below T245 (mkF m 180 #[.val (.int q0), .val (.int q1), .val (.int q2), .val (.int q3), .val (.ref b76), .val (.ref b87), .val (.ref b95), .val (.ref b95), .val (.int (1 : Int32)), .val (.ref b95), .val (.int q0), .val (.ref b95), .val (.int q0)] [(.ref b87)]) G := fun tq kq => K244 tq (st245 tq kq)
    have K247 : Go p e below T245 (mkF m 182 #[.val (.int q0), .val (.int q1), .val (.int q2), .val (.int q3), .val (.ref b76), .val (.ref b87), .val (.ref b95), .val (.ref b95), .val (.int (1 : Int32)), .val (.ref b95), .val (.int q0), .val (.ref b95), .val (.int q0)] [(.ref b87), (.ref b87)]) G := fun tq kq => K246 tq (XS.aload X245.here hx rfl (hb hby at_180) rfl rfl kq)
    have K248 : Go p e below T245 (mkF m 185 #[.val (.int q0), .val (.int q1), .val (.int q2), .val (.int q3), .val (.ref b76), .val (.ref b87), .val (.ref b95), .val (.ref b95), .val (.int (1 : Int32)), .val (.ref b95), .val (.int q0), .val (.ref b95), .val (.int q0)] []) G := fun tq kq => K247 tq (Jvm.RoadKit.acmp (g := (mkF m 182 #[.val (.int q0), .val (.int q1), .val (.int q2), .val (.int q3), .val (.ref b76), .val (.ref b87), .val (.ref b95), .val (.ref b95), .val (.int (1 : Int32)), .val (.ref b95), .val (.int q0), .val (.ref b95), .val (.int q0)] [(.ref b87), (.ref b87)])) X245 hx rfl rfl rfl (pc0 := 182) (pc' := 185) (same := true) rfl (hb hby at_182) rfl (decide_eq_true rfl) (by decide) (by decide) kq)
    have K249 : Go p e below T245 (mkF m 186 #[.val (.int q0), .val (.int q1), .val (.int q2), .val (.int q3), .val (.ref b76), .val (.ref b87), .val (.ref b95), .val (.ref b95), .val (.int (1 : Int32)), .val (.ref b95), .val (.int q0), .val (.ref b95), .val (.int q0)] [(.int (1 : Int32))]) G := fun tq kq => K248 tq (XS.iconst X245.here hx rfl (hb hby at_185) kq)
    have K250 : Go p e below T245 (mkF m 190 #[.val (.int q0), .val (.int q1), .val (.int q2), .val (.int q3), .val (.ref b76), .val (.ref b87), .val (.ref b95), .val (.ref b95), .val (.int (1 : Int32)), .val (.ref b95), .val (.int q0), .val (.ref b95), .val (.int q0)] [(.int (1 : Int32))]) G := fun tq kq => K249 tq (XS.goto X245.here hx rfl (pc0 := 186) (pc' := 190) rfl (hb hby at_186) (by decide) (by decide) kq)
    have K251 : Go p e below T245 (mkF m 192 #[.val (.int q0), .val (.int q1), .val (.int q2), .val (.int q3), .val (.ref b76), .val (.ref b87), .val (.ref b95), .val (.ref b95), .val (.int (1 : Int32)), .val (.ref b95), .val (.int q0), .val (.ref b95), .val (.int q0)] []) G := fun tq kq => K250 tq (XS.istore X245.here hx rfl (hb hby at_190) rfl (l' := #[.val (.int q0), .val (.int q1), .val (.int q2), .val (.int q3), .val (.ref b76), .val (.ref b87), .val (.ref b95), .val (.ref b95), .val (.int (1 : Int32)), .val (.ref b95), .val (.int q0), .val (.ref b95), .val (.int q0)]) rfl kq)
    have K252 : Go p e below T245 (mkF m 194 #[.val (.int q0), .val (.int q1), .val (.int q2), .val (.int q3), .val (.ref b76), .val (.ref b87), .val (.ref b95), .val (.ref b95), .val (.int (1 : Int32)), .val (.ref b95), .val (.int q0), .val (.ref b95), .val (.int q0)] [(.int (1 : Int32))]) G := fun tq kq => K251 tq (XS.iload X245.here hx rfl (hb hby at_192) rfl kq)
    obtain ⟨fs, hr, hrun, hended, hWW, hsame⟩ := X245.leave (v := some (.int (1 : Int32))) (fun h => by rw [Bd.returns] at h; cases h)
    refine ⟨_, _, hG _ (K252 _ (retN X245 hx (t := .boolean) Bd.returns (by simp) (hb hby at_194) hr)), hrun, hended, _, _, rfl, ?_, ⟨_, rfl⟩, hWW, hsame.mono (by decide) (by decide)⟩
    show Q0 Z q0 q1 q2 q3 cz us ss h0 n0 _ T245.heap _
    rw [e245]
    exact ⟨rfl, N226⟩
set_option maxRecDepth 65536 in
set_option maxHeartbeats 40000000 in
theorem comes_1 {Post : Tables → Env → Array Value → State → Outcome → State → Prop} (hpost : ∀ tb e args s v u, (limb_1_1.after args s (.returned v) u = true ∧ limb_1_2.after args s (.returned v) u = true ∧ True) → FrameEnd s (.returned v) u (Jvm.fieldLocs frame_1_writes args s ++ Jvm.arrayLocs frame_1_arrays args s ++ Jvm.staticLocs frame_1_statics s) 16 128 → Post tb e args s (.returned v) u) :
    ArmFor flags0 classFile x code maxLocals ret World_1 tables_1 room_1 Calls_1 rest_1 Pre_1 Post := by
  intro l hfl _ _ p e ha hc hk s m args below hf hA hF happ hP
  obtain ⟨hcalls, hrest, hpre⟩ := hP
  obtain ⟨-, -, -, hnamed, -, -, -, hat⟩ := (Spec.applies_iff hf).mp happ
  obtain ⟨hg, hn⟩ := and_e (Cond.before_iff.mp (show (Jvm.Cond.and given_1 narrow_1).before args s = true from hpre))
  obtain ⟨gg1, gg2⟩ := and_e hg
  obtain ⟨gg3, gg4⟩ := and_e gg2
  obtain ⟨gg5, gg6⟩ := and_e gg4
  obtain ⟨gg7, gg8⟩ := and_e gg6
  obtain ⟨w0, w1, w2, w3, rfl⟩ : ∃ w0 w1 w2 w3 : Value, args = #[w0, w1, w2, w3] := by
    have hs : args.size = 4 := by simpa [Cond.value, given_1] using gg1
    obtain ⟨L⟩ := args
    match L, hs with
    | [w0, w1, w2, w3], _ => exact ⟨w0, w1, w2, w3, rfl⟩
  have hw := fun d (hd : d ∈ tables_1) => atoms_spec (ws := Jvm.Cond.code x code maxLocals ret :: tables_1) hat d (List.mem_cons_of_mem _ hd)
  have hW : ∀ (k : Nat) (d : Jvm.Cond), tables_1[k]? = some d → d.before _ s = true := fun k d h => hw d (List.mem_of_getElem? h)
  have hfit : Fit s := fun {y c} hc i hi => by
    obtain ⟨ha, rfl⟩ := Array.getElem?_eq_some_iff.mp hc
    have q := List.all_eq_true.mp ((Array.all_eq_true_iff_forall_mem.mp hF) _ (Array.getElem_mem ha)) i (List.mem_range.mpr hi)
    simpa [Array.getElem?_eq_getElem hi] using q
  obtain ⟨hsets, hown0⟩ := atoms_of _ (rest_1_c_eq ▸ (show rest_1_c.before _ s = true from hrest))
  have hr0 := Cond.before_iff.mp hown0
  obtain ⟨i0, ei0⟩ := is_v gg3
  obtain rfl : w0 = (.int i0) := Option.some.inj ei0
  obtain ⟨i1, ei1⟩ := is_v gg5
  obtain rfl : w1 = (.int i1) := Option.some.inj ei1
  obtain ⟨i2, ei2⟩ := is_v gg7
  obtain rfl : w2 = (.int i2) := Option.some.inj ei2
  obtain ⟨i3, ei3⟩ := is_v gg8
  obtain rfl : w3 = (.int i3) := Option.some.inj ei3
  have hS : ∀ (k : Nat) (d : Jvm.Cond), jdkStatics_1[k]? = some d → d.before _ s = true := fun k d h => hsets d (List.mem_of_getElem? h)
  obtain ⟨cz, ecz⟩ := is_v (Cond.before_iff.mp (hS 1 _ rfl))
  have S_cs : Sta s s.heap "java/lang/String" "COMPACT_STRINGS" "Z" (.int cz) := Sta.start ecz (Or.inl (hS 0 _ rfl))
  have hcz : ¬ (cz = (0 : Int32)) := gotF (Cond.eq_ints ecz (Term.int_eval (0))) (not_v (Cond.before_iff.mp (hS 2 _ rfl)))
  obtain ⟨us, eus⟩ := arr_v (Cond.before_iff.mp (hS 17 _ rfl))
  obtain ⟨ss, ess⟩ := exa_v (Cond.before_iff.mp (hS 22 _ rfl))
  have S_us : Sta s s.heap "java/lang/Throwable" "UNASSIGNED_STACK" "[Ljava/lang/StackTraceElement;" (.ref us) := Sta.start eus (Or.inl (hS 15 _ rfl))
  have S_ss : Sta s s.heap "java/lang/Throwable" "SUPPRESSED_SENTINEL" "Ljava/util/List;" (.ref ss) := Sta.start ess (Or.inl (hS 20 _ rfl))
  obtain ⟨n, o, h1, h2, h3, _, L, rfl, ⟨rfl, N⟩, hq⟩ := rm0 l s _ hw tables_1 i0 i1 i2 i3 cz us ss s.heap s.heap.size (Nat.le_refl _) (Old.start s) S_cs hcz S_us S_ss p e ha hc hk s m _ below hf ((Spec.applies_iff_loose hf).mp happ).1 ⟨rfl, State.Warmed39.refl s, rfl⟩ trivial
  refine ⟨n, _, h1, h2, h3, hpost _ _ _ _ _ _ ⟨Cond.after_iff.mpr rfl, Cond.after_iff.mpr (eq_i res_at (Term.int_eval (1)) rfl), trivial⟩ ⟨hq.1, hq.2.1, (hq.2.2.sift fun y hy => Or.inr (N y hy)).mono (by decide) (by decide)⟩⟩
theorem main_1_1 : Claimed_1_1 := comes_1 fun _ _ _ _ _ _ h hF => ⟨h.1, hF⟩
theorem main_1_2 : Claimed_1_2 := comes_1 fun _ _ _ _ _ _ h hF => ⟨h.2.1, hF⟩
end Jvm.Pilot.@@N@@
namespace Jvm.Pilot.@@N@@
open Jvm Jvm.ClassFile Sem Op Lib Jvm.Free Jvm.Stand Jvm.Pilot.@@N@@.Jvm.D
/-! MADE BY PROGRAM (witnessworld.py) out of the Statement's table words and the real class files: 35 classes; the members and pool entries that the words name. The judged class is class 1, her method 1. -/
namespace start1
open Jvm.ClassFile
def u (s : String) : CpInfo := .utf8 (stringToUtf16 s)
/-- a pool by its gaps: so many unusable entries, then the entry; so many at the end -/
def gap : Nat → List CpInfo → List CpInfo
  | 0, r => r
  | n + 1, r => .unusable :: gap n r
def poolList (es : List (Nat × CpInfo)) (last : Nat) : List CpInfo := es.foldr (fun e r => gap e.1 (e.2 :: r)) (gap last [])
def pool (es : List (Nat × CpInfo)) (last : Nat) : Array CpInfo := ⟨poolList es last⟩
def fileOf (pool : Array CpInfo) (this : Nat) (attrs : Array Attribute := #[]) (ms : Array MethodInfo := #[]) (fl : Nat := 33) (sup : Nat := 0) (ifs : Array Nat := #[]) (fds : Array FieldInfo := #[]) : ClassFile where
  minorVersion := 0
  majorVersion := 65
  constantPool := pool
  accessFlags := fl
  thisClass := this
  superClass := sup
  interfaces := ifs
  fields := fds
  methods := ms
  attributes := attrs
def plain (name : String) (sup : Option ClassId) : Class where
  name := name
  kind := .ordinary
  loader := none
  accessFlags := 33
  super := sup
  interfaces := #[]
  cf := none
  fields := #[]
  methods := #[]
  instanceTypes := #[]
  staticTypes := #[]
  resolved := #[]
  callSites := []
  init := .initialized
  statics := none
  mirror := none

def pool0 : Array CpInfo := pool [(5, u "<init>"), (0, u "()V"), (1, .class_ 10), (1, u "java/lang/Object")] 113

def k0c0 : Code := { maxStack := 0, maxLocals := 1, code := object_method_1_code, exceptionTable := #[], attributes := #[] }
def k0m0 : Method := { name := "<init>", desc := "()V", sig := { parameters := [], returnType := none }, accessFlags := 1, code := some k0c0 }
/-- java/lang/Object -/
def k0 : Class := { plain "java/lang/Object" none with
  accessFlags := 33
  interfaces := #[]
  cf := some (fileOf pool0 8 #[] #[{ accessFlags := 1, nameIndex := 5, descriptorIndex := 6, attributes := #[] }] 33 0 #[] #[])
  fields := #[]
  methods := #[k0m0]
  instanceTypes := #[]
  staticTypes := #[]
  resolved := Array.replicate 124 none
  statics := none }

def pool1 : Array CpInfo := pool [(2, .class_ 4), (1, u "java/lang/Object"), (0, u "<init>"), (0, u "()V"), (0, .class_ 8), (0, u "java/lang/String"), (0, .methodref 7 10), (0, .nameAndType 5 11), (0, u "([C)V"), (0, .class_ 13), (0, u "com/example/goalpost/goalpost/runtime/NotSupported"), (0, .methodref 12 15), (0, .nameAndType 5 16), (0, u "(Ljava/lang/String;)V"), (0, .fieldref 12 18), (0, .nameAndType 19 20), (0, u "line"), (0, u "I"), (0, .methodref 12 22), (0, .nameAndType 23 24), (0, u "at"), (0, u "(I)Lcom/example/goalpost/goalpost/runtime/NotSupported;"), (0, .fieldref 12 26), (0, .nameAndType 27 28), (0, u "what"), (0, u "Ljava/lang/String;"), (0, .class_ 30), (0, u "com/example/goalpost/goalpost/runtime/NotSupportedAtPinLaw"), (2, u "law"), (0, u "(IIII)Z")] 5

def k1m0 : Method := { name := "<init>", desc := "()V", sig := { parameters := [], returnType := none }, accessFlags := 2, code := none }
def k1c1 : Code := { maxStack := 4, maxLocals := 13, code := code, exceptionTable := #[], attributes := #[] }
def k1m1 : Method := { name := "law", desc := "(IIII)Z", sig := { parameters := [.int, .int, .int, .int], returnType := some .boolean }, accessFlags := 9, code := some k1c1 }
/-- com/example/goalpost/goalpost/runtime/NotSupportedAtPinLaw -/
def k1 : Class := { plain "com/example/goalpost/goalpost/runtime/NotSupportedAtPinLaw" (some 0) with
  accessFlags := 49
  interfaces := #[]
  cf := some (fileOf pool1 29 #[] #[{ accessFlags := 2, nameIndex := 5, descriptorIndex := 6, attributes := #[] }, { accessFlags := 9, nameIndex := 33, descriptorIndex := 34, attributes := #[] }] 49 2 #[] #[])
  fields := #[]
  methods := #[k1m0, k1m1]
  instanceTypes := #[]
  staticTypes := #[]
  resolved := Array.replicate 40 none
  statics := none }

def pool2 : Array CpInfo := pool [(1, .class_ 2), (0, u "java/io/Serializable"), (0, .class_ 4), (0, u "java/lang/Object")] 2

/-- java/io/Serializable -/
def k2 : Class := { plain "java/io/Serializable" (some 0) with
  accessFlags := 1537
  interfaces := #[]
  cf := some (fileOf pool2 1 #[] #[] 1537 3 #[] #[])
  fields := #[]
  methods := #[]
  instanceTypes := #[]
  staticTypes := #[]
  resolved := Array.replicate 7 none
  statics := none }

def pool3 : Array CpInfo := pool [(1, .class_ 2), (0, u "java/lang/Comparable"), (0, .class_ 4), (0, u "java/lang/Object")] 7

/-- java/lang/Comparable -/
def k3 : Class := { plain "java/lang/Comparable" (some 0) with
  accessFlags := 1537
  interfaces := #[]
  cf := some (fileOf pool3 1 #[] #[] 1537 3 #[] #[])
  fields := #[]
  methods := #[]
  instanceTypes := #[]
  staticTypes := #[]
  resolved := Array.replicate 12 none
  statics := none }

def pool4 : Array CpInfo := pool [(2, .class_ 4), (1, u "java/lang/CharSequence"), (42, .class_ 48), (0, u "java/lang/CharSequence$1CodePointIterator"), (10, .class_ 60), (0, u "java/lang/CharSequence$1CharIterator"), (5, .class_ 67), (0, u "java/lang/Object")] 63

/-- java/lang/CharSequence -/
def k4 : Class := { plain "java/lang/CharSequence" (some 0) with
  accessFlags := 1537
  interfaces := #[]
  cf := some (fileOf pool4 2 #[.nestMembers #[47, 59]] #[] 1537 66 #[] #[])
  fields := #[]
  methods := #[]
  instanceTypes := #[]
  staticTypes := #[]
  resolved := Array.replicate 131 none
  statics := none }

def pool5 : Array CpInfo := pool [(1, .class_ 2), (0, u "java/lang/constant/Constable"), (0, .class_ 4), (0, u "java/lang/Object")] 6

/-- java/lang/constant/Constable -/
def k5 : Class := { plain "java/lang/constant/Constable" (some 0) with
  accessFlags := 1537
  interfaces := #[]
  cf := some (fileOf pool5 1 #[] #[] 1537 3 #[] #[])
  fields := #[]
  methods := #[]
  instanceTypes := #[]
  staticTypes := #[]
  resolved := Array.replicate 11 none
  statics := none }

def pool6 : Array CpInfo := pool [(1, .class_ 2), (0, u "java/lang/constant/ConstantDesc"), (0, .class_ 4), (0, u "java/lang/Object")] 32

/-- java/lang/constant/ConstantDesc -/
def k6 : Class := { plain "java/lang/constant/ConstantDesc" (some 0) with
  accessFlags := 1537
  interfaces := #[]
  cf := some (fileOf pool6 1 #[] #[] 1537 3 #[] #[])
  fields := #[]
  methods := #[]
  instanceTypes := #[]
  staticTypes := #[]
  resolved := Array.replicate 37 none
  statics := none }

def pool7 : Array CpInfo := pool [(1, .methodref 2 3), (0, .class_ 4), (0, .nameAndType 5 6), (0, u "java/lang/Object"), (0, u "<init>"), (0, u "()V"), (2, .fieldref 10 11), (0, .class_ 12), (0, .nameAndType 13 14), (0, u "java/lang/String"), (0, u "value"), (0, u "[B"), (0, .fieldref 10 16), (0, .nameAndType 17 18), (0, u "coder"), (0, u "B"), (2, u "hash"), (0, u "I"), (2, u "hashIsZero"), (0, u "Z"), (0, .methodref 10 28), (0, .nameAndType 5 29), (0, u "([CIILjava/lang/Void;)V"), (8, .fieldref 10 39), (0, .nameAndType 40 26), (0, u "COMPACT_STRINGS"), (1, .class_ 44), (1, u "java/lang/StringUTF16"), (0, u "compress"), (1, .methodref 42 48), (0, .nameAndType 49 50), (0, u "coderFromArrayLen"), (0, u "([BI)B"), (126, .methodref 42 178), (0, .nameAndType 45 179), (0, u "([CII)[B"), (395, .class_ 576), (0, u "java/lang/CharSequence"), (22, u "CASE_INSENSITIVE_ORDER"), (0, u "Ljava/util/Comparator;"), (409, u "([C)V"), (90, u "serialPersistentFields"), (0, u "[Ljava/io/ObjectStreamField;"), (0, .class_ 1104), (0, u "java/lang/String$CaseInsensitiveComparator"), (1, .class_ 1107), (0, u "java/io/Serializable"), (0, .class_ 1109), (0, u "java/lang/Comparable"), (0, .class_ 1111), (0, u "java/lang/constant/Constable"), (0, .class_ 1113), (0, u "java/lang/constant/ConstantDesc"), (2, u "serialVersionUID"), (0, u "J"), (3, u "REPL"), (0, u "C"), (2, u "LATIN1"), (1, u "UTF16")] 323

def k7m0 : Method := { name := "<init>", desc := "()V", sig := { parameters := [], returnType := none }, accessFlags := 1, code := none }
def k7c1 : Code := { maxStack := 5, maxLocals := 2, code := jdk_42_method_3_code, exceptionTable := #[], attributes := #[] }
def k7m1 : Method := { name := "<init>", desc := "([C)V", sig := { parameters := [(.array .char)], returnType := none }, accessFlags := 1, code := some k7c1 }
def k7c2 : Code := { maxStack := 4, maxLocals := 6, code := jdk_42_method_149_code, exceptionTable := #[], attributes := #[] }
def k7m2 : Method := { name := "<init>", desc := "([CIILjava/lang/Void;)V", sig := { parameters := [(.array .char), .int, .int, (.object "java/lang/Void")], returnType := none }, accessFlags := 2, code := some k7c2 }
/-- java/lang/String -/
def k7 : Class := { plain "java/lang/String" (some 0) with
  accessFlags := 49
  interfaces := #[2, 3, 4, 5, 6]
  cf := some (fileOf pool7 10 #[.nestMembers #[1103]] #[{ accessFlags := 1, nameIndex := 5, descriptorIndex := 6, attributes := #[] }, { accessFlags := 1, nameIndex := 5, descriptorIndex := 1010, attributes := #[] }, { accessFlags := 2, nameIndex := 5, descriptorIndex := 29, attributes := #[] }] 49 2 #[1106, 1108, 575, 1110, 1112] #[{ accessFlags := 18, nameIndex := 13, descriptorIndex := 14, attributes := #[] }, { accessFlags := 18, nameIndex := 17, descriptorIndex := 18, attributes := #[] }, { accessFlags := 2, nameIndex := 21, descriptorIndex := 22, attributes := #[] }, { accessFlags := 2, nameIndex := 25, descriptorIndex := 26, attributes := #[] }, { accessFlags := 26, nameIndex := 1116, descriptorIndex := 1117, attributes := #[] }, { accessFlags := 24, nameIndex := 40, descriptorIndex := 26, attributes := #[] }, { accessFlags := 26, nameIndex := 1101, descriptorIndex := 1102, attributes := #[] }, { accessFlags := 26, nameIndex := 1121, descriptorIndex := 1122, attributes := #[] }, { accessFlags := 25, nameIndex := 599, descriptorIndex := 600, attributes := #[] }, { accessFlags := 24, nameIndex := 1125, descriptorIndex := 18, attributes := #[] }, { accessFlags := 24, nameIndex := 1127, descriptorIndex := 18, attributes := #[] }])
  fields := #[{ name := "value", type := (.array .byte), accessFlags := 18, slot := 0, constantValue := 0 }, { name := "coder", type := .byte, accessFlags := 18, slot := 1, constantValue := 0 }, { name := "hash", type := .int, accessFlags := 2, slot := 2, constantValue := 0 }, { name := "hashIsZero", type := .boolean, accessFlags := 2, slot := 3, constantValue := 0 }, { name := "serialVersionUID", type := .long, accessFlags := 26, slot := 0, constantValue := 0 }, { name := "COMPACT_STRINGS", type := .boolean, accessFlags := 24, slot := 1, constantValue := 0 }, { name := "serialPersistentFields", type := (.array (.object "java/io/ObjectStreamField")), accessFlags := 26, slot := 2, constantValue := 0 }, { name := "REPL", type := .char, accessFlags := 26, slot := 3, constantValue := 0 }, { name := "CASE_INSENSITIVE_ORDER", type := (.object "java/util/Comparator"), accessFlags := 25, slot := 4, constantValue := 0 }, { name := "LATIN1", type := .byte, accessFlags := 24, slot := 5, constantValue := 0 }, { name := "UTF16", type := .byte, accessFlags := 24, slot := 6, constantValue := 0 }]
  methods := #[k7m0, k7m1, k7m2]
  instanceTypes := #[(.array .byte), .byte, .int, .boolean]
  staticTypes := #[.long, .boolean, (.array (.object "java/io/ObjectStreamField")), .char, (.object "java/util/Comparator"), .byte, .byte]
  resolved := Array.replicate 1451 none
  statics := some 0 }

def pool8 : Array CpInfo := pool [(6, .class_ 8), (1, u "java/lang/Object"), (0, u "<init>"), (0, u "()V"), (1, .class_ 14), (1, u "java/lang/StringUTF16"), (31, u "$assertionsDisabled"), (0, u "Z"), (13, u "HI_BYTE_SHIFT"), (0, u "I"), (2, u "LO_BYTE_SHIFT"), (49, .methodref 12 116), (0, .nameAndType 117 118), (0, u "compress"), (0, u "([CI[BII)I"), (3, u "([CII)[B"), (138, u "coderFromArrayLen"), (0, u "([BI)B"), (106, .class_ 371), (1, u "java/lang/StringUTF16$LinesSpliterator"), (58, u "MAX_LENGTH"), (196, .class_ 628), (0, u "java/lang/StringUTF16$CodePointsSpliterator"), (0, .class_ 630), (0, u "java/lang/StringUTF16$CharsSpliterator")] 4

def k8m0 : Method := { name := "<init>", desc := "()V", sig := { parameters := [], returnType := none }, accessFlags := 0, code := none }
def k8c1 : Code := { maxStack := 2, maxLocals := 2, code := jdk_52_method_15_code, exceptionTable := #[], attributes := #[] }
def k8m1 : Method := { name := "coderFromArrayLen", desc := "([BI)B", sig := { parameters := [(.array .byte), .int], returnType := some .byte }, accessFlags := 8, code := some k8c1 }
def k8c2 : Code := { maxStack := 5, maxLocals := 6, code := jdk_52_method_16_code, exceptionTable := #[], attributes := #[] }
def k8m2 : Method := { name := "compress", desc := "([CII)[B", sig := { parameters := [(.array .char), .int, .int], returnType := some (.array .byte) }, accessFlags := 9, code := some k8c2 }
def k8c3 : Code := { maxStack := 3, maxLocals := 7, code := jdk_52_method_21_code, exceptionTable := #[], attributes := #[] }
def k8m3 : Method := { name := "compress", desc := "([CI[BII)I", sig := { parameters := [(.array .char), .int, (.array .byte), .int, .int], returnType := some .int }, accessFlags := 9, code := some k8c3 }
/-- java/lang/StringUTF16 -/
def k8 : Class := { plain "java/lang/StringUTF16" (some 0) with
  accessFlags := 48
  interfaces := #[]
  cf := some (fileOf pool8 12 #[.nestMembers #[627, 629, 369]] #[{ accessFlags := 0, nameIndex := 9, descriptorIndex := 10, attributes := #[] }, { accessFlags := 8, nameIndex := 261, descriptorIndex := 262, attributes := #[] }, { accessFlags := 9, nameIndex := 117, descriptorIndex := 122, attributes := #[] }, { accessFlags := 9, nameIndex := 117, descriptorIndex := 118, attributes := #[] }] 48 6 #[] #[{ accessFlags := 26, nameIndex := 61, descriptorIndex := 62, attributes := #[] }, { accessFlags := 26, nameIndex := 65, descriptorIndex := 62, attributes := #[] }, { accessFlags := 24, nameIndex := 430, descriptorIndex := 62, attributes := #[] }, { accessFlags := 4120, nameIndex := 46, descriptorIndex := 47, attributes := #[] }])
  fields := #[{ name := "HI_BYTE_SHIFT", type := .int, accessFlags := 26, slot := 0, constantValue := 0 }, { name := "LO_BYTE_SHIFT", type := .int, accessFlags := 26, slot := 1, constantValue := 0 }, { name := "MAX_LENGTH", type := .int, accessFlags := 24, slot := 2, constantValue := 0 }, { name := "$assertionsDisabled", type := .boolean, accessFlags := 4120, slot := 3, constantValue := 0 }]
  methods := #[k8m0, k8m1, k8m2, k8m3]
  instanceTypes := #[]
  staticTypes := #[.int, .int, .int, .boolean]
  resolved := Array.replicate 635 none
  statics := none }

def pool9 : Array CpInfo := pool [(1, .methodref 2 3), (0, .class_ 4), (0, .nameAndType 5 6), (0, u "java/lang/Object"), (0, u "<init>"), (0, u "()V"), (0, .fieldref 8 9), (0, .class_ 10), (0, .nameAndType 11 12), (0, u "java/lang/Throwable"), (0, u "cause"), (0, u "Ljava/lang/Throwable;"), (0, .fieldref 8 14), (0, .nameAndType 15 16), (0, u "UNASSIGNED_STACK"), (0, u "[Ljava/lang/StackTraceElement;"), (0, .fieldref 8 18), (0, .nameAndType 19 16), (0, u "stackTrace"), (0, .fieldref 8 21), (0, .nameAndType 22 23), (0, u "SUPPRESSED_SENTINEL"), (0, u "Ljava/util/List;"), (0, .fieldref 8 25), (0, .nameAndType 26 23), (0, u "suppressedExceptions"), (4, .fieldref 8 32), (0, .nameAndType 33 34), (0, u "detailMessage"), (0, u "Ljava/lang/String;"), (58, .class_ 94), (0, u "java/lang/Throwable$WrappedPrintStream"), (6, .class_ 103), (1, u "java/lang/Throwable$PrintStreamOrWriter"), (61, u "$assertionsDisabled"), (0, u "Z"), (26, .class_ 194), (0, u "java/lang/Throwable$WrappedPrintWriter"), (5, u "backtrace"), (0, u "Ljava/lang/Object;"), (9, u "depth"), (0, u "I"), (56, .class_ 271), (1, u "java/lang/Throwable$SentinelHolder"), (32, u "EMPTY_THROWABLE_ARRAY"), (0, u "[Ljava/lang/Throwable;"), (12, .class_ 319), (0, u "java/io/Serializable"), (0, u "serialVersionUID"), (0, u "J"), (5, u "NULL_CAUSE_MESSAGE"), (0, u "SELF_SUPPRESSION_MESSAGE"), (0, u "CAUSE_CAPTION"), (0, u "SUPPRESSED_CAPTION"), (9, u "(Ljava/lang/String;Ljava/lang/Throwable;ZZ)V")] 63

def k9m0 : Method := { name := "<init>", desc := "()V", sig := { parameters := [], returnType := none }, accessFlags := 1, code := none }
def k9c1 : Code := { maxStack := 2, maxLocals := 5, code := jdk_78_method_5_code, exceptionTable := #[], attributes := #[] }
def k9m1 : Method := { name := "<init>", desc := "(Ljava/lang/String;Ljava/lang/Throwable;ZZ)V", sig := { parameters := [(.object "java/lang/String"), (.object "java/lang/Throwable"), .boolean, .boolean], returnType := none }, accessFlags := 4, code := some k9c1 }
/-- java/lang/Throwable -/
def k9 : Class := { plain "java/lang/Throwable" (some 0) with
  accessFlags := 33
  interfaces := #[2]
  cf := some (fileOf pool9 8 #[.nestMembers #[193, 93, 101, 269]] #[{ accessFlags := 1, nameIndex := 5, descriptorIndex := 6, attributes := #[] }, { accessFlags := 4, nameIndex := 5, descriptorIndex := 340, attributes := #[] }] 33 2 #[318] #[{ accessFlags := 26, nameIndex := 320, descriptorIndex := 321, attributes := #[] }, { accessFlags := 130, nameIndex := 200, descriptorIndex := 201, attributes := #[] }, { accessFlags := 2, nameIndex := 33, descriptorIndex := 34, attributes := #[] }, { accessFlags := 26, nameIndex := 15, descriptorIndex := 16, attributes := #[] }, { accessFlags := 2, nameIndex := 11, descriptorIndex := 12, attributes := #[] }, { accessFlags := 2, nameIndex := 19, descriptorIndex := 16, attributes := #[] }, { accessFlags := 130, nameIndex := 211, descriptorIndex := 212, attributes := #[] }, { accessFlags := 26, nameIndex := 22, descriptorIndex := 23, attributes := #[] }, { accessFlags := 2, nameIndex := 26, descriptorIndex := 23, attributes := #[] }, { accessFlags := 26, nameIndex := 327, descriptorIndex := 34, attributes := #[] }, { accessFlags := 26, nameIndex := 328, descriptorIndex := 34, attributes := #[] }, { accessFlags := 26, nameIndex := 329, descriptorIndex := 34, attributes := #[] }, { accessFlags := 26, nameIndex := 330, descriptorIndex := 34, attributes := #[] }, { accessFlags := 26, nameIndex := 304, descriptorIndex := 305, attributes := #[] }, { accessFlags := 4120, nameIndex := 165, descriptorIndex := 166, attributes := #[] }])
  fields := #[{ name := "serialVersionUID", type := .long, accessFlags := 26, slot := 0, constantValue := 0 }, { name := "backtrace", type := (.object "java/lang/Object"), accessFlags := 130, slot := 0, constantValue := 0 }, { name := "detailMessage", type := (.object "java/lang/String"), accessFlags := 2, slot := 1, constantValue := 0 }, { name := "UNASSIGNED_STACK", type := (.array (.object "java/lang/StackTraceElement")), accessFlags := 26, slot := 1, constantValue := 0 }, { name := "cause", type := (.object "java/lang/Throwable"), accessFlags := 2, slot := 2, constantValue := 0 }, { name := "stackTrace", type := (.array (.object "java/lang/StackTraceElement")), accessFlags := 2, slot := 3, constantValue := 0 }, { name := "depth", type := .int, accessFlags := 130, slot := 4, constantValue := 0 }, { name := "SUPPRESSED_SENTINEL", type := (.object "java/util/List"), accessFlags := 26, slot := 2, constantValue := 0 }, { name := "suppressedExceptions", type := (.object "java/util/List"), accessFlags := 2, slot := 5, constantValue := 0 }, { name := "NULL_CAUSE_MESSAGE", type := (.object "java/lang/String"), accessFlags := 26, slot := 3, constantValue := 0 }, { name := "SELF_SUPPRESSION_MESSAGE", type := (.object "java/lang/String"), accessFlags := 26, slot := 4, constantValue := 0 }, { name := "CAUSE_CAPTION", type := (.object "java/lang/String"), accessFlags := 26, slot := 5, constantValue := 0 }, { name := "SUPPRESSED_CAPTION", type := (.object "java/lang/String"), accessFlags := 26, slot := 6, constantValue := 0 }, { name := "EMPTY_THROWABLE_ARRAY", type := (.array (.object "java/lang/Throwable")), accessFlags := 26, slot := 7, constantValue := 0 }, { name := "$assertionsDisabled", type := .boolean, accessFlags := 4120, slot := 8, constantValue := 0 }]
  methods := #[k9m0, k9m1]
  instanceTypes := #[(.object "java/lang/Object"), (.object "java/lang/String"), (.object "java/lang/Throwable"), (.array (.object "java/lang/StackTraceElement")), .int, (.object "java/util/List")]
  staticTypes := #[.long, (.array (.object "java/lang/StackTraceElement")), (.object "java/util/List"), (.object "java/lang/String"), (.object "java/lang/String"), (.object "java/lang/String"), (.object "java/lang/String"), (.array (.object "java/lang/Throwable")), .boolean]
  resolved := Array.replicate 404 none
  statics := some 1 }

def pool10 : Array CpInfo := pool [(2, .class_ 4), (1, u "java/lang/Throwable"), (0, u "<init>"), (0, u "()V"), (9, .methodref 2 17), (0, .nameAndType 5 18), (0, u "(Ljava/lang/String;Ljava/lang/Throwable;ZZ)V"), (0, .class_ 20), (0, u "java/lang/Exception"), (0, u "serialVersionUID"), (0, u "J")] 17

def k10m0 : Method := { name := "<init>", desc := "()V", sig := { parameters := [], returnType := none }, accessFlags := 1, code := none }
def k10c1 : Code := { maxStack := 5, maxLocals := 5, code := jdk_59_method_5_code, exceptionTable := #[], attributes := #[] }
def k10m1 : Method := { name := "<init>", desc := "(Ljava/lang/String;Ljava/lang/Throwable;ZZ)V", sig := { parameters := [(.object "java/lang/String"), (.object "java/lang/Throwable"), .boolean, .boolean], returnType := none }, accessFlags := 4, code := some k10c1 }
/-- java/lang/Exception -/
def k10 : Class := { plain "java/lang/Exception" (some 9) with
  accessFlags := 33
  interfaces := #[]
  cf := some (fileOf pool10 19 #[] #[{ accessFlags := 1, nameIndex := 5, descriptorIndex := 6, attributes := #[] }, { accessFlags := 4, nameIndex := 5, descriptorIndex := 18, attributes := #[] }] 33 2 #[] #[{ accessFlags := 24, nameIndex := 21, descriptorIndex := 22, attributes := #[] }])
  fields := #[{ name := "serialVersionUID", type := .long, accessFlags := 24, slot := 0, constantValue := 0 }]
  methods := #[k10m0, k10m1]
  instanceTypes := #[(.object "java/lang/Object"), (.object "java/lang/String"), (.object "java/lang/Throwable"), (.array (.object "java/lang/StackTraceElement")), .int, (.object "java/util/List")]
  staticTypes := #[.long]
  resolved := Array.replicate 40 none
  statics := none }

def pool11 : Array CpInfo := pool [(2, .class_ 4), (1, u "java/lang/Exception"), (0, u "<init>"), (0, u "()V"), (9, .methodref 2 17), (0, .nameAndType 5 18), (0, u "(Ljava/lang/String;Ljava/lang/Throwable;ZZ)V"), (0, .class_ 20), (0, u "java/lang/RuntimeException"), (0, u "serialVersionUID"), (0, u "J")] 17

def k11m0 : Method := { name := "<init>", desc := "()V", sig := { parameters := [], returnType := none }, accessFlags := 1, code := none }
def k11c1 : Code := { maxStack := 5, maxLocals := 5, code := jdk_58_method_5_code, exceptionTable := #[], attributes := #[] }
def k11m1 : Method := { name := "<init>", desc := "(Ljava/lang/String;Ljava/lang/Throwable;ZZ)V", sig := { parameters := [(.object "java/lang/String"), (.object "java/lang/Throwable"), .boolean, .boolean], returnType := none }, accessFlags := 4, code := some k11c1 }
/-- java/lang/RuntimeException -/
def k11 : Class := { plain "java/lang/RuntimeException" (some 10) with
  accessFlags := 33
  interfaces := #[]
  cf := some (fileOf pool11 19 #[] #[{ accessFlags := 1, nameIndex := 5, descriptorIndex := 6, attributes := #[] }, { accessFlags := 4, nameIndex := 5, descriptorIndex := 18, attributes := #[] }] 33 2 #[] #[{ accessFlags := 24, nameIndex := 21, descriptorIndex := 22, attributes := #[] }])
  fields := #[{ name := "serialVersionUID", type := .long, accessFlags := 24, slot := 0, constantValue := 0 }]
  methods := #[k11m0, k11m1]
  instanceTypes := #[(.object "java/lang/Object"), (.object "java/lang/String"), (.object "java/lang/Throwable"), (.array (.object "java/lang/StackTraceElement")), .int, (.object "java/util/List")]
  staticTypes := #[.long]
  resolved := Array.replicate 40 none
  statics := none }

def pool12 : Array CpInfo := pool [(1, .methodref 2 3), (0, .class_ 4), (0, .nameAndType 5 6), (0, u "java/lang/RuntimeException"), (0, u "<init>"), (0, u "(Ljava/lang/String;Ljava/lang/Throwable;ZZ)V"), (0, .fieldref 8 9), (0, .class_ 10), (0, .nameAndType 11 12), (0, u "com/example/goalpost/goalpost/runtime/NotSupported"), (0, u "what"), (0, u "Ljava/lang/String;"), (0, .fieldref 8 14), (0, .nameAndType 15 16), (0, u "line"), (0, u "I"), (5, u "serialVersionUID"), (0, u "J"), (3, u "(Ljava/lang/String;)V"), (2, u "at"), (0, u "(I)Lcom/example/goalpost/goalpost/runtime/NotSupported;")] 22

def k12c0 : Code := { maxStack := 5, maxLocals := 2, code := prog_52_method_1_code, exceptionTable := #[], attributes := #[] }
def k12m0 : Method := { name := "<init>", desc := "(Ljava/lang/String;)V", sig := { parameters := [(.object "java/lang/String")], returnType := none }, accessFlags := 0, code := some k12c0 }
def k12c1 : Code := { maxStack := 2, maxLocals := 2, code := prog_52_method_2_code, exceptionTable := #[], attributes := #[] }
def k12m1 : Method := { name := "at", desc := "(I)Lcom/example/goalpost/goalpost/runtime/NotSupported;", sig := { parameters := [.int], returnType := some (.object "com/example/goalpost/goalpost/runtime/NotSupported") }, accessFlags := 0, code := some k12c1 }
/-- com/example/goalpost/goalpost/runtime/NotSupported -/
def k12 : Class := { plain "com/example/goalpost/goalpost/runtime/NotSupported" (some 11) with
  accessFlags := 48
  interfaces := #[]
  cf := some (fileOf pool12 8 #[] #[{ accessFlags := 0, nameIndex := 5, descriptorIndex := 27, attributes := #[] }, { accessFlags := 0, nameIndex := 30, descriptorIndex := 31, attributes := #[] }] 48 2 #[] #[{ accessFlags := 26, nameIndex := 22, descriptorIndex := 23, attributes := #[] }, { accessFlags := 16, nameIndex := 11, descriptorIndex := 12, attributes := #[] }, { accessFlags := 0, nameIndex := 15, descriptorIndex := 16, attributes := #[] }])
  fields := #[{ name := "serialVersionUID", type := .long, accessFlags := 26, slot := 0, constantValue := 0 }, { name := "what", type := (.object "java/lang/String"), accessFlags := 16, slot := 6, constantValue := 0 }, { name := "line", type := .int, accessFlags := 0, slot := 7, constantValue := 0 }]
  methods := #[k12m0, k12m1]
  instanceTypes := #[(.object "java/lang/Object"), (.object "java/lang/String"), (.object "java/lang/Throwable"), (.array (.object "java/lang/StackTraceElement")), .int, (.object "java/util/List"), (.object "java/lang/String"), .int]
  staticTypes := #[.long]
  resolved := Array.replicate 54 none
  statics := none }

def pool13 : Array CpInfo := pool [(4, .class_ 6), (1, u "java/lang/Object"), (0, u "<init>"), (0, u "()V"), (5, .class_ 16), (1, u "java/lang/StringLatin1"), (104, u "$assertionsDisabled"), (0, u "Z"), (98, .class_ 223), (1, u "java/lang/StringLatin1$LinesSpliterator"), (166, .class_ 391), (0, u "java/lang/StringLatin1$CharsSpliterator")] 3

def k13m0 : Method := { name := "<init>", desc := "()V", sig := { parameters := [], returnType := none }, accessFlags := 0, code := none }
/-- java/lang/StringLatin1 -/
def k13 : Class := { plain "java/lang/StringLatin1" (some 0) with
  accessFlags := 48
  interfaces := #[]
  cf := some (fileOf pool13 14 #[.nestMembers #[390, 221]] #[{ accessFlags := 0, nameIndex := 7, descriptorIndex := 8, attributes := #[] }] 48 4 #[] #[{ accessFlags := 4120, nameIndex := 121, descriptorIndex := 122, attributes := #[] }])
  fields := #[{ name := "$assertionsDisabled", type := .boolean, accessFlags := 4120, slot := 0, constantValue := 0 }]
  methods := #[k13m0]
  instanceTypes := #[]
  staticTypes := #[.boolean]
  resolved := Array.replicate 395 none
  statics := none }

def pool14 : Array CpInfo := pool [(2, .class_ 4), (1, u "java/lang/Object"), (0, u "<init>"), (0, u "()V"), (17, .class_ 26), (1, u "jdk/internal/util/Preconditions"), (28, .class_ 56), (0, u "jdk/internal/util/Preconditions$4"), (57, .class_ 115), (0, u "jdk/internal/util/Preconditions$1"), (7, u "SIOOBE_FORMATTER"), (0, u "Ljava/util/function/BiFunction;"), (0, .class_ 126), (0, u "jdk/internal/util/Preconditions$2"), (3, u "AIOOBE_FORMATTER"), (0, .class_ 132), (0, u "jdk/internal/util/Preconditions$3"), (3, u "IOOBE_FORMATTER")] 57

def k14m0 : Method := { name := "<init>", desc := "()V", sig := { parameters := [], returnType := none }, accessFlags := 1, code := none }
/-- jdk/internal/util/Preconditions -/
def k14 : Class := { plain "jdk/internal/util/Preconditions" (some 0) with
  accessFlags := 33
  interfaces := #[]
  cf := some (fileOf pool14 24 #[.nestMembers #[55, 131, 125, 114]] #[{ accessFlags := 1, nameIndex := 5, descriptorIndex := 6, attributes := #[] }] 33 2 #[] #[{ accessFlags := 25, nameIndex := 123, descriptorIndex := 124, attributes := #[] }, { accessFlags := 25, nameIndex := 130, descriptorIndex := 124, attributes := #[] }, { accessFlags := 25, nameIndex := 136, descriptorIndex := 124, attributes := #[] }])
  fields := #[{ name := "SIOOBE_FORMATTER", type := (.object "java/util/function/BiFunction"), accessFlags := 25, slot := 0, constantValue := 0 }, { name := "AIOOBE_FORMATTER", type := (.object "java/util/function/BiFunction"), accessFlags := 25, slot := 1, constantValue := 0 }, { name := "IOOBE_FORMATTER", type := (.object "java/util/function/BiFunction"), accessFlags := 25, slot := 2, constantValue := 0 }]
  methods := #[k14m0]
  instanceTypes := #[]
  staticTypes := #[(.object "java/util/function/BiFunction"), (.object "java/util/function/BiFunction"), (.object "java/util/function/BiFunction")]
  resolved := Array.replicate 194 none
  statics := some 2 }

def pool15 : Array CpInfo := pool [(9, u "<init>"), (6, .class_ 18), (1, u "java/lang/Object"), (0, u "()V"), (1, .class_ 23), (1, u "jdk/internal/util/ArraysSupport"), (0, u "LOG2_ARRAY_LONG_INDEX_SCALE"), (0, u "I"), (2, u "U"), (0, u "Ljdk/internal/misc/Unsafe;"), (8, u "BIG_ENDIAN"), (0, u "Z"), (8, u "LOG2_BYTE_BIT_SIZE"), (4, u "LOG2_ARRAY_INT_INDEX_SCALE"), (54, u "JLA"), (0, u "Ljdk/internal/access/JavaLangAccess;"), (11, u "LOG2_ARRAY_BOOLEAN_INDEX_SCALE"), (9, u "LOG2_ARRAY_BYTE_INDEX_SCALE"), (5, u "LOG2_ARRAY_CHAR_INDEX_SCALE"), (5, u "LOG2_ARRAY_SHORT_INDEX_SCALE"), (18, u "LOG2_ARRAY_FLOAT_INDEX_SCALE"), (24, u "LOG2_ARRAY_DOUBLE_INDEX_SCALE"), (89, u "T_BOOLEAN"), (2, u "T_CHAR"), (1, u "T_FLOAT"), (1, u "T_DOUBLE"), (1, u "T_BYTE"), (1, u "T_SHORT"), (1, u "T_INT"), (1, u "T_LONG"), (1, u "SOFT_MAX_ARRAY_LENGTH")] 83

def k15m0 : Method := { name := "<init>", desc := "()V", sig := { parameters := [], returnType := none }, accessFlags := 2, code := none }
/-- jdk/internal/util/ArraysSupport -/
def k15 : Class := { plain "jdk/internal/util/ArraysSupport" (some 0) with
  accessFlags := 33
  interfaces := #[]
  cf := some (fileOf pool15 21 #[] #[{ accessFlags := 2, nameIndex := 9, descriptorIndex := 19, attributes := #[] }] 33 16 #[] #[{ accessFlags := 24, nameIndex := 28, descriptorIndex := 29, attributes := #[] }, { accessFlags := 26, nameIndex := 38, descriptorIndex := 39, attributes := #[] }, { accessFlags := 25, nameIndex := 121, descriptorIndex := 25, attributes := #[] }, { accessFlags := 25, nameIndex := 131, descriptorIndex := 25, attributes := #[] }, { accessFlags := 25, nameIndex := 137, descriptorIndex := 25, attributes := #[] }, { accessFlags := 25, nameIndex := 143, descriptorIndex := 25, attributes := #[] }, { accessFlags := 25, nameIndex := 53, descriptorIndex := 25, attributes := #[] }, { accessFlags := 25, nameIndex := 24, descriptorIndex := 25, attributes := #[] }, { accessFlags := 25, nameIndex := 162, descriptorIndex := 25, attributes := #[] }, { accessFlags := 25, nameIndex := 187, descriptorIndex := 25, attributes := #[] }, { accessFlags := 26, nameIndex := 48, descriptorIndex := 25, attributes := #[] }, { accessFlags := 25, nameIndex := 277, descriptorIndex := 25, attributes := #[] }, { accessFlags := 25, nameIndex := 280, descriptorIndex := 25, attributes := #[] }, { accessFlags := 25, nameIndex := 282, descriptorIndex := 25, attributes := #[] }, { accessFlags := 25, nameIndex := 284, descriptorIndex := 25, attributes := #[] }, { accessFlags := 25, nameIndex := 286, descriptorIndex := 25, attributes := #[] }, { accessFlags := 25, nameIndex := 288, descriptorIndex := 25, attributes := #[] }, { accessFlags := 25, nameIndex := 290, descriptorIndex := 25, attributes := #[] }, { accessFlags := 25, nameIndex := 292, descriptorIndex := 25, attributes := #[] }, { accessFlags := 26, nameIndex := 108, descriptorIndex := 109, attributes := #[] }, { accessFlags := 25, nameIndex := 294, descriptorIndex := 25, attributes := #[] }])
  fields := #[{ name := "U", type := (.object "jdk/internal/misc/Unsafe"), accessFlags := 24, slot := 0, constantValue := 0 }, { name := "BIG_ENDIAN", type := .boolean, accessFlags := 26, slot := 1, constantValue := 0 }, { name := "LOG2_ARRAY_BOOLEAN_INDEX_SCALE", type := .int, accessFlags := 25, slot := 2, constantValue := 0 }, { name := "LOG2_ARRAY_BYTE_INDEX_SCALE", type := .int, accessFlags := 25, slot := 3, constantValue := 0 }, { name := "LOG2_ARRAY_CHAR_INDEX_SCALE", type := .int, accessFlags := 25, slot := 4, constantValue := 0 }, { name := "LOG2_ARRAY_SHORT_INDEX_SCALE", type := .int, accessFlags := 25, slot := 5, constantValue := 0 }, { name := "LOG2_ARRAY_INT_INDEX_SCALE", type := .int, accessFlags := 25, slot := 6, constantValue := 0 }, { name := "LOG2_ARRAY_LONG_INDEX_SCALE", type := .int, accessFlags := 25, slot := 7, constantValue := 0 }, { name := "LOG2_ARRAY_FLOAT_INDEX_SCALE", type := .int, accessFlags := 25, slot := 8, constantValue := 0 }, { name := "LOG2_ARRAY_DOUBLE_INDEX_SCALE", type := .int, accessFlags := 25, slot := 9, constantValue := 0 }, { name := "LOG2_BYTE_BIT_SIZE", type := .int, accessFlags := 26, slot := 10, constantValue := 0 }, { name := "T_BOOLEAN", type := .int, accessFlags := 25, slot := 11, constantValue := 0 }, { name := "T_CHAR", type := .int, accessFlags := 25, slot := 12, constantValue := 0 }, { name := "T_FLOAT", type := .int, accessFlags := 25, slot := 13, constantValue := 0 }, { name := "T_DOUBLE", type := .int, accessFlags := 25, slot := 14, constantValue := 0 }, { name := "T_BYTE", type := .int, accessFlags := 25, slot := 15, constantValue := 0 }, { name := "T_SHORT", type := .int, accessFlags := 25, slot := 16, constantValue := 0 }, { name := "T_INT", type := .int, accessFlags := 25, slot := 17, constantValue := 0 }, { name := "T_LONG", type := .int, accessFlags := 25, slot := 18, constantValue := 0 }, { name := "JLA", type := (.object "jdk/internal/access/JavaLangAccess"), accessFlags := 26, slot := 19, constantValue := 0 }, { name := "SOFT_MAX_ARRAY_LENGTH", type := .int, accessFlags := 25, slot := 20, constantValue := 0 }]
  methods := #[k15m0]
  instanceTypes := #[]
  staticTypes := #[(.object "jdk/internal/misc/Unsafe"), .boolean, .int, .int, .int, .int, .int, .int, .int, .int, .int, .int, .int, .int, .int, .int, .int, .int, .int, (.object "jdk/internal/access/JavaLangAccess"), .int]
  resolved := Array.replicate 378 none
  statics := none }

def pool16 : Array CpInfo := pool [(2, .class_ 4), (1, u "java/lang/Object"), (0, u "<init>"), (0, u "()V"), (12, .class_ 20), (0, u "java/util/Collections"), (63, u "r"), (0, u "Ljava/util/Random;"), (80, .class_ 167), (0, u "java/util/Collections$UnmodifiableCollection"), (6, .class_ 175), (0, u "java/util/Collections$UnmodifiableSequencedCollection"), (6, .class_ 183), (0, u "java/util/Collections$UnmodifiableSet"), (6, .class_ 191), (0, u "java/util/Collections$UnmodifiableSequencedSet"), (6, .class_ 199), (0, u "java/util/Collections$UnmodifiableSortedSet"), (6, .class_ 207), (0, u "java/util/Collections$UnmodifiableNavigableSet"), (4, .class_ 213), (0, u "java/util/Collections$UnmodifiableList"), (1, .class_ 216), (0, u "java/util/Collections$UnmodifiableRandomAccessList"), (6, .class_ 224), (0, u "java/util/Collections$UnmodifiableMap"), (6, .class_ 232), (0, u "java/util/Collections$UnmodifiableSequencedMap"), (4, .class_ 238), (0, u "java/util/Collections$UnmodifiableSortedMap"), (6, .class_ 246), (0, u "java/util/Collections$UnmodifiableNavigableMap"), (3, .class_ 251), (0, u "java/util/Collections$SynchronizedCollection"), (4, .class_ 257), (0, u "java/util/Collections$SynchronizedSet"), (4, .class_ 263), (0, u "java/util/Collections$SynchronizedSortedSet"), (1, .class_ 266), (0, u "java/util/Collections$SynchronizedNavigableSet"), (1, .class_ 269), (0, u "java/util/Collections$SynchronizedRandomAccessList"), (1, .class_ 272), (0, u "java/util/Collections$SynchronizedList"), (5, .class_ 279), (0, u "java/util/Collections$SynchronizedMap"), (1, .class_ 282), (0, u "java/util/Collections$SynchronizedSortedMap"), (1, .class_ 285), (0, u "java/util/Collections$SynchronizedNavigableMap"), (1, .class_ 288), (0, u "java/util/Collections$CheckedCollection"), (11, .class_ 301), (0, u "java/util/Collections$CheckedQueue"), (3, .class_ 306), (0, u "java/util/Collections$CheckedSet"), (3, .class_ 311), (0, u "java/util/Collections$CheckedSortedSet"), (3, .class_ 316), (0, u "java/util/Collections$CheckedNavigableSet"), (3, .class_ 321), (0, u "java/util/Collections$CheckedRandomAccessList"), (3, .class_ 326), (0, u "java/util/Collections$CheckedList"), (1, .class_ 329), (0, u "java/util/Collections$CheckedMap"), (3, .class_ 334), (0, u "java/util/Collections$CheckedSortedMap"), (3, .class_ 339), (0, u "java/util/Collections$CheckedNavigableMap"), (4, .class_ 346), (1, u "java/util/Collections$EmptyIterator"), (3, .class_ 352), (1, u "java/util/Collections$EmptyListIterator"), (2, .class_ 357), (1, u "java/util/Collections$EmptyEnumeration"), (4, u "EMPTY_SET"), (0, u "Ljava/util/Set;"), (6, u "EMPTY_LIST"), (0, u "Ljava/util/List;"), (2, u "EMPTY_MAP"), (0, u "Ljava/util/Map;"), (4, .class_ 381), (0, u "java/util/Collections$SingletonSet"), (2, .class_ 385), (0, u "java/util/Collections$1"), (1, .class_ 388), (0, u "java/util/Collections$2"), (1, .class_ 391), (0, u "java/util/Collections$SingletonList"), (1, .class_ 394), (0, u "java/util/Collections$SingletonMap"), (22, .class_ 418), (0, u "java/util/Collections$CopiesList"), (4, .class_ 425), (1, u "java/util/Collections$ReverseComparator"), (8, .class_ 435), (0, u "java/util/Collections$ReverseComparator2"), (6, .class_ 443), (0, u "java/util/Collections$3"), (25, .class_ 470), (0, u "java/util/Collections$SetFromMap"), (2, .class_ 474), (0, u "java/util/Collections$SequencedSetFromMap"), (3, .class_ 479), (0, u "java/util/Collections$AsLIFOQueue"), (11, .class_ 492), (0, u "java/util/Collections$EmptySet"), (1, .class_ 495), (0, u "java/util/Collections$EmptyList"), (1, .class_ 498), (0, u "java/util/Collections$EmptyMap"), (1, u "BINARYSEARCH_THRESHOLD"), (0, u "I"), (2, u "REVERSE_THRESHOLD"), (1, u "SHUFFLE_THRESHOLD"), (1, u "FILL_THRESHOLD"), (1, u "ROTATE_THRESHOLD"), (1, u "COPY_THRESHOLD"), (1, u "REPLACEALL_THRESHOLD"), (1, u "INDEXOFSUBLIST_THRESHOLD"), (333, .class_ 851), (0, u "java/util/Collections$CheckedMap$CheckedEntrySet"), (0, .class_ 853), (0, u "java/util/Collections$CheckedMap$CheckedEntrySet$CheckedEntry"), (0, .class_ 855), (0, u "java/util/Collections$CheckedMap$CheckedEntrySet$1"), (0, .class_ 857), (0, u "java/util/Collections$CheckedList$1"), (0, .class_ 859), (0, u "java/util/Collections$CheckedCollection$1"), (0, .class_ 861), (0, u "java/util/Collections$UnmodifiableNavigableMap$EmptyNavigableMap"), (0, .class_ 863), (0, u "java/util/Collections$UnmodifiableMap$UnmodifiableEntrySet"), (0, .class_ 865), (0, u "java/util/Collections$UnmodifiableMap$UnmodifiableEntrySet$UnmodifiableEntry"), (0, .class_ 867), (0, u "java/util/Collections$UnmodifiableMap$UnmodifiableEntrySet$UnmodifiableEntrySetSpliterator"), (0, .class_ 869), (0, u "java/util/Collections$UnmodifiableMap$UnmodifiableEntrySet$1"), (0, .class_ 871), (0, u "java/util/Collections$UnmodifiableList$1"), (0, .class_ 873), (0, u "java/util/Collections$UnmodifiableNavigableSet$EmptyNavigableSet"), (0, .class_ 875), (0, u "java/util/Collections$UnmodifiableCollection$1")] 57

def k16m0 : Method := { name := "<init>", desc := "()V", sig := { parameters := [], returnType := none }, accessFlags := 2, code := none }
/-- java/util/Collections -/
def k16 : Class := { plain "java/util/Collections" (some 0) with
  accessFlags := 33
  interfaces := #[]
  cf := some (fileOf pool16 19 #[.nestMembers #[478, 473, 469, 434, 423, 417, 393, 390, 380, 497, 494, 491, 355, 350, 344, 338, 333, 328, 850, 852, 854, 320, 325, 856, 315, 310, 305, 300, 287, 858, 284, 281, 278, 268, 271, 265, 262, 256, 250, 245, 860, 237, 231, 223, 862, 864, 866, 868, 215, 212, 870, 206, 872, 198, 190, 182, 174, 166, 874, 442, 387, 384]] #[{ accessFlags := 2, nameIndex := 5, descriptorIndex := 6, attributes := #[] }] 33 2 #[] #[{ accessFlags := 26, nameIndex := 500, descriptorIndex := 501, attributes := #[] }, { accessFlags := 26, nameIndex := 504, descriptorIndex := 501, attributes := #[] }, { accessFlags := 26, nameIndex := 506, descriptorIndex := 501, attributes := #[] }, { accessFlags := 26, nameIndex := 508, descriptorIndex := 501, attributes := #[] }, { accessFlags := 26, nameIndex := 510, descriptorIndex := 501, attributes := #[] }, { accessFlags := 26, nameIndex := 512, descriptorIndex := 501, attributes := #[] }, { accessFlags := 26, nameIndex := 514, descriptorIndex := 501, attributes := #[] }, { accessFlags := 26, nameIndex := 516, descriptorIndex := 501, attributes := #[] }, { accessFlags := 10, nameIndex := 84, descriptorIndex := 85, attributes := #[] }, { accessFlags := 25, nameIndex := 362, descriptorIndex := 363, attributes := #[] }, { accessFlags := 25, nameIndex := 370, descriptorIndex := 371, attributes := #[] }, { accessFlags := 25, nameIndex := 374, descriptorIndex := 375, attributes := #[] }])
  fields := #[{ name := "BINARYSEARCH_THRESHOLD", type := .int, accessFlags := 26, slot := 0, constantValue := 0 }, { name := "REVERSE_THRESHOLD", type := .int, accessFlags := 26, slot := 1, constantValue := 0 }, { name := "SHUFFLE_THRESHOLD", type := .int, accessFlags := 26, slot := 2, constantValue := 0 }, { name := "FILL_THRESHOLD", type := .int, accessFlags := 26, slot := 3, constantValue := 0 }, { name := "ROTATE_THRESHOLD", type := .int, accessFlags := 26, slot := 4, constantValue := 0 }, { name := "COPY_THRESHOLD", type := .int, accessFlags := 26, slot := 5, constantValue := 0 }, { name := "REPLACEALL_THRESHOLD", type := .int, accessFlags := 26, slot := 6, constantValue := 0 }, { name := "INDEXOFSUBLIST_THRESHOLD", type := .int, accessFlags := 26, slot := 7, constantValue := 0 }, { name := "r", type := (.object "java/util/Random"), accessFlags := 10, slot := 8, constantValue := 0 }, { name := "EMPTY_SET", type := (.object "java/util/Set"), accessFlags := 25, slot := 9, constantValue := 0 }, { name := "EMPTY_LIST", type := (.object "java/util/List"), accessFlags := 25, slot := 10, constantValue := 0 }, { name := "EMPTY_MAP", type := (.object "java/util/Map"), accessFlags := 25, slot := 11, constantValue := 0 }]
  methods := #[k16m0]
  instanceTypes := #[]
  staticTypes := #[.int, .int, .int, .int, .int, .int, .int, .int, (.object "java/util/Random"), (.object "java/util/Set"), (.object "java/util/List"), (.object "java/util/Map")]
  resolved := Array.replicate 933 none
  statics := some 3 }

def pool17 : Array CpInfo := pool [(8, .class_ 10), (1, u "java/lang/Iterable"), (24, .class_ 36), (0, u "java/lang/Object")] 25

/-- java/lang/Iterable -/
def k17 : Class := { plain "java/lang/Iterable" (some 0) with
  accessFlags := 1537
  interfaces := #[]
  cf := some (fileOf pool17 8 #[] #[] 1537 35 #[] #[])
  fields := #[]
  methods := #[]
  instanceTypes := #[]
  staticTypes := #[]
  resolved := Array.replicate 62 none
  statics := none }

def pool18 : Array CpInfo := pool [(10, .class_ 12), (1, u "java/util/Collection"), (47, .class_ 61), (0, u "java/lang/Object"), (0, .class_ 63), (0, u "java/lang/Iterable")] 51

/-- java/util/Collection -/
def k18 : Class := { plain "java/util/Collection" (some 0) with
  accessFlags := 1537
  interfaces := #[17]
  cf := some (fileOf pool18 10 #[] #[] 1537 60 #[62] #[])
  fields := #[]
  methods := #[]
  instanceTypes := #[]
  staticTypes := #[]
  resolved := Array.replicate 115 none
  statics := none }

def pool19 : Array CpInfo := pool [(2, .class_ 4), (1, u "java/lang/Object"), (0, u "<init>"), (0, u "()V"), (1, .class_ 10), (1, u "java/util/AbstractCollection"), (66, .class_ 78), (0, u "java/util/Collection")] 81

def k19m0 : Method := { name := "<init>", desc := "()V", sig := { parameters := [], returnType := none }, accessFlags := 4, code := none }
/-- java/util/AbstractCollection -/
def k19 : Class := { plain "java/util/AbstractCollection" (some 0) with
  accessFlags := 1057
  interfaces := #[18]
  cf := some (fileOf pool19 8 #[] #[{ accessFlags := 4, nameIndex := 5, descriptorIndex := 6, attributes := #[] }] 1057 2 #[77] #[])
  fields := #[]
  methods := #[k19m0]
  instanceTypes := #[]
  staticTypes := #[]
  resolved := Array.replicate 160 none
  statics := none }

def pool20 : Array CpInfo := pool [(8, .class_ 10), (1, u "java/util/SequencedCollection"), (15, .class_ 27), (0, u "java/lang/Object"), (0, .class_ 29), (0, u "java/util/Collection")] 27

/-- java/util/SequencedCollection -/
def k20 : Class := { plain "java/util/SequencedCollection" (some 0) with
  accessFlags := 1537
  interfaces := #[18]
  cf := some (fileOf pool20 8 #[] #[] 1537 26 #[28] #[])
  fields := #[]
  methods := #[]
  instanceTypes := #[]
  staticTypes := #[]
  resolved := Array.replicate 57 none
  statics := none }

def pool21 : Array CpInfo := pool [(8, .class_ 10), (1, u "java/util/List"), (92, .class_ 104), (0, u "java/lang/Object"), (15, .class_ 121), (0, u "java/util/SequencedCollection")] 129

/-- java/util/List -/
def k21 : Class := { plain "java/util/List" (some 0) with
  accessFlags := 1537
  interfaces := #[20]
  cf := some (fileOf pool21 8 #[] #[] 1537 103 #[120] #[])
  fields := #[]
  methods := #[]
  instanceTypes := #[]
  staticTypes := #[]
  resolved := Array.replicate 251 none
  statics := none }

def pool22 : Array CpInfo := pool [(2, .class_ 4), (1, u "java/util/AbstractCollection"), (0, u "<init>"), (0, u "()V"), (1, .class_ 10), (1, u "java/util/AbstractList"), (0, u "modCount"), (0, u "I"), (64, .class_ 78), (0, u "java/util/AbstractList$Itr"), (3, .class_ 83), (0, u "java/util/AbstractList$ListItr"), (9, .class_ 94), (0, u "java/util/AbstractList$RandomAccessSubList"), (3, .class_ 99), (0, u "java/util/AbstractList$SubList"), (33, .class_ 134), (0, u "java/util/List"), (73, .class_ 209), (0, u "java/util/AbstractList$SubList$1"), (0, .class_ 211), (0, u "java/util/AbstractList$RandomAccessSpliterator")] 6

def k22m0 : Method := { name := "<init>", desc := "()V", sig := { parameters := [], returnType := none }, accessFlags := 4, code := none }
/-- java/util/AbstractList -/
def k22 : Class := { plain "java/util/AbstractList" (some 19) with
  accessFlags := 1057
  interfaces := #[21]
  cf := some (fileOf pool22 8 #[.nestMembers #[93, 98, 208, 210, 82, 77]] #[{ accessFlags := 4, nameIndex := 5, descriptorIndex := 6, attributes := #[] }] 1057 2 #[133] #[{ accessFlags := 132, nameIndex := 11, descriptorIndex := 12, attributes := #[] }])
  fields := #[{ name := "modCount", type := .int, accessFlags := 132, slot := 0, constantValue := 0 }]
  methods := #[k22m0]
  instanceTypes := #[.int]
  staticTypes := #[]
  resolved := Array.replicate 218 none
  statics := none }

def pool23 : Array CpInfo := pool [(1, .class_ 2), (0, u "java/util/RandomAccess"), (0, .class_ 4), (0, u "java/lang/Object")] 2

/-- java/util/RandomAccess -/
def k23 : Class := { plain "java/util/RandomAccess" (some 0) with
  accessFlags := 1537
  interfaces := #[]
  cf := some (fileOf pool23 1 #[] #[] 1537 3 #[] #[])
  fields := #[]
  methods := #[]
  instanceTypes := #[]
  staticTypes := #[]
  resolved := Array.replicate 7 none
  statics := none }

def pool24 : Array CpInfo := pool [(2, .class_ 4), (1, u "java/util/AbstractList"), (0, u "<init>"), (0, u "()V"), (1, .class_ 10), (1, u "java/util/Collections"), (54, .class_ 66), (0, u "java/util/Collections$EmptyList"), (0, .class_ 68), (0, u "java/util/RandomAccess"), (0, .class_ 70), (0, u "java/io/Serializable"), (0, u "serialVersionUID"), (0, u "J")] 77

def k24m0 : Method := { name := "<init>", desc := "()V", sig := { parameters := [], returnType := none }, accessFlags := 2, code := none }
/-- java/util/Collections$EmptyList -/
def k24 : Class := { plain "java/util/Collections$EmptyList" (some 22) with
  accessFlags := 32
  interfaces := #[23, 2]
  cf := some (fileOf pool24 65 #[.nestHost 8] #[{ accessFlags := 2, nameIndex := 5, descriptorIndex := 6, attributes := #[] }] 32 2 #[67, 69] #[{ accessFlags := 26, nameIndex := 71, descriptorIndex := 72, attributes := #[] }])
  fields := #[{ name := "serialVersionUID", type := .long, accessFlags := 26, slot := 0, constantValue := 0 }]
  methods := #[k24m0]
  instanceTypes := #[.int]
  staticTypes := #[.long]
  resolved := Array.replicate 150 none
  statics := none }

def pool25 : Array CpInfo := pool [(2, .class_ 4), (1, u "java/lang/StackTraceElement"), (0, u "<init>"), (2, .class_ 10), (1, u "java/lang/Object"), (0, u "()V"), (2, u "format"), (0, u "B"), (2, u "classLoaderName"), (0, u "Ljava/lang/String;"), (2, u "moduleName"), (2, u "moduleVersion"), (12, u "declaringClass"), (4, u "methodName"), (2, u "fileName"), (2, u "lineNumber"), (0, u "I"), (65, u "declaringClassObject"), (0, u "Ljava/lang/Class;"), (33, .class_ 153), (1, u "java/lang/StackTraceElement$HashedModules"), (17, .class_ 172), (0, u "java/io/Serializable"), (0, u "NATIVE_METHOD"), (1, u "UNKNOWN_SOURCE"), (2, u "BUILTIN_CLASS_LOADER"), (1, u "JDK_NON_UPGRADEABLE_MODULE"), (1, u "serialVersionUID"), (0, u "J")] 51

def k25m0 : Method := { name := "<init>", desc := "()V", sig := { parameters := [], returnType := none }, accessFlags := 2, code := none }
/-- java/lang/StackTraceElement -/
def k25 : Class := { plain "java/lang/StackTraceElement" (some 0) with
  accessFlags := 49
  interfaces := #[2]
  cf := some (fileOf pool25 2 #[.nestMembers #[151]] #[{ accessFlags := 2, nameIndex := 5, descriptorIndex := 11, attributes := #[] }] 49 8 #[171] #[{ accessFlags := 26, nameIndex := 173, descriptorIndex := 19, attributes := #[] }, { accessFlags := 26, nameIndex := 175, descriptorIndex := 19, attributes := #[] }, { accessFlags := 130, nameIndex := 116, descriptorIndex := 117, attributes := #[] }, { accessFlags := 2, nameIndex := 18, descriptorIndex := 19, attributes := #[] }, { accessFlags := 2, nameIndex := 22, descriptorIndex := 19, attributes := #[] }, { accessFlags := 2, nameIndex := 25, descriptorIndex := 19, attributes := #[] }, { accessFlags := 2, nameIndex := 38, descriptorIndex := 19, attributes := #[] }, { accessFlags := 2, nameIndex := 43, descriptorIndex := 19, attributes := #[] }, { accessFlags := 2, nameIndex := 46, descriptorIndex := 19, attributes := #[] }, { accessFlags := 2, nameIndex := 49, descriptorIndex := 50, attributes := #[] }, { accessFlags := 2, nameIndex := 14, descriptorIndex := 15, attributes := #[] }, { accessFlags := 26, nameIndex := 178, descriptorIndex := 15, attributes := #[] }, { accessFlags := 26, nameIndex := 180, descriptorIndex := 15, attributes := #[] }, { accessFlags := 26, nameIndex := 182, descriptorIndex := 183, attributes := #[] }])
  fields := #[{ name := "NATIVE_METHOD", type := (.object "java/lang/String"), accessFlags := 26, slot := 0, constantValue := 0 }, { name := "UNKNOWN_SOURCE", type := (.object "java/lang/String"), accessFlags := 26, slot := 1, constantValue := 0 }, { name := "declaringClassObject", type := (.object "java/lang/Class"), accessFlags := 130, slot := 0, constantValue := 0 }, { name := "classLoaderName", type := (.object "java/lang/String"), accessFlags := 2, slot := 1, constantValue := 0 }, { name := "moduleName", type := (.object "java/lang/String"), accessFlags := 2, slot := 2, constantValue := 0 }, { name := "moduleVersion", type := (.object "java/lang/String"), accessFlags := 2, slot := 3, constantValue := 0 }, { name := "declaringClass", type := (.object "java/lang/String"), accessFlags := 2, slot := 4, constantValue := 0 }, { name := "methodName", type := (.object "java/lang/String"), accessFlags := 2, slot := 5, constantValue := 0 }, { name := "fileName", type := (.object "java/lang/String"), accessFlags := 2, slot := 6, constantValue := 0 }, { name := "lineNumber", type := .int, accessFlags := 2, slot := 7, constantValue := 0 }, { name := "format", type := .byte, accessFlags := 2, slot := 8, constantValue := 0 }, { name := "BUILTIN_CLASS_LOADER", type := .byte, accessFlags := 26, slot := 2, constantValue := 0 }, { name := "JDK_NON_UPGRADEABLE_MODULE", type := .byte, accessFlags := 26, slot := 3, constantValue := 0 }, { name := "serialVersionUID", type := .long, accessFlags := 26, slot := 4, constantValue := 0 }]
  methods := #[k25m0]
  instanceTypes := #[(.object "java/lang/Class"), (.object "java/lang/String"), (.object "java/lang/String"), (.object "java/lang/String"), (.object "java/lang/String"), (.object "java/lang/String"), (.object "java/lang/String"), .int, .byte]
  staticTypes := #[(.object "java/lang/String"), (.object "java/lang/String"), .byte, .byte, .long]
  resolved := Array.replicate 235 none
  statics := none }

def pool26 : Array CpInfo := pool [(1, u "java/lang/Cloneable"), (0, .class_ 1), (0, u "java/lang/Object"), (0, .class_ 3)] 3

/-- java/lang/Cloneable -/
def k26 : Class := { plain "java/lang/Cloneable" (some 0) with
  accessFlags := 1537
  interfaces := #[]
  cf := some (fileOf pool26 2 #[] #[] 1537 4 #[] #[])
  fields := #[]
  methods := #[]
  instanceTypes := #[]
  staticTypes := #[]
  resolved := Array.replicate 8 none
  statics := none }

/-- the primitive byte -/
def k27 : Class := { plain "byte" none with kind := .primitive 'B', accessFlags := 0x411 }
/-- [B -/
def k28 : Class := { plain "[B" (some 0) with kind := .array 27 .byte, interfaces := #[26, 2], accessFlags := 1041 }

/-- the primitive char -/
def k29 : Class := { plain "char" none with kind := .primitive 'C', accessFlags := 0x411 }
/-- [C -/
def k30 : Class := { plain "[C" (some 0) with kind := .array 29 .char, interfaces := #[26, 2], accessFlags := 1041 }

/-- the primitive int -/
def k31 : Class := { plain "int" none with kind := .primitive 'I', accessFlags := 0x411 }
/-- [I -/
def k32 : Class := { plain "[I" (some 0) with kind := .array 31 .int, interfaces := #[26, 2], accessFlags := 1041 }

/-- [Ljava/lang/StackTraceElement; -/
def k33 : Class := { plain "[Ljava/lang/StackTraceElement;" (some 0) with kind := .array 25 (.object "java/lang/StackTraceElement"), interfaces := #[26, 2], accessFlags := 1041 }

/-- [Ljava/lang/Throwable; -/
def k34 : Class := { plain "[Ljava/lang/Throwable;" (some 0) with kind := .array 9 (.object "java/lang/Throwable"), interfaces := #[26, 2], accessFlags := 1041 }

def heap : Heap := #[{ cls := 7, slots := #[.long 0, .int 1, .null, .int 0, .null, .int 0, .int 0], vm := .statics 7 },
  { cls := 9, slots := #[.long 0, .ref 4, .ref 5, .null, .null, .null, .null, .ref 6, .int 1], vm := .statics 9 },
  { cls := 14, slots := #[.null, .null, .null], vm := .statics 14 },
  { cls := 16, slots := #[.int 0, .int 0, .int 0, .int 0, .int 0, .int 0, .int 0, .int 0, .null, .null, .ref 5, .null], vm := .statics 16 },
  { cls := 33, slots := #[], vm := .none },
  { cls := 24, slots := #[.int 0], vm := .none },
  { cls := 34, slots := #[], vm := .none }]
def classes : Array Class := #[k0, k1, k2, k3, k4, k5, k6, k7, k8, k9, k10, k11, k12, k13, k14, k15, k16, k17, k18, k19, k20, k21, k22, k23, k24, k25, k26, k27, k28, k29, k30, k31, k32, k33, k34]
def interned : List (Array UInt16 × Addr) := []
def slotsUsed : Nat := 32
def theMethod : MethodId := ⟨1, 1⟩
def args0 : Array Value := #[.int 5, .int 3, .int 4, .int 65]
def aboutOver (below : List Frame) : State where
  vm := { classes := classes, interned := interned.toArray }
  heap := heap
  slotsUsed := slotsUsed
  threads := #[{ frames := .invoking theMethod args0 :: below }]
def below0 : List Frame := [.native { method := ⟨0, 0⟩, args := #[] }]
def about1 : State := aboutOver below0
def p0 : Program := .bare "" "" ""
def e0 : Env := launch0.env 0 0 0
theorem w_frames : about1.frames = Frame.invoking theMethod args0 :: below0 := rfl
set_option maxRecDepth 65536 in
theorem w_args : argsFit about1.vm theMethod args0 = true := by decide +kernel
set_option maxRecDepth 65536 in
theorem w_heap : heapFits about1 = true := by decide +kernel
set_option maxRecDepth 65536 in
theorem w_runnable : about1.curStatus? = some .runnable := by decide +kernel
set_option maxRecDepth 65536 in
theorem w_alone : about1.alone = true := by decide +kernel
set_option maxRecDepth 65536 in
theorem w_named : about1.methodNamed? x = some theMethod := by decide +kernel
set_option maxRecDepth 65536 in
theorem w_hears : about1.hears theMethod below0 = true := by decide +kernel
set_option maxRecDepth 65536 in
theorem w_ripe : about1.ripe theMethod args0 below0 = true := by decide +kernel
theorem w_running : about1.status = .running := rfl
set_option maxRecDepth 65536 in
theorem w_room : about1.hasRoom e0.platform room_1 = true :=
  launch0.hasRoom_least _ room_1 (by decide +kernel) (by decide +kernel) (by decide +kernel) (by decide +kernel) (by decide +kernel) (by decide +kernel)
theorem allAtoms_all (ts : List Jvm.Cond) (a : Array Jvm.Value) (st : Jvm.State) : (allAtoms ts).before a st = ts.all (fun c => c.before a st) := by
  induction ts with
  | nil => rfl
  | cons c t ih =>
    show (Jvm.Cond.and c (allAtoms t)).before a st = _
    rw [Jvm.Cond.before_and, ih, List.all_cons]
def words1 : List Jvm.Cond := Jvm.Cond.code x code maxLocals ret :: tables_1
/-- a 'code' word, met by the world's own term for the bytes: nothing is compared byte by byte -/
theorem code_word {y : MethodName} {bytes : ByteArray} {mx : Nat} {rt : Option FieldType} {a : Array Value} {s : State} {m : MethodId} {meth : Method} {c : Code} (h1 : s.methodNamed? y = some m) (h2 : s.vm.method? m = some meth) (h3 : meth.code = some c) (h4 : c.code = bytes)
    (h5 : (c.maxLocals == mx && c.exceptionTable.isEmpty && decide (c.maxStack ≤ mostOperands) && decide (meth.sig.returnType = rt) && !meth.locks && decide (parseMethodDescriptor y.desc = some meth.sig)) = true) : (Jvm.Cond.code y bytes mx rt).before a s = true := by
  simp only [Bool.and_eq_true, beq_iff_eq, Bool.not_eq_true', decide_eq_true_eq] at h5
  obtain ⟨⟨⟨⟨⟨g1, g2⟩, g3⟩, g4⟩, g5⟩, g6⟩ := h5
  simp [Cond.before, Cond.holds, Cond.value, h1, h2, h3, h4, g1, g2, g3, g4, g5, g6]
def isCode : Jvm.Cond → Bool
  | .code _ _ _ _ => true
  | _ => false
theorem all_split {L : List Jvm.Cond} {P : Jvm.Cond → Bool} (h1 : L.all (fun c => isCode c || P c) = true) (h2 : ∀ c ∈ L.filter isCode, P c = true) : L.all P = true := by
  refine List.all_eq_true.mpr fun c hc => ?_
  have h := List.all_eq_true.mp h1 c hc
  rcases Bool.eq_false_or_eq_true (isCode c) with hi | hi
  · exact h2 c (List.mem_filter.mpr ⟨hc, hi⟩)
  · simpa [hi] using h
set_option maxRecDepth 65536 in
theorem w_c0 : (Jvm.Cond.code x code maxLocals ret).before args0 about1 = true := code_word (m := ⟨1, 1⟩) (meth := k1m1) (c := k1c1) (by decide +kernel) rfl rfl rfl (by decide +kernel)
set_option maxRecDepth 65536 in
theorem w_c1 : (Jvm.Cond.code ({ cls := "java/lang/String", name := "<init>", desc := "([C)V" } : Jvm.MethodName) jdk_42_method_3_code (2 : Nat) (Option.none : Option Jvm.ClassFile.FieldType)).before args0 about1 = true := code_word (m := ⟨7, 1⟩) (meth := k7m1) (c := k7c1) (by decide +kernel) rfl rfl rfl (by decide +kernel)
set_option maxRecDepth 65536 in
theorem w_c2 : (Jvm.Cond.code ({ cls := "java/lang/String", name := "<init>", desc := "([CIILjava/lang/Void;)V" } : Jvm.MethodName) jdk_42_method_149_code (6 : Nat) (Option.none : Option Jvm.ClassFile.FieldType)).before args0 about1 = true := code_word (m := ⟨7, 2⟩) (meth := k7m2) (c := k7c2) (by decide +kernel) rfl rfl rfl (by decide +kernel)
set_option maxRecDepth 65536 in
theorem w_c3 : (Jvm.Cond.code ({ cls := "java/lang/Object", name := "<init>", desc := "()V" } : Jvm.MethodName) object_method_1_code (1 : Nat) (Option.none : Option Jvm.ClassFile.FieldType)).before args0 about1 = true := code_word (m := ⟨0, 0⟩) (meth := k0m0) (c := k0c0) (by decide +kernel) rfl rfl rfl (by decide +kernel)
set_option maxRecDepth 65536 in
theorem w_c4 : (Jvm.Cond.code ({ cls := "java/lang/StringUTF16", name := "compress", desc := "([CII)[B" } : Jvm.MethodName) jdk_52_method_16_code (6 : Nat) (Option.some (Jvm.ClassFile.FieldType.array Jvm.ClassFile.FieldType.byte))).before args0 about1 = true := code_word (m := ⟨8, 2⟩) (meth := k8m2) (c := k8c2) (by decide +kernel) rfl rfl rfl (by decide +kernel)
set_option maxRecDepth 65536 in
theorem w_c5 : (Jvm.Cond.code ({ cls := "java/lang/StringUTF16", name := "compress", desc := "([CI[BII)I" } : Jvm.MethodName) jdk_52_method_21_code (7 : Nat) (Option.some Jvm.ClassFile.FieldType.int)).before args0 about1 = true := code_word (m := ⟨8, 3⟩) (meth := k8m3) (c := k8c3) (by decide +kernel) rfl rfl rfl (by decide +kernel)
set_option maxRecDepth 65536 in
theorem w_c6 : (Jvm.Cond.code ({ cls := "java/lang/StringUTF16", name := "coderFromArrayLen", desc := "([BI)B" } : Jvm.MethodName) jdk_52_method_15_code (2 : Nat) (Option.some Jvm.ClassFile.FieldType.byte)).before args0 about1 = true := code_word (m := ⟨8, 1⟩) (meth := k8m1) (c := k8c1) (by decide +kernel) rfl rfl rfl (by decide +kernel)
set_option maxRecDepth 65536 in
theorem w_c7 : (Jvm.Cond.code ({ cls := "com/example/goalpost/goalpost/runtime/NotSupported", name := "<init>", desc := "(Ljava/lang/String;)V" } : Jvm.MethodName) prog_52_method_1_code (2 : Nat) (Option.none : Option Jvm.ClassFile.FieldType)).before args0 about1 = true := code_word (m := ⟨12, 0⟩) (meth := k12m0) (c := k12c0) (by decide +kernel) rfl rfl rfl (by decide +kernel)
set_option maxRecDepth 65536 in
theorem w_c8 : (Jvm.Cond.code ({ cls := "java/lang/RuntimeException", name := "<init>", desc := "(Ljava/lang/String;Ljava/lang/Throwable;ZZ)V" } : Jvm.MethodName) jdk_58_method_5_code (5 : Nat) (Option.none : Option Jvm.ClassFile.FieldType)).before args0 about1 = true := code_word (m := ⟨11, 1⟩) (meth := k11m1) (c := k11c1) (by decide +kernel) rfl rfl rfl (by decide +kernel)
set_option maxRecDepth 65536 in
theorem w_c9 : (Jvm.Cond.code ({ cls := "java/lang/Exception", name := "<init>", desc := "(Ljava/lang/String;Ljava/lang/Throwable;ZZ)V" } : Jvm.MethodName) jdk_59_method_5_code (5 : Nat) (Option.none : Option Jvm.ClassFile.FieldType)).before args0 about1 = true := code_word (m := ⟨10, 1⟩) (meth := k10m1) (c := k10c1) (by decide +kernel) rfl rfl rfl (by decide +kernel)
set_option maxRecDepth 65536 in
theorem w_c10 : (Jvm.Cond.code ({ cls := "java/lang/Throwable", name := "<init>", desc := "(Ljava/lang/String;Ljava/lang/Throwable;ZZ)V" } : Jvm.MethodName) jdk_78_method_5_code (5 : Nat) (Option.none : Option Jvm.ClassFile.FieldType)).before args0 about1 = true := code_word (m := ⟨9, 1⟩) (meth := k9m1) (c := k9c1) (by decide +kernel) rfl rfl rfl (by decide +kernel)
set_option maxRecDepth 65536 in
theorem w_c11 : (Jvm.Cond.code ({ cls := "com/example/goalpost/goalpost/runtime/NotSupported", name := "at", desc := "(I)Lcom/example/goalpost/goalpost/runtime/NotSupported;" } : Jvm.MethodName) prog_52_method_2_code (2 : Nat) (Option.some (Jvm.ClassFile.FieldType.object "com/example/goalpost/goalpost/runtime/NotSupported"))).before args0 about1 = true := code_word (m := ⟨12, 1⟩) (meth := k12m1) (c := k12c1) (by decide +kernel) rfl rfl rfl (by decide +kernel)
def codes1 : List Jvm.Cond := [Jvm.Cond.code x code maxLocals ret, Jvm.Cond.code ({ cls := "java/lang/String", name := "<init>", desc := "([C)V" } : Jvm.MethodName) jdk_42_method_3_code (2 : Nat) (Option.none : Option Jvm.ClassFile.FieldType), Jvm.Cond.code ({ cls := "java/lang/String", name := "<init>", desc := "([CIILjava/lang/Void;)V" } : Jvm.MethodName) jdk_42_method_149_code (6 : Nat) (Option.none : Option Jvm.ClassFile.FieldType), Jvm.Cond.code ({ cls := "java/lang/Object", name := "<init>", desc := "()V" } : Jvm.MethodName) object_method_1_code (1 : Nat) (Option.none : Option Jvm.ClassFile.FieldType), Jvm.Cond.code ({ cls := "java/lang/StringUTF16", name := "compress", desc := "([CII)[B" } : Jvm.MethodName) jdk_52_method_16_code (6 : Nat) (Option.some (Jvm.ClassFile.FieldType.array Jvm.ClassFile.FieldType.byte)), Jvm.Cond.code ({ cls := "java/lang/StringUTF16", name := "compress", desc := "([CI[BII)I" } : Jvm.MethodName) jdk_52_method_21_code (7 : Nat) (Option.some Jvm.ClassFile.FieldType.int), Jvm.Cond.code ({ cls := "java/lang/StringUTF16", name := "coderFromArrayLen", desc := "([BI)B" } : Jvm.MethodName) jdk_52_method_15_code (2 : Nat) (Option.some Jvm.ClassFile.FieldType.byte), Jvm.Cond.code ({ cls := "com/example/goalpost/goalpost/runtime/NotSupported", name := "<init>", desc := "(Ljava/lang/String;)V" } : Jvm.MethodName) prog_52_method_1_code (2 : Nat) (Option.none : Option Jvm.ClassFile.FieldType), Jvm.Cond.code ({ cls := "java/lang/RuntimeException", name := "<init>", desc := "(Ljava/lang/String;Ljava/lang/Throwable;ZZ)V" } : Jvm.MethodName) jdk_58_method_5_code (5 : Nat) (Option.none : Option Jvm.ClassFile.FieldType), Jvm.Cond.code ({ cls := "java/lang/Exception", name := "<init>", desc := "(Ljava/lang/String;Ljava/lang/Throwable;ZZ)V" } : Jvm.MethodName) jdk_59_method_5_code (5 : Nat) (Option.none : Option Jvm.ClassFile.FieldType), Jvm.Cond.code ({ cls := "java/lang/Throwable", name := "<init>", desc := "(Ljava/lang/String;Ljava/lang/Throwable;ZZ)V" } : Jvm.MethodName) jdk_78_method_5_code (5 : Nat) (Option.none : Option Jvm.ClassFile.FieldType), Jvm.Cond.code ({ cls := "com/example/goalpost/goalpost/runtime/NotSupported", name := "at", desc := "(I)Lcom/example/goalpost/goalpost/runtime/NotSupported;" } : Jvm.MethodName) prog_52_method_2_code (2 : Nat) (Option.some (Jvm.ClassFile.FieldType.object "com/example/goalpost/goalpost/runtime/NotSupported"))]
set_option maxRecDepth 65536 in
theorem codes_eq : words1.filter isCode = codes1 := rfl
theorem w_codes : ∀ c ∈ words1.filter isCode, c.before args0 about1 = true := by
  rw [codes_eq]
  intro c hc
  simp only [codes1, List.mem_cons, List.not_mem_nil, or_false] at hc
  rcases hc with rfl | rfl | rfl | rfl | rfl | rfl | rfl | rfl | rfl | rfl | rfl | rfl
  · exact w_c0
  · exact w_c1
  · exact w_c2
  · exact w_c3
  · exact w_c4
  · exact w_c5
  · exact w_c6
  · exact w_c7
  · exact w_c8
  · exact w_c9
  · exact w_c10
  · exact w_c11
set_option maxRecDepth 65536 in
theorem w_t1 : (words1.take 24).all (fun c => isCode c || c.before args0 about1) = true := by decide +kernel
set_option maxRecDepth 65536 in
theorem w_t2 : ((words1.drop 24).take 24).all (fun c => isCode c || c.before args0 about1) = true := by decide +kernel
set_option maxRecDepth 65536 in
theorem w_t3 : (((words1.drop 24).drop 24).take 24).all (fun c => isCode c || c.before args0 about1) = true := by decide +kernel
set_option maxRecDepth 65536 in
theorem w_t4 : (((words1.drop 24).drop 24).drop 24).all (fun c => isCode c || c.before args0 about1) = true := by decide +kernel
theorem w_tables : (allAtoms (Jvm.Cond.code x code maxLocals ret :: tables_1)).before args0 about1 = true := by
  rw [allAtoms_all]
  show words1.all (fun c => c.before args0 about1) = true
  refine all_split ?_ w_codes
  rw [← List.take_append_drop 24 words1, List.all_append, w_t1, ← List.take_append_drop 24 (words1.drop 24), List.all_append, w_t2, ← List.take_append_drop 24 ((words1.drop 24).drop 24), List.all_append, w_t3, w_t4]
  rfl
set_option maxRecDepth 65536 in
theorem w_rest : rest_1_c.before args0 about1 = true := by decide +kernel
set_option maxRecDepth 65536 in
theorem w_case : (Jvm.Cond.and given_1 narrow_1).before args0 about1 = true := by decide +kernel
theorem w_applies : (headSpec (Jvm.Cond.code x code maxLocals ret :: tables_1) room_1).applies x e0.platform about1 = true :=
  (Spec.applies_iff w_frames).mpr ⟨w_running, w_runnable, w_alone, w_named, w_hears, w_ripe, w_room, w_tables⟩
theorem atStart : AtStart classFile x code maxLocals ret World_1 tables_1 room_1 Calls_1 rest_1 Pre_1 launch0 p0 e0 about1 theMethod args0 below0 :=
  ⟨lists_1, trivial, launch0.admits_env _ _ _, launch0.least_env, fairChoices_fair.cas, fairChoices_fair.clock, w_frames, w_args, w_heap, w_applies, trivial, w_rest, w_case⟩
end start1
theorem witness_1 : WitnessClaimed_1 := ⟨start1.p0, start1.e0, start1.about1, start1.theMethod, start1.args0, start1.below0, start1.atStart⟩
end Jvm.Pilot.@@N@@
