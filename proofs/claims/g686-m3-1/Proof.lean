import JvmDerived
import JvmDerived.Pilot.@@N@@Statement
import JvmDerived.Pilot.@@N@@Code
set_option linter.unusedVariables false
set_option linter.unusedSimpArgs false
/- laws to paste: Road.backV, Road.eqW, Road.codOf (cut by pick.py; bodies as the Statement names them) -/
namespace Jvm.Pilot.@@N@@
namespace StrChars
open Jvm Sem ClassFile Op Lib Jvm.Stand Jvm.Free.XT Jvm.Free.ALB Jvm.Free.JM Jvm.Free
open Jvm.Lib.Cold (StaticIs)
/-- a char array whose places are chars -/
def Ch (a : Addr) (A : Cell) (U : State) : Prop := Arr .char a A U ∧ Typed .char A
theorem Ch.mv {a : Addr} {A : Cell} {U U' : State} (h : Ch a A U) (hal : U.vm.Alike U'.vm) (hh : U'.heap = U.heap) : Ch a A U' := ⟨h.1.mv hal hh, h.2⟩
theorem Ch.keep {a : Addr} {A : Cell} {U U' : State} (h : Ch a A U) (hal : U.vm.Alike U'.vm) (hk : U'.heap[a]? = some A) : Ch a A U' := ⟨h.1.keep hal hk, h.2⟩
/-- what place i of a char[]'s cell holds -/
def cv (A : Cell) (i : Nat) : Int32 := match A.slots[i]? with | some (.int x) => x | _ => 0
theorem Ch.get {a : Addr} {A : Cell} {U : State} (h : Ch a A U) {i : Nat} (hi : i < A.slots.size) : A.slots[i]? = some (.int (cv A i)) := by
  have e := Array.getElem?_eq_getElem hi
  have f := h.2 i _ e
  unfold cv; rw [e]
  generalize A.slots[i] = v at f
  cases v <;> simp [fits] at f ⊢
/-- the byte that i2b leaves of a char -/
def lo8 (x : Int32) : Int32 := x.toInt8.toInt32
theorem fits_lo8 (y : Int32) : fits .byte (.int (lo8 y)) = true := by
  have h1 := y.toInt8.le_toInt
  have h2 := y.toInt8.toInt_lt
  simp only [lo8, fits, Bool.and_eq_true, decide_eq_true_eq, Int32.le_iff_toInt_le, Int8.toInt_toInt32, show (-128 : Int32).toInt = -128 from by decide, show (127 : Int32).toInt = 127 from by decide]
  omega
/-- A' is A but that each place j of lo .. hi - 1 holds f j -/
def Laid (A A' : Cell) (lo hi : Nat) (f : Nat → Value) : Prop := A'.cls = A.cls ∧ A'.vm = A.vm ∧ A'.slots.size = A.slots.size ∧ ∀ i, A'.slots[i]? = if lo ≤ i ∧ i < hi then some (f i) else A.slots[i]?
theorem Laid.zero (A : Cell) (lo : Nat) (f : Nat → Value) : Laid A A lo (lo + 0) f := ⟨rfl, rfl, rfl, fun i => by rw [if_neg (by omega)]⟩
theorem Laid.step {A Ak : Cell} {lo k : Nat} {f : Nat → Value} {v : Value} (h : Laid A Ak lo k f) (hlo : lo ≤ k) (hk : k < Ak.slots.size) (hv : v = f k) : Laid A (Ak.setSlot k v) lo (k + 1) f := by
  refine ⟨h.1, h.2.1, by simpa [Cell.setSlot] using h.2.2.1, fun i => ?_⟩
  by_cases e : k = i
  · subst e; rw [Cell.slots_setSlot_self v hk, if_pos (by omega), hv]
  · rw [Cell.slots_setSlot_ne v e, h.2.2.2 i]
    by_cases q : lo ≤ i ∧ i < k
    · rw [if_pos q, if_pos (by omega)]
    · rw [if_neg q, if_neg (by omega)]
def U16 : String := "java/lang/StringUTF16"
namespace Cmp5
def yN : MethodName := ⟨"java/lang/StringUTF16", "compress", "([CI[BII)I"⟩
abbrev yB : ByteArray := jdk_52_method_21_code
theorem d0 : decode yB 0 = .ok (.iconst 0, 1) := by decide +kernel
theorem d1 : decode yB 1 = .ok (.istore 5, 2) := by decide +kernel
theorem d3 : decode yB 3 = .ok (.iload 5, 2) := by decide +kernel
theorem d5 : decode yB 5 = .ok (.iload 4, 2) := by decide +kernel
theorem d7 : decode yB 7 = .ok (.if_icmp (.ge) 37, 3) := by decide +kernel
theorem d10 : decode yB 10 = .ok (.aload_n 0, 1) := by decide +kernel
theorem d11 : decode yB 11 = .ok (.iload_n 1, 1) := by decide +kernel
theorem d12 : decode yB 12 = .ok (.caload, 1) := by decide +kernel
theorem d13 : decode yB 13 = .ok (.istore 6, 2) := by decide +kernel
theorem d15 : decode yB 15 = .ok (.iload 6, 2) := by decide +kernel
theorem d17 : decode yB 17 = .ok (.sipush 255, 3) := by decide +kernel
theorem d20 : decode yB 20 = .ok (.if_icmp (.le) 6, 3) := by decide +kernel
theorem d26 : decode yB 26 = .ok (.aload_n 2, 1) := by decide +kernel
theorem d27 : decode yB 27 = .ok (.iload_n 3, 1) := by decide +kernel
theorem d28 : decode yB 28 = .ok (.iload 6, 2) := by decide +kernel
theorem d30 : decode yB 30 = .ok (.i2b, 1) := by decide +kernel
theorem d31 : decode yB 31 = .ok (.bastore, 1) := by decide +kernel
theorem d32 : decode yB 32 = .ok (.iinc 1 1, 3) := by decide +kernel
theorem d35 : decode yB 35 = .ok (.iinc 3 1, 3) := by decide +kernel
theorem d38 : decode yB 38 = .ok (.iinc 5 1, 3) := by decide +kernel
theorem d41 : decode yB 41 = .ok (.goto (-38), 3) := by decide +kernel
theorem d44 : decode yB 44 = .ok (.iload 4, 2) := by decide +kernel
theorem d46 : decode yB 46 = .ok (.ireturn, 1) := by decide +kernel
def site : List Cond := []
def tab : Cond := tabOf yN yB 7 (some .int) site
def P (b : Addr) (A : Cell) (d : Addr) (B : Cell) (o q len : Nat) (args : Array Value) (s : State) : Prop := args = #[.ref b, .int (Int32.ofNat o), .ref d, .int (Int32.ofNat q), .int (Int32.ofNat len)] ∧ Ch b A s ∧ Arr .byte d B s ∧ b ≠ d ∧ o + len ≤ A.slots.size ∧ q + len ≤ B.slots.size ∧ ∀ i, i < len → ¬ 255 < cv A (o + i)
def E (b : Addr) (A : Cell) (d : Addr) (B : Cell) (o q len : Nat) (r : Option Value) (s u : State) : Prop := r = some (.int (Int32.ofNat len)) ∧ ∃ B', Put d B' s u ∧ Laid B B' q (q + len) (fun j => Value.int (lo8 (cv A (o + (j - q)))))
/-- no char of the range above 255: len; the places written hold each char's low byte -/
theorem law (l : Launch) (b : Addr) (A : Cell) (d : Addr) (B : Cell) (o q len : Nat) : Law l yN 5 5 0 0 yB 7 (some .int) site (P b A d B o q len) (E b A d B o q len) (copyLocs d q len) 0 0 := by
  refine Law.of_walk (plainFor_of_name (by decide +kernel)) (by decide +kernel) (by decide +kernel) (by decide) (fun _ _ h => by rw [h.1]; rfl) (fun _ U U' hal hh h => ⟨h.1, h.2.1.mv hal hh, h.2.2.1.mv hal hh, h.2.2.2⟩) (fun r U U' V V' h1 hal h2 h => ⟨h.1, h.2.elim fun B' q => ⟨B', q.1.mv h1 h2, q.2⟩⟩) ?_
  intro p e s m args below meth c s₁ X0 hexec hbytes hml hret hlk hnm hown hh0 W hP
  obtain ⟨rfl, hA, hB, hne, l1, l2, hp⟩ := hP
  have c1 : Steps p.tables e below (s₁.setTop (entryFrame m #[.ref b, .int (Int32.ofNat o), .ref d, .int (Int32.ofNat q), .int (Int32.ofNat len)] 7)) (s₁.setTop (mkF m 0 #[.val (.ref b), .val (.int (Int32.ofNat o)), .val (.ref d), .val (.int (Int32.ofNat q)), .val (.int (Int32.ofNat len)), .unset, .unset] [])) := entry rfl
  have hA0 := hA.1.mv X0.warmed.alike hh0
  have hB0 := hB.mv X0.warmed.alike hh0
  have a31 := hA.1.2.2.2
  have c2 : Steps p.tables e below (s₁.setTop (entryFrame m #[.ref b, .int (Int32.ofNat o), .ref d, .int (Int32.ofNat q), .int (Int32.ofNat len)] 7)) (s₁.setTop (mkF m 3 #[.val (.ref b), .val (.int (Int32.ofNat o)), .val (.ref d), .val (.int (Int32.ofNat q)), .val (.int (Int32.ofNat len)), .val (.int 0), .unset] [])) := c1.trans (by
    refine iconstV X0.here hexec rfl 0 (hb hbytes d0) (by decide) ?_
    refine XS.istore X0.here hexec rfl (hb hbytes d1) rfl rfl ?_
    exact Steps.refl _)
  have loop : ∀ (r i : Nat), i + r = len → ∀ (z : Slot), (z = .unset ∨ ∃ w, z = .val w ∧ w.category = 1) → ∀ (Tl : State) (Bk : Cell), Stand p l e { frames := 0, locals := 0, cells := 0, slots := 0 } s m #[.ref b, .int (Int32.ofNat o), .ref d, .int (Int32.ofNat q), .int (Int32.ofNat len)] below meth c Tl ([] ++ copyLocs d q i) 0 0 → Put d Bk s₁ Tl → Laid B Bk q (q + i) (fun j => Value.int (lo8 (cv A (o + (j - q))))) →
      Steps p.tables e below (s₁.setTop (entryFrame m #[.ref b, .int (Int32.ofNat o), .ref d, .int (Int32.ofNat q), .int (Int32.ofNat len)] 7)) (Tl.setTop (mkF m 3 #[.val (.ref b), .val (.int (Int32.ofNat (o + i))), .val (.ref d), .val (.int (Int32.ofNat (q + i))), .val (.int (Int32.ofNat len)), .val (.int (Int32.ofNat i)), z] [])) → ∃ (T' : State) (B' : Cell) (z' : Slot), Stand p l e { frames := 0, locals := 0, cells := 0, slots := 0 } s m #[.ref b, .int (Int32.ofNat o), .ref d, .int (Int32.ofNat q), .int (Int32.ofNat len)] below meth c T' ([] ++ copyLocs d q len) 0 0 ∧ Put d B' s₁ T' ∧ Laid B B' q (q + len) (fun j => Value.int (lo8 (cv A (o + (j - q))))) ∧
      Steps p.tables e below (s₁.setTop (entryFrame m #[.ref b, .int (Int32.ofNat o), .ref d, .int (Int32.ofNat q), .int (Int32.ofNat len)] 7)) (T'.setTop (mkF m 3 #[.val (.ref b), .val (.int (Int32.ofNat (o + len))), .val (.ref d), .val (.int (Int32.ofNat (q + len))), .val (.int (Int32.ofNat len)), .val (.int (Int32.ofNat len)), z'] [])) := by
    intro r
    induction r with
    | zero =>
      intro i hi z hz Tl Bk Xl pl fl cl
      have hil : i = len := by omega
      rw [hil] at Xl fl cl
      exact ⟨Tl, Bk, z, Xl, pl, fl, cl⟩
    | succ r ih =>
      intro i hi z hz Tl Bk Xl pl fl cl
      have all := X0.warmed.alike.symm.trans Xl.warmed.alike
      have hAl := hA0.keep all (pl.other hne hA0.1)
      have hBk := hB0.like all pl.1 fl.1 fl.2.1 fl.2.2.1
      have hlt : q + i < Bk.slots.size := by rw [fl.2.2.1]; omega
      have c3 : Steps p.tables e below (s₁.setTop (entryFrame m #[.ref b, .int (Int32.ofNat o), .ref d, .int (Int32.ofNat q), .int (Int32.ofNat len)] 7)) (Tl.setTop (mkF m 12 #[.val (.ref b), .val (.int (Int32.ofNat (o + i))), .val (.ref d), .val (.int (Int32.ofNat (q + i))), .val (.int (Int32.ofNat len)), .val (.int (Int32.ofNat i)), z] [.int (Int32.ofNat (o + i)), .ref b])) := cl.trans (by
        refine XS.iload Xl.here hexec rfl (hb hbytes d3) rfl ?_
        refine XS.iload Xl.here hexec rfl (hb hbytes d5) rfl ?_
        refine XS.icmpNo Xl.here hexec rfl (hb hbytes d7) rfl (ii_ge_f (lt32 (by omega) (by omega))) ?_
        refine XS.aloadN Xl.here hexec rfl (hb hbytes d10) rfl rfl ?_
        refine XS.iloadN Xl.here hexec rfl (hb hbytes d11) rfl ?_
        exact Steps.refl _)
      have c4 : Steps p.tables e below (s₁.setTop (entryFrame m #[.ref b, .int (Int32.ofNat o), .ref d, .int (Int32.ofNat q), .int (Int32.ofNat len)] 7)) (Tl.setTop (mkF m 13 #[.val (.ref b), .val (.int (Int32.ofNat (o + i))), .val (.ref d), .val (.int (Int32.ofNat (q + i))), .val (.int (Int32.ofNat len)), .val (.int (Int32.ofNat i)), z] [.int (cv A (o + i))])) := c3.trans (by
        refine Xl.aget hexec hAl rfl (hA.get (i := o + i) (by omega)) rfl rfl (hb hbytes d12) ?_
        exact Steps.refl _)
      have c5 : Steps p.tables e below (s₁.setTop (entryFrame m #[.ref b, .int (Int32.ofNat o), .ref d, .int (Int32.ofNat q), .int (Int32.ofNat len)] 7)) (Tl.setTop (mkF m 15 #[.val (.ref b), .val (.int (Int32.ofNat (o + i))), .val (.ref d), .val (.int (Int32.ofNat (q + i))), .val (.int (Int32.ofNat len)), .val (.int (Int32.ofNat i)), .val (.int (cv A (o + i)))] [])) := c4.trans (by
        refine XS.istoreS Xl.here hexec rfl (hb hbytes d13) rfl rfl hz ?_
        exact Steps.refl _)
      have c6 : Steps p.tables e below (s₁.setTop (entryFrame m #[.ref b, .int (Int32.ofNat o), .ref d, .int (Int32.ofNat q), .int (Int32.ofNat len)] 7)) (Tl.setTop (mkF m 31 #[.val (.ref b), .val (.int (Int32.ofNat (o + i))), .val (.ref d), .val (.int (Int32.ofNat (q + i))), .val (.int (Int32.ofNat len)), .val (.int (Int32.ofNat i)), .val (.int (cv A (o + i)))] [.int (lo8 (cv A (o + i))), .int (Int32.ofNat (q + i)), .ref d])) := c5.trans (by
        refine XS.iload Xl.here hexec rfl (hb hbytes d15) rfl ?_
        refine sipushV Xl.here hexec rfl 255 (hb hbytes d17) (by decide) ?_
        refine XS.icmpYes Xl.here hexec rfl (pc0 := 20) rfl (hb hbytes d20) rfl (ii_le_t (hp i (by omega))) (by decide) rfl ?_
        refine XS.aloadN Xl.here hexec rfl (hb hbytes d26) rfl rfl ?_
        refine XS.iloadN Xl.here hexec rfl (hb hbytes d27) rfl ?_
        refine XS.iload Xl.here hexec rfl (hb hbytes d28) rfl ?_
        refine i2b Xl.here hexec rfl (hb hbytes d30) rfl ?_
        exact Steps.refl _)
      obtain ⟨T7, X7, p7, st7⟩ := Xl.aput hexec hBk rfl hlt rfl (fits_lo8 (cv A (o + i))) (g := (mkF m 31 #[.val (.ref b), .val (.int (Int32.ofNat (o + i))), .val (.ref d), .val (.int (Int32.ofNat (q + i))), .val (.int (Int32.ofNat len)), .val (.int (Int32.ofNat i)), .val (.int (cv A (o + i)))] [.int (lo8 (cv A (o + i))), .int (Int32.ofNat (q + i)), .ref d])) rfl (rest := []) rfl (hb hbytes d31)
      have c8 : Steps p.tables e below (s₁.setTop (entryFrame m #[.ref b, .int (Int32.ofNat o), .ref d, .int (Int32.ofNat q), .int (Int32.ofNat len)] 7)) (T7.setTop (mkF m 32 #[.val (.ref b), .val (.int (Int32.ofNat (o + i))), .val (.ref d), .val (.int (Int32.ofNat (q + i))), .val (.int (Int32.ofNat len)), .val (.int (Int32.ofNat i)), .val (.int (cv A (o + i)))] [])) := c6.trans (st7 _ (Steps.refl _))
      have c9 : Steps p.tables e below (s₁.setTop (entryFrame m #[.ref b, .int (Int32.ofNat o), .ref d, .int (Int32.ofNat q), .int (Int32.ofNat len)] 7)) (T7.setTop (mkF m 3 #[.val (.ref b), .val (.int (Int32.ofNat (o + i) + 1)), .val (.ref d), .val (.int (Int32.ofNat (q + i) + 1)), .val (.int (Int32.ofNat len)), .val (.int (Int32.ofNat i + 1)), .val (.int (cv A (o + i)))] [])) := c8.trans (by
        refine iincV X7.here hexec rfl 1 (hb hbytes d32) (by decide) rfl rfl ?_
        refine iincV X7.here hexec rfl 1 (hb hbytes d35) (by decide) rfl rfl ?_
        refine iincV X7.here hexec rfl 1 (hb hbytes d38) (by decide) rfl rfl ?_
        refine XS.goto X7.here hexec rfl (pc0 := 41) rfl (hb hbytes d41) (by decide) rfl ?_
        exact Steps.refl _)
      have c10 : Steps p.tables e below (s₁.setTop (entryFrame m #[.ref b, .int (Int32.ofNat o), .ref d, .int (Int32.ofNat q), .int (Int32.ofNat len)] 7)) (T7.setTop (mkF m 3 #[.val (.ref b), .val (.int (Int32.ofNat (o + (i + 1)))), .val (.ref d), .val (.int (Int32.ofNat (q + (i + 1)))), .val (.int (Int32.ofNat len)), .val (.int (Int32.ofNat (i + 1))), .val (.int (cv A (o + i)))] [])) := by
        have := c9
        rw [succ32, succ32, succ32] at this
        exact this
      exact ih (i + 1) (by omega) _ (Or.inr ⟨_, rfl, rfl⟩) T7 _ (by rw [copyLocs_step, ← List.append_assoc]; exact X7) (pl.trans p7) (fl.step (by omega) hlt (by simp)) c10
  obtain ⟨T9, B9, z9, X9, p9, f9, g9⟩ := loop len 0 (by omega) .unset (Or.inl rfl) s₁ B (by simpa [copyLocs] using X0) ⟨hB0.1, fun _ _ => rfl, rfl⟩ (Laid.zero _ _ _) c2
  have c11 : Steps p.tables e below (s₁.setTop (entryFrame m #[.ref b, .int (Int32.ofNat o), .ref d, .int (Int32.ofNat q), .int (Int32.ofNat len)] 7)) (T9.setTop (mkF m 46 #[.val (.ref b), .val (.int (Int32.ofNat (o + len))), .val (.ref d), .val (.int (Int32.ofNat (q + len))), .val (.int (Int32.ofNat len)), .val (.int (Int32.ofNat len)), z9] [.int (Int32.ofNat len)])) := g9.trans (by
    refine XS.iload X9.here hexec rfl (hb hbytes d3) rfl ?_
    refine XS.iload X9.here hexec rfl (hb hbytes d5) rfl ?_
    refine XS.icmpYes X9.here hexec rfl (pc0 := 7) rfl (hb hbytes d7) rfl (ii_ge_t (nlt32 (by omega) (Nat.le_refl _))) (by decide) rfl ?_
    refine XS.iload X9.here hexec rfl (hb hbytes d44) rfl ?_
    exact Steps.refl _)
  exact ⟨T9, some (.int (Int32.ofNat len)), _, _, _, X9, by simp, rfl, rfl, (fun h => by cases h), ⟨rfl, B9, p9.from hh0, f9⟩, fun fs hl => c11.trans (X9.ireturnOut hexec hret rfl (Or.inl rfl) (hb hbytes d46) hl)⟩
end Cmp5
namespace Cmp3
def yN : MethodName := ⟨"java/lang/StringUTF16", "compress", "([CII)[B"⟩
abbrev yB : ByteArray := jdk_52_method_16_code
theorem d0 : decode yB 0 = .ok (.iload_n 2, 1) := by decide +kernel
theorem d1 : decode yB 1 = .ok (.newarray .byte, 2) := by decide +kernel
theorem d3 : decode yB 3 = .ok (.astore_n 3, 1) := by decide +kernel
theorem d4 : decode yB 4 = .ok (.aload_n 0, 1) := by decide +kernel
theorem d5 : decode yB 5 = .ok (.iload_n 1, 1) := by decide +kernel
theorem d6 : decode yB 6 = .ok (.aload_n 3, 1) := by decide +kernel
theorem d7 : decode yB 7 = .ok (.iconst 0, 1) := by decide +kernel
theorem d8 : decode yB 8 = .ok (.iload_n 2, 1) := by decide +kernel
theorem d9 : decode yB 9 = .ok (.invokestatic 115, 3) := by decide +kernel
theorem d12 : decode yB 12 = .ok (.istore 4, 2) := by decide +kernel
theorem d14 : decode yB 14 = .ok (.iload 4, 2) := by decide +kernel
theorem d16 : decode yB 16 = .ok (.iload_n 2, 1) := by decide +kernel
theorem d17 : decode yB 17 = .ok (.if_icmp (.eq) 40, 3) := by decide +kernel
theorem d57 : decode yB 57 = .ok (.aload_n 3, 1) := by decide +kernel
theorem d58 : decode yB 58 = .ok (.areturn, 1) := by decide +kernel
def site : List Cond := [.arrayClass .byte, Cmp5.tab] ++ staticW U16 115 Cmp5.yN
def tab : Cond := tabOf yN yB 6 (some (.array .byte)) site
def P (b : Addr) (A : Cell) (o len : Nat) (args : Array Value) (s : State) : Prop := args = #[.ref b, .int (Int32.ofNat o), .int (Int32.ofNat len)] ∧ Ch b A s ∧ o + len ≤ A.slots.size ∧ len ≤ 536870912 ∧ ∀ i, i < len → ¬ 255 < cv A (o + i)
def E (b : Addr) (A : Cell) (o len : Nat) (r : Option Value) (s u : State) : Prop := NewArr .byte "[B" len (fun j => .int (lo8 (cv A (o + j)))) r s u ∧ u.heap.size = s.heap.size + 1
/-- no char of the range above 255: a new byte[] of their low bytes -/
theorem law (l : Launch) (b : Addr) (A : Cell) (o len : Nat) : Law l yN 3 3 1 18 yB 6 (some (.array .byte)) site (P b A o len) (E b A o len) [] 1 len := by
  refine Law.of_walk (plainFor_of_name (by decide +kernel)) (by decide +kernel) (by decide +kernel) (by decide) (fun _ _ h => by rw [h.1]; rfl) (fun _ U U' hal hh h => ⟨h.1, h.2.1.mv hal hh, h.2.2⟩) (fun r U U' V V' h1 hal h2 h => ⟨NewArr.mv r U U' V V' h1 hal h2 h.1, by rw [h1, h2]; exact h.2⟩) ?_
  intro p e s m args below meth c s₁ X0 hexec hbytes hml hret hlk hnm hown hh0 W hP
  obtain ⟨rfl, hA, l1, l2, hp⟩ := hP
  have a31 := hA.1.2.2.2
  have c1 : Steps p.tables e below (s₁.setTop (entryFrame m #[.ref b, .int (Int32.ofNat o), .int (Int32.ofNat len)] 6)) (s₁.setTop (mkF m 0 #[.val (.ref b), .val (.int (Int32.ofNat o)), .val (.int (Int32.ofNat len)), .unset, .unset, .unset] [])) := entry rfl
  have c2 : Steps p.tables e below (s₁.setTop (entryFrame m #[.ref b, .int (Int32.ofNat o), .int (Int32.ofNat len)] 6)) (s₁.setTop (mkF m 1 #[.val (.ref b), .val (.int (Int32.ofNat o)), .val (.int (Int32.ofNat len)), .unset, .unset, .unset] [.int (Int32.ofNat len)])) := c1.trans (by
    refine XS.iloadN X0.here hexec rfl (hb hbytes d0) rfl ?_
    exact Steps.refl _)
  obtain ⟨T3, B3, X3, ba3, bs3, bv3, bh3, bf3, st3⟩ := X0.anew hexec (atype := .byte) (wk W (.arrayClass .byte)) rfl (by show len * 1 ≤ _; omega) (by omega) (g := (mkF m 1 #[.val (.ref b), .val (.int (Int32.ofNat o)), .val (.int (Int32.ofNat len)), .unset, .unset, .unset] [.int (Int32.ofNat len)])) rfl (hb hbytes d1) (rest := []) rfl (Nat.le_refl _) (by show 0 + len ≤ len; omega)
  rw [hh0] at ba3 st3
  have kp3 : XT.Kept s T3 := (XT.Kept.of_eq hh0).push bh3
  have hA3 := hA.keep X3.warmed.alike (kp3 _ _ hA.1.1)
  have hne : b ≠ s.heap.size := hA.1.ne
  have c4 : Steps p.tables e below (s₁.setTop (entryFrame m #[.ref b, .int (Int32.ofNat o), .int (Int32.ofNat len)] 6)) (T3.setTop (mkF m 3 #[.val (.ref b), .val (.int (Int32.ofNat o)), .val (.int (Int32.ofNat len)), .unset, .unset, .unset] [.ref s.heap.size])) := c2.trans (st3 _ (Steps.refl _))
  have c5 : Steps p.tables e below (s₁.setTop (entryFrame m #[.ref b, .int (Int32.ofNat o), .int (Int32.ofNat len)] 6)) (T3.setTop (mkF m 9 #[.val (.ref b), .val (.int (Int32.ofNat o)), .val (.int (Int32.ofNat len)), .val (.ref s.heap.size), .unset, .unset] [.int (Int32.ofNat len), .int 0, .ref s.heap.size, .int (Int32.ofNat o), .ref b])) := c4.trans (by
    refine XS.astoreN X3.here hexec rfl (hb hbytes d3) rfl rfl rfl ?_
    refine XS.aloadN X3.here hexec rfl (hb hbytes d4) rfl rfl ?_
    refine XS.iloadN X3.here hexec rfl (hb hbytes d5) rfl ?_
    refine XS.aloadN X3.here hexec rfl (hb hbytes d6) rfl rfl ?_
    refine iconstV X3.here hexec rfl 0 (hb hbytes d7) (by decide) ?_
    refine XS.iloadN X3.here hexec rfl (hb hbytes d8) rfl ?_
    exact Steps.refl _)
  obtain ⟨v6, T6, X6, E6, g6⟩ := X3.callS hexec (Cmp5.law l b A s.heap.size B3 o 0 len) hown (wks W (staticW U16 115 Cmp5.yN)) (wk W Cmp5.tab) (W := 0) (Nat.le_of_ble_eq_true rfl) (Nat.le_of_ble_eq_true rfl) (Nat.le_refl _) (by show 0 + len + 0 ≤ len; omega) (g := (mkF m 9 #[.val (.ref b), .val (.int (Int32.ofNat o)), .val (.int (Int32.ofNat len)), .val (.ref s.heap.size), .unset, .unset] [.int (Int32.ofNat len), .int (Int32.ofNat 0), .ref s.heap.size, .int (Int32.ofNat o), .ref b])) rfl (by rw [hml]; rfl) c5 (argsL := [.ref b, .int (Int32.ofNat o), .ref s.heap.size, .int (Int32.ofNat 0), .int (Int32.ofNat len)]) (rest := []) rfl rfl (by show 2 * 0 + 0 ≤ _; decide) (hb hbytes d9) (⟨rfl, hA3, ba3, hne, l1, by rw [bs3]; simp, hp⟩)
  obtain ⟨rfl, B6, p6, f6⟩ := E6
  have c7 : Steps p.tables e below (s₁.setTop (entryFrame m #[.ref b, .int (Int32.ofNat o), .int (Int32.ofNat len)] 6)) (T6.setTop (mkF m 12 #[.val (.ref b), .val (.int (Int32.ofNat o)), .val (.int (Int32.ofNat len)), .val (.ref s.heap.size), .unset, .unset] [.int (Int32.ofNat len)])) := g6
  have c8 : Steps p.tables e below (s₁.setTop (entryFrame m #[.ref b, .int (Int32.ofNat o), .int (Int32.ofNat len)] 6)) (T6.setTop (mkF m 58 #[.val (.ref b), .val (.int (Int32.ofNat o)), .val (.int (Int32.ofNat len)), .val (.ref s.heap.size), .val (.int (Int32.ofNat len)), .unset] [.ref s.heap.size])) := c7.trans (by
    refine XS.istore X6.here hexec rfl (hb hbytes d12) rfl rfl ?_
    refine XS.iload X6.here hexec rfl (hb hbytes d14) rfl ?_
    refine XS.iloadN X6.here hexec rfl (hb hbytes d16) rfl ?_
    refine XS.icmpYes X6.here hexec rfl (pc0 := 17) rfl (hb hbytes d17) rfl (ii_eq_t rfl) (by decide) rfl ?_
    refine XS.aloadN X6.here hexec rfl (hb hbytes d57) rfl rfl ?_
    exact Steps.refl _)
  have X8 := X6.wide (L' := []) (cells' := 1) (slots' := len) (fun x hx hlt => by
    simp only [List.nil_append, copyLocs, List.mem_map, List.mem_range] at hx
    obtain ⟨i, -, rfl⟩ := hx
    exact absurd hlt (Nat.lt_irrefl _)) (Nat.le_refl _) (by omega)
  exact ⟨T6, some (.ref s.heap.size), _, _, _, X8, rfl, rfl, rfl, (fun h => by cases h), ⟨⟨rfl, B6, ba3.like (X3.warmed.alike.symm.trans X6.warmed.alike) p6.1 f6.1 f6.2.1 f6.2.2.1, f6.2.1.trans bv3, by rw [X6.warmed.alike.findClass, f6.1]; exact bf3, by rw [f6.2.2.1, bs3]; simp, fun j hj => by rw [f6.2.2.2 j, if_pos (by omega)]; rfl, kp3.put p6 (Nat.le_refl _)⟩, by rw [p6.2.2, bh3, hh0]; simp⟩, fun fs hl => c8.trans (X8.areturnOut hexec rfl hret rfl (hb hbytes d58) hl)⟩
end Cmp3
namespace CodL
def yN : MethodName := ⟨"java/lang/StringUTF16", "coderFromArrayLen", "([BI)B"⟩
abbrev yB : ByteArray := jdk_52_method_15_code
theorem d0 : decode yB 0 = .ok (.iload_n 1, 1) := by decide +kernel
theorem d1 : decode yB 1 = .ok (.aload_n 0, 1) := by decide +kernel
theorem d2 : decode yB 2 = .ok (.arraylength, 1) := by decide +kernel
theorem d3 : decode yB 3 = .ok (.isub, 1) := by decide +kernel
theorem d4 : decode yB 4 = .ok (.bipush 31, 2) := by decide +kernel
theorem d6 : decode yB 6 = .ok (.iushr, 1) := by decide +kernel
theorem d7 : decode yB 7 = .ok (.i2b, 1) := by decide +kernel
theorem d8 : decode yB 8 = .ok (.ireturn, 1) := by decide +kernel
def site : List Cond := []
def tab : Cond := tabOf yN yB 2 (some .byte) site
def P (d : Addr) (B : Cell) (args : Array Value) (s : State) : Prop := args = #[.ref d, .int (Int32.ofNat B.slots.size)] ∧ Arr .byte d B s
def E (r : Option Value) (s u : State) : Prop := XT.PureE (some (.int 0)) r s u
/-- an array as long as the number of chars: LATIN1 -/
theorem law (l : Launch) (d : Addr) (B : Cell) : Law l yN 2 2 0 0 yB 2 (some .byte) site (P d B) E [] 0 0 := by
  refine Law.of_walk (plainFor_of_name (by decide +kernel)) (by decide +kernel) (by decide +kernel) (by decide) (fun _ _ h => by rw [h.1]; rfl) (fun _ U U' hal hh h => ⟨h.1, h.2.mv hal hh⟩) (fun r U U' V V' h1 hal h2 h => XT.PureE.mv r U U' V V' h1 hal h2 h) ?_
  intro p e s m args below meth c s₁ X0 hexec hbytes hml hret hlk hnm hown hh0 W hP
  obtain ⟨rfl, hB⟩ := hP
  have hB0 := hB.mv X0.warmed.alike hh0
  have c1 : Steps p.tables e below (s₁.setTop (entryFrame m #[.ref d, .int (Int32.ofNat B.slots.size)] 2)) (s₁.setTop (mkF m 0 #[.val (.ref d), .val (.int (Int32.ofNat B.slots.size))] [])) := entry rfl
  have c2 : Steps p.tables e below (s₁.setTop (entryFrame m #[.ref d, .int (Int32.ofNat B.slots.size)] 2)) (s₁.setTop (mkF m 2 #[.val (.ref d), .val (.int (Int32.ofNat B.slots.size))] [.ref d, .int (Int32.ofNat B.slots.size)])) := c1.trans (by
    refine XS.iloadN X0.here hexec rfl (hb hbytes d0) rfl ?_
    refine XS.aloadN X0.here hexec rfl (hb hbytes d1) rfl rfl ?_
    exact Steps.refl _)
  have c3 : Steps p.tables e below (s₁.setTop (entryFrame m #[.ref d, .int (Int32.ofNat B.slots.size)] 2)) (s₁.setTop (mkF m 8 #[.val (.ref d), .val (.int (Int32.ofNat B.slots.size))] [.int (lo8 (ushr (Int32.ofNat B.slots.size - Int32.ofNat B.slots.size) 31))])) := c2.trans (by
    refine X0.alen hexec hB0 rfl rfl (hb hbytes d2) ?_
    refine XS.isub X0.here hexec rfl (hb hbytes d3) rfl ?_
    refine bipushV X0.here hexec rfl 31 (hb hbytes d4) (by decide) ?_
    refine iushr X0.here hexec rfl (hb hbytes d6) rfl ?_
    refine i2b X0.here hexec rfl (hb hbytes d7) rfl ?_
    exact Steps.refl _)
  have e0 : lo8 (ushr (Int32.ofNat B.slots.size - Int32.ofNat B.slots.size) 31) = 0 := by rw [Int32.sub_self]; decide
  rw [e0] at c3
  exact ⟨s₁, some (.int 0), _, _, _, X0, rfl, rfl, rfl, (fun h => by cases h), ⟨rfl, hh0⟩, fun fs hl => c3.trans (X0.ireturnOut hexec hret rfl (Or.inr (Or.inr (Or.inl rfl))) (hb hbytes d8) hl)⟩
end CodL
/-- the String at a is Latin-1 over a new byte[] (the heap's one new cell): the low bytes of the len chars of A from o on; every cell but a is kept -/
def Got (a : Addr) (D : Cell) (fV fC : Field) (A : Cell) (o len : Nat) (r : Option Value) (s u : State) : Prop := r = none ∧ ∃ D' V : Cell, Blank "java/lang/String" a D' u ∧ Same D D' [fV.slot, fC.slot] ∧ D'.slots[fV.slot]? = some (.ref s.heap.size) ∧ D'.slots[fC.slot]? = some (.int 0) ∧ Arr .byte s.heap.size V u ∧ V.vm = .none ∧ u.vm.findClass "[B" = some V.cls ∧ V.slots.size = len ∧ (∀ j, j < len → V.slots[j]? = some (.int (lo8 (cv A (o + j))))) ∧ (∀ (y : Addr) (c : Cell), y ≠ a → s.heap[y]? = some c → u.heap[y]? = some c) ∧ u.heap.size = s.heap.size + 1
theorem Got.mv {a : Addr} {D A : Cell} {fV fC : Field} {o len : Nat} : ∀ r (U U' V V' : State), U'.heap = U.heap → V.vm.Alike V'.vm → V'.heap = V.heap → Got a D fV fC A o len r U V → Got a D fV fC A o len r U' V' :=
  fun r U U' V V' h1 hal h2 ⟨e0, D', X, a1, a2, a3, a4, a5, a6, a7, a8, a9, a10, a11⟩ => ⟨e0, D', X, a1.mv hal h2, a2, by rw [h1]; exact a3, a4, by rw [h1]; exact a5.mv hal h2, a6, by rw [hal.findClass]; exact a7, a8, a9, by rw [h1, h2]; exact a10, by rw [h1, h2]; exact a11⟩
namespace New4
def yN : MethodName := ⟨"java/lang/String", "<init>", "([CIILjava/lang/Void;)V"⟩
abbrev yB : ByteArray := jdk_42_method_149_code
theorem d0 : decode yB 0 = .ok (.aload_n 0, 1) := by decide +kernel
theorem d1 : decode yB 1 = .ok (.invokespecial 1, 3) := by decide +kernel
theorem d4 : decode yB 4 = .ok (.iload_n 3, 1) := by decide +kernel
theorem d5 : decode yB 5 = .ok (.ifCond (.ne) 22, 3) := by decide +kernel
theorem d27 : decode yB 27 = .ok (.getstatic 38, 3) := by decide +kernel
theorem d30 : decode yB 30 = .ok (.ifCond (.eq) 28, 3) := by decide +kernel
theorem d33 : decode yB 33 = .ok (.aload_n 1, 1) := by decide +kernel
theorem d34 : decode yB 34 = .ok (.iload_n 2, 1) := by decide +kernel
theorem d35 : decode yB 35 = .ok (.iload_n 3, 1) := by decide +kernel
theorem d36 : decode yB 36 = .ok (.invokestatic 177, 3) := by decide +kernel
theorem d39 : decode yB 39 = .ok (.astore 5, 2) := by decide +kernel
theorem d41 : decode yB 41 = .ok (.aload_n 0, 1) := by decide +kernel
theorem d42 : decode yB 42 = .ok (.aload 5, 2) := by decide +kernel
theorem d44 : decode yB 44 = .ok (.iload_n 3, 1) := by decide +kernel
theorem d45 : decode yB 45 = .ok (.invokestatic 47, 3) := by decide +kernel
theorem d48 : decode yB 48 = .ok (.putfield 15, 3) := by decide +kernel
theorem d51 : decode yB 51 = .ok (.aload_n 0, 1) := by decide +kernel
theorem d52 : decode yB 52 = .ok (.aload 5, 2) := by decide +kernel
theorem d54 : decode yB 54 = .ok (.putfield 9, 3) := by decide +kernel
theorem d57 : decode yB 57 = .ok (.return_, 1) := by decide +kernel
def site : List Cond := [.fieldLink "java/lang/String" 38 "java/lang/String" "COMPACT_STRINGS" "Z", Cmp3.tab, CodL.tab, .laysFinal "java/lang/String" "java/lang/String" "value" "[B", .fieldLink "java/lang/String" 9 "java/lang/String" "value" "[B", .laysFinal "java/lang/String" "java/lang/String" "coder" "B", .fieldLink "java/lang/String" 15 "java/lang/String" "coder" "B"] ++ objW "java/lang/String" 1 ++ staticW "java/lang/String" 177 Cmp3.yN ++ staticW "java/lang/String" 47 CodL.yN
def tab : Cond := tabOf yN yB 6 none site
def P (a : Addr) (D : Cell) (fV fC : Field) (b : Addr) (A : Cell) (z : Int32) (o len : Nat) (args : Array Value) (s : State) : Prop := args = #[.ref a, .ref b, .int (Int32.ofNat o), .int (Int32.ofNat len), .null] ∧ Blank "java/lang/String" a D s ∧ Found "java/lang/String" "value" "[B" fV s ∧ Found "java/lang/String" "coder" "B" fC s ∧ Ch b A s ∧ StaticIs s "java/lang/String" "COMPACT_STRINGS" "Z" (.int z) ∧ ¬ z = 0 ∧ 0 < len ∧ o + len ≤ A.slots.size ∧ len ≤ 536870912 ∧ ∀ i, i < len → ¬ 255 < cv A (o + i)
def E (a : Addr) (D : Cell) (fV fC : Field) (A : Cell) (o len : Nat) (r : Option Value) (s u : State) : Prop := Got a D fV fC A o len r s u
/-- len > 0, no char of the range above 255: a Latin-1 String of their low bytes -/
theorem law (l : Launch) (a : Addr) (D : Cell) (fV fC : Field) (b : Addr) (A : Cell) (z : Int32) (o len : Nat) : Law l yN 5 4 2 35 yB 6 none site (P a D fV fC b A z o len) (E a D fV fC A o len) [⟨a, fC.slot⟩, ⟨a, fV.slot⟩] 1 len := by
  refine Law.of_walk (plainFor_of_name (by decide +kernel)) (by decide +kernel) (by decide +kernel) (by decide) (fun _ _ h => by rw [h.1]; rfl) (fun _ U U' hal hh h => ⟨h.1, h.2.1.mv hal hh, h.2.2.1.al hal, h.2.2.2.1.al hal, h.2.2.2.2.1.mv hal hh, h.2.2.2.2.2.1.there hal hh, h.2.2.2.2.2.2⟩) (fun r U U' V V' h1 hal h2 h => Got.mv r U U' V V' h1 hal h2 h) ?_
  intro p e s m args below meth c s₁ X0 hexec hbytes hml hret hlk hnm hown hh0 W hP
  obtain ⟨rfl, hB, f1, f2, hA, s1, hz, l0, l1, l2, hp⟩ := hP
  have a31 := hA.1.2.2.2
  have c1 : Steps p.tables e below (s₁.setTop (entryFrame m #[.ref a, .ref b, .int (Int32.ofNat o), .int (Int32.ofNat len), .null] 6)) (s₁.setTop (mkF m 0 #[.val (.ref a), .val (.ref b), .val (.int (Int32.ofNat o)), .val (.int (Int32.ofNat len)), .val .null, .unset] [])) := entry rfl
  have c2 : Steps p.tables e below (s₁.setTop (entryFrame m #[.ref a, .ref b, .int (Int32.ofNat o), .int (Int32.ofNat len), .null] 6)) (s₁.setTop (mkF m 1 #[.val (.ref a), .val (.ref b), .val (.int (Int32.ofNat o)), .val (.int (Int32.ofNat len)), .val .null, .unset] [.ref a])) := c1.trans (by
    refine XS.aloadN X0.here hexec rfl (hb hbytes d0) rfl rfl ?_
    exact Steps.refl _)
  obtain ⟨T3, X3, q3, st3⟩ := X0.oinit hexec hown (wks W (objW "java/lang/String" 1)) (g := (mkF m 1 #[.val (.ref a), .val (.ref b), .val (.int (Int32.ofNat o)), .val (.int (Int32.ofNat len)), .val .null, .unset] [.ref a])) rfl (by rw [hml]; rfl) (rest := []) rfl (hb hbytes d1) (W := 0) (by show 2 * 0 + 0 ≤ _; decide) (Nat.le_of_ble_eq_true rfl) (Nat.le_of_ble_eq_true rfl)
  have hh3 := q3.trans hh0
  have c4 : Steps p.tables e below (s₁.setTop (entryFrame m #[.ref a, .ref b, .int (Int32.ofNat o), .int (Int32.ofNat len), .null] 6)) (T3.setTop (mkF m 27 #[.val (.ref a), .val (.ref b), .val (.int (Int32.ofNat o)), .val (.int (Int32.ofNat len)), .val .null, .unset] [])) := (c2.trans (st3 _ (Steps.refl _))).trans (by
    refine XS.iloadN X3.here hexec rfl (hb hbytes d4) rfl ?_
    refine XS.ifYes X3.here hexec rfl (pc0 := 5) rfl (hb hbytes d5) rfl (i0_ne_t (nz32 (by omega) l0)) (by decide) rfl ?_
    exact Steps.refl _)
  obtain ⟨T5, X5, q5, st5⟩ := X3.sget hexec hown (wk W (.fieldLink "java/lang/String" 38 "java/lang/String" "COMPACT_STRINGS" "Z")) s1 (fun _ _ h => by rw [hh3]; exact h) (g := (mkF m 27 #[.val (.ref a), .val (.ref b), .val (.int (Int32.ofNat o)), .val (.int (Int32.ofNat len)), .val .null, .unset] [])) rfl (hb hbytes d27)
  have hh5 := q5.trans hh3
  have c6 : Steps p.tables e below (s₁.setTop (entryFrame m #[.ref a, .ref b, .int (Int32.ofNat o), .int (Int32.ofNat len), .null] 6)) (T5.setTop (mkF m 30 #[.val (.ref a), .val (.ref b), .val (.int (Int32.ofNat o)), .val (.int (Int32.ofNat len)), .val .null, .unset] [.int z])) := c4.trans (st5 _ (Steps.refl _))
  have c7 : Steps p.tables e below (s₁.setTop (entryFrame m #[.ref a, .ref b, .int (Int32.ofNat o), .int (Int32.ofNat len), .null] 6)) (T5.setTop (mkF m 36 #[.val (.ref a), .val (.ref b), .val (.int (Int32.ofNat o)), .val (.int (Int32.ofNat len)), .val .null, .unset] [.int (Int32.ofNat len), .int (Int32.ofNat o), .ref b])) := c6.trans (by
    refine XS.ifNo X5.here hexec rfl (hb hbytes d30) rfl (i0_eq_f hz) ?_
    refine XS.aloadN X5.here hexec rfl (hb hbytes d33) rfl rfl ?_
    refine XS.iloadN X5.here hexec rfl (hb hbytes d34) rfl ?_
    refine XS.iloadN X5.here hexec rfl (hb hbytes d35) rfl ?_
    exact Steps.refl _)
  obtain ⟨v8, T8, X8, E8, g8⟩ := X5.callS hexec (Cmp3.law l b A o len) hown (wks W (staticW "java/lang/String" 177 Cmp3.yN)) (wk W Cmp3.tab) (W := 0) (Nat.le_of_ble_eq_true rfl) (Nat.le_of_ble_eq_true rfl) (Nat.le_refl _) (by show 0 + len ≤ len; omega) (g := (mkF m 36 #[.val (.ref a), .val (.ref b), .val (.int (Int32.ofNat o)), .val (.int (Int32.ofNat len)), .val .null, .unset] [.int (Int32.ofNat len), .int (Int32.ofNat o), .ref b])) rfl (by rw [hml]; rfl) c7 (argsL := [.ref b, .int (Int32.ofNat o), .int (Int32.ofNat len)]) (rest := []) rfl rfl (by show 2 * 0 + 0 ≤ _; decide) (hb hbytes d36) (⟨rfl, hA.mv X5.warmed.alike hh5, l1, l2, hp⟩)
  obtain ⟨e8, z8⟩ := E8
  obtain ⟨rfl, N, n1, n2, n3, n4, n5, n6⟩ := NewArr.mv _ T5 s _ _ hh5.symm (Vm.Alike.refl _) rfl e8
  rw [hh5] at z8
  have hB1 := hB.keep X8.warmed.alike (n6 _ _ hB.1)
  have hne : s.heap.size ≠ a := (Nat.ne_of_lt (Array.getElem?_eq_some_iff.mp hB.1).1).symm
  have c9 : Steps p.tables e below (s₁.setTop (entryFrame m #[.ref a, .ref b, .int (Int32.ofNat o), .int (Int32.ofNat len), .null] 6)) (T8.setTop (mkF m 39 #[.val (.ref a), .val (.ref b), .val (.int (Int32.ofNat o)), .val (.int (Int32.ofNat len)), .val .null, .unset] [.ref s.heap.size])) := g8
  have c10 : Steps p.tables e below (s₁.setTop (entryFrame m #[.ref a, .ref b, .int (Int32.ofNat o), .int (Int32.ofNat len), .null] 6)) (T8.setTop (mkF m 45 #[.val (.ref a), .val (.ref b), .val (.int (Int32.ofNat o)), .val (.int (Int32.ofNat len)), .val .null, .val (.ref s.heap.size)] [.int (Int32.ofNat N.slots.size), .ref s.heap.size, .ref a])) := by
    have hc : Steps p.tables e below (s₁.setTop (entryFrame m #[.ref a, .ref b, .int (Int32.ofNat o), .int (Int32.ofNat len), .null] 6)) (T8.setTop (mkF m 45 #[.val (.ref a), .val (.ref b), .val (.int (Int32.ofNat o)), .val (.int (Int32.ofNat len)), .val .null, .val (.ref s.heap.size)] [.int (Int32.ofNat len), .ref s.heap.size, .ref a])) := c9.trans (by
      refine XS.astore X8.here hexec rfl (hb hbytes d39) rfl rfl rfl ?_
      refine XS.aloadN X8.here hexec rfl (hb hbytes d41) rfl rfl ?_
      refine XS.aload X8.here hexec rfl (hb hbytes d42) rfl rfl ?_
      refine XS.iloadN X8.here hexec rfl (hb hbytes d44) rfl ?_
      exact Steps.refl _)
    rw [n4]; exact hc
  obtain ⟨v11, T11, X11, E11, g11⟩ := X8.callS hexec (CodL.law l s.heap.size N) hown (wks W (staticW "java/lang/String" 47 CodL.yN)) (wk W CodL.tab) (W := 1) (Nat.le_of_ble_eq_true rfl) (Nat.le_of_ble_eq_true rfl) (Nat.le_refl _) (by show 0 + len + 0 ≤ len; omega) (g := (mkF m 45 #[.val (.ref a), .val (.ref b), .val (.int (Int32.ofNat o)), .val (.int (Int32.ofNat len)), .val .null, .val (.ref s.heap.size)] [.int (Int32.ofNat N.slots.size), .ref s.heap.size, .ref a])) rfl (by rw [hml]; rfl) c10 (argsL := [.ref s.heap.size, .int (Int32.ofNat N.slots.size)]) (rest := [.ref a]) rfl rfl (by show 2 * 0 + (1 + 0) ≤ _; decide) (hb hbytes d45) (⟨rfl, n1⟩)
  obtain ⟨rfl, q11⟩ := E11
  have hB11 := hB1.mv (X8.warmed.alike.symm.trans X11.warmed.alike) q11
  have c12 : Steps p.tables e below (s₁.setTop (entryFrame m #[.ref a, .ref b, .int (Int32.ofNat o), .int (Int32.ofNat len), .null] 6)) (T11.setTop (mkF m 48 #[.val (.ref a), .val (.ref b), .val (.int (Int32.ofNat o)), .val (.int (Int32.ofNat len)), .val .null, .val (.ref s.heap.size)] [.int 0, .ref a])) := g11
  obtain ⟨T13, X13, p13, bl13, sl13, st13⟩ := X11.finit hexec hown (wk W (.fieldLink "java/lang/String" 15 "java/lang/String" "coder" "B")) (Or.inr ⟨_, (wk W (.laysFinal "java/lang/String" "java/lang/String" "coder" "B"))⟩) (Or.inl ⟨rfl, hnm⟩) f2 (Or.inl rfl) hB11 (t := .byte) (by decide +kernel) rfl (g := (mkF m 48 #[.val (.ref a), .val (.ref b), .val (.int (Int32.ofNat o)), .val (.int (Int32.ofNat len)), .val .null, .val (.ref s.heap.size)] [.int 0, .ref a])) rfl (rest := []) rfl (hb hbytes d48)
  have c14 : Steps p.tables e below (s₁.setTop (entryFrame m #[.ref a, .ref b, .int (Int32.ofNat o), .int (Int32.ofNat len), .null] 6)) (T13.setTop (mkF m 54 #[.val (.ref a), .val (.ref b), .val (.int (Int32.ofNat o)), .val (.int (Int32.ofNat len)), .val .null, .val (.ref s.heap.size)] [.ref s.heap.size, .ref a])) := (c12.trans (st13 _ (Steps.refl _))).trans (by
    refine XS.aloadN X13.here hexec rfl (hb hbytes d51) rfl rfl ?_
    refine XS.aload X13.here hexec rfl (hb hbytes d52) rfl rfl ?_
    exact Steps.refl _)
  obtain ⟨T15, X15, p15, bl15, sl15, st15⟩ := X13.finit hexec hown (wk W (.fieldLink "java/lang/String" 9 "java/lang/String" "value" "[B")) (Or.inr ⟨_, (wk W (.laysFinal "java/lang/String" "java/lang/String" "value" "[B"))⟩) (Or.inl ⟨rfl, hnm⟩) f1 (Or.inl rfl) bl13 (t := (.array .byte)) (by decide +kernel) rfl (g := (mkF m 54 #[.val (.ref a), .val (.ref b), .val (.int (Int32.ofNat o)), .val (.int (Int32.ofNat len)), .val .null, .val (.ref s.heap.size)] [.ref s.heap.size, .ref a])) rfl (rest := []) rfl (hb hbytes d54)
  have c16 : Steps p.tables e below (s₁.setTop (entryFrame m #[.ref a, .ref b, .int (Int32.ofNat o), .int (Int32.ofNat len), .null] 6)) (T15.setTop (mkF m 57 #[.val (.ref a), .val (.ref b), .val (.int (Int32.ofNat o)), .val (.int (Int32.ofNat len)), .val .null, .val (.ref s.heap.size)] [])) := c14.trans (st15 _ (Steps.refl _))
  have ap := apart (Or.inr ⟨_, (wk W (.laysFinal "java/lang/String" "java/lang/String" "value" "[B"))⟩) (Or.inr ⟨_, (wk W (.laysFinal "java/lang/String" "java/lang/String" "coder" "B"))⟩) f1 f2 (t₁ := .array .byte) (t₂ := .byte) (by decide +kernel) (by decide +kernel) (by decide)
  have al := X8.warmed.alike.symm.trans X15.warmed.alike
  have n7 : T11.heap[s.heap.size]? = some N := by rw [q11]; exact n1.1
  exact ⟨T15, none, _, _, _, X15, by simp, rfl, by omega, (fun _ => rfl), ⟨rfl, _, N, bl15, ((Same.refl D _).set _ (by simp)).set _ (by simp), sl15, (Cell.slots_setSlot_ne _ ap).trans sl13, n1.keep al (p15.other hne (p13.other hne n7)), n2, by rw [al.findClass]; exact n3, n4, n5, fun y c h1 h2 => p15.other h1 (p13.other h1 (by rw [q11]; exact n6 y c h2)), by rw [p15.2.2, p13.2.2, q11]; exact z8⟩, fun fs hl => c16.trans (X15.returnOut hexec hret (hb hbytes d57) hl)⟩
end New4
namespace New1
def yN : MethodName := ⟨"java/lang/String", "<init>", "([C)V"⟩
abbrev yB : ByteArray := jdk_42_method_3_code
theorem d0 : decode yB 0 = .ok (.aload_n 0, 1) := by decide +kernel
theorem d1 : decode yB 1 = .ok (.aload_n 1, 1) := by decide +kernel
theorem d2 : decode yB 2 = .ok (.iconst 0, 1) := by decide +kernel
theorem d3 : decode yB 3 = .ok (.aload_n 1, 1) := by decide +kernel
theorem d4 : decode yB 4 = .ok (.arraylength, 1) := by decide +kernel
theorem d5 : decode yB 5 = .ok (.aconst_null, 1) := by decide +kernel
theorem d6 : decode yB 6 = .ok (.invokespecial 27, 3) := by decide +kernel
theorem d9 : decode yB 9 = .ok (.return_, 1) := by decide +kernel
def site : List Cond := [New4.tab] ++ initW "java/lang/String" 27 New4.yN
def tab : Cond := tabOf yN yB 2 none site
def P (a : Addr) (D : Cell) (fV fC : Field) (b : Addr) (A : Cell) (z : Int32) (args : Array Value) (s : State) : Prop := args = #[.ref a, .ref b] ∧ Blank "java/lang/String" a D s ∧ Found "java/lang/String" "value" "[B" fV s ∧ Found "java/lang/String" "coder" "B" fC s ∧ Ch b A s ∧ StaticIs s "java/lang/String" "COMPACT_STRINGS" "Z" (.int z) ∧ ¬ z = 0 ∧ 0 < A.slots.size ∧ A.slots.size ≤ 536870912 ∧ ∀ i, i < A.slots.size → ¬ 255 < cv A i
def E (a : Addr) (D : Cell) (fV fC : Field) (A : Cell) (r : Option Value) (s u : State) : Prop := Got a D fV fC A 0 A.slots.size r s u
/-- new String(chars), not empty, no char above 255: a Latin-1 String of their low bytes -/
theorem law (l : Launch) (a : Addr) (D : Cell) (fV fC : Field) (b : Addr) (A : Cell) (z : Int32) : Law l yN 2 1 3 52 yB 2 none site (P a D fV fC b A z) (E a D fV fC A) [⟨a, fC.slot⟩, ⟨a, fV.slot⟩] 1 A.slots.size := by
  refine Law.of_walk (plainFor_of_name (by decide +kernel)) (by decide +kernel) (by decide +kernel) (by decide) (fun _ _ h => by rw [h.1]; rfl) (fun _ U U' hal hh h => ⟨h.1, h.2.1.mv hal hh, h.2.2.1.al hal, h.2.2.2.1.al hal, h.2.2.2.2.1.mv hal hh, h.2.2.2.2.2.1.there hal hh, h.2.2.2.2.2.2⟩) (fun r U U' V V' h1 hal h2 h => Got.mv r U U' V V' h1 hal h2 h) ?_
  intro p e s m args below meth c s₁ X0 hexec hbytes hml hret hlk hnm hown hh0 W hP
  obtain ⟨rfl, hB, f1, f2, hA, s1, hz, l0, l2, hp⟩ := hP
  have c1 : Steps p.tables e below (s₁.setTop (entryFrame m #[.ref a, .ref b] 2)) (s₁.setTop (mkF m 0 #[.val (.ref a), .val (.ref b)] [])) := entry rfl
  have c2 : Steps p.tables e below (s₁.setTop (entryFrame m #[.ref a, .ref b] 2)) (s₁.setTop (mkF m 6 #[.val (.ref a), .val (.ref b)] [.null, .int (Int32.ofNat A.slots.size), .int 0, .ref b, .ref a])) := c1.trans (by
    refine XS.aloadN X0.here hexec rfl (hb hbytes d0) rfl rfl ?_
    refine XS.aloadN X0.here hexec rfl (hb hbytes d1) rfl rfl ?_
    refine iconstV X0.here hexec rfl 0 (hb hbytes d2) (by decide) ?_
    refine XS.aloadN X0.here hexec rfl (hb hbytes d3) rfl rfl ?_
    refine X0.alen hexec (hA.1.mv X0.warmed.alike hh0) rfl rfl (hb hbytes d4) ?_
    refine XS.aconstNull X0.here hexec rfl (hb hbytes d5) ?_
    exact Steps.refl _)
  obtain ⟨v3, T3, X3, E3, g3⟩ := X0.callN hexec (New4.law l a D fV fC b A z 0 A.slots.size) rfl hown (wks W (initW "java/lang/String" 27 New4.yN)) (W New4.tab (by simp only [site, List.mem_cons, List.mem_append, true_or, or_true])) (W := 0) (Nat.le_of_ble_eq_true rfl) (Nat.le_of_ble_eq_true rfl) (Nat.le_refl _) (by show 0 + A.slots.size ≤ A.slots.size; omega) (g := (mkF m 6 #[.val (.ref a), .val (.ref b)] [.null, .int (Int32.ofNat A.slots.size), .int (Int32.ofNat 0), .ref b, .ref a])) rfl (by rw [hml]; rfl) c2 (argsL := [.ref b, .int (Int32.ofNat 0), .int (Int32.ofNat A.slots.size), .null]) (rest := []) rfl rfl (by show 2 * 0 + 0 ≤ _; decide) (hb hbytes d6) (⟨rfl, hB.mv X0.warmed.alike hh0, f1.al X0.warmed.alike, f2.al X0.warmed.alike, hA.mv X0.warmed.alike hh0, s1.there X0.warmed.alike hh0, hz, l0, by omega, l2, fun i hi => by rw [Nat.zero_add]; exact hp i hi⟩)
  have e0 := Got.mv _ s₁ s _ _ hh0.symm (Vm.Alike.refl _) rfl E3
  obtain rfl := e0.1
  have c4 : Steps p.tables e below (s₁.setTop (entryFrame m #[.ref a, .ref b] 2)) (T3.setTop (mkF m 9 #[.val (.ref a), .val (.ref b)] [])) := g3
  exact ⟨T3, none, _, _, _, X3, by simp, rfl, by omega, (fun _ => rfl), e0, fun fs hl => c4.trans (X3.returnOut hexec hret (hb hbytes d9) hl)⟩
theorem pays {l : Launch} {R : Room} {p : Program} {e : Env} {below : List Frame} {s : State} {sargs : Array Value} {len W : Nat} (a : Addr) (D : Cell) (fV fC : Field) (b : Addr) (A : Cell) (z : Int32) (htab : tab.before sargs s = true) (hfr : 4 ≤ R.frames) (hlo : W + 65 ≤ R.locals) :
    Back l R p e below s sargs yN len W (fun A₁ a₁ => A₁.cells + 1 ≤ R.cells ∧ A₁.slots + A.slots.size ≤ R.slots ∧ P a D fV fC b A z a₁ A₁.U) (fun A₁ _ v₁ B₁ => E a D fV fC A v₁ A₁.U B₁.U ∧ B₁.locs = A₁.locs ++ [⟨a, fC.slot⟩, ⟨a, fV.slot⟩] ∧ B₁.cells = A₁.cells + 1 ∧ B₁.slots = A₁.slots + A.slots.size) :=
  (law l a D fV fC b A z).pays htab hfr (by omega)
end New1
/-- the byte, read back as charAt reads it, is the char -/
theorem lo8_mask {x : Int32} (h0 : ¬ x < 0) (h1 : ¬ 255 < x) : lo8 x &&& 255 = x := by
  have t : ∀ k : Fin 256, lo8 (Int32.ofNat k.val) &&& 255 = Int32.ofNat k.val := by decide +kernel
  rw [Int32.lt_iff_toInt_lt] at h0 h1
  have e0 : (0 : Int32).toInt = 0 := rfl
  have e1 : (255 : Int32).toInt = 255 := rfl
  obtain ⟨k, hk⟩ : ∃ k : Nat, x.toInt = k := ⟨x.toInt.toNat, by omega⟩
  have hx : x = Int32.ofNat k := Int32.toInt_inj.mp (by rw [hk, Int32.toInt_ofNat_small (by omega)])
  rw [hx]
  exact t ⟨k, by omega⟩
end StrChars
namespace StrChars.Road
open Jvm Sem ClassFile Op Lib Jvm.Stand Jvm.Free Jvm.Free.XT
open Jvm.Lib.Cold (StaticIs)
abbrev ST : String := "java/lang/String"
/-- every table word that New1's law asks, flat -/
abbrev words : List Jvm.Cond := [.code New1.yN New1.yB 2 none, .initialized ST, .methodLink ST 27 New4.yN, .instanceMethod New4.yN,
  .code New4.yN New4.yB 6 none, .fieldLink ST 38 ST "COMPACT_STRINGS" "Z", .laysFinal ST ST "value" "[B", .fieldLink ST 9 ST "value" "[B", .laysFinal ST ST "coder" "B", .fieldLink ST 15 ST "coder" "B",
  .methodLink ST 1 Lib.objectInit, .instanceMethod Lib.objectInit, .code Lib.objectInit ⟨#[0xb1]⟩ 1 none, .methodLink ST 177 Cmp3.yN, .static Cmp3.yN, .methodLink ST 47 CodL.yN, .static CodL.yN,
  .code Cmp3.yN Cmp3.yB 6 (some (.array .byte)), .initialized U16, .arrayClass .byte, .methodLink U16 115 Cmp5.yN, .static Cmp5.yN, .code Cmp5.yN Cmp5.yB 7 (some .int), .code CodL.yN CodL.yB 2 (some .byte)]
theorem tab_of {a : Array Value} {s : State} (h : ∀ w ∈ words, w.before a s = true) : New1.tab.before a s = true := by
  have h5 : Cmp5.tab.before a s = true := unparts (wk h (.code Cmp5.yN Cmp5.yB 7 (some .int))) (wks h (.initialized Cmp5.yN.cls :: Cmp5.site))
  have hc : CodL.tab.before a s = true := unparts (wk h (.code CodL.yN CodL.yB 2 (some .byte))) (wks h (.initialized CodL.yN.cls :: CodL.site))
  have q5 : ∀ w ∈ Cmp5.tab :: words, w.before a s = true := fun w hw => (List.mem_cons.mp hw).elim (fun e => e ▸ h5) (h w)
  have h3 : Cmp3.tab.before a s = true := unparts (wk q5 (.code Cmp3.yN Cmp3.yB 6 (some (.array .byte)))) (wks q5 (.initialized Cmp3.yN.cls :: Cmp3.site))
  have q3 : ∀ w ∈ Cmp3.tab :: CodL.tab :: words, w.before a s = true := fun w hw => (List.mem_cons.mp hw).elim (fun e => e ▸ h3) fun hw => (List.mem_cons.mp hw).elim (fun e => e ▸ hc) (h w)
  have h4 : New4.tab.before a s = true := unparts (wk q3 (.code New4.yN New4.yB 6 none)) (wks q3 (.initialized New4.yN.cls :: New4.site))
  have q4 : ∀ w ∈ New4.tab :: words, w.before a s = true := fun w hw => (List.mem_cons.mp hw).elim (fun e => e ▸ h4) (h w)
  exact unparts (wk q4 (.code New1.yN New1.yB 2 none)) (wks q4 (.initialized New1.yN.cls :: New1.site))
/-- the words ride from the start Z to the walk's own state -/
theorem moved {Z s : State} {a0 args : Array Value} (hZ : Z.Warmed39 s.vm) (hw : ∀ d ∈ words, d.before a0 Z = true) : ∀ d ∈ words, d.before args s = true := fun d hd => by
  have q := hw d hd
  have t : ∀ d ∈ words, d = .arrayClass .byte ∨ (d.onTables && d.keepsFace) = true := by decide +kernel
  rcases t d hd with rfl | t
  · exact RoadKit.mvA hZ q
  · exact RoadKit.mv hZ q t
/-- WHAT COMES BACK, over the tables of the start Z: h the heap at the call, h' behind it -/
def Q (Z : State) (x : Addr) (A : Cell) (h : Heap) (v : Option Value) (h' : Heap) (L : List Loc) : Prop := v = none ∧ (∀ y ∈ L, y.base = x) ∧ RoadKit.Keep h h' [x] ∧ h'.size = h.size + 1 ∧ RoadKit.Exa Z h' x ST ∧ RoadKit.Fld Z h' x ST "value" "[B" (.ref h.size) ∧ RoadKit.Fld Z h' x ST "coder" "B" (.int 0) ∧
  (∃ V : Cell, RoadKit.Arr Z h' h.size V .byte ∧ V.vm = .none ∧ Z.vm.findClass "[B" = some V.cls ∧ V.slots.size = A.slots.size ∧ ∀ j, j < A.slots.size → V.slots[j]? = some (.int (lo8 (cv A j)))) ∧
  ∀ (O n d : String) (w : Value), RoadKit.Fld Z h x O n d w → RoadKit.slotOf Z O n d ≠ RoadKit.slotOf Z ST "value" "[B" → RoadKit.slotOf Z O n d ≠ RoadKit.slotOf Z ST "coder" "B" → RoadKit.Fld Z h' x O n d w
/-- **new String(chars) AT A CALL, IN THE ROAD'S FORM**: for specialBack behind newO: x the fresh String, b the char[] with the cell A -/
theorem back {p : Program} {l : Launch} {e : Env} {R : Room} {s : State} {args : Array Value} {below : List Frame} {len W : Nat} {Z : State} {a0 : Array Value} {h : Heap} (hZ : Z.Warmed39 s.vm) (hw : ∀ d ∈ words, d.before a0 Z = true) {kI : Nat} (wi : (Jvm.Cond.instantiable ST kI).before a0 Z = true)
    {x b : Addr} {A : Cell} {z : Int32} {v0 c0 : Value} (E : RoadKit.Exa Z h x ST) (V : RoadKit.Fld Z h x ST "value" "[B" v0) (C : RoadKit.Fld Z h x ST "coder" "B" c0) (K : RoadKit.Arr Z h b A .char) (hty : Typed .char A) (S : RoadKit.Sta Z h ST "COMPACT_STRINGS" "Z" (.int z)) (hz : ¬ z = 0)
    (l0 : 0 < A.slots.size) (l2 : A.slots.size ≤ 536870912) (hp : ∀ i, i < A.slots.size → ¬ 255 < cv A i) (hfr : 4 ≤ R.frames) (hlo : W + 65 ≤ R.locals) :
    Back l R p e below s args New1.yN len W (fun P a => a = #[.ref x, .ref b] ∧ P.U.heap = h ∧ P.cells + 1 ≤ R.cells ∧ P.slots + A.slots.size ≤ R.slots)
      (fun P _ v B => ∃ L, Q Z x A h v B.U.heap L ∧ B.locs = P.locs ++ L ∧ B.cells = P.cells + 1 ∧ B.slots = P.slots + A.slots.size) := by
  intro m meth c P g ig mk a X hg hsize hdg hW hn hp'
  obtain ⟨rfl, rfl, r1, r2⟩ := hp'
  have al : Z.vm.Alike P.U.vm := hZ.alike.trans X.warmed.alike
  obtain ⟨D, cfV, kV, iV, fV, hD, gV, stV, knV, obV, asV, slV⟩ := id V
  obtain ⟨D', cfC, kC, iC, fC, hD', gC, stC, -, -, asC, slC⟩ := id C
  cases hD.symm.trans hD'
  obtain ⟨D2, kD, e1, e2, e3, e4, e5⟩ := id E
  cases hD.symm.trans e1
  obtain ⟨c2, k2, i1, i2, i3, -⟩ := Cond.instantiable_spec wi
  cases e2.symm.trans i1
  cases e3.symm.trans i2
  obtain ⟨kU, u1, u2⟩ := al.2.2 _ _ e3
  have hB : Blank ST x D P.U := ⟨hD, ⟨knV, fun q hq => by rw [hq] at obV; cases obV⟩, by rw [al.findClass]; exact e2, kU, u1, by rw [u2]; exact i3, by rw [u2]; exact e5 i3⟩
  have F1 : Found ST "value" "[B" fV P.U := ⟨SBG.found_only al ⟨cfV, kV, iV, gV⟩, stV⟩
  have F2 : Found ST "coder" "B" fC P.U := ⟨SBG.found_only al ⟨cfC, kC, iC, gC⟩, stC⟩
  have hA : Ch b A P.U := ⟨⟨K.1, State.isArrayOf_alike al K.2.1, K.2.2, by omega⟩, hty⟩
  have hS : StaticIs P.U ST "COMPACT_STRINGS" "Z" (.int z) := by
    obtain ⟨cfS, iS, kS, fS, st, cS, t1, t2, t3, t4, t5, t6, t7⟩ := S
    exact StaticIs.there (s := { Z with heap := P.U.heap }) ⟨cfS, iS, kS, fS, st, cS, t1, t2, t3, t4, t5, (fun q => by rw [q] at t6; cases t6), t7⟩ al rfl
  obtain ⟨v, B, X', ⟨⟨hv, E', V', q1, q2, q3, q4, q5, q6, q7, q8, q9, q10, q11⟩, hl, hc, hs⟩, st⟩ := New1.pays x D fV fC b A z (tab_of (moved hZ hw)) hfr hlo m meth c P g ig mk _ X hg hsize hdg hW hn ⟨r1, r2, rfl, hB, F1, F2, hA, hS, hz, l0, l2, hp⟩
  have al' : Z.vm.Alike B.U.vm := hZ.alike.trans X'.warmed.alike
  have hsz : E'.slots.size = D.slots.size := by
    obtain ⟨-, -, -, kB, w1, w2, w3⟩ := q1
    obtain ⟨kB', y1, y2⟩ := al'.2.2 _ _ e3
    rw [q2.2.1] at w1
    cases w1.symm.trans y1
    rw [w3, e5 i3, y2]
  refine ⟨v, B, X', ⟨_, ⟨hv, ?_, ⟨by omega, fun y cy hy hn' => q10 y cy (by simpa using hn') hy, fun y cy hy => ?_⟩, q11, ⟨E', _, q1.1, by rw [q2.2.1]; exact e2, by rw [q2.2.1]; exact e3, by rw [q2.1]; exact obV, fun _ => by rw [hsz]; exact e5 i3⟩,
    ⟨E', cfV, kV, iV, fV, q1.1, gV, stV, by rw [q2.1]; exact knV, by rw [q2.1]; exact obV, by rw [q2.2.1]; exact asV, q3⟩, ⟨E', cfC, kC, iC, fC, q1.1, gC, stC, by rw [q2.1]; exact knV, by rw [q2.1]; exact obV, by rw [q2.2.1]; exact asC, q4⟩,
    ⟨V', ⟨q5.1, State.isArrayOf_alike al'.symm q5.2.1, q5.2.2.1⟩, q6, by rw [← al'.findClass]; exact q7, q8, fun j hj => by have := q9 j hj; rwa [Nat.zero_add] at this⟩, fun O n d w F n1 n2 => ?_⟩, hl, hc, hs⟩, st⟩
  · intro y hy
    simp only [List.mem_cons, List.not_mem_nil, or_false] at hy
    rcases hy with rfl | rfl <;> rfl
  · by_cases q : y = x
    · subst q
      cases hD.symm.trans hy
      exact ⟨E', q1.1, q2.2.1, q2.1, hsz⟩
    · exact ⟨cy, q10 y cy q hy, rfl, rfl, rfl⟩
  · obtain ⟨D3, cf, k, i, f, g1, g2, g3, g4, g5, g6, g7⟩ := F
    cases hD.symm.trans g1
    simp only [RoadKit.slotOf, g2, gV, gC, Option.map_some, Option.getD_some] at n1 n2
    exact ⟨E', cf, k, i, f, q1.1, g2, g3, by rw [q2.1]; exact g4, by rw [q2.1]; exact g5, by rw [q2.2.1]; exact g6, by rw [q2.2.2 f.slot (by simp [n1, n2])]; exact g7⟩
end StrChars.Road
namespace StrChars.Road
open Jvm Sem ClassFile Op Lib Jvm.Stand Jvm.Free Jvm.Free.XT
/-- WHAT COMES BACK, the byte[] as a list of values -/
def QA (Z : State) (x : Addr) (zn : Int32) (cs : List Int32) (h : Heap) (v : Option Value) (h' : Heap) (L : List Loc) : Prop := v = none ∧ (∀ y ∈ L, y.base = x) ∧ RoadKit.Keep h h' [x] ∧ h'.size = h.size + 1 ∧ RoadKit.Exa Z h' x ST ∧ RoadKit.Fld Z h' x ST "value" "[B" (.ref h.size) ∧ RoadKit.Fld Z h' x ST "coder" "B" (.int 0) ∧
  (∃ kb, Z.vm.findClass "[B" = some kb ∧ RoadKit.Arv Z h' h.size kb .byte zn (cs.map fun c => .int (lo8 c)) (.int 0)) ∧
  ∀ (O n d : String) (w : Value), RoadKit.Fld Z h x O n d w → RoadKit.slotOf Z O n d ≠ RoadKit.slotOf Z ST "value" "[B" → RoadKit.slotOf Z O n d ≠ RoadKit.slotOf Z ST "coder" "B" → RoadKit.Fld Z h' x O n d w
/-- **new String(chars) AT A CALL, THE ARRAYS AS LISTS**: the char[] at b holds cs, not empty, no char above 255 -/
theorem backArv {p : Program} {l : Launch} {e : Env} {R : Room} {s : State} {args : Array Value} {below : List Frame} {len W : Nat} {Z : State} {a0 : Array Value} {h : Heap} (hZ : Z.Warmed39 s.vm) (hw : ∀ d ∈ words, d.before a0 Z = true) {kI : Nat} (wi : (Jvm.Cond.instantiable ST kI).before a0 Z = true)
    {x b : Addr} {k : ClassId} {zn z : Int32} {cs : List Int32} {dv v0 c0 : Value} (E : RoadKit.Exa Z h x ST) (V : RoadKit.Fld Z h x ST "value" "[B" v0) (C : RoadKit.Fld Z h x ST "coder" "B" c0) (K : RoadKit.Arv Z h b k .char zn (cs.map Value.int) dv) (S : RoadKit.Sta Z h ST "COMPACT_STRINGS" "Z" (.int z)) (hz : ¬ z = 0)
    (hlen : zn.toNatClampNeg = cs.length) (h0 : 0 < cs.length) (hbig : cs.length ≤ 536870912) (hall : ∀ c ∈ cs, ¬ 255 < c) (hfr : 4 ≤ R.frames) (hlo : W + 65 ≤ R.locals) :
    Back l R p e below s args New1.yN len W (fun P a => a = #[.ref x, .ref b] ∧ P.U.heap = h ∧ P.cells + 1 ≤ R.cells ∧ P.slots + cs.length ≤ R.slots)
      (fun P _ v B => ∃ L, QA Z x zn cs h v B.U.heap L ∧ B.locs = P.locs ++ L ∧ B.cells = P.cells + 1 ∧ B.slots = P.slots + cs.length) := by
  obtain ⟨A, K1, K2, K3, K4, K5, K6⟩ := K
  have e : A.slots.size = cs.length := K3.trans hlen
  have hat : ∀ (i : Nat) (hi : i < cs.length), A.slots[i]? = some (.int cs[i]) := fun i hi => by rw [K5 i (by omega)]; simp [List.getD_eq_getElem?_getD, hi]
  have hcv : ∀ (i : Nat) (hi : i < cs.length), cv A i = cs[i] := fun i hi => by unfold cv; rw [hat i hi]
  have hty : Typed .char A := fun i v hv => by
    have hi : i < A.slots.size := (Array.getElem?_eq_some_iff.mp hv).1
    have q := K5 i hi
    rw [hv] at q
    rw [Option.some.inj q]
    exact K6 i hi
  refine Back.mono (back hZ hw wi E V C K1 hty S hz (by omega) (by omega) (fun i hi => by rw [hcv i (by omega)]; exact hall _ (List.getElem_mem _)) hfr hlo) (fun P a hp => ⟨hp.1, hp.2.1, hp.2.2.1, by rw [e]; exact hp.2.2.2⟩) (fun P a v B hp hq => ?_)
  obtain ⟨L, ⟨q1, q2, q3, q4, q5, q6, q7, ⟨V', v1, v2, v3, v4, v5⟩, q9⟩, hl, hc, hs⟩ := hq
  refine ⟨L, ⟨q1, q2, q3, q4, q5, q6, q7, ⟨V'.cls, v3, V', v1, rfl, by rw [v4, e, hlen], K4, fun i hi => ?_, fun i hi => ?_⟩, q9⟩, hl, hc, by rw [hs, e]⟩
  · have hi' : i < cs.length := by omega
    rw [v5 i (by omega), hcv i hi']; simp [List.getD_eq_getElem?_getD, hi']
  · have hi' : i < cs.length := by omega
    simp only [List.getD_eq_getElem?_getD, List.getElem?_map, List.getElem?_eq_getElem hi', Option.map_some, Option.getD_some]
    exact fits_lo8 _
end StrChars.Road
namespace StrChars.Road
open Jvm Sem ClassFile Op Lib Jvm.Stand Jvm.Free Jvm.Free.XT
/-- WHAT COMES BACK, in the writer's own shape -/
def QV (Z : State) (x : Addr) (N : Int32) (bs : List Int32) (h : Heap) (n0 : Nat) (v : Option Value) (h' : Heap) (L : List Loc) : Prop := v = none ∧ RoadKit.Fr n0 L ∧ RoadKit.Keep h h' [x] ∧ RoadKit.Exa Z h' x ST ∧ RoadKit.Fld Z h' x ST "coder" "B" (.int 0) ∧
  ∃ (t : Addr) (kb : ClassId), n0 ≤ t ∧ h.size ≤ t ∧ ¬ t = x ∧ RoadKit.Fld Z h' x ST "value" "[B" (.ref t) ∧ RoadKit.Arv Z h' t kb .byte N (bs.map Value.int) (.int 0)
/-- **new String(chars) AT A CALL, FOR THE WRITER**: a char[] of n known ints, each 0 to 255 -/
theorem backV {p : Program} {l : Launch} {e : Env} {R : Room} {s : State} {args : Array Value} {below : List Frame} {len W : Nat} {Z : State} {a0 : Array Value} {h : Heap} (hZ : Z.Warmed39 s.vm) (hw : ∀ d ∈ words, d.before a0 Z = true) {kI : Nat} (wi : (Jvm.Cond.instantiable ST kI).before a0 Z = true)
    {x b : Addr} {kC : ClassId} {cs bs : List Int32} {d v0 c0 : Value} {z N : Int32} {n n0 : Nat} (hx0 : n0 ≤ x) (hh0 : n0 ≤ h.size) (E : RoadKit.Exa Z h x ST) (V : RoadKit.Fld Z h x ST "value" "[B" v0) (C : RoadKit.Fld Z h x ST "coder" "B" c0) (K : RoadKit.Arv Z h b kC .char N (cs.map Value.int) d) (S : RoadKit.Sta Z h ST "COMPACT_STRINGS" "Z" (.int z)) (hz : ¬ z = 0)
    (hn : cs.length = n) (hN : N = Int32.ofNat n) (l0 : 0 < n) (l2 : n ≤ 4000) (hp : ∀ c ∈ cs, ¬ c < 0 ∧ ¬ (255 : Int32) < c) (hb : bs = cs.map (fun c => c.toInt8.toInt32)) (hfr : 4 ≤ R.frames) (hlo : W + 65 ≤ R.locals) :
    Back l R p e below s args (⟨"java/lang/String", "<init>", "([C)V"⟩ : MethodName) len W (fun P a => a = #[.ref x, .ref b] ∧ P.U.heap = h ∧ P.cells + 1 ≤ R.cells ∧ P.slots + n ≤ R.slots)
      (fun P _ v B => ∃ L, QV Z x N bs h n0 v B.U.heap L ∧ B.locs = P.locs ++ L ∧ B.cells = P.cells + 1 ∧ B.slots = P.slots + n) := by
  subst hn hN hb
  refine Back.mono (backArv hZ hw wi E V C K S hz (n32 (by omega)) l0 (by omega) (fun c hc => (hp c hc).2) hfr hlo) (fun P a hp => hp) (fun P a v B hp hq => ?_)
  obtain ⟨L, ⟨q1, q2, q3, q4, q5, q6, q7, ⟨kb, v1, v2⟩, q9⟩, hl, hc, hs⟩ := hq
  exact ⟨L, ⟨q1, fun y hy => by rw [q2 y hy]; exact hx0, q3, q5, q7, h.size, kb, hh0, Nat.le_refl _, Nat.ne_of_gt E.lt, q6, by rw [List.map_map]; exact v2⟩, hl, hc, hs⟩
end StrChars.Road
namespace StrChars
open Jvm Sem ClassFile Op Lib Jvm.Stand Jvm.Free.XT Jvm.Free.ALB Jvm.Free.JM Jvm.Free
open Jvm.Lib.Cold (StaticIs)
def hi8 (x : Int32) : Int32 := lo8 (x >>> ((8 : Int32) &&& 31))
/-- what StringUTF16.getChar makes of two bytes -/
def pairCh (u v : Int32) : Int32 := (((u &&& 255) <<< ((0 : Int32) &&& 31)) ||| ((v &&& 255) <<< ((8 : Int32) &&& 31))).toUInt32.toUInt16.toUInt32.toInt32
theorem lo8_and (x : Int32) : (lo8 x &&& 255).toBitVec.toNat = x.toBitVec.toNat % 256 := by
  have h : (lo8 x).toBitVec = (x.toBitVec.signExtend 8).signExtend 32 := by rw [lo8, Int8.toBitVec_toInt32, Int32.toBitVec_toInt8]
  rw [Int32.toBitVec_and, BitVec.toNat_and, h]
  have e : ((x.toBitVec.signExtend 8).signExtend 32).toNat % 256 = x.toBitVec.toNat % 256 := by
    rw [BitVec.toNat_signExtend]
    have hlt := x.toBitVec.isLt
    simp only [BitVec.toNat_setWidth, BitVec.toNat_signExtend]
    split <;> split <;> omega
  rw [← e]
  exact Nat.and_two_pow_sub_one_eq_mod _ 8
theorem pair_says {c : Int32} (h0 : ¬ c < 0) (h1 : ¬ 65535 < c) : pairCh (lo8 c) (hi8 c) = c := by
  rw [Int32.lt_iff_toInt_lt] at h0 h1
  have e0 : (0 : Int32).toInt = 0 := rfl
  have e1 : (65535 : Int32).toInt = 65535 := rfl
  have hc : c.toInt = c.toBitVec.toNat := by
    have := c.toBitVec.isLt
    have e : c.toInt = c.toBitVec.toInt := rfl
    rw [e] at h0 h1
    rw [e]
    rw [BitVec.toInt_eq_toNat_cond] at h0 h1 ⊢
    split at h0 <;> split <;> omega
  have hn : c.toBitVec.toNat < 65536 := by omega
  have a1 := lo8_and c
  have a2 : (hi8 c &&& 255).toBitVec.toNat = c.toBitVec.toNat / 256 := by
    rw [hi8, lo8_and]
    have e : ((8 : Int32) &&& 31) = 8 := by decide
    rw [e, Int32.toBitVec_shiftRight]
    have e2 : ((8 : Int32).toBitVec.smod 32) = 8#32 := by decide
    rw [e2, BitVec.sshiftRight_eq', BitVec.toNat_sshiftRight_of_msb_false (by rw [BitVec.msb_eq_false_iff_two_mul_lt]; omega)]
    show c.toBitVec.toNat >>> 8 % 256 = _
    rw [Nat.shiftRight_eq_div_pow]
    omega
  unfold pairCh
  apply Int32.toBitVec_inj.mp
  apply BitVec.eq_of_toNat_eq
  have f0 : ((0 : Int32) &&& 31) = 0 := by decide
  have f8 : ((8 : Int32) &&& 31) = 8 := by decide
  rw [f0, f8]
  have g : (((lo8 c &&& 255) <<< (0 : Int32)) ||| ((hi8 c &&& 255) <<< (8 : Int32))).toBitVec.toNat = c.toBitVec.toNat := by
    rw [Int32.toBitVec_or, Int32.toBitVec_shiftLeft, Int32.toBitVec_shiftLeft]
    have s0 : ((0 : Int32).toBitVec.smod 32) = 0#32 := by decide
    have s8 : ((8 : Int32).toBitVec.smod 32) = 8#32 := by decide
    rw [s0, s8, BitVec.toNat_or]
    simp only [BitVec.shiftLeft_eq', BitVec.toNat_shiftLeft, a1, a2]
    show (c.toBitVec.toNat % 256) <<< 0 % 2 ^ 32 ||| (c.toBitVec.toNat / 256) <<< 8 % 2 ^ 32 = _
    rw [Nat.shiftLeft_zero, Nat.mod_eq_of_lt (show c.toBitVec.toNat % 256 < 2 ^ 32 by omega), Nat.mod_eq_of_lt (show (c.toBitVec.toNat / 256) <<< 8 < 2 ^ 32 by rw [Nat.shiftLeft_eq]; omega), Nat.or_comm, ← Nat.shiftLeft_add_eq_or_of_lt (by omega), Nat.shiftLeft_eq]
    omega
  show BitVec.toNat (((((lo8 c &&& 255) <<< (0 : Int32)) ||| ((hi8 c &&& 255) <<< (8 : Int32))).toBitVec.setWidth 16).setWidth 32) = _
  rw [BitVec.toNat_setWidth, BitVec.toNat_setWidth, g]
  omega
end StrChars
namespace StrChars
open Jvm Sem ClassFile Op Lib Jvm.Stand Jvm.Free.XT Jvm.Free.ALB Jvm.Free.JM Jvm.Free
open Jvm.Lib.Cold (StaticIs)
/-- the array's cell V codes the n chars f 0 .. f (n - 1) by the coder cd, as the JDK does: coder 1 just where some char is above 255 -/
def Cod (cd : Int32) (n : Nat) (f : Nat → Int32) (V : Cell) : Prop := (cd = 0 ∧ V.slots.size = n ∧ ∀ j, j < n → V.slots[j]? = some (.int (lo8 (f j))) ∧ ¬ 255 < f j) ∨ (cd = 1 ∧ V.slots.size = 2 * n ∧ (∀ j, j < n → V.slots[2 * j]? = some (.int (lo8 (f j))) ∧ V.slots[2 * j + 1]? = some (.int (hi8 (f j)))) ∧ ∃ j, j < n ∧ 255 < f j)
/-- **x is a String of the n chars f 0 .. f (n - 1)**, Latin-1 or UTF-16; its array at t has the cell V -/
def Txt (x t : Addr) (V : Cell) (cd : Int32) (n : Nat) (f : Nat → Int32) (U : State) : Prop := Exact "java/lang/String" x U ∧ Has x "java/lang/String" "value" "[B" (.ref t) U ∧ Has x "java/lang/String" "coder" "B" (.int cd) U ∧ XT.Arr .byte t V U ∧ Cod cd n f V ∧ ∀ j, j < n → ¬ f j < 0 ∧ ¬ 65535 < f j
theorem Txt.mv {x t : Addr} {V : Cell} {cd : Int32} {n : Nat} {f : Nat → Int32} {U U' : State} (h : Txt x t V cd n f U) (hal : U.vm.Alike U'.vm) (hh : U'.heap = U.heap) : Txt x t V cd n f U' := ⟨h.1.mv hal hh, h.2.1.mv hal hh, h.2.2.1.mv hal hh, h.2.2.2.1.mv hal hh, h.2.2.2.2⟩
end StrChars
namespace StrChars.Road
open Jvm Sem ClassFile Op Lib Jvm.Stand Jvm.Free Jvm.Free.XT
open Jvm.Lib.Cold (StaticIs)
theorem consq {a : Array Value} {s : State} {c : Jvm.Cond} {L : List Jvm.Cond} (h0 : c.before a s = true) (h : ∀ w ∈ L, w.before a s = true) : ∀ w ∈ c :: L, w.before a s = true := fun w hw => (List.mem_cons.mp hw).elim (fun e => e ▸ h0) (h w)
/-- the bytes of the chars cs, low before high -/
def wideBytes : List Int32 → List Value
  | [] => []
  | c :: cs => .int (lo8 c) :: .int (hi8 c) :: wideBytes cs
theorem wide_lo (d : Value) : ∀ (cs : List Int32) (j : Nat), j < cs.length → (wideBytes cs).getD (2 * j) d = .int (lo8 (cs.getD j 0))
  | [], j, h => absurd h (Nat.not_lt_zero j)
  | c :: cs, 0, _ => rfl
  | c :: cs, j + 1, h => by
    have q := wide_lo d cs j (by simpa using h)
    rw [show 2 * (j + 1) = 2 * j + 1 + 1 from by omega]
    simpa [wideBytes] using q
theorem wide_hi (d : Value) : ∀ (cs : List Int32) (j : Nat), j < cs.length → (wideBytes cs).getD (2 * j + 1) d = .int (hi8 (cs.getD j 0))
  | [], j, h => absurd h (Nat.not_lt_zero j)
  | c :: cs, 0, _ => rfl
  | c :: cs, j + 1, h => by
    have q := wide_hi d cs j (by simpa using h)
    rw [show 2 * (j + 1) + 1 = 2 * j + 1 + 1 + 1 from by omega]
    simpa [wideBytes] using q
theorem low_at (d : Value) (cs : List Int32) (j : Nat) (h : j < cs.length) : (cs.map fun c => Value.int (lo8 c)).getD j d = .int (lo8 (cs.getD j 0)) := by
  simp [List.getD_eq_getElem?_getD, h]
/-- an array of N2 bytes vs codes the chars cs by the coder cd -/
def CodA (cs : List Int32) (cd N2 : Int32) (vs : List Value) : Prop := (cd = 0 ∧ N2 = Int32.ofNat cs.length ∧ vs = (cs.map fun c => Value.int (lo8 c)) ∧ ∀ c ∈ cs, ¬ 255 < c) ∨ (cd = 1 ∧ N2 = Int32.ofNat (2 * cs.length) ∧ vs = wideBytes cs ∧ ∃ c ∈ cs, 255 < c)
theorem CodA.cod {cs : List Int32} {cd N2 : Int32} {vs : List Value} {V : Cell} (h : CodA cs cd N2 vs) (hn : 2 * cs.length < 2 ^ 31) (hs : V.slots.size = N2.toNatClampNeg) (hv : RoadKit.Has V vs (.int 0)) : Cod cd cs.length (fun j => cs.getD j 0) V := by
  rcases h with ⟨rfl, rfl, rfl, h⟩ | ⟨rfl, rfl, rfl, c, hc, hw⟩
  · rw [n32 (by omega)] at hs
    exact Or.inl ⟨rfl, hs, fun j hj => ⟨by rw [hv j (by omega), low_at _ _ _ hj], by
      have e : cs.getD j 0 = cs[j] := by simp [List.getD_eq_getElem?_getD, hj]
      show ¬ 255 < cs.getD j 0
      rw [e]; exact h _ (List.getElem_mem _)⟩⟩
  · rw [n32 (by omega)] at hs
    obtain ⟨j, hj, rfl⟩ := List.getElem_of_mem hc
    exact Or.inr ⟨rfl, hs, fun j hj => ⟨by rw [hv _ (by omega), wide_lo _ _ _ hj], by rw [hv _ (by omega), wide_hi _ _ _ hj]⟩, j, hj, by
      have e : cs.getD j 0 = cs[j] := by simp [List.getD_eq_getElem?_getD, hj]
      show 255 < cs.getD j 0
      rw [e]; exact hw⟩
/-- an object of exactly java/lang/String, its two fields found: as the laws ask it -/
theorem strObj {Z U : State} {a0 : Array Value} {kI : Nat} (wi : (Jvm.Cond.instantiable ST kI).before a0 Z = true) (al : Z.vm.Alike U.vm) {x : Addr} {v0 c0 : Value} (E : RoadKit.Exa Z U.heap x ST) (V : RoadKit.Fld Z U.heap x ST "value" "[B" v0) (C : RoadKit.Fld Z U.heap x ST "coder" "B" c0) :
    ∃ (D : Cell) (fV fC : Field), Blank ST x D U ∧ Found ST "value" "[B" fV U ∧ Found ST "coder" "B" fC U ∧ D.slots[fV.slot]? = some v0 ∧ D.slots[fC.slot]? = some c0 ∧ RoadKit.slotOf Z ST "value" "[B" = fV.slot ∧ RoadKit.slotOf Z ST "coder" "B" = fC.slot := by
  obtain ⟨D, cfV, kV, iV, fV, hD, gV, stV, knV, obV, asV, slV⟩ := V
  obtain ⟨D', cfC, kC, iC, fC, hD', gC, stC, -, -, asC, slC⟩ := C
  cases hD.symm.trans hD'
  obtain ⟨D2, kD, e1, e2, e3, e4, e5⟩ := E
  cases hD.symm.trans e1
  obtain ⟨c2, k2, i1, i2, i3, -⟩ := Cond.instantiable_spec wi
  cases e2.symm.trans i1
  cases e3.symm.trans i2
  obtain ⟨kU, u1, u2⟩ := al.2.2 _ _ e3
  exact ⟨D, fV, fC, ⟨hD, ⟨knV, fun q hq => by rw [hq] at obV; cases obV⟩, by rw [al.findClass]; exact e2, kU, u1, by rw [u2]; exact i3, by rw [u2]; exact e5 i3⟩, ⟨SBG.found_only al ⟨cfV, kV, iV, gV⟩, stV⟩, ⟨SBG.found_only al ⟨cfC, kC, iC, gC⟩, stC⟩, slV, slC, by simp [RoadKit.slotOf, gV], by simp [RoadKit.slotOf, gC]⟩
theorem sta_is {Z U : State} (al : Z.vm.Alike U.vm) {C n d : String} {v : Value} (S : RoadKit.Sta Z U.heap C n d v) : StaticIs U C n d v := by
  obtain ⟨cfS, iS, kS, fS, st, cS, t1, t2, t3, t4, t5, t6, t7⟩ := S
  exact StaticIs.there (s := { Z with heap := U.heap }) ⟨cfS, iS, kS, fS, st, cS, t1, t2, t3, t4, t5, (fun q => by rw [q] at t6; cases t6), t7⟩ al rfl
end StrChars.Road
namespace StrChars
open Jvm Sem ClassFile Op Lib Jvm.Stand Jvm.Free.XT Jvm.Free.ALB Jvm.Free.JM Jvm.Free
open Jvm.Lib.Cold (StaticIs)
/-- what place i of a byte[]'s cell holds -/
def yv (A : Cell) (i : Nat) : Int32 := match A.slots[i]? with | some (.int x) => x | _ => 0
theorem yv_get {a : Addr} {A : Cell} {U : State} (h : XT.Arr .byte a A U) (ht : Typed .byte A) {i : Nat} (hi : i < A.slots.size) : A.slots[i]? = some (.int (yv A i)) := by
  have e := Array.getElem?_eq_getElem hi
  have f := ht i _ e
  unfold yv; rw [e]
  generalize A.slots[i] = v at f
  cases v <;> simp [fits] at f ⊢
/-- the two arrays are equal, place for place -/
def EqC (A B : Cell) : Prop := A.slots.size = B.slots.size ∧ ∀ i, i < A.slots.size → yv A i = yv B i
/-- a boolean that says whether p -/
def Says01 (q : Prop) (r : Option Value) (s u : State) : Prop := ∃ v : Int32, r = some (.int v) ∧ u.heap = s.heap ∧ ((v = 1 ∧ q) ∨ (v = 0 ∧ ¬ q))
theorem Says01.mv {q : Prop} : ∀ r (U U' V V' : State), U'.heap = U.heap → V.vm.Alike V'.vm → V'.heap = V.heap → Says01 q r U V → Says01 q r U' V' :=
  fun r U U' V V' h1 _ h2 ⟨v, a, b, c⟩ => ⟨v, a, by rw [h1, h2]; exact b, c⟩
namespace LEq
def yN : MethodName := ⟨"java/lang/StringLatin1", "equals", "([B[B)Z"⟩
abbrev yB : ByteArray := jdk_43_method_13_code
theorem d0 : decode yB 0 = .ok (.aload_n 0, 1) := by decide +kernel
theorem d1 : decode yB 1 = .ok (.arraylength, 1) := by decide +kernel
theorem d2 : decode yB 2 = .ok (.aload_n 1, 1) := by decide +kernel
theorem d3 : decode yB 3 = .ok (.arraylength, 1) := by decide +kernel
theorem d4 : decode yB 4 = .ok (.if_icmp (.ne) 30, 3) := by decide +kernel
theorem d7 : decode yB 7 = .ok (.iconst 0, 1) := by decide +kernel
theorem d8 : decode yB 8 = .ok (.istore_n 2, 1) := by decide +kernel
theorem d9 : decode yB 9 = .ok (.iload_n 2, 1) := by decide +kernel
theorem d10 : decode yB 10 = .ok (.aload_n 0, 1) := by decide +kernel
theorem d11 : decode yB 11 = .ok (.arraylength, 1) := by decide +kernel
theorem d12 : decode yB 12 = .ok (.if_icmp (.ge) 20, 3) := by decide +kernel
theorem d15 : decode yB 15 = .ok (.aload_n 0, 1) := by decide +kernel
theorem d16 : decode yB 16 = .ok (.iload_n 2, 1) := by decide +kernel
theorem d17 : decode yB 17 = .ok (.baload, 1) := by decide +kernel
theorem d18 : decode yB 18 = .ok (.aload_n 1, 1) := by decide +kernel
theorem d19 : decode yB 19 = .ok (.iload_n 2, 1) := by decide +kernel
theorem d20 : decode yB 20 = .ok (.baload, 1) := by decide +kernel
theorem d21 : decode yB 21 = .ok (.if_icmp (.eq) 5, 3) := by decide +kernel
theorem d24 : decode yB 24 = .ok (.iconst 0, 1) := by decide +kernel
theorem d25 : decode yB 25 = .ok (.ireturn, 1) := by decide +kernel
theorem d26 : decode yB 26 = .ok (.iinc 2 1, 3) := by decide +kernel
theorem d29 : decode yB 29 = .ok (.goto (-20), 3) := by decide +kernel
theorem d32 : decode yB 32 = .ok (.iconst 1, 1) := by decide +kernel
theorem d33 : decode yB 33 = .ok (.ireturn, 1) := by decide +kernel
theorem d34 : decode yB 34 = .ok (.iconst 0, 1) := by decide +kernel
theorem d35 : decode yB 35 = .ok (.ireturn, 1) := by decide +kernel
def site : List Cond := []
def tab : Cond := tabOf yN yB 3 (some .boolean) site
def P (a : Addr) (A : Cell) (b : Addr) (B : Cell) (args : Array Value) (s : State) : Prop := args = #[.ref a, .ref b] ∧ XT.Arr .byte a A s ∧ Typed .byte A ∧ XT.Arr .byte b B s ∧ Typed .byte B
/-- whether two byte[] are equal, place for place -/
theorem law (l : Launch) (a : Addr) (A : Cell) (b : Addr) (B : Cell) : Law l yN 2 2 0 0 yB 3 (some .boolean) site (P a A b B) (Says01 (EqC A B)) [] 0 0 := by
  refine Law.of_walk (plainFor_of_name (by decide +kernel)) (by decide +kernel) (by decide +kernel) (by decide) (fun _ _ h => by rw [h.1]; rfl) (fun _ U U' hal hh h => ⟨h.1, h.2.1.mv hal hh, h.2.2.1, h.2.2.2.1.mv hal hh, h.2.2.2.2⟩) (fun r U U' V V' h1 hal h2 h => Says01.mv r U U' V V' h1 hal h2 h) ?_
  intro p e s m args below meth c s₁ X0 hexec hbytes hml hret hlk hnm hown hh0 W hP
  obtain ⟨rfl, hA, tA, hB, tB⟩ := hP
  have a31 := hA.2.2.2
  have b31 := hB.2.2.2
  have hA0 := hA.mv X0.warmed.alike hh0
  have hB0 := hB.mv X0.warmed.alike hh0
  have c1 : Steps p.tables e below (s₁.setTop (entryFrame m #[.ref a, .ref b] 3)) (s₁.setTop (mkF m 0 #[.val (.ref a), .val (.ref b), .unset] [])) := entry rfl
  have c2 : Steps p.tables e below (s₁.setTop (entryFrame m #[.ref a, .ref b] 3)) (s₁.setTop (mkF m 4 #[.val (.ref a), .val (.ref b), .unset] [.int (Int32.ofNat B.slots.size), .int (Int32.ofNat A.slots.size)])) := c1.trans (by
    refine XS.aloadN X0.here hexec rfl (hb hbytes d0) rfl rfl ?_
    refine X0.alen hexec hA0 rfl rfl (hb hbytes d1) ?_
    refine XS.aloadN X0.here hexec rfl (hb hbytes d2) rfl rfl ?_
    refine X0.alen hexec hB0 rfl rfl (hb hbytes d3) ?_
    exact Steps.refl _)
  by_cases hs : A.slots.size = B.slots.size
  · have c3 : Steps p.tables e below (s₁.setTop (entryFrame m #[.ref a, .ref b] 3)) (s₁.setTop (mkF m 9 #[.val (.ref a), .val (.ref b), .val (.int 0)] [])) := c2.trans (by
      refine XS.icmpNo X0.here hexec rfl (hb hbytes d4) rfl (ii_ne_f (by rw [hs])) ?_
      refine iconstV X0.here hexec rfl 0 (hb hbytes d7) (by decide) ?_
      refine XS.istoreN X0.here hexec rfl (hb hbytes d8) rfl rfl ?_
      exact Steps.refl _)
    have loop : ∀ (r i : Nat), i + r = A.slots.size → (∀ j, j < i → yv A j = yv B j) → Steps p.tables e below (s₁.setTop (entryFrame m #[.ref a, .ref b] 3)) (s₁.setTop (mkF m 9 #[.val (.ref a), .val (.ref b), .val (.int (Int32.ofNat i))] [])) → ∃ (pc : Nat) (Ls : Array Slot) (v : Int32), (pc = 25 ∨ pc = 33) ∧ ((v = 1 ∧ EqC A B) ∨ (v = 0 ∧ ¬ EqC A B)) ∧ Steps p.tables e below (s₁.setTop (entryFrame m #[.ref a, .ref b] 3)) (s₁.setTop (mkF m pc Ls [.int v])) := by
      intro r
      induction r with
      | zero =>
        intro i hi he cl
        exact ⟨33, _, 1, Or.inr rfl, Or.inl ⟨rfl, hs, fun j hj => he j (by omega)⟩, cl.trans (by
          refine XS.iloadN X0.here hexec rfl (hb hbytes d9) rfl ?_
          refine XS.aloadN X0.here hexec rfl (hb hbytes d10) rfl rfl ?_
          refine X0.alen hexec hA0 rfl rfl (hb hbytes d11) ?_
          refine XS.icmpYes X0.here hexec rfl (pc0 := 12) rfl (hb hbytes d12) rfl (ii_ge_t (nlt32 (by omega) (by omega))) (by decide) rfl ?_
          refine iconstV X0.here hexec rfl 1 (hb hbytes d32) (by decide) ?_
          exact Steps.refl _)⟩
      | succ r ih =>
        intro i hi he cl
        have c4 : Steps p.tables e below (s₁.setTop (entryFrame m #[.ref a, .ref b] 3)) (s₁.setTop (mkF m 21 #[.val (.ref a), .val (.ref b), .val (.int (Int32.ofNat i))] [.int (yv B i), .int (yv A i)])) := cl.trans (by
          refine XS.iloadN X0.here hexec rfl (hb hbytes d9) rfl ?_
          refine XS.aloadN X0.here hexec rfl (hb hbytes d10) rfl rfl ?_
          refine X0.alen hexec hA0 rfl rfl (hb hbytes d11) ?_
          refine XS.icmpNo X0.here hexec rfl (hb hbytes d12) rfl (ii_ge_f (lt32 (by omega) (by omega))) ?_
          refine XS.aloadN X0.here hexec rfl (hb hbytes d15) rfl rfl ?_
          refine XS.iloadN X0.here hexec rfl (hb hbytes d16) rfl ?_
          refine X0.aget hexec hA0 rfl (yv_get hA tA (i := i) (by omega)) rfl rfl (hb hbytes d17) ?_
          refine XS.aloadN X0.here hexec rfl (hb hbytes d18) rfl rfl ?_
          refine XS.iloadN X0.here hexec rfl (hb hbytes d19) rfl ?_
          refine X0.aget hexec hB0 rfl (yv_get hB tB (i := i) (by omega)) rfl rfl (hb hbytes d20) ?_
          exact Steps.refl _)
        by_cases hv : yv A i = yv B i
        · have c5 : Steps p.tables e below (s₁.setTop (entryFrame m #[.ref a, .ref b] 3)) (s₁.setTop (mkF m 9 #[.val (.ref a), .val (.ref b), .val (.int (Int32.ofNat i + 1))] [])) := c4.trans (by
            refine XS.icmpYes X0.here hexec rfl (pc0 := 21) rfl (hb hbytes d21) rfl (ii_eq_t hv) (by decide) rfl ?_
            refine iincV X0.here hexec rfl 1 (hb hbytes d26) (by decide) rfl rfl ?_
            refine XS.goto X0.here hexec rfl (pc0 := 29) rfl (hb hbytes d29) (by decide) rfl ?_
            exact Steps.refl _)
          rw [succ32] at c5
          exact ih (i + 1) (by omega) (fun j hj => by
            by_cases e : j = i
            · rw [e]; exact hv
            · exact he j (by omega)) c5
        · exact ⟨25, _, 0, Or.inl rfl, Or.inr ⟨rfl, fun q => hv (q.2 i (by omega))⟩, c4.trans (by
            refine XS.icmpNo X0.here hexec rfl (hb hbytes d21) rfl (ii_eq_f hv) ?_
            refine iconstV X0.here hexec rfl 0 (hb hbytes d24) (by decide) ?_
            exact Steps.refl _)⟩
    obtain ⟨pc, Ls, v, hpc, hv, cz⟩ := loop A.slots.size 0 (by omega) (fun j hj => absurd hj (Nat.not_lt_zero j)) c3
    have nv : narrow .boolean (.int v) = .int v := by rcases hv with ⟨rfl, -⟩ | ⟨rfl, -⟩ <;> rfl
    rcases hpc with rfl | rfl
    · exact ⟨s₁, some (.int v), _, _, _, X0, rfl, rfl, rfl, (fun h => by cases h), ⟨v, rfl, hh0, hv⟩, fun fs hl => cz.trans (X0.ireturnOut hexec hret nv (Or.inr (Or.inl rfl)) (hb hbytes d25) hl)⟩
    · exact ⟨s₁, some (.int v), _, _, _, X0, rfl, rfl, rfl, (fun h => by cases h), ⟨v, rfl, hh0, hv⟩, fun fs hl => cz.trans (X0.ireturnOut hexec hret nv (Or.inr (Or.inl rfl)) (hb hbytes d33) hl)⟩
  · have c3 : Steps p.tables e below (s₁.setTop (entryFrame m #[.ref a, .ref b] 3)) (s₁.setTop (mkF m 35 #[.val (.ref a), .val (.ref b), .unset] [.int 0])) := c2.trans (by
      refine XS.icmpYes X0.here hexec rfl (pc0 := 4) rfl (hb hbytes d4) rfl (ii_ne_t (ne32 a31 b31 hs)) (by decide) rfl ?_
      refine iconstV X0.here hexec rfl 0 (hb hbytes d34) (by decide) ?_
      exact Steps.refl _)
    exact ⟨s₁, some (.int 0), _, _, _, X0, rfl, rfl, rfl, (fun h => by cases h), ⟨0, rfl, hh0, Or.inr ⟨rfl, fun q => hs q.1⟩⟩, fun fs hl => c3.trans (X0.ireturnOut hexec hret rfl (Or.inr (Or.inl rfl)) (hb hbytes d35) hl)⟩
end LEq
theorem Cod.ty {cd : Int32} {n : Nat} {f : Nat → Int32} {V : Cell} (h : Cod cd n f V) : Typed .byte V := fun i v hv => by
  have hi : i < V.slots.size := (Array.getElem?_eq_some_iff.mp hv).1
  rcases h with ⟨-, k1, k2⟩ | ⟨-, k1, k2, -⟩
  · rw [(k2 i (by omega)).1] at hv; cases hv; exact fits_lo8 _
  · rcases Nat.mod_two_eq_zero_or_one i with e | e
    · obtain ⟨j, rfl⟩ : ∃ j, i = 2 * j := ⟨i / 2, by omega⟩
      rw [(k2 j (by omega)).1] at hv; cases hv; exact fits_lo8 _
    · obtain ⟨j, rfl⟩ : ∃ j, i = 2 * j + 1 := ⟨i / 2, by omega⟩
      rw [(k2 j (by omega)).2] at hv; cases hv; exact fits_lo8 _
/-- the same text -/
def SameT (n : Nat) (f : Nat → Int32) (k : Nat) (g : Nat → Int32) : Prop := n = k ∧ ∀ j, j < n → f j = g j
theorem lo8_inj {x y : Int32} (h0 : ¬ x < 0) (h1 : ¬ 255 < x) (k0 : ¬ y < 0) (k1 : ¬ 255 < y) (h : lo8 x = lo8 y) : x = y := by
  rw [← lo8_mask h0 h1, ← lo8_mask k0 k1, h]
/-- arrays coded by one coder are equal just where the texts are -/
theorem Cod.eqv {cd : Int32} {n k : Nat} {f g : Nat → Int32} {V V' : Cell} (h : Cod cd n f V) (h' : Cod cd k g V') (hf : ∀ j, j < n → ¬ f j < 0 ∧ ¬ 65535 < f j) (hg : ∀ j, j < k → ¬ g j < 0 ∧ ¬ 65535 < g j) : EqC V V' ↔ SameT n f k g := by
  have yvv : ∀ {W : Cell} {i : Nat} {x : Int32}, W.slots[i]? = some (.int x) → yv W i = x := fun q => by unfold yv; rw [q]
  rcases h with ⟨rfl, k1, k2⟩ | ⟨rfl, k1, k2, -⟩
  · rcases h' with ⟨-, m1, m2⟩ | ⟨e, -⟩
    · constructor
      · rintro ⟨e1, e2⟩
        refine ⟨by omega, fun j hj => ?_⟩
        have q := e2 j (by omega)
        rw [yvv (k2 j hj).1, yvv (m2 j (by omega)).1] at q
        exact lo8_inj (hf j hj).1 (k2 j hj).2 (hg j (by omega)).1 (m2 j (by omega)).2 q
      · rintro ⟨rfl, e2⟩
        refine ⟨by omega, fun j hj => ?_⟩
        rw [yvv (k2 j (by omega)).1, yvv (m2 j (by omega)).1, e2 j (by omega)]
    · exact absurd e (by decide)
  · rcases h' with ⟨e, -⟩ | ⟨-, m1, m2, -⟩
    · exact absurd e (by decide)
    · constructor
      · rintro ⟨e1, e2⟩
        refine ⟨by omega, fun j hj => ?_⟩
        have q1 := e2 (2 * j) (by omega)
        have q2 := e2 (2 * j + 1) (by omega)
        rw [yvv (k2 j hj).1, yvv (m2 j (by omega)).1] at q1
        rw [yvv (k2 j hj).2, yvv (m2 j (by omega)).2] at q2
        rw [← pair_says (hf j hj).1 (hf j hj).2, ← pair_says (hg j (by omega)).1 (hg j (by omega)).2, q1, q2]
      · rintro ⟨rfl, e2⟩
        refine ⟨by omega, fun i hi => ?_⟩
        rcases Nat.mod_two_eq_zero_or_one i with e | e
        · obtain ⟨j, rfl⟩ : ∃ j, i = 2 * j := ⟨i / 2, by omega⟩
          rw [yvv (k2 j (by omega)).1, yvv (m2 j (by omega)).1, e2 j (by omega)]
        · obtain ⟨j, rfl⟩ : ∃ j, i = 2 * j + 1 := ⟨i / 2, by omega⟩
          rw [yvv (k2 j (by omega)).2, yvv (m2 j (by omega)).2, e2 j (by omega)]
/-- two codings differ: so do the texts -/
theorem Cod.dif {cd cd' : Int32} {n k : Nat} {f g : Nat → Int32} {V V' : Cell} (h : Cod cd n f V) (h' : Cod cd' k g V') (hne : ¬ cd = cd') : ¬ SameT n f k g := by
  rintro ⟨rfl, e⟩
  rcases h with ⟨rfl, -, k2⟩ | ⟨rfl, -, -, j, hj, hw⟩
  · rcases h' with ⟨rfl, -⟩ | ⟨-, -, -, j, hj, hw⟩
    · exact hne rfl
    · exact (k2 j hj).2 (by rw [e j hj]; exact hw)
  · rcases h' with ⟨-, -, m2⟩ | ⟨rfl, -⟩
    · exact (m2 j hj).2 (by rw [← e j hj]; exact hw)
    · exact hne rfl
/-- an object of exactly C is an instance of C -/
theorem cinst {p : Program} {l : Launch} {e : Env} {R : Room} {s : State} {m : MethodId} {args : Array Value} {below : List Frame} {meth : Method} {c : Code} {T : State} {locs : List Loc} {cells slots : Nat} (X : Stand p l e R s m args below meth c T locs cells slots) (hexec : p.tables.exec = Jvm.exec) {own C : String} {index : Nat} (hown : s.vm.findClass own = some m.cls) (hlink : (Cond.classLink own index C).before args s = true) {a : Addr} (hE : Exact C a T)
    {g : JFrame} (hg : g.method = m) {rest : List Value} (hstack : g.stack = .ref a :: rest) (hdg : decode c.code g.pc = .ok (.instanceof index, 3)) :
    ∃ T', Stand p l e R s m args below meth c T' locs cells slots ∧ T'.heap = T.heap ∧ ∀ target, Steps p.tables e below (T'.setTop { g with pc := g.pc + 3, stack := .int 1 :: rest }) target → Steps p.tables e below (T.setTop g) target := by
  obtain ⟨cB, h1, D, h2, h3, h4⟩ := hE
  have h1' : s.vm.findClass C = some cB := by rw [← X.warmed.alike.findClass]; exact h1
  obtain ⟨vm', X', st⟩ := X.instanceofYes hexec hown hlink h2 h4 h1' (by rw [h3]; exact Jvm.Free.SB.assignable_self _ _) hg hstack hdg
  exact ⟨_, X', rfl, st⟩
theorem cself {p : Program} {l : Launch} {e : Env} {R : Room} {s : State} {m : MethodId} {args : Array Value} {below : List Frame} {meth : Method} {c : Code} {T : State} {locs : List Loc} {cells slots : Nat} (X : Stand p l e R s m args below meth c T locs cells slots) (hexec : p.tables.exec = Jvm.exec) {own C : String} {index : Nat} (hown : s.vm.findClass own = some m.cls) (hlink : (Cond.classLink own index C).before args s = true) {a : Addr} (hE : Exact C a T)
    {g : JFrame} (hg : g.method = m) {rest : List Value} (hstack : g.stack = .ref a :: rest) (hdg : decode c.code g.pc = .ok (.checkcast index, 3)) :
    ∃ T', Stand p l e R s m args below meth c T' locs cells slots ∧ T'.heap = T.heap ∧ ∀ target, Steps p.tables e below (T'.setTop { g with pc := g.pc + 3, stack := .ref a :: rest }) target → Steps p.tables e below (T.setTop g) target := by
  obtain ⟨cB, h1, D, h2, h3, h4⟩ := hE
  have h1' : s.vm.findClass C = some cB := by rw [← X.warmed.alike.findClass]; exact h1
  obtain ⟨vm', X', st⟩ := X.checkcastYes hexec hown hlink h2 h4 h1' (by rw [h3]; exact Jvm.Free.SB.assignable_self _ _) hg hstack hdg
  exact ⟨_, X', rfl, fun t h => st t (by rw [← hstack] at h; exact h)⟩
namespace SEq
def yN : MethodName := ⟨"java/lang/String", "equals", "(Ljava/lang/Object;)Z"⟩
abbrev yB : ByteArray := jdk_42_method_66_code
theorem d0 : decode yB 0 = .ok (.aload_n 0, 1) := by decide +kernel
theorem d1 : decode yB 1 = .ok (.aload_n 1, 1) := by decide +kernel
theorem d2 : decode yB 2 = .ok (.if_acmp (.ne) 5, 3) := by decide +kernel
theorem d5 : decode yB 5 = .ok (.iconst 1, 1) := by decide +kernel
theorem d6 : decode yB 6 = .ok (.ireturn, 1) := by decide +kernel
theorem d7 : decode yB 7 = .ok (.aload_n 1, 1) := by decide +kernel
theorem d8 : decode yB 8 = .ok (.instanceof 10, 3) := by decide +kernel
theorem d11 : decode yB 11 = .ok (.ifCond (.eq) 43, 3) := by decide +kernel
theorem d14 : decode yB 14 = .ok (.aload_n 1, 1) := by decide +kernel
theorem d15 : decode yB 15 = .ok (.checkcast 10, 3) := by decide +kernel
theorem d18 : decode yB 18 = .ok (.astore_n 2, 1) := by decide +kernel
theorem d19 : decode yB 19 = .ok (.getstatic 38, 3) := by decide +kernel
theorem d22 : decode yB 22 = .ok (.ifCond (.eq) 14, 3) := by decide +kernel
theorem d25 : decode yB 25 = .ok (.aload_n 0, 1) := by decide +kernel
theorem d26 : decode yB 26 = .ok (.getfield 15, 3) := by decide +kernel
theorem d29 : decode yB 29 = .ok (.aload_n 2, 1) := by decide +kernel
theorem d30 : decode yB 30 = .ok (.getfield 15, 3) := by decide +kernel
theorem d33 : decode yB 33 = .ok (.if_icmp (.ne) 21, 3) := by decide +kernel
theorem d36 : decode yB 36 = .ok (.aload_n 0, 1) := by decide +kernel
theorem d37 : decode yB 37 = .ok (.getfield 9, 3) := by decide +kernel
theorem d40 : decode yB 40 = .ok (.aload_n 2, 1) := by decide +kernel
theorem d41 : decode yB 41 = .ok (.getfield 9, 3) := by decide +kernel
theorem d44 : decode yB 44 = .ok (.invokestatic 541, 3) := by decide +kernel
theorem d47 : decode yB 47 = .ok (.ifCond (.eq) 7, 3) := by decide +kernel
theorem d50 : decode yB 50 = .ok (.iconst 1, 1) := by decide +kernel
theorem d51 : decode yB 51 = .ok (.goto 4, 3) := by decide +kernel
theorem d54 : decode yB 54 = .ok (.iconst 0, 1) := by decide +kernel
theorem d55 : decode yB 55 = .ok (.ireturn, 1) := by decide +kernel
def site : List Cond := [.classLink "java/lang/String" 10 "java/lang/String", .fieldLink "java/lang/String" 38 "java/lang/String" "COMPACT_STRINGS" "Z", .fieldLink "java/lang/String" 15 "java/lang/String" "coder" "B", .fieldLink "java/lang/String" 9 "java/lang/String" "value" "[B", LEq.tab] ++ staticW "java/lang/String" 541 LEq.yN
def tab : Cond := tabOf yN yB 3 (some .boolean) site
def P (x t : Addr) (V : Cell) (cd : Int32) (n : Nat) (f : Nat → Int32) (y t' : Addr) (V' : Cell) (cd' : Int32) (k : Nat) (g : Nat → Int32) (z : Int32) (args : Array Value) (s : State) : Prop := args = #[.ref x, .ref y] ∧ Txt x t V cd n f s ∧ Txt y t' V' cd' k g s ∧ StaticIs s "java/lang/String" "COMPACT_STRINGS" "Z" (.int z) ∧ ¬ z = 0
/-- equals(Object) of two Strings: whether the texts are the same -/
theorem law (l : Launch) (x t : Addr) (V : Cell) (cd : Int32) (n : Nat) (f : Nat → Int32) (y t' : Addr) (V' : Cell) (cd' : Int32) (k : Nat) (g : Nat → Int32) (z : Int32) : Law l yN 2 1 1 14 yB 3 (some .boolean) site (P x t V cd n f y t' V' cd' k g z) (Says01 (SameT n f k g)) [] 0 0 := by
  refine Law.of_walk (plainFor_of_name (by decide +kernel)) (by decide +kernel) (by decide +kernel) (by decide) (fun _ _ h => by rw [h.1]; rfl) (fun _ U U' hal hh h => ⟨h.1, h.2.1.mv hal hh, h.2.2.1.mv hal hh, h.2.2.2.1.there hal hh, h.2.2.2.2⟩) (fun r U U' V V' h1 hal h2 h => Says01.mv r U U' V V' h1 hal h2 h) ?_
  intro p e s m args below meth c s₁ X0 hexec hbytes hml hret hlk hnm hown hh0 W hP
  obtain ⟨rfl, hx, hy, s1, hz⟩ := hP
  have c1 : Steps p.tables e below (s₁.setTop (entryFrame m #[.ref x, .ref y] 3)) (s₁.setTop (mkF m 2 #[.val (.ref x), .val (.ref y), .unset] [.ref y, .ref x])) := Steps.trans (entry rfl) (by
    show Steps p.tables e below (s₁.setTop (mkF m 0 #[.val (.ref x), .val (.ref y), .unset] [])) _
    refine XS.aloadN X0.here hexec rfl (hb hbytes d0) rfl rfl ?_
    refine XS.aloadN X0.here hexec rfl (hb hbytes d1) rfl rfl ?_
    exact Steps.refl _)
  by_cases hxy : x = y
  · have c2 : Steps p.tables e below (s₁.setTop (entryFrame m #[.ref x, .ref y] 3)) (s₁.setTop (mkF m 6 #[.val (.ref x), .val (.ref y), .unset] [.int 1])) := c1.trans (by
      refine acmpNo X0.here hexec rfl (hb hbytes d2) rfl rfl rfl (by simp [acmp, hxy]) ?_
      refine iconstV X0.here hexec rfl 1 (hb hbytes d5) (by decide) ?_
      exact Steps.refl _)
    subst hxy
    have ec : cd = cd' := by
      obtain ⟨D, fd, a1, a2, a3⟩ := hx.2.2.1
      obtain ⟨D', fd', b1, b2, b3⟩ := hy.2.2.1
      cases a1.symm.trans b1
      obtain ⟨q1, q2, q3, q4⟩ := a2.1
      obtain ⟨r1, r2, r3, r4⟩ := b2.1
      cases q4.symm.trans r4
      cases a3.symm.trans b3; rfl
    have et : t = t' := by
      obtain ⟨D, fd, a1, a2, a3⟩ := hx.2.1
      obtain ⟨D', fd', b1, b2, b3⟩ := hy.2.1
      cases a1.symm.trans b1
      obtain ⟨q1, q2, q3, q4⟩ := a2.1
      obtain ⟨r1, r2, r3, r4⟩ := b2.1
      cases q4.symm.trans r4
      cases a3.symm.trans b3; rfl
    subst ec et
    have ev : V = V' := by cases hx.2.2.2.1.1.symm.trans hy.2.2.2.1.1; rfl
    subst ev
    have hs : SameT n f k g := (Cod.eqv hx.2.2.2.2.1 hy.2.2.2.2.1 hx.2.2.2.2.2 hy.2.2.2.2.2).mp ⟨rfl, fun _ _ => rfl⟩
    exact ⟨s₁, some (.int 1), _, _, _, X0, rfl, rfl, rfl, (fun h => by cases h), ⟨1, rfl, hh0, Or.inl ⟨rfl, hs⟩⟩, fun fs hl => c2.trans (X0.ireturnOut hexec hret rfl (Or.inr (Or.inl rfl)) (hb hbytes d6) hl)⟩
  · have c2 : Steps p.tables e below (s₁.setTop (entryFrame m #[.ref x, .ref y] 3)) (s₁.setTop (mkF m 8 #[.val (.ref x), .val (.ref y), .unset] [.ref y])) := c1.trans (by
      refine acmpYes X0.here hexec rfl (pc0 := 2) rfl (hb hbytes d2) rfl rfl rfl (by simp [acmp, hxy]) (by decide) rfl ?_
      refine XS.aloadN X0.here hexec rfl (hb hbytes d7) rfl rfl ?_
      exact Steps.refl _)
    obtain ⟨T3, X3, q3, st3⟩ := cinst X0 hexec hown (wk W (.classLink "java/lang/String" 10 "java/lang/String")) (hy.mv X0.warmed.alike hh0).1 (g := (mkF m 8 #[.val (.ref x), .val (.ref y), .unset] [.ref y])) rfl (rest := []) rfl (hb hbytes d8)
    have hh3 := q3.trans hh0
    have c4 : Steps p.tables e below (s₁.setTop (entryFrame m #[.ref x, .ref y] 3)) (T3.setTop (mkF m 15 #[.val (.ref x), .val (.ref y), .unset] [.ref y])) := (c2.trans (st3 _ (Steps.refl _))).trans (by
      refine XS.ifNo X3.here hexec rfl (hb hbytes d11) rfl (i0_eq_f (by decide)) ?_
      refine XS.aloadN X3.here hexec rfl (hb hbytes d14) rfl rfl ?_
      exact Steps.refl _)
    obtain ⟨T5, X5, q5, st5⟩ := cself X3 hexec hown (wk W (.classLink "java/lang/String" 10 "java/lang/String")) (hy.mv X3.warmed.alike hh3).1 (g := (mkF m 15 #[.val (.ref x), .val (.ref y), .unset] [.ref y])) rfl (rest := []) rfl (hb hbytes d15)
    have hh5 := q5.trans hh3
    have c6 : Steps p.tables e below (s₁.setTop (entryFrame m #[.ref x, .ref y] 3)) (T5.setTop (mkF m 19 #[.val (.ref x), .val (.ref y), .val (.ref y)] [])) := (c4.trans (st5 _ (Steps.refl _))).trans (by
      refine XS.astoreN X5.here hexec rfl (hb hbytes d18) rfl rfl rfl ?_
      exact Steps.refl _)
    obtain ⟨T7, X7, q7, st7⟩ := X5.sget hexec hown (wk W (.fieldLink "java/lang/String" 38 "java/lang/String" "COMPACT_STRINGS" "Z")) s1 (fun _ _ h => by rw [hh5]; exact h) (g := (mkF m 19 #[.val (.ref x), .val (.ref y), .val (.ref y)] [])) rfl (hb hbytes d19)
    have hh7 := q7.trans hh5
    have c8 : Steps p.tables e below (s₁.setTop (entryFrame m #[.ref x, .ref y] 3)) (T7.setTop (mkF m 26 #[.val (.ref x), .val (.ref y), .val (.ref y)] [.ref x])) := (c6.trans (st7 _ (Steps.refl _))).trans (by
      refine XS.ifNo X7.here hexec rfl (hb hbytes d22) rfl (i0_eq_f hz) ?_
      refine XS.aloadN X7.here hexec rfl (hb hbytes d25) rfl rfl ?_
      exact Steps.refl _)
    obtain ⟨T9, X9, q9, st9⟩ := X7.hget hexec hown (wk W (.fieldLink "java/lang/String" 15 "java/lang/String" "coder" "B")) (hx.mv X7.warmed.alike hh7).2.2.1 (g := (mkF m 26 #[.val (.ref x), .val (.ref y), .val (.ref y)] [.ref x])) rfl (rest := []) rfl (hb hbytes d26)
    have hh9 := q9.trans hh7
    have c10 : Steps p.tables e below (s₁.setTop (entryFrame m #[.ref x, .ref y] 3)) (T9.setTop (mkF m 30 #[.val (.ref x), .val (.ref y), .val (.ref y)] [.ref y, .int cd])) := (c8.trans (st9 _ (Steps.refl _))).trans (by
      refine XS.aloadN X9.here hexec rfl (hb hbytes d29) rfl rfl ?_
      exact Steps.refl _)
    obtain ⟨T11, X11, q11, st11⟩ := X9.hget hexec hown (wk W (.fieldLink "java/lang/String" 15 "java/lang/String" "coder" "B")) (hy.mv X9.warmed.alike hh9).2.2.1 (g := (mkF m 30 #[.val (.ref x), .val (.ref y), .val (.ref y)] [.ref y, .int cd])) rfl (rest := [.int cd]) rfl (hb hbytes d30)
    have hh11 := q11.trans hh9
    have c12 : Steps p.tables e below (s₁.setTop (entryFrame m #[.ref x, .ref y] 3)) (T11.setTop (mkF m 33 #[.val (.ref x), .val (.ref y), .val (.ref y)] [.int cd', .int cd])) := c10.trans (st11 _ (Steps.refl _))
    by_cases hcd : cd = cd'
    · subst hcd
      have c13 : Steps p.tables e below (s₁.setTop (entryFrame m #[.ref x, .ref y] 3)) (T11.setTop (mkF m 37 #[.val (.ref x), .val (.ref y), .val (.ref y)] [.ref x])) := c12.trans (by
        refine XS.icmpNo X11.here hexec rfl (hb hbytes d33) rfl (ii_ne_f rfl) ?_
        refine XS.aloadN X11.here hexec rfl (hb hbytes d36) rfl rfl ?_
        exact Steps.refl _)
      obtain ⟨T14, X14, q14, st14⟩ := X11.hget hexec hown (wk W (.fieldLink "java/lang/String" 9 "java/lang/String" "value" "[B")) (hx.mv X11.warmed.alike hh11).2.1 (g := (mkF m 37 #[.val (.ref x), .val (.ref y), .val (.ref y)] [.ref x])) rfl (rest := []) rfl (hb hbytes d37)
      have hh14 := q14.trans hh11
      have c15 : Steps p.tables e below (s₁.setTop (entryFrame m #[.ref x, .ref y] 3)) (T14.setTop (mkF m 41 #[.val (.ref x), .val (.ref y), .val (.ref y)] [.ref y, .ref t])) := (c13.trans (st14 _ (Steps.refl _))).trans (by
        refine XS.aloadN X14.here hexec rfl (hb hbytes d40) rfl rfl ?_
        exact Steps.refl _)
      obtain ⟨T16, X16, q16, st16⟩ := X14.hget hexec hown (wk W (.fieldLink "java/lang/String" 9 "java/lang/String" "value" "[B")) (hy.mv X14.warmed.alike hh14).2.1 (g := (mkF m 41 #[.val (.ref x), .val (.ref y), .val (.ref y)] [.ref y, .ref t])) rfl (rest := [.ref t]) rfl (hb hbytes d41)
      have hh16 := q16.trans hh14
      have c17 : Steps p.tables e below (s₁.setTop (entryFrame m #[.ref x, .ref y] 3)) (T16.setTop (mkF m 44 #[.val (.ref x), .val (.ref y), .val (.ref y)] [.ref t', .ref t])) := c15.trans (st16 _ (Steps.refl _))
      obtain ⟨v18, T18, X18, E18, g18⟩ := X16.callS hexec (LEq.law l t V t' V') hown (wks W (staticW "java/lang/String" 541 LEq.yN)) (wk W LEq.tab) (W := 0) (Nat.le_of_ble_eq_true rfl) (Nat.le_of_ble_eq_true rfl) (Nat.le_refl _) (Nat.le_refl _) (g := (mkF m 44 #[.val (.ref x), .val (.ref y), .val (.ref y)] [.ref t', .ref t])) rfl (by rw [hml]; rfl) c17 (argsL := [.ref t, .ref t']) (rest := []) rfl rfl (by show 2 * 0 + 0 ≤ _; decide) (hb hbytes d44) (⟨rfl, hx.2.2.2.1.mv X16.warmed.alike hh16, hx.2.2.2.2.1.ty, hy.2.2.2.1.mv X16.warmed.alike hh16, hy.2.2.2.2.1.ty⟩)
      obtain ⟨v, rfl, q18, hv⟩ := E18
      have iff := Cod.eqv hx.2.2.2.2.1 hy.2.2.2.2.1 hx.2.2.2.2.2 hy.2.2.2.2.2
      rcases hv with ⟨rfl, he⟩ | ⟨rfl, he⟩
      · have c19 : Steps p.tables e below (s₁.setTop (entryFrame m #[.ref x, .ref y] 3)) (T18.setTop (mkF m 55 #[.val (.ref x), .val (.ref y), .val (.ref y)] [.int 1])) := Steps.trans g18 (by
          refine XS.ifNo X18.here hexec rfl (hb hbytes d47) rfl (i0_eq_f (by decide)) ?_
          refine iconstV X18.here hexec rfl 1 (hb hbytes d50) (by decide) ?_
          refine XS.goto X18.here hexec rfl (pc0 := 51) rfl (hb hbytes d51) (by decide) rfl ?_
          exact Steps.refl _)
        exact ⟨T18, some (.int 1), _, _, _, X18, rfl, rfl, rfl, (fun h => by cases h), ⟨1, rfl, q18.trans hh16, Or.inl ⟨rfl, iff.mp he⟩⟩, fun fs hl => c19.trans (X18.ireturnOut hexec hret rfl (Or.inr (Or.inl rfl)) (hb hbytes d55) hl)⟩
      · have c19 : Steps p.tables e below (s₁.setTop (entryFrame m #[.ref x, .ref y] 3)) (T18.setTop (mkF m 55 #[.val (.ref x), .val (.ref y), .val (.ref y)] [.int 0])) := Steps.trans g18 (by
          refine XS.ifYes X18.here hexec rfl (pc0 := 47) rfl (hb hbytes d47) rfl (i0_eq_t rfl) (by decide) rfl ?_
          refine iconstV X18.here hexec rfl 0 (hb hbytes d54) (by decide) ?_
          exact Steps.refl _)
        exact ⟨T18, some (.int 0), _, _, _, X18, rfl, rfl, rfl, (fun h => by cases h), ⟨0, rfl, q18.trans hh16, Or.inr ⟨rfl, fun q => he (iff.mpr q)⟩⟩, fun fs hl => c19.trans (X18.ireturnOut hexec hret rfl (Or.inr (Or.inl rfl)) (hb hbytes d55) hl)⟩
    · have c13 : Steps p.tables e below (s₁.setTop (entryFrame m #[.ref x, .ref y] 3)) (T11.setTop (mkF m 55 #[.val (.ref x), .val (.ref y), .val (.ref y)] [.int 0])) := c12.trans (by
        refine XS.icmpYes X11.here hexec rfl (pc0 := 33) rfl (hb hbytes d33) rfl (ii_ne_t hcd) (by decide) rfl ?_
        refine iconstV X11.here hexec rfl 0 (hb hbytes d54) (by decide) ?_
        exact Steps.refl _)
      exact ⟨T11, some (.int 0), _, _, _, X11, rfl, rfl, rfl, (fun h => by cases h), ⟨0, rfl, hh11, Or.inr ⟨rfl, Cod.dif hx.2.2.2.2.1 hy.2.2.2.2.1 hcd⟩⟩, fun fs hl => c13.trans (X11.ireturnOut hexec hret rfl (Or.inr (Or.inl rfl)) (hb hbytes d55) hl)⟩
theorem pays {l : Launch} {R : Room} {p : Program} {e : Env} {below : List Frame} {s : State} {sargs : Array Value} {len W : Nat} (x t : Addr) (V : Cell) (cd : Int32) (n : Nat) (f : Nat → Int32) (y t' : Addr) (V' : Cell) (cd' : Int32) (k : Nat) (g : Nat → Int32) (z : Int32) (htab : tab.before sargs s = true) (hfr : 2 ≤ R.frames) (hlo : W + 28 ≤ R.locals) :
    Back l R p e below s sargs yN len W (fun A₁ a₁ => A₁.cells + 0 ≤ R.cells ∧ A₁.slots + 0 ≤ R.slots ∧ P x t V cd n f y t' V' cd' k g z a₁ A₁.U) (fun A₁ _ v₁ B₁ => Says01 (SameT n f k g) v₁ A₁.U B₁.U ∧ B₁.locs = A₁.locs ++ [] ∧ B₁.cells = A₁.cells + 0 ∧ B₁.slots = A₁.slots + 0) :=
  (law l x t V cd n f y t' V' cd' k g z).pays htab hfr (by omega)
end SEq
end StrChars
namespace StrChars.Road
open Jvm Sem ClassFile Op Lib Jvm.Stand Jvm.Free Jvm.Free.XT
open Jvm.Lib.Cold (StaticIs)
/-- the words of String.equals(Object) -/
abbrev wordsEq : List Jvm.Cond := [.code SEq.yN SEq.yB 3 (some .boolean), .initialized ST, .classLink ST 10 ST, .fieldLink ST 38 ST "COMPACT_STRINGS" "Z", .fieldLink ST 15 ST "coder" "B", .fieldLink ST 9 ST "value" "[B", .methodLink ST 541 LEq.yN, .static LEq.yN, .code LEq.yN LEq.yB 3 (some .boolean), .initialized "java/lang/StringLatin1"]
theorem tabEq_of {a : Array Value} {s : State} (h : ∀ w ∈ wordsEq, w.before a s = true) : SEq.tab.before a s = true := by
  have hl : LEq.tab.before a s = true := unparts (wk h (.code LEq.yN LEq.yB 3 (some .boolean))) (wks h (.initialized LEq.yN.cls :: LEq.site))
  have q := consq hl h
  exact unparts (wk q (.code SEq.yN SEq.yB 3 (some .boolean))) (wks q (.initialized SEq.yN.cls :: SEq.site))
theorem movedEq {Z s : State} {a0 args : Array Value} (hZ : Z.Warmed39 s.vm) (hw : ∀ d ∈ wordsEq, d.before a0 Z = true) : ∀ d ∈ wordsEq, d.before args s = true := fun d hd => by
  have t : ∀ d ∈ wordsEq, (d.onTables && d.keepsFace) = true := by decide +kernel
  exact RoadKit.mv hZ (hw d hd) (t d hd)
/-- the road's facts of a String, as the laws ask it -/
theorem txt_of {Z U : State} {a0 : Array Value} {kI : Nat} (wi : (Jvm.Cond.instantiable ST kI).before a0 Z = true) (al : Z.vm.Alike U.vm) {x t : Addr} {kb : ClassId} {cs : List Int32} {cd N2 : Int32} {vs : List Value} (E : RoadKit.Exa Z U.heap x ST) (V : RoadKit.Fld Z U.heap x ST "value" "[B" (.ref t)) (C : RoadKit.Fld Z U.heap x ST "coder" "B" (.int cd)) (K : RoadKit.Arv Z U.heap t kb .byte N2 vs (.int 0)) (hc : CodA cs cd N2 vs) (hb : ∀ c ∈ cs, ¬ c < 0 ∧ ¬ (65535 : Int32) < c) (l2 : cs.length ≤ 4000) :
    ∃ A, Txt x t A cd cs.length (fun j => cs.getD j 0) U := by
  obtain ⟨A, K1, K2, K3, K4, K5, K6⟩ := K
  have hcod := hc.cod (by omega) K3 K5
  obtain ⟨D, fV, fC, hB, F1, F2, g1, g2, -, -⟩ := strObj wi al E V C
  exact ⟨A, ⟨_, hB.2.2.1, D, hB.1, rfl, by cases q : D.vm <;> first | rfl | exact absurd q (hB.2.1.2 _)⟩, Has.of hB F1 g1, Has.of hB F2 g2, ⟨K1.1, State.isArrayOf_alike al K1.2.1, K1.2.2, by rcases hcod with ⟨-, q, -⟩ | ⟨-, q, -⟩ <;> omega⟩, hcod, fun j hj => by
    have e : cs.getD j 0 = cs[j] := by simp [List.getD_eq_getElem?_getD, hj]
    show ¬ cs.getD j 0 < 0 ∧ ¬ 65535 < cs.getD j 0
    rw [e]; exact hb _ (List.getElem_mem _)⟩
theorem same_list (cs ds : List Int32) : SameT cs.length (fun j => cs.getD j 0) ds.length (fun j => ds.getD j 0) ↔ cs = ds := by
  constructor
  · rintro ⟨e, q⟩
    refine List.ext_getElem e fun j h1 h2 => ?_
    have := q j h1
    simpa [List.getD_eq_getElem?_getD, h1, h2] using this
  · rintro rfl
    exact ⟨rfl, fun _ _ => rfl⟩
/-- **equals(Object) OF TWO SUCH STRINGS**: 1 just where the chars are the same -/
theorem eqW {p : Program} {l : Launch} {e : Env} {R : Room} {s : State} {args : Array Value} {below : List Frame} {len W : Nat} {Z : State} {a0 : Array Value} {h : Heap} (hZ : Z.Warmed39 s.vm) (hw : ∀ d ∈ wordsEq, d.before a0 Z = true) {kI : Nat} (wi : (Jvm.Cond.instantiable ST kI).before a0 Z = true)
    {x t : Addr} {kb : ClassId} {cs : List Int32} {cd N2 : Int32} {vs : List Value} (E : RoadKit.Exa Z h x ST) (V : RoadKit.Fld Z h x ST "value" "[B" (.ref t)) (C : RoadKit.Fld Z h x ST "coder" "B" (.int cd)) (K : RoadKit.Arv Z h t kb .byte N2 vs (.int 0)) (hc : CodA cs cd N2 vs) (hb : ∀ c ∈ cs, ¬ c < 0 ∧ ¬ (65535 : Int32) < c) (l2 : cs.length ≤ 4000)
    {y t' : Addr} {kb' : ClassId} {ds : List Int32} {cd' N2' : Int32} {vs' : List Value} (E' : RoadKit.Exa Z h y ST) (V' : RoadKit.Fld Z h y ST "value" "[B" (.ref t')) (C' : RoadKit.Fld Z h y ST "coder" "B" (.int cd')) (K' : RoadKit.Arv Z h t' kb' .byte N2' vs' (.int 0)) (hc' : CodA ds cd' N2' vs') (hb' : ∀ c ∈ ds, ¬ c < 0 ∧ ¬ (65535 : Int32) < c) (l2' : ds.length ≤ 4000)
    {z : Int32} (S : RoadKit.Sta Z h ST "COMPACT_STRINGS" "Z" (.int z)) (hz : ¬ z = 0) (hfr : 2 ≤ R.frames) (hlo : W + 28 ≤ R.locals) :
    Back l R p e below s args (⟨"java/lang/String", "equals", "(Ljava/lang/Object;)Z"⟩ : MethodName) len W (fun P a => a = #[.ref x, .ref y] ∧ P.U.heap = h ∧ P.cells + 0 ≤ R.cells ∧ P.slots + 0 ≤ R.slots)
      (fun P _ v B => ∃ L, (((v = some (.int 1) ∧ cs = ds) ∨ (v = some (.int 0) ∧ ¬ cs = ds)) ∧ L = [] ∧ B.U.heap = h) ∧ B.locs = P.locs ++ L ∧ B.cells = P.cells + 0 ∧ B.slots = P.slots + 0) := by
  intro m meth c P g ig mk a X hg hsize hdg hW hn hp'
  obtain ⟨rfl, rfl, r1, r2⟩ := hp'
  have al : Z.vm.Alike P.U.vm := hZ.alike.trans X.warmed.alike
  obtain ⟨A, hx⟩ := txt_of wi al E V C K hc hb l2
  obtain ⟨A', hy⟩ := txt_of wi al E' V' C' K' hc' hb' l2'
  obtain ⟨v, B, X', ⟨⟨w, hv, hh, hq⟩, hl, hk, hs⟩, st⟩ := SEq.pays x t A cd cs.length (fun j => cs.getD j 0) y t' A' cd' ds.length (fun j => ds.getD j 0) z (tabEq_of (movedEq hZ hw)) hfr hlo m meth c P g ig mk _ X hg hsize hdg hW hn ⟨r1, r2, rfl, hx, hy, sta_is al S, hz⟩
  refine ⟨v, B, X', ⟨[], ⟨?_, rfl, hh⟩, hl, hk, hs⟩, st⟩
  rcases hq with ⟨rfl, q⟩ | ⟨rfl, q⟩
  · exact Or.inl ⟨hv, (same_list cs ds).mp q⟩
  · exact Or.inr ⟨hv, fun e => q ((same_list cs ds).mpr e)⟩
end StrChars.Road
namespace StrChars.Road
open Jvm Sem ClassFile Op Lib Jvm.Stand Jvm.Free Jvm.Free.XT
open Jvm.Lib.Cold (StaticIs)
/-- what backV says of its String, as the contracts of this text ask it: cs's low bytes, coder 0 -/
theorem codOf {cs : List Int32} {n : Nat} (hn : cs.length = n) (hb : ∀ c ∈ cs, ¬ 255 < c) : CodA cs 0 (Int32.ofNat n) ((cs.map lo8).map Value.int) := Or.inl ⟨rfl, by rw [hn], by simp [List.map_map, Function.comp_def], hb⟩
end StrChars.Road
end Jvm.Pilot.@@N@@
namespace Jvm.Pilot.@@N@@
open Jvm Jvm.ClassFile Sem Op Lib Jvm.Free Jvm.Stand Jvm.LawKit Jvm.RoadKit Bundle Jvm.Pilot.@@N@@.Jvm.D
/-- every run that goes on from the frame g of T to t is one of G -/
abbrev Go (p : Program) (e : Env) (below : List Frame) (T : State) (g : JFrame) (G : State → Prop) : Prop := ∀ t, Steps p.tables e below (T.setTop g) t → G t
theorem own_i2c (y : Int32) (h0 : 0 ≤ y.toInt) (h1 : y.toInt ≤ 65535) : y.toUInt32.toUInt16.toUInt32.toInt32 = y := by
  rw [← Int32.toInt_inj]
  have h := c_i2c y
  omega
theorem own_and255 (x : Int32) : 0 ≤ (x &&& (255 : Int32)).toInt ∧ (x &&& (255 : Int32)).toInt ≤ 255 := by
  have h := c_and x (255 : Int32) (by decide)
  have e : (255 : Int32).toInt = 255 := by decide
  rw [e] at h
  exact h
theorem own_c255 (x : Int32) : nar .char ((x &&& (255 : Int32)).toUInt32.toUInt16.toUInt32.toInt32) = (x &&& (255 : Int32)) := by
  have h := own_and255 x
  have e := own_i2c (x &&& (255 : Int32)) h.1 (by omega)
  show ((x &&& (255 : Int32)).toUInt32.toUInt16.toUInt32.toInt32).toUInt32.toUInt16.toUInt32.toInt32 = _
  rw [e, e]
theorem own_p255 (x : Int32) : ¬ nar .char ((x &&& (255 : Int32)).toUInt32.toUInt16.toUInt32.toInt32) < 0 ∧ ¬ (255 : Int32) < nar .char ((x &&& (255 : Int32)).toUInt32.toUInt16.toUInt32.toInt32) := by
  have h := own_and255 x
  have e : (255 : Int32).toInt = 255 := by decide
  have e0 : (0 : Int32).toInt = 0 := by decide
  rw [own_c255, Int32.lt_iff_toInt_lt, Int32.lt_iff_toInt_lt, e, e0]
  omega
abbrev own_EL : List (String × Nat) := [("java/lang/String", 7)]
theorem own_EW {Z : State} {a0 : Array Value} (hW : ∀ (k : Nat) (d : Jvm.Cond), tables_1[k]? = some d → d.before a0 Z = true) : EW Z a0 own_EL := EW.cons (hW 21 _ rfl) (by decide) EW.nil
theorem own_safe {Z : State} {vm : Vm} {h : Heap} {x : Addr} (hal : Z.vm.Alike vm) (E : Exa Z h x "java/lang/String") (F : Fld Z h x "java/lang/String" "value" "[B" .null) : Safe Z own_EL vm h x := fun B => by
  obtain ⟨cell, cf, k, i, f, f1, f2, f3, f4, f5, f6, f7⟩ := F
  obtain ⟨cell', k', e1, e2, e3, -, -⟩ := E
  cases f1.symm.trans e1
  obtain ⟨p, -, u, a, -, q, -, S, rfl | rfl⟩ := B
  · cases (show h[q.sa]? = some q.sC from S.ha).symm.trans f1
    obtain ⟨cS, ⟨⟨-, -, -, ⟨c2, k2, i2, g1, -⟩, -, -, -, g2, -⟩, -, -⟩, -⟩ := S
    obtain ⟨k3, g3⟩ := ff_back (U := Wst Z vm h) hal g1
    cases g3.symm.trans f2
    rw [f7] at g2
    cases g2
  · cases (show h[q.sd]? = some q.SA from S.hd).symm.trans f1
    obtain ⟨cS, -, -, g, -⟩ := S
    have g' := (hal.findClass _ _).symm.trans g
    exact ids_ne g' e2 (by decide) rfl
theorem pn_0 : plainName "java/lang/String" = true := by first | (simp [plainName, overriddenIn]; done) | decide +kernel
theorem ef_jdk_42_method_149_RRIIN (m : MethodId) (x0 : Addr) (x1 : Addr) (x2 : Int32) (x3 : Int32) : entryFrame m #[(.ref x0), (.ref x1), (.int x2), (.int x3), .null] 6 = mkF m 0 #[.val (.ref x0), .val (.ref x1), .val (.int x2), .val (.int x3), .val .null, .unset] [] := by first | (simp [entryFrame, mkF, argsToLocals, Value.category]; done) | rfl
theorem d_jdk_42_method_149_0 : decode jdk_42_method_149_code 0 = .ok (.aload_n 0, 1) := by decide +kernel
theorem d_jdk_42_method_149_1 : decode jdk_42_method_149_code 1 = .ok (.invokespecial 1, 3) := by decide +kernel
theorem d_jdk_42_method_149_4 : decode jdk_42_method_149_code 4 = .ok (.iload_n 3, 1) := by decide +kernel
theorem d_jdk_42_method_149_5 : decode jdk_42_method_149_code 5 = .ok (.ifCond .ne 22, 3) := by decide +kernel
theorem d_jdk_42_method_149_8 : decode jdk_42_method_149_code 8 = .ok (.aload_n 0, 1) := by decide +kernel
theorem d_jdk_42_method_149_9 : decode jdk_42_method_149_code 9 = .ok (.ldc 7, 2) := by decide +kernel
theorem d_jdk_42_method_149_11 : decode jdk_42_method_149_code 11 = .ok (.getfield 9, 3) := by decide +kernel
theorem d_jdk_42_method_149_14 : decode jdk_42_method_149_code 14 = .ok (.putfield 9, 3) := by decide +kernel
theorem d_jdk_42_method_149_17 : decode jdk_42_method_149_code 17 = .ok (.aload_n 0, 1) := by decide +kernel
theorem d_jdk_42_method_149_18 : decode jdk_42_method_149_code 18 = .ok (.ldc 7, 2) := by decide +kernel
theorem d_jdk_42_method_149_20 : decode jdk_42_method_149_code 20 = .ok (.getfield 15, 3) := by decide +kernel
theorem d_jdk_42_method_149_23 : decode jdk_42_method_149_code 23 = .ok (.putfield 15, 3) := by decide +kernel
theorem d_jdk_42_method_149_26 : decode jdk_42_method_149_code 26 = .ok (.return_, 1) := by decide +kernel
def QN4 (Z : State) (a : Addr) (b : Addr) (h0 : Heap) (n0 : Nat) (v : Option Value) (h : Heap) (L : List Loc) : Prop := v = none ∧ Fr n0 L ∧ Keep h0 h [a] ∧ Exa Z h a "java/lang/String" ∧ Fld Z h a "java/lang/String" "coder" "B" (.int (0 : Int32)) ∧ ∃ (t : Addr) (kb : ClassId), t ≠ a ∧ Fld Z h a "java/lang/String" "value" "[B" (.ref t) ∧ Arv Z h t kb .byte (0 : Int32) [] (.int (0 : Int32))
set_option maxRecDepth 65536 in
set_option maxHeartbeats 40000000 in
theorem rmN4 (l : Launch) (Z : State) (a0 : Array Value) (hw : ∀ d ∈ tables_1, d.before a0 Z = true) (ws : List Jvm.Cond) (a : Addr) (b : Addr) (h0 : Heap) (n0 : Nat) (Z0 : n0 ≤ h0.size) (F_value_a : Fld Z h0 a "java/lang/String" "value" "[B" .null) (F_coder_a : Fld Z h0 a "java/lang/String" "coder" "B" (.int (0 : Int32))) (E_a : Exa Z h0 a "java/lang/String") (ge_a : n0 ≤ a) :
    MetFree l (⟨"java/lang/String", "<init>", "([CIILjava/lang/Void;)V"⟩ : MethodName) (head1 (Jvm.Cond.code (⟨"java/lang/String", "<init>", "([CIILjava/lang/Void;)V"⟩ : MethodName) jdk_42_method_149_code 6 none :: ws) ({ frames := 1, cells := 2, slots := 4, locals := 12 } : Room)) (fun aa UU => aa = #[(.ref a), (.ref b), (.int (0 : Int32)), (.int (0 : Int32)), .null] ∧ Z.Warmed39 UU.vm ∧ UU.heap = h0 ∧ CHv Z own_EL UU.vm h0) (fun _ _ _ _ _ => True) (fun _ UU oo UU' => ∃ vv LL, oo = .returned vv ∧ QN4 Z a b h0 n0 vv UU'.heap LL ∧ CHr Z own_EL UU.vm UU.heap UU'.vm UU'.heap ∧ ReturnedEndW UU oo UU' LL ({ frames := 1, cells := 2, slots := 4, locals := 12 } : Room).cells ({ frames := 1, cells := 2, slots := 4, locals := 12 } : Room).slots) := by
  refine MetFree.of_bodySF (plainFor_of_name pn_0) hisR ?_
  intro p e s m args below meth c s₁ Bd hml0 hP hK
  obtain ⟨rfl, hZ, hh, HC⟩ := hP
  have hx := Bd.exec
  have hby := Bd.bytes
  have hml : c.maxLocals = 6 := hml0
  have hown : s.vm.findClass "java/lang/String" = some m.cls := findClass_of_methodNamed Bd.named
  have hnm := (name_of_methodNamed Bd.named Bd.method).1
  have hW : ∀ (k : Nat) (d : Jvm.Cond), tables_1[k]? = some d → d.before a0 Z = true := fun k d h => hw d (List.mem_of_getElem? h)
  have X0 : Stand p l e ({ frames := 1, cells := 2, slots := 4, locals := 12 } : Room) (s.setVm s.vm) m #[(.ref a), (.ref b), (.int (0 : Int32)), (.int (0 : Int32)), .null] below meth c s₁ [] 0 0 := Stand.of_body Bd
  have e0 : s₁.heap = h0 := by rw [← hh, Bd.state]; rfl
  have N0 := Fr.nil n0
  obtain ⟨G, hG, K0⟩ : ∃ G : State → Prop, (∀ tq, G tq → Steps p.tables e below (s₁.setTop (entryFrame m #[(.ref a), (.ref b), (.int (0 : Int32)), (.int (0 : Int32)), .null] 6)) tq) ∧ Go p e below s₁ (mkF m 0 #[.val (.ref a), .val (.ref b), .val (.int (0 : Int32)), .val (.int (0 : Int32)), .val .null, .unset] []) G := ⟨fun tq => Steps p.tables e below (s₁.setTop (entryFrame m #[(.ref a), (.ref b), (.int (0 : Int32)), (.int (0 : Int32)), .null] 6)) tq, fun _ h => h, fun tq kq => castTop (ef_jdk_42_method_149_RRIIN m a b (0 : Int32) (0 : Int32)) kq⟩
  have hS0 := (State.WarmedH.refl s).since 0
  have hEL : EW Z a0 own_EL := own_EW hW
  have CR0 := CHr.refl HC
  have Sfa := own_safe hZ.alike E_a F_value_a
  have K1 : Go p e below s₁ (mkF m 1 #[.val (.ref a), .val (.ref b), .val (.int (0 : Int32)), .val (.int (0 : Int32)), .val .null, .unset] [(.ref a)]) G := fun tq kq => K0 tq (XS.aloadN X0.here hx rfl (hb hby d_jdk_42_method_149_0) rfl rfl kq)
  obtain ⟨T2, X2, e2, st2⟩ := initO X0 hx hZ hown (hW 18 _ rfl) (hW 19 _ rfl) (hW 20 _ rfl) e0 (g := (mkF m 1 #[.val (.ref a), .val (.ref b), .val (.int (0 : Int32)), .val (.int (0 : Int32)), .val .null, .unset] [(.ref a)])) rfl (by rw [hml]; rfl) rfl (hb hby d_jdk_42_method_149_1) (by decide) (W := 0) (by show 2 * 0 + _ ≤ _; exact Nat.le_of_eq rfl) (by decide)
  have K3 : Go p e below T2 (mkF m 4 #[.val (.ref a), .val (.ref b), .val (.int (0 : Int32)), .val (.int (0 : Int32)), .val .null, .unset] []) G := fun tq kq => K1 tq (st2 tq kq)
  have K4 : Go p e below T2 (mkF m 5 #[.val (.ref a), .val (.ref b), .val (.int (0 : Int32)), .val (.int (0 : Int32)), .val .null, .unset] [(.int (0 : Int32))]) G := fun tq kq => K3 tq (XS.iloadN X2.here hx rfl (hb hby d_jdk_42_method_149_4) rfl kq)
  have K5 : Go p e below T2 (mkF m 8 #[.val (.ref a), .val (.ref b), .val (.int (0 : Int32)), .val (.int (0 : Int32)), .val .null, .unset] []) G := fun tq kq => K4 tq (XS.ifNo X2.here hx rfl (hb hby d_jdk_42_method_149_5) rfl ((if0 _ _).trans (teq (by decide : (0 : Int32) = (0 : Int32))).2) kq)
  have K6 : Go p e below T2 (mkF m 9 #[.val (.ref a), .val (.ref b), .val (.int (0 : Int32)), .val (.int (0 : Int32)), .val .null, .unset] [(.ref a)]) G := fun tq kq => K5 tq (XS.aloadN X2.here hx rfl (hb hby d_jdk_42_method_149_8) rfl rfl kq)
  obtain ⟨a7, T7, h7, k7, bb7, kb7, X7, e7, E7, hS7, hk7, hZ, hown, EL7, FC7, FV7, VB7, la7, lb7, CH7, Lit7, ap7, st7⟩ := ldcCH (s := s) (vm0 := s.vm) X2 hx hZ hown (hW 21 _ rfl) (fun d hd => hw d ((by decide +kernel : ∀ d ∈ Bundle.stringAtoms, d ∈ tables_1) d hd)) e2 hS0 (Nat.zero_le _) hEL (by decide) CR0.1 (vs := []) (z := (0 : Int32)) ⟨by decide, rfl⟩ (by decide) rfl (g := (mkF m 9 #[.val (.ref a), .val (.ref b), .val (.int (0 : Int32)), .val (.int (0 : Int32)), .val .null, .unset] [(.ref a)])) rfl (hb hby d_jdk_42_method_149_9) (n := 0) (by decide) (by decide) (by decide) (by decide)
  have Sl7_a := CHr.safe CH7 E_a.lt Sfa
  have CRl7 := CR0.trans CH7
  have K8 : Go p e below T7 (mkF m 11 #[.val (.ref a), .val (.ref b), .val (.int (0 : Int32)), .val (.int (0 : Int32)), .val .null, .unset] [(.ref a7), (.ref a)]) G := fun tq kq => K6 tq (st7 tq kq)
  obtain ⟨T9, X9, e9, st9⟩ := getF X7 hx hZ hown (host := "") (Or.inl (hW 27 _ rfl)) Via.refl e7 FV7 (g := (mkF m 11 #[.val (.ref a), .val (.ref b), .val (.int (0 : Int32)), .val (.int (0 : Int32)), .val .null, .unset] [(.ref a7), (.ref a)])) rfl rfl (hb hby d_jdk_42_method_149_11)
  have K10 : Go p e below T9 (mkF m 14 #[.val (.ref a), .val (.ref b), .val (.int (0 : Int32)), .val (.int (0 : Int32)), .val .null, .unset] [(.ref bb7), (.ref a)]) G := fun tq kq => K8 tq (st9 tq kq)
  obtain ⟨T11, h11, X11, e11, W11, st11⟩ := putF X9 hx hZ hown (host := "") (Or.inl (hW 27 _ rfl)) Via.refl e9 (F_value_a.ext E7) (E_a.ext E7) (Or.inr ⟨(hW 23 _ rfl), rfl, hnm⟩) (hW 8 _ rfl) (ty := (.array .byte)) (by decide) rfl rfl (g := (mkF m 14 #[.val (.ref a), .val (.ref b), .val (.int (0 : Int32)), .val (.int (0 : Int32)), .val .null, .unset] [(.ref bb7), (.ref a)])) rfl rfl (hb hby d_jdk_42_method_149_14)
  have N11 := Fr.snoc X11 N0 ge_a
  have F11 := Fld.same W11 (F_value_a.ext E7)
  have CR12 := CRl7.trans (CHr.wr W11 Sl7_a CRl7.1)
  have Sf12_a := Safe.wr W11 Sl7_a CRl7.1 Sl7_a
  have K13 : Go p e below T11 (mkF m 17 #[.val (.ref a), .val (.ref b), .val (.int (0 : Int32)), .val (.int (0 : Int32)), .val .null, .unset] []) G := fun tq kq => K10 tq (st11 tq kq)
  have K14 : Go p e below T11 (mkF m 18 #[.val (.ref a), .val (.ref b), .val (.int (0 : Int32)), .val (.int (0 : Int32)), .val .null, .unset] [(.ref a)]) G := fun tq kq => K13 tq (XS.aloadN X11.here hx rfl (hb hby d_jdk_42_method_149_17) rfl rfl kq)
  have K16 : Go p e below T11 (mkF m 20 #[.val (.ref a), .val (.ref b), .val (.int (0 : Int32)), .val (.int (0 : Int32)), .val .null, .unset] [(.ref a7), (.ref a)]) G := fun tq kq => K14 tq (ldcAgain (s := s) X11 hx hZ hown (hW 21 _ rfl) Lit7 (g := (mkF m 18 #[.val (.ref a), .val (.ref b), .val (.int (0 : Int32)), .val (.int (0 : Int32)), .val .null, .unset] [(.ref a)])) rfl (hb hby d_jdk_42_method_149_18) tq kq)
  obtain ⟨T17, X17, e17, st17⟩ := getF X11 hx hZ hown (host := "") (Or.inl (hW 28 _ rfl)) Via.refl e11 (FC7.other W11 (Or.inl (Ne.symm (ap7 _ Sl7_a).1))) (g := (mkF m 20 #[.val (.ref a), .val (.ref b), .val (.int (0 : Int32)), .val (.int (0 : Int32)), .val .null, .unset] [(.ref a7), (.ref a)])) rfl rfl (hb hby d_jdk_42_method_149_20)
  have K18 : Go p e below T17 (mkF m 23 #[.val (.ref a), .val (.ref b), .val (.int (0 : Int32)), .val (.int (0 : Int32)), .val .null, .unset] [(.int (0 : Int32)), (.ref a)]) G := fun tq kq => K16 tq (st17 tq kq)
  obtain ⟨T19, h19, X19, e19, W19, st19⟩ := putFN X17 hx hZ hown (hW 28 _ rfl) Via.refl e17 ((F_coder_a.ext E7).other W11 (Or.inr (slot_ne (Or.inr (hW 24 _ rfl)) (Or.inr (hW 23 _ rfl)) (by decide) (t := .byte) (t' := (.array .byte)) (by decide) (by decide)))) ((E_a.ext E7).wr W11) (Or.inr ⟨(hW 24 _ rfl), rfl, hnm⟩) (hW 8 _ rfl) (ty := .byte) (v' := (.int (0 : Int32))) (by decide) rfl (by decide) (g := (mkF m 23 #[.val (.ref a), .val (.ref b), .val (.int (0 : Int32)), .val (.int (0 : Int32)), .val .null, .unset] [(.int (0 : Int32)), (.ref a)])) rfl rfl (hb hby d_jdk_42_method_149_23)
  have N19 := Fr.snoc X19 N11 ge_a
  have F19 := Fld.same W19 ((F_coder_a.ext E7).other W11 (Or.inr (slot_ne (Or.inr (hW 24 _ rfl)) (Or.inr (hW 23 _ rfl)) (by decide) (t := .byte) (t' := (.array .byte)) (by decide) (by decide))))
  have CR20 := CR12.trans (CHr.wr W19 Sf12_a CR12.1)
  have Sf20_a := Safe.wr W19 Sf12_a CR12.1 Sf12_a
  have K21 : Go p e below T19 (mkF m 26 #[.val (.ref a), .val (.ref b), .val (.int (0 : Int32)), .val (.int (0 : Int32)), .val .null, .unset] []) G := fun tq kq => K18 tq (st19 tq kq)
  obtain ⟨fs, hr, hrun, hended, hRE⟩ := X19.leaveW (s := s) hS7 (by first | exact (Nat.le_trans (Nat.le_trans hk7 (Keep.of_wr W11).1) (Keep.of_wr W19).1) | (rw [e19]; exact (Nat.le_trans (Nat.le_trans hk7 (Keep.of_wr W11).1) (Keep.of_wr W19).1))) (v := none) (fun _ => rfl)
  have CRe := CR20.trans (CHv.at X19 hZ hEL CR20.1)
  refine ⟨_, _, hG _ (K21 _ (X19.returnOut hx Bd.returns (hb hby d_jdk_42_method_149_26) hr)), hrun, hended, _, _, rfl, ?_, (by show CHr Z own_EL s.vm s.heap T19.vm T19.heap; rw [hh, e19]; exact CRe), hRE.1, hRE.2.1, hRE.2.2.1, hRE.2.2.2.mono (by decide) (by decide)⟩
  show QN4 Z a b h0 n0 _ T19.heap _
  rw [e19]
  exact ⟨rfl, N19, ((((Keep.refl h0 [a]).ext E7).wr W11 (Or.inl (List.mem_of_getElem? (i := 0) rfl))).wr W19 (Or.inl (List.mem_of_getElem? (i := 0) rfl))), (((E_a.ext E7).wr W11).wr W19), F19, bb7, _, Ne.symm (ap7 _ Sl7_a).2, (F11.other W19 (Or.inr (slot_ne (Or.inr (hW 23 _ rfl)) (Or.inr (hW 24 _ rfl)) (by decide) (t := (.array .byte)) (t' := .byte) (by decide) (by decide)))), ((VB7.other W11 (Ne.symm (ap7 _ Sl7_a).2)).other W19 (Ne.symm (ap7 _ Sl7_a).2))⟩
theorem ef_jdk_42_method_3_RR (m : MethodId) (x0 : Addr) (x1 : Addr) : entryFrame m #[(.ref x0), (.ref x1)] 2 = mkF m 0 #[.val (.ref x0), .val (.ref x1)] [] := by first | (simp [entryFrame, mkF, argsToLocals, Value.category]; done) | rfl
theorem pd_16 : parseMethodDescriptor "([CIILjava/lang/Void;)V" = some ⟨[(.array .char), .int, .int, (.object "java/lang/Void")], none⟩ := by decide +kernel
theorem d_jdk_42_method_3_0 : decode jdk_42_method_3_code 0 = .ok (.aload_n 0, 1) := by decide +kernel
theorem d_jdk_42_method_3_1 : decode jdk_42_method_3_code 1 = .ok (.aload_n 1, 1) := by decide +kernel
theorem d_jdk_42_method_3_2 : decode jdk_42_method_3_code 2 = .ok (.iconst 0, 1) := by decide +kernel
theorem d_jdk_42_method_3_3 : decode jdk_42_method_3_code 3 = .ok (.aload_n 1, 1) := by decide +kernel
theorem d_jdk_42_method_3_4 : decode jdk_42_method_3_code 4 = .ok (.arraylength, 1) := by decide +kernel
theorem d_jdk_42_method_3_5 : decode jdk_42_method_3_code 5 = .ok (.aconst_null, 1) := by decide +kernel
theorem d_jdk_42_method_3_6 : decode jdk_42_method_3_code 6 = .ok (.invokespecial 27, 3) := by decide +kernel
theorem d_jdk_42_method_3_9 : decode jdk_42_method_3_code 9 = .ok (.return_, 1) := by decide +kernel
def QN1 (Z : State) (a : Addr) (b : Addr) (kc : ClassId) (h0 : Heap) (n0 : Nat) (v : Option Value) (h : Heap) (L : List Loc) : Prop := v = none ∧ Fr n0 L ∧ Keep h0 h [a] ∧ Exa Z h a "java/lang/String" ∧ Fld Z h a "java/lang/String" "coder" "B" (.int (0 : Int32)) ∧ ∃ (t : Addr) (kb : ClassId), t ≠ a ∧ Fld Z h a "java/lang/String" "value" "[B" (.ref t) ∧ Arv Z h t kb .byte (0 : Int32) [] (.int (0 : Int32))
set_option maxRecDepth 65536 in
set_option maxHeartbeats 40000000 in
theorem rmN1 (l : Launch) (Z : State) (a0 : Array Value) (hw : ∀ d ∈ tables_1, d.before a0 Z = true) (ws : List Jvm.Cond) (a : Addr) (b : Addr) (kc : ClassId) (h0 : Heap) (n0 : Nat) (Z0 : n0 ≤ h0.size) (F_value_a : Fld Z h0 a "java/lang/String" "value" "[B" .null) (F_coder_a : Fld Z h0 a "java/lang/String" "coder" "B" (.int (0 : Int32))) (E_a : Exa Z h0 a "java/lang/String") (ge_a : n0 ≤ a) (V_b : Arv Z h0 b kc .char (0 : Int32) [] (.int (0 : Int32))) :
    MetFree l (⟨"java/lang/String", "<init>", "([C)V"⟩ : MethodName) (head1 (Jvm.Cond.code (⟨"java/lang/String", "<init>", "([C)V"⟩ : MethodName) jdk_42_method_3_code 2 none :: ws) ({ frames := 2, cells := 2, slots := 4, locals := 29 } : Room)) (fun aa UU => aa = #[(.ref a), (.ref b)] ∧ Z.Warmed39 UU.vm ∧ UU.heap = h0 ∧ CHv Z own_EL UU.vm h0) (fun _ _ _ _ _ => True) (fun _ UU oo UU' => ∃ vv LL, oo = .returned vv ∧ QN1 Z a b kc h0 n0 vv UU'.heap LL ∧ CHr Z own_EL UU.vm UU.heap UU'.vm UU'.heap ∧ ReturnedEndW UU oo UU' LL ({ frames := 2, cells := 2, slots := 4, locals := 29 } : Room).cells ({ frames := 2, cells := 2, slots := 4, locals := 29 } : Room).slots) := by
  refine MetFree.of_bodySF (plainFor_of_name pn_0) hisR ?_
  intro p e s m args below meth c s₁ Bd hml0 hP hK
  obtain ⟨rfl, hZ, hh, HC⟩ := hP
  have hx := Bd.exec
  have hby := Bd.bytes
  have hml : c.maxLocals = 2 := hml0
  have hown : s.vm.findClass "java/lang/String" = some m.cls := findClass_of_methodNamed Bd.named
  have hnm := (name_of_methodNamed Bd.named Bd.method).1
  have hW : ∀ (k : Nat) (d : Jvm.Cond), tables_1[k]? = some d → d.before a0 Z = true := fun k d h => hw d (List.mem_of_getElem? h)
  have X0 : Stand p l e ({ frames := 2, cells := 2, slots := 4, locals := 29 } : Room) (s.setVm s.vm) m #[(.ref a), (.ref b)] below meth c s₁ [] 0 0 := Stand.of_body Bd
  have e0 : s₁.heap = h0 := by rw [← hh, Bd.state]; rfl
  have N0 := Fr.nil n0
  obtain ⟨G, hG, K0⟩ : ∃ G : State → Prop, (∀ tq, G tq → Steps p.tables e below (s₁.setTop (entryFrame m #[(.ref a), (.ref b)] 2)) tq) ∧ Go p e below s₁ (mkF m 0 #[.val (.ref a), .val (.ref b)] []) G := ⟨fun tq => Steps p.tables e below (s₁.setTop (entryFrame m #[(.ref a), (.ref b)] 2)) tq, fun _ h => h, fun tq kq => castTop (ef_jdk_42_method_3_RR m a b) kq⟩
  have hS0 := (State.WarmedH.refl s).since 0
  have hEL : EW Z a0 own_EL := own_EW hW
  have CR0 := CHr.refl HC
  have K22 : Go p e below s₁ (mkF m 1 #[.val (.ref a), .val (.ref b)] [(.ref a)]) G := fun tq kq => K0 tq (XS.aloadN X0.here hx rfl (hb hby d_jdk_42_method_3_0) rfl rfl kq)
  have K23 : Go p e below s₁ (mkF m 2 #[.val (.ref a), .val (.ref b)] [(.ref b), (.ref a)]) G := fun tq kq => K22 tq (XS.aloadN X0.here hx rfl (hb hby d_jdk_42_method_3_1) rfl rfl kq)
  have K24 : Go p e below s₁ (mkF m 3 #[.val (.ref a), .val (.ref b)] [(.int (0 : Int32)), (.ref b), (.ref a)]) G := fun tq kq => K23 tq (XS.iconst X0.here hx rfl (hb hby d_jdk_42_method_3_2) kq)
  have K25 : Go p e below s₁ (mkF m 4 #[.val (.ref a), .val (.ref b)] [(.ref b), (.int (0 : Int32)), (.ref b), (.ref a)]) G := fun tq kq => K24 tq (XS.aloadN X0.here hx rfl (hb hby d_jdk_42_method_3_3) rfl rfl kq)
  obtain ⟨cl26, Ar26, q26, S26, Nn26, Hh26, Gg26⟩ := id V_b
  have K27 : Go p e below s₁ (mkF m 5 #[.val (.ref a), .val (.ref b)] [(.int (0 : Int32)), (.int (0 : Int32)), (.ref b), (.ref a)]) G := fun tq kq => K25 tq (X0.arraylength hx (by rw [e0]; exact Ar26.1) (State.isArrayOf_alike hZ.alike Ar26.2.1) (g := (mkF m 4 #[.val (.ref a), .val (.ref b)] [(.ref b), (.int (0 : Int32)), (.ref b), (.ref a)])) rfl rfl (hb hby d_jdk_42_method_3_4) _ (by rw [len_of S26 Nn26]; exact kq))
  have K28 : Go p e below s₁ (mkF m 6 #[.val (.ref a), .val (.ref b)] [.null, (.int (0 : Int32)), (.int (0 : Int32)), (.ref b), (.ref a)]) G := fun tq kq => K27 tq (XS.aconstNull X0.here hx rfl (hb hby d_jdk_42_method_3_5) kq)
  obtain ⟨v29, _, ⟨T29, L29, k29, n29⟩, -, X29, hSa29, hgr29, ⟨Lc29, hQ29, l29, y29, z29, hCR29⟩, st29⟩ := X0.specialBackS hx (y := (⟨"java/lang/String", "<init>", "([CIILjava/lang/Void;)V"⟩ : MethodName)) rfl hown (mvT hZ (hW 14 _ rfl)) (mvT hZ (hW 15 _ rfl)) (mvT hZ (hW 17 _ rfl)) (by decide) (backOfSH (W := 0) (rmN4 l Z a0 hw [] a b h0 n0 Z0 F_value_a F_coder_a E_a ge_a) hZ (hW 17 _ rfl) (hW 9 _ rfl) (by decide) (by decide) hEL CR0.1) (g := (mkF m 6 #[.val (.ref a), .val (.ref b)] [.null, (.int (0 : Int32)), (.int (0 : Int32)), (.ref b), (.ref a)])) rfl (by rw [hml]; rfl) (Steps.refl _) (a := a) (argsL := [(.ref b), (.int (0 : Int32)), (.int (0 : Int32)), .null]) (rest := []) (lenOf pd_16 rfl) rfl (by show 2 * 0 + _ ≤ _; exact Nat.le_of_eq rfl) (hb hby d_jdk_42_method_3_6) (fun _ _ => ⟨rfl, e0, (by decide : 0 + 2 ≤ _), (by decide : 0 + 4 ≤ _)⟩)
  dsimp only [Pt.U, Pt.locs, Pt.cells, Pt.slots] at X29 l29 y29 z29 st29 hQ29 hSa29 hgr29 hCR29
  subst l29 y29 z29
  obtain ⟨X29, hSb29, hZ, hown⟩ := rebS hS0 (by first | exact (Nat.zero_le _) | (rw [e0]; exact (Nat.zero_le _))) X29 hSa29 hgr29 hZ hown
  have CR30 := CR0.trans (hCR29)
  have hQx := hQ29
  obtain ⟨rfl, N29q, K29q, rest29⟩ := hQ29
  have N29 := Fr.app N0 N29q
  have K31 : Go p e below T29 (mkF m 9 #[.val (.ref a), .val (.ref b)] []) G := fun tq kq => K28 tq (st29.trans kq)
  obtain ⟨fs, hr, hrun, hended, hRE⟩ := X29.leaveW (s := s) hSb29 (by first | exact (Nat.le_refl _) | (rw [rfl]; exact (Nat.le_refl _))) (v := none) (fun _ => rfl)
  have CRe := CR30.trans (CHv.at X29 hZ hEL CR30.1)
  refine ⟨_, _, hG _ (K31 _ (X29.returnOut hx Bd.returns (hb hby d_jdk_42_method_3_9) hr)), hrun, hended, _, _, rfl, ?_, (by show CHr Z own_EL s.vm s.heap T29.vm T29.heap; rw [hh]; exact CRe), hRE.1, hRE.2.1, hRE.2.2.1, hRE.2.2.2.mono (by decide) (by decide)⟩
  show QN1 Z a b kc h0 n0 _ T29.heap _
  exact ⟨rfl, N29, ((Keep.refl h0 [a]).trans K29q (allS (Or.inl (List.mem_of_getElem? (i := 0) rfl)) all0)), rest29⟩
theorem pn_25 : plainName "java/lang/Record" = true := by first | (simp [plainName, overriddenIn]; done) | decide +kernel
theorem ef_jdk_30_method_1_R (m : MethodId) (x0 : Addr) : entryFrame m #[(.ref x0)] 1 = mkF m 0 #[.val (.ref x0)] [] := by first | (simp [entryFrame, mkF, argsToLocals, Value.category]; done) | rfl
theorem d_jdk_30_method_1_0 : decode jdk_30_method_1_code 0 = .ok (.aload_n 0, 1) := by decide +kernel
theorem d_jdk_30_method_1_1 : decode jdk_30_method_1_code 1 = .ok (.invokespecial 1, 3) := by decide +kernel
theorem d_jdk_30_method_1_4 : decode jdk_30_method_1_code 4 = .ok (.return_, 1) := by decide +kernel
def QRec (Z : State) (a : Addr) (h0 : Heap) (n0 : Nat) (v : Option Value) (h : Heap) (L : List Loc) : Prop := v = none ∧ Fr n0 L ∧ h = h0
set_option maxRecDepth 65536 in
set_option maxHeartbeats 40000000 in
theorem rmRec (l : Launch) (Z : State) (a0 : Array Value) (hw : ∀ d ∈ tables_1, d.before a0 Z = true) (ws : List Jvm.Cond) (a : Addr) (h0 : Heap) (n0 : Nat) (Z0 : n0 ≤ h0.size) :
    MetFree l (⟨"java/lang/Record", "<init>", "()V"⟩ : MethodName) (head1 (Jvm.Cond.code (⟨"java/lang/Record", "<init>", "()V"⟩ : MethodName) jdk_30_method_1_code 1 none :: ws) ({ frames := 1, cells := 0, slots := 0, locals := 12 } : Room)) (fun aa UU => aa = #[(.ref a)] ∧ Z.Warmed39 UU.vm ∧ UU.heap = h0) (fun _ _ _ _ _ => True) (fun _ UU oo UU' => ∃ vv LL, oo = .returned vv ∧ QRec Z a h0 n0 vv UU'.heap LL ∧ FrameEnd UU oo UU' LL ({ frames := 1, cells := 0, slots := 0, locals := 12 } : Room).cells ({ frames := 1, cells := 0, slots := 0, locals := 12 } : Room).slots) := by
  refine MetFree.of_bodySF (plainFor_of_name pn_25) hisR ?_
  intro p e s m args below meth c s₁ Bd hml0 hP hK
  obtain ⟨rfl, hZ, hh⟩ := hP
  have hx := Bd.exec
  have hby := Bd.bytes
  have hml : c.maxLocals = 1 := hml0
  have hown : s.vm.findClass "java/lang/Record" = some m.cls := findClass_of_methodNamed Bd.named
  have hnm := (name_of_methodNamed Bd.named Bd.method).1
  have hW : ∀ (k : Nat) (d : Jvm.Cond), tables_1[k]? = some d → d.before a0 Z = true := fun k d h => hw d (List.mem_of_getElem? h)
  have X0 : Stand p l e ({ frames := 1, cells := 0, slots := 0, locals := 12 } : Room) s m #[(.ref a)] below meth c s₁ [] 0 0 := Stand.of_body Bd
  have e0 : s₁.heap = h0 := by rw [← hh, Bd.state]; rfl
  have N0 := Fr.nil n0
  obtain ⟨G, hG, K0⟩ : ∃ G : State → Prop, (∀ tq, G tq → Steps p.tables e below (s₁.setTop (entryFrame m #[(.ref a)] 1)) tq) ∧ Go p e below s₁ (mkF m 0 #[.val (.ref a)] []) G := ⟨fun tq => Steps p.tables e below (s₁.setTop (entryFrame m #[(.ref a)] 1)) tq, fun _ h => h, fun tq kq => castTop (ef_jdk_30_method_1_R m a) kq⟩
  have K32 : Go p e below s₁ (mkF m 1 #[.val (.ref a)] [(.ref a)]) G := fun tq kq => K0 tq (XS.aloadN X0.here hx rfl (hb hby d_jdk_30_method_1_0) rfl rfl kq)
  obtain ⟨T33, X33, e33, st33⟩ := initO X0 hx hZ hown (hW 40 _ rfl) (hW 19 _ rfl) (hW 20 _ rfl) e0 (g := (mkF m 1 #[.val (.ref a)] [(.ref a)])) rfl (by rw [hml]; rfl) rfl (hb hby d_jdk_30_method_1_1) (by decide) (W := 0) (by show 2 * 0 + _ ≤ _; exact Nat.le_of_eq rfl) (by decide)
  have K34 : Go p e below T33 (mkF m 4 #[.val (.ref a)] []) G := fun tq kq => K32 tq (st33 tq kq)
  obtain ⟨fs, hr, hrun, hended, hWW, hsame⟩ := X33.leave (v := none) (fun _ => rfl)
  refine ⟨_, _, hG _ (K34 _ (X33.returnOut hx Bd.returns (hb hby d_jdk_30_method_1_4) hr)), hrun, hended, _, _, rfl, ?_, ⟨_, rfl⟩, hWW, hsame.mono (by decide) (by decide)⟩
  show QRec Z a h0 n0 _ T33.heap _
  rw [e33]
  exact ⟨rfl, N0, rfl⟩
def own_len (q : Int32) : Int32 := (q &&& (3 : Int32)) % (3 : Int32)
def own_c0 (q : Int32) : Int32 := nar .char (((((q.toUInt32 >>> ((8 : Int32) &&& 31).toUInt32).toInt32) &&& (255 : Int32)).toUInt32.toUInt16.toUInt32.toInt32))
def own_c1 (q : Int32) : Int32 := nar .char (((((q.toUInt32 >>> ((16 : Int32) &&& 31).toUInt32).toInt32) &&& (255 : Int32)).toUInt32.toUInt16.toUInt32.toInt32))
theorem own_p0 (q : Int32) : ¬ own_c0 q < 0 ∧ ¬ (255 : Int32) < own_c0 q := own_p255 _
theorem own_p1 (q : Int32) : ¬ own_c1 q < 0 ∧ ¬ (255 : Int32) < own_c1 q := own_p255 _
theorem own_idem (x : Int32) : nar .char (nar .char x) = nar .char x := by
  simp only [nar, UInt32.toUInt32_toInt32, UInt16.toUInt16_toUInt32]
theorem own_i0 (q : Int32) : nar .char (own_c0 q) = own_c0 q := own_idem _
theorem own_i1 (q : Int32) : nar .char (own_c1 q) = own_c1 q := own_idem _
theorem own_nb (x : Int32) : x.toInt8.toInt32.toInt8.toInt32 = x.toInt8.toInt32 := by simp
def own_cs (q : Int32) : List Int32 := if own_len q = 0 then [] else if own_len q = 1 then [own_c0 q] else [own_c0 q, own_c1 q]
theorem own_cb (q : Int32) : ∀ c ∈ own_cs q, ¬ c < 0 ∧ ¬ (255 : Int32) < c := by
  intro c hc
  unfold own_cs at hc
  split at hc
  · cases hc
  · split at hc
    · simp only [List.mem_cons, List.not_mem_nil, or_false] at hc
      subst hc; exact own_p0 q
    · simp only [List.mem_cons, List.not_mem_nil, or_false] at hc
      rcases hc with rfl | rfl
      · exact own_p0 q
      · exact own_p1 q
theorem own_up {c : Int32} (h : ¬ c < 0 ∧ ¬ (255 : Int32) < c) : ¬ c < 0 ∧ ¬ (65535 : Int32) < c := by
  refine ⟨h.1, fun z => h.2 ?_⟩
  have e : (65535 : Int32).toInt = 65535 := by decide
  have e2 : (255 : Int32).toInt = 255 := by decide
  rw [Int32.lt_iff_toInt_lt] at z ⊢
  omega
theorem own_cu (q : Int32) : ∀ c ∈ own_cs q, ¬ c < 0 ∧ ¬ (65535 : Int32) < c := fun c hc => own_up (own_cb q c hc)
theorem own_cl (q : Int32) : (own_cs q).length ≤ 4000 := by unfold own_cs; split <;> (try split) <;> exact Nat.le_of_ble_eq_true rfl
theorem own_l3 (q : Int32) : own_len q = 0 ∨ own_len q = 1 ∨ own_len q = 2 := by
  have h1 := c_and q (3 : Int32) (by decide)
  have e3 : (3 : Int32).toInt = 3 := by decide
  have h2 := c_irem (q &&& (3 : Int32)) (3 : Int32) 3 e3
  have e0 : (0 : Int32).toInt = 0 := by decide
  have e1 : (1 : Int32).toInt = 1 := by decide
  have e2 : (2 : Int32).toInt = 2 := by decide
  show (q &&& (3 : Int32)) % (3 : Int32) = 0 ∨ (q &&& (3 : Int32)) % (3 : Int32) = 1 ∨ (q &&& (3 : Int32)) % (3 : Int32) = 2
  rw [← Int32.toInt_inj, ← Int32.toInt_inj, ← Int32.toInt_inj, e0, e1, e2]
  omega
def own_sameP (s t : Int32) : Prop := own_len s = own_len t ∧ (own_len s < 1 ∨ own_c0 s = own_c0 t) ∧ (¬ own_len s = 2 ∨ own_c1 s = own_c1 t)
theorem own_sp (s t : Int32) : own_sameP s t ↔ own_cs s = own_cs t := by
  have d1 : ¬ ((1 : Int32) = 0) := by decide
  have d2 : ¬ ((2 : Int32) = 0) := by decide
  have d3 : ¬ ((2 : Int32) = 1) := by decide
  have d4 : ¬ ((0 : Int32) = 1) := by decide
  have d5 : ¬ ((0 : Int32) = 2) := by decide
  have d6 : ¬ ((1 : Int32) = 2) := by decide
  have d7 : (0 : Int32) < 1 := by decide
  have d8 : ¬ ((1 : Int32) < 1) := by decide
  have d9 : ¬ ((2 : Int32) < 1) := by decide
  unfold own_sameP own_cs
  rcases own_l3 s with hs | hs | hs <;> rcases own_l3 t with ht | ht | ht <;> simp [hs, ht, d1, d2, d3, d4, d5, d6, d7, d8, d9]
theorem pn_30 : plainName "com/example/kithmark/kithmark/params/PairHoldsPinLaw" = true := by first | (simp [plainName, overriddenIn]; done) | decide +kernel
theorem ef_method_3_I (m : MethodId) (x0 : Int32) : entryFrame m #[(.int x0)] 1 = mkF m 0 #[.val (.int x0)] [] := by first | (simp [entryFrame, mkF, argsToLocals, Value.category]; done) | rfl
theorem d_method_3_0 : decode method_3_code 0 = .ok (.iload_n 0, 1) := by decide +kernel
theorem d_method_3_1 : decode method_3_code 1 = .ok (.iconst 3, 1) := by decide +kernel
theorem d_method_3_2 : decode method_3_code 2 = .ok (.iand, 1) := by decide +kernel
theorem d_method_3_3 : decode method_3_code 3 = .ok (.iconst 3, 1) := by decide +kernel
theorem d_method_3_4 : decode method_3_code 4 = .ok (.irem, 1) := by decide +kernel
theorem d_method_3_5 : decode method_3_code 5 = .ok (.ireturn, 1) := by decide +kernel
def QLen (Z : State) (q : Int32) (h0 : Heap) (n0 : Nat) (v : Option Value) (h : Heap) (L : List Loc) : Prop := v = some (.int (own_len q)) ∧ Fr n0 L ∧ h = h0
set_option maxRecDepth 65536 in
set_option maxHeartbeats 40000000 in
theorem rmLen (l : Launch) (Z : State) (a0 : Array Value) (hw : ∀ d ∈ tables_1, d.before a0 Z = true) (ws : List Jvm.Cond) (q : Int32) (h0 : Heap) (n0 : Nat) (Z0 : n0 ≤ h0.size) :
    MetFree l (⟨"com/example/kithmark/kithmark/params/PairHoldsPinLaw", "len", "(I)I"⟩ : MethodName) (head1 (Jvm.Cond.code (⟨"com/example/kithmark/kithmark/params/PairHoldsPinLaw", "len", "(I)I"⟩ : MethodName) method_3_code 1 (some .int) :: ws) ({ frames := 0, cells := 0, slots := 0, locals := 0 } : Room)) (fun aa UU => aa = #[(.int q)] ∧ Z.Warmed39 UU.vm ∧ UU.heap = h0) (fun _ _ _ _ _ => True) (fun _ UU oo UU' => ∃ vv LL, oo = .returned vv ∧ QLen Z q h0 n0 vv UU'.heap LL ∧ FrameEnd UU oo UU' LL ({ frames := 0, cells := 0, slots := 0, locals := 0 } : Room).cells ({ frames := 0, cells := 0, slots := 0, locals := 0 } : Room).slots) := by
  refine MetFree.of_bodySF (plainFor_of_name pn_30) hisR ?_
  intro p e s m args below meth c s₁ Bd hml0 hP hK
  obtain ⟨rfl, hZ, hh⟩ := hP
  have hx := Bd.exec
  have hby := Bd.bytes
  have hml : c.maxLocals = 1 := hml0
  have hown : s.vm.findClass "com/example/kithmark/kithmark/params/PairHoldsPinLaw" = some m.cls := findClass_of_methodNamed Bd.named
  have hnm := (name_of_methodNamed Bd.named Bd.method).1
  have hW : ∀ (k : Nat) (d : Jvm.Cond), tables_1[k]? = some d → d.before a0 Z = true := fun k d h => hw d (List.mem_of_getElem? h)
  have X0 : Stand p l e ({ frames := 0, cells := 0, slots := 0, locals := 0 } : Room) s m #[(.int q)] below meth c s₁ [] 0 0 := Stand.of_body Bd
  have e0 : s₁.heap = h0 := by rw [← hh, Bd.state]; rfl
  have N0 := Fr.nil n0
  obtain ⟨G, hG, K0⟩ : ∃ G : State → Prop, (∀ tq, G tq → Steps p.tables e below (s₁.setTop (entryFrame m #[(.int q)] 1)) tq) ∧ Go p e below s₁ (mkF m 0 #[.val (.int q)] []) G := ⟨fun tq => Steps p.tables e below (s₁.setTop (entryFrame m #[(.int q)] 1)) tq, fun _ h => h, fun tq kq => castTop (ef_method_3_I m q) kq⟩
  have K35 : Go p e below s₁ (mkF m 1 #[.val (.int q)] [(.int q)]) G := fun tq kq => K0 tq (XS.iloadN X0.here hx rfl (hb hby d_method_3_0) rfl kq)
  have K36 : Go p e below s₁ (mkF m 2 #[.val (.int q)] [(.int (3 : Int32)), (.int q)]) G := fun tq kq => K35 tq (XS.iconst X0.here hx rfl (hb hby d_method_3_1) kq)
  have K37 : Go p e below s₁ (mkF m 3 #[.val (.int q)] [(.int (q &&& (3 : Int32)))]) G := fun tq kq => K36 tq (XS.iand X0.here hx rfl (hb hby d_method_3_2) rfl kq)
  have K38 : Go p e below s₁ (mkF m 4 #[.val (.int q)] [(.int (3 : Int32)), (.int (q &&& (3 : Int32)))]) G := fun tq kq => K37 tq (XS.iconst X0.here hx rfl (hb hby d_method_3_3) kq)
  have K39 : Go p e below s₁ (mkF m 5 #[.val (.int q)] [(.int ((q &&& (3 : Int32)) % (3 : Int32)))]) G := fun tq kq => K38 tq (iremM X0 hx rfl (hb hby d_method_3_4) rfl (by decide) kq)
  obtain ⟨fs, hr, hrun, hended, hWW, hsame⟩ := X0.leave (v := some (.int (own_len q))) (fun h => by rw [Bd.returns] at h; cases h)
  refine ⟨_, _, hG _ (K39 _ (retOut X0 hx Bd.returns rfl (Or.inl ⟨rfl, Or.inl rfl, _, rfl⟩) (hb hby d_method_3_5) hr)), hrun, hended, _, _, rfl, ?_, ⟨_, rfl⟩, hWW, hsame.mono (by decide) (by decide)⟩
  show QLen Z q h0 n0 _ s₁.heap _
  rw [e0]
  exact ⟨rfl, N0, rfl⟩
theorem ef_method_4_I (m : MethodId) (x0 : Int32) : entryFrame m #[(.int x0)] 1 = mkF m 0 #[.val (.int x0)] [] := by first | (simp [entryFrame, mkF, argsToLocals, Value.category]; done) | rfl
theorem d_method_4_0 : decode method_4_code 0 = .ok (.iload_n 0, 1) := by decide +kernel
theorem d_method_4_1 : decode method_4_code 1 = .ok (.bipush 8, 2) := by decide +kernel
theorem d_method_4_3 : decode method_4_code 3 = .ok (.iushr, 1) := by decide +kernel
theorem d_method_4_4 : decode method_4_code 4 = .ok (.sipush 255, 3) := by decide +kernel
theorem d_method_4_7 : decode method_4_code 7 = .ok (.iand, 1) := by decide +kernel
theorem d_method_4_8 : decode method_4_code 8 = .ok (.i2c, 1) := by decide +kernel
theorem d_method_4_9 : decode method_4_code 9 = .ok (.ireturn, 1) := by decide +kernel
def QC0 (Z : State) (q : Int32) (h0 : Heap) (n0 : Nat) (v : Option Value) (h : Heap) (L : List Loc) : Prop := v = some (.int (own_c0 q)) ∧ Fr n0 L ∧ h = h0
set_option maxRecDepth 65536 in
set_option maxHeartbeats 40000000 in
theorem rmC0 (l : Launch) (Z : State) (a0 : Array Value) (hw : ∀ d ∈ tables_1, d.before a0 Z = true) (ws : List Jvm.Cond) (q : Int32) (h0 : Heap) (n0 : Nat) (Z0 : n0 ≤ h0.size) :
    MetFree l (⟨"com/example/kithmark/kithmark/params/PairHoldsPinLaw", "c0", "(I)C"⟩ : MethodName) (head1 (Jvm.Cond.code (⟨"com/example/kithmark/kithmark/params/PairHoldsPinLaw", "c0", "(I)C"⟩ : MethodName) method_4_code 1 (some .char) :: ws) ({ frames := 0, cells := 0, slots := 0, locals := 0 } : Room)) (fun aa UU => aa = #[(.int q)] ∧ Z.Warmed39 UU.vm ∧ UU.heap = h0) (fun _ _ _ _ _ => True) (fun _ UU oo UU' => ∃ vv LL, oo = .returned vv ∧ QC0 Z q h0 n0 vv UU'.heap LL ∧ FrameEnd UU oo UU' LL ({ frames := 0, cells := 0, slots := 0, locals := 0 } : Room).cells ({ frames := 0, cells := 0, slots := 0, locals := 0 } : Room).slots) := by
  refine MetFree.of_bodySF (plainFor_of_name pn_30) hisR ?_
  intro p e s m args below meth c s₁ Bd hml0 hP hK
  obtain ⟨rfl, hZ, hh⟩ := hP
  have hx := Bd.exec
  have hby := Bd.bytes
  have hml : c.maxLocals = 1 := hml0
  have hown : s.vm.findClass "com/example/kithmark/kithmark/params/PairHoldsPinLaw" = some m.cls := findClass_of_methodNamed Bd.named
  have hnm := (name_of_methodNamed Bd.named Bd.method).1
  have hW : ∀ (k : Nat) (d : Jvm.Cond), tables_1[k]? = some d → d.before a0 Z = true := fun k d h => hw d (List.mem_of_getElem? h)
  have X0 : Stand p l e ({ frames := 0, cells := 0, slots := 0, locals := 0 } : Room) s m #[(.int q)] below meth c s₁ [] 0 0 := Stand.of_body Bd
  have e0 : s₁.heap = h0 := by rw [← hh, Bd.state]; rfl
  have N0 := Fr.nil n0
  obtain ⟨G, hG, K0⟩ : ∃ G : State → Prop, (∀ tq, G tq → Steps p.tables e below (s₁.setTop (entryFrame m #[(.int q)] 1)) tq) ∧ Go p e below s₁ (mkF m 0 #[.val (.int q)] []) G := ⟨fun tq => Steps p.tables e below (s₁.setTop (entryFrame m #[(.int q)] 1)) tq, fun _ h => h, fun tq kq => castTop (ef_method_4_I m q) kq⟩
  have K40 : Go p e below s₁ (mkF m 1 #[.val (.int q)] [(.int q)]) G := fun tq kq => K0 tq (XS.iloadN X0.here hx rfl (hb hby d_method_4_0) rfl kq)
  have K41 : Go p e below s₁ (mkF m 3 #[.val (.int q)] [(.int (8 : Int32)), (.int q)]) G := fun tq kq => K40 tq (XS.bipush X0.here hx rfl (hb hby d_method_4_1) kq)
  have K42 : Go p e below s₁ (mkF m 4 #[.val (.int q)] [(.int ((q.toUInt32 >>> ((8 : Int32) &&& 31).toUInt32).toInt32))]) G := fun tq kq => K41 tq (XS.iushr X0.here hx rfl (hb hby d_method_4_3) rfl kq)
  have K43 : Go p e below s₁ (mkF m 7 #[.val (.int q)] [(.int (255 : Int32)), (.int ((q.toUInt32 >>> ((8 : Int32) &&& 31).toUInt32).toInt32))]) G := fun tq kq => K42 tq (XS.sipush X0.here hx rfl (hb hby d_method_4_4) kq)
  have K44 : Go p e below s₁ (mkF m 8 #[.val (.int q)] [(.int (((q.toUInt32 >>> ((8 : Int32) &&& 31).toUInt32).toInt32) &&& (255 : Int32)))]) G := fun tq kq => K43 tq (XS.iand X0.here hx rfl (hb hby d_method_4_7) rfl kq)
  have K45 : Go p e below s₁ (mkF m 9 #[.val (.int q)] [(.int ((((q.toUInt32 >>> ((8 : Int32) &&& 31).toUInt32).toInt32) &&& (255 : Int32)).toUInt32.toUInt16.toUInt32.toInt32))]) G := fun tq kq => K44 tq (XS.i2c X0.here hx rfl (hb hby d_method_4_8) rfl kq)
  obtain ⟨fs, hr, hrun, hended, hWW, hsame⟩ := X0.leave (v := some (.int (own_c0 q))) (fun h => by rw [Bd.returns] at h; cases h)
  refine ⟨_, _, hG _ (K45 _ (retN X0 hx (t := .char) Bd.returns (by simp) (hb hby d_method_4_9) hr)), hrun, hended, _, _, rfl, ?_, ⟨_, rfl⟩, hWW, hsame.mono (by decide) (by decide)⟩
  show QC0 Z q h0 n0 _ s₁.heap _
  rw [e0]
  exact ⟨rfl, N0, rfl⟩
theorem ef_method_5_I (m : MethodId) (x0 : Int32) : entryFrame m #[(.int x0)] 1 = mkF m 0 #[.val (.int x0)] [] := by first | (simp [entryFrame, mkF, argsToLocals, Value.category]; done) | rfl
theorem d_method_5_0 : decode method_5_code 0 = .ok (.iload_n 0, 1) := by decide +kernel
theorem d_method_5_1 : decode method_5_code 1 = .ok (.bipush 16, 2) := by decide +kernel
theorem d_method_5_3 : decode method_5_code 3 = .ok (.iushr, 1) := by decide +kernel
theorem d_method_5_4 : decode method_5_code 4 = .ok (.sipush 255, 3) := by decide +kernel
theorem d_method_5_7 : decode method_5_code 7 = .ok (.iand, 1) := by decide +kernel
theorem d_method_5_8 : decode method_5_code 8 = .ok (.i2c, 1) := by decide +kernel
theorem d_method_5_9 : decode method_5_code 9 = .ok (.ireturn, 1) := by decide +kernel
def QC1 (Z : State) (q : Int32) (h0 : Heap) (n0 : Nat) (v : Option Value) (h : Heap) (L : List Loc) : Prop := v = some (.int (own_c1 q)) ∧ Fr n0 L ∧ h = h0
set_option maxRecDepth 65536 in
set_option maxHeartbeats 40000000 in
theorem rmC1 (l : Launch) (Z : State) (a0 : Array Value) (hw : ∀ d ∈ tables_1, d.before a0 Z = true) (ws : List Jvm.Cond) (q : Int32) (h0 : Heap) (n0 : Nat) (Z0 : n0 ≤ h0.size) :
    MetFree l (⟨"com/example/kithmark/kithmark/params/PairHoldsPinLaw", "c1", "(I)C"⟩ : MethodName) (head1 (Jvm.Cond.code (⟨"com/example/kithmark/kithmark/params/PairHoldsPinLaw", "c1", "(I)C"⟩ : MethodName) method_5_code 1 (some .char) :: ws) ({ frames := 0, cells := 0, slots := 0, locals := 0 } : Room)) (fun aa UU => aa = #[(.int q)] ∧ Z.Warmed39 UU.vm ∧ UU.heap = h0) (fun _ _ _ _ _ => True) (fun _ UU oo UU' => ∃ vv LL, oo = .returned vv ∧ QC1 Z q h0 n0 vv UU'.heap LL ∧ FrameEnd UU oo UU' LL ({ frames := 0, cells := 0, slots := 0, locals := 0 } : Room).cells ({ frames := 0, cells := 0, slots := 0, locals := 0 } : Room).slots) := by
  refine MetFree.of_bodySF (plainFor_of_name pn_30) hisR ?_
  intro p e s m args below meth c s₁ Bd hml0 hP hK
  obtain ⟨rfl, hZ, hh⟩ := hP
  have hx := Bd.exec
  have hby := Bd.bytes
  have hml : c.maxLocals = 1 := hml0
  have hown : s.vm.findClass "com/example/kithmark/kithmark/params/PairHoldsPinLaw" = some m.cls := findClass_of_methodNamed Bd.named
  have hnm := (name_of_methodNamed Bd.named Bd.method).1
  have hW : ∀ (k : Nat) (d : Jvm.Cond), tables_1[k]? = some d → d.before a0 Z = true := fun k d h => hw d (List.mem_of_getElem? h)
  have X0 : Stand p l e ({ frames := 0, cells := 0, slots := 0, locals := 0 } : Room) s m #[(.int q)] below meth c s₁ [] 0 0 := Stand.of_body Bd
  have e0 : s₁.heap = h0 := by rw [← hh, Bd.state]; rfl
  have N0 := Fr.nil n0
  obtain ⟨G, hG, K0⟩ : ∃ G : State → Prop, (∀ tq, G tq → Steps p.tables e below (s₁.setTop (entryFrame m #[(.int q)] 1)) tq) ∧ Go p e below s₁ (mkF m 0 #[.val (.int q)] []) G := ⟨fun tq => Steps p.tables e below (s₁.setTop (entryFrame m #[(.int q)] 1)) tq, fun _ h => h, fun tq kq => castTop (ef_method_5_I m q) kq⟩
  have K46 : Go p e below s₁ (mkF m 1 #[.val (.int q)] [(.int q)]) G := fun tq kq => K0 tq (XS.iloadN X0.here hx rfl (hb hby d_method_5_0) rfl kq)
  have K47 : Go p e below s₁ (mkF m 3 #[.val (.int q)] [(.int (16 : Int32)), (.int q)]) G := fun tq kq => K46 tq (XS.bipush X0.here hx rfl (hb hby d_method_5_1) kq)
  have K48 : Go p e below s₁ (mkF m 4 #[.val (.int q)] [(.int ((q.toUInt32 >>> ((16 : Int32) &&& 31).toUInt32).toInt32))]) G := fun tq kq => K47 tq (XS.iushr X0.here hx rfl (hb hby d_method_5_3) rfl kq)
  have K49 : Go p e below s₁ (mkF m 7 #[.val (.int q)] [(.int (255 : Int32)), (.int ((q.toUInt32 >>> ((16 : Int32) &&& 31).toUInt32).toInt32))]) G := fun tq kq => K48 tq (XS.sipush X0.here hx rfl (hb hby d_method_5_4) kq)
  have K50 : Go p e below s₁ (mkF m 8 #[.val (.int q)] [(.int (((q.toUInt32 >>> ((16 : Int32) &&& 31).toUInt32).toInt32) &&& (255 : Int32)))]) G := fun tq kq => K49 tq (XS.iand X0.here hx rfl (hb hby d_method_5_7) rfl kq)
  have K51 : Go p e below s₁ (mkF m 9 #[.val (.int q)] [(.int ((((q.toUInt32 >>> ((16 : Int32) &&& 31).toUInt32).toInt32) &&& (255 : Int32)).toUInt32.toUInt16.toUInt32.toInt32))]) G := fun tq kq => K50 tq (XS.i2c X0.here hx rfl (hb hby d_method_5_8) rfl kq)
  obtain ⟨fs, hr, hrun, hended, hWW, hsame⟩ := X0.leave (v := some (.int (own_c1 q))) (fun h => by rw [Bd.returns] at h; cases h)
  refine ⟨_, _, hG _ (K51 _ (retN X0 hx (t := .char) Bd.returns (by simp) (hb hby d_method_5_9) hr)), hrun, hended, _, _, rfl, ?_, ⟨_, rfl⟩, hWW, hsame.mono (by decide) (by decide)⟩
  show QC1 Z q h0 n0 _ s₁.heap _
  rw [e0]
  exact ⟨rfl, N0, rfl⟩
theorem pn_54 : plainName "java/lang/StringLatin1" = true := by first | (simp [plainName, overriddenIn]; done) | decide +kernel
theorem ef_jdk_43_method_3_I (m : MethodId) (x0 : Int32) : entryFrame m #[(.int x0)] 1 = mkF m 0 #[.val (.int x0)] [] := by first | (simp [entryFrame, mkF, argsToLocals, Value.category]; done) | rfl
theorem d_jdk_43_method_3_0 : decode jdk_43_method_3_code 0 = .ok (.iload_n 0, 1) := by decide +kernel
theorem d_jdk_43_method_3_1 : decode jdk_43_method_3_code 1 = .ok (.sipush 255, 3) := by decide +kernel
theorem d_jdk_43_method_3_4 : decode jdk_43_method_3_code 4 = .ok (.if_icmp .gt 7, 3) := by decide +kernel
theorem d_jdk_43_method_3_7 : decode jdk_43_method_3_code 7 = .ok (.iconst 1, 1) := by decide +kernel
theorem d_jdk_43_method_3_8 : decode jdk_43_method_3_code 8 = .ok (.goto 4, 3) := by decide +kernel
theorem d_jdk_43_method_3_12 : decode jdk_43_method_3_code 12 = .ok (.ireturn, 1) := by decide +kernel
def QCE (Z : State) (q : Int32) (h0 : Heap) (n0 : Nat) (v : Option Value) (h : Heap) (L : List Loc) : Prop := v = some (.int (1 : Int32)) ∧ Fr n0 L ∧ h = h0
set_option maxRecDepth 65536 in
set_option maxHeartbeats 40000000 in
theorem rmCE (l : Launch) (Z : State) (a0 : Array Value) (hw : ∀ d ∈ tables_1, d.before a0 Z = true) (ws : List Jvm.Cond) (q : Int32) (h0 : Heap) (n0 : Nat) (Z0 : n0 ≤ h0.size) (hq : ¬ ((255 : Int32) < q)) :
    MetFree l (⟨"java/lang/StringLatin1", "canEncode", "(C)Z"⟩ : MethodName) (head1 (Jvm.Cond.code (⟨"java/lang/StringLatin1", "canEncode", "(C)Z"⟩ : MethodName) jdk_43_method_3_code 1 (some .boolean) :: ws) ({ frames := 0, cells := 0, slots := 0, locals := 0 } : Room)) (fun aa UU => aa = #[(.int q)] ∧ Z.Warmed39 UU.vm ∧ UU.heap = h0) (fun _ _ _ _ _ => True) (fun _ UU oo UU' => ∃ vv LL, oo = .returned vv ∧ QCE Z q h0 n0 vv UU'.heap LL ∧ FrameEnd UU oo UU' LL ({ frames := 0, cells := 0, slots := 0, locals := 0 } : Room).cells ({ frames := 0, cells := 0, slots := 0, locals := 0 } : Room).slots) := by
  refine MetFree.of_bodySF (plainFor_of_name pn_54) hisR ?_
  intro p e s m args below meth c s₁ Bd hml0 hP hK
  obtain ⟨rfl, hZ, hh⟩ := hP
  have hx := Bd.exec
  have hby := Bd.bytes
  have hml : c.maxLocals = 1 := hml0
  have hown : s.vm.findClass "java/lang/StringLatin1" = some m.cls := findClass_of_methodNamed Bd.named
  have hnm := (name_of_methodNamed Bd.named Bd.method).1
  have hW : ∀ (k : Nat) (d : Jvm.Cond), tables_1[k]? = some d → d.before a0 Z = true := fun k d h => hw d (List.mem_of_getElem? h)
  have X0 : Stand p l e ({ frames := 0, cells := 0, slots := 0, locals := 0 } : Room) s m #[(.int q)] below meth c s₁ [] 0 0 := Stand.of_body Bd
  have e0 : s₁.heap = h0 := by rw [← hh, Bd.state]; rfl
  have N0 := Fr.nil n0
  obtain ⟨G, hG, K0⟩ : ∃ G : State → Prop, (∀ tq, G tq → Steps p.tables e below (s₁.setTop (entryFrame m #[(.int q)] 1)) tq) ∧ Go p e below s₁ (mkF m 0 #[.val (.int q)] []) G := ⟨fun tq => Steps p.tables e below (s₁.setTop (entryFrame m #[(.int q)] 1)) tq, fun _ h => h, fun tq kq => castTop (ef_jdk_43_method_3_I m q) kq⟩
  have K52 : Go p e below s₁ (mkF m 1 #[.val (.int q)] [(.int q)]) G := fun tq kq => K0 tq (XS.iloadN X0.here hx rfl (hb hby d_jdk_43_method_3_0) rfl kq)
  have K53 : Go p e below s₁ (mkF m 4 #[.val (.int q)] [(.int (255 : Int32)), (.int q)]) G := fun tq kq => K52 tq (XS.sipush X0.here hx rfl (hb hby d_jdk_43_method_3_1) kq)
  have K54 : Go p e below s₁ (mkF m 7 #[.val (.int q)] []) G := fun tq kq => K53 tq (XS.icmpNo X0.here hx rfl (hb hby d_jdk_43_method_3_4) rfl ((flt hq).2.2.1) kq)
  have K55 : Go p e below s₁ (mkF m 8 #[.val (.int q)] [(.int (1 : Int32))]) G := fun tq kq => K54 tq (XS.iconst X0.here hx rfl (hb hby d_jdk_43_method_3_7) kq)
  have K56 : Go p e below s₁ (mkF m 12 #[.val (.int q)] [(.int (1 : Int32))]) G := fun tq kq => K55 tq (XS.goto X0.here hx rfl (pc0 := 8) (pc' := 12) rfl (hb hby d_jdk_43_method_3_8) (by decide) (by decide) kq)
  obtain ⟨fs, hr, hrun, hended, hWW, hsame⟩ := X0.leave (v := some (.int (1 : Int32))) (fun h => by rw [Bd.returns] at h; cases h)
  refine ⟨_, _, hG _ (K56 _ (retN X0 hx (t := .boolean) Bd.returns (by simp) (hb hby d_jdk_43_method_3_12) hr)), hrun, hended, _, _, rfl, ?_, ⟨_, rfl⟩, hWW, hsame.mono (by decide) (by decide)⟩
  show QCE Z q h0 n0 _ s₁.heap _
  rw [e0]
  exact ⟨rfl, N0, rfl⟩
theorem ef_jdk_43_method_46_I (m : MethodId) (x0 : Int32) : entryFrame m #[(.int x0)] 1 = mkF m 0 #[.val (.int x0)] [] := by first | (simp [entryFrame, mkF, argsToLocals, Value.category]; done) | rfl
theorem d_jdk_43_method_46_0 : decode jdk_43_method_46_code 0 = .ok (.iconst 1, 1) := by decide +kernel
theorem d_jdk_43_method_46_1 : decode jdk_43_method_46_code 1 = .ok (.newarray .byte, 2) := by decide +kernel
theorem d_jdk_43_method_46_3 : decode jdk_43_method_46_code 3 = .ok (.dup, 1) := by decide +kernel
theorem d_jdk_43_method_46_4 : decode jdk_43_method_46_code 4 = .ok (.iconst 0, 1) := by decide +kernel
theorem d_jdk_43_method_46_5 : decode jdk_43_method_46_code 5 = .ok (.iload_n 0, 1) := by decide +kernel
theorem d_jdk_43_method_46_6 : decode jdk_43_method_46_code 6 = .ok (.i2b, 1) := by decide +kernel
theorem d_jdk_43_method_46_7 : decode jdk_43_method_46_code 7 = .ok (.bastore, 1) := by decide +kernel
theorem d_jdk_43_method_46_8 : decode jdk_43_method_46_code 8 = .ok (.areturn, 1) := by decide +kernel
def QTB (Z : State) (q : Int32) (h0 : Heap) (n0 : Nat) (v : Option Value) (h : Heap) (L : List Loc) : Prop := ∃ (t : Addr) (kb : ClassId), v = some (.ref t) ∧ Fr n0 L ∧ Keep h0 h [] ∧ h0.size ≤ t ∧ n0 ≤ t ∧ Arv Z h t kb .byte (1 : Int32) [(.int (q.toInt8.toInt32))] (.int (0 : Int32))
set_option maxRecDepth 65536 in
set_option maxHeartbeats 40000000 in
theorem rmTB (l : Launch) (Z : State) (a0 : Array Value) (hw : ∀ d ∈ tables_1, d.before a0 Z = true) (ws : List Jvm.Cond) (q : Int32) (h0 : Heap) (n0 : Nat) (Z0 : n0 ≤ h0.size) :
    MetFree l (⟨"java/lang/StringLatin1", "toBytes", "(C)[B"⟩ : MethodName) (head1 (Jvm.Cond.code (⟨"java/lang/StringLatin1", "toBytes", "(C)[B"⟩ : MethodName) jdk_43_method_46_code 1 (some (.array .byte)) :: ws) ({ frames := 0, cells := 1, slots := 1, locals := 0 } : Room)) (fun aa UU => aa = #[(.int q)] ∧ Z.Warmed39 UU.vm ∧ UU.heap = h0) (fun _ _ _ _ _ => True) (fun _ UU oo UU' => ∃ vv LL, oo = .returned vv ∧ QTB Z q h0 n0 vv UU'.heap LL ∧ FrameEnd UU oo UU' LL ({ frames := 0, cells := 1, slots := 1, locals := 0 } : Room).cells ({ frames := 0, cells := 1, slots := 1, locals := 0 } : Room).slots) := by
  refine MetFree.of_bodySF (plainFor_of_name pn_54) hisR ?_
  intro p e s m args below meth c s₁ Bd hml0 hP hK
  obtain ⟨rfl, hZ, hh⟩ := hP
  have hx := Bd.exec
  have hby := Bd.bytes
  have hml : c.maxLocals = 1 := hml0
  have hown : s.vm.findClass "java/lang/StringLatin1" = some m.cls := findClass_of_methodNamed Bd.named
  have hnm := (name_of_methodNamed Bd.named Bd.method).1
  have hW : ∀ (k : Nat) (d : Jvm.Cond), tables_1[k]? = some d → d.before a0 Z = true := fun k d h => hw d (List.mem_of_getElem? h)
  have X0 : Stand p l e ({ frames := 0, cells := 1, slots := 1, locals := 0 } : Room) s m #[(.int q)] below meth c s₁ [] 0 0 := Stand.of_body Bd
  have e0 : s₁.heap = h0 := by rw [← hh, Bd.state]; rfl
  have N0 := Fr.nil n0
  obtain ⟨G, hG, K0⟩ : ∃ G : State → Prop, (∀ tq, G tq → Steps p.tables e below (s₁.setTop (entryFrame m #[(.int q)] 1)) tq) ∧ Go p e below s₁ (mkF m 0 #[.val (.int q)] []) G := ⟨fun tq => Steps p.tables e below (s₁.setTop (entryFrame m #[(.int q)] 1)) tq, fun _ h => h, fun tq kq => castTop (ef_jdk_43_method_46_I m q) kq⟩
  have K57 : Go p e below s₁ (mkF m 1 #[.val (.int q)] [(.int (1 : Int32))]) G := fun tq kq => K0 tq (XS.iconst X0.here hx rfl (hb hby d_jdk_43_method_46_0) kq)
  obtain ⟨T58, h58, k58, X58, e58, E58, A58, st58⟩ := newP X0 hx hZ (hW 22 _ rfl) e0 (g := (mkF m 1 #[.val (.int q)] [(.int (1 : Int32))])) rfl (hb hby d_jdk_43_method_46_1) rfl (by decide) (cap := 1) (by decide) (by decide) (by decide) (by decide)
  obtain ⟨b58, g58⟩ : ∃ z, z = h0.size := ⟨_, rfl⟩
  rw [← g58] at A58 st58
  have ge_b58 : n0 ≤ b58 := Nat.le_trans Z0 (Nat.le_of_eq g58.symm)
  have sz_b58 : h0.size ≤ b58 := Nat.le_trans ((Keep.refl h0 [])).1 (Nat.le_of_eq g58.symm)
  have V58 : Arv Z h58 b58 k58 .byte (1 : Int32) [(.int (0 : Int32))] (.int (0 : Int32)) := (Arv.new A58 (by decide)).pad (pad_rep [] (.int (0 : Int32)) 1)
  have K59 : Go p e below T58 (mkF m 3 #[.val (.int q)] [(.ref b58)]) G := fun tq kq => K57 tq (st58 tq kq)
  have K60 : Go p e below T58 (mkF m 4 #[.val (.int q)] [(.ref b58), (.ref b58)]) G := fun tq kq => K59 tq (XS.dup X58.here hx rfl (hb hby d_jdk_43_method_46_3) rfl rfl kq)
  have K61 : Go p e below T58 (mkF m 5 #[.val (.int q)] [(.int (0 : Int32)), (.ref b58), (.ref b58)]) G := fun tq kq => K60 tq (XS.iconst X58.here hx rfl (hb hby d_jdk_43_method_46_4) kq)
  have K62 : Go p e below T58 (mkF m 6 #[.val (.int q)] [(.int q), (.int (0 : Int32)), (.ref b58), (.ref b58)]) G := fun tq kq => K61 tq (XS.iloadN X58.here hx rfl (hb hby d_jdk_43_method_46_5) rfl kq)
  have K63 : Go p e below T58 (mkF m 7 #[.val (.int q)] [(.int (q.toInt8.toInt32)), (.int (0 : Int32)), (.ref b58), (.ref b58)]) G := fun tq kq => K62 tq (XS.i2b X58.here hx rfl (hb hby d_jdk_43_method_46_6) rfl kq)
  obtain ⟨cl64, Ar64, q64, S64, Nn64, Hh64, Gg64⟩ := id V58
  have hin64 : ¬ ((0 : Int32) < 0 ∨ cl64.slots.size ≤ ((0 : Int32)).toNatClampNeg) := inb_of S64 ⟨by decide, by decide⟩
  obtain ⟨T64, h64, X64, e64, W64, st64⟩ := stB X58 hx hZ e58 Ar64 (j := (0 : Int32)) hin64 (g := (mkF m 7 #[.val (.int q)] [(.int (q.toInt8.toInt32)), (.int (0 : Int32)), (.ref b58), (.ref b58)])) rfl rfl (hb hby d_jdk_43_method_46_7)
  rw [show nar .byte (q.toInt8.toInt32) = q.toInt8.toInt32 from own_nb q] at W64
  have V64 : Arv Z h64 b58 k58 .byte (1 : Int32) [(.int (q.toInt8.toInt32))] (.int (0 : Int32)) := Arv.set Ar64 q64 S64 Nn64 Hh64 Gg64 (fits_nar_byte _) W64 0 rfl (Nat.le_of_ble_eq_true rfl)
  have N64 := Fr.snoc X64 N0 ge_b58
  have K65 : Go p e below T64 (mkF m 8 #[.val (.int q)] [(.ref b58)]) G := fun tq kq => K63 tq (st64 tq kq)
  obtain ⟨fs, hr, hrun, hended, hWW, hsame⟩ := X64.leave (v := some (.ref b58)) (fun h => by rw [Bd.returns] at h; cases h)
  refine ⟨_, _, hG _ (K65 _ (retOut X64 hx Bd.returns rfl (Or.inr (Or.inr (Or.inr (Or.inr ⟨rfl, rfl, rfl⟩)))) (hb hby d_jdk_43_method_46_8) hr)), hrun, hended, _, _, rfl, ?_, ⟨_, rfl⟩, hWW, hsame.mono (by decide) (by decide)⟩
  show QTB Z q h0 n0 _ T64.heap _
  rw [e64]
  exact ⟨b58, _, rfl, N64, (((Keep.refl h0 []).ext E58).wr W64 (Or.inr sz_b58)), sz_b58, ge_b58, V64⟩
theorem ef_jdk_42_method_151_RRI (m : MethodId) (x0 : Addr) (x1 : Addr) (x2 : Int32) : entryFrame m #[(.ref x0), (.ref x1), (.int x2)] 3 = mkF m 0 #[.val (.ref x0), .val (.ref x1), .val (.int x2)] [] := by first | (simp [entryFrame, mkF, argsToLocals, Value.category]; done) | rfl
theorem d_jdk_42_method_151_0 : decode jdk_42_method_151_code 0 = .ok (.aload_n 0, 1) := by decide +kernel
theorem d_jdk_42_method_151_1 : decode jdk_42_method_151_code 1 = .ok (.invokespecial 1, 3) := by decide +kernel
theorem d_jdk_42_method_151_4 : decode jdk_42_method_151_code 4 = .ok (.aload_n 0, 1) := by decide +kernel
theorem d_jdk_42_method_151_5 : decode jdk_42_method_151_code 5 = .ok (.aload_n 1, 1) := by decide +kernel
theorem d_jdk_42_method_151_6 : decode jdk_42_method_151_code 6 = .ok (.putfield 9, 3) := by decide +kernel
theorem d_jdk_42_method_151_9 : decode jdk_42_method_151_code 9 = .ok (.aload_n 0, 1) := by decide +kernel
theorem d_jdk_42_method_151_10 : decode jdk_42_method_151_code 10 = .ok (.iload_n 2, 1) := by decide +kernel
theorem d_jdk_42_method_151_11 : decode jdk_42_method_151_code 11 = .ok (.putfield 15, 3) := by decide +kernel
theorem d_jdk_42_method_151_14 : decode jdk_42_method_151_code 14 = .ok (.return_, 1) := by decide +kernel
def QIB (Z : State) (a : Addr) (t : Addr) (h0 : Heap) (n0 : Nat) (v : Option Value) (h : Heap) (L : List Loc) : Prop := v = none ∧ Fr n0 L ∧ Keep h0 h [a] ∧ Exa Z h a "java/lang/String" ∧ Fld Z h a "java/lang/String" "value" "[B" (.ref t) ∧ Fld Z h a "java/lang/String" "coder" "B" (.int (0 : Int32))
set_option maxRecDepth 65536 in
set_option maxHeartbeats 40000000 in
theorem rmIB (l : Launch) (Z : State) (a0 : Array Value) (hw : ∀ d ∈ tables_1, d.before a0 Z = true) (ws : List Jvm.Cond) (a : Addr) (t : Addr) (h0 : Heap) (n0 : Nat) (Z0 : n0 ≤ h0.size) (F_value_a : Fld Z h0 a "java/lang/String" "value" "[B" .null) (F_coder_a : Fld Z h0 a "java/lang/String" "coder" "B" (.int (0 : Int32))) (E_a : Exa Z h0 a "java/lang/String") (ge_a : n0 ≤ a) :
    MetFree l (⟨"java/lang/String", "<init>", "([BB)V"⟩ : MethodName) (head1 (Jvm.Cond.code (⟨"java/lang/String", "<init>", "([BB)V"⟩ : MethodName) jdk_42_method_151_code 3 none :: ws) ({ frames := 1, cells := 0, slots := 0, locals := 12 } : Room)) (fun aa UU => aa = #[(.ref a), (.ref t), (.int (0 : Int32))] ∧ Z.Warmed39 UU.vm ∧ UU.heap = h0) (fun _ _ _ _ _ => True) (fun _ UU oo UU' => ∃ vv LL, oo = .returned vv ∧ QIB Z a t h0 n0 vv UU'.heap LL ∧ FrameEnd UU oo UU' LL ({ frames := 1, cells := 0, slots := 0, locals := 12 } : Room).cells ({ frames := 1, cells := 0, slots := 0, locals := 12 } : Room).slots) := by
  refine MetFree.of_bodySF (plainFor_of_name pn_0) hisR ?_
  intro p e s m args below meth c s₁ Bd hml0 hP hK
  obtain ⟨rfl, hZ, hh⟩ := hP
  have hx := Bd.exec
  have hby := Bd.bytes
  have hml : c.maxLocals = 3 := hml0
  have hown : s.vm.findClass "java/lang/String" = some m.cls := findClass_of_methodNamed Bd.named
  have hnm := (name_of_methodNamed Bd.named Bd.method).1
  have hW : ∀ (k : Nat) (d : Jvm.Cond), tables_1[k]? = some d → d.before a0 Z = true := fun k d h => hw d (List.mem_of_getElem? h)
  have X0 : Stand p l e ({ frames := 1, cells := 0, slots := 0, locals := 12 } : Room) s m #[(.ref a), (.ref t), (.int (0 : Int32))] below meth c s₁ [] 0 0 := Stand.of_body Bd
  have e0 : s₁.heap = h0 := by rw [← hh, Bd.state]; rfl
  have N0 := Fr.nil n0
  obtain ⟨G, hG, K0⟩ : ∃ G : State → Prop, (∀ tq, G tq → Steps p.tables e below (s₁.setTop (entryFrame m #[(.ref a), (.ref t), (.int (0 : Int32))] 3)) tq) ∧ Go p e below s₁ (mkF m 0 #[.val (.ref a), .val (.ref t), .val (.int (0 : Int32))] []) G := ⟨fun tq => Steps p.tables e below (s₁.setTop (entryFrame m #[(.ref a), (.ref t), (.int (0 : Int32))] 3)) tq, fun _ h => h, fun tq kq => castTop (ef_jdk_42_method_151_RRI m a t (0 : Int32)) kq⟩
  have K66 : Go p e below s₁ (mkF m 1 #[.val (.ref a), .val (.ref t), .val (.int (0 : Int32))] [(.ref a)]) G := fun tq kq => K0 tq (XS.aloadN X0.here hx rfl (hb hby d_jdk_42_method_151_0) rfl rfl kq)
  obtain ⟨T67, X67, e67, st67⟩ := initO X0 hx hZ hown (hW 18 _ rfl) (hW 19 _ rfl) (hW 20 _ rfl) e0 (g := (mkF m 1 #[.val (.ref a), .val (.ref t), .val (.int (0 : Int32))] [(.ref a)])) rfl (by rw [hml]; rfl) rfl (hb hby d_jdk_42_method_151_1) (by decide) (W := 0) (by show 2 * 0 + _ ≤ _; exact Nat.le_of_eq rfl) (by decide)
  have K68 : Go p e below T67 (mkF m 4 #[.val (.ref a), .val (.ref t), .val (.int (0 : Int32))] []) G := fun tq kq => K66 tq (st67 tq kq)
  have K69 : Go p e below T67 (mkF m 5 #[.val (.ref a), .val (.ref t), .val (.int (0 : Int32))] [(.ref a)]) G := fun tq kq => K68 tq (XS.aloadN X67.here hx rfl (hb hby d_jdk_42_method_151_4) rfl rfl kq)
  have K70 : Go p e below T67 (mkF m 6 #[.val (.ref a), .val (.ref t), .val (.int (0 : Int32))] [(.ref t), (.ref a)]) G := fun tq kq => K69 tq (XS.aloadN X67.here hx rfl (hb hby d_jdk_42_method_151_5) rfl rfl kq)
  obtain ⟨T71, h71, X71, e71, W71, st71⟩ := putF X67 hx hZ hown (host := "") (Or.inl (hW 27 _ rfl)) Via.refl e67 F_value_a E_a (Or.inr ⟨(hW 23 _ rfl), rfl, hnm⟩) (hW 8 _ rfl) (ty := (.array .byte)) (by decide) rfl rfl (g := (mkF m 6 #[.val (.ref a), .val (.ref t), .val (.int (0 : Int32))] [(.ref t), (.ref a)])) rfl rfl (hb hby d_jdk_42_method_151_6)
  have N71 := Fr.snoc X71 N0 ge_a
  have F71 := Fld.same W71 F_value_a
  have K72 : Go p e below T71 (mkF m 9 #[.val (.ref a), .val (.ref t), .val (.int (0 : Int32))] []) G := fun tq kq => K70 tq (st71 tq kq)
  have K73 : Go p e below T71 (mkF m 10 #[.val (.ref a), .val (.ref t), .val (.int (0 : Int32))] [(.ref a)]) G := fun tq kq => K72 tq (XS.aloadN X71.here hx rfl (hb hby d_jdk_42_method_151_9) rfl rfl kq)
  have K74 : Go p e below T71 (mkF m 11 #[.val (.ref a), .val (.ref t), .val (.int (0 : Int32))] [(.int (0 : Int32)), (.ref a)]) G := fun tq kq => K73 tq (XS.iloadN X71.here hx rfl (hb hby d_jdk_42_method_151_10) rfl kq)
  obtain ⟨T75, h75, X75, e75, W75, st75⟩ := putFN X71 hx hZ hown (hW 28 _ rfl) Via.refl e71 (F_coder_a.other W71 (Or.inr (slot_ne (Or.inr (hW 24 _ rfl)) (Or.inr (hW 23 _ rfl)) (by decide) (t := .byte) (t' := (.array .byte)) (by decide) (by decide)))) (E_a.wr W71) (Or.inr ⟨(hW 24 _ rfl), rfl, hnm⟩) (hW 8 _ rfl) (ty := .byte) (v' := (.int (0 : Int32))) (by decide) rfl (by decide) (g := (mkF m 11 #[.val (.ref a), .val (.ref t), .val (.int (0 : Int32))] [(.int (0 : Int32)), (.ref a)])) rfl rfl (hb hby d_jdk_42_method_151_11)
  have N75 := Fr.snoc X75 N71 ge_a
  have F75 := Fld.same W75 (F_coder_a.other W71 (Or.inr (slot_ne (Or.inr (hW 24 _ rfl)) (Or.inr (hW 23 _ rfl)) (by decide) (t := .byte) (t' := (.array .byte)) (by decide) (by decide))))
  have K76 : Go p e below T75 (mkF m 14 #[.val (.ref a), .val (.ref t), .val (.int (0 : Int32))] []) G := fun tq kq => K74 tq (st75 tq kq)
  obtain ⟨fs, hr, hrun, hended, hWW, hsame⟩ := X75.leave (v := none) (fun _ => rfl)
  refine ⟨_, _, hG _ (K76 _ (X75.returnOut hx Bd.returns (hb hby d_jdk_42_method_151_14) hr)), hrun, hended, _, _, rfl, ?_, ⟨_, rfl⟩, hWW, hsame.mono (by decide) (by decide)⟩
  show QIB Z a t h0 n0 _ T75.heap _
  rw [e75]
  exact ⟨rfl, N75, (((Keep.refl h0 [a]).wr W71 (Or.inl (List.mem_of_getElem? (i := 0) rfl))).wr W75 (Or.inl (List.mem_of_getElem? (i := 0) rfl))), ((E_a.wr W71).wr W75), (F71.other W75 (Or.inr (slot_ne (Or.inr (hW 23 _ rfl)) (Or.inr (hW 24 _ rfl)) (by decide) (t := (.array .byte)) (t' := .byte) (by decide) (by decide)))), F75⟩
theorem ef_jdk_42_method_139_I (m : MethodId) (x0 : Int32) : entryFrame m #[(.int x0)] 1 = mkF m 0 #[.val (.int x0)] [] := by first | (simp [entryFrame, mkF, argsToLocals, Value.category]; done) | rfl
theorem pd_82 : parseMethodDescriptor "(C)Z" = some ⟨[.char], some .boolean⟩ := by decide +kernel
theorem pd_83 : parseMethodDescriptor "(C)[B" = some ⟨[.char], some (.array .byte)⟩ := by decide +kernel
theorem pd_84 : parseMethodDescriptor "([BB)V" = some ⟨[(.array .byte), .byte], none⟩ := by decide +kernel
theorem d_jdk_42_method_139_0 : decode jdk_42_method_139_code 0 = .ok (.getstatic 38, 3) := by decide +kernel
theorem d_jdk_42_method_139_3 : decode jdk_42_method_139_code 3 = .ok (.ifCond .eq 23, 3) := by decide +kernel
theorem d_jdk_42_method_139_6 : decode jdk_42_method_139_code 6 = .ok (.iload_n 0, 1) := by decide +kernel
theorem d_jdk_42_method_139_7 : decode jdk_42_method_139_code 7 = .ok (.invokestatic 1015, 3) := by decide +kernel
theorem d_jdk_42_method_139_10 : decode jdk_42_method_139_code 10 = .ok (.ifCond .eq 16, 3) := by decide +kernel
theorem d_jdk_42_method_139_13 : decode jdk_42_method_139_code 13 = .ok (.new 10, 3) := by decide +kernel
theorem d_jdk_42_method_139_16 : decode jdk_42_method_139_code 16 = .ok (.dup, 1) := by decide +kernel
theorem d_jdk_42_method_139_17 : decode jdk_42_method_139_code 17 = .ok (.iload_n 0, 1) := by decide +kernel
theorem d_jdk_42_method_139_18 : decode jdk_42_method_139_code 18 = .ok (.invokestatic 1018, 3) := by decide +kernel
theorem d_jdk_42_method_139_21 : decode jdk_42_method_139_code 21 = .ok (.iconst 0, 1) := by decide +kernel
theorem d_jdk_42_method_139_22 : decode jdk_42_method_139_code 22 = .ok (.invokespecial 209, 3) := by decide +kernel
theorem d_jdk_42_method_139_25 : decode jdk_42_method_139_code 25 = .ok (.areturn, 1) := by decide +kernel
def QVO (Z : State) (q : Int32) (cz : Int32) (h0 : Heap) (n0 : Nat) (v : Option Value) (h : Heap) (L : List Loc) : Prop := ∃ (r : Addr) (t : Addr) (kb : ClassId) (N2 : Int32) (vs : List Value), v = some (.ref r) ∧ Fr n0 L ∧ Keep h0 h [] ∧ Exa Z h r "java/lang/String" ∧ Fld Z h r "java/lang/String" "value" "[B" (.ref t) ∧ Fld Z h r "java/lang/String" "coder" "B" (.int (0 : Int32)) ∧ Arv Z h t kb .byte N2 vs (.int (0 : Int32)) ∧ StrChars.Road.CodA [q] 0 N2 vs
set_option maxRecDepth 65536 in
set_option maxHeartbeats 40000000 in
theorem rmVO (l : Launch) (Z : State) (a0 : Array Value) (hw : ∀ d ∈ tables_1, d.before a0 Z = true) (ws : List Jvm.Cond) (q : Int32) (cz : Int32) (h0 : Heap) (n0 : Nat) (Z0 : n0 ≤ h0.size) (O0 : Old Z n0 h0) (S_cs : Sta Z Z.heap "java/lang/String" "COMPACT_STRINGS" "Z" (.int cz)) (hcz : ¬ cz = 0) (hq : ¬ q < 0 ∧ ¬ ((255 : Int32) < q)) :
    MetFree l (⟨"java/lang/String", "valueOf", "(C)Ljava/lang/String;"⟩ : MethodName) (head1 (Jvm.Cond.code (⟨"java/lang/String", "valueOf", "(C)Ljava/lang/String;"⟩ : MethodName) jdk_42_method_139_code 1 (some (.object "java/lang/String")) :: ws) ({ frames := 2, cells := 2, slots := 5, locals := 27 } : Room)) (fun aa UU => aa = #[(.int q)] ∧ Z.Warmed39 UU.vm ∧ UU.heap = h0) (fun _ _ _ _ _ => True) (fun _ UU oo UU' => ∃ vv LL, oo = .returned vv ∧ QVO Z q cz h0 n0 vv UU'.heap LL ∧ FrameEnd UU oo UU' LL ({ frames := 2, cells := 2, slots := 5, locals := 27 } : Room).cells ({ frames := 2, cells := 2, slots := 5, locals := 27 } : Room).slots) := by
  refine MetFree.of_bodySF (plainFor_of_name pn_0) hisR ?_
  intro p e s m args below meth c s₁ Bd hml0 hP hK
  obtain ⟨rfl, hZ, hh⟩ := hP
  have hx := Bd.exec
  have hby := Bd.bytes
  have hml : c.maxLocals = 1 := hml0
  have hown : s.vm.findClass "java/lang/String" = some m.cls := findClass_of_methodNamed Bd.named
  have hnm := (name_of_methodNamed Bd.named Bd.method).1
  have hW : ∀ (k : Nat) (d : Jvm.Cond), tables_1[k]? = some d → d.before a0 Z = true := fun k d h => hw d (List.mem_of_getElem? h)
  have X0 : Stand p l e ({ frames := 2, cells := 2, slots := 5, locals := 27 } : Room) s m #[(.int q)] below meth c s₁ [] 0 0 := Stand.of_body Bd
  have e0 : s₁.heap = h0 := by rw [← hh, Bd.state]; rfl
  have N0 := Fr.nil n0
  obtain ⟨G, hG, K0⟩ : ∃ G : State → Prop, (∀ tq, G tq → Steps p.tables e below (s₁.setTop (entryFrame m #[(.int q)] 1)) tq) ∧ Go p e below s₁ (mkF m 0 #[.val (.int q)] []) G := ⟨fun tq => Steps p.tables e below (s₁.setTop (entryFrame m #[(.int q)] 1)) tq, fun _ h => h, fun tq kq => castTop (ef_jdk_42_method_139_I m q) kq⟩
  obtain ⟨T77, X77, e77, st77⟩ := getS2 X0 hx hZ hown (host := "") (Or.inl (hW 59 _ rfl)) Via.refl e0 (S_cs.ext O0.2) (g := (mkF m 0 #[.val (.int q)] [])) rfl (hb hby d_jdk_42_method_139_0)
  have K78 : Go p e below T77 (mkF m 3 #[.val (.int q)] [(.int cz)]) G := fun tq kq => K0 tq (st77 tq kq)
  have K79 : Go p e below T77 (mkF m 6 #[.val (.int q)] []) G := fun tq kq => K78 tq (XS.ifNo X77.here hx rfl (hb hby d_jdk_42_method_139_3) rfl ((if0 _ _).trans (feq hcz).1) kq)
  have K80 : Go p e below T77 (mkF m 7 #[.val (.int q)] [(.int q)]) G := fun tq kq => K79 tq (XS.iloadN X77.here hx rfl (hb hby d_jdk_42_method_139_6) rfl kq)
  obtain ⟨v81, _, ⟨T81, L81, k81, n81⟩, -, X81, ⟨Lc81, hQ81, l81, y81, z81⟩, st81⟩ := Jvm.LawKit.callS X77 hx (y := (⟨"java/lang/StringLatin1", "canEncode", "(C)Z"⟩ : MethodName)) hown (mvT hZ (hW 83 _ rfl)) (mvT hZ (hW 84 _ rfl)) (mvT hZ (hW 62 _ rfl)) (mvT hZ (hW 85 _ rfl)) (by decide) (backOf (W := 0) (rmCE l Z a0 hw [] q h0 n0 Z0 hq.2) hZ (hW 85 _ rfl) (hW 62 _ rfl) (by decide) (by decide)) (g := (mkF m 7 #[.val (.int q)] [(.int q)])) rfl (by rw [hml]; rfl) (argsL := [(.int q)]) (rest := []) (lenOf pd_82 rfl) rfl (by show 2 * 0 + _ ≤ _; exact Nat.le_of_eq rfl) (hb hby d_jdk_42_method_139_7) (fun _ _ => ⟨rfl, e77, (by decide : 0 + 0 ≤ _), (by decide : 0 + 0 ≤ _)⟩)
  dsimp only [Pt.U, Pt.locs, Pt.cells, Pt.slots] at X81 l81 y81 z81 st81 hQ81
  subst l81 y81 z81
  obtain ⟨rfl, N81q, E81q⟩ := hQ81
  have N81 := Fr.app N0 N81q
  have K82 : Go p e below T81 (mkF m 10 #[.val (.int q)] [(.int (1 : Int32))]) G := fun tq kq => K80 tq (st81 tq kq)
  have K83 : Go p e below T81 (mkF m 13 #[.val (.int q)] []) G := fun tq kq => K82 tq (XS.ifNo X81.here hx rfl (hb hby d_jdk_42_method_139_10) rfl ((if0 _ _).trans (feq (by decide : ¬ ((1 : Int32) = (0 : Int32)))).1) kq)
  obtain ⟨T84, h84, X84, e84, E84, A84, D84, -, st84⟩ := newO X81 hx hZ hown (hW 58 _ rfl) (hW 8 _ rfl) (hW 9 _ rfl) E81q (g := (mkF m 13 #[.val (.int q)] [])) rfl (hb hby d_jdk_42_method_139_13) (by decide) (by decide)
  obtain ⟨b84, g84⟩ : ∃ z, z = h0.size := ⟨_, rfl⟩
  rw [← g84] at A84 D84 st84
  have ge_b84 : n0 ≤ b84 := Nat.le_trans Z0 (Nat.le_of_eq g84.symm)
  have sz_b84 : h0.size ≤ b84 := Nat.le_trans ((Keep.refl h0 [])).1 (Nat.le_of_eq g84.symm)
  have F84_value : Fld Z h84 b84 "java/lang/String" "value" "[B" .null := D84 (Or.inr (hW 23 _ rfl)) (ty := (.array .byte)) (by decide)
  have F84_coder : Fld Z h84 b84 "java/lang/String" "coder" "B" (.int (0 : Int32)) := D84 (Or.inr (hW 24 _ rfl)) (ty := .byte) (by decide)
  have K85 : Go p e below T84 (mkF m 16 #[.val (.int q)] [(.ref b84)]) G := fun tq kq => K83 tq (st84 tq kq)
  have K86 : Go p e below T84 (mkF m 17 #[.val (.int q)] [(.ref b84), (.ref b84)]) G := fun tq kq => K85 tq (XS.dup X84.here hx rfl (hb hby d_jdk_42_method_139_16) rfl rfl kq)
  have K87 : Go p e below T84 (mkF m 18 #[.val (.int q)] [(.int q), (.ref b84), (.ref b84)]) G := fun tq kq => K86 tq (XS.iloadN X84.here hx rfl (hb hby d_jdk_42_method_139_17) rfl kq)
  obtain ⟨v88, _, ⟨T88, L88, k88, n88⟩, -, X88, ⟨Lc88, hQ88, l88, y88, z88⟩, st88⟩ := Jvm.LawKit.callS X84 hx (y := (⟨"java/lang/StringLatin1", "toBytes", "(C)[B"⟩ : MethodName)) hown (mvT hZ (hW 86 _ rfl)) (mvT hZ (hW 87 _ rfl)) (mvT hZ (hW 62 _ rfl)) (mvT hZ (hW 88 _ rfl)) (by decide) (backOf (W := 2) (rmTB l Z a0 hw [] q h84 n0 (Nat.le_trans Z0 E84.1)) hZ (hW 88 _ rfl) (hW 62 _ rfl) (by decide) (by decide)) (g := (mkF m 18 #[.val (.int q)] [(.int q), (.ref b84), (.ref b84)])) rfl (by rw [hml]; rfl) (argsL := [(.int q)]) (rest := [(.ref b84), (.ref b84)]) (lenOf pd_83 rfl) rfl (by show 2 * 0 + _ ≤ _; exact Nat.le_of_eq rfl) (hb hby d_jdk_42_method_139_18) (fun _ _ => ⟨rfl, e84, (by decide : 1 + 1 ≤ _), (by decide : 4 + 1 ≤ _)⟩)
  dsimp only [Pt.U, Pt.locs, Pt.cells, Pt.slots] at X88 l88 y88 z88 st88 hQ88
  subst l88 y88 z88
  obtain ⟨t, kb, rfl, N88q, K88q, szt, get, VT⟩ := hQ88
  have N88 := Fr.app N81 N88q
  have net : b84 ≠ t := Nat.ne_of_lt (Nat.lt_of_lt_of_le A84.lt szt)
  have K89 : Go p e below T88 (mkF m 21 #[.val (.int q)] [(.ref t), (.ref b84), (.ref b84)]) G := fun tq kq => K87 tq (st88 tq kq)
  have K90 : Go p e below T88 (mkF m 22 #[.val (.int q)] [(.int (0 : Int32)), (.ref t), (.ref b84), (.ref b84)]) G := fun tq kq => K89 tq (XS.iconst X88.here hx rfl (hb hby d_jdk_42_method_139_21) kq)
  obtain ⟨v91, _, ⟨T91, L91, k91, n91⟩, -, X91, ⟨Lc91, hQ91, l91, y91, z91⟩, st91⟩ := X88.specialBack hx (y := (⟨"java/lang/String", "<init>", "([BB)V"⟩ : MethodName)) rfl hown (mvT hZ (hW 89 _ rfl)) (mvT hZ (hW 90 _ rfl)) (mvT hZ (hW 91 _ rfl)) (by decide) (backOf (W := 1) (rmIB l Z a0 hw [] b84 t T88.heap n0 (Nat.le_trans (Nat.le_trans Z0 E84.1) K88q.1) (F84_value.keep K88q nin0) (F84_coder.keep K88q nin0) (A84.keep K88q) ge_b84) hZ (hW 91 _ rfl) (hW 9 _ rfl) (by decide) (by decide)) (g := (mkF m 22 #[.val (.int q)] [(.int (0 : Int32)), (.ref t), (.ref b84), (.ref b84)])) rfl (by rw [hml]; rfl) (Steps.refl _) (a := b84) (argsL := [(.ref t), (.int (0 : Int32))]) (rest := [(.ref b84)]) (lenOf pd_84 rfl) rfl (by show 2 * 0 + _ ≤ _; exact Nat.le_of_eq rfl) (hb hby d_jdk_42_method_139_22) (fun _ _ => ⟨rfl, rfl, (by decide : 2 + 0 ≤ _), (by decide : 5 + 0 ≤ _)⟩)
  dsimp only [Pt.U, Pt.locs, Pt.cells, Pt.slots] at X91 l91 y91 z91 st91 hQ91
  subst l91 y91 z91
  obtain ⟨rfl, N91q, K91q, E91q, F91q_value, F91q_coder⟩ := hQ91
  have N91 := Fr.app N88 N91q
  have K92 : Go p e below T91 (mkF m 25 #[.val (.int q)] [(.ref b84)]) G := fun tq kq => K90 tq (st91.trans kq)
  obtain ⟨fs, hr, hrun, hended, hWW, hsame⟩ := X91.leave (v := some (.ref b84)) (fun h => by rw [Bd.returns] at h; cases h)
  refine ⟨_, _, hG _ (K92 _ (retOut X91 hx Bd.returns rfl (Or.inr (Or.inr (Or.inr (Or.inr ⟨rfl, rfl, rfl⟩)))) (hb hby d_jdk_42_method_139_25) hr)), hrun, hended, _, _, rfl, ?_, ⟨_, rfl⟩, hWW, hsame.mono (by decide) (by decide)⟩
  show QVO Z q cz h0 n0 _ T91.heap _
  exact ⟨b84, t, kb, _, _, rfl, N91, ((((Keep.refl h0 []).ext E84).trans K88q all0).trans K91q (allS (Or.inr sz_b84) all0)), E91q, F91q_value, F91q_coder, (VT.keep K91q (ninS (Ne.symm net) nin0)), StrChars.Road.codOf (cs := [q]) rfl (by intro c hc; simp only [List.mem_cons, List.not_mem_nil, or_false] at hc; subst hc; exact hq.2)⟩
theorem ef_method_6_I (m : MethodId) (x0 : Int32) : entryFrame m #[(.int x0)] 2 = mkF m 0 #[.val (.int x0), .unset] [] := by first | (simp [entryFrame, mkF, argsToLocals, Value.category]; done) | rfl
theorem pd_98 : parseMethodDescriptor "(I)I" = some ⟨[.int], some .int⟩ := by decide +kernel
theorem pd_99 : parseMethodDescriptor "([C)V" = some ⟨[(.array .char)], none⟩ := by decide +kernel
theorem pd_100 : parseMethodDescriptor "(I)C" = some ⟨[.int], some .char⟩ := by decide +kernel
theorem pd_101 : parseMethodDescriptor "(C)Ljava/lang/String;" = some ⟨[.char], some (.object "java/lang/String")⟩ := by decide +kernel
theorem d_method_6_0 : decode method_6_code 0 = .ok (.iload_n 0, 1) := by decide +kernel
theorem d_method_6_1 : decode method_6_code 1 = .ok (.invokestatic 26, 3) := by decide +kernel
theorem d_method_6_4 : decode method_6_code 4 = .ok (.istore_n 1, 1) := by decide +kernel
theorem d_method_6_5 : decode method_6_code 5 = .ok (.iload_n 1, 1) := by decide +kernel
theorem d_method_6_6 : decode method_6_code 6 = .ok (.ifCond .ne 14, 3) := by decide +kernel
theorem d_method_6_9 : decode method_6_code 9 = .ok (.new 30, 3) := by decide +kernel
theorem d_method_6_12 : decode method_6_code 12 = .ok (.dup, 1) := by decide +kernel
theorem d_method_6_13 : decode method_6_code 13 = .ok (.iconst 0, 1) := by decide +kernel
theorem d_method_6_14 : decode method_6_code 14 = .ok (.newarray .char, 2) := by decide +kernel
theorem d_method_6_16 : decode method_6_code 16 = .ok (.invokespecial 32, 3) := by decide +kernel
theorem d_method_6_19 : decode method_6_code 19 = .ok (.areturn, 1) := by decide +kernel
theorem d_method_6_20 : decode method_6_code 20 = .ok (.iload_n 1, 1) := by decide +kernel
theorem d_method_6_21 : decode method_6_code 21 = .ok (.iconst 1, 1) := by decide +kernel
theorem d_method_6_22 : decode method_6_code 22 = .ok (.if_icmp .ne 11, 3) := by decide +kernel
theorem d_method_6_25 : decode method_6_code 25 = .ok (.iload_n 0, 1) := by decide +kernel
theorem d_method_6_26 : decode method_6_code 26 = .ok (.invokestatic 35, 3) := by decide +kernel
theorem d_method_6_29 : decode method_6_code 29 = .ok (.invokestatic 39, 3) := by decide +kernel
theorem d_method_6_32 : decode method_6_code 32 = .ok (.areturn, 1) := by decide +kernel
theorem d_method_6_33 : decode method_6_code 33 = .ok (.new 30, 3) := by decide +kernel
theorem d_method_6_36 : decode method_6_code 36 = .ok (.dup, 1) := by decide +kernel
theorem d_method_6_37 : decode method_6_code 37 = .ok (.iconst 2, 1) := by decide +kernel
theorem d_method_6_38 : decode method_6_code 38 = .ok (.newarray .char, 2) := by decide +kernel
theorem d_method_6_40 : decode method_6_code 40 = .ok (.dup, 1) := by decide +kernel
theorem d_method_6_41 : decode method_6_code 41 = .ok (.iconst 0, 1) := by decide +kernel
theorem d_method_6_42 : decode method_6_code 42 = .ok (.iload_n 0, 1) := by decide +kernel
theorem d_method_6_43 : decode method_6_code 43 = .ok (.invokestatic 35, 3) := by decide +kernel
theorem d_method_6_46 : decode method_6_code 46 = .ok (.castore, 1) := by decide +kernel
theorem d_method_6_47 : decode method_6_code 47 = .ok (.dup, 1) := by decide +kernel
theorem d_method_6_48 : decode method_6_code 48 = .ok (.iconst 1, 1) := by decide +kernel
theorem d_method_6_49 : decode method_6_code 49 = .ok (.iload_n 0, 1) := by decide +kernel
theorem d_method_6_50 : decode method_6_code 50 = .ok (.invokestatic 43, 3) := by decide +kernel
theorem d_method_6_53 : decode method_6_code 53 = .ok (.castore, 1) := by decide +kernel
theorem d_method_6_54 : decode method_6_code 54 = .ok (.invokespecial 32, 3) := by decide +kernel
theorem d_method_6_57 : decode method_6_code 57 = .ok (.areturn, 1) := by decide +kernel
def QMK (Z : State) (q : Int32) (cz : Int32) (h0 : Heap) (n0 : Nat) (v : Option Value) (h : Heap) (L : List Loc) : Prop := ∃ (r : Addr) (t : Addr) (kb : ClassId) (N2 : Int32) (vs : List Value), v = some (.ref r) ∧ Fr n0 L ∧ Keep h0 h [] ∧ Exa Z h r "java/lang/String" ∧ Fld Z h r "java/lang/String" "value" "[B" (.ref t) ∧ Fld Z h r "java/lang/String" "coder" "B" (.int (0 : Int32)) ∧ Arv Z h t kb .byte N2 vs (.int (0 : Int32)) ∧ StrChars.Road.CodA (own_cs q) 0 N2 vs
set_option maxRecDepth 65536 in
set_option maxHeartbeats 40000000 in
theorem rmMK (l : Launch) (Z : State) (a0 : Array Value) (hw : ∀ d ∈ tables_1, d.before a0 Z = true) (ws : List Jvm.Cond) (q : Int32) (cz : Int32) (h0 : Heap) (n0 : Nat) (Z0 : n0 ≤ h0.size) (O0 : Old Z n0 h0) (S_cs : Sta Z Z.heap "java/lang/String" "COMPACT_STRINGS" "Z" (.int cz)) (hcz : ¬ cz = 0) :
    MetFree l (⟨"com/example/kithmark/kithmark/params/PairHoldsPinLaw", "make", "(I)Ljava/lang/String;"⟩ : MethodName) (head1 (Jvm.Cond.code (⟨"com/example/kithmark/kithmark/params/PairHoldsPinLaw", "make", "(I)Ljava/lang/String;"⟩ : MethodName) method_6_code 2 (some (.object "java/lang/String")) :: ws) ({ frames := 4, cells := 4, slots := 8, locals := 66 } : Room)) (fun aa UU => aa = #[(.int q)] ∧ Z.Warmed39 UU.vm ∧ UU.heap = h0 ∧ CHv Z own_EL UU.vm h0) (fun _ _ _ _ _ => True) (fun _ UU oo UU' => ∃ vv LL, oo = .returned vv ∧ QMK Z q cz h0 n0 vv UU'.heap LL ∧ CHr Z own_EL UU.vm UU.heap UU'.vm UU'.heap ∧ ReturnedEndW UU oo UU' LL ({ frames := 4, cells := 4, slots := 8, locals := 66 } : Room).cells ({ frames := 4, cells := 4, slots := 8, locals := 66 } : Room).slots) := by
  refine MetFree.of_bodySF (plainFor_of_name pn_30) hisR ?_
  intro p e s m args below meth c s₁ Bd hml0 hP hK
  obtain ⟨rfl, hZ, hh, HC⟩ := hP
  have hx := Bd.exec
  have hby := Bd.bytes
  have hml : c.maxLocals = 2 := hml0
  have hown : s.vm.findClass "com/example/kithmark/kithmark/params/PairHoldsPinLaw" = some m.cls := findClass_of_methodNamed Bd.named
  have hnm := (name_of_methodNamed Bd.named Bd.method).1
  have hW : ∀ (k : Nat) (d : Jvm.Cond), tables_1[k]? = some d → d.before a0 Z = true := fun k d h => hw d (List.mem_of_getElem? h)
  have X0 : Stand p l e ({ frames := 4, cells := 4, slots := 8, locals := 66 } : Room) (s.setVm s.vm) m #[(.int q)] below meth c s₁ [] 0 0 := Stand.of_body Bd
  have e0 : s₁.heap = h0 := by rw [← hh, Bd.state]; rfl
  have N0 := Fr.nil n0
  obtain ⟨G, hG, K0⟩ : ∃ G : State → Prop, (∀ tq, G tq → Steps p.tables e below (s₁.setTop (entryFrame m #[(.int q)] 2)) tq) ∧ Go p e below s₁ (mkF m 0 #[.val (.int q), .unset] []) G := ⟨fun tq => Steps p.tables e below (s₁.setTop (entryFrame m #[(.int q)] 2)) tq, fun _ h => h, fun tq kq => castTop (ef_method_6_I m q) kq⟩
  have hS0 := (State.WarmedH.refl s).since 0
  have hEL : EW Z a0 own_EL := own_EW hW
  have CR0 := CHr.refl HC
  have hws : ∀ d ∈ StrChars.Road.words, d.before a0 Z = true := fun d hd => hw d ((by decide +kernel : ∀ d ∈ StrChars.Road.words, d ∈ tables_1) d hd)
  have K93 : Go p e below s₁ (mkF m 1 #[.val (.int q), .unset] [(.int q)]) G := fun tq kq => K0 tq (XS.iloadN X0.here hx rfl (hb hby d_method_6_0) rfl kq)
  obtain ⟨v94, _, ⟨T94, L94, k94, n94⟩, -, X94, ⟨Lc94, hQ94, l94, y94, z94⟩, st94⟩ := Jvm.LawKit.callS X0 hx (y := (⟨"com/example/kithmark/kithmark/params/PairHoldsPinLaw", "len", "(I)I"⟩ : MethodName)) hown (mvT hZ (hW 4 _ rfl)) (mvT hZ (hW 5 _ rfl)) (mvT hZ (hW 2 _ rfl)) (mvT hZ (hW 6 _ rfl)) (by decide) (backOf (W := 0) (rmLen l Z a0 hw [] q h0 n0 Z0) hZ (hW 6 _ rfl) (hW 2 _ rfl) (by decide) (by decide)) (g := (mkF m 1 #[.val (.int q), .unset] [(.int q)])) rfl (by rw [hml]; rfl) (argsL := [(.int q)]) (rest := []) (lenOf pd_98 rfl) rfl (by show 2 * 0 + _ ≤ _; exact Nat.le_of_eq rfl) (hb hby d_method_6_1) (fun _ _ => ⟨rfl, e0, (by decide : 0 + 0 ≤ _), (by decide : 0 + 0 ≤ _)⟩)
  dsimp only [Pt.U, Pt.locs, Pt.cells, Pt.slots] at X94 l94 y94 z94 st94 hQ94
  subst l94 y94 z94
  obtain ⟨rfl, N94q, E94q⟩ := hQ94
  have N94 := Fr.app N0 N94q
  have K95 : Go p e below T94 (mkF m 4 #[.val (.int q), .unset] [(.int (own_len q))]) G := fun tq kq => K93 tq (st94 tq kq)
  have K96 : Go p e below T94 (mkF m 5 #[.val (.int q), .val (.int (own_len q))] []) G := fun tq kq => K95 tq (XS.istoreN X94.here hx rfl (hb hby d_method_6_4) rfl (l' := #[.val (.int q), .val (.int (own_len q))]) rfl kq)
  have K97 : Go p e below T94 (mkF m 6 #[.val (.int q), .val (.int (own_len q))] [(.int (own_len q))]) G := fun tq kq => K96 tq (XS.iloadN X94.here hx rfl (hb hby d_method_6_5) rfl kq)
  by_cases hc98 : (own_len q) = (0 : Int32)
  · skip
    have K99 : Go p e below T94 (mkF m 9 #[.val (.int q), .val (.int (own_len q))] []) G := fun tq kq => K97 tq (XS.ifNo X94.here hx rfl (hb hby d_method_6_6) rfl ((if0 _ _).trans (teq hc98).2) kq)
    obtain ⟨T100, h100, X100, e100, E100, A100, D100, -, st100⟩ := newO X94 hx hZ hown (hW 7 _ rfl) (hW 8 _ rfl) (hW 9 _ rfl) E94q (g := (mkF m 9 #[.val (.int q), .val (.int (own_len q))] [])) rfl (hb hby d_method_6_9) (by decide) (by decide)
    obtain ⟨b100, g100⟩ : ∃ z, z = h0.size := ⟨_, rfl⟩
    rw [← g100] at A100 D100 st100
    have ge_b100 : n0 ≤ b100 := Nat.le_trans Z0 (Nat.le_of_eq g100.symm)
    have sz_b100 : h0.size ≤ b100 := Nat.le_trans ((Keep.refl h0 [])).1 (Nat.le_of_eq g100.symm)
    have CR101 := CR0.trans (CHr.ext E100 CR0.1)
    have Sf100 := Safe.ext E100 CR0.1 (Safe.new (Nat.le_of_eq g100.symm))
    have F100_value : Fld Z h100 b100 "java/lang/String" "value" "[B" .null := D100 (Or.inr (hW 23 _ rfl)) (ty := (.array .byte)) (by decide)
    have F100_coder : Fld Z h100 b100 "java/lang/String" "coder" "B" (.int (0 : Int32)) := D100 (Or.inr (hW 24 _ rfl)) (ty := .byte) (by decide)
    have K102 : Go p e below T100 (mkF m 12 #[.val (.int q), .val (.int (own_len q))] [(.ref b100)]) G := fun tq kq => K99 tq (st100 tq kq)
    have K103 : Go p e below T100 (mkF m 13 #[.val (.int q), .val (.int (own_len q))] [(.ref b100), (.ref b100)]) G := fun tq kq => K102 tq (XS.dup X100.here hx rfl (hb hby d_method_6_12) rfl rfl kq)
    have K104 : Go p e below T100 (mkF m 14 #[.val (.int q), .val (.int (own_len q))] [(.int (0 : Int32)), (.ref b100), (.ref b100)]) G := fun tq kq => K103 tq (XS.iconst X100.here hx rfl (hb hby d_method_6_13) kq)
    obtain ⟨T105, h105, k105, X105, e105, E105, A105, st105⟩ := newP X100 hx hZ (hW 10 _ rfl) e100 (g := (mkF m 14 #[.val (.int q), .val (.int (own_len q))] [(.int (0 : Int32)), (.ref b100), (.ref b100)])) rfl (hb hby d_method_6_14) rfl (by decide) (cap := 0) (by decide) (by decide) (by decide) (by decide)
    obtain ⟨b105, g105⟩ : ∃ z, z = h100.size := ⟨_, rfl⟩
    rw [← g105] at A105 st105
    have ne105_b100 : b100 ≠ b105 := Nat.ne_of_lt (Nat.lt_of_lt_of_le A100.lt (Nat.le_of_eq g105.symm))
    have ge_b105 : n0 ≤ b105 := Nat.le_trans (Nat.le_trans Z0 E100.1) (Nat.le_of_eq g105.symm)
    have sz_b105 : h0.size ≤ b105 := Nat.le_trans (((Keep.refl h0 []).ext E100)).1 (Nat.le_of_eq g105.symm)
    have V105 : Arv Z h105 b105 k105 .char (0 : Int32) [] (.int (0 : Int32)) := (Arv.new A105 (by decide)).pad (pad_rep [] (.int (0 : Int32)) 0)
    have CR106 := CR101.trans (CHr.ext E105 CR101.1)
    have Sf106_b100 := Safe.ext E105 CR101.1 Sf100
    have K107 : Go p e below T105 (mkF m 16 #[.val (.int q), .val (.int (own_len q))] [(.ref b105), (.ref b100), (.ref b100)]) G := fun tq kq => K104 tq (st105 tq kq)
    obtain ⟨v108, _, ⟨T108, L108, k108, n108⟩, -, X108, hSa108, hgr108, ⟨Lc108, hQ108, l108, y108, z108, hCR108⟩, st108⟩ := X105.specialBackS hx (y := (⟨"java/lang/String", "<init>", "([C)V"⟩ : MethodName)) rfl hown (mvT hZ (hW 11 _ rfl)) (mvT hZ (hW 12 _ rfl)) (mvT hZ (hW 13 _ rfl)) (by decide) (backOfSH (W := 1) (rmN1 l Z a0 hw [] b100 b105 k105 h105 n0 (Nat.le_trans (Nat.le_trans Z0 E100.1) E105.1) (F100_value.ext E105) (F100_coder.ext E105) (A100.ext E105) ge_b100 V105) hZ (hW 13 _ rfl) (hW 9 _ rfl) (by decide) (by decide) hEL CR106.1) (g := (mkF m 16 #[.val (.int q), .val (.int (own_len q))] [(.ref b105), (.ref b100), (.ref b100)])) rfl (by rw [hml]; rfl) (Steps.refl _) (a := b100) (argsL := [(.ref b105)]) (rest := [(.ref b100)]) (lenOf pd_99 rfl) rfl (by show 2 * 0 + _ ≤ _; exact Nat.le_of_eq rfl) (hb hby d_method_6_16) (fun _ _ => ⟨rfl, e105, (by decide : 2 + 2 ≤ _), (by decide : 4 + 4 ≤ _)⟩)
    dsimp only [Pt.U, Pt.locs, Pt.cells, Pt.slots] at X108 l108 y108 z108 st108 hQ108 hSa108 hgr108 hCR108
    subst l108 y108 z108
    obtain ⟨X108, hSb108, hZ, hown⟩ := rebS hS0 (by first | exact (Nat.le_trans (Nat.le_trans (Nat.zero_le _) E100.1) E105.1) | (rw [e105]; exact (Nat.le_trans (Nat.le_trans (Nat.zero_le _) E100.1) E105.1))) X108 hSa108 hgr108 hZ hown
    have CR109 := CR106.trans (hCR108)
    have Sf109_b100 := CHr.safe (hCR108) (A100.ext E105).lt Sf106_b100
    obtain ⟨rfl, N108q, K108q, E108q, FC108q, t108, kb108, net108, FV108q, VB108q⟩ := hQ108
    have N108 := Fr.app N94 N108q
    have K110 : Go p e below T108 (mkF m 19 #[.val (.int q), .val (.int (own_len q))] [(.ref b100)]) G := fun tq kq => K107 tq (st108.trans kq)
    obtain ⟨fs, hr, hrun, hended, hRE⟩ := X108.leaveW (s := s) hSb108 (by first | exact (Nat.le_refl _) | (rw [rfl]; exact (Nat.le_refl _))) (v := some (.ref b100)) (fun h => by rw [Bd.returns] at h; cases h)
    have CRe := CR109.trans (CHv.at X108 hZ hEL CR109.1)
    refine ⟨_, _, hG _ (K110 _ (retOut X108 hx Bd.returns rfl (Or.inr (Or.inr (Or.inr (Or.inr ⟨rfl, rfl, rfl⟩)))) (hb hby d_method_6_19) hr)), hrun, hended, _, _, rfl, ?_, (by show CHr Z own_EL s.vm s.heap T108.vm T108.heap; rw [hh]; exact CRe), hRE.1, hRE.2.1, hRE.2.2.1, hRE.2.2.2.mono (by decide) (by decide)⟩
    show QMK Z q cz h0 n0 _ T108.heap _
    exact ⟨b100, t108, kb108, _, _, rfl, N108, ((((Keep.refl h0 []).ext E100).ext E105).trans K108q (allS (Or.inr sz_b100) all0)), E108q, FV108q, FC108q, VB108q, by rw [own_cs]; simp only [hc98, if_true, if_false]; exact StrChars.Road.codOf (cs := ([] : List Int32)) rfl (by simp)⟩
  · skip
    have K111 : Go p e below T94 (mkF m 20 #[.val (.int q), .val (.int (own_len q))] []) G := fun tq kq => K97 tq (XS.ifYes X94.here hx rfl (pc0 := 6) (pc' := 20) rfl (hb hby d_method_6_6) rfl ((if0 _ _).trans (feq hc98).2) (by decide) (by decide) kq)
    have K112 : Go p e below T94 (mkF m 21 #[.val (.int q), .val (.int (own_len q))] [(.int (own_len q))]) G := fun tq kq => K111 tq (XS.iloadN X94.here hx rfl (hb hby d_method_6_20) rfl kq)
    have K113 : Go p e below T94 (mkF m 22 #[.val (.int q), .val (.int (own_len q))] [(.int (1 : Int32)), (.int (own_len q))]) G := fun tq kq => K112 tq (XS.iconst X94.here hx rfl (hb hby d_method_6_21) kq)
    by_cases hc114 : (own_len q) = (1 : Int32)
    · skip
      have K115 : Go p e below T94 (mkF m 25 #[.val (.int q), .val (.int (own_len q))] []) G := fun tq kq => K113 tq (XS.icmpNo X94.here hx rfl (hb hby d_method_6_22) rfl ((teq hc114).2) kq)
      have K116 : Go p e below T94 (mkF m 26 #[.val (.int q), .val (.int (own_len q))] [(.int q)]) G := fun tq kq => K115 tq (XS.iloadN X94.here hx rfl (hb hby d_method_6_25) rfl kq)
      obtain ⟨v117, _, ⟨T117, L117, k117, n117⟩, -, X117, ⟨Lc117, hQ117, l117, y117, z117⟩, st117⟩ := Jvm.LawKit.callS X94 hx (y := (⟨"com/example/kithmark/kithmark/params/PairHoldsPinLaw", "c0", "(I)C"⟩ : MethodName)) hown (mvT hZ (hW 64 _ rfl)) (mvT hZ (hW 65 _ rfl)) (mvT hZ (hW 2 _ rfl)) (mvT hZ (hW 66 _ rfl)) (by decide) (backOf (W := 0) (rmC0 l Z a0 hw [] q h0 n0 Z0) hZ (hW 66 _ rfl) (hW 2 _ rfl) (by decide) (by decide)) (g := (mkF m 26 #[.val (.int q), .val (.int (own_len q))] [(.int q)])) rfl (by rw [hml]; rfl) (argsL := [(.int q)]) (rest := []) (lenOf pd_100 rfl) rfl (by show 2 * 0 + _ ≤ _; exact Nat.le_of_eq rfl) (hb hby d_method_6_26) (fun _ _ => ⟨rfl, E94q, (by decide : 0 + 0 ≤ _), (by decide : 0 + 0 ≤ _)⟩)
      dsimp only [Pt.U, Pt.locs, Pt.cells, Pt.slots] at X117 l117 y117 z117 st117 hQ117
      subst l117 y117 z117
      obtain ⟨rfl, N117q, E117q⟩ := hQ117
      have N117 := Fr.app N94 N117q
      have K118 : Go p e below T117 (mkF m 29 #[.val (.int q), .val (.int (own_len q))] [(.int (own_c0 q))]) G := fun tq kq => K116 tq (st117 tq kq)
      obtain ⟨v119, _, ⟨T119, L119, k119, n119⟩, -, X119, ⟨Lc119, hQ119, l119, y119, z119⟩, st119⟩ := Jvm.LawKit.callS X117 hx (y := (⟨"java/lang/String", "valueOf", "(C)Ljava/lang/String;"⟩ : MethodName)) hown (mvT hZ (hW 80 _ rfl)) (mvT hZ (hW 81 _ rfl)) (mvT hZ (hW 9 _ rfl)) (mvT hZ (hW 82 _ rfl)) (by decide) (backOf (W := 0) (rmVO l Z a0 hw [] (own_c0 q) cz h0 n0 Z0 O0 S_cs hcz (own_p0 q)) hZ (hW 82 _ rfl) (hW 9 _ rfl) (by decide) (by decide)) (g := (mkF m 29 #[.val (.int q), .val (.int (own_len q))] [(.int (own_c0 q))])) rfl (by rw [hml]; rfl) (argsL := [(.int (own_c0 q))]) (rest := []) (lenOf pd_101 rfl) rfl (by show 2 * 0 + _ ≤ _; exact Nat.le_of_eq rfl) (hb hby d_method_6_29) (fun _ _ => ⟨rfl, E117q, (by decide : 0 + 2 ≤ _), (by decide : 0 + 5 ≤ _)⟩)
      dsimp only [Pt.U, Pt.locs, Pt.cells, Pt.slots] at X119 l119 y119 z119 st119 hQ119
      subst l119 y119 z119
      obtain ⟨r, t, kb, N2, vs, rfl, N119q, K119q, Er, Fv, Fc, Vt, Cd⟩ := hQ119
      have N119 := Fr.app N117 N119q
      have CR120 := CR0.trans (CHr.keep K119q sf0 CR0.1)
      have K121 : Go p e below T119 (mkF m 32 #[.val (.int q), .val (.int (own_len q))] [(.ref r)]) G := fun tq kq => K118 tq (st119 tq kq)
      obtain ⟨fs, hr, hrun, hended, hRE⟩ := X119.leaveW (s := s) hS0 (by first | exact (Nat.le_trans (Nat.zero_le _) K119q.1) | (rw [rfl]; exact (Nat.le_trans (Nat.zero_le _) K119q.1))) (v := some (.ref r)) (fun h => by rw [Bd.returns] at h; cases h)
      have CRe := CR120.trans (CHv.at X119 hZ hEL CR120.1)
      refine ⟨_, _, hG _ (K121 _ (retOut X119 hx Bd.returns rfl (Or.inr (Or.inr (Or.inr (Or.inr ⟨rfl, rfl, rfl⟩)))) (hb hby d_method_6_32) hr)), hrun, hended, _, _, rfl, ?_, (by show CHr Z own_EL s.vm s.heap T119.vm T119.heap; rw [hh]; exact CRe), hRE.1, hRE.2.1, hRE.2.2.1, hRE.2.2.2.mono (by decide) (by decide)⟩
      show QMK Z q cz h0 n0 _ T119.heap _
      exact ⟨r, t, kb, N2, vs, rfl, N119, ((Keep.refl h0 []).trans K119q all0), Er, Fv, Fc, Vt, by rw [own_cs]; simp only [hc98, hc114, if_true, if_false]; exact Cd⟩
    · skip
      have K122 : Go p e below T94 (mkF m 33 #[.val (.int q), .val (.int (own_len q))] []) G := fun tq kq => K113 tq (XS.icmpYes X94.here hx rfl (pc0 := 22) (pc' := 33) rfl (hb hby d_method_6_22) rfl ((feq hc114).2) (by decide) (by decide) kq)
      obtain ⟨T123, h123, X123, e123, E123, A123, D123, -, st123⟩ := newO X94 hx hZ hown (hW 7 _ rfl) (hW 8 _ rfl) (hW 9 _ rfl) E94q (g := (mkF m 33 #[.val (.int q), .val (.int (own_len q))] [])) rfl (hb hby d_method_6_33) (by decide) (by decide)
      obtain ⟨b123, g123⟩ : ∃ z, z = h0.size := ⟨_, rfl⟩
      rw [← g123] at A123 D123 st123
      have ge_b123 : n0 ≤ b123 := Nat.le_trans Z0 (Nat.le_of_eq g123.symm)
      have sz_b123 : h0.size ≤ b123 := Nat.le_trans ((Keep.refl h0 [])).1 (Nat.le_of_eq g123.symm)
      have CR124 := CR0.trans (CHr.ext E123 CR0.1)
      have Sf123 := Safe.ext E123 CR0.1 (Safe.new (Nat.le_of_eq g123.symm))
      have F123_value : Fld Z h123 b123 "java/lang/String" "value" "[B" .null := D123 (Or.inr (hW 23 _ rfl)) (ty := (.array .byte)) (by decide)
      have F123_coder : Fld Z h123 b123 "java/lang/String" "coder" "B" (.int (0 : Int32)) := D123 (Or.inr (hW 24 _ rfl)) (ty := .byte) (by decide)
      have K125 : Go p e below T123 (mkF m 36 #[.val (.int q), .val (.int (own_len q))] [(.ref b123)]) G := fun tq kq => K122 tq (st123 tq kq)
      have K126 : Go p e below T123 (mkF m 37 #[.val (.int q), .val (.int (own_len q))] [(.ref b123), (.ref b123)]) G := fun tq kq => K125 tq (XS.dup X123.here hx rfl (hb hby d_method_6_36) rfl rfl kq)
      have K127 : Go p e below T123 (mkF m 38 #[.val (.int q), .val (.int (own_len q))] [(.int (2 : Int32)), (.ref b123), (.ref b123)]) G := fun tq kq => K126 tq (XS.iconst X123.here hx rfl (hb hby d_method_6_37) kq)
      obtain ⟨T128, h128, k128, X128, e128, E128, A128, st128⟩ := newP X123 hx hZ (hW 10 _ rfl) e123 (g := (mkF m 38 #[.val (.int q), .val (.int (own_len q))] [(.int (2 : Int32)), (.ref b123), (.ref b123)])) rfl (hb hby d_method_6_38) rfl (by decide) (cap := 2) (by decide) (by decide) (by decide) (by decide)
      obtain ⟨b128, g128⟩ : ∃ z, z = h123.size := ⟨_, rfl⟩
      rw [← g128] at A128 st128
      have ne128_b123 : b123 ≠ b128 := Nat.ne_of_lt (Nat.lt_of_lt_of_le A123.lt (Nat.le_of_eq g128.symm))
      have ge_b128 : n0 ≤ b128 := Nat.le_trans (Nat.le_trans Z0 E123.1) (Nat.le_of_eq g128.symm)
      have sz_b128 : h0.size ≤ b128 := Nat.le_trans (((Keep.refl h0 []).ext E123)).1 (Nat.le_of_eq g128.symm)
      have V128 : Arv Z h128 b128 k128 .char (2 : Int32) [(.int (0 : Int32)), (.int (0 : Int32))] (.int (0 : Int32)) := (Arv.new A128 (by decide)).pad (pad_rep [] (.int (0 : Int32)) 2)
      have CR129 := CR124.trans (CHr.ext E128 CR124.1)
      have Sf129_b123 := Safe.ext E128 CR124.1 Sf123
      have K130 : Go p e below T128 (mkF m 40 #[.val (.int q), .val (.int (own_len q))] [(.ref b128), (.ref b123), (.ref b123)]) G := fun tq kq => K127 tq (st128 tq kq)
      have K131 : Go p e below T128 (mkF m 41 #[.val (.int q), .val (.int (own_len q))] [(.ref b128), (.ref b128), (.ref b123), (.ref b123)]) G := fun tq kq => K130 tq (XS.dup X128.here hx rfl (hb hby d_method_6_40) rfl rfl kq)
      have K132 : Go p e below T128 (mkF m 42 #[.val (.int q), .val (.int (own_len q))] [(.int (0 : Int32)), (.ref b128), (.ref b128), (.ref b123), (.ref b123)]) G := fun tq kq => K131 tq (XS.iconst X128.here hx rfl (hb hby d_method_6_41) kq)
      have K133 : Go p e below T128 (mkF m 43 #[.val (.int q), .val (.int (own_len q))] [(.int q), (.int (0 : Int32)), (.ref b128), (.ref b128), (.ref b123), (.ref b123)]) G := fun tq kq => K132 tq (XS.iloadN X128.here hx rfl (hb hby d_method_6_42) rfl kq)
      obtain ⟨v134, _, ⟨T134, L134, k134, n134⟩, -, X134, ⟨Lc134, hQ134, l134, y134, z134⟩, st134⟩ := Jvm.LawKit.callS X128 hx (y := (⟨"com/example/kithmark/kithmark/params/PairHoldsPinLaw", "c0", "(I)C"⟩ : MethodName)) hown (mvT hZ (hW 64 _ rfl)) (mvT hZ (hW 65 _ rfl)) (mvT hZ (hW 2 _ rfl)) (mvT hZ (hW 66 _ rfl)) (by decide) (backOf (W := 5) (rmC0 l Z a0 hw [] q h128 n0 (Nat.le_trans (Nat.le_trans Z0 E123.1) E128.1)) hZ (hW 66 _ rfl) (hW 2 _ rfl) (by decide) (by decide)) (g := (mkF m 43 #[.val (.int q), .val (.int (own_len q))] [(.int q), (.int (0 : Int32)), (.ref b128), (.ref b128), (.ref b123), (.ref b123)])) rfl (by rw [hml]; rfl) (argsL := [(.int q)]) (rest := [(.int (0 : Int32)), (.ref b128), (.ref b128), (.ref b123), (.ref b123)]) (lenOf pd_100 rfl) rfl (by show 2 * 0 + _ ≤ _; exact Nat.le_of_eq rfl) (hb hby d_method_6_43) (fun _ _ => ⟨rfl, e128, (by decide : 2 + 0 ≤ _), (by decide : 6 + 0 ≤ _)⟩)
      dsimp only [Pt.U, Pt.locs, Pt.cells, Pt.slots] at X134 l134 y134 z134 st134 hQ134
      subst l134 y134 z134
      obtain ⟨rfl, N134q, E134q⟩ := hQ134
      have N134 := Fr.app N94 N134q
      have K135 : Go p e below T134 (mkF m 46 #[.val (.int q), .val (.int (own_len q))] [(.int (own_c0 q)), (.int (0 : Int32)), (.ref b128), (.ref b128), (.ref b123), (.ref b123)]) G := fun tq kq => K133 tq (st134 tq kq)
      obtain ⟨cl136, Ar136, q136, S136, Nn136, Hh136, Gg136⟩ := id V128
      have hin136 : ¬ ((0 : Int32) < 0 ∨ cl136.slots.size ≤ ((0 : Int32)).toNatClampNeg) := inb_of S136 ⟨by decide, by decide⟩
      obtain ⟨T136, h136, X136, e136, W136, st136⟩ := stC X134 hx hZ E134q Ar136 (j := (0 : Int32)) hin136 (g := (mkF m 46 #[.val (.int q), .val (.int (own_len q))] [(.int (own_c0 q)), (.int (0 : Int32)), (.ref b128), (.ref b128), (.ref b123), (.ref b123)])) rfl rfl (hb hby d_method_6_46)
      rw [own_i0] at W136
      have V136 : Arv Z h136 b128 k128 .char (2 : Int32) [(.int (own_c0 q)), (.int (0 : Int32))] (.int (0 : Int32)) := Arv.set Ar136 q136 S136 Nn136 Hh136 Gg136 (fits_nar_char _) W136 0 rfl (Nat.le_of_ble_eq_true rfl)
      have N136 := Fr.snoc X136 N134 ge_b128
      have CR137 := CR129.trans (CHr.wr W136 (Safe.arv hZ.alike V128 (by decide)) CR129.1)
      have Sf137_b123 := Safe.wr W136 (Safe.arv hZ.alike V128 (by decide)) CR129.1 Sf129_b123
      have K138 : Go p e below T136 (mkF m 47 #[.val (.int q), .val (.int (own_len q))] [(.ref b128), (.ref b123), (.ref b123)]) G := fun tq kq => K135 tq (st136 tq kq)
      have K139 : Go p e below T136 (mkF m 48 #[.val (.int q), .val (.int (own_len q))] [(.ref b128), (.ref b128), (.ref b123), (.ref b123)]) G := fun tq kq => K138 tq (XS.dup X136.here hx rfl (hb hby d_method_6_47) rfl rfl kq)
      have K140 : Go p e below T136 (mkF m 49 #[.val (.int q), .val (.int (own_len q))] [(.int (1 : Int32)), (.ref b128), (.ref b128), (.ref b123), (.ref b123)]) G := fun tq kq => K139 tq (XS.iconst X136.here hx rfl (hb hby d_method_6_48) kq)
      have K141 : Go p e below T136 (mkF m 50 #[.val (.int q), .val (.int (own_len q))] [(.int q), (.int (1 : Int32)), (.ref b128), (.ref b128), (.ref b123), (.ref b123)]) G := fun tq kq => K140 tq (XS.iloadN X136.here hx rfl (hb hby d_method_6_49) rfl kq)
      obtain ⟨v142, _, ⟨T142, L142, k142, n142⟩, -, X142, ⟨Lc142, hQ142, l142, y142, z142⟩, st142⟩ := Jvm.LawKit.callS X136 hx (y := (⟨"com/example/kithmark/kithmark/params/PairHoldsPinLaw", "c1", "(I)C"⟩ : MethodName)) hown (mvT hZ (hW 67 _ rfl)) (mvT hZ (hW 68 _ rfl)) (mvT hZ (hW 2 _ rfl)) (mvT hZ (hW 69 _ rfl)) (by decide) (backOf (W := 5) (rmC1 l Z a0 hw [] q h136 n0 (Nat.le_trans (Nat.le_trans (Nat.le_trans Z0 E123.1) E128.1) (Keep.of_wr W136).1)) hZ (hW 69 _ rfl) (hW 2 _ rfl) (by decide) (by decide)) (g := (mkF m 50 #[.val (.int q), .val (.int (own_len q))] [(.int q), (.int (1 : Int32)), (.ref b128), (.ref b128), (.ref b123), (.ref b123)])) rfl (by rw [hml]; rfl) (argsL := [(.int q)]) (rest := [(.int (1 : Int32)), (.ref b128), (.ref b128), (.ref b123), (.ref b123)]) (lenOf pd_100 rfl) rfl (by show 2 * 0 + _ ≤ _; exact Nat.le_of_eq rfl) (hb hby d_method_6_50) (fun _ _ => ⟨rfl, e136, (by decide : 2 + 0 ≤ _), (by decide : 6 + 0 ≤ _)⟩)
      dsimp only [Pt.U, Pt.locs, Pt.cells, Pt.slots] at X142 l142 y142 z142 st142 hQ142
      subst l142 y142 z142
      obtain ⟨rfl, N142q, E142q⟩ := hQ142
      have N142 := Fr.app N136 N142q
      have K143 : Go p e below T142 (mkF m 53 #[.val (.int q), .val (.int (own_len q))] [(.int (own_c1 q)), (.int (1 : Int32)), (.ref b128), (.ref b128), (.ref b123), (.ref b123)]) G := fun tq kq => K141 tq (st142 tq kq)
      obtain ⟨cl144, Ar144, q144, S144, Nn144, Hh144, Gg144⟩ := id V136
      have hin144 : ¬ ((1 : Int32) < 0 ∨ cl144.slots.size ≤ ((1 : Int32)).toNatClampNeg) := inb_of S144 ⟨by decide, by decide⟩
      obtain ⟨T144, h144, X144, e144, W144, st144⟩ := stC X142 hx hZ E142q Ar144 (j := (1 : Int32)) hin144 (g := (mkF m 53 #[.val (.int q), .val (.int (own_len q))] [(.int (own_c1 q)), (.int (1 : Int32)), (.ref b128), (.ref b128), (.ref b123), (.ref b123)])) rfl rfl (hb hby d_method_6_53)
      rw [own_i1] at W144
      have V144 : Arv Z h144 b128 k128 .char (2 : Int32) [(.int (own_c0 q)), (.int (own_c1 q))] (.int (0 : Int32)) := Arv.set Ar144 q144 S144 Nn144 Hh144 Gg144 (fits_nar_char _) W144 1 rfl (Nat.le_of_ble_eq_true rfl)
      have N144 := Fr.snoc X144 N142 ge_b128
      have CR145 := CR137.trans (CHr.wr W144 (Safe.arv hZ.alike V136 (by decide)) CR137.1)
      have Sf145_b123 := Safe.wr W144 (Safe.arv hZ.alike V136 (by decide)) CR137.1 Sf137_b123
      have K146 : Go p e below T144 (mkF m 54 #[.val (.int q), .val (.int (own_len q))] [(.ref b128), (.ref b123), (.ref b123)]) G := fun tq kq => K143 tq (st144 tq kq)
      have hp147 : ∀ c ∈ ([(own_c0 q), (own_c1 q)] : List Int32), ¬ c < 0 ∧ ¬ (255 : Int32) < c := by
        intro c hc
        simp only [List.mem_cons, List.not_mem_nil, or_false] at hc
        rcases hc with rfl | rfl
        · exact own_p0 _
        · exact own_p1 _
      obtain ⟨v148, _, ⟨T148, L148, k148, n148⟩, -, X148, ⟨Lc148, hQ148, l148, y148, z148⟩, st148⟩ := X144.specialBack hx (y := (⟨"java/lang/String", "<init>", "([C)V"⟩ : MethodName)) rfl hown (mvT hZ (hW 11 _ rfl)) (mvT hZ (hW 12 _ rfl)) (mvT hZ (hW 13 _ rfl)) (by decide) (StrChars.Road.backV (W := 1) hZ hws (kI := 4) (hW 8 _ rfl) (cs := ([(own_c0 q), (own_c1 q)] : List Int32)) (bs := (([(own_c0 q), (own_c1 q)] : List Int32)).map (fun c => c.toInt8.toInt32)) (n := 2) ge_b123 (Nat.le_trans (Nat.le_trans (Nat.le_trans (Nat.le_trans Z0 E123.1) E128.1) (Keep.of_wr W136).1) (Keep.of_wr W144).1) (((A123.ext E128).wr W136).wr W144) (((F123_value.ext E128).other W136 (Or.inl ne128_b123)).other W144 (Or.inl ne128_b123)) (((F123_coder.ext E128).other W136 (Or.inl ne128_b123)).other W144 (Or.inl ne128_b123)) V144 (S_cs.ext ((((O0.ext E123).ext E128).wr W136 ge_b128).wr W144 ge_b128).2) hcz rfl rfl (by decide) (by decide) hp147 rfl (by decide) (by decide)) (g := (mkF m 54 #[.val (.int q), .val (.int (own_len q))] [(.ref b128), (.ref b123), (.ref b123)])) rfl (by rw [hml]; rfl) (Steps.refl _) (a := b123) (argsL := [(.ref b128)]) (rest := [(.ref b123)]) (lenOf pd_99 rfl) rfl (by show 2 * 0 + _ ≤ _; exact Nat.le_of_eq rfl) (hb hby d_method_6_54) (fun _ _ => ⟨rfl, e144, (by decide : 2 + 1 ≤ _), (by decide : 6 + 2 ≤ _)⟩)
      dsimp only [Pt.U, Pt.locs, Pt.cells, Pt.slots] at X148 l148 y148 z148 st148 hQ148
      subst l148 y148 z148
      obtain ⟨rfl, N148q, K148q, E148q, FC148q, t148, kb148, get148, szt148, net148, FV148q, VB148q⟩ := hQ148
      have N148 := Fr.app N144 N148q
      have CR149 := CR145.trans (CHr.keep K148q (sfS Sf145_b123 sf0) CR145.1)
      have Sf149_b123 := Safe.keep K148q (sfS Sf145_b123 sf0) CR145.1 Sf145_b123
      have K150 : Go p e below T148 (mkF m 57 #[.val (.int q), .val (.int (own_len q))] [(.ref b123)]) G := fun tq kq => K146 tq (st148.trans kq)
      obtain ⟨fs, hr, hrun, hended, hRE⟩ := X148.leaveW (s := s) hS0 (by first | exact (Nat.le_trans (Nat.le_trans (Nat.le_trans (Nat.le_trans (Nat.le_trans (Nat.zero_le _) E123.1) E128.1) (Keep.of_wr W136).1) (Keep.of_wr W144).1) K148q.1) | (rw [rfl]; exact (Nat.le_trans (Nat.le_trans (Nat.le_trans (Nat.le_trans (Nat.le_trans (Nat.zero_le _) E123.1) E128.1) (Keep.of_wr W136).1) (Keep.of_wr W144).1) K148q.1))) (v := some (.ref b123)) (fun h => by rw [Bd.returns] at h; cases h)
      have CRe := CR149.trans (CHv.at X148 hZ hEL CR149.1)
      refine ⟨_, _, hG _ (K150 _ (retOut X148 hx Bd.returns rfl (Or.inr (Or.inr (Or.inr (Or.inr ⟨rfl, rfl, rfl⟩)))) (hb hby d_method_6_57) hr)), hrun, hended, _, _, rfl, ?_, (by show CHr Z own_EL s.vm s.heap T148.vm T148.heap; rw [hh]; exact CRe), hRE.1, hRE.2.1, hRE.2.2.1, hRE.2.2.2.mono (by decide) (by decide)⟩
      show QMK Z q cz h0 n0 _ T148.heap _
      exact ⟨b123, t148, kb148, _, _, rfl, N148, ((((((Keep.refl h0 []).ext E123).ext E128).wr W136 (Or.inr sz_b128)).wr W144 (Or.inr sz_b128)).trans K148q (allS (Or.inr sz_b123) all0)), E148q, FV148q, FC148q, VB148q, by rw [own_cs]; simp only [hc98, hc114, if_true, if_false]; exact StrChars.Road.codOf (cs := ([(own_c0 q), (own_c1 q)] : List Int32)) rfl (fun c hc => (hp147 c hc).2)⟩
theorem ef_method_7_II (m : MethodId) (x0 : Int32) (x1 : Int32) : entryFrame m #[(.int x0), (.int x1)] 2 = mkF m 0 #[.val (.int x0), .val (.int x1)] [] := by first | (simp [entryFrame, mkF, argsToLocals, Value.category]; done) | rfl
theorem d_method_7_0 : decode method_7_code 0 = .ok (.iload_n 0, 1) := by decide +kernel
theorem d_method_7_1 : decode method_7_code 1 = .ok (.invokestatic 26, 3) := by decide +kernel
theorem d_method_7_4 : decode method_7_code 4 = .ok (.iload_n 1, 1) := by decide +kernel
theorem d_method_7_5 : decode method_7_code 5 = .ok (.invokestatic 26, 3) := by decide +kernel
theorem d_method_7_8 : decode method_7_code 8 = .ok (.if_icmp .eq 5, 3) := by decide +kernel
theorem d_method_7_11 : decode method_7_code 11 = .ok (.iconst 0, 1) := by decide +kernel
theorem d_method_7_12 : decode method_7_code 12 = .ok (.ireturn, 1) := by decide +kernel
theorem d_method_7_13 : decode method_7_code 13 = .ok (.iload_n 0, 1) := by decide +kernel
theorem d_method_7_14 : decode method_7_code 14 = .ok (.invokestatic 26, 3) := by decide +kernel
theorem d_method_7_17 : decode method_7_code 17 = .ok (.iconst 1, 1) := by decide +kernel
theorem d_method_7_18 : decode method_7_code 18 = .ok (.if_icmp .lt 16, 3) := by decide +kernel
theorem d_method_7_21 : decode method_7_code 21 = .ok (.iload_n 0, 1) := by decide +kernel
theorem d_method_7_22 : decode method_7_code 22 = .ok (.invokestatic 35, 3) := by decide +kernel
theorem d_method_7_25 : decode method_7_code 25 = .ok (.iload_n 1, 1) := by decide +kernel
theorem d_method_7_26 : decode method_7_code 26 = .ok (.invokestatic 35, 3) := by decide +kernel
theorem d_method_7_29 : decode method_7_code 29 = .ok (.if_icmp .eq 5, 3) := by decide +kernel
theorem d_method_7_32 : decode method_7_code 32 = .ok (.iconst 0, 1) := by decide +kernel
theorem d_method_7_33 : decode method_7_code 33 = .ok (.ireturn, 1) := by decide +kernel
theorem d_method_7_34 : decode method_7_code 34 = .ok (.iload_n 0, 1) := by decide +kernel
theorem d_method_7_35 : decode method_7_code 35 = .ok (.invokestatic 26, 3) := by decide +kernel
theorem d_method_7_38 : decode method_7_code 38 = .ok (.iconst 2, 1) := by decide +kernel
theorem d_method_7_39 : decode method_7_code 39 = .ok (.if_icmp .ne 16, 3) := by decide +kernel
theorem d_method_7_42 : decode method_7_code 42 = .ok (.iload_n 0, 1) := by decide +kernel
theorem d_method_7_43 : decode method_7_code 43 = .ok (.invokestatic 43, 3) := by decide +kernel
theorem d_method_7_46 : decode method_7_code 46 = .ok (.iload_n 1, 1) := by decide +kernel
theorem d_method_7_47 : decode method_7_code 47 = .ok (.invokestatic 43, 3) := by decide +kernel
theorem d_method_7_50 : decode method_7_code 50 = .ok (.if_icmp .eq 5, 3) := by decide +kernel
theorem d_method_7_53 : decode method_7_code 53 = .ok (.iconst 0, 1) := by decide +kernel
theorem d_method_7_54 : decode method_7_code 54 = .ok (.ireturn, 1) := by decide +kernel
theorem d_method_7_55 : decode method_7_code 55 = .ok (.iconst 1, 1) := by decide +kernel
theorem d_method_7_56 : decode method_7_code 56 = .ok (.ireturn, 1) := by decide +kernel
def QSM (Z : State) (x : Int32) (y : Int32) (h0 : Heap) (n0 : Nat) (v : Option Value) (h : Heap) (L : List Loc) : Prop := v = some (.int (if own_cs x = own_cs y then (1 : Int32) else 0)) ∧ Fr n0 L ∧ h = h0
set_option maxRecDepth 65536 in
set_option maxHeartbeats 40000000 in
theorem rmSM (l : Launch) (Z : State) (a0 : Array Value) (hw : ∀ d ∈ tables_1, d.before a0 Z = true) (ws : List Jvm.Cond) (x : Int32) (y : Int32) (h0 : Heap) (n0 : Nat) (Z0 : n0 ≤ h0.size) :
    MetFree l (⟨"com/example/kithmark/kithmark/params/PairHoldsPinLaw", "same", "(II)Z"⟩ : MethodName) (head1 (Jvm.Cond.code (⟨"com/example/kithmark/kithmark/params/PairHoldsPinLaw", "same", "(II)Z"⟩ : MethodName) method_7_code 2 (some .boolean) :: ws) ({ frames := 1, cells := 0, slots := 0, locals := 13 } : Room)) (fun aa UU => aa = #[(.int x), (.int y)] ∧ Z.Warmed39 UU.vm ∧ UU.heap = h0) (fun _ _ _ _ _ => True) (fun _ UU oo UU' => ∃ vv LL, oo = .returned vv ∧ QSM Z x y h0 n0 vv UU'.heap LL ∧ FrameEnd UU oo UU' LL ({ frames := 1, cells := 0, slots := 0, locals := 13 } : Room).cells ({ frames := 1, cells := 0, slots := 0, locals := 13 } : Room).slots) := by
  refine MetFree.of_bodySF (plainFor_of_name pn_30) hisR ?_
  intro p e s m args below meth c s₁ Bd hml0 hP hK
  obtain ⟨rfl, hZ, hh⟩ := hP
  have hx := Bd.exec
  have hby := Bd.bytes
  have hml : c.maxLocals = 2 := hml0
  have hown : s.vm.findClass "com/example/kithmark/kithmark/params/PairHoldsPinLaw" = some m.cls := findClass_of_methodNamed Bd.named
  have hnm := (name_of_methodNamed Bd.named Bd.method).1
  have hW : ∀ (k : Nat) (d : Jvm.Cond), tables_1[k]? = some d → d.before a0 Z = true := fun k d h => hw d (List.mem_of_getElem? h)
  have X0 : Stand p l e ({ frames := 1, cells := 0, slots := 0, locals := 13 } : Room) s m #[(.int x), (.int y)] below meth c s₁ [] 0 0 := Stand.of_body Bd
  have e0 : s₁.heap = h0 := by rw [← hh, Bd.state]; rfl
  have N0 := Fr.nil n0
  obtain ⟨G, hG, K0⟩ : ∃ G : State → Prop, (∀ tq, G tq → Steps p.tables e below (s₁.setTop (entryFrame m #[(.int x), (.int y)] 2)) tq) ∧ Go p e below s₁ (mkF m 0 #[.val (.int x), .val (.int y)] []) G := ⟨fun tq => Steps p.tables e below (s₁.setTop (entryFrame m #[(.int x), (.int y)] 2)) tq, fun _ h => h, fun tq kq => castTop (ef_method_7_II m x y) kq⟩
  have K151 : Go p e below s₁ (mkF m 1 #[.val (.int x), .val (.int y)] [(.int x)]) G := fun tq kq => K0 tq (XS.iloadN X0.here hx rfl (hb hby d_method_7_0) rfl kq)
  obtain ⟨v152, _, ⟨T152, L152, k152, n152⟩, -, X152, ⟨Lc152, hQ152, l152, y152, z152⟩, st152⟩ := Jvm.LawKit.callS X0 hx (y := (⟨"com/example/kithmark/kithmark/params/PairHoldsPinLaw", "len", "(I)I"⟩ : MethodName)) hown (mvT hZ (hW 4 _ rfl)) (mvT hZ (hW 5 _ rfl)) (mvT hZ (hW 2 _ rfl)) (mvT hZ (hW 6 _ rfl)) (by decide) (backOf (W := 0) (rmLen l Z a0 hw [] x h0 n0 Z0) hZ (hW 6 _ rfl) (hW 2 _ rfl) (by decide) (by decide)) (g := (mkF m 1 #[.val (.int x), .val (.int y)] [(.int x)])) rfl (by rw [hml]; rfl) (argsL := [(.int x)]) (rest := []) (lenOf pd_98 rfl) rfl (by show 2 * 0 + _ ≤ _; exact Nat.le_of_eq rfl) (hb hby d_method_7_1) (fun _ _ => ⟨rfl, e0, (by decide : 0 + 0 ≤ _), (by decide : 0 + 0 ≤ _)⟩)
  dsimp only [Pt.U, Pt.locs, Pt.cells, Pt.slots] at X152 l152 y152 z152 st152 hQ152
  subst l152 y152 z152
  obtain ⟨rfl, N152q, E152q⟩ := hQ152
  have N152 := Fr.app N0 N152q
  have K153 : Go p e below T152 (mkF m 4 #[.val (.int x), .val (.int y)] [(.int (own_len x))]) G := fun tq kq => K151 tq (st152 tq kq)
  have K154 : Go p e below T152 (mkF m 5 #[.val (.int x), .val (.int y)] [(.int y), (.int (own_len x))]) G := fun tq kq => K153 tq (XS.iloadN X152.here hx rfl (hb hby d_method_7_4) rfl kq)
  obtain ⟨v155, _, ⟨T155, L155, k155, n155⟩, -, X155, ⟨Lc155, hQ155, l155, y155, z155⟩, st155⟩ := Jvm.LawKit.callS X152 hx (y := (⟨"com/example/kithmark/kithmark/params/PairHoldsPinLaw", "len", "(I)I"⟩ : MethodName)) hown (mvT hZ (hW 4 _ rfl)) (mvT hZ (hW 5 _ rfl)) (mvT hZ (hW 2 _ rfl)) (mvT hZ (hW 6 _ rfl)) (by decide) (backOf (W := 1) (rmLen l Z a0 hw [] y h0 n0 Z0) hZ (hW 6 _ rfl) (hW 2 _ rfl) (by decide) (by decide)) (g := (mkF m 5 #[.val (.int x), .val (.int y)] [(.int y), (.int (own_len x))])) rfl (by rw [hml]; rfl) (argsL := [(.int y)]) (rest := [(.int (own_len x))]) (lenOf pd_98 rfl) rfl (by show 2 * 0 + _ ≤ _; exact Nat.le_of_eq rfl) (hb hby d_method_7_5) (fun _ _ => ⟨rfl, E152q, (by decide : 0 + 0 ≤ _), (by decide : 0 + 0 ≤ _)⟩)
  dsimp only [Pt.U, Pt.locs, Pt.cells, Pt.slots] at X155 l155 y155 z155 st155 hQ155
  subst l155 y155 z155
  obtain ⟨rfl, N155q, E155q⟩ := hQ155
  have N155 := Fr.app N152 N155q
  have K156 : Go p e below T155 (mkF m 8 #[.val (.int x), .val (.int y)] [(.int (own_len y)), (.int (own_len x))]) G := fun tq kq => K154 tq (st155 tq kq)
  by_cases hc157 : (own_len x) = (own_len y)
  · skip
    have K158 : Go p e below T155 (mkF m 13 #[.val (.int x), .val (.int y)] []) G := fun tq kq => K156 tq (XS.icmpYes X155.here hx rfl (pc0 := 8) (pc' := 13) rfl (hb hby d_method_7_8) rfl ((teq hc157).1) (by decide) (by decide) kq)
    have K159 : Go p e below T155 (mkF m 14 #[.val (.int x), .val (.int y)] [(.int x)]) G := fun tq kq => K158 tq (XS.iloadN X155.here hx rfl (hb hby d_method_7_13) rfl kq)
    obtain ⟨v160, _, ⟨T160, L160, k160, n160⟩, -, X160, ⟨Lc160, hQ160, l160, y160, z160⟩, st160⟩ := Jvm.LawKit.callS X155 hx (y := (⟨"com/example/kithmark/kithmark/params/PairHoldsPinLaw", "len", "(I)I"⟩ : MethodName)) hown (mvT hZ (hW 4 _ rfl)) (mvT hZ (hW 5 _ rfl)) (mvT hZ (hW 2 _ rfl)) (mvT hZ (hW 6 _ rfl)) (by decide) (backOf (W := 0) (rmLen l Z a0 hw [] x h0 n0 Z0) hZ (hW 6 _ rfl) (hW 2 _ rfl) (by decide) (by decide)) (g := (mkF m 14 #[.val (.int x), .val (.int y)] [(.int x)])) rfl (by rw [hml]; rfl) (argsL := [(.int x)]) (rest := []) (lenOf pd_98 rfl) rfl (by show 2 * 0 + _ ≤ _; exact Nat.le_of_eq rfl) (hb hby d_method_7_14) (fun _ _ => ⟨rfl, E155q, (by decide : 0 + 0 ≤ _), (by decide : 0 + 0 ≤ _)⟩)
    dsimp only [Pt.U, Pt.locs, Pt.cells, Pt.slots] at X160 l160 y160 z160 st160 hQ160
    subst l160 y160 z160
    obtain ⟨rfl, N160q, E160q⟩ := hQ160
    have N160 := Fr.app N155 N160q
    have K161 : Go p e below T160 (mkF m 17 #[.val (.int x), .val (.int y)] [(.int (own_len x))]) G := fun tq kq => K159 tq (st160 tq kq)
    have K162 : Go p e below T160 (mkF m 18 #[.val (.int x), .val (.int y)] [(.int (1 : Int32)), (.int (own_len x))]) G := fun tq kq => K161 tq (XS.iconst X160.here hx rfl (hb hby d_method_7_17) kq)
    by_cases hc163 : (own_len x) < (1 : Int32)
    · skip
      have K164 : Go p e below T160 (mkF m 34 #[.val (.int x), .val (.int y)] []) G := fun tq kq => K162 tq (XS.icmpYes X160.here hx rfl (pc0 := 18) (pc' := 34) rfl (hb hby d_method_7_18) rfl ((tlt hc163).1) (by decide) (by decide) kq)
      have K165 : Go p e below T160 (mkF m 35 #[.val (.int x), .val (.int y)] [(.int x)]) G := fun tq kq => K164 tq (XS.iloadN X160.here hx rfl (hb hby d_method_7_34) rfl kq)
      obtain ⟨v166, _, ⟨T166, L166, k166, n166⟩, -, X166, ⟨Lc166, hQ166, l166, y166, z166⟩, st166⟩ := Jvm.LawKit.callS X160 hx (y := (⟨"com/example/kithmark/kithmark/params/PairHoldsPinLaw", "len", "(I)I"⟩ : MethodName)) hown (mvT hZ (hW 4 _ rfl)) (mvT hZ (hW 5 _ rfl)) (mvT hZ (hW 2 _ rfl)) (mvT hZ (hW 6 _ rfl)) (by decide) (backOf (W := 0) (rmLen l Z a0 hw [] x h0 n0 Z0) hZ (hW 6 _ rfl) (hW 2 _ rfl) (by decide) (by decide)) (g := (mkF m 35 #[.val (.int x), .val (.int y)] [(.int x)])) rfl (by rw [hml]; rfl) (argsL := [(.int x)]) (rest := []) (lenOf pd_98 rfl) rfl (by show 2 * 0 + _ ≤ _; exact Nat.le_of_eq rfl) (hb hby d_method_7_35) (fun _ _ => ⟨rfl, E160q, (by decide : 0 + 0 ≤ _), (by decide : 0 + 0 ≤ _)⟩)
      dsimp only [Pt.U, Pt.locs, Pt.cells, Pt.slots] at X166 l166 y166 z166 st166 hQ166
      subst l166 y166 z166
      obtain ⟨rfl, N166q, E166q⟩ := hQ166
      have N166 := Fr.app N160 N166q
      have K167 : Go p e below T166 (mkF m 38 #[.val (.int x), .val (.int y)] [(.int (own_len x))]) G := fun tq kq => K165 tq (st166 tq kq)
      have K168 : Go p e below T166 (mkF m 39 #[.val (.int x), .val (.int y)] [(.int (2 : Int32)), (.int (own_len x))]) G := fun tq kq => K167 tq (XS.iconst X166.here hx rfl (hb hby d_method_7_38) kq)
      by_cases hc169 : (own_len x) = (2 : Int32)
      · skip
        have K170 : Go p e below T166 (mkF m 42 #[.val (.int x), .val (.int y)] []) G := fun tq kq => K168 tq (XS.icmpNo X166.here hx rfl (hb hby d_method_7_39) rfl ((teq hc169).2) kq)
        have K171 : Go p e below T166 (mkF m 43 #[.val (.int x), .val (.int y)] [(.int x)]) G := fun tq kq => K170 tq (XS.iloadN X166.here hx rfl (hb hby d_method_7_42) rfl kq)
        obtain ⟨v172, _, ⟨T172, L172, k172, n172⟩, -, X172, ⟨Lc172, hQ172, l172, y172, z172⟩, st172⟩ := Jvm.LawKit.callS X166 hx (y := (⟨"com/example/kithmark/kithmark/params/PairHoldsPinLaw", "c1", "(I)C"⟩ : MethodName)) hown (mvT hZ (hW 67 _ rfl)) (mvT hZ (hW 68 _ rfl)) (mvT hZ (hW 2 _ rfl)) (mvT hZ (hW 69 _ rfl)) (by decide) (backOf (W := 0) (rmC1 l Z a0 hw [] x h0 n0 Z0) hZ (hW 69 _ rfl) (hW 2 _ rfl) (by decide) (by decide)) (g := (mkF m 43 #[.val (.int x), .val (.int y)] [(.int x)])) rfl (by rw [hml]; rfl) (argsL := [(.int x)]) (rest := []) (lenOf pd_100 rfl) rfl (by show 2 * 0 + _ ≤ _; exact Nat.le_of_eq rfl) (hb hby d_method_7_43) (fun _ _ => ⟨rfl, E166q, (by decide : 0 + 0 ≤ _), (by decide : 0 + 0 ≤ _)⟩)
        dsimp only [Pt.U, Pt.locs, Pt.cells, Pt.slots] at X172 l172 y172 z172 st172 hQ172
        subst l172 y172 z172
        obtain ⟨rfl, N172q, E172q⟩ := hQ172
        have N172 := Fr.app N166 N172q
        have K173 : Go p e below T172 (mkF m 46 #[.val (.int x), .val (.int y)] [(.int (own_c1 x))]) G := fun tq kq => K171 tq (st172 tq kq)
        have K174 : Go p e below T172 (mkF m 47 #[.val (.int x), .val (.int y)] [(.int y), (.int (own_c1 x))]) G := fun tq kq => K173 tq (XS.iloadN X172.here hx rfl (hb hby d_method_7_46) rfl kq)
        obtain ⟨v175, _, ⟨T175, L175, k175, n175⟩, -, X175, ⟨Lc175, hQ175, l175, y175, z175⟩, st175⟩ := Jvm.LawKit.callS X172 hx (y := (⟨"com/example/kithmark/kithmark/params/PairHoldsPinLaw", "c1", "(I)C"⟩ : MethodName)) hown (mvT hZ (hW 67 _ rfl)) (mvT hZ (hW 68 _ rfl)) (mvT hZ (hW 2 _ rfl)) (mvT hZ (hW 69 _ rfl)) (by decide) (backOf (W := 1) (rmC1 l Z a0 hw [] y h0 n0 Z0) hZ (hW 69 _ rfl) (hW 2 _ rfl) (by decide) (by decide)) (g := (mkF m 47 #[.val (.int x), .val (.int y)] [(.int y), (.int (own_c1 x))])) rfl (by rw [hml]; rfl) (argsL := [(.int y)]) (rest := [(.int (own_c1 x))]) (lenOf pd_100 rfl) rfl (by show 2 * 0 + _ ≤ _; exact Nat.le_of_eq rfl) (hb hby d_method_7_47) (fun _ _ => ⟨rfl, E172q, (by decide : 0 + 0 ≤ _), (by decide : 0 + 0 ≤ _)⟩)
        dsimp only [Pt.U, Pt.locs, Pt.cells, Pt.slots] at X175 l175 y175 z175 st175 hQ175
        subst l175 y175 z175
        obtain ⟨rfl, N175q, E175q⟩ := hQ175
        have N175 := Fr.app N172 N175q
        have K176 : Go p e below T175 (mkF m 50 #[.val (.int x), .val (.int y)] [(.int (own_c1 y)), (.int (own_c1 x))]) G := fun tq kq => K174 tq (st175 tq kq)
        by_cases hc177 : (own_c1 x) = (own_c1 y)
        · skip
          have K178 : Go p e below T175 (mkF m 55 #[.val (.int x), .val (.int y)] []) G := fun tq kq => K176 tq (XS.icmpYes X175.here hx rfl (pc0 := 50) (pc' := 55) rfl (hb hby d_method_7_50) rfl ((teq hc177).1) (by decide) (by decide) kq)
          have K179 : Go p e below T175 (mkF m 56 #[.val (.int x), .val (.int y)] [(.int (1 : Int32))]) G := fun tq kq => K178 tq (XS.iconst X175.here hx rfl (hb hby d_method_7_55) kq)
          obtain ⟨fs, hr, hrun, hended, hWW, hsame⟩ := X175.leave (v := some (.int (1 : Int32))) (fun h => by rw [Bd.returns] at h; cases h)
          refine ⟨_, _, hG _ (K179 _ (retN X175 hx (t := .boolean) Bd.returns (by simp) (hb hby d_method_7_56) hr)), hrun, hended, _, _, rfl, ?_, ⟨_, rfl⟩, hWW, hsame.mono (by decide) (by decide)⟩
          show QSM Z x y h0 n0 _ T175.heap _
          rw [E175q]
          exact ⟨by rw [if_pos ((own_sp x y).mp ⟨hc157, Or.inl hc163, Or.inr hc177⟩)], N175, rfl⟩
        · skip
          have K180 : Go p e below T175 (mkF m 53 #[.val (.int x), .val (.int y)] []) G := fun tq kq => K176 tq (XS.icmpNo X175.here hx rfl (hb hby d_method_7_50) rfl ((feq hc177).1) kq)
          have K181 : Go p e below T175 (mkF m 54 #[.val (.int x), .val (.int y)] [(.int (0 : Int32))]) G := fun tq kq => K180 tq (XS.iconst X175.here hx rfl (hb hby d_method_7_53) kq)
          obtain ⟨fs, hr, hrun, hended, hWW, hsame⟩ := X175.leave (v := some (.int (0 : Int32))) (fun h => by rw [Bd.returns] at h; cases h)
          refine ⟨_, _, hG _ (K181 _ (retN X175 hx (t := .boolean) Bd.returns (by simp) (hb hby d_method_7_54) hr)), hrun, hended, _, _, rfl, ?_, ⟨_, rfl⟩, hWW, hsame.mono (by decide) (by decide)⟩
          show QSM Z x y h0 n0 _ T175.heap _
          rw [E175q]
          exact ⟨by rw [if_neg (fun z => ((own_sp x y).mpr z).2.2.elim (fun w => w hc169) hc177)], N175, rfl⟩
      · skip
        have K182 : Go p e below T166 (mkF m 55 #[.val (.int x), .val (.int y)] []) G := fun tq kq => K168 tq (XS.icmpYes X166.here hx rfl (pc0 := 39) (pc' := 55) rfl (hb hby d_method_7_39) rfl ((feq hc169).2) (by decide) (by decide) kq)
        have K183 : Go p e below T166 (mkF m 56 #[.val (.int x), .val (.int y)] [(.int (1 : Int32))]) G := fun tq kq => K182 tq (XS.iconst X166.here hx rfl (hb hby d_method_7_55) kq)
        obtain ⟨fs, hr, hrun, hended, hWW, hsame⟩ := X166.leave (v := some (.int (1 : Int32))) (fun h => by rw [Bd.returns] at h; cases h)
        refine ⟨_, _, hG _ (K183 _ (retN X166 hx (t := .boolean) Bd.returns (by simp) (hb hby d_method_7_56) hr)), hrun, hended, _, _, rfl, ?_, ⟨_, rfl⟩, hWW, hsame.mono (by decide) (by decide)⟩
        show QSM Z x y h0 n0 _ T166.heap _
        rw [E166q]
        exact ⟨by rw [if_pos ((own_sp x y).mp ⟨hc157, Or.inl hc163, Or.inl hc169⟩)], N166, rfl⟩
    · skip
      have K184 : Go p e below T160 (mkF m 21 #[.val (.int x), .val (.int y)] []) G := fun tq kq => K162 tq (XS.icmpNo X160.here hx rfl (hb hby d_method_7_18) rfl ((flt hc163).1) kq)
      have K185 : Go p e below T160 (mkF m 22 #[.val (.int x), .val (.int y)] [(.int x)]) G := fun tq kq => K184 tq (XS.iloadN X160.here hx rfl (hb hby d_method_7_21) rfl kq)
      obtain ⟨v186, _, ⟨T186, L186, k186, n186⟩, -, X186, ⟨Lc186, hQ186, l186, y186, z186⟩, st186⟩ := Jvm.LawKit.callS X160 hx (y := (⟨"com/example/kithmark/kithmark/params/PairHoldsPinLaw", "c0", "(I)C"⟩ : MethodName)) hown (mvT hZ (hW 64 _ rfl)) (mvT hZ (hW 65 _ rfl)) (mvT hZ (hW 2 _ rfl)) (mvT hZ (hW 66 _ rfl)) (by decide) (backOf (W := 0) (rmC0 l Z a0 hw [] x h0 n0 Z0) hZ (hW 66 _ rfl) (hW 2 _ rfl) (by decide) (by decide)) (g := (mkF m 22 #[.val (.int x), .val (.int y)] [(.int x)])) rfl (by rw [hml]; rfl) (argsL := [(.int x)]) (rest := []) (lenOf pd_100 rfl) rfl (by show 2 * 0 + _ ≤ _; exact Nat.le_of_eq rfl) (hb hby d_method_7_22) (fun _ _ => ⟨rfl, E160q, (by decide : 0 + 0 ≤ _), (by decide : 0 + 0 ≤ _)⟩)
      dsimp only [Pt.U, Pt.locs, Pt.cells, Pt.slots] at X186 l186 y186 z186 st186 hQ186
      subst l186 y186 z186
      obtain ⟨rfl, N186q, E186q⟩ := hQ186
      have N186 := Fr.app N160 N186q
      have K187 : Go p e below T186 (mkF m 25 #[.val (.int x), .val (.int y)] [(.int (own_c0 x))]) G := fun tq kq => K185 tq (st186 tq kq)
      have K188 : Go p e below T186 (mkF m 26 #[.val (.int x), .val (.int y)] [(.int y), (.int (own_c0 x))]) G := fun tq kq => K187 tq (XS.iloadN X186.here hx rfl (hb hby d_method_7_25) rfl kq)
      obtain ⟨v189, _, ⟨T189, L189, k189, n189⟩, -, X189, ⟨Lc189, hQ189, l189, y189, z189⟩, st189⟩ := Jvm.LawKit.callS X186 hx (y := (⟨"com/example/kithmark/kithmark/params/PairHoldsPinLaw", "c0", "(I)C"⟩ : MethodName)) hown (mvT hZ (hW 64 _ rfl)) (mvT hZ (hW 65 _ rfl)) (mvT hZ (hW 2 _ rfl)) (mvT hZ (hW 66 _ rfl)) (by decide) (backOf (W := 1) (rmC0 l Z a0 hw [] y h0 n0 Z0) hZ (hW 66 _ rfl) (hW 2 _ rfl) (by decide) (by decide)) (g := (mkF m 26 #[.val (.int x), .val (.int y)] [(.int y), (.int (own_c0 x))])) rfl (by rw [hml]; rfl) (argsL := [(.int y)]) (rest := [(.int (own_c0 x))]) (lenOf pd_100 rfl) rfl (by show 2 * 0 + _ ≤ _; exact Nat.le_of_eq rfl) (hb hby d_method_7_26) (fun _ _ => ⟨rfl, E186q, (by decide : 0 + 0 ≤ _), (by decide : 0 + 0 ≤ _)⟩)
      dsimp only [Pt.U, Pt.locs, Pt.cells, Pt.slots] at X189 l189 y189 z189 st189 hQ189
      subst l189 y189 z189
      obtain ⟨rfl, N189q, E189q⟩ := hQ189
      have N189 := Fr.app N186 N189q
      have K190 : Go p e below T189 (mkF m 29 #[.val (.int x), .val (.int y)] [(.int (own_c0 y)), (.int (own_c0 x))]) G := fun tq kq => K188 tq (st189 tq kq)
      by_cases hc191 : (own_c0 x) = (own_c0 y)
      · skip
        have K192 : Go p e below T189 (mkF m 34 #[.val (.int x), .val (.int y)] []) G := fun tq kq => K190 tq (XS.icmpYes X189.here hx rfl (pc0 := 29) (pc' := 34) rfl (hb hby d_method_7_29) rfl ((teq hc191).1) (by decide) (by decide) kq)
        have K193 : Go p e below T189 (mkF m 35 #[.val (.int x), .val (.int y)] [(.int x)]) G := fun tq kq => K192 tq (XS.iloadN X189.here hx rfl (hb hby d_method_7_34) rfl kq)
        obtain ⟨v194, _, ⟨T194, L194, k194, n194⟩, -, X194, ⟨Lc194, hQ194, l194, y194, z194⟩, st194⟩ := Jvm.LawKit.callS X189 hx (y := (⟨"com/example/kithmark/kithmark/params/PairHoldsPinLaw", "len", "(I)I"⟩ : MethodName)) hown (mvT hZ (hW 4 _ rfl)) (mvT hZ (hW 5 _ rfl)) (mvT hZ (hW 2 _ rfl)) (mvT hZ (hW 6 _ rfl)) (by decide) (backOf (W := 0) (rmLen l Z a0 hw [] x h0 n0 Z0) hZ (hW 6 _ rfl) (hW 2 _ rfl) (by decide) (by decide)) (g := (mkF m 35 #[.val (.int x), .val (.int y)] [(.int x)])) rfl (by rw [hml]; rfl) (argsL := [(.int x)]) (rest := []) (lenOf pd_98 rfl) rfl (by show 2 * 0 + _ ≤ _; exact Nat.le_of_eq rfl) (hb hby d_method_7_35) (fun _ _ => ⟨rfl, E189q, (by decide : 0 + 0 ≤ _), (by decide : 0 + 0 ≤ _)⟩)
        dsimp only [Pt.U, Pt.locs, Pt.cells, Pt.slots] at X194 l194 y194 z194 st194 hQ194
        subst l194 y194 z194
        obtain ⟨rfl, N194q, E194q⟩ := hQ194
        have N194 := Fr.app N189 N194q
        have K195 : Go p e below T194 (mkF m 38 #[.val (.int x), .val (.int y)] [(.int (own_len x))]) G := fun tq kq => K193 tq (st194 tq kq)
        have K196 : Go p e below T194 (mkF m 39 #[.val (.int x), .val (.int y)] [(.int (2 : Int32)), (.int (own_len x))]) G := fun tq kq => K195 tq (XS.iconst X194.here hx rfl (hb hby d_method_7_38) kq)
        by_cases hc197 : (own_len x) = (2 : Int32)
        · skip
          have K198 : Go p e below T194 (mkF m 42 #[.val (.int x), .val (.int y)] []) G := fun tq kq => K196 tq (XS.icmpNo X194.here hx rfl (hb hby d_method_7_39) rfl ((teq hc197).2) kq)
          have K199 : Go p e below T194 (mkF m 43 #[.val (.int x), .val (.int y)] [(.int x)]) G := fun tq kq => K198 tq (XS.iloadN X194.here hx rfl (hb hby d_method_7_42) rfl kq)
          obtain ⟨v200, _, ⟨T200, L200, k200, n200⟩, -, X200, ⟨Lc200, hQ200, l200, y200, z200⟩, st200⟩ := Jvm.LawKit.callS X194 hx (y := (⟨"com/example/kithmark/kithmark/params/PairHoldsPinLaw", "c1", "(I)C"⟩ : MethodName)) hown (mvT hZ (hW 67 _ rfl)) (mvT hZ (hW 68 _ rfl)) (mvT hZ (hW 2 _ rfl)) (mvT hZ (hW 69 _ rfl)) (by decide) (backOf (W := 0) (rmC1 l Z a0 hw [] x h0 n0 Z0) hZ (hW 69 _ rfl) (hW 2 _ rfl) (by decide) (by decide)) (g := (mkF m 43 #[.val (.int x), .val (.int y)] [(.int x)])) rfl (by rw [hml]; rfl) (argsL := [(.int x)]) (rest := []) (lenOf pd_100 rfl) rfl (by show 2 * 0 + _ ≤ _; exact Nat.le_of_eq rfl) (hb hby d_method_7_43) (fun _ _ => ⟨rfl, E194q, (by decide : 0 + 0 ≤ _), (by decide : 0 + 0 ≤ _)⟩)
          dsimp only [Pt.U, Pt.locs, Pt.cells, Pt.slots] at X200 l200 y200 z200 st200 hQ200
          subst l200 y200 z200
          obtain ⟨rfl, N200q, E200q⟩ := hQ200
          have N200 := Fr.app N194 N200q
          have K201 : Go p e below T200 (mkF m 46 #[.val (.int x), .val (.int y)] [(.int (own_c1 x))]) G := fun tq kq => K199 tq (st200 tq kq)
          have K202 : Go p e below T200 (mkF m 47 #[.val (.int x), .val (.int y)] [(.int y), (.int (own_c1 x))]) G := fun tq kq => K201 tq (XS.iloadN X200.here hx rfl (hb hby d_method_7_46) rfl kq)
          obtain ⟨v203, _, ⟨T203, L203, k203, n203⟩, -, X203, ⟨Lc203, hQ203, l203, y203, z203⟩, st203⟩ := Jvm.LawKit.callS X200 hx (y := (⟨"com/example/kithmark/kithmark/params/PairHoldsPinLaw", "c1", "(I)C"⟩ : MethodName)) hown (mvT hZ (hW 67 _ rfl)) (mvT hZ (hW 68 _ rfl)) (mvT hZ (hW 2 _ rfl)) (mvT hZ (hW 69 _ rfl)) (by decide) (backOf (W := 1) (rmC1 l Z a0 hw [] y h0 n0 Z0) hZ (hW 69 _ rfl) (hW 2 _ rfl) (by decide) (by decide)) (g := (mkF m 47 #[.val (.int x), .val (.int y)] [(.int y), (.int (own_c1 x))])) rfl (by rw [hml]; rfl) (argsL := [(.int y)]) (rest := [(.int (own_c1 x))]) (lenOf pd_100 rfl) rfl (by show 2 * 0 + _ ≤ _; exact Nat.le_of_eq rfl) (hb hby d_method_7_47) (fun _ _ => ⟨rfl, E200q, (by decide : 0 + 0 ≤ _), (by decide : 0 + 0 ≤ _)⟩)
          dsimp only [Pt.U, Pt.locs, Pt.cells, Pt.slots] at X203 l203 y203 z203 st203 hQ203
          subst l203 y203 z203
          obtain ⟨rfl, N203q, E203q⟩ := hQ203
          have N203 := Fr.app N200 N203q
          have K204 : Go p e below T203 (mkF m 50 #[.val (.int x), .val (.int y)] [(.int (own_c1 y)), (.int (own_c1 x))]) G := fun tq kq => K202 tq (st203 tq kq)
          by_cases hc205 : (own_c1 x) = (own_c1 y)
          · skip
            have K206 : Go p e below T203 (mkF m 55 #[.val (.int x), .val (.int y)] []) G := fun tq kq => K204 tq (XS.icmpYes X203.here hx rfl (pc0 := 50) (pc' := 55) rfl (hb hby d_method_7_50) rfl ((teq hc205).1) (by decide) (by decide) kq)
            have K207 : Go p e below T203 (mkF m 56 #[.val (.int x), .val (.int y)] [(.int (1 : Int32))]) G := fun tq kq => K206 tq (XS.iconst X203.here hx rfl (hb hby d_method_7_55) kq)
            obtain ⟨fs, hr, hrun, hended, hWW, hsame⟩ := X203.leave (v := some (.int (1 : Int32))) (fun h => by rw [Bd.returns] at h; cases h)
            refine ⟨_, _, hG _ (K207 _ (retN X203 hx (t := .boolean) Bd.returns (by simp) (hb hby d_method_7_56) hr)), hrun, hended, _, _, rfl, ?_, ⟨_, rfl⟩, hWW, hsame.mono (by decide) (by decide)⟩
            show QSM Z x y h0 n0 _ T203.heap _
            rw [E203q]
            exact ⟨by rw [if_pos ((own_sp x y).mp ⟨hc157, Or.inr hc191, Or.inr hc205⟩)], N203, rfl⟩
          · skip
            have K208 : Go p e below T203 (mkF m 53 #[.val (.int x), .val (.int y)] []) G := fun tq kq => K204 tq (XS.icmpNo X203.here hx rfl (hb hby d_method_7_50) rfl ((feq hc205).1) kq)
            have K209 : Go p e below T203 (mkF m 54 #[.val (.int x), .val (.int y)] [(.int (0 : Int32))]) G := fun tq kq => K208 tq (XS.iconst X203.here hx rfl (hb hby d_method_7_53) kq)
            obtain ⟨fs, hr, hrun, hended, hWW, hsame⟩ := X203.leave (v := some (.int (0 : Int32))) (fun h => by rw [Bd.returns] at h; cases h)
            refine ⟨_, _, hG _ (K209 _ (retN X203 hx (t := .boolean) Bd.returns (by simp) (hb hby d_method_7_54) hr)), hrun, hended, _, _, rfl, ?_, ⟨_, rfl⟩, hWW, hsame.mono (by decide) (by decide)⟩
            show QSM Z x y h0 n0 _ T203.heap _
            rw [E203q]
            exact ⟨by rw [if_neg (fun z => ((own_sp x y).mpr z).2.2.elim (fun w => w hc197) hc205)], N203, rfl⟩
        · skip
          have K210 : Go p e below T194 (mkF m 55 #[.val (.int x), .val (.int y)] []) G := fun tq kq => K196 tq (XS.icmpYes X194.here hx rfl (pc0 := 39) (pc' := 55) rfl (hb hby d_method_7_39) rfl ((feq hc197).2) (by decide) (by decide) kq)
          have K211 : Go p e below T194 (mkF m 56 #[.val (.int x), .val (.int y)] [(.int (1 : Int32))]) G := fun tq kq => K210 tq (XS.iconst X194.here hx rfl (hb hby d_method_7_55) kq)
          obtain ⟨fs, hr, hrun, hended, hWW, hsame⟩ := X194.leave (v := some (.int (1 : Int32))) (fun h => by rw [Bd.returns] at h; cases h)
          refine ⟨_, _, hG _ (K211 _ (retN X194 hx (t := .boolean) Bd.returns (by simp) (hb hby d_method_7_56) hr)), hrun, hended, _, _, rfl, ?_, ⟨_, rfl⟩, hWW, hsame.mono (by decide) (by decide)⟩
          show QSM Z x y h0 n0 _ T194.heap _
          rw [E194q]
          exact ⟨by rw [if_pos ((own_sp x y).mp ⟨hc157, Or.inr hc191, Or.inl hc197⟩)], N194, rfl⟩
      · skip
        have K212 : Go p e below T189 (mkF m 32 #[.val (.int x), .val (.int y)] []) G := fun tq kq => K190 tq (XS.icmpNo X189.here hx rfl (hb hby d_method_7_29) rfl ((feq hc191).1) kq)
        have K213 : Go p e below T189 (mkF m 33 #[.val (.int x), .val (.int y)] [(.int (0 : Int32))]) G := fun tq kq => K212 tq (XS.iconst X189.here hx rfl (hb hby d_method_7_32) kq)
        obtain ⟨fs, hr, hrun, hended, hWW, hsame⟩ := X189.leave (v := some (.int (0 : Int32))) (fun h => by rw [Bd.returns] at h; cases h)
        refine ⟨_, _, hG _ (K213 _ (retN X189 hx (t := .boolean) Bd.returns (by simp) (hb hby d_method_7_33) hr)), hrun, hended, _, _, rfl, ?_, ⟨_, rfl⟩, hWW, hsame.mono (by decide) (by decide)⟩
        show QSM Z x y h0 n0 _ T189.heap _
        rw [E189q]
        exact ⟨by rw [if_neg (fun z => ((own_sp x y).mpr z).2.1.elim hc163 hc191)], N189, rfl⟩
  · skip
    have K214 : Go p e below T155 (mkF m 11 #[.val (.int x), .val (.int y)] []) G := fun tq kq => K156 tq (XS.icmpNo X155.here hx rfl (hb hby d_method_7_8) rfl ((feq hc157).1) kq)
    have K215 : Go p e below T155 (mkF m 12 #[.val (.int x), .val (.int y)] [(.int (0 : Int32))]) G := fun tq kq => K214 tq (XS.iconst X155.here hx rfl (hb hby d_method_7_11) kq)
    obtain ⟨fs, hr, hrun, hended, hWW, hsame⟩ := X155.leave (v := some (.int (0 : Int32))) (fun h => by rw [Bd.returns] at h; cases h)
    refine ⟨_, _, hG _ (K215 _ (retN X155 hx (t := .boolean) Bd.returns (by simp) (hb hby d_method_7_12) hr)), hrun, hended, _, _, rfl, ?_, ⟨_, rfl⟩, hWW, hsame.mono (by decide) (by decide)⟩
    show QSM Z x y h0 n0 _ T155.heap _
    rw [E155q]
    exact ⟨by rw [if_neg (fun z => hc157 ((own_sp x y).mpr z).1)], N155, rfl⟩
theorem pn_168 : plainName "com/example/kithmark/kithmark/params/CountryPairs$Pair" = true := by first | (simp [plainName, overriddenIn]; done) | decide +kernel
theorem ef_prog_21_method_1_RRR (m : MethodId) (x0 : Addr) (x1 : Addr) (x2 : Addr) : entryFrame m #[(.ref x0), (.ref x1), (.ref x2)] 3 = mkF m 0 #[.val (.ref x0), .val (.ref x1), .val (.ref x2)] [] := by first | (simp [entryFrame, mkF, argsToLocals, Value.category]; done) | rfl
theorem pd_170 : parseMethodDescriptor "()V" = some ⟨[], none⟩ := by decide +kernel
theorem d_prog_21_method_1_0 : decode prog_21_method_1_code 0 = .ok (.aload_n 0, 1) := by decide +kernel
theorem d_prog_21_method_1_1 : decode prog_21_method_1_code 1 = .ok (.invokespecial 1, 3) := by decide +kernel
theorem d_prog_21_method_1_4 : decode prog_21_method_1_code 4 = .ok (.aload_n 0, 1) := by decide +kernel
theorem d_prog_21_method_1_5 : decode prog_21_method_1_code 5 = .ok (.aload_n 1, 1) := by decide +kernel
theorem d_prog_21_method_1_6 : decode prog_21_method_1_code 6 = .ok (.putfield 7, 3) := by decide +kernel
theorem d_prog_21_method_1_9 : decode prog_21_method_1_code 9 = .ok (.aload_n 0, 1) := by decide +kernel
theorem d_prog_21_method_1_10 : decode prog_21_method_1_code 10 = .ok (.aload_n 2, 1) := by decide +kernel
theorem d_prog_21_method_1_11 : decode prog_21_method_1_code 11 = .ok (.putfield 13, 3) := by decide +kernel
theorem d_prog_21_method_1_14 : decode prog_21_method_1_code 14 = .ok (.return_, 1) := by decide +kernel
def QIni (Z : State) (a : Addr) (x : Addr) (y : Addr) (h0 : Heap) (n0 : Nat) (v : Option Value) (h : Heap) (L : List Loc) : Prop := v = none ∧ Fr n0 L ∧ Keep h0 h [a] ∧ Exa Z h a "com/example/kithmark/kithmark/params/CountryPairs$Pair" ∧ Fld Z h a "com/example/kithmark/kithmark/params/CountryPairs$Pair" "countryXName" "Ljava/lang/String;" (.ref x) ∧ Fld Z h a "com/example/kithmark/kithmark/params/CountryPairs$Pair" "countryYName" "Ljava/lang/String;" (.ref y)
set_option maxRecDepth 65536 in
set_option maxHeartbeats 40000000 in
theorem rmIni (l : Launch) (Z : State) (a0 : Array Value) (hw : ∀ d ∈ tables_1, d.before a0 Z = true) (ws : List Jvm.Cond) (a : Addr) (x : Addr) (y : Addr) (h0 : Heap) (n0 : Nat) (Z0 : n0 ≤ h0.size) (F_countryXName_a : Fld Z h0 a "com/example/kithmark/kithmark/params/CountryPairs$Pair" "countryXName" "Ljava/lang/String;" .null) (F_countryYName_a : Fld Z h0 a "com/example/kithmark/kithmark/params/CountryPairs$Pair" "countryYName" "Ljava/lang/String;" .null) (E_a : Exa Z h0 a "com/example/kithmark/kithmark/params/CountryPairs$Pair") (ge_a : n0 ≤ a) :
    MetFree l (⟨"com/example/kithmark/kithmark/params/CountryPairs$Pair", "<init>", "(Ljava/lang/String;Ljava/lang/String;)V"⟩ : MethodName) (head1 (Jvm.Cond.code (⟨"com/example/kithmark/kithmark/params/CountryPairs$Pair", "<init>", "(Ljava/lang/String;Ljava/lang/String;)V"⟩ : MethodName) prog_21_method_1_code 3 none :: ws) ({ frames := 2, cells := 0, slots := 0, locals := 24 } : Room)) (fun aa UU => aa = #[(.ref a), (.ref x), (.ref y)] ∧ Z.Warmed39 UU.vm ∧ UU.heap = h0) (fun _ _ _ _ _ => True) (fun _ UU oo UU' => ∃ vv LL, oo = .returned vv ∧ QIni Z a x y h0 n0 vv UU'.heap LL ∧ FrameEnd UU oo UU' LL ({ frames := 2, cells := 0, slots := 0, locals := 24 } : Room).cells ({ frames := 2, cells := 0, slots := 0, locals := 24 } : Room).slots) := by
  refine MetFree.of_bodySF (plainFor_of_name pn_168) hisR ?_
  intro p e s m args below meth c s₁ Bd hml0 hP hK
  obtain ⟨rfl, hZ, hh⟩ := hP
  have hx := Bd.exec
  have hby := Bd.bytes
  have hml : c.maxLocals = 3 := hml0
  have hown : s.vm.findClass "com/example/kithmark/kithmark/params/CountryPairs$Pair" = some m.cls := findClass_of_methodNamed Bd.named
  have hnm := (name_of_methodNamed Bd.named Bd.method).1
  have hW : ∀ (k : Nat) (d : Jvm.Cond), tables_1[k]? = some d → d.before a0 Z = true := fun k d h => hw d (List.mem_of_getElem? h)
  have X0 : Stand p l e ({ frames := 2, cells := 0, slots := 0, locals := 24 } : Room) s m #[(.ref a), (.ref x), (.ref y)] below meth c s₁ [] 0 0 := Stand.of_body Bd
  have e0 : s₁.heap = h0 := by rw [← hh, Bd.state]; rfl
  have N0 := Fr.nil n0
  obtain ⟨G, hG, K0⟩ : ∃ G : State → Prop, (∀ tq, G tq → Steps p.tables e below (s₁.setTop (entryFrame m #[(.ref a), (.ref x), (.ref y)] 3)) tq) ∧ Go p e below s₁ (mkF m 0 #[.val (.ref a), .val (.ref x), .val (.ref y)] []) G := ⟨fun tq => Steps p.tables e below (s₁.setTop (entryFrame m #[(.ref a), (.ref x), (.ref y)] 3)) tq, fun _ h => h, fun tq kq => castTop (ef_prog_21_method_1_RRR m a x y) kq⟩
  have K216 : Go p e below s₁ (mkF m 1 #[.val (.ref a), .val (.ref x), .val (.ref y)] [(.ref a)]) G := fun tq kq => K0 tq (XS.aloadN X0.here hx rfl (hb hby d_prog_21_method_1_0) rfl rfl kq)
  obtain ⟨v217, _, ⟨T217, L217, k217, n217⟩, -, X217, ⟨Lc217, hQ217, l217, y217, z217⟩, st217⟩ := X0.specialBack hx (y := (⟨"java/lang/Record", "<init>", "()V"⟩ : MethodName)) rfl hown (mvT hZ (hW 35 _ rfl)) (mvT hZ (hW 36 _ rfl)) (mvT hZ (hW 39 _ rfl)) (by decide) (backOf (W := 0) (rmRec l Z a0 hw [] a h0 n0 Z0) hZ (hW 39 _ rfl) (hW 38 _ rfl) (by decide) (by decide)) (g := (mkF m 1 #[.val (.ref a), .val (.ref x), .val (.ref y)] [(.ref a)])) rfl (by rw [hml]; rfl) (Steps.refl _) (a := a) (argsL := []) (rest := []) (lenOf pd_170 rfl) rfl (by show 2 * 0 + _ ≤ _; exact Nat.le_of_eq rfl) (hb hby d_prog_21_method_1_1) (fun _ _ => ⟨rfl, e0, (by decide : 0 + 0 ≤ _), (by decide : 0 + 0 ≤ _)⟩)
  dsimp only [Pt.U, Pt.locs, Pt.cells, Pt.slots] at X217 l217 y217 z217 st217 hQ217
  subst l217 y217 z217
  obtain ⟨rfl, N217q, E217q⟩ := hQ217
  have N217 := Fr.app N0 N217q
  have K218 : Go p e below T217 (mkF m 4 #[.val (.ref a), .val (.ref x), .val (.ref y)] []) G := fun tq kq => K216 tq (st217.trans kq)
  have K219 : Go p e below T217 (mkF m 5 #[.val (.ref a), .val (.ref x), .val (.ref y)] [(.ref a)]) G := fun tq kq => K218 tq (XS.aloadN X217.here hx rfl (hb hby d_prog_21_method_1_4) rfl rfl kq)
  have K220 : Go p e below T217 (mkF m 6 #[.val (.ref a), .val (.ref x), .val (.ref y)] [(.ref x), (.ref a)]) G := fun tq kq => K219 tq (XS.aloadN X217.here hx rfl (hb hby d_prog_21_method_1_5) rfl rfl kq)
  obtain ⟨T221, h221, X221, e221, W221, st221⟩ := putF X217 hx hZ hown (host := "") (Or.inl (hW 41 _ rfl)) Via.refl E217q F_countryXName_a E_a (Or.inr ⟨(hW 42 _ rfl), rfl, hnm⟩) (hW 30 _ rfl) (ty := (.object "java/lang/String")) (by decide) rfl rfl (g := (mkF m 6 #[.val (.ref a), .val (.ref x), .val (.ref y)] [(.ref x), (.ref a)])) rfl rfl (hb hby d_prog_21_method_1_6)
  have N221 := Fr.snoc X221 N217 ge_a
  have F221 := Fld.same W221 F_countryXName_a
  have K222 : Go p e below T221 (mkF m 9 #[.val (.ref a), .val (.ref x), .val (.ref y)] []) G := fun tq kq => K220 tq (st221 tq kq)
  have K223 : Go p e below T221 (mkF m 10 #[.val (.ref a), .val (.ref x), .val (.ref y)] [(.ref a)]) G := fun tq kq => K222 tq (XS.aloadN X221.here hx rfl (hb hby d_prog_21_method_1_9) rfl rfl kq)
  have K224 : Go p e below T221 (mkF m 11 #[.val (.ref a), .val (.ref x), .val (.ref y)] [(.ref y), (.ref a)]) G := fun tq kq => K223 tq (XS.aloadN X221.here hx rfl (hb hby d_prog_21_method_1_10) rfl rfl kq)
  obtain ⟨T225, h225, X225, e225, W225, st225⟩ := putF X221 hx hZ hown (host := "") (Or.inl (hW 43 _ rfl)) Via.refl e221 (F_countryYName_a.other W221 (Or.inr (slot_ne (Or.inr (hW 44 _ rfl)) (Or.inr (hW 42 _ rfl)) (by decide) (t := (.object "java/lang/String")) (t' := (.object "java/lang/String")) (by decide) (by decide)))) (E_a.wr W221) (Or.inr ⟨(hW 44 _ rfl), rfl, hnm⟩) (hW 30 _ rfl) (ty := (.object "java/lang/String")) (by decide) rfl rfl (g := (mkF m 11 #[.val (.ref a), .val (.ref x), .val (.ref y)] [(.ref y), (.ref a)])) rfl rfl (hb hby d_prog_21_method_1_11)
  have N225 := Fr.snoc X225 N221 ge_a
  have F225 := Fld.same W225 (F_countryYName_a.other W221 (Or.inr (slot_ne (Or.inr (hW 44 _ rfl)) (Or.inr (hW 42 _ rfl)) (by decide) (t := (.object "java/lang/String")) (t' := (.object "java/lang/String")) (by decide) (by decide))))
  have K226 : Go p e below T225 (mkF m 14 #[.val (.ref a), .val (.ref x), .val (.ref y)] []) G := fun tq kq => K224 tq (st225 tq kq)
  obtain ⟨fs, hr, hrun, hended, hWW, hsame⟩ := X225.leave (v := none) (fun _ => rfl)
  refine ⟨_, _, hG _ (K226 _ (X225.returnOut hx Bd.returns (hb hby d_prog_21_method_1_14) hr)), hrun, hended, _, _, rfl, ?_, ⟨_, rfl⟩, hWW, hsame.mono (by decide) (by decide)⟩
  show QIni Z a x y h0 n0 _ T225.heap _
  rw [e225]
  exact ⟨rfl, N225, (((Keep.refl h0 [a]).wr W221 (Or.inl (List.mem_of_getElem? (i := 0) rfl))).wr W225 (Or.inl (List.mem_of_getElem? (i := 0) rfl))), ((E_a.wr W221).wr W225), (F221.other W225 (Or.inr (slot_ne (Or.inr (hW 42 _ rfl)) (Or.inr (hW 44 _ rfl)) (by decide) (t := (.object "java/lang/String")) (t' := (.object "java/lang/String")) (by decide) (by decide)))), F225⟩
theorem ef_prog_21_method_3_RR (m : MethodId) (x0 : Addr) (x1 : Addr) : entryFrame m #[(.ref x0), (.ref x1)] 2 = mkF m 0 #[.val (.ref x0), .val (.ref x1)] [] := by first | (simp [entryFrame, mkF, argsToLocals, Value.category]; done) | rfl
theorem pd_181 : parseMethodDescriptor "(Ljava/lang/Object;)Z" = some ⟨[(.object "java/lang/Object")], some .boolean⟩ := by decide +kernel
theorem d_prog_21_method_3_0 : decode prog_21_method_3_code 0 = .ok (.aload_n 0, 1) := by decide +kernel
theorem d_prog_21_method_3_1 : decode prog_21_method_3_code 1 = .ok (.getfield 7, 3) := by decide +kernel
theorem d_prog_21_method_3_4 : decode prog_21_method_3_code 4 = .ok (.aload_n 1, 1) := by decide +kernel
theorem d_prog_21_method_3_5 : decode prog_21_method_3_code 5 = .ok (.invokevirtual 25, 3) := by decide +kernel
theorem d_prog_21_method_3_8 : decode prog_21_method_3_code 8 = .ok (.ifCond .ne 14, 3) := by decide +kernel
theorem d_prog_21_method_3_11 : decode prog_21_method_3_code 11 = .ok (.aload_n 0, 1) := by decide +kernel
theorem d_prog_21_method_3_12 : decode prog_21_method_3_code 12 = .ok (.getfield 13, 3) := by decide +kernel
theorem d_prog_21_method_3_15 : decode prog_21_method_3_code 15 = .ok (.aload_n 1, 1) := by decide +kernel
theorem d_prog_21_method_3_16 : decode prog_21_method_3_code 16 = .ok (.invokevirtual 25, 3) := by decide +kernel
theorem d_prog_21_method_3_19 : decode prog_21_method_3_code 19 = .ok (.ifCond .eq 7, 3) := by decide +kernel
theorem d_prog_21_method_3_22 : decode prog_21_method_3_code 22 = .ok (.iconst 1, 1) := by decide +kernel
theorem d_prog_21_method_3_23 : decode prog_21_method_3_code 23 = .ok (.goto 4, 3) := by decide +kernel
theorem d_prog_21_method_3_26 : decode prog_21_method_3_code 26 = .ok (.iconst 0, 1) := by decide +kernel
theorem d_prog_21_method_3_27 : decode prog_21_method_3_code 27 = .ok (.ireturn, 1) := by decide +kernel
def QHO (Z : State) (a : Addr) (z : Addr) (x : Addr) (y : Addr) (cz : Int32) (qx : Int32) (tx : Addr) (kx : ClassId) (nx : Int32) (vx : List Value) (qy : Int32) (ty : Addr) (ky : ClassId) (ny : Int32) (vy : List Value) (qz : Int32) (tz : Addr) (kz : ClassId) (nz : Int32) (vz : List Value) (h0 : Heap) (n0 : Nat) (v : Option Value) (h : Heap) (L : List Loc) : Prop := v = some (.int (if own_cs qx = own_cs qz ∨ own_cs qy = own_cs qz then (1 : Int32) else 0)) ∧ Fr n0 L ∧ h = h0
set_option maxRecDepth 65536 in
set_option maxHeartbeats 40000000 in
theorem rmHO (l : Launch) (Z : State) (a0 : Array Value) (hw : ∀ d ∈ tables_1, d.before a0 Z = true) (ws : List Jvm.Cond) (a : Addr) (z : Addr) (x : Addr) (y : Addr) (cz : Int32) (qx : Int32) (tx : Addr) (kx : ClassId) (nx : Int32) (vx : List Value) (qy : Int32) (ty : Addr) (ky : ClassId) (ny : Int32) (vy : List Value) (qz : Int32) (tz : Addr) (kz : ClassId) (nz : Int32) (vz : List Value) (h0 : Heap) (n0 : Nat) (Z0 : n0 ≤ h0.size) (O0 : Old Z n0 h0) (S_cs : Sta Z Z.heap "java/lang/String" "COMPACT_STRINGS" "Z" (.int cz)) (hcz : ¬ cz = 0) (F_countryXName_a : Fld Z h0 a "com/example/kithmark/kithmark/params/CountryPairs$Pair" "countryXName" "Ljava/lang/String;" (.ref x)) (F_countryYName_a : Fld Z h0 a "com/example/kithmark/kithmark/params/CountryPairs$Pair" "countryYName" "Ljava/lang/String;" (.ref y)) (E_x : Exa Z h0 x "java/lang/String") (FVx : Fld Z h0 x "java/lang/String" "value" "[B" (.ref tx)) (FCx : Fld Z h0 x "java/lang/String" "coder" "B" (.int (0 : Int32))) (AVx : Arv Z h0 tx kx .byte nx vx (.int (0 : Int32))) (CDx : StrChars.Road.CodA (own_cs qx) 0 nx vx) (E_y : Exa Z h0 y "java/lang/String") (FVy : Fld Z h0 y "java/lang/String" "value" "[B" (.ref ty)) (FCy : Fld Z h0 y "java/lang/String" "coder" "B" (.int (0 : Int32))) (AVy : Arv Z h0 ty ky .byte ny vy (.int (0 : Int32))) (CDy : StrChars.Road.CodA (own_cs qy) 0 ny vy) (E_z : Exa Z h0 z "java/lang/String") (FVz : Fld Z h0 z "java/lang/String" "value" "[B" (.ref tz)) (FCz : Fld Z h0 z "java/lang/String" "coder" "B" (.int (0 : Int32))) (AVz : Arv Z h0 tz kz .byte nz vz (.int (0 : Int32))) (CDz : StrChars.Road.CodA (own_cs qz) 0 nz vz) :
    MetFree l (⟨"com/example/kithmark/kithmark/params/CountryPairs$Pair", "holds", "(Ljava/lang/String;)Z"⟩ : MethodName) (head1 (Jvm.Cond.code (⟨"com/example/kithmark/kithmark/params/CountryPairs$Pair", "holds", "(Ljava/lang/String;)Z"⟩ : MethodName) prog_21_method_3_code 2 (some .boolean) :: ws) ({ frames := 2, cells := 0, slots := 0, locals := 28 } : Room)) (fun aa UU => aa = #[(.ref a), (.ref z)] ∧ Z.Warmed39 UU.vm ∧ UU.heap = h0) (fun _ _ _ _ _ => True) (fun _ UU oo UU' => ∃ vv LL, oo = .returned vv ∧ QHO Z a z x y cz qx tx kx nx vx qy ty ky ny vy qz tz kz nz vz h0 n0 vv UU'.heap LL ∧ FrameEnd UU oo UU' LL ({ frames := 2, cells := 0, slots := 0, locals := 28 } : Room).cells ({ frames := 2, cells := 0, slots := 0, locals := 28 } : Room).slots) := by
  refine MetFree.of_bodySF (plainFor_of_name pn_168) hisR ?_
  intro p e s m args below meth c s₁ Bd hml0 hP hK
  obtain ⟨rfl, hZ, hh⟩ := hP
  have hx := Bd.exec
  have hby := Bd.bytes
  have hml : c.maxLocals = 2 := hml0
  have hown : s.vm.findClass "com/example/kithmark/kithmark/params/CountryPairs$Pair" = some m.cls := findClass_of_methodNamed Bd.named
  have hnm := (name_of_methodNamed Bd.named Bd.method).1
  have hW : ∀ (k : Nat) (d : Jvm.Cond), tables_1[k]? = some d → d.before a0 Z = true := fun k d h => hw d (List.mem_of_getElem? h)
  have X0 : Stand p l e ({ frames := 2, cells := 0, slots := 0, locals := 28 } : Room) s m #[(.ref a), (.ref z)] below meth c s₁ [] 0 0 := Stand.of_body Bd
  have e0 : s₁.heap = h0 := by rw [← hh, Bd.state]; rfl
  have N0 := Fr.nil n0
  obtain ⟨G, hG, K0⟩ : ∃ G : State → Prop, (∀ tq, G tq → Steps p.tables e below (s₁.setTop (entryFrame m #[(.ref a), (.ref z)] 2)) tq) ∧ Go p e below s₁ (mkF m 0 #[.val (.ref a), .val (.ref z)] []) G := ⟨fun tq => Steps p.tables e below (s₁.setTop (entryFrame m #[(.ref a), (.ref z)] 2)) tq, fun _ h => h, fun tq kq => castTop (ef_prog_21_method_3_RR m a z) kq⟩
  have hwe : ∀ d ∈ StrChars.Road.wordsEq, d.before a0 Z = true := fun d hd => hw d ((by decide +kernel : ∀ d ∈ StrChars.Road.wordsEq, d ∈ tables_1) d hd)
  have K227 : Go p e below s₁ (mkF m 1 #[.val (.ref a), .val (.ref z)] [(.ref a)]) G := fun tq kq => K0 tq (XS.aloadN X0.here hx rfl (hb hby d_prog_21_method_3_0) rfl rfl kq)
  obtain ⟨T228, X228, e228, st228⟩ := getF X0 hx hZ hown (host := "") (Or.inl (hW 41 _ rfl)) Via.refl e0 F_countryXName_a (g := (mkF m 1 #[.val (.ref a), .val (.ref z)] [(.ref a)])) rfl rfl (hb hby d_prog_21_method_3_1)
  have K229 : Go p e below T228 (mkF m 4 #[.val (.ref a), .val (.ref z)] [(.ref x)]) G := fun tq kq => K227 tq (st228 tq kq)
  have K230 : Go p e below T228 (mkF m 5 #[.val (.ref a), .val (.ref z)] [(.ref z), (.ref x)]) G := fun tq kq => K229 tq (XS.aloadN X228.here hx rfl (hb hby d_prog_21_method_3_4) rfl rfl kq)
  obtain ⟨cq231, kq231, q231a, q231b, q231c⟩ := isOf hZ e228 E_x
  obtain ⟨v231, _, ⟨T231, L231, k231, n231⟩, -, X231, ⟨Lc231, hQ231, l231, y231, z231⟩, st231⟩ := X228.virtualBack hx (y := (⟨"java/lang/String", "equals", "(Ljava/lang/Object;)Z"⟩ : MethodName)) (z := (⟨"java/lang/String", "equals", "(Ljava/lang/Object;)Z"⟩ : MethodName)) hown (mvT hZ (hW 53 _ rfl)) (mvT hZ (hW 54 _ rfl)) (notFace_of_selects (args := #[]) (mvT hZ (hW 56 _ rfl))) (mvT hZ (hW 56 _ rfl)) (mvT hZ (hW 55 _ rfl)) (by decide) (StrChars.Road.eqW (W := 0) hZ hwe (kI := 4) (hW 8 _ rfl) E_x FVx FCx AVx CDx (own_cu qx) (own_cl qx) E_z FVz FCz AVz CDz (own_cu qz) (own_cl qz) (S_cs.ext O0.2) hcz (by decide) (by decide)) q231a q231c (g := (mkF m 5 #[.val (.ref a), .val (.ref z)] [(.ref z), (.ref x)])) rfl (by rw [hml]; rfl) (Steps.refl _) (argsL := [(.ref z)]) (rest := []) (lenOf pd_181 rfl) rfl (by show 2 * 0 + _ ≤ _; exact Nat.le_of_eq rfl) (hb hby d_prog_21_method_3_5) (fun _ _ => ⟨rfl, e228, (by decide : 0 + 0 ≤ _), (by decide : 0 + 0 ≤ _)⟩)
  dsimp only [Pt.U, Pt.locs, Pt.cells, Pt.slots] at X231 l231 y231 z231 st231 hQ231
  subst l231 y231 z231
  obtain ⟨hv231, hL231, E231q⟩ := hQ231
  subst hL231
  have N231 := Fr.app N0 (Fr.nil n0)
  by_cases hc232 : own_cs qx = own_cs qz
  · skip
    obtain rfl : v231 = some (.int (1 : Int32)) := by
      rcases hv231 with ⟨q, r⟩ | ⟨q, r⟩
      · exact q
      · exact absurd hc232 r
    have K233 : Go p e below T231 (mkF m 8 #[.val (.ref a), .val (.ref z)] [(.int (1 : Int32))]) G := fun tq kq => K230 tq (st231.trans kq)
    have K234 : Go p e below T231 (mkF m 22 #[.val (.ref a), .val (.ref z)] []) G := fun tq kq => K233 tq (XS.ifYes X231.here hx rfl (pc0 := 8) (pc' := 22) rfl (hb hby d_prog_21_method_3_8) rfl ((if0 _ _).trans (feq (by decide : ¬ ((1 : Int32) = (0 : Int32)))).2) (by decide) (by decide) kq)
    have K235 : Go p e below T231 (mkF m 23 #[.val (.ref a), .val (.ref z)] [(.int (1 : Int32))]) G := fun tq kq => K234 tq (XS.iconst X231.here hx rfl (hb hby d_prog_21_method_3_22) kq)
    have K236 : Go p e below T231 (mkF m 27 #[.val (.ref a), .val (.ref z)] [(.int (1 : Int32))]) G := fun tq kq => K235 tq (XS.goto X231.here hx rfl (pc0 := 23) (pc' := 27) rfl (hb hby d_prog_21_method_3_23) (by decide) (by decide) kq)
    obtain ⟨fs, hr, hrun, hended, hWW, hsame⟩ := X231.leave (v := some (.int (1 : Int32))) (fun h => by rw [Bd.returns] at h; cases h)
    refine ⟨_, _, hG _ (K236 _ (retN X231 hx (t := .boolean) Bd.returns (by simp) (hb hby d_prog_21_method_3_27) hr)), hrun, hended, _, _, rfl, ?_, ⟨_, rfl⟩, hWW, hsame.mono (by decide) (by decide)⟩
    show QHO Z a z x y cz qx tx kx nx vx qy ty ky ny vy qz tz kz nz vz h0 n0 _ T231.heap _
    rw [E231q]
    exact ⟨by rw [if_pos (Or.inl hc232)], N231, rfl⟩
  · skip
    obtain rfl : v231 = some (.int (0 : Int32)) := by
      rcases hv231 with ⟨q, r⟩ | ⟨q, r⟩
      · exact absurd r hc232
      · exact q
    have K237 : Go p e below T231 (mkF m 8 #[.val (.ref a), .val (.ref z)] [(.int (0 : Int32))]) G := fun tq kq => K230 tq (st231.trans kq)
    have K238 : Go p e below T231 (mkF m 11 #[.val (.ref a), .val (.ref z)] []) G := fun tq kq => K237 tq (XS.ifNo X231.here hx rfl (hb hby d_prog_21_method_3_8) rfl ((if0 _ _).trans (teq (by decide : (0 : Int32) = (0 : Int32))).2) kq)
    have K239 : Go p e below T231 (mkF m 12 #[.val (.ref a), .val (.ref z)] [(.ref a)]) G := fun tq kq => K238 tq (XS.aloadN X231.here hx rfl (hb hby d_prog_21_method_3_11) rfl rfl kq)
    obtain ⟨T240, X240, e240, st240⟩ := getF X231 hx hZ hown (host := "") (Or.inl (hW 43 _ rfl)) Via.refl E231q F_countryYName_a (g := (mkF m 12 #[.val (.ref a), .val (.ref z)] [(.ref a)])) rfl rfl (hb hby d_prog_21_method_3_12)
    have K241 : Go p e below T240 (mkF m 15 #[.val (.ref a), .val (.ref z)] [(.ref y)]) G := fun tq kq => K239 tq (st240 tq kq)
    have K242 : Go p e below T240 (mkF m 16 #[.val (.ref a), .val (.ref z)] [(.ref z), (.ref y)]) G := fun tq kq => K241 tq (XS.aloadN X240.here hx rfl (hb hby d_prog_21_method_3_15) rfl rfl kq)
    obtain ⟨cq243, kq243, q243a, q243b, q243c⟩ := isOf hZ e240 E_y
    obtain ⟨v243, _, ⟨T243, L243, k243, n243⟩, -, X243, ⟨Lc243, hQ243, l243, y243, z243⟩, st243⟩ := X240.virtualBack hx (y := (⟨"java/lang/String", "equals", "(Ljava/lang/Object;)Z"⟩ : MethodName)) (z := (⟨"java/lang/String", "equals", "(Ljava/lang/Object;)Z"⟩ : MethodName)) hown (mvT hZ (hW 53 _ rfl)) (mvT hZ (hW 54 _ rfl)) (notFace_of_selects (args := #[]) (mvT hZ (hW 56 _ rfl))) (mvT hZ (hW 56 _ rfl)) (mvT hZ (hW 55 _ rfl)) (by decide) (StrChars.Road.eqW (W := 0) hZ hwe (kI := 4) (hW 8 _ rfl) E_y FVy FCy AVy CDy (own_cu qy) (own_cl qy) E_z FVz FCz AVz CDz (own_cu qz) (own_cl qz) (S_cs.ext O0.2) hcz (by decide) (by decide)) q243a q243c (g := (mkF m 16 #[.val (.ref a), .val (.ref z)] [(.ref z), (.ref y)])) rfl (by rw [hml]; rfl) (Steps.refl _) (argsL := [(.ref z)]) (rest := []) (lenOf pd_181 rfl) rfl (by show 2 * 0 + _ ≤ _; exact Nat.le_of_eq rfl) (hb hby d_prog_21_method_3_16) (fun _ _ => ⟨rfl, e240, (by decide : 0 + 0 ≤ _), (by decide : 0 + 0 ≤ _)⟩)
    dsimp only [Pt.U, Pt.locs, Pt.cells, Pt.slots] at X243 l243 y243 z243 st243 hQ243
    subst l243 y243 z243
    obtain ⟨hv243, hL243, E243q⟩ := hQ243
    subst hL243
    have N243 := Fr.app N231 (Fr.nil n0)
    by_cases hc244 : own_cs qy = own_cs qz
    · skip
      obtain rfl : v243 = some (.int (1 : Int32)) := by
        rcases hv243 with ⟨q, r⟩ | ⟨q, r⟩
        · exact q
        · exact absurd hc244 r
      have K245 : Go p e below T243 (mkF m 19 #[.val (.ref a), .val (.ref z)] [(.int (1 : Int32))]) G := fun tq kq => K242 tq (st243.trans kq)
      have K246 : Go p e below T243 (mkF m 22 #[.val (.ref a), .val (.ref z)] []) G := fun tq kq => K245 tq (XS.ifNo X243.here hx rfl (hb hby d_prog_21_method_3_19) rfl ((if0 _ _).trans (feq (by decide : ¬ ((1 : Int32) = (0 : Int32)))).1) kq)
      have K247 : Go p e below T243 (mkF m 23 #[.val (.ref a), .val (.ref z)] [(.int (1 : Int32))]) G := fun tq kq => K246 tq (XS.iconst X243.here hx rfl (hb hby d_prog_21_method_3_22) kq)
      have K248 : Go p e below T243 (mkF m 27 #[.val (.ref a), .val (.ref z)] [(.int (1 : Int32))]) G := fun tq kq => K247 tq (XS.goto X243.here hx rfl (pc0 := 23) (pc' := 27) rfl (hb hby d_prog_21_method_3_23) (by decide) (by decide) kq)
      obtain ⟨fs, hr, hrun, hended, hWW, hsame⟩ := X243.leave (v := some (.int (1 : Int32))) (fun h => by rw [Bd.returns] at h; cases h)
      refine ⟨_, _, hG _ (K248 _ (retN X243 hx (t := .boolean) Bd.returns (by simp) (hb hby d_prog_21_method_3_27) hr)), hrun, hended, _, _, rfl, ?_, ⟨_, rfl⟩, hWW, hsame.mono (by decide) (by decide)⟩
      show QHO Z a z x y cz qx tx kx nx vx qy ty ky ny vy qz tz kz nz vz h0 n0 _ T243.heap _
      rw [E243q]
      exact ⟨by rw [if_pos (Or.inr hc244)], N243, rfl⟩
    · skip
      obtain rfl : v243 = some (.int (0 : Int32)) := by
        rcases hv243 with ⟨q, r⟩ | ⟨q, r⟩
        · exact absurd r hc244
        · exact q
      have K249 : Go p e below T243 (mkF m 19 #[.val (.ref a), .val (.ref z)] [(.int (0 : Int32))]) G := fun tq kq => K242 tq (st243.trans kq)
      have K250 : Go p e below T243 (mkF m 26 #[.val (.ref a), .val (.ref z)] []) G := fun tq kq => K249 tq (XS.ifYes X243.here hx rfl (pc0 := 19) (pc' := 26) rfl (hb hby d_prog_21_method_3_19) rfl ((if0 _ _).trans (teq (by decide : (0 : Int32) = (0 : Int32))).1) (by decide) (by decide) kq)
      have K251 : Go p e below T243 (mkF m 27 #[.val (.ref a), .val (.ref z)] [(.int (0 : Int32))]) G := fun tq kq => K250 tq (XS.iconst X243.here hx rfl (hb hby d_prog_21_method_3_26) kq)
      obtain ⟨fs, hr, hrun, hended, hWW, hsame⟩ := X243.leave (v := some (.int (0 : Int32))) (fun h => by rw [Bd.returns] at h; cases h)
      refine ⟨_, _, hG _ (K251 _ (retN X243 hx (t := .boolean) Bd.returns (by simp) (hb hby d_prog_21_method_3_27) hr)), hrun, hended, _, _, rfl, ?_, ⟨_, rfl⟩, hWW, hsame.mono (by decide) (by decide)⟩
      show QHO Z a z x y cz qx tx kx nx vx qy ty ky ny vy qz tz kz nz vz h0 n0 _ T243.heap _
      rw [E243q]
      exact ⟨by rw [if_neg (fun w => w.elim hc232 hc244)], N243, rfl⟩
theorem ef_code_IIII (m : MethodId) (x0 : Int32) (x1 : Int32) (x2 : Int32) (x3 : Int32) : entryFrame m #[(.int x0), (.int x1), (.int x2), (.int x3)] maxLocals = mkF m 0 #[.val (.int x0), .val (.int x1), .val (.int x2), .val (.int x3), .unset, .unset, .unset, .unset, .unset, .unset, .unset] [] := by first | (simp [entryFrame, mkF, argsToLocals, Value.category, maxLocals]; done) | rfl
theorem pd_197 : parseMethodDescriptor "(I)Ljava/lang/String;" = some ⟨[.int], some (.object "java/lang/String")⟩ := by decide +kernel
theorem pd_198 : parseMethodDescriptor "(Ljava/lang/String;Ljava/lang/String;)V" = some ⟨[(.object "java/lang/String"), (.object "java/lang/String")], none⟩ := by decide +kernel
theorem pd_199 : parseMethodDescriptor "(II)Z" = some ⟨[.int, .int], some .boolean⟩ := by decide +kernel
theorem pd_200 : parseMethodDescriptor "(Ljava/lang/String;)Z" = some ⟨[(.object "java/lang/String")], some .boolean⟩ := by decide +kernel
def Q0 (Z : State) (q0 : Int32) (q1 : Int32) (q2 : Int32) (q3 : Int32) (cz : Int32) (h0 : Heap) (n0 : Nat) (v : Option Value) (h : Heap) (L : List Loc) : Prop := v = some (.int 1) ∧ Fr n0 L
set_option maxRecDepth 65536 in
set_option maxHeartbeats 40000000 in
theorem rm0 (l : Launch) (Z : State) (a0 : Array Value) (hw : ∀ d ∈ tables_1, d.before a0 Z = true) (ws : List Jvm.Cond) (q0 : Int32) (q1 : Int32) (q2 : Int32) (q3 : Int32) (cz : Int32) (h0 : Heap) (n0 : Nat) (Z0 : n0 ≤ h0.size) (O0 : Old Z n0 h0) (S_cs : Sta Z Z.heap "java/lang/String" "COMPACT_STRINGS" "Z" (.int cz)) (hcz : ¬ cz = 0) :
    MetFree l x (head1 (Jvm.Cond.code x code maxLocals ret :: ws) room_1) (fun aa UU => aa = #[(.int q0), (.int q1), (.int q2), (.int q3)] ∧ Z.Warmed39 UU.vm ∧ UU.heap = h0 ∧ CHv Z own_EL UU.vm h0) (fun _ _ _ _ _ => True) (fun _ UU oo UU' => ∃ vv LL, oo = .returned vv ∧ Q0 Z q0 q1 q2 q3 cz h0 n0 vv UU'.heap LL ∧ CHr Z own_EL UU.vm UU.heap UU'.vm UU'.heap ∧ ReturnedEndW UU oo UU' LL 32 1152) := by
  refine MetFree.of_bodySF (plainFor_of_name pn_30) hisR ?_
  intro p e s m args below meth c s₁ Bd hml0 hP hK
  obtain ⟨rfl, hZ, hh, HC⟩ := hP
  have hx := Bd.exec
  have hby := Bd.bytes
  have hml : c.maxLocals = 11 := hml0
  have hown : s.vm.findClass "com/example/kithmark/kithmark/params/PairHoldsPinLaw" = some m.cls := findClass_of_methodNamed Bd.named
  have hnm := (name_of_methodNamed Bd.named Bd.method).1
  have hW : ∀ (k : Nat) (d : Jvm.Cond), tables_1[k]? = some d → d.before a0 Z = true := fun k d h => hw d (List.mem_of_getElem? h)
  have X0 : Stand p l e room_1 (s.setVm s.vm) m #[(.int q0), (.int q1), (.int q2), (.int q3)] below meth c s₁ [] 0 0 := Stand.of_body Bd
  have e0 : s₁.heap = h0 := by rw [← hh, Bd.state]; rfl
  have N0 := Fr.nil n0
  obtain ⟨G, hG, K0⟩ : ∃ G : State → Prop, (∀ tq, G tq → Steps p.tables e below (s₁.setTop (entryFrame m #[(.int q0), (.int q1), (.int q2), (.int q3)] maxLocals)) tq) ∧ Go p e below s₁ (mkF m 0 #[.val (.int q0), .val (.int q1), .val (.int q2), .val (.int q3), .unset, .unset, .unset, .unset, .unset, .unset, .unset] []) G := ⟨fun tq => Steps p.tables e below (s₁.setTop (entryFrame m #[(.int q0), (.int q1), (.int q2), (.int q3)] maxLocals)) tq, fun _ h => h, fun tq kq => castTop (ef_code_IIII m q0 q1 q2 q3) kq⟩
  have hS0 := (State.WarmedH.refl s).since 0
  have hEL : EW Z a0 own_EL := own_EW hW
  have CR0 := CHr.refl HC
  obtain ⟨cd, Kj252⟩ : ∃ (cd : Int32), Go p e below s₁ (mkF m 25 #[.val (.int q0), .val (.int q1), .val (.int q2), .val (.int q3), .val (.int (q3 &&& (3 : Int32))), .unset, .unset, .unset, .unset, .unset, .unset] [(.int cd)]) G := by
    have K253 : Go p e below s₁ (mkF m 1 #[.val (.int q0), .val (.int q1), .val (.int q2), .val (.int q3), .unset, .unset, .unset, .unset, .unset, .unset, .unset] [(.int q3)]) G := fun tq kq => K0 tq (XS.iloadN X0.here hx rfl (hb hby at_0) rfl kq)
    have K254 : Go p e below s₁ (mkF m 2 #[.val (.int q0), .val (.int q1), .val (.int q2), .val (.int q3), .unset, .unset, .unset, .unset, .unset, .unset, .unset] [(.int (3 : Int32)), (.int q3)]) G := fun tq kq => K253 tq (XS.iconst X0.here hx rfl (hb hby at_1) kq)
    have K255 : Go p e below s₁ (mkF m 3 #[.val (.int q0), .val (.int q1), .val (.int q2), .val (.int q3), .unset, .unset, .unset, .unset, .unset, .unset, .unset] [(.int (q3 &&& (3 : Int32)))]) G := fun tq kq => K254 tq (XS.iand X0.here hx rfl (hb hby at_2) rfl kq)
    have K256 : Go p e below s₁ (mkF m 5 #[.val (.int q0), .val (.int q1), .val (.int q2), .val (.int q3), .val (.int (q3 &&& (3 : Int32))), .unset, .unset, .unset, .unset, .unset, .unset] []) G := fun tq kq => K255 tq (XS.istore X0.here hx rfl (hb hby at_3) rfl (l' := #[.val (.int q0), .val (.int q1), .val (.int q2), .val (.int q3), .val (.int (q3 &&& (3 : Int32))), .unset, .unset, .unset, .unset, .unset, .unset]) rfl kq)
    have K257 : Go p e below s₁ (mkF m 7 #[.val (.int q0), .val (.int q1), .val (.int q2), .val (.int q3), .val (.int (q3 &&& (3 : Int32))), .unset, .unset, .unset, .unset, .unset, .unset] [(.int (q3 &&& (3 : Int32)))]) G := fun tq kq => K256 tq (XS.iload X0.here hx rfl (hb hby at_5) rfl kq)
    by_cases hc258 : (q3 &&& (3 : Int32)) = (0 : Int32)
    · skip
      have K259 : Go p e below s₁ (mkF m 10 #[.val (.int q0), .val (.int q1), .val (.int q2), .val (.int q3), .val (.int (q3 &&& (3 : Int32))), .unset, .unset, .unset, .unset, .unset, .unset] []) G := fun tq kq => K257 tq (XS.ifNo X0.here hx rfl (hb hby at_7) rfl ((if0 _ _).trans (teq hc258).2) kq)
      have K260 : Go p e below s₁ (mkF m 11 #[.val (.int q0), .val (.int q1), .val (.int q2), .val (.int q3), .val (.int (q3 &&& (3 : Int32))), .unset, .unset, .unset, .unset, .unset, .unset] [(.int q0)]) G := fun tq kq => K259 tq (XS.iloadN X0.here hx rfl (hb hby at_10) rfl kq)
      have K261 : Go p e below s₁ (mkF m 25 #[.val (.int q0), .val (.int q1), .val (.int q2), .val (.int q3), .val (.int (q3 &&& (3 : Int32))), .unset, .unset, .unset, .unset, .unset, .unset] [(.int q0)]) G := fun tq kq => K260 tq (XS.goto X0.here hx rfl (pc0 := 11) (pc' := 25) rfl (hb hby at_11) (by decide) (by decide) kq)
      exact ⟨q0, K261⟩
    · skip
      have K262 : Go p e below s₁ (mkF m 14 #[.val (.int q0), .val (.int q1), .val (.int q2), .val (.int q3), .val (.int (q3 &&& (3 : Int32))), .unset, .unset, .unset, .unset, .unset, .unset] []) G := fun tq kq => K257 tq (XS.ifYes X0.here hx rfl (pc0 := 7) (pc' := 14) rfl (hb hby at_7) rfl ((if0 _ _).trans (feq hc258).2) (by decide) (by decide) kq)
      have K263 : Go p e below s₁ (mkF m 16 #[.val (.int q0), .val (.int q1), .val (.int q2), .val (.int q3), .val (.int (q3 &&& (3 : Int32))), .unset, .unset, .unset, .unset, .unset, .unset] [(.int (q3 &&& (3 : Int32)))]) G := fun tq kq => K262 tq (XS.iload X0.here hx rfl (hb hby at_14) rfl kq)
      have K264 : Go p e below s₁ (mkF m 17 #[.val (.int q0), .val (.int q1), .val (.int q2), .val (.int q3), .val (.int (q3 &&& (3 : Int32))), .unset, .unset, .unset, .unset, .unset, .unset] [(.int (1 : Int32)), (.int (q3 &&& (3 : Int32)))]) G := fun tq kq => K263 tq (XS.iconst X0.here hx rfl (hb hby at_16) kq)
      by_cases hc265 : (q3 &&& (3 : Int32)) = (1 : Int32)
      · skip
        have K266 : Go p e below s₁ (mkF m 20 #[.val (.int q0), .val (.int q1), .val (.int q2), .val (.int q3), .val (.int (q3 &&& (3 : Int32))), .unset, .unset, .unset, .unset, .unset, .unset] []) G := fun tq kq => K264 tq (XS.icmpNo X0.here hx rfl (hb hby at_17) rfl ((teq hc265).2) kq)
        have K267 : Go p e below s₁ (mkF m 21 #[.val (.int q0), .val (.int q1), .val (.int q2), .val (.int q3), .val (.int (q3 &&& (3 : Int32))), .unset, .unset, .unset, .unset, .unset, .unset] [(.int q1)]) G := fun tq kq => K266 tq (XS.iloadN X0.here hx rfl (hb hby at_20) rfl kq)
        have K268 : Go p e below s₁ (mkF m 25 #[.val (.int q0), .val (.int q1), .val (.int q2), .val (.int q3), .val (.int (q3 &&& (3 : Int32))), .unset, .unset, .unset, .unset, .unset, .unset] [(.int q1)]) G := fun tq kq => K267 tq (XS.goto X0.here hx rfl (pc0 := 21) (pc' := 25) rfl (hb hby at_21) (by decide) (by decide) kq)
        exact ⟨q1, K268⟩
      · skip
        have K269 : Go p e below s₁ (mkF m 24 #[.val (.int q0), .val (.int q1), .val (.int q2), .val (.int q3), .val (.int (q3 &&& (3 : Int32))), .unset, .unset, .unset, .unset, .unset, .unset] []) G := fun tq kq => K264 tq (XS.icmpYes X0.here hx rfl (pc0 := 17) (pc' := 24) rfl (hb hby at_17) rfl ((feq hc265).2) (by decide) (by decide) kq)
        have K270 : Go p e below s₁ (mkF m 25 #[.val (.int q0), .val (.int q1), .val (.int q2), .val (.int q3), .val (.int (q3 &&& (3 : Int32))), .unset, .unset, .unset, .unset, .unset, .unset] [(.int q2)]) G := fun tq kq => K269 tq (XS.iloadN X0.here hx rfl (hb hby at_24) rfl kq)
        exact ⟨q2, K270⟩
  have K271 : Go p e below s₁ (mkF m 27 #[.val (.int q0), .val (.int q1), .val (.int q2), .val (.int q3), .val (.int (q3 &&& (3 : Int32))), .val (.int cd), .unset, .unset, .unset, .unset, .unset] []) G := fun tq kq => Kj252 tq (XS.istore X0.here hx rfl (hb hby at_25) rfl (l' := #[.val (.int q0), .val (.int q1), .val (.int q2), .val (.int q3), .val (.int (q3 &&& (3 : Int32))), .val (.int cd), .unset, .unset, .unset, .unset, .unset]) rfl kq)
  have K272 : Go p e below s₁ (mkF m 28 #[.val (.int q0), .val (.int q1), .val (.int q2), .val (.int q3), .val (.int (q3 &&& (3 : Int32))), .val (.int cd), .unset, .unset, .unset, .unset, .unset] [(.int q0)]) G := fun tq kq => K271 tq (XS.iloadN X0.here hx rfl (hb hby at_27) rfl kq)
  obtain ⟨v273, _, ⟨T273, L273, k273, n273⟩, -, X273, hSa273, hgr273, ⟨Lc273, hQ273, l273, y273, z273, hCR273⟩, st273⟩ := callSS X0 hx (y := (⟨"com/example/kithmark/kithmark/params/PairHoldsPinLaw", "make", "(I)Ljava/lang/String;"⟩ : MethodName)) hown (mvT hZ (hW 0 _ rfl)) (mvT hZ (hW 1 _ rfl)) (mvT hZ (hW 2 _ rfl)) (mvT hZ (hW 3 _ rfl)) (by decide) (backOfSH (W := 0) (rmMK l Z a0 hw [] q0 cz h0 n0 Z0 O0 S_cs hcz) hZ (hW 3 _ rfl) (hW 2 _ rfl) (by decide) (by decide) hEL CR0.1) (g := (mkF m 28 #[.val (.int q0), .val (.int q1), .val (.int q2), .val (.int q3), .val (.int (q3 &&& (3 : Int32))), .val (.int cd), .unset, .unset, .unset, .unset, .unset] [(.int q0)])) rfl (by rw [hml]; rfl) (argsL := [(.int q0)]) (rest := []) (lenOf pd_197 rfl) rfl (by show 2 * 0 + _ ≤ _; exact Nat.le_of_eq rfl) (hb hby at_28) (fun _ _ => ⟨rfl, e0, (by decide : 0 + 4 ≤ _), (by decide : 0 + 8 ≤ _)⟩)
  dsimp only [Pt.U, Pt.locs, Pt.cells, Pt.slots] at X273 l273 y273 z273 st273 hQ273 hSa273 hgr273 hCR273
  subst l273 y273 z273
  obtain ⟨X273, hSb273, hZ, hown⟩ := rebS hS0 (by first | exact (Nat.zero_le _) | (rw [e0]; exact (Nat.zero_le _))) X273 hSa273 hgr273 hZ hown
  have CR274 := CR0.trans (hCR273)
  obtain ⟨r273, t273, kb273, n2273, vs273, rfl, N273q, K273q, Er273, Fv273, Fc273, Vt273, Cd273⟩ := hQ273
  have N273 := Fr.app N0 N273q
  have K275 : Go p e below T273 (mkF m 31 #[.val (.int q0), .val (.int q1), .val (.int q2), .val (.int q3), .val (.int (q3 &&& (3 : Int32))), .val (.int cd), .unset, .unset, .unset, .unset, .unset] [(.ref r273)]) G := fun tq kq => K272 tq (st273.trans kq)
  have K276 : Go p e below T273 (mkF m 33 #[.val (.int q0), .val (.int q1), .val (.int q2), .val (.int q3), .val (.int (q3 &&& (3 : Int32))), .val (.int cd), .val (.ref r273), .unset, .unset, .unset, .unset] []) G := fun tq kq => K275 tq (XS.astore X273.here hx rfl (hb hby at_31) rfl rfl (l' := #[.val (.int q0), .val (.int q1), .val (.int q2), .val (.int q3), .val (.int (q3 &&& (3 : Int32))), .val (.int cd), .val (.ref r273), .unset, .unset, .unset, .unset]) rfl kq)
  have K277 : Go p e below T273 (mkF m 34 #[.val (.int q0), .val (.int q1), .val (.int q2), .val (.int q3), .val (.int (q3 &&& (3 : Int32))), .val (.int cd), .val (.ref r273), .unset, .unset, .unset, .unset] [(.int q1)]) G := fun tq kq => K276 tq (XS.iloadN X273.here hx rfl (hb hby at_33) rfl kq)
  obtain ⟨v278, _, ⟨T278, L278, k278, n278⟩, -, X278, hSa278, hgr278, ⟨Lc278, hQ278, l278, y278, z278, hCR278⟩, st278⟩ := callSS X273 hx (y := (⟨"com/example/kithmark/kithmark/params/PairHoldsPinLaw", "make", "(I)Ljava/lang/String;"⟩ : MethodName)) hown (mvT hZ (hW 0 _ rfl)) (mvT hZ (hW 1 _ rfl)) (mvT hZ (hW 2 _ rfl)) (mvT hZ (hW 3 _ rfl)) (by decide) (backOfSH (W := 0) (rmMK l Z a0 hw [] q1 cz T273.heap n0 (Nat.le_trans Z0 K273q.1) (O0.keep K273q all0) S_cs hcz) hZ (hW 3 _ rfl) (hW 2 _ rfl) (by decide) (by decide) hEL CR274.1) (g := (mkF m 34 #[.val (.int q0), .val (.int q1), .val (.int q2), .val (.int q3), .val (.int (q3 &&& (3 : Int32))), .val (.int cd), .val (.ref r273), .unset, .unset, .unset, .unset] [(.int q1)])) rfl (by rw [hml]; rfl) (argsL := [(.int q1)]) (rest := []) (lenOf pd_197 rfl) rfl (by show 2 * 0 + _ ≤ _; exact Nat.le_of_eq rfl) (hb hby at_34) (fun _ _ => ⟨rfl, rfl, (by decide : 4 + 4 ≤ _), (by decide : 8 + 8 ≤ _)⟩)
  dsimp only [Pt.U, Pt.locs, Pt.cells, Pt.slots] at X278 l278 y278 z278 st278 hQ278 hSa278 hgr278 hCR278
  subst l278 y278 z278
  obtain ⟨X278, hSb278, hZ, hown⟩ := rebS hSb273 (by first | exact (Nat.le_refl _) | (rw [rfl]; exact (Nat.le_refl _))) X278 hSa278 hgr278 hZ hown
  have CR279 := CR274.trans (hCR278)
  obtain ⟨r278, t278, kb278, n2278, vs278, rfl, N278q, K278q, Er278, Fv278, Fc278, Vt278, Cd278⟩ := hQ278
  have N278 := Fr.app N273 N278q
  have K280 : Go p e below T278 (mkF m 37 #[.val (.int q0), .val (.int q1), .val (.int q2), .val (.int q3), .val (.int (q3 &&& (3 : Int32))), .val (.int cd), .val (.ref r273), .unset, .unset, .unset, .unset] [(.ref r278)]) G := fun tq kq => K277 tq (st278.trans kq)
  have K281 : Go p e below T278 (mkF m 39 #[.val (.int q0), .val (.int q1), .val (.int q2), .val (.int q3), .val (.int (q3 &&& (3 : Int32))), .val (.int cd), .val (.ref r273), .val (.ref r278), .unset, .unset, .unset] []) G := fun tq kq => K280 tq (XS.astore X278.here hx rfl (hb hby at_37) rfl rfl (l' := #[.val (.int q0), .val (.int q1), .val (.int q2), .val (.int q3), .val (.int (q3 &&& (3 : Int32))), .val (.int cd), .val (.ref r273), .val (.ref r278), .unset, .unset, .unset]) rfl kq)
  have K282 : Go p e below T278 (mkF m 41 #[.val (.int q0), .val (.int q1), .val (.int q2), .val (.int q3), .val (.int (q3 &&& (3 : Int32))), .val (.int cd), .val (.ref r273), .val (.ref r278), .unset, .unset, .unset] [(.int cd)]) G := fun tq kq => K281 tq (XS.iload X278.here hx rfl (hb hby at_39) rfl kq)
  obtain ⟨v283, _, ⟨T283, L283, k283, n283⟩, -, X283, hSa283, hgr283, ⟨Lc283, hQ283, l283, y283, z283, hCR283⟩, st283⟩ := callSS X278 hx (y := (⟨"com/example/kithmark/kithmark/params/PairHoldsPinLaw", "make", "(I)Ljava/lang/String;"⟩ : MethodName)) hown (mvT hZ (hW 0 _ rfl)) (mvT hZ (hW 1 _ rfl)) (mvT hZ (hW 2 _ rfl)) (mvT hZ (hW 3 _ rfl)) (by decide) (backOfSH (W := 0) (rmMK l Z a0 hw [] cd cz T278.heap n0 (Nat.le_trans (Nat.le_trans Z0 K273q.1) K278q.1) ((O0.keep K273q all0).keep K278q all0) S_cs hcz) hZ (hW 3 _ rfl) (hW 2 _ rfl) (by decide) (by decide) hEL CR279.1) (g := (mkF m 41 #[.val (.int q0), .val (.int q1), .val (.int q2), .val (.int q3), .val (.int (q3 &&& (3 : Int32))), .val (.int cd), .val (.ref r273), .val (.ref r278), .unset, .unset, .unset] [(.int cd)])) rfl (by rw [hml]; rfl) (argsL := [(.int cd)]) (rest := []) (lenOf pd_197 rfl) rfl (by show 2 * 0 + _ ≤ _; exact Nat.le_of_eq rfl) (hb hby at_41) (fun _ _ => ⟨rfl, rfl, (by decide : 8 + 4 ≤ _), (by decide : 16 + 8 ≤ _)⟩)
  dsimp only [Pt.U, Pt.locs, Pt.cells, Pt.slots] at X283 l283 y283 z283 st283 hQ283 hSa283 hgr283 hCR283
  subst l283 y283 z283
  obtain ⟨X283, hSb283, hZ, hown⟩ := rebS hSb278 (by first | exact (Nat.le_refl _) | (rw [rfl]; exact (Nat.le_refl _))) X283 hSa283 hgr283 hZ hown
  have CR284 := CR279.trans (hCR283)
  obtain ⟨r283, t283, kb283, n2283, vs283, rfl, N283q, K283q, Er283, Fv283, Fc283, Vt283, Cd283⟩ := hQ283
  have N283 := Fr.app N278 N283q
  have K285 : Go p e below T283 (mkF m 44 #[.val (.int q0), .val (.int q1), .val (.int q2), .val (.int q3), .val (.int (q3 &&& (3 : Int32))), .val (.int cd), .val (.ref r273), .val (.ref r278), .unset, .unset, .unset] [(.ref r283)]) G := fun tq kq => K282 tq (st283.trans kq)
  have K286 : Go p e below T283 (mkF m 46 #[.val (.int q0), .val (.int q1), .val (.int q2), .val (.int q3), .val (.int (q3 &&& (3 : Int32))), .val (.int cd), .val (.ref r273), .val (.ref r278), .val (.ref r283), .unset, .unset] []) G := fun tq kq => K285 tq (XS.astore X283.here hx rfl (hb hby at_44) rfl rfl (l' := #[.val (.int q0), .val (.int q1), .val (.int q2), .val (.int q3), .val (.int (q3 &&& (3 : Int32))), .val (.int cd), .val (.ref r273), .val (.ref r278), .val (.ref r283), .unset, .unset]) rfl kq)
  obtain ⟨T287, h287, X287, e287, E287, A287, D287, -, st287⟩ := newO X283 hx hZ hown (hW 29 _ rfl) (hW 30 _ rfl) (hW 31 _ rfl) rfl (g := (mkF m 46 #[.val (.int q0), .val (.int q1), .val (.int q2), .val (.int q3), .val (.int (q3 &&& (3 : Int32))), .val (.int cd), .val (.ref r273), .val (.ref r278), .val (.ref r283), .unset, .unset] [])) rfl (hb hby at_46) (by decide) (by decide)
  obtain ⟨b287, g287⟩ : ∃ z, z = T283.heap.size := ⟨_, rfl⟩
  rw [← g287] at A287 D287 st287
  have ne287_r273 : r273 ≠ b287 := Nat.ne_of_lt (Nat.lt_of_lt_of_le ((Er273.keep K278q).keep K283q).lt (Nat.le_of_eq g287.symm))
  have ne287_t273 : t273 ≠ b287 := Nat.ne_of_lt (Nat.lt_of_lt_of_le ((Vt273.keep K278q nin0).keep K283q nin0).lt (Nat.le_of_eq g287.symm))
  have ne287_r278 : r278 ≠ b287 := Nat.ne_of_lt (Nat.lt_of_lt_of_le (Er278.keep K283q).lt (Nat.le_of_eq g287.symm))
  have ne287_t278 : t278 ≠ b287 := Nat.ne_of_lt (Nat.lt_of_lt_of_le (Vt278.keep K283q nin0).lt (Nat.le_of_eq g287.symm))
  have ne287_r283 : r283 ≠ b287 := Nat.ne_of_lt (Nat.lt_of_lt_of_le Er283.lt (Nat.le_of_eq g287.symm))
  have ne287_t283 : t283 ≠ b287 := Nat.ne_of_lt (Nat.lt_of_lt_of_le Vt283.lt (Nat.le_of_eq g287.symm))
  have ge_b287 : n0 ≤ b287 := Nat.le_trans (Nat.le_trans (Nat.le_trans (Nat.le_trans Z0 K273q.1) K278q.1) K283q.1) (Nat.le_of_eq g287.symm)
  have sz_b287 : h0.size ≤ b287 := Nat.le_trans (((((Keep.refl h0 []).trans K273q all0).trans K278q all0).trans K283q all0)).1 (Nat.le_of_eq g287.symm)
  have CR288 := CR284.trans (CHr.ext E287 CR284.1)
  have F287_countryXName : Fld Z h287 b287 "com/example/kithmark/kithmark/params/CountryPairs$Pair" "countryXName" "Ljava/lang/String;" .null := D287 (Or.inr (hW 42 _ rfl)) (ty := (.object "java/lang/String")) (by decide)
  have F287_countryYName : Fld Z h287 b287 "com/example/kithmark/kithmark/params/CountryPairs$Pair" "countryYName" "Ljava/lang/String;" .null := D287 (Or.inr (hW 44 _ rfl)) (ty := (.object "java/lang/String")) (by decide)
  have K289 : Go p e below T287 (mkF m 49 #[.val (.int q0), .val (.int q1), .val (.int q2), .val (.int q3), .val (.int (q3 &&& (3 : Int32))), .val (.int cd), .val (.ref r273), .val (.ref r278), .val (.ref r283), .unset, .unset] [(.ref b287)]) G := fun tq kq => K286 tq (st287 tq kq)
  have K290 : Go p e below T287 (mkF m 50 #[.val (.int q0), .val (.int q1), .val (.int q2), .val (.int q3), .val (.int (q3 &&& (3 : Int32))), .val (.int cd), .val (.ref r273), .val (.ref r278), .val (.ref r283), .unset, .unset] [(.ref b287), (.ref b287)]) G := fun tq kq => K289 tq (XS.dup X287.here hx rfl (hb hby at_49) rfl rfl kq)
  have K291 : Go p e below T287 (mkF m 52 #[.val (.int q0), .val (.int q1), .val (.int q2), .val (.int q3), .val (.int (q3 &&& (3 : Int32))), .val (.int cd), .val (.ref r273), .val (.ref r278), .val (.ref r283), .unset, .unset] [(.ref r273), (.ref b287), (.ref b287)]) G := fun tq kq => K290 tq (XS.aload X287.here hx rfl (hb hby at_50) rfl rfl kq)
  have K292 : Go p e below T287 (mkF m 54 #[.val (.int q0), .val (.int q1), .val (.int q2), .val (.int q3), .val (.int (q3 &&& (3 : Int32))), .val (.int cd), .val (.ref r273), .val (.ref r278), .val (.ref r283), .unset, .unset] [(.ref r278), (.ref r273), (.ref b287), (.ref b287)]) G := fun tq kq => K291 tq (XS.aload X287.here hx rfl (hb hby at_52) rfl rfl kq)
  obtain ⟨v293, _, ⟨T293, L293, k293, n293⟩, -, X293, ⟨Lc293, hQ293, l293, y293, z293⟩, st293⟩ := X287.specialBack hx (y := (⟨"com/example/kithmark/kithmark/params/CountryPairs$Pair", "<init>", "(Ljava/lang/String;Ljava/lang/String;)V"⟩ : MethodName)) rfl hown (mvT hZ (hW 32 _ rfl)) (mvT hZ (hW 33 _ rfl)) (mvT hZ (hW 34 _ rfl)) (by decide) (backOf (W := 1) (rmIni l Z a0 hw [] b287 r273 r278 h287 n0 (Nat.le_trans (Nat.le_trans (Nat.le_trans (Nat.le_trans Z0 K273q.1) K278q.1) K283q.1) E287.1) F287_countryXName F287_countryYName A287 ge_b287) hZ (hW 34 _ rfl) (hW 31 _ rfl) (by decide) (by decide)) (g := (mkF m 54 #[.val (.int q0), .val (.int q1), .val (.int q2), .val (.int q3), .val (.int (q3 &&& (3 : Int32))), .val (.int cd), .val (.ref r273), .val (.ref r278), .val (.ref r283), .unset, .unset] [(.ref r278), (.ref r273), (.ref b287), (.ref b287)])) rfl (by rw [hml]; rfl) (Steps.refl _) (a := b287) (argsL := [(.ref r273), (.ref r278)]) (rest := [(.ref b287)]) (lenOf pd_198 rfl) rfl (by show 2 * 0 + _ ≤ _; exact Nat.le_of_eq rfl) (hb hby at_54) (fun _ _ => ⟨rfl, e287, (by decide : 13 + 0 ≤ _), (by decide : 26 + 0 ≤ _)⟩)
  dsimp only [Pt.U, Pt.locs, Pt.cells, Pt.slots] at X293 l293 y293 z293 st293 hQ293
  subst l293 y293 z293
  obtain ⟨rfl, N293q, K293q, E293q, F293q_countryXName, F293q_countryYName⟩ := hQ293
  have N293 := Fr.app N283 N293q
  have CR294 := CR288.trans (CHr.keep K293q (sfS (Safe.exa hZ.alike A287 (by decide) (by decide)) sf0) CR288.1)
  have K295 : Go p e below T293 (mkF m 57 #[.val (.int q0), .val (.int q1), .val (.int q2), .val (.int q3), .val (.int (q3 &&& (3 : Int32))), .val (.int cd), .val (.ref r273), .val (.ref r278), .val (.ref r283), .unset, .unset] [(.ref b287)]) G := fun tq kq => K292 tq (st293.trans kq)
  have K296 : Go p e below T293 (mkF m 59 #[.val (.int q0), .val (.int q1), .val (.int q2), .val (.int q3), .val (.int (q3 &&& (3 : Int32))), .val (.int cd), .val (.ref r273), .val (.ref r278), .val (.ref r283), .val (.ref b287), .unset] []) G := fun tq kq => K295 tq (XS.astore X293.here hx rfl (hb hby at_57) rfl rfl (l' := #[.val (.int q0), .val (.int q1), .val (.int q2), .val (.int q3), .val (.int (q3 &&& (3 : Int32))), .val (.int cd), .val (.ref r273), .val (.ref r278), .val (.ref r283), .val (.ref b287), .unset]) rfl kq)
  have K297 : Go p e below T293 (mkF m 60 #[.val (.int q0), .val (.int q1), .val (.int q2), .val (.int q3), .val (.int (q3 &&& (3 : Int32))), .val (.int cd), .val (.ref r273), .val (.ref r278), .val (.ref r283), .val (.ref b287), .unset] [(.int q0)]) G := fun tq kq => K296 tq (XS.iloadN X293.here hx rfl (hb hby at_59) rfl kq)
  have K298 : Go p e below T293 (mkF m 62 #[.val (.int q0), .val (.int q1), .val (.int q2), .val (.int q3), .val (.int (q3 &&& (3 : Int32))), .val (.int cd), .val (.ref r273), .val (.ref r278), .val (.ref r283), .val (.ref b287), .unset] [(.int cd), (.int q0)]) G := fun tq kq => K297 tq (XS.iload X293.here hx rfl (hb hby at_60) rfl kq)
  obtain ⟨v299, _, ⟨T299, L299, k299, n299⟩, -, X299, ⟨Lc299, hQ299, l299, y299, z299⟩, st299⟩ := Jvm.LawKit.callS X293 hx (y := (⟨"com/example/kithmark/kithmark/params/PairHoldsPinLaw", "same", "(II)Z"⟩ : MethodName)) hown (mvT hZ (hW 45 _ rfl)) (mvT hZ (hW 46 _ rfl)) (mvT hZ (hW 2 _ rfl)) (mvT hZ (hW 47 _ rfl)) (by decide) (backOf (W := 0) (rmSM l Z a0 hw [] q0 cd T293.heap n0 (Nat.le_trans (Nat.le_trans (Nat.le_trans (Nat.le_trans (Nat.le_trans Z0 K273q.1) K278q.1) K283q.1) E287.1) K293q.1)) hZ (hW 47 _ rfl) (hW 2 _ rfl) (by decide) (by decide)) (g := (mkF m 62 #[.val (.int q0), .val (.int q1), .val (.int q2), .val (.int q3), .val (.int (q3 &&& (3 : Int32))), .val (.int cd), .val (.ref r273), .val (.ref r278), .val (.ref r283), .val (.ref b287), .unset] [(.int cd), (.int q0)])) rfl (by rw [hml]; rfl) (argsL := [(.int q0), (.int cd)]) (rest := []) (lenOf pd_199 rfl) rfl (by show 2 * 0 + _ ≤ _; exact Nat.le_of_eq rfl) (hb hby at_62) (fun _ _ => ⟨rfl, rfl, (by decide : 13 + 0 ≤ _), (by decide : 26 + 0 ≤ _)⟩)
  dsimp only [Pt.U, Pt.locs, Pt.cells, Pt.slots] at X299 l299 y299 z299 st299 hQ299
  subst l299 y299 z299
  by_cases hc300 : own_cs q0 = own_cs cd
  · skip
    rw [QSM, if_pos hc300] at hQ299
    obtain ⟨rfl, N299q, E299q⟩ := hQ299
    have N299 := Fr.app N293 N299q
    have K301 : Go p e below T299 (mkF m 65 #[.val (.int q0), .val (.int q1), .val (.int q2), .val (.int q3), .val (.int (q3 &&& (3 : Int32))), .val (.int cd), .val (.ref r273), .val (.ref r278), .val (.ref r283), .val (.ref b287), .unset] [(.int (1 : Int32))]) G := fun tq kq => K298 tq (st299 tq kq)
    have K302 : Go p e below T299 (mkF m 77 #[.val (.int q0), .val (.int q1), .val (.int q2), .val (.int q3), .val (.int (q3 &&& (3 : Int32))), .val (.int cd), .val (.ref r273), .val (.ref r278), .val (.ref r283), .val (.ref b287), .unset] []) G := fun tq kq => K301 tq (XS.ifYes X299.here hx rfl (pc0 := 65) (pc' := 77) rfl (hb hby at_65) rfl ((if0 _ _).trans (feq (by decide : ¬ ((1 : Int32) = (0 : Int32)))).2) (by decide) (by decide) kq)
    have K303 : Go p e below T299 (mkF m 78 #[.val (.int q0), .val (.int q1), .val (.int q2), .val (.int q3), .val (.int (q3 &&& (3 : Int32))), .val (.int cd), .val (.ref r273), .val (.ref r278), .val (.ref r283), .val (.ref b287), .unset] [(.int (1 : Int32))]) G := fun tq kq => K302 tq (XS.iconst X299.here hx rfl (hb hby at_77) kq)
    have K304 : Go p e below T299 (mkF m 82 #[.val (.int q0), .val (.int q1), .val (.int q2), .val (.int q3), .val (.int (q3 &&& (3 : Int32))), .val (.int cd), .val (.ref r273), .val (.ref r278), .val (.ref r283), .val (.ref b287), .unset] [(.int (1 : Int32))]) G := fun tq kq => K303 tq (XS.goto X299.here hx rfl (pc0 := 78) (pc' := 82) rfl (hb hby at_78) (by decide) (by decide) kq)
    have K305 : Go p e below T299 (mkF m 84 #[.val (.int q0), .val (.int q1), .val (.int q2), .val (.int q3), .val (.int (q3 &&& (3 : Int32))), .val (.int cd), .val (.ref r273), .val (.ref r278), .val (.ref r283), .val (.ref b287), .val (.int (1 : Int32))] []) G := fun tq kq => K304 tq (XS.istore X299.here hx rfl (hb hby at_82) rfl (l' := #[.val (.int q0), .val (.int q1), .val (.int q2), .val (.int q3), .val (.int (q3 &&& (3 : Int32))), .val (.int cd), .val (.ref r273), .val (.ref r278), .val (.ref r283), .val (.ref b287), .val (.int (1 : Int32))]) rfl kq)
    have K306 : Go p e below T299 (mkF m 86 #[.val (.int q0), .val (.int q1), .val (.int q2), .val (.int q3), .val (.int (q3 &&& (3 : Int32))), .val (.int cd), .val (.ref r273), .val (.ref r278), .val (.ref r283), .val (.ref b287), .val (.int (1 : Int32))] [(.ref b287)]) G := fun tq kq => K305 tq (XS.aload X299.here hx rfl (hb hby at_84) rfl rfl kq)
    have K307 : Go p e below T299 (mkF m 88 #[.val (.int q0), .val (.int q1), .val (.int q2), .val (.int q3), .val (.int (q3 &&& (3 : Int32))), .val (.int cd), .val (.ref r273), .val (.ref r278), .val (.ref r283), .val (.ref b287), .val (.int (1 : Int32))] [(.ref r283), (.ref b287)]) G := fun tq kq => K306 tq (XS.aload X299.here hx rfl (hb hby at_86) rfl rfl kq)
    obtain ⟨cq308, kq308, q308a, q308b, q308c⟩ := isOf hZ E299q E293q
    obtain ⟨v308, _, ⟨T308, L308, k308, n308⟩, -, X308, ⟨Lc308, hQ308, l308, y308, z308⟩, st308⟩ := X299.virtualBack hx (y := (⟨"com/example/kithmark/kithmark/params/CountryPairs$Pair", "holds", "(Ljava/lang/String;)Z"⟩ : MethodName)) (z := (⟨"com/example/kithmark/kithmark/params/CountryPairs$Pair", "holds", "(Ljava/lang/String;)Z"⟩ : MethodName)) hown (mvT hZ (hW 48 _ rfl)) (mvT hZ (hW 49 _ rfl)) (notFace_of_selects (args := #[]) (mvT hZ (hW 51 _ rfl))) (mvT hZ (hW 51 _ rfl)) (mvT hZ (hW 50 _ rfl)) (by decide) (backOf (W := 0) (rmHO l Z a0 hw [] b287 r283 r273 r278 cz q0 t273 kb273 n2273 vs273 q1 t278 kb278 n2278 vs278 cd t283 kb283 n2283 vs283 T293.heap n0 (Nat.le_trans (Nat.le_trans (Nat.le_trans (Nat.le_trans (Nat.le_trans Z0 K273q.1) K278q.1) K283q.1) E287.1) K293q.1) (((((O0.keep K273q all0).keep K278q all0).keep K283q all0).ext E287).keep K293q (allS ge_b287 all0)) S_cs hcz F293q_countryXName F293q_countryYName ((((Er273.keep K278q).keep K283q).ext E287).keep K293q) ((((Fv273.keep K278q nin0).keep K283q nin0).ext E287).keep K293q (ninS ne287_r273 nin0)) ((((Fc273.keep K278q nin0).keep K283q nin0).ext E287).keep K293q (ninS ne287_r273 nin0)) ((((Vt273.keep K278q nin0).keep K283q nin0).ext E287).keep K293q (ninS ne287_t273 nin0)) Cd273 (((Er278.keep K283q).ext E287).keep K293q) (((Fv278.keep K283q nin0).ext E287).keep K293q (ninS ne287_r278 nin0)) (((Fc278.keep K283q nin0).ext E287).keep K293q (ninS ne287_r278 nin0)) (((Vt278.keep K283q nin0).ext E287).keep K293q (ninS ne287_t278 nin0)) Cd278 ((Er283.ext E287).keep K293q) ((Fv283.ext E287).keep K293q (ninS ne287_r283 nin0)) ((Fc283.ext E287).keep K293q (ninS ne287_r283 nin0)) ((Vt283.ext E287).keep K293q (ninS ne287_t283 nin0)) Cd283) hZ (hW 52 _ rfl) (hW 31 _ rfl) (by decide) (by decide)) q308a q308c (g := (mkF m 88 #[.val (.int q0), .val (.int q1), .val (.int q2), .val (.int q3), .val (.int (q3 &&& (3 : Int32))), .val (.int cd), .val (.ref r273), .val (.ref r278), .val (.ref r283), .val (.ref b287), .val (.int (1 : Int32))] [(.ref r283), (.ref b287)])) rfl (by rw [hml]; rfl) (Steps.refl _) (argsL := [(.ref r283)]) (rest := []) (lenOf pd_200 rfl) rfl (by show 2 * 0 + _ ≤ _; exact Nat.le_of_eq rfl) (hb hby at_88) (fun _ _ => ⟨rfl, E299q, (by decide : 13 + 0 ≤ _), (by decide : 26 + 0 ≤ _)⟩)
    dsimp only [Pt.U, Pt.locs, Pt.cells, Pt.slots] at X308 l308 y308 z308 st308 hQ308
    subst l308 y308 z308
    rw [QHO, if_pos (Or.inl hc300)] at hQ308
    obtain ⟨rfl, N308q, E308q⟩ := hQ308
    have N308 := Fr.app N299 N308q
    have K309 : Go p e below T308 (mkF m 91 #[.val (.int q0), .val (.int q1), .val (.int q2), .val (.int q3), .val (.int (q3 &&& (3 : Int32))), .val (.int cd), .val (.ref r273), .val (.ref r278), .val (.ref r283), .val (.ref b287), .val (.int (1 : Int32))] [(.int (1 : Int32))]) G := fun tq kq => K307 tq (st308.trans kq)
    have K310 : Go p e below T308 (mkF m 93 #[.val (.int q0), .val (.int q1), .val (.int q2), .val (.int q3), .val (.int (q3 &&& (3 : Int32))), .val (.int cd), .val (.ref r273), .val (.ref r278), .val (.ref r283), .val (.ref b287), .val (.int (1 : Int32))] [(.int (1 : Int32)), (.int (1 : Int32))]) G := fun tq kq => K309 tq (XS.iload X308.here hx rfl (hb hby at_91) rfl kq)
    have K311 : Go p e below T308 (mkF m 96 #[.val (.int q0), .val (.int q1), .val (.int q2), .val (.int q3), .val (.int (q3 &&& (3 : Int32))), .val (.int cd), .val (.ref r273), .val (.ref r278), .val (.ref r283), .val (.ref b287), .val (.int (1 : Int32))] []) G := fun tq kq => K310 tq (XS.icmpNo X308.here hx rfl (hb hby at_93) rfl ((teq (by decide : (1 : Int32) = (1 : Int32))).2) kq)
    have K312 : Go p e below T308 (mkF m 97 #[.val (.int q0), .val (.int q1), .val (.int q2), .val (.int q3), .val (.int (q3 &&& (3 : Int32))), .val (.int cd), .val (.ref r273), .val (.ref r278), .val (.ref r283), .val (.ref b287), .val (.int (1 : Int32))] [(.int (1 : Int32))]) G := fun tq kq => K311 tq (XS.iconst X308.here hx rfl (hb hby at_96) kq)
    have K313 : Go p e below T308 (mkF m 101 #[.val (.int q0), .val (.int q1), .val (.int q2), .val (.int q3), .val (.int (q3 &&& (3 : Int32))), .val (.int cd), .val (.ref r273), .val (.ref r278), .val (.ref r283), .val (.ref b287), .val (.int (1 : Int32))] [(.int (1 : Int32))]) G := fun tq kq => K312 tq (XS.goto X308.here hx rfl (pc0 := 97) (pc' := 101) rfl (hb hby at_97) (by decide) (by decide) kq)
    obtain ⟨fs, hr, hrun, hended, hRE⟩ := X308.leaveW (s := s) hSb283 (by first | exact (Nat.le_trans (Nat.le_trans (Nat.le_refl _) E287.1) K293q.1) | (rw [E308q]; exact (Nat.le_trans (Nat.le_trans (Nat.le_refl _) E287.1) K293q.1))) (v := some (.int (1 : Int32))) (fun h => by rw [Bd.returns] at h; cases h)
    have CRe := CR294.trans (CHv.at X308 hZ hEL CR294.1)
    refine ⟨_, _, hG _ (K313 _ (retN X308 hx (t := .boolean) Bd.returns (by simp) (hb hby at_101) hr)), hrun, hended, _, _, rfl, ?_, (by show CHr Z own_EL s.vm s.heap T308.vm T308.heap; rw [hh, E308q]; exact CRe), hRE.1, hRE.2.1, hRE.2.2.1, hRE.2.2.2.mono (by decide) (by decide)⟩
    show Q0 Z q0 q1 q2 q3 cz h0 n0 _ T308.heap _
    rw [E308q]
    exact ⟨rfl, N308⟩
  · skip
    rw [QSM, if_neg hc300] at hQ299
    obtain ⟨rfl, N299q, E299q⟩ := hQ299
    have N299 := Fr.app N293 N299q
    have K314 : Go p e below T299 (mkF m 65 #[.val (.int q0), .val (.int q1), .val (.int q2), .val (.int q3), .val (.int (q3 &&& (3 : Int32))), .val (.int cd), .val (.ref r273), .val (.ref r278), .val (.ref r283), .val (.ref b287), .unset] [(.int (0 : Int32))]) G := fun tq kq => K298 tq (st299 tq kq)
    have K315 : Go p e below T299 (mkF m 68 #[.val (.int q0), .val (.int q1), .val (.int q2), .val (.int q3), .val (.int (q3 &&& (3 : Int32))), .val (.int cd), .val (.ref r273), .val (.ref r278), .val (.ref r283), .val (.ref b287), .unset] []) G := fun tq kq => K314 tq (XS.ifNo X299.here hx rfl (hb hby at_65) rfl ((if0 _ _).trans (teq (by decide : (0 : Int32) = (0 : Int32))).2) kq)
    have K316 : Go p e below T299 (mkF m 69 #[.val (.int q0), .val (.int q1), .val (.int q2), .val (.int q3), .val (.int (q3 &&& (3 : Int32))), .val (.int cd), .val (.ref r273), .val (.ref r278), .val (.ref r283), .val (.ref b287), .unset] [(.int q1)]) G := fun tq kq => K315 tq (XS.iloadN X299.here hx rfl (hb hby at_68) rfl kq)
    have K317 : Go p e below T299 (mkF m 71 #[.val (.int q0), .val (.int q1), .val (.int q2), .val (.int q3), .val (.int (q3 &&& (3 : Int32))), .val (.int cd), .val (.ref r273), .val (.ref r278), .val (.ref r283), .val (.ref b287), .unset] [(.int cd), (.int q1)]) G := fun tq kq => K316 tq (XS.iload X299.here hx rfl (hb hby at_69) rfl kq)
    obtain ⟨v318, _, ⟨T318, L318, k318, n318⟩, -, X318, ⟨Lc318, hQ318, l318, y318, z318⟩, st318⟩ := Jvm.LawKit.callS X299 hx (y := (⟨"com/example/kithmark/kithmark/params/PairHoldsPinLaw", "same", "(II)Z"⟩ : MethodName)) hown (mvT hZ (hW 45 _ rfl)) (mvT hZ (hW 46 _ rfl)) (mvT hZ (hW 2 _ rfl)) (mvT hZ (hW 47 _ rfl)) (by decide) (backOf (W := 0) (rmSM l Z a0 hw [] q1 cd T293.heap n0 (Nat.le_trans (Nat.le_trans (Nat.le_trans (Nat.le_trans (Nat.le_trans Z0 K273q.1) K278q.1) K283q.1) E287.1) K293q.1)) hZ (hW 47 _ rfl) (hW 2 _ rfl) (by decide) (by decide)) (g := (mkF m 71 #[.val (.int q0), .val (.int q1), .val (.int q2), .val (.int q3), .val (.int (q3 &&& (3 : Int32))), .val (.int cd), .val (.ref r273), .val (.ref r278), .val (.ref r283), .val (.ref b287), .unset] [(.int cd), (.int q1)])) rfl (by rw [hml]; rfl) (argsL := [(.int q1), (.int cd)]) (rest := []) (lenOf pd_199 rfl) rfl (by show 2 * 0 + _ ≤ _; exact Nat.le_of_eq rfl) (hb hby at_71) (fun _ _ => ⟨rfl, E299q, (by decide : 13 + 0 ≤ _), (by decide : 26 + 0 ≤ _)⟩)
    dsimp only [Pt.U, Pt.locs, Pt.cells, Pt.slots] at X318 l318 y318 z318 st318 hQ318
    subst l318 y318 z318
    by_cases hc319 : own_cs q1 = own_cs cd
    · skip
      rw [QSM, if_pos hc319] at hQ318
      obtain ⟨rfl, N318q, E318q⟩ := hQ318
      have N318 := Fr.app N299 N318q
      have K320 : Go p e below T318 (mkF m 74 #[.val (.int q0), .val (.int q1), .val (.int q2), .val (.int q3), .val (.int (q3 &&& (3 : Int32))), .val (.int cd), .val (.ref r273), .val (.ref r278), .val (.ref r283), .val (.ref b287), .unset] [(.int (1 : Int32))]) G := fun tq kq => K317 tq (st318 tq kq)
      have K321 : Go p e below T318 (mkF m 77 #[.val (.int q0), .val (.int q1), .val (.int q2), .val (.int q3), .val (.int (q3 &&& (3 : Int32))), .val (.int cd), .val (.ref r273), .val (.ref r278), .val (.ref r283), .val (.ref b287), .unset] []) G := fun tq kq => K320 tq (XS.ifNo X318.here hx rfl (hb hby at_74) rfl ((if0 _ _).trans (feq (by decide : ¬ ((1 : Int32) = (0 : Int32)))).1) kq)
      have K322 : Go p e below T318 (mkF m 78 #[.val (.int q0), .val (.int q1), .val (.int q2), .val (.int q3), .val (.int (q3 &&& (3 : Int32))), .val (.int cd), .val (.ref r273), .val (.ref r278), .val (.ref r283), .val (.ref b287), .unset] [(.int (1 : Int32))]) G := fun tq kq => K321 tq (XS.iconst X318.here hx rfl (hb hby at_77) kq)
      have K323 : Go p e below T318 (mkF m 82 #[.val (.int q0), .val (.int q1), .val (.int q2), .val (.int q3), .val (.int (q3 &&& (3 : Int32))), .val (.int cd), .val (.ref r273), .val (.ref r278), .val (.ref r283), .val (.ref b287), .unset] [(.int (1 : Int32))]) G := fun tq kq => K322 tq (XS.goto X318.here hx rfl (pc0 := 78) (pc' := 82) rfl (hb hby at_78) (by decide) (by decide) kq)
      have K324 : Go p e below T318 (mkF m 84 #[.val (.int q0), .val (.int q1), .val (.int q2), .val (.int q3), .val (.int (q3 &&& (3 : Int32))), .val (.int cd), .val (.ref r273), .val (.ref r278), .val (.ref r283), .val (.ref b287), .val (.int (1 : Int32))] []) G := fun tq kq => K323 tq (XS.istore X318.here hx rfl (hb hby at_82) rfl (l' := #[.val (.int q0), .val (.int q1), .val (.int q2), .val (.int q3), .val (.int (q3 &&& (3 : Int32))), .val (.int cd), .val (.ref r273), .val (.ref r278), .val (.ref r283), .val (.ref b287), .val (.int (1 : Int32))]) rfl kq)
      have K325 : Go p e below T318 (mkF m 86 #[.val (.int q0), .val (.int q1), .val (.int q2), .val (.int q3), .val (.int (q3 &&& (3 : Int32))), .val (.int cd), .val (.ref r273), .val (.ref r278), .val (.ref r283), .val (.ref b287), .val (.int (1 : Int32))] [(.ref b287)]) G := fun tq kq => K324 tq (XS.aload X318.here hx rfl (hb hby at_84) rfl rfl kq)
      have K326 : Go p e below T318 (mkF m 88 #[.val (.int q0), .val (.int q1), .val (.int q2), .val (.int q3), .val (.int (q3 &&& (3 : Int32))), .val (.int cd), .val (.ref r273), .val (.ref r278), .val (.ref r283), .val (.ref b287), .val (.int (1 : Int32))] [(.ref r283), (.ref b287)]) G := fun tq kq => K325 tq (XS.aload X318.here hx rfl (hb hby at_86) rfl rfl kq)
      obtain ⟨cq327, kq327, q327a, q327b, q327c⟩ := isOf hZ E318q E293q
      obtain ⟨v327, _, ⟨T327, L327, k327, n327⟩, -, X327, ⟨Lc327, hQ327, l327, y327, z327⟩, st327⟩ := X318.virtualBack hx (y := (⟨"com/example/kithmark/kithmark/params/CountryPairs$Pair", "holds", "(Ljava/lang/String;)Z"⟩ : MethodName)) (z := (⟨"com/example/kithmark/kithmark/params/CountryPairs$Pair", "holds", "(Ljava/lang/String;)Z"⟩ : MethodName)) hown (mvT hZ (hW 48 _ rfl)) (mvT hZ (hW 49 _ rfl)) (notFace_of_selects (args := #[]) (mvT hZ (hW 51 _ rfl))) (mvT hZ (hW 51 _ rfl)) (mvT hZ (hW 50 _ rfl)) (by decide) (backOf (W := 0) (rmHO l Z a0 hw [] b287 r283 r273 r278 cz q0 t273 kb273 n2273 vs273 q1 t278 kb278 n2278 vs278 cd t283 kb283 n2283 vs283 T293.heap n0 (Nat.le_trans (Nat.le_trans (Nat.le_trans (Nat.le_trans (Nat.le_trans Z0 K273q.1) K278q.1) K283q.1) E287.1) K293q.1) (((((O0.keep K273q all0).keep K278q all0).keep K283q all0).ext E287).keep K293q (allS ge_b287 all0)) S_cs hcz F293q_countryXName F293q_countryYName ((((Er273.keep K278q).keep K283q).ext E287).keep K293q) ((((Fv273.keep K278q nin0).keep K283q nin0).ext E287).keep K293q (ninS ne287_r273 nin0)) ((((Fc273.keep K278q nin0).keep K283q nin0).ext E287).keep K293q (ninS ne287_r273 nin0)) ((((Vt273.keep K278q nin0).keep K283q nin0).ext E287).keep K293q (ninS ne287_t273 nin0)) Cd273 (((Er278.keep K283q).ext E287).keep K293q) (((Fv278.keep K283q nin0).ext E287).keep K293q (ninS ne287_r278 nin0)) (((Fc278.keep K283q nin0).ext E287).keep K293q (ninS ne287_r278 nin0)) (((Vt278.keep K283q nin0).ext E287).keep K293q (ninS ne287_t278 nin0)) Cd278 ((Er283.ext E287).keep K293q) ((Fv283.ext E287).keep K293q (ninS ne287_r283 nin0)) ((Fc283.ext E287).keep K293q (ninS ne287_r283 nin0)) ((Vt283.ext E287).keep K293q (ninS ne287_t283 nin0)) Cd283) hZ (hW 52 _ rfl) (hW 31 _ rfl) (by decide) (by decide)) q327a q327c (g := (mkF m 88 #[.val (.int q0), .val (.int q1), .val (.int q2), .val (.int q3), .val (.int (q3 &&& (3 : Int32))), .val (.int cd), .val (.ref r273), .val (.ref r278), .val (.ref r283), .val (.ref b287), .val (.int (1 : Int32))] [(.ref r283), (.ref b287)])) rfl (by rw [hml]; rfl) (Steps.refl _) (argsL := [(.ref r283)]) (rest := []) (lenOf pd_200 rfl) rfl (by show 2 * 0 + _ ≤ _; exact Nat.le_of_eq rfl) (hb hby at_88) (fun _ _ => ⟨rfl, E318q, (by decide : 13 + 0 ≤ _), (by decide : 26 + 0 ≤ _)⟩)
      dsimp only [Pt.U, Pt.locs, Pt.cells, Pt.slots] at X327 l327 y327 z327 st327 hQ327
      subst l327 y327 z327
      rw [QHO, if_pos (Or.inr hc319)] at hQ327
      obtain ⟨rfl, N327q, E327q⟩ := hQ327
      have N327 := Fr.app N318 N327q
      have K328 : Go p e below T327 (mkF m 91 #[.val (.int q0), .val (.int q1), .val (.int q2), .val (.int q3), .val (.int (q3 &&& (3 : Int32))), .val (.int cd), .val (.ref r273), .val (.ref r278), .val (.ref r283), .val (.ref b287), .val (.int (1 : Int32))] [(.int (1 : Int32))]) G := fun tq kq => K326 tq (st327.trans kq)
      have K329 : Go p e below T327 (mkF m 93 #[.val (.int q0), .val (.int q1), .val (.int q2), .val (.int q3), .val (.int (q3 &&& (3 : Int32))), .val (.int cd), .val (.ref r273), .val (.ref r278), .val (.ref r283), .val (.ref b287), .val (.int (1 : Int32))] [(.int (1 : Int32)), (.int (1 : Int32))]) G := fun tq kq => K328 tq (XS.iload X327.here hx rfl (hb hby at_91) rfl kq)
      have K330 : Go p e below T327 (mkF m 96 #[.val (.int q0), .val (.int q1), .val (.int q2), .val (.int q3), .val (.int (q3 &&& (3 : Int32))), .val (.int cd), .val (.ref r273), .val (.ref r278), .val (.ref r283), .val (.ref b287), .val (.int (1 : Int32))] []) G := fun tq kq => K329 tq (XS.icmpNo X327.here hx rfl (hb hby at_93) rfl ((teq (by decide : (1 : Int32) = (1 : Int32))).2) kq)
      have K331 : Go p e below T327 (mkF m 97 #[.val (.int q0), .val (.int q1), .val (.int q2), .val (.int q3), .val (.int (q3 &&& (3 : Int32))), .val (.int cd), .val (.ref r273), .val (.ref r278), .val (.ref r283), .val (.ref b287), .val (.int (1 : Int32))] [(.int (1 : Int32))]) G := fun tq kq => K330 tq (XS.iconst X327.here hx rfl (hb hby at_96) kq)
      have K332 : Go p e below T327 (mkF m 101 #[.val (.int q0), .val (.int q1), .val (.int q2), .val (.int q3), .val (.int (q3 &&& (3 : Int32))), .val (.int cd), .val (.ref r273), .val (.ref r278), .val (.ref r283), .val (.ref b287), .val (.int (1 : Int32))] [(.int (1 : Int32))]) G := fun tq kq => K331 tq (XS.goto X327.here hx rfl (pc0 := 97) (pc' := 101) rfl (hb hby at_97) (by decide) (by decide) kq)
      obtain ⟨fs, hr, hrun, hended, hRE⟩ := X327.leaveW (s := s) hSb283 (by first | exact (Nat.le_trans (Nat.le_trans (Nat.le_refl _) E287.1) K293q.1) | (rw [E327q]; exact (Nat.le_trans (Nat.le_trans (Nat.le_refl _) E287.1) K293q.1))) (v := some (.int (1 : Int32))) (fun h => by rw [Bd.returns] at h; cases h)
      have CRe := CR294.trans (CHv.at X327 hZ hEL CR294.1)
      refine ⟨_, _, hG _ (K332 _ (retN X327 hx (t := .boolean) Bd.returns (by simp) (hb hby at_101) hr)), hrun, hended, _, _, rfl, ?_, (by show CHr Z own_EL s.vm s.heap T327.vm T327.heap; rw [hh, E327q]; exact CRe), hRE.1, hRE.2.1, hRE.2.2.1, hRE.2.2.2.mono (by decide) (by decide)⟩
      show Q0 Z q0 q1 q2 q3 cz h0 n0 _ T327.heap _
      rw [E327q]
      exact ⟨rfl, N327⟩
    · skip
      rw [QSM, if_neg hc319] at hQ318
      obtain ⟨rfl, N318q, E318q⟩ := hQ318
      have N318 := Fr.app N299 N318q
      have K333 : Go p e below T318 (mkF m 74 #[.val (.int q0), .val (.int q1), .val (.int q2), .val (.int q3), .val (.int (q3 &&& (3 : Int32))), .val (.int cd), .val (.ref r273), .val (.ref r278), .val (.ref r283), .val (.ref b287), .unset] [(.int (0 : Int32))]) G := fun tq kq => K317 tq (st318 tq kq)
      have K334 : Go p e below T318 (mkF m 81 #[.val (.int q0), .val (.int q1), .val (.int q2), .val (.int q3), .val (.int (q3 &&& (3 : Int32))), .val (.int cd), .val (.ref r273), .val (.ref r278), .val (.ref r283), .val (.ref b287), .unset] []) G := fun tq kq => K333 tq (XS.ifYes X318.here hx rfl (pc0 := 74) (pc' := 81) rfl (hb hby at_74) rfl ((if0 _ _).trans (teq (by decide : (0 : Int32) = (0 : Int32))).1) (by decide) (by decide) kq)
      have K335 : Go p e below T318 (mkF m 82 #[.val (.int q0), .val (.int q1), .val (.int q2), .val (.int q3), .val (.int (q3 &&& (3 : Int32))), .val (.int cd), .val (.ref r273), .val (.ref r278), .val (.ref r283), .val (.ref b287), .unset] [(.int (0 : Int32))]) G := fun tq kq => K334 tq (XS.iconst X318.here hx rfl (hb hby at_81) kq)
      have K336 : Go p e below T318 (mkF m 84 #[.val (.int q0), .val (.int q1), .val (.int q2), .val (.int q3), .val (.int (q3 &&& (3 : Int32))), .val (.int cd), .val (.ref r273), .val (.ref r278), .val (.ref r283), .val (.ref b287), .val (.int (0 : Int32))] []) G := fun tq kq => K335 tq (XS.istore X318.here hx rfl (hb hby at_82) rfl (l' := #[.val (.int q0), .val (.int q1), .val (.int q2), .val (.int q3), .val (.int (q3 &&& (3 : Int32))), .val (.int cd), .val (.ref r273), .val (.ref r278), .val (.ref r283), .val (.ref b287), .val (.int (0 : Int32))]) rfl kq)
      have K337 : Go p e below T318 (mkF m 86 #[.val (.int q0), .val (.int q1), .val (.int q2), .val (.int q3), .val (.int (q3 &&& (3 : Int32))), .val (.int cd), .val (.ref r273), .val (.ref r278), .val (.ref r283), .val (.ref b287), .val (.int (0 : Int32))] [(.ref b287)]) G := fun tq kq => K336 tq (XS.aload X318.here hx rfl (hb hby at_84) rfl rfl kq)
      have K338 : Go p e below T318 (mkF m 88 #[.val (.int q0), .val (.int q1), .val (.int q2), .val (.int q3), .val (.int (q3 &&& (3 : Int32))), .val (.int cd), .val (.ref r273), .val (.ref r278), .val (.ref r283), .val (.ref b287), .val (.int (0 : Int32))] [(.ref r283), (.ref b287)]) G := fun tq kq => K337 tq (XS.aload X318.here hx rfl (hb hby at_86) rfl rfl kq)
      obtain ⟨cq339, kq339, q339a, q339b, q339c⟩ := isOf hZ E318q E293q
      obtain ⟨v339, _, ⟨T339, L339, k339, n339⟩, -, X339, ⟨Lc339, hQ339, l339, y339, z339⟩, st339⟩ := X318.virtualBack hx (y := (⟨"com/example/kithmark/kithmark/params/CountryPairs$Pair", "holds", "(Ljava/lang/String;)Z"⟩ : MethodName)) (z := (⟨"com/example/kithmark/kithmark/params/CountryPairs$Pair", "holds", "(Ljava/lang/String;)Z"⟩ : MethodName)) hown (mvT hZ (hW 48 _ rfl)) (mvT hZ (hW 49 _ rfl)) (notFace_of_selects (args := #[]) (mvT hZ (hW 51 _ rfl))) (mvT hZ (hW 51 _ rfl)) (mvT hZ (hW 50 _ rfl)) (by decide) (backOf (W := 0) (rmHO l Z a0 hw [] b287 r283 r273 r278 cz q0 t273 kb273 n2273 vs273 q1 t278 kb278 n2278 vs278 cd t283 kb283 n2283 vs283 T293.heap n0 (Nat.le_trans (Nat.le_trans (Nat.le_trans (Nat.le_trans (Nat.le_trans Z0 K273q.1) K278q.1) K283q.1) E287.1) K293q.1) (((((O0.keep K273q all0).keep K278q all0).keep K283q all0).ext E287).keep K293q (allS ge_b287 all0)) S_cs hcz F293q_countryXName F293q_countryYName ((((Er273.keep K278q).keep K283q).ext E287).keep K293q) ((((Fv273.keep K278q nin0).keep K283q nin0).ext E287).keep K293q (ninS ne287_r273 nin0)) ((((Fc273.keep K278q nin0).keep K283q nin0).ext E287).keep K293q (ninS ne287_r273 nin0)) ((((Vt273.keep K278q nin0).keep K283q nin0).ext E287).keep K293q (ninS ne287_t273 nin0)) Cd273 (((Er278.keep K283q).ext E287).keep K293q) (((Fv278.keep K283q nin0).ext E287).keep K293q (ninS ne287_r278 nin0)) (((Fc278.keep K283q nin0).ext E287).keep K293q (ninS ne287_r278 nin0)) (((Vt278.keep K283q nin0).ext E287).keep K293q (ninS ne287_t278 nin0)) Cd278 ((Er283.ext E287).keep K293q) ((Fv283.ext E287).keep K293q (ninS ne287_r283 nin0)) ((Fc283.ext E287).keep K293q (ninS ne287_r283 nin0)) ((Vt283.ext E287).keep K293q (ninS ne287_t283 nin0)) Cd283) hZ (hW 52 _ rfl) (hW 31 _ rfl) (by decide) (by decide)) q339a q339c (g := (mkF m 88 #[.val (.int q0), .val (.int q1), .val (.int q2), .val (.int q3), .val (.int (q3 &&& (3 : Int32))), .val (.int cd), .val (.ref r273), .val (.ref r278), .val (.ref r283), .val (.ref b287), .val (.int (0 : Int32))] [(.ref r283), (.ref b287)])) rfl (by rw [hml]; rfl) (Steps.refl _) (argsL := [(.ref r283)]) (rest := []) (lenOf pd_200 rfl) rfl (by show 2 * 0 + _ ≤ _; exact Nat.le_of_eq rfl) (hb hby at_88) (fun _ _ => ⟨rfl, E318q, (by decide : 13 + 0 ≤ _), (by decide : 26 + 0 ≤ _)⟩)
      dsimp only [Pt.U, Pt.locs, Pt.cells, Pt.slots] at X339 l339 y339 z339 st339 hQ339
      subst l339 y339 z339
      rw [QHO, if_neg (fun w => w.elim hc300 hc319)] at hQ339
      obtain ⟨rfl, N339q, E339q⟩ := hQ339
      have N339 := Fr.app N318 N339q
      have K340 : Go p e below T339 (mkF m 91 #[.val (.int q0), .val (.int q1), .val (.int q2), .val (.int q3), .val (.int (q3 &&& (3 : Int32))), .val (.int cd), .val (.ref r273), .val (.ref r278), .val (.ref r283), .val (.ref b287), .val (.int (0 : Int32))] [(.int (0 : Int32))]) G := fun tq kq => K338 tq (st339.trans kq)
      have K341 : Go p e below T339 (mkF m 93 #[.val (.int q0), .val (.int q1), .val (.int q2), .val (.int q3), .val (.int (q3 &&& (3 : Int32))), .val (.int cd), .val (.ref r273), .val (.ref r278), .val (.ref r283), .val (.ref b287), .val (.int (0 : Int32))] [(.int (0 : Int32)), (.int (0 : Int32))]) G := fun tq kq => K340 tq (XS.iload X339.here hx rfl (hb hby at_91) rfl kq)
      have K342 : Go p e below T339 (mkF m 96 #[.val (.int q0), .val (.int q1), .val (.int q2), .val (.int q3), .val (.int (q3 &&& (3 : Int32))), .val (.int cd), .val (.ref r273), .val (.ref r278), .val (.ref r283), .val (.ref b287), .val (.int (0 : Int32))] []) G := fun tq kq => K341 tq (XS.icmpNo X339.here hx rfl (hb hby at_93) rfl ((teq (by decide : (0 : Int32) = (0 : Int32))).2) kq)
      have K343 : Go p e below T339 (mkF m 97 #[.val (.int q0), .val (.int q1), .val (.int q2), .val (.int q3), .val (.int (q3 &&& (3 : Int32))), .val (.int cd), .val (.ref r273), .val (.ref r278), .val (.ref r283), .val (.ref b287), .val (.int (0 : Int32))] [(.int (1 : Int32))]) G := fun tq kq => K342 tq (XS.iconst X339.here hx rfl (hb hby at_96) kq)
      have K344 : Go p e below T339 (mkF m 101 #[.val (.int q0), .val (.int q1), .val (.int q2), .val (.int q3), .val (.int (q3 &&& (3 : Int32))), .val (.int cd), .val (.ref r273), .val (.ref r278), .val (.ref r283), .val (.ref b287), .val (.int (0 : Int32))] [(.int (1 : Int32))]) G := fun tq kq => K343 tq (XS.goto X339.here hx rfl (pc0 := 97) (pc' := 101) rfl (hb hby at_97) (by decide) (by decide) kq)
      obtain ⟨fs, hr, hrun, hended, hRE⟩ := X339.leaveW (s := s) hSb283 (by first | exact (Nat.le_trans (Nat.le_trans (Nat.le_refl _) E287.1) K293q.1) | (rw [E339q]; exact (Nat.le_trans (Nat.le_trans (Nat.le_refl _) E287.1) K293q.1))) (v := some (.int (1 : Int32))) (fun h => by rw [Bd.returns] at h; cases h)
      have CRe := CR294.trans (CHv.at X339 hZ hEL CR294.1)
      refine ⟨_, _, hG _ (K344 _ (retN X339 hx (t := .boolean) Bd.returns (by simp) (hb hby at_101) hr)), hrun, hended, _, _, rfl, ?_, (by show CHr Z own_EL s.vm s.heap T339.vm T339.heap; rw [hh, E339q]; exact CRe), hRE.1, hRE.2.1, hRE.2.2.1, hRE.2.2.2.mono (by decide) (by decide)⟩
      show Q0 Z q0 q1 q2 q3 cz h0 n0 _ T339.heap _
      rw [E339q]
      exact ⟨rfl, N339⟩
set_option maxRecDepth 65536 in
set_option maxHeartbeats 40000000 in
theorem comes_1 {Post : Tables → Env → Array Value → State → Outcome → State → Prop} (hpost : ∀ tb e args s v u, (limb_1_1.after args s (.returned v) u = true ∧ limb_1_2.after args s (.returned v) u = true ∧ True) → ReturnedEndW s (.returned v) u (Jvm.fieldLocs frame_1_writes args s ++ Jvm.arrayLocs frame_1_arrays args s ++ Jvm.staticLocs frame_1_statics s) 32 1152 → Post tb e args s (.returned v) u) :
    ArmFor flags0 classFile x code maxLocals ret World_1 tables_1 room_1 Calls_1 rest_1 Pre_1 Post := by
  intro l hfl _ _ p e ha hc hk s m args below hf hA hF happ hP
  obtain ⟨hcalls, hrest, hpre⟩ := hP
  obtain ⟨-, -, -, hnamed, -, -, -, hat⟩ := (Spec.applies_iff hf).mp happ
  obtain ⟨hg, hn⟩ := and_e (Cond.before_iff.mp (show (Jvm.Cond.and given_1 narrow_1).before args s = true from hpre))
  obtain ⟨gg1, gg2⟩ := and_e hg
  obtain ⟨gg3, gg4⟩ := and_e gg2
  obtain ⟨gg5, gg6⟩ := and_e gg4
  obtain ⟨gg7, gg8⟩ := and_e gg6
  obtain ⟨w0, w1, w2, w3, rfl⟩ : ∃ w0 w1 w2 w3 : Value, args = #[w0, w1, w2, w3] := by
    have hs : args.size = 4 := by simpa [Cond.value, given_1] using gg1
    obtain ⟨L⟩ := args
    match L, hs with
    | [w0, w1, w2, w3], _ => exact ⟨w0, w1, w2, w3, rfl⟩
  have hw := fun d (hd : d ∈ tables_1) => atoms_spec (ws := Jvm.Cond.code x code maxLocals ret :: tables_1) hat d (List.mem_cons_of_mem _ hd)
  have hW : ∀ (k : Nat) (d : Jvm.Cond), tables_1[k]? = some d → d.before _ s = true := fun k d h => hw d (List.mem_of_getElem? h)
  have hfit : Fit s := fun {y c} hc i hi => by
    obtain ⟨ha, rfl⟩ := Array.getElem?_eq_some_iff.mp hc
    have q := List.all_eq_true.mp ((Array.all_eq_true_iff_forall_mem.mp hF) _ (Array.getElem_mem ha)) i (List.mem_range.mpr hi)
    simpa [Array.getElem?_eq_getElem hi] using q
  obtain ⟨hsets, hown0⟩ := atoms_of _ (rest_1_c_eq ▸ (show rest_1_c.before _ s = true from hrest))
  have hr0 := Cond.before_iff.mp hown0
  obtain ⟨i0, ei0⟩ := is_v gg3
  obtain rfl : w0 = (.int i0) := Option.some.inj ei0
  obtain ⟨i1, ei1⟩ := is_v gg5
  obtain rfl : w1 = (.int i1) := Option.some.inj ei1
  obtain ⟨i2, ei2⟩ := is_v gg7
  obtain rfl : w2 = (.int i2) := Option.some.inj ei2
  obtain ⟨i3, ei3⟩ := is_v gg8
  obtain rfl : w3 = (.int i3) := Option.some.inj ei3
  have hS : ∀ (k : Nat) (d : Jvm.Cond), jdkStatics_1[k]? = some d → d.before _ s = true := fun k d h => hsets d (List.mem_of_getElem? h)
  obtain ⟨cz, ecz⟩ := is_v (Cond.before_iff.mp (hS 1 _ rfl))
  have S_cs : Sta s s.heap "java/lang/String" "COMPACT_STRINGS" "Z" (.int cz) := Sta.start ecz (Or.inl (hS 0 _ rfl))
  have hcz : ¬ (cz = (0 : Int32)) := gotF (Cond.eq_ints ecz (Term.int_eval (0))) (not_v (Cond.before_iff.mp (hS 2 _ rfl)))
  have HC : CHv s own_EL s.vm s.heap := CHv.start (own_EW hW) (fun p hp => hcalls.1 p hp) (hS 2 _ rfl) (hW 22 _ rfl) (hW 8 _ rfl)
  obtain ⟨n, o, h1, h2, h3, _, L, rfl, ⟨rfl, N⟩, -, hq⟩ := rm0 l s _ hw tables_1 i0 i1 i2 i3 cz s.heap s.heap.size (Nat.le_refl _) (Old.start s) S_cs hcz p e ha hc hk s m _ below hf ((Spec.applies_iff_loose hf).mp happ).1 ⟨rfl, State.Warmed39.refl s, rfl, HC⟩ trivial
  refine ⟨n, _, h1, h2, h3, hpost _ _ _ _ _ _ ⟨Cond.after_iff.mpr rfl, Cond.after_iff.mpr (eq_i res_at (Term.int_eval (1)) rfl), trivial⟩ ⟨hq.1, hq.2.1, hq.2.2.1, (hq.2.2.2.sift fun y hy => Or.inr (N y hy)).mono (by decide) (by decide)⟩⟩
theorem main_1_1 : Claimed_1_1 := comes_1 fun _ _ _ _ _ _ h hF => ⟨h.1, hF⟩
theorem main_1_2 : Claimed_1_2 := comes_1 fun _ _ _ _ _ _ h hF => ⟨h.2.1, hF⟩
end Jvm.Pilot.@@N@@
namespace Jvm.Pilot.@@N@@
open Jvm Jvm.ClassFile Sem Op Lib Jvm.Free Jvm.Stand Jvm.Pilot.@@N@@.Jvm.D
/-! MADE BY PROGRAM (witnessworld.py) out of the Statement's table words and the real class files: 21 classes; the members and pool entries that the words name. The judged class is class 1, her method 1. -/
namespace start1
open Jvm.ClassFile
def u (s : String) : CpInfo := .utf8 (stringToUtf16 s)
/-- a pool by its gaps: so many unusable entries, then the entry; so many at the end -/
def gap : Nat → List CpInfo → List CpInfo
  | 0, r => r
  | n + 1, r => .unusable :: gap n r
def poolList (es : List (Nat × CpInfo)) (last : Nat) : List CpInfo := es.foldr (fun e r => gap e.1 (e.2 :: r)) (gap last [])
def pool (es : List (Nat × CpInfo)) (last : Nat) : Array CpInfo := ⟨poolList es last⟩
def fileOf (pool : Array CpInfo) (this : Nat) (attrs : Array Attribute := #[]) (ms : Array MethodInfo := #[]) (fl : Nat := 33) (sup : Nat := 0) (ifs : Array Nat := #[]) (fds : Array FieldInfo := #[]) : ClassFile where
  minorVersion := 0
  majorVersion := 65
  constantPool := pool
  accessFlags := fl
  thisClass := this
  superClass := sup
  interfaces := ifs
  fields := fds
  methods := ms
  attributes := attrs
def plain (name : String) (sup : Option ClassId) : Class where
  name := name
  kind := .ordinary
  loader := none
  accessFlags := 33
  super := sup
  interfaces := #[]
  cf := none
  fields := #[]
  methods := #[]
  instanceTypes := #[]
  staticTypes := #[]
  resolved := #[]
  callSites := []
  init := .initialized
  statics := none
  mirror := none

def pool0 : Array CpInfo := pool [(5, u "<init>"), (0, u "()V"), (1, .class_ 10), (1, u "java/lang/Object")] 113

def k0c0 : Code := { maxStack := 0, maxLocals := 1, code := object_method_1_code, exceptionTable := #[], attributes := #[] }
def k0m0 : Method := { name := "<init>", desc := "()V", sig := { parameters := [], returnType := none }, accessFlags := 1, code := some k0c0 }
/-- java/lang/Object -/
def k0 : Class := { plain "java/lang/Object" none with
  accessFlags := 33
  interfaces := #[]
  cf := some (fileOf pool0 8 #[] #[{ accessFlags := 1, nameIndex := 5, descriptorIndex := 6, attributes := #[] }] 33 0 #[] #[])
  fields := #[]
  methods := #[k0m0]
  instanceTypes := #[]
  staticTypes := #[]
  resolved := Array.replicate 124 none
  statics := none }

def pool1 : Array CpInfo := pool [(2, .class_ 4), (1, u "java/lang/Object"), (0, u "<init>"), (0, u "()V"), (0, .methodref 8 9), (0, .class_ 10), (0, .nameAndType 11 12), (0, u "com/example/kithmark/kithmark/params/PairHoldsPinLaw"), (0, u "make"), (0, u "(I)Ljava/lang/String;"), (0, .class_ 14), (0, u "com/example/kithmark/kithmark/params/CountryPairs$Pair"), (0, .methodref 13 16), (0, .nameAndType 5 17), (0, u "(Ljava/lang/String;Ljava/lang/String;)V"), (0, .methodref 8 19), (0, .nameAndType 20 21), (0, u "same"), (0, u "(II)Z"), (0, .methodref 13 23), (0, .nameAndType 24 25), (0, u "holds"), (0, u "(Ljava/lang/String;)Z"), (0, .methodref 8 27), (0, .nameAndType 28 29), (0, u "len"), (0, u "(I)I"), (0, .class_ 31), (0, u "java/lang/String"), (0, .methodref 30 33), (0, .nameAndType 5 34), (0, u "([C)V"), (0, .methodref 8 36), (0, .nameAndType 37 38), (0, u "c0"), (0, u "(I)C"), (0, .methodref 30 40), (0, .nameAndType 41 42), (0, u "valueOf"), (0, u "(C)Ljava/lang/String;"), (0, .methodref 8 44), (0, .nameAndType 45 38), (0, u "c1"), (2, u "law"), (0, u "(IIII)Z")] 7

def k1m0 : Method := { name := "<init>", desc := "()V", sig := { parameters := [], returnType := none }, accessFlags := 1, code := none }
def k1c1 : Code := { maxStack := 4, maxLocals := 11, code := code, exceptionTable := #[], attributes := #[] }
def k1m1 : Method := { name := "law", desc := "(IIII)Z", sig := { parameters := [.int, .int, .int, .int], returnType := some .boolean }, accessFlags := 9, code := some k1c1 }
def k1c2 : Code := { maxStack := 2, maxLocals := 1, code := method_3_code, exceptionTable := #[], attributes := #[] }
def k1m2 : Method := { name := "len", desc := "(I)I", sig := { parameters := [.int], returnType := some .int }, accessFlags := 10, code := some k1c2 }
def k1c3 : Code := { maxStack := 2, maxLocals := 1, code := method_4_code, exceptionTable := #[], attributes := #[] }
def k1m3 : Method := { name := "c0", desc := "(I)C", sig := { parameters := [.int], returnType := some .char }, accessFlags := 10, code := some k1c3 }
def k1c4 : Code := { maxStack := 2, maxLocals := 1, code := method_5_code, exceptionTable := #[], attributes := #[] }
def k1m4 : Method := { name := "c1", desc := "(I)C", sig := { parameters := [.int], returnType := some .char }, accessFlags := 10, code := some k1c4 }
def k1c5 : Code := { maxStack := 6, maxLocals := 2, code := method_6_code, exceptionTable := #[], attributes := #[] }
def k1m5 : Method := { name := "make", desc := "(I)Ljava/lang/String;", sig := { parameters := [.int], returnType := some (.object "java/lang/String") }, accessFlags := 10, code := some k1c5 }
def k1c6 : Code := { maxStack := 2, maxLocals := 2, code := method_7_code, exceptionTable := #[], attributes := #[] }
def k1m6 : Method := { name := "same", desc := "(II)Z", sig := { parameters := [.int, .int], returnType := some .boolean }, accessFlags := 10, code := some k1c6 }
/-- com/example/kithmark/kithmark/params/PairHoldsPinLaw -/
def k1 : Class := { plain "com/example/kithmark/kithmark/params/PairHoldsPinLaw" (some 0) with
  accessFlags := 49
  interfaces := #[]
  cf := some (fileOf pool1 8 #[] #[{ accessFlags := 1, nameIndex := 5, descriptorIndex := 6, attributes := #[] }, { accessFlags := 9, nameIndex := 48, descriptorIndex := 49, attributes := #[] }, { accessFlags := 10, nameIndex := 28, descriptorIndex := 29, attributes := #[] }, { accessFlags := 10, nameIndex := 37, descriptorIndex := 38, attributes := #[] }, { accessFlags := 10, nameIndex := 45, descriptorIndex := 38, attributes := #[] }, { accessFlags := 10, nameIndex := 11, descriptorIndex := 12, attributes := #[] }, { accessFlags := 10, nameIndex := 20, descriptorIndex := 21, attributes := #[] }] 49 2 #[] #[])
  fields := #[]
  methods := #[k1m0, k1m1, k1m2, k1m3, k1m4, k1m5, k1m6]
  instanceTypes := #[]
  staticTypes := #[]
  resolved := Array.replicate 57 none
  statics := none }

def pool2 : Array CpInfo := pool [(1, .class_ 2), (0, u "java/io/Serializable"), (0, .class_ 4), (0, u "java/lang/Object")] 2

/-- java/io/Serializable -/
def k2 : Class := { plain "java/io/Serializable" (some 0) with
  accessFlags := 1537
  interfaces := #[]
  cf := some (fileOf pool2 1 #[] #[] 1537 3 #[] #[])
  fields := #[]
  methods := #[]
  instanceTypes := #[]
  staticTypes := #[]
  resolved := Array.replicate 7 none
  statics := none }

def pool3 : Array CpInfo := pool [(1, .class_ 2), (0, u "java/lang/Comparable"), (0, .class_ 4), (0, u "java/lang/Object")] 7

/-- java/lang/Comparable -/
def k3 : Class := { plain "java/lang/Comparable" (some 0) with
  accessFlags := 1537
  interfaces := #[]
  cf := some (fileOf pool3 1 #[] #[] 1537 3 #[] #[])
  fields := #[]
  methods := #[]
  instanceTypes := #[]
  staticTypes := #[]
  resolved := Array.replicate 12 none
  statics := none }

def pool4 : Array CpInfo := pool [(2, .class_ 4), (1, u "java/lang/CharSequence"), (42, .class_ 48), (0, u "java/lang/CharSequence$1CodePointIterator"), (10, .class_ 60), (0, u "java/lang/CharSequence$1CharIterator"), (5, .class_ 67), (0, u "java/lang/Object")] 63

/-- java/lang/CharSequence -/
def k4 : Class := { plain "java/lang/CharSequence" (some 0) with
  accessFlags := 1537
  interfaces := #[]
  cf := some (fileOf pool4 2 #[.nestMembers #[47, 59]] #[] 1537 66 #[] #[])
  fields := #[]
  methods := #[]
  instanceTypes := #[]
  staticTypes := #[]
  resolved := Array.replicate 131 none
  statics := none }

def pool5 : Array CpInfo := pool [(1, .class_ 2), (0, u "java/lang/constant/Constable"), (0, .class_ 4), (0, u "java/lang/Object")] 6

/-- java/lang/constant/Constable -/
def k5 : Class := { plain "java/lang/constant/Constable" (some 0) with
  accessFlags := 1537
  interfaces := #[]
  cf := some (fileOf pool5 1 #[] #[] 1537 3 #[] #[])
  fields := #[]
  methods := #[]
  instanceTypes := #[]
  staticTypes := #[]
  resolved := Array.replicate 11 none
  statics := none }

def pool6 : Array CpInfo := pool [(1, .class_ 2), (0, u "java/lang/constant/ConstantDesc"), (0, .class_ 4), (0, u "java/lang/Object")] 32

/-- java/lang/constant/ConstantDesc -/
def k6 : Class := { plain "java/lang/constant/ConstantDesc" (some 0) with
  accessFlags := 1537
  interfaces := #[]
  cf := some (fileOf pool6 1 #[] #[] 1537 3 #[] #[])
  fields := #[]
  methods := #[]
  instanceTypes := #[]
  staticTypes := #[]
  resolved := Array.replicate 37 none
  statics := none }

def pool7 : Array CpInfo := pool [(1, .methodref 2 3), (0, .class_ 4), (0, .nameAndType 5 6), (0, u "java/lang/Object"), (0, u "<init>"), (0, u "()V"), (0, .string 8), (0, u ""), (0, .fieldref 10 11), (0, .class_ 12), (0, .nameAndType 13 14), (0, u "java/lang/String"), (0, u "value"), (0, u "[B"), (0, .fieldref 10 16), (0, .nameAndType 17 18), (0, u "coder"), (0, u "B"), (2, u "hash"), (0, u "I"), (2, u "hashIsZero"), (0, u "Z"), (0, .methodref 10 28), (0, .nameAndType 5 29), (0, u "([CIILjava/lang/Void;)V"), (8, .fieldref 10 39), (0, .nameAndType 40 26), (0, u "COMPACT_STRINGS"), (1, .class_ 44), (1, u "java/lang/StringUTF16"), (0, u "compress"), (1, .methodref 42 48), (0, .nameAndType 49 50), (0, u "coderFromArrayLen"), (0, u "([BI)B"), (2, u "toBytes"), (53, .class_ 109), (1, u "java/lang/StringLatin1"), (67, .methodref 42 178), (0, .nameAndType 45 179), (0, u "([CII)[B"), (29, .methodref 10 210), (0, .nameAndType 5 211), (0, u "([BB)V"), (157, u "(C)Z"), (171, .methodref 107 542), (0, .nameAndType 543 544), (0, u "equals"), (0, u "([B[B)Z"), (28, u "(Ljava/lang/Object;)Z"), (1, .class_ 576), (0, u "java/lang/CharSequence"), (22, u "CASE_INSENSITIVE_ORDER"), (0, u "Ljava/util/Comparator;"), (181, u "valueOf"), (0, u "(C)Ljava/lang/String;"), (226, u "([C)V"), (4, .methodref 107 1016), (0, .nameAndType 1017 369), (0, u "canEncode"), (0, .methodref 107 1019), (0, .nameAndType 53 1020), (0, u "(C)[B"), (80, u "serialPersistentFields"), (0, u "[Ljava/io/ObjectStreamField;"), (0, .class_ 1104), (0, u "java/lang/String$CaseInsensitiveComparator"), (1, .class_ 1107), (0, u "java/io/Serializable"), (0, .class_ 1109), (0, u "java/lang/Comparable"), (0, .class_ 1111), (0, u "java/lang/constant/Constable"), (0, .class_ 1113), (0, u "java/lang/constant/ConstantDesc"), (2, u "serialVersionUID"), (0, u "J"), (3, u "REPL"), (0, u "C"), (2, u "LATIN1"), (1, u "UTF16")] 323

def k7m0 : Method := { name := "<init>", desc := "()V", sig := { parameters := [], returnType := none }, accessFlags := 1, code := none }
def k7c1 : Code := { maxStack := 5, maxLocals := 2, code := jdk_42_method_3_code, exceptionTable := #[], attributes := #[] }
def k7m1 : Method := { name := "<init>", desc := "([C)V", sig := { parameters := [(.array .char)], returnType := none }, accessFlags := 1, code := some k7c1 }
def k7c2 : Code := { maxStack := 2, maxLocals := 3, code := jdk_42_method_66_code, exceptionTable := #[], attributes := #[] }
def k7m2 : Method := { name := "equals", desc := "(Ljava/lang/Object;)Z", sig := { parameters := [(.object "java/lang/Object")], returnType := some .boolean }, accessFlags := 1, code := some k7c2 }
def k7c3 : Code := { maxStack := 4, maxLocals := 1, code := jdk_42_method_139_code, exceptionTable := #[], attributes := #[] }
def k7m3 : Method := { name := "valueOf", desc := "(C)Ljava/lang/String;", sig := { parameters := [.char], returnType := some (.object "java/lang/String") }, accessFlags := 9, code := some k7c3 }
def k7c4 : Code := { maxStack := 4, maxLocals := 6, code := jdk_42_method_149_code, exceptionTable := #[], attributes := #[] }
def k7m4 : Method := { name := "<init>", desc := "([CIILjava/lang/Void;)V", sig := { parameters := [(.array .char), .int, .int, (.object "java/lang/Void")], returnType := none }, accessFlags := 2, code := some k7c4 }
def k7c5 : Code := { maxStack := 2, maxLocals := 3, code := jdk_42_method_151_code, exceptionTable := #[], attributes := #[] }
def k7m5 : Method := { name := "<init>", desc := "([BB)V", sig := { parameters := [(.array .byte), .byte], returnType := none }, accessFlags := 0, code := some k7c5 }
/-- java/lang/String -/
def k7 : Class := { plain "java/lang/String" (some 0) with
  accessFlags := 49
  interfaces := #[2, 3, 4, 5, 6]
  cf := some (fileOf pool7 10 #[.nestMembers #[1103]] #[{ accessFlags := 1, nameIndex := 5, descriptorIndex := 6, attributes := #[] }, { accessFlags := 1, nameIndex := 5, descriptorIndex := 1010, attributes := #[] }, { accessFlags := 1, nameIndex := 543, descriptorIndex := 573, attributes := #[] }, { accessFlags := 9, nameIndex := 782, descriptorIndex := 783, attributes := #[] }, { accessFlags := 2, nameIndex := 5, descriptorIndex := 29, attributes := #[] }, { accessFlags := 0, nameIndex := 5, descriptorIndex := 211, attributes := #[] }] 49 2 #[1106, 1108, 575, 1110, 1112] #[{ accessFlags := 18, nameIndex := 13, descriptorIndex := 14, attributes := #[] }, { accessFlags := 18, nameIndex := 17, descriptorIndex := 18, attributes := #[] }, { accessFlags := 2, nameIndex := 21, descriptorIndex := 22, attributes := #[] }, { accessFlags := 2, nameIndex := 25, descriptorIndex := 26, attributes := #[] }, { accessFlags := 26, nameIndex := 1116, descriptorIndex := 1117, attributes := #[] }, { accessFlags := 24, nameIndex := 40, descriptorIndex := 26, attributes := #[] }, { accessFlags := 26, nameIndex := 1101, descriptorIndex := 1102, attributes := #[] }, { accessFlags := 26, nameIndex := 1121, descriptorIndex := 1122, attributes := #[] }, { accessFlags := 25, nameIndex := 599, descriptorIndex := 600, attributes := #[] }, { accessFlags := 24, nameIndex := 1125, descriptorIndex := 18, attributes := #[] }, { accessFlags := 24, nameIndex := 1127, descriptorIndex := 18, attributes := #[] }])
  fields := #[{ name := "value", type := (.array .byte), accessFlags := 18, slot := 0, constantValue := 0 }, { name := "coder", type := .byte, accessFlags := 18, slot := 1, constantValue := 0 }, { name := "hash", type := .int, accessFlags := 2, slot := 2, constantValue := 0 }, { name := "hashIsZero", type := .boolean, accessFlags := 2, slot := 3, constantValue := 0 }, { name := "serialVersionUID", type := .long, accessFlags := 26, slot := 0, constantValue := 0 }, { name := "COMPACT_STRINGS", type := .boolean, accessFlags := 24, slot := 1, constantValue := 0 }, { name := "serialPersistentFields", type := (.array (.object "java/io/ObjectStreamField")), accessFlags := 26, slot := 2, constantValue := 0 }, { name := "REPL", type := .char, accessFlags := 26, slot := 3, constantValue := 0 }, { name := "CASE_INSENSITIVE_ORDER", type := (.object "java/util/Comparator"), accessFlags := 25, slot := 4, constantValue := 0 }, { name := "LATIN1", type := .byte, accessFlags := 24, slot := 5, constantValue := 0 }, { name := "UTF16", type := .byte, accessFlags := 24, slot := 6, constantValue := 0 }]
  methods := #[k7m0, k7m1, k7m2, k7m3, k7m4, k7m5]
  instanceTypes := #[(.array .byte), .byte, .int, .boolean]
  staticTypes := #[.long, .boolean, (.array (.object "java/io/ObjectStreamField")), .char, (.object "java/util/Comparator"), .byte, .byte]
  resolved := Array.replicate 1451 none
  statics := some 0 }

def pool8 : Array CpInfo := pool [(1, .methodref 2 3), (0, .class_ 4), (0, .nameAndType 5 6), (0, u "java/lang/Object"), (0, u "<init>"), (0, u "()V"), (0, .class_ 8), (0, u "java/lang/Record")] 13

def k8c0 : Code := { maxStack := 1, maxLocals := 1, code := jdk_30_method_1_code, exceptionTable := #[], attributes := #[] }
def k8m0 : Method := { name := "<init>", desc := "()V", sig := { parameters := [], returnType := none }, accessFlags := 4, code := some k8c0 }
/-- java/lang/Record -/
def k8 : Class := { plain "java/lang/Record" (some 0) with
  accessFlags := 1057
  interfaces := #[]
  cf := some (fileOf pool8 7 #[] #[{ accessFlags := 4, nameIndex := 5, descriptorIndex := 6, attributes := #[] }] 1057 2 #[] #[])
  fields := #[]
  methods := #[k8m0]
  instanceTypes := #[]
  staticTypes := #[]
  resolved := Array.replicate 22 none
  statics := none }

def pool9 : Array CpInfo := pool [(1, .methodref 2 3), (0, .class_ 4), (0, .nameAndType 5 6), (0, u "java/lang/Record"), (0, u "<init>"), (0, u "()V"), (0, .fieldref 8 9), (0, .class_ 10), (0, .nameAndType 11 12), (0, u "com/example/kithmark/kithmark/params/CountryPairs$Pair"), (0, u "countryXName"), (0, u "Ljava/lang/String;"), (0, .fieldref 8 14), (0, .nameAndType 15 12), (0, u "countryYName"), (8, u "(Ljava/lang/String;Ljava/lang/String;)V"), (0, .methodref 26 27), (0, .class_ 28), (0, .nameAndType 29 30), (0, u "java/lang/String"), (0, u "equals"), (0, u "(Ljava/lang/Object;)Z"), (17, u "holds"), (0, u "(Ljava/lang/String;)Z"), (5, .class_ 56), (0, u "com/example/kithmark/kithmark/params/CountryPairs")] 20

def k9c0 : Code := { maxStack := 2, maxLocals := 3, code := prog_21_method_1_code, exceptionTable := #[], attributes := #[] }
def k9m0 : Method := { name := "<init>", desc := "(Ljava/lang/String;Ljava/lang/String;)V", sig := { parameters := [(.object "java/lang/String"), (.object "java/lang/String")], returnType := none }, accessFlags := 0, code := some k9c0 }
def k9c1 : Code := { maxStack := 2, maxLocals := 2, code := prog_21_method_3_code, exceptionTable := #[], attributes := #[] }
def k9m1 : Method := { name := "holds", desc := "(Ljava/lang/String;)Z", sig := { parameters := [(.object "java/lang/String")], returnType := some .boolean }, accessFlags := 0, code := some k9c1 }
/-- com/example/kithmark/kithmark/params/CountryPairs$Pair -/
def k9 : Class := { plain "com/example/kithmark/kithmark/params/CountryPairs$Pair" (some 8) with
  accessFlags := 48
  interfaces := #[]
  cf := some (fileOf pool9 8 #[.nestHost 55] #[{ accessFlags := 0, nameIndex := 5, descriptorIndex := 24, attributes := #[] }, { accessFlags := 0, nameIndex := 48, descriptorIndex := 49, attributes := #[] }] 48 2 #[] #[{ accessFlags := 18, nameIndex := 11, descriptorIndex := 12, attributes := #[] }, { accessFlags := 18, nameIndex := 15, descriptorIndex := 12, attributes := #[] }])
  fields := #[{ name := "countryXName", type := (.object "java/lang/String"), accessFlags := 18, slot := 0, constantValue := 0 }, { name := "countryYName", type := (.object "java/lang/String"), accessFlags := 18, slot := 1, constantValue := 0 }]
  methods := #[k9m0, k9m1]
  instanceTypes := #[(.object "java/lang/String"), (.object "java/lang/String")]
  staticTypes := #[]
  resolved := Array.replicate 77 none
  statics := none }

def pool10 : Array CpInfo := pool [(4, .class_ 6), (1, u "java/lang/Object"), (0, u "<init>"), (0, u "()V"), (5, .class_ 16), (1, u "java/lang/StringLatin1"), (73, u "canEncode"), (14, u "(C)Z"), (15, u "$assertionsDisabled"), (0, u "Z"), (98, .class_ 223), (1, u "java/lang/StringLatin1$LinesSpliterator"), (57, u "equals"), (0, u "([B[B)Z"), (97, u "toBytes"), (1, u "(C)[B"), (7, .class_ 391), (0, u "java/lang/StringLatin1$CharsSpliterator")] 3

def k10m0 : Method := { name := "<init>", desc := "()V", sig := { parameters := [], returnType := none }, accessFlags := 0, code := none }
def k10c1 : Code := { maxStack := 2, maxLocals := 1, code := jdk_43_method_3_code, exceptionTable := #[], attributes := #[] }
def k10m1 : Method := { name := "canEncode", desc := "(C)Z", sig := { parameters := [.char], returnType := some .boolean }, accessFlags := 9, code := some k10c1 }
def k10c2 : Code := { maxStack := 3, maxLocals := 3, code := jdk_43_method_13_code, exceptionTable := #[], attributes := #[] }
def k10m2 : Method := { name := "equals", desc := "([B[B)Z", sig := { parameters := [(.array .byte), (.array .byte)], returnType := some .boolean }, accessFlags := 9, code := some k10c2 }
def k10c3 : Code := { maxStack := 4, maxLocals := 1, code := jdk_43_method_46_code, exceptionTable := #[], attributes := #[] }
def k10m3 : Method := { name := "toBytes", desc := "(C)[B", sig := { parameters := [.char], returnType := some (.array .byte) }, accessFlags := 9, code := some k10c3 }
/-- java/lang/StringLatin1 -/
def k10 : Class := { plain "java/lang/StringLatin1" (some 0) with
  accessFlags := 48
  interfaces := #[]
  cf := some (fileOf pool10 14 #[.nestMembers #[390, 221]] #[{ accessFlags := 0, nameIndex := 7, descriptorIndex := 8, attributes := #[] }, { accessFlags := 9, nameIndex := 90, descriptorIndex := 105, attributes := #[] }, { accessFlags := 9, nameIndex := 281, descriptorIndex := 282, attributes := #[] }, { accessFlags := 9, nameIndex := 380, descriptorIndex := 382, attributes := #[] }] 48 4 #[] #[{ accessFlags := 4120, nameIndex := 121, descriptorIndex := 122, attributes := #[] }])
  fields := #[{ name := "$assertionsDisabled", type := .boolean, accessFlags := 4120, slot := 0, constantValue := 0 }]
  methods := #[k10m0, k10m1, k10m2, k10m3]
  instanceTypes := #[]
  staticTypes := #[.boolean]
  resolved := Array.replicate 395 none
  statics := none }

def pool11 : Array CpInfo := pool [(6, .class_ 8), (1, u "java/lang/Object"), (0, u "<init>"), (0, u "()V"), (1, .class_ 14), (1, u "java/lang/StringUTF16"), (31, u "$assertionsDisabled"), (0, u "Z"), (13, u "HI_BYTE_SHIFT"), (0, u "I"), (2, u "LO_BYTE_SHIFT"), (49, .methodref 12 116), (0, .nameAndType 117 118), (0, u "compress"), (0, u "([CI[BII)I"), (3, u "([CII)[B"), (138, u "coderFromArrayLen"), (0, u "([BI)B"), (106, .class_ 371), (1, u "java/lang/StringUTF16$LinesSpliterator"), (58, u "MAX_LENGTH"), (196, .class_ 628), (0, u "java/lang/StringUTF16$CodePointsSpliterator"), (0, .class_ 630), (0, u "java/lang/StringUTF16$CharsSpliterator")] 4

def k11m0 : Method := { name := "<init>", desc := "()V", sig := { parameters := [], returnType := none }, accessFlags := 0, code := none }
def k11c1 : Code := { maxStack := 2, maxLocals := 2, code := jdk_52_method_15_code, exceptionTable := #[], attributes := #[] }
def k11m1 : Method := { name := "coderFromArrayLen", desc := "([BI)B", sig := { parameters := [(.array .byte), .int], returnType := some .byte }, accessFlags := 8, code := some k11c1 }
def k11c2 : Code := { maxStack := 5, maxLocals := 6, code := jdk_52_method_16_code, exceptionTable := #[], attributes := #[] }
def k11m2 : Method := { name := "compress", desc := "([CII)[B", sig := { parameters := [(.array .char), .int, .int], returnType := some (.array .byte) }, accessFlags := 9, code := some k11c2 }
def k11c3 : Code := { maxStack := 3, maxLocals := 7, code := jdk_52_method_21_code, exceptionTable := #[], attributes := #[] }
def k11m3 : Method := { name := "compress", desc := "([CI[BII)I", sig := { parameters := [(.array .char), .int, (.array .byte), .int, .int], returnType := some .int }, accessFlags := 9, code := some k11c3 }
/-- java/lang/StringUTF16 -/
def k11 : Class := { plain "java/lang/StringUTF16" (some 0) with
  accessFlags := 48
  interfaces := #[]
  cf := some (fileOf pool11 12 #[.nestMembers #[627, 629, 369]] #[{ accessFlags := 0, nameIndex := 9, descriptorIndex := 10, attributes := #[] }, { accessFlags := 8, nameIndex := 261, descriptorIndex := 262, attributes := #[] }, { accessFlags := 9, nameIndex := 117, descriptorIndex := 122, attributes := #[] }, { accessFlags := 9, nameIndex := 117, descriptorIndex := 118, attributes := #[] }] 48 6 #[] #[{ accessFlags := 26, nameIndex := 61, descriptorIndex := 62, attributes := #[] }, { accessFlags := 26, nameIndex := 65, descriptorIndex := 62, attributes := #[] }, { accessFlags := 24, nameIndex := 430, descriptorIndex := 62, attributes := #[] }, { accessFlags := 4120, nameIndex := 46, descriptorIndex := 47, attributes := #[] }])
  fields := #[{ name := "HI_BYTE_SHIFT", type := .int, accessFlags := 26, slot := 0, constantValue := 0 }, { name := "LO_BYTE_SHIFT", type := .int, accessFlags := 26, slot := 1, constantValue := 0 }, { name := "MAX_LENGTH", type := .int, accessFlags := 24, slot := 2, constantValue := 0 }, { name := "$assertionsDisabled", type := .boolean, accessFlags := 4120, slot := 3, constantValue := 0 }]
  methods := #[k11m0, k11m1, k11m2, k11m3]
  instanceTypes := #[]
  staticTypes := #[.int, .int, .int, .boolean]
  resolved := Array.replicate 635 none
  statics := none }

def pool12 : Array CpInfo := pool [(2, .class_ 4), (1, u "java/lang/Object"), (0, u "<init>"), (0, u "()V"), (17, .class_ 26), (1, u "jdk/internal/util/Preconditions"), (28, .class_ 56), (0, u "jdk/internal/util/Preconditions$4"), (57, .class_ 115), (0, u "jdk/internal/util/Preconditions$1"), (7, u "SIOOBE_FORMATTER"), (0, u "Ljava/util/function/BiFunction;"), (0, .class_ 126), (0, u "jdk/internal/util/Preconditions$2"), (3, u "AIOOBE_FORMATTER"), (0, .class_ 132), (0, u "jdk/internal/util/Preconditions$3"), (3, u "IOOBE_FORMATTER")] 57

def k12m0 : Method := { name := "<init>", desc := "()V", sig := { parameters := [], returnType := none }, accessFlags := 1, code := none }
/-- jdk/internal/util/Preconditions -/
def k12 : Class := { plain "jdk/internal/util/Preconditions" (some 0) with
  accessFlags := 33
  interfaces := #[]
  cf := some (fileOf pool12 24 #[.nestMembers #[55, 131, 125, 114]] #[{ accessFlags := 1, nameIndex := 5, descriptorIndex := 6, attributes := #[] }] 33 2 #[] #[{ accessFlags := 25, nameIndex := 123, descriptorIndex := 124, attributes := #[] }, { accessFlags := 25, nameIndex := 130, descriptorIndex := 124, attributes := #[] }, { accessFlags := 25, nameIndex := 136, descriptorIndex := 124, attributes := #[] }])
  fields := #[{ name := "SIOOBE_FORMATTER", type := (.object "java/util/function/BiFunction"), accessFlags := 25, slot := 0, constantValue := 0 }, { name := "AIOOBE_FORMATTER", type := (.object "java/util/function/BiFunction"), accessFlags := 25, slot := 1, constantValue := 0 }, { name := "IOOBE_FORMATTER", type := (.object "java/util/function/BiFunction"), accessFlags := 25, slot := 2, constantValue := 0 }]
  methods := #[k12m0]
  instanceTypes := #[]
  staticTypes := #[(.object "java/util/function/BiFunction"), (.object "java/util/function/BiFunction"), (.object "java/util/function/BiFunction")]
  resolved := Array.replicate 194 none
  statics := some 1 }

def pool13 : Array CpInfo := pool [(9, u "<init>"), (6, .class_ 18), (1, u "java/lang/Object"), (0, u "()V"), (1, .class_ 23), (1, u "jdk/internal/util/ArraysSupport"), (0, u "LOG2_ARRAY_LONG_INDEX_SCALE"), (0, u "I"), (2, u "U"), (0, u "Ljdk/internal/misc/Unsafe;"), (8, u "BIG_ENDIAN"), (0, u "Z"), (8, u "LOG2_BYTE_BIT_SIZE"), (4, u "LOG2_ARRAY_INT_INDEX_SCALE"), (54, u "JLA"), (0, u "Ljdk/internal/access/JavaLangAccess;"), (11, u "LOG2_ARRAY_BOOLEAN_INDEX_SCALE"), (9, u "LOG2_ARRAY_BYTE_INDEX_SCALE"), (5, u "LOG2_ARRAY_CHAR_INDEX_SCALE"), (5, u "LOG2_ARRAY_SHORT_INDEX_SCALE"), (18, u "LOG2_ARRAY_FLOAT_INDEX_SCALE"), (24, u "LOG2_ARRAY_DOUBLE_INDEX_SCALE"), (89, u "T_BOOLEAN"), (2, u "T_CHAR"), (1, u "T_FLOAT"), (1, u "T_DOUBLE"), (1, u "T_BYTE"), (1, u "T_SHORT"), (1, u "T_INT"), (1, u "T_LONG"), (1, u "SOFT_MAX_ARRAY_LENGTH")] 83

def k13m0 : Method := { name := "<init>", desc := "()V", sig := { parameters := [], returnType := none }, accessFlags := 2, code := none }
/-- jdk/internal/util/ArraysSupport -/
def k13 : Class := { plain "jdk/internal/util/ArraysSupport" (some 0) with
  accessFlags := 33
  interfaces := #[]
  cf := some (fileOf pool13 21 #[] #[{ accessFlags := 2, nameIndex := 9, descriptorIndex := 19, attributes := #[] }] 33 16 #[] #[{ accessFlags := 24, nameIndex := 28, descriptorIndex := 29, attributes := #[] }, { accessFlags := 26, nameIndex := 38, descriptorIndex := 39, attributes := #[] }, { accessFlags := 25, nameIndex := 121, descriptorIndex := 25, attributes := #[] }, { accessFlags := 25, nameIndex := 131, descriptorIndex := 25, attributes := #[] }, { accessFlags := 25, nameIndex := 137, descriptorIndex := 25, attributes := #[] }, { accessFlags := 25, nameIndex := 143, descriptorIndex := 25, attributes := #[] }, { accessFlags := 25, nameIndex := 53, descriptorIndex := 25, attributes := #[] }, { accessFlags := 25, nameIndex := 24, descriptorIndex := 25, attributes := #[] }, { accessFlags := 25, nameIndex := 162, descriptorIndex := 25, attributes := #[] }, { accessFlags := 25, nameIndex := 187, descriptorIndex := 25, attributes := #[] }, { accessFlags := 26, nameIndex := 48, descriptorIndex := 25, attributes := #[] }, { accessFlags := 25, nameIndex := 277, descriptorIndex := 25, attributes := #[] }, { accessFlags := 25, nameIndex := 280, descriptorIndex := 25, attributes := #[] }, { accessFlags := 25, nameIndex := 282, descriptorIndex := 25, attributes := #[] }, { accessFlags := 25, nameIndex := 284, descriptorIndex := 25, attributes := #[] }, { accessFlags := 25, nameIndex := 286, descriptorIndex := 25, attributes := #[] }, { accessFlags := 25, nameIndex := 288, descriptorIndex := 25, attributes := #[] }, { accessFlags := 25, nameIndex := 290, descriptorIndex := 25, attributes := #[] }, { accessFlags := 25, nameIndex := 292, descriptorIndex := 25, attributes := #[] }, { accessFlags := 26, nameIndex := 108, descriptorIndex := 109, attributes := #[] }, { accessFlags := 25, nameIndex := 294, descriptorIndex := 25, attributes := #[] }])
  fields := #[{ name := "U", type := (.object "jdk/internal/misc/Unsafe"), accessFlags := 24, slot := 0, constantValue := 0 }, { name := "BIG_ENDIAN", type := .boolean, accessFlags := 26, slot := 1, constantValue := 0 }, { name := "LOG2_ARRAY_BOOLEAN_INDEX_SCALE", type := .int, accessFlags := 25, slot := 2, constantValue := 0 }, { name := "LOG2_ARRAY_BYTE_INDEX_SCALE", type := .int, accessFlags := 25, slot := 3, constantValue := 0 }, { name := "LOG2_ARRAY_CHAR_INDEX_SCALE", type := .int, accessFlags := 25, slot := 4, constantValue := 0 }, { name := "LOG2_ARRAY_SHORT_INDEX_SCALE", type := .int, accessFlags := 25, slot := 5, constantValue := 0 }, { name := "LOG2_ARRAY_INT_INDEX_SCALE", type := .int, accessFlags := 25, slot := 6, constantValue := 0 }, { name := "LOG2_ARRAY_LONG_INDEX_SCALE", type := .int, accessFlags := 25, slot := 7, constantValue := 0 }, { name := "LOG2_ARRAY_FLOAT_INDEX_SCALE", type := .int, accessFlags := 25, slot := 8, constantValue := 0 }, { name := "LOG2_ARRAY_DOUBLE_INDEX_SCALE", type := .int, accessFlags := 25, slot := 9, constantValue := 0 }, { name := "LOG2_BYTE_BIT_SIZE", type := .int, accessFlags := 26, slot := 10, constantValue := 0 }, { name := "T_BOOLEAN", type := .int, accessFlags := 25, slot := 11, constantValue := 0 }, { name := "T_CHAR", type := .int, accessFlags := 25, slot := 12, constantValue := 0 }, { name := "T_FLOAT", type := .int, accessFlags := 25, slot := 13, constantValue := 0 }, { name := "T_DOUBLE", type := .int, accessFlags := 25, slot := 14, constantValue := 0 }, { name := "T_BYTE", type := .int, accessFlags := 25, slot := 15, constantValue := 0 }, { name := "T_SHORT", type := .int, accessFlags := 25, slot := 16, constantValue := 0 }, { name := "T_INT", type := .int, accessFlags := 25, slot := 17, constantValue := 0 }, { name := "T_LONG", type := .int, accessFlags := 25, slot := 18, constantValue := 0 }, { name := "JLA", type := (.object "jdk/internal/access/JavaLangAccess"), accessFlags := 26, slot := 19, constantValue := 0 }, { name := "SOFT_MAX_ARRAY_LENGTH", type := .int, accessFlags := 25, slot := 20, constantValue := 0 }]
  methods := #[k13m0]
  instanceTypes := #[]
  staticTypes := #[(.object "jdk/internal/misc/Unsafe"), .boolean, .int, .int, .int, .int, .int, .int, .int, .int, .int, .int, .int, .int, .int, .int, .int, .int, .int, (.object "jdk/internal/access/JavaLangAccess"), .int]
  resolved := Array.replicate 378 none
  statics := none }

def pool14 : Array CpInfo := pool [(1, u "java/lang/Cloneable"), (0, .class_ 1), (0, u "java/lang/Object"), (0, .class_ 3)] 3

/-- java/lang/Cloneable -/
def k14 : Class := { plain "java/lang/Cloneable" (some 0) with
  accessFlags := 1537
  interfaces := #[]
  cf := some (fileOf pool14 2 #[] #[] 1537 4 #[] #[])
  fields := #[]
  methods := #[]
  instanceTypes := #[]
  staticTypes := #[]
  resolved := Array.replicate 8 none
  statics := none }

/-- the primitive byte -/
def k15 : Class := { plain "byte" none with kind := .primitive 'B', accessFlags := 0x411 }
/-- [B -/
def k16 : Class := { plain "[B" (some 0) with kind := .array 15 .byte, interfaces := #[14, 2], accessFlags := 1041 }

/-- the primitive char -/
def k17 : Class := { plain "char" none with kind := .primitive 'C', accessFlags := 0x411 }
/-- [C -/
def k18 : Class := { plain "[C" (some 0) with kind := .array 17 .char, interfaces := #[14, 2], accessFlags := 1041 }

/-- the primitive int -/
def k19 : Class := { plain "int" none with kind := .primitive 'I', accessFlags := 0x411 }
/-- [I -/
def k20 : Class := { plain "[I" (some 0) with kind := .array 19 .int, interfaces := #[14, 2], accessFlags := 1041 }

def heap : Heap := #[{ cls := 7, slots := #[.long 0, .int 1, .null, .int 0, .null, .int 0, .int 0], vm := .statics 7 },
  { cls := 12, slots := #[.null, .null, .null], vm := .statics 12 }]
def classes : Array Class := #[k0, k1, k2, k3, k4, k5, k6, k7, k8, k9, k10, k11, k12, k13, k14, k15, k16, k17, k18, k19, k20]
def interned : List (Array UInt16 × Addr) := []
def slotsUsed : Nat := 10
def theMethod : MethodId := ⟨1, 1⟩
def args0 : Array Value := #[.int 5, .int 3, .int 4, .int 1]
def aboutOver (below : List Frame) : State where
  vm := { classes := classes, interned := interned.toArray }
  heap := heap
  slotsUsed := slotsUsed
  threads := #[{ frames := .invoking theMethod args0 :: below }]
def below0 : List Frame := [.native { method := ⟨0, 0⟩, args := #[] }]
def about1 : State := aboutOver below0
def p0 : Program := .bare "" "" ""
def e0 : Env := launch0.env 0 0 0
theorem w_frames : about1.frames = Frame.invoking theMethod args0 :: below0 := rfl
set_option maxRecDepth 65536 in
theorem w_args : argsFit about1.vm theMethod args0 = true := by decide +kernel
set_option maxRecDepth 65536 in
theorem w_heap : heapFits about1 = true := by decide +kernel
set_option maxRecDepth 65536 in
theorem w_runnable : about1.curStatus? = some .runnable := by decide +kernel
set_option maxRecDepth 65536 in
theorem w_alone : about1.alone = true := by decide +kernel
set_option maxRecDepth 65536 in
theorem w_named : about1.methodNamed? x = some theMethod := by decide +kernel
set_option maxRecDepth 65536 in
theorem w_hears : about1.hears theMethod below0 = true := by decide +kernel
set_option maxRecDepth 65536 in
theorem w_ripe : about1.ripe theMethod args0 below0 = true := by decide +kernel
theorem w_running : about1.status = .running := rfl
set_option maxRecDepth 65536 in
theorem w_room : about1.hasRoom e0.platform room_1 = true :=
  launch0.hasRoom_least _ room_1 (by decide +kernel) (by decide +kernel) (by decide +kernel) (by decide +kernel) (by decide +kernel) (by decide +kernel)
theorem allAtoms_all (ts : List Jvm.Cond) (a : Array Jvm.Value) (st : Jvm.State) : (allAtoms ts).before a st = ts.all (fun c => c.before a st) := by
  induction ts with
  | nil => rfl
  | cons c t ih =>
    show (Jvm.Cond.and c (allAtoms t)).before a st = _
    rw [Jvm.Cond.before_and, ih, List.all_cons]
def words1 : List Jvm.Cond := Jvm.Cond.code x code maxLocals ret :: tables_1
/-- a 'code' word, met by the world's own term for the bytes: nothing is compared byte by byte -/
theorem code_word {y : MethodName} {bytes : ByteArray} {mx : Nat} {rt : Option FieldType} {a : Array Value} {s : State} {m : MethodId} {meth : Method} {c : Code} (h1 : s.methodNamed? y = some m) (h2 : s.vm.method? m = some meth) (h3 : meth.code = some c) (h4 : c.code = bytes)
    (h5 : (c.maxLocals == mx && c.exceptionTable.isEmpty && decide (c.maxStack ≤ mostOperands) && decide (meth.sig.returnType = rt) && !meth.locks && decide (parseMethodDescriptor y.desc = some meth.sig)) = true) : (Jvm.Cond.code y bytes mx rt).before a s = true := by
  simp only [Bool.and_eq_true, beq_iff_eq, Bool.not_eq_true', decide_eq_true_eq] at h5
  obtain ⟨⟨⟨⟨⟨g1, g2⟩, g3⟩, g4⟩, g5⟩, g6⟩ := h5
  simp [Cond.before, Cond.holds, Cond.value, h1, h2, h3, h4, g1, g2, g3, g4, g5, g6]
def isCode : Jvm.Cond → Bool
  | .code _ _ _ _ => true
  | _ => false
theorem all_split {L : List Jvm.Cond} {P : Jvm.Cond → Bool} (h1 : L.all (fun c => isCode c || P c) = true) (h2 : ∀ c ∈ L.filter isCode, P c = true) : L.all P = true := by
  refine List.all_eq_true.mpr fun c hc => ?_
  have h := List.all_eq_true.mp h1 c hc
  rcases Bool.eq_false_or_eq_true (isCode c) with hi | hi
  · exact h2 c (List.mem_filter.mpr ⟨hc, hi⟩)
  · simpa [hi] using h
set_option maxRecDepth 65536 in
theorem w_c0 : (Jvm.Cond.code x code maxLocals ret).before args0 about1 = true := code_word (m := ⟨1, 1⟩) (meth := k1m1) (c := k1c1) (by decide +kernel) rfl rfl rfl (by decide +kernel)
set_option maxRecDepth 65536 in
theorem w_c1 : (Jvm.Cond.code ({ cls := "com/example/kithmark/kithmark/params/PairHoldsPinLaw", name := "make", desc := "(I)Ljava/lang/String;" } : Jvm.MethodName) method_6_code (2 : Nat) (Option.some (Jvm.ClassFile.FieldType.object "java/lang/String"))).before args0 about1 = true := code_word (m := ⟨1, 5⟩) (meth := k1m5) (c := k1c5) (by decide +kernel) rfl rfl rfl (by decide +kernel)
set_option maxRecDepth 65536 in
theorem w_c2 : (Jvm.Cond.code ({ cls := "com/example/kithmark/kithmark/params/PairHoldsPinLaw", name := "len", desc := "(I)I" } : Jvm.MethodName) method_3_code (1 : Nat) (Option.some Jvm.ClassFile.FieldType.int)).before args0 about1 = true := code_word (m := ⟨1, 2⟩) (meth := k1m2) (c := k1c2) (by decide +kernel) rfl rfl rfl (by decide +kernel)
set_option maxRecDepth 65536 in
theorem w_c3 : (Jvm.Cond.code ({ cls := "java/lang/String", name := "<init>", desc := "([C)V" } : Jvm.MethodName) jdk_42_method_3_code (2 : Nat) (Option.none : Option Jvm.ClassFile.FieldType)).before args0 about1 = true := code_word (m := ⟨7, 1⟩) (meth := k7m1) (c := k7c1) (by decide +kernel) rfl rfl rfl (by decide +kernel)
set_option maxRecDepth 65536 in
theorem w_c4 : (Jvm.Cond.code ({ cls := "java/lang/String", name := "<init>", desc := "([CIILjava/lang/Void;)V" } : Jvm.MethodName) jdk_42_method_149_code (6 : Nat) (Option.none : Option Jvm.ClassFile.FieldType)).before args0 about1 = true := code_word (m := ⟨7, 4⟩) (meth := k7m4) (c := k7c4) (by decide +kernel) rfl rfl rfl (by decide +kernel)
set_option maxRecDepth 65536 in
theorem w_c5 : (Jvm.Cond.code ({ cls := "java/lang/Object", name := "<init>", desc := "()V" } : Jvm.MethodName) object_method_1_code (1 : Nat) (Option.none : Option Jvm.ClassFile.FieldType)).before args0 about1 = true := code_word (m := ⟨0, 0⟩) (meth := k0m0) (c := k0c0) (by decide +kernel) rfl rfl rfl (by decide +kernel)
set_option maxRecDepth 65536 in
theorem w_c6 : (Jvm.Cond.code ({ cls := "com/example/kithmark/kithmark/params/CountryPairs$Pair", name := "<init>", desc := "(Ljava/lang/String;Ljava/lang/String;)V" } : Jvm.MethodName) prog_21_method_1_code (3 : Nat) (Option.none : Option Jvm.ClassFile.FieldType)).before args0 about1 = true := code_word (m := ⟨9, 0⟩) (meth := k9m0) (c := k9c0) (by decide +kernel) rfl rfl rfl (by decide +kernel)
set_option maxRecDepth 65536 in
theorem w_c7 : (Jvm.Cond.code ({ cls := "java/lang/Record", name := "<init>", desc := "()V" } : Jvm.MethodName) jdk_30_method_1_code (1 : Nat) (Option.none : Option Jvm.ClassFile.FieldType)).before args0 about1 = true := code_word (m := ⟨8, 0⟩) (meth := k8m0) (c := k8c0) (by decide +kernel) rfl rfl rfl (by decide +kernel)
set_option maxRecDepth 65536 in
theorem w_c8 : (Jvm.Cond.code ({ cls := "com/example/kithmark/kithmark/params/PairHoldsPinLaw", name := "same", desc := "(II)Z" } : Jvm.MethodName) method_7_code (2 : Nat) (Option.some Jvm.ClassFile.FieldType.boolean)).before args0 about1 = true := code_word (m := ⟨1, 6⟩) (meth := k1m6) (c := k1c6) (by decide +kernel) rfl rfl rfl (by decide +kernel)
set_option maxRecDepth 65536 in
theorem w_c9 : (Jvm.Cond.code ({ cls := "com/example/kithmark/kithmark/params/CountryPairs$Pair", name := "holds", desc := "(Ljava/lang/String;)Z" } : Jvm.MethodName) prog_21_method_3_code (2 : Nat) (Option.some Jvm.ClassFile.FieldType.boolean)).before args0 about1 = true := code_word (m := ⟨9, 1⟩) (meth := k9m1) (c := k9c1) (by decide +kernel) rfl rfl rfl (by decide +kernel)
set_option maxRecDepth 65536 in
theorem w_c10 : (Jvm.Cond.code ({ cls := "java/lang/String", name := "equals", desc := "(Ljava/lang/Object;)Z" } : Jvm.MethodName) jdk_42_method_66_code (3 : Nat) (Option.some Jvm.ClassFile.FieldType.boolean)).before args0 about1 = true := code_word (m := ⟨7, 2⟩) (meth := k7m2) (c := k7c2) (by decide +kernel) rfl rfl rfl (by decide +kernel)
set_option maxRecDepth 65536 in
theorem w_c11 : (Jvm.Cond.code ({ cls := "java/lang/StringLatin1", name := "equals", desc := "([B[B)Z" } : Jvm.MethodName) jdk_43_method_13_code (3 : Nat) (Option.some Jvm.ClassFile.FieldType.boolean)).before args0 about1 = true := code_word (m := ⟨10, 2⟩) (meth := k10m2) (c := k10c2) (by decide +kernel) rfl rfl rfl (by decide +kernel)
set_option maxRecDepth 65536 in
theorem w_c12 : (Jvm.Cond.code ({ cls := "com/example/kithmark/kithmark/params/PairHoldsPinLaw", name := "c0", desc := "(I)C" } : Jvm.MethodName) method_4_code (1 : Nat) (Option.some Jvm.ClassFile.FieldType.char)).before args0 about1 = true := code_word (m := ⟨1, 3⟩) (meth := k1m3) (c := k1c3) (by decide +kernel) rfl rfl rfl (by decide +kernel)
set_option maxRecDepth 65536 in
theorem w_c13 : (Jvm.Cond.code ({ cls := "com/example/kithmark/kithmark/params/PairHoldsPinLaw", name := "c1", desc := "(I)C" } : Jvm.MethodName) method_5_code (1 : Nat) (Option.some Jvm.ClassFile.FieldType.char)).before args0 about1 = true := code_word (m := ⟨1, 4⟩) (meth := k1m4) (c := k1c4) (by decide +kernel) rfl rfl rfl (by decide +kernel)
set_option maxRecDepth 65536 in
theorem w_c14 : (Jvm.Cond.code ({ cls := "java/lang/StringUTF16", name := "compress", desc := "([CII)[B" } : Jvm.MethodName) jdk_52_method_16_code (6 : Nat) (Option.some (Jvm.ClassFile.FieldType.array Jvm.ClassFile.FieldType.byte))).before args0 about1 = true := code_word (m := ⟨11, 2⟩) (meth := k11m2) (c := k11c2) (by decide +kernel) rfl rfl rfl (by decide +kernel)
set_option maxRecDepth 65536 in
theorem w_c15 : (Jvm.Cond.code ({ cls := "java/lang/StringUTF16", name := "compress", desc := "([CI[BII)I" } : Jvm.MethodName) jdk_52_method_21_code (7 : Nat) (Option.some Jvm.ClassFile.FieldType.int)).before args0 about1 = true := code_word (m := ⟨11, 3⟩) (meth := k11m3) (c := k11c3) (by decide +kernel) rfl rfl rfl (by decide +kernel)
set_option maxRecDepth 65536 in
theorem w_c16 : (Jvm.Cond.code ({ cls := "java/lang/StringUTF16", name := "coderFromArrayLen", desc := "([BI)B" } : Jvm.MethodName) jdk_52_method_15_code (2 : Nat) (Option.some Jvm.ClassFile.FieldType.byte)).before args0 about1 = true := code_word (m := ⟨11, 1⟩) (meth := k11m1) (c := k11c1) (by decide +kernel) rfl rfl rfl (by decide +kernel)
set_option maxRecDepth 65536 in
theorem w_c17 : (Jvm.Cond.code ({ cls := "java/lang/String", name := "valueOf", desc := "(C)Ljava/lang/String;" } : Jvm.MethodName) jdk_42_method_139_code (1 : Nat) (Option.some (Jvm.ClassFile.FieldType.object "java/lang/String"))).before args0 about1 = true := code_word (m := ⟨7, 3⟩) (meth := k7m3) (c := k7c3) (by decide +kernel) rfl rfl rfl (by decide +kernel)
set_option maxRecDepth 65536 in
theorem w_c18 : (Jvm.Cond.code ({ cls := "java/lang/StringLatin1", name := "canEncode", desc := "(C)Z" } : Jvm.MethodName) jdk_43_method_3_code (1 : Nat) (Option.some Jvm.ClassFile.FieldType.boolean)).before args0 about1 = true := code_word (m := ⟨10, 1⟩) (meth := k10m1) (c := k10c1) (by decide +kernel) rfl rfl rfl (by decide +kernel)
set_option maxRecDepth 65536 in
theorem w_c19 : (Jvm.Cond.code ({ cls := "java/lang/StringLatin1", name := "toBytes", desc := "(C)[B" } : Jvm.MethodName) jdk_43_method_46_code (1 : Nat) (Option.some (Jvm.ClassFile.FieldType.array Jvm.ClassFile.FieldType.byte))).before args0 about1 = true := code_word (m := ⟨10, 3⟩) (meth := k10m3) (c := k10c3) (by decide +kernel) rfl rfl rfl (by decide +kernel)
set_option maxRecDepth 65536 in
theorem w_c20 : (Jvm.Cond.code ({ cls := "java/lang/String", name := "<init>", desc := "([BB)V" } : Jvm.MethodName) jdk_42_method_151_code (3 : Nat) (Option.none : Option Jvm.ClassFile.FieldType)).before args0 about1 = true := code_word (m := ⟨7, 5⟩) (meth := k7m5) (c := k7c5) (by decide +kernel) rfl rfl rfl (by decide +kernel)
def codes1 : List Jvm.Cond := [Jvm.Cond.code x code maxLocals ret, Jvm.Cond.code ({ cls := "com/example/kithmark/kithmark/params/PairHoldsPinLaw", name := "make", desc := "(I)Ljava/lang/String;" } : Jvm.MethodName) method_6_code (2 : Nat) (Option.some (Jvm.ClassFile.FieldType.object "java/lang/String")), Jvm.Cond.code ({ cls := "com/example/kithmark/kithmark/params/PairHoldsPinLaw", name := "len", desc := "(I)I" } : Jvm.MethodName) method_3_code (1 : Nat) (Option.some Jvm.ClassFile.FieldType.int), Jvm.Cond.code ({ cls := "java/lang/String", name := "<init>", desc := "([C)V" } : Jvm.MethodName) jdk_42_method_3_code (2 : Nat) (Option.none : Option Jvm.ClassFile.FieldType), Jvm.Cond.code ({ cls := "java/lang/String", name := "<init>", desc := "([CIILjava/lang/Void;)V" } : Jvm.MethodName) jdk_42_method_149_code (6 : Nat) (Option.none : Option Jvm.ClassFile.FieldType), Jvm.Cond.code ({ cls := "java/lang/Object", name := "<init>", desc := "()V" } : Jvm.MethodName) object_method_1_code (1 : Nat) (Option.none : Option Jvm.ClassFile.FieldType), Jvm.Cond.code ({ cls := "com/example/kithmark/kithmark/params/CountryPairs$Pair", name := "<init>", desc := "(Ljava/lang/String;Ljava/lang/String;)V" } : Jvm.MethodName) prog_21_method_1_code (3 : Nat) (Option.none : Option Jvm.ClassFile.FieldType), Jvm.Cond.code ({ cls := "java/lang/Record", name := "<init>", desc := "()V" } : Jvm.MethodName) jdk_30_method_1_code (1 : Nat) (Option.none : Option Jvm.ClassFile.FieldType), Jvm.Cond.code ({ cls := "com/example/kithmark/kithmark/params/PairHoldsPinLaw", name := "same", desc := "(II)Z" } : Jvm.MethodName) method_7_code (2 : Nat) (Option.some Jvm.ClassFile.FieldType.boolean), Jvm.Cond.code ({ cls := "com/example/kithmark/kithmark/params/CountryPairs$Pair", name := "holds", desc := "(Ljava/lang/String;)Z" } : Jvm.MethodName) prog_21_method_3_code (2 : Nat) (Option.some Jvm.ClassFile.FieldType.boolean), Jvm.Cond.code ({ cls := "java/lang/String", name := "equals", desc := "(Ljava/lang/Object;)Z" } : Jvm.MethodName) jdk_42_method_66_code (3 : Nat) (Option.some Jvm.ClassFile.FieldType.boolean), Jvm.Cond.code ({ cls := "java/lang/StringLatin1", name := "equals", desc := "([B[B)Z" } : Jvm.MethodName) jdk_43_method_13_code (3 : Nat) (Option.some Jvm.ClassFile.FieldType.boolean), Jvm.Cond.code ({ cls := "com/example/kithmark/kithmark/params/PairHoldsPinLaw", name := "c0", desc := "(I)C" } : Jvm.MethodName) method_4_code (1 : Nat) (Option.some Jvm.ClassFile.FieldType.char), Jvm.Cond.code ({ cls := "com/example/kithmark/kithmark/params/PairHoldsPinLaw", name := "c1", desc := "(I)C" } : Jvm.MethodName) method_5_code (1 : Nat) (Option.some Jvm.ClassFile.FieldType.char), Jvm.Cond.code ({ cls := "java/lang/StringUTF16", name := "compress", desc := "([CII)[B" } : Jvm.MethodName) jdk_52_method_16_code (6 : Nat) (Option.some (Jvm.ClassFile.FieldType.array Jvm.ClassFile.FieldType.byte)), Jvm.Cond.code ({ cls := "java/lang/StringUTF16", name := "compress", desc := "([CI[BII)I" } : Jvm.MethodName) jdk_52_method_21_code (7 : Nat) (Option.some Jvm.ClassFile.FieldType.int), Jvm.Cond.code ({ cls := "java/lang/StringUTF16", name := "coderFromArrayLen", desc := "([BI)B" } : Jvm.MethodName) jdk_52_method_15_code (2 : Nat) (Option.some Jvm.ClassFile.FieldType.byte), Jvm.Cond.code ({ cls := "java/lang/String", name := "valueOf", desc := "(C)Ljava/lang/String;" } : Jvm.MethodName) jdk_42_method_139_code (1 : Nat) (Option.some (Jvm.ClassFile.FieldType.object "java/lang/String")), Jvm.Cond.code ({ cls := "java/lang/StringLatin1", name := "canEncode", desc := "(C)Z" } : Jvm.MethodName) jdk_43_method_3_code (1 : Nat) (Option.some Jvm.ClassFile.FieldType.boolean), Jvm.Cond.code ({ cls := "java/lang/StringLatin1", name := "toBytes", desc := "(C)[B" } : Jvm.MethodName) jdk_43_method_46_code (1 : Nat) (Option.some (Jvm.ClassFile.FieldType.array Jvm.ClassFile.FieldType.byte)), Jvm.Cond.code ({ cls := "java/lang/String", name := "<init>", desc := "([BB)V" } : Jvm.MethodName) jdk_42_method_151_code (3 : Nat) (Option.none : Option Jvm.ClassFile.FieldType)]
set_option maxRecDepth 65536 in
theorem codes_eq : words1.filter isCode = codes1 := rfl
theorem w_codes : ∀ c ∈ words1.filter isCode, c.before args0 about1 = true := by
  rw [codes_eq]
  intro c hc
  simp only [codes1, List.mem_cons, List.not_mem_nil, or_false] at hc
  rcases hc with rfl | rfl | rfl | rfl | rfl | rfl | rfl | rfl | rfl | rfl | rfl | rfl | rfl | rfl | rfl | rfl | rfl | rfl | rfl | rfl | rfl
  · exact w_c0
  · exact w_c1
  · exact w_c2
  · exact w_c3
  · exact w_c4
  · exact w_c5
  · exact w_c6
  · exact w_c7
  · exact w_c8
  · exact w_c9
  · exact w_c10
  · exact w_c11
  · exact w_c12
  · exact w_c13
  · exact w_c14
  · exact w_c15
  · exact w_c16
  · exact w_c17
  · exact w_c18
  · exact w_c19
  · exact w_c20
set_option maxRecDepth 65536 in
theorem w_t1 : (words1.take 24).all (fun c => isCode c || c.before args0 about1) = true := by decide +kernel
set_option maxRecDepth 65536 in
theorem w_t2 : ((words1.drop 24).take 24).all (fun c => isCode c || c.before args0 about1) = true := by decide +kernel
set_option maxRecDepth 65536 in
theorem w_t3 : (((words1.drop 24).drop 24).take 24).all (fun c => isCode c || c.before args0 about1) = true := by decide +kernel
set_option maxRecDepth 65536 in
theorem w_t4 : (((words1.drop 24).drop 24).drop 24).all (fun c => isCode c || c.before args0 about1) = true := by decide +kernel
theorem w_tables : (allAtoms (Jvm.Cond.code x code maxLocals ret :: tables_1)).before args0 about1 = true := by
  rw [allAtoms_all]
  show words1.all (fun c => c.before args0 about1) = true
  refine all_split ?_ w_codes
  rw [← List.take_append_drop 24 words1, List.all_append, w_t1, ← List.take_append_drop 24 (words1.drop 24), List.all_append, w_t2, ← List.take_append_drop 24 ((words1.drop 24).drop 24), List.all_append, w_t3, w_t4]
  rfl
set_option maxRecDepth 65536 in
theorem w_rest : rest_1_c.before args0 about1 = true := by decide +kernel
set_option maxRecDepth 65536 in
theorem w_case : (Jvm.Cond.and given_1 narrow_1).before args0 about1 = true := by decide +kernel
set_option maxRecDepth 65536 in
theorem w_consts : constsHeld consts_1 about1 := Jvm.Lit.constsHeldB_iff.mp (by decide +kernel)
theorem w_applies : (headSpec (Jvm.Cond.code x code maxLocals ret :: tables_1) room_1).applies x e0.platform about1 = true :=
  (Spec.applies_iff w_frames).mpr ⟨w_running, w_runnable, w_alone, w_named, w_hears, w_ripe, w_room, w_tables⟩
theorem atStart : AtStart classFile x code maxLocals ret World_1 tables_1 room_1 Calls_1 rest_1 Pre_1 launch0 p0 e0 about1 theMethod args0 below0 :=
  ⟨lists_1, trivial, launch0.admits_env _ _ _, launch0.least_env, fairChoices_fair.cas, fairChoices_fair.clock, w_frames, w_args, w_heap, w_applies, ⟨w_consts, trivial⟩, w_rest, w_case⟩
end start1
theorem witness_1 : WitnessClaimed_1 := ⟨start1.p0, start1.e0, start1.about1, start1.theMethod, start1.args0, start1.below0, start1.atStart⟩
end Jvm.Pilot.@@N@@
