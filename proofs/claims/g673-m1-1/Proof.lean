import JvmDerived
import JvmDerived.Pilot.@@N@@Statement
import JvmDerived.Pilot.@@N@@Code
set_option linter.unusedVariables false
set_option linter.unusedSimpArgs false
/- laws to paste: Road.backV, Road.lenW, Road.chN, Road.codOf (cut by pick.py; bodies as the Statement names them) -/
namespace Jvm.Pilot.@@N@@
namespace StrChars
open Jvm Sem ClassFile Op Lib Jvm.Stand Jvm.Free.XT Jvm.Free.ALB Jvm.Free.JM Jvm.Free
open Jvm.Lib.Cold (StaticIs)
/-- a char array whose places are chars -/
def Ch (a : Addr) (A : Cell) (U : State) : Prop := Arr .char a A U ∧ Typed .char A
theorem Ch.mv {a : Addr} {A : Cell} {U U' : State} (h : Ch a A U) (hal : U.vm.Alike U'.vm) (hh : U'.heap = U.heap) : Ch a A U' := ⟨h.1.mv hal hh, h.2⟩
theorem Ch.keep {a : Addr} {A : Cell} {U U' : State} (h : Ch a A U) (hal : U.vm.Alike U'.vm) (hk : U'.heap[a]? = some A) : Ch a A U' := ⟨h.1.keep hal hk, h.2⟩
/-- what place i of a char[]'s cell holds -/
def cv (A : Cell) (i : Nat) : Int32 := match A.slots[i]? with | some (.int x) => x | _ => 0
theorem Ch.get {a : Addr} {A : Cell} {U : State} (h : Ch a A U) {i : Nat} (hi : i < A.slots.size) : A.slots[i]? = some (.int (cv A i)) := by
  have e := Array.getElem?_eq_getElem hi
  have f := h.2 i _ e
  unfold cv; rw [e]
  generalize A.slots[i] = v at f
  cases v <;> simp [fits] at f ⊢
/-- the byte that i2b leaves of a char -/
def lo8 (x : Int32) : Int32 := x.toInt8.toInt32
theorem fits_lo8 (y : Int32) : fits .byte (.int (lo8 y)) = true := by
  have h1 := y.toInt8.le_toInt
  have h2 := y.toInt8.toInt_lt
  simp only [lo8, fits, Bool.and_eq_true, decide_eq_true_eq, Int32.le_iff_toInt_le, Int8.toInt_toInt32, show (-128 : Int32).toInt = -128 from by decide, show (127 : Int32).toInt = 127 from by decide]
  omega
/-- A' is A but that each place j of lo .. hi - 1 holds f j -/
def Laid (A A' : Cell) (lo hi : Nat) (f : Nat → Value) : Prop := A'.cls = A.cls ∧ A'.vm = A.vm ∧ A'.slots.size = A.slots.size ∧ ∀ i, A'.slots[i]? = if lo ≤ i ∧ i < hi then some (f i) else A.slots[i]?
theorem Laid.zero (A : Cell) (lo : Nat) (f : Nat → Value) : Laid A A lo (lo + 0) f := ⟨rfl, rfl, rfl, fun i => by rw [if_neg (by omega)]⟩
theorem Laid.step {A Ak : Cell} {lo k : Nat} {f : Nat → Value} {v : Value} (h : Laid A Ak lo k f) (hlo : lo ≤ k) (hk : k < Ak.slots.size) (hv : v = f k) : Laid A (Ak.setSlot k v) lo (k + 1) f := by
  refine ⟨h.1, h.2.1, by simpa [Cell.setSlot] using h.2.2.1, fun i => ?_⟩
  by_cases e : k = i
  · subst e; rw [Cell.slots_setSlot_self v hk, if_pos (by omega), hv]
  · rw [Cell.slots_setSlot_ne v e, h.2.2.2 i]
    by_cases q : lo ≤ i ∧ i < k
    · rw [if_pos q, if_pos (by omega)]
    · rw [if_neg q, if_neg (by omega)]
def U16 : String := "java/lang/StringUTF16"
namespace Cmp5
def yN : MethodName := ⟨"java/lang/StringUTF16", "compress", "([CI[BII)I"⟩
abbrev yB : ByteArray := jdk_52_method_21_code
theorem d0 : decode yB 0 = .ok (.iconst 0, 1) := by decide +kernel
theorem d1 : decode yB 1 = .ok (.istore 5, 2) := by decide +kernel
theorem d3 : decode yB 3 = .ok (.iload 5, 2) := by decide +kernel
theorem d5 : decode yB 5 = .ok (.iload 4, 2) := by decide +kernel
theorem d7 : decode yB 7 = .ok (.if_icmp (.ge) 37, 3) := by decide +kernel
theorem d10 : decode yB 10 = .ok (.aload_n 0, 1) := by decide +kernel
theorem d11 : decode yB 11 = .ok (.iload_n 1, 1) := by decide +kernel
theorem d12 : decode yB 12 = .ok (.caload, 1) := by decide +kernel
theorem d13 : decode yB 13 = .ok (.istore 6, 2) := by decide +kernel
theorem d15 : decode yB 15 = .ok (.iload 6, 2) := by decide +kernel
theorem d17 : decode yB 17 = .ok (.sipush 255, 3) := by decide +kernel
theorem d20 : decode yB 20 = .ok (.if_icmp (.le) 6, 3) := by decide +kernel
theorem d26 : decode yB 26 = .ok (.aload_n 2, 1) := by decide +kernel
theorem d27 : decode yB 27 = .ok (.iload_n 3, 1) := by decide +kernel
theorem d28 : decode yB 28 = .ok (.iload 6, 2) := by decide +kernel
theorem d30 : decode yB 30 = .ok (.i2b, 1) := by decide +kernel
theorem d31 : decode yB 31 = .ok (.bastore, 1) := by decide +kernel
theorem d32 : decode yB 32 = .ok (.iinc 1 1, 3) := by decide +kernel
theorem d35 : decode yB 35 = .ok (.iinc 3 1, 3) := by decide +kernel
theorem d38 : decode yB 38 = .ok (.iinc 5 1, 3) := by decide +kernel
theorem d41 : decode yB 41 = .ok (.goto (-38), 3) := by decide +kernel
theorem d44 : decode yB 44 = .ok (.iload 4, 2) := by decide +kernel
theorem d46 : decode yB 46 = .ok (.ireturn, 1) := by decide +kernel
def site : List Cond := []
def tab : Cond := tabOf yN yB 7 (some .int) site
def P (b : Addr) (A : Cell) (d : Addr) (B : Cell) (o q len : Nat) (args : Array Value) (s : State) : Prop := args = #[.ref b, .int (Int32.ofNat o), .ref d, .int (Int32.ofNat q), .int (Int32.ofNat len)] ∧ Ch b A s ∧ Arr .byte d B s ∧ b ≠ d ∧ o + len ≤ A.slots.size ∧ q + len ≤ B.slots.size ∧ ∀ i, i < len → ¬ 255 < cv A (o + i)
def E (b : Addr) (A : Cell) (d : Addr) (B : Cell) (o q len : Nat) (r : Option Value) (s u : State) : Prop := r = some (.int (Int32.ofNat len)) ∧ ∃ B', Put d B' s u ∧ Laid B B' q (q + len) (fun j => Value.int (lo8 (cv A (o + (j - q)))))
/-- no char of the range above 255: len; the places written hold each char's low byte -/
theorem law (l : Launch) (b : Addr) (A : Cell) (d : Addr) (B : Cell) (o q len : Nat) : Law l yN 5 5 0 0 yB 7 (some .int) site (P b A d B o q len) (E b A d B o q len) (copyLocs d q len) 0 0 := by
  refine Law.of_walk (plainFor_of_name (by decide +kernel)) (by decide +kernel) (by decide +kernel) (by decide) (fun _ _ h => by rw [h.1]; rfl) (fun _ U U' hal hh h => ⟨h.1, h.2.1.mv hal hh, h.2.2.1.mv hal hh, h.2.2.2⟩) (fun r U U' V V' h1 hal h2 h => ⟨h.1, h.2.elim fun B' q => ⟨B', q.1.mv h1 h2, q.2⟩⟩) ?_
  intro p e s m args below meth c s₁ X0 hexec hbytes hml hret hlk hnm hown hh0 W hP
  obtain ⟨rfl, hA, hB, hne, l1, l2, hp⟩ := hP
  have c1 : Steps p.tables e below (s₁.setTop (entryFrame m #[.ref b, .int (Int32.ofNat o), .ref d, .int (Int32.ofNat q), .int (Int32.ofNat len)] 7)) (s₁.setTop (mkF m 0 #[.val (.ref b), .val (.int (Int32.ofNat o)), .val (.ref d), .val (.int (Int32.ofNat q)), .val (.int (Int32.ofNat len)), .unset, .unset] [])) := entry rfl
  have hA0 := hA.1.mv X0.warmed.alike hh0
  have hB0 := hB.mv X0.warmed.alike hh0
  have a31 := hA.1.2.2.2
  have c2 : Steps p.tables e below (s₁.setTop (entryFrame m #[.ref b, .int (Int32.ofNat o), .ref d, .int (Int32.ofNat q), .int (Int32.ofNat len)] 7)) (s₁.setTop (mkF m 3 #[.val (.ref b), .val (.int (Int32.ofNat o)), .val (.ref d), .val (.int (Int32.ofNat q)), .val (.int (Int32.ofNat len)), .val (.int 0), .unset] [])) := c1.trans (by
    refine iconstV X0.here hexec rfl 0 (hb hbytes d0) (by decide) ?_
    refine XS.istore X0.here hexec rfl (hb hbytes d1) rfl rfl ?_
    exact Steps.refl _)
  have loop : ∀ (r i : Nat), i + r = len → ∀ (z : Slot), (z = .unset ∨ ∃ w, z = .val w ∧ w.category = 1) → ∀ (Tl : State) (Bk : Cell), Stand p l e { frames := 0, locals := 0, cells := 0, slots := 0 } s m #[.ref b, .int (Int32.ofNat o), .ref d, .int (Int32.ofNat q), .int (Int32.ofNat len)] below meth c Tl ([] ++ copyLocs d q i) 0 0 → Put d Bk s₁ Tl → Laid B Bk q (q + i) (fun j => Value.int (lo8 (cv A (o + (j - q))))) →
      Steps p.tables e below (s₁.setTop (entryFrame m #[.ref b, .int (Int32.ofNat o), .ref d, .int (Int32.ofNat q), .int (Int32.ofNat len)] 7)) (Tl.setTop (mkF m 3 #[.val (.ref b), .val (.int (Int32.ofNat (o + i))), .val (.ref d), .val (.int (Int32.ofNat (q + i))), .val (.int (Int32.ofNat len)), .val (.int (Int32.ofNat i)), z] [])) → ∃ (T' : State) (B' : Cell) (z' : Slot), Stand p l e { frames := 0, locals := 0, cells := 0, slots := 0 } s m #[.ref b, .int (Int32.ofNat o), .ref d, .int (Int32.ofNat q), .int (Int32.ofNat len)] below meth c T' ([] ++ copyLocs d q len) 0 0 ∧ Put d B' s₁ T' ∧ Laid B B' q (q + len) (fun j => Value.int (lo8 (cv A (o + (j - q))))) ∧
      Steps p.tables e below (s₁.setTop (entryFrame m #[.ref b, .int (Int32.ofNat o), .ref d, .int (Int32.ofNat q), .int (Int32.ofNat len)] 7)) (T'.setTop (mkF m 3 #[.val (.ref b), .val (.int (Int32.ofNat (o + len))), .val (.ref d), .val (.int (Int32.ofNat (q + len))), .val (.int (Int32.ofNat len)), .val (.int (Int32.ofNat len)), z'] [])) := by
    intro r
    induction r with
    | zero =>
      intro i hi z hz Tl Bk Xl pl fl cl
      have hil : i = len := by omega
      rw [hil] at Xl fl cl
      exact ⟨Tl, Bk, z, Xl, pl, fl, cl⟩
    | succ r ih =>
      intro i hi z hz Tl Bk Xl pl fl cl
      have all := X0.warmed.alike.symm.trans Xl.warmed.alike
      have hAl := hA0.keep all (pl.other hne hA0.1)
      have hBk := hB0.like all pl.1 fl.1 fl.2.1 fl.2.2.1
      have hlt : q + i < Bk.slots.size := by rw [fl.2.2.1]; omega
      have c3 : Steps p.tables e below (s₁.setTop (entryFrame m #[.ref b, .int (Int32.ofNat o), .ref d, .int (Int32.ofNat q), .int (Int32.ofNat len)] 7)) (Tl.setTop (mkF m 12 #[.val (.ref b), .val (.int (Int32.ofNat (o + i))), .val (.ref d), .val (.int (Int32.ofNat (q + i))), .val (.int (Int32.ofNat len)), .val (.int (Int32.ofNat i)), z] [.int (Int32.ofNat (o + i)), .ref b])) := cl.trans (by
        refine XS.iload Xl.here hexec rfl (hb hbytes d3) rfl ?_
        refine XS.iload Xl.here hexec rfl (hb hbytes d5) rfl ?_
        refine XS.icmpNo Xl.here hexec rfl (hb hbytes d7) rfl (ii_ge_f (lt32 (by omega) (by omega))) ?_
        refine XS.aloadN Xl.here hexec rfl (hb hbytes d10) rfl rfl ?_
        refine XS.iloadN Xl.here hexec rfl (hb hbytes d11) rfl ?_
        exact Steps.refl _)
      have c4 : Steps p.tables e below (s₁.setTop (entryFrame m #[.ref b, .int (Int32.ofNat o), .ref d, .int (Int32.ofNat q), .int (Int32.ofNat len)] 7)) (Tl.setTop (mkF m 13 #[.val (.ref b), .val (.int (Int32.ofNat (o + i))), .val (.ref d), .val (.int (Int32.ofNat (q + i))), .val (.int (Int32.ofNat len)), .val (.int (Int32.ofNat i)), z] [.int (cv A (o + i))])) := c3.trans (by
        refine Xl.aget hexec hAl rfl (hA.get (i := o + i) (by omega)) rfl rfl (hb hbytes d12) ?_
        exact Steps.refl _)
      have c5 : Steps p.tables e below (s₁.setTop (entryFrame m #[.ref b, .int (Int32.ofNat o), .ref d, .int (Int32.ofNat q), .int (Int32.ofNat len)] 7)) (Tl.setTop (mkF m 15 #[.val (.ref b), .val (.int (Int32.ofNat (o + i))), .val (.ref d), .val (.int (Int32.ofNat (q + i))), .val (.int (Int32.ofNat len)), .val (.int (Int32.ofNat i)), .val (.int (cv A (o + i)))] [])) := c4.trans (by
        refine XS.istoreS Xl.here hexec rfl (hb hbytes d13) rfl rfl hz ?_
        exact Steps.refl _)
      have c6 : Steps p.tables e below (s₁.setTop (entryFrame m #[.ref b, .int (Int32.ofNat o), .ref d, .int (Int32.ofNat q), .int (Int32.ofNat len)] 7)) (Tl.setTop (mkF m 31 #[.val (.ref b), .val (.int (Int32.ofNat (o + i))), .val (.ref d), .val (.int (Int32.ofNat (q + i))), .val (.int (Int32.ofNat len)), .val (.int (Int32.ofNat i)), .val (.int (cv A (o + i)))] [.int (lo8 (cv A (o + i))), .int (Int32.ofNat (q + i)), .ref d])) := c5.trans (by
        refine XS.iload Xl.here hexec rfl (hb hbytes d15) rfl ?_
        refine sipushV Xl.here hexec rfl 255 (hb hbytes d17) (by decide) ?_
        refine XS.icmpYes Xl.here hexec rfl (pc0 := 20) rfl (hb hbytes d20) rfl (ii_le_t (hp i (by omega))) (by decide) rfl ?_
        refine XS.aloadN Xl.here hexec rfl (hb hbytes d26) rfl rfl ?_
        refine XS.iloadN Xl.here hexec rfl (hb hbytes d27) rfl ?_
        refine XS.iload Xl.here hexec rfl (hb hbytes d28) rfl ?_
        refine i2b Xl.here hexec rfl (hb hbytes d30) rfl ?_
        exact Steps.refl _)
      obtain ⟨T7, X7, p7, st7⟩ := Xl.aput hexec hBk rfl hlt rfl (fits_lo8 (cv A (o + i))) (g := (mkF m 31 #[.val (.ref b), .val (.int (Int32.ofNat (o + i))), .val (.ref d), .val (.int (Int32.ofNat (q + i))), .val (.int (Int32.ofNat len)), .val (.int (Int32.ofNat i)), .val (.int (cv A (o + i)))] [.int (lo8 (cv A (o + i))), .int (Int32.ofNat (q + i)), .ref d])) rfl (rest := []) rfl (hb hbytes d31)
      have c8 : Steps p.tables e below (s₁.setTop (entryFrame m #[.ref b, .int (Int32.ofNat o), .ref d, .int (Int32.ofNat q), .int (Int32.ofNat len)] 7)) (T7.setTop (mkF m 32 #[.val (.ref b), .val (.int (Int32.ofNat (o + i))), .val (.ref d), .val (.int (Int32.ofNat (q + i))), .val (.int (Int32.ofNat len)), .val (.int (Int32.ofNat i)), .val (.int (cv A (o + i)))] [])) := c6.trans (st7 _ (Steps.refl _))
      have c9 : Steps p.tables e below (s₁.setTop (entryFrame m #[.ref b, .int (Int32.ofNat o), .ref d, .int (Int32.ofNat q), .int (Int32.ofNat len)] 7)) (T7.setTop (mkF m 3 #[.val (.ref b), .val (.int (Int32.ofNat (o + i) + 1)), .val (.ref d), .val (.int (Int32.ofNat (q + i) + 1)), .val (.int (Int32.ofNat len)), .val (.int (Int32.ofNat i + 1)), .val (.int (cv A (o + i)))] [])) := c8.trans (by
        refine iincV X7.here hexec rfl 1 (hb hbytes d32) (by decide) rfl rfl ?_
        refine iincV X7.here hexec rfl 1 (hb hbytes d35) (by decide) rfl rfl ?_
        refine iincV X7.here hexec rfl 1 (hb hbytes d38) (by decide) rfl rfl ?_
        refine XS.goto X7.here hexec rfl (pc0 := 41) rfl (hb hbytes d41) (by decide) rfl ?_
        exact Steps.refl _)
      have c10 : Steps p.tables e below (s₁.setTop (entryFrame m #[.ref b, .int (Int32.ofNat o), .ref d, .int (Int32.ofNat q), .int (Int32.ofNat len)] 7)) (T7.setTop (mkF m 3 #[.val (.ref b), .val (.int (Int32.ofNat (o + (i + 1)))), .val (.ref d), .val (.int (Int32.ofNat (q + (i + 1)))), .val (.int (Int32.ofNat len)), .val (.int (Int32.ofNat (i + 1))), .val (.int (cv A (o + i)))] [])) := by
        have := c9
        rw [succ32, succ32, succ32] at this
        exact this
      exact ih (i + 1) (by omega) _ (Or.inr ⟨_, rfl, rfl⟩) T7 _ (by rw [copyLocs_step, ← List.append_assoc]; exact X7) (pl.trans p7) (fl.step (by omega) hlt (by simp)) c10
  obtain ⟨T9, B9, z9, X9, p9, f9, g9⟩ := loop len 0 (by omega) .unset (Or.inl rfl) s₁ B (by simpa [copyLocs] using X0) ⟨hB0.1, fun _ _ => rfl, rfl⟩ (Laid.zero _ _ _) c2
  have c11 : Steps p.tables e below (s₁.setTop (entryFrame m #[.ref b, .int (Int32.ofNat o), .ref d, .int (Int32.ofNat q), .int (Int32.ofNat len)] 7)) (T9.setTop (mkF m 46 #[.val (.ref b), .val (.int (Int32.ofNat (o + len))), .val (.ref d), .val (.int (Int32.ofNat (q + len))), .val (.int (Int32.ofNat len)), .val (.int (Int32.ofNat len)), z9] [.int (Int32.ofNat len)])) := g9.trans (by
    refine XS.iload X9.here hexec rfl (hb hbytes d3) rfl ?_
    refine XS.iload X9.here hexec rfl (hb hbytes d5) rfl ?_
    refine XS.icmpYes X9.here hexec rfl (pc0 := 7) rfl (hb hbytes d7) rfl (ii_ge_t (nlt32 (by omega) (Nat.le_refl _))) (by decide) rfl ?_
    refine XS.iload X9.here hexec rfl (hb hbytes d44) rfl ?_
    exact Steps.refl _)
  exact ⟨T9, some (.int (Int32.ofNat len)), _, _, _, X9, by simp, rfl, rfl, (fun h => by cases h), ⟨rfl, B9, p9.from hh0, f9⟩, fun fs hl => c11.trans (X9.ireturnOut hexec hret rfl (Or.inl rfl) (hb hbytes d46) hl)⟩
end Cmp5
namespace Cmp3
def yN : MethodName := ⟨"java/lang/StringUTF16", "compress", "([CII)[B"⟩
abbrev yB : ByteArray := jdk_52_method_16_code
theorem d0 : decode yB 0 = .ok (.iload_n 2, 1) := by decide +kernel
theorem d1 : decode yB 1 = .ok (.newarray .byte, 2) := by decide +kernel
theorem d3 : decode yB 3 = .ok (.astore_n 3, 1) := by decide +kernel
theorem d4 : decode yB 4 = .ok (.aload_n 0, 1) := by decide +kernel
theorem d5 : decode yB 5 = .ok (.iload_n 1, 1) := by decide +kernel
theorem d6 : decode yB 6 = .ok (.aload_n 3, 1) := by decide +kernel
theorem d7 : decode yB 7 = .ok (.iconst 0, 1) := by decide +kernel
theorem d8 : decode yB 8 = .ok (.iload_n 2, 1) := by decide +kernel
theorem d9 : decode yB 9 = .ok (.invokestatic 115, 3) := by decide +kernel
theorem d12 : decode yB 12 = .ok (.istore 4, 2) := by decide +kernel
theorem d14 : decode yB 14 = .ok (.iload 4, 2) := by decide +kernel
theorem d16 : decode yB 16 = .ok (.iload_n 2, 1) := by decide +kernel
theorem d17 : decode yB 17 = .ok (.if_icmp (.eq) 40, 3) := by decide +kernel
theorem d57 : decode yB 57 = .ok (.aload_n 3, 1) := by decide +kernel
theorem d58 : decode yB 58 = .ok (.areturn, 1) := by decide +kernel
def site : List Cond := [.arrayClass .byte, Cmp5.tab] ++ staticW U16 115 Cmp5.yN
def tab : Cond := tabOf yN yB 6 (some (.array .byte)) site
def P (b : Addr) (A : Cell) (o len : Nat) (args : Array Value) (s : State) : Prop := args = #[.ref b, .int (Int32.ofNat o), .int (Int32.ofNat len)] ∧ Ch b A s ∧ o + len ≤ A.slots.size ∧ len ≤ 536870912 ∧ ∀ i, i < len → ¬ 255 < cv A (o + i)
def E (b : Addr) (A : Cell) (o len : Nat) (r : Option Value) (s u : State) : Prop := NewArr .byte "[B" len (fun j => .int (lo8 (cv A (o + j)))) r s u ∧ u.heap.size = s.heap.size + 1
/-- no char of the range above 255: a new byte[] of their low bytes -/
theorem law (l : Launch) (b : Addr) (A : Cell) (o len : Nat) : Law l yN 3 3 1 18 yB 6 (some (.array .byte)) site (P b A o len) (E b A o len) [] 1 len := by
  refine Law.of_walk (plainFor_of_name (by decide +kernel)) (by decide +kernel) (by decide +kernel) (by decide) (fun _ _ h => by rw [h.1]; rfl) (fun _ U U' hal hh h => ⟨h.1, h.2.1.mv hal hh, h.2.2⟩) (fun r U U' V V' h1 hal h2 h => ⟨NewArr.mv r U U' V V' h1 hal h2 h.1, by rw [h1, h2]; exact h.2⟩) ?_
  intro p e s m args below meth c s₁ X0 hexec hbytes hml hret hlk hnm hown hh0 W hP
  obtain ⟨rfl, hA, l1, l2, hp⟩ := hP
  have a31 := hA.1.2.2.2
  have c1 : Steps p.tables e below (s₁.setTop (entryFrame m #[.ref b, .int (Int32.ofNat o), .int (Int32.ofNat len)] 6)) (s₁.setTop (mkF m 0 #[.val (.ref b), .val (.int (Int32.ofNat o)), .val (.int (Int32.ofNat len)), .unset, .unset, .unset] [])) := entry rfl
  have c2 : Steps p.tables e below (s₁.setTop (entryFrame m #[.ref b, .int (Int32.ofNat o), .int (Int32.ofNat len)] 6)) (s₁.setTop (mkF m 1 #[.val (.ref b), .val (.int (Int32.ofNat o)), .val (.int (Int32.ofNat len)), .unset, .unset, .unset] [.int (Int32.ofNat len)])) := c1.trans (by
    refine XS.iloadN X0.here hexec rfl (hb hbytes d0) rfl ?_
    exact Steps.refl _)
  obtain ⟨T3, B3, X3, ba3, bs3, bv3, bh3, bf3, st3⟩ := X0.anew hexec (atype := .byte) (wk W (.arrayClass .byte)) rfl (by show len * 1 ≤ _; omega) (by omega) (g := (mkF m 1 #[.val (.ref b), .val (.int (Int32.ofNat o)), .val (.int (Int32.ofNat len)), .unset, .unset, .unset] [.int (Int32.ofNat len)])) rfl (hb hbytes d1) (rest := []) rfl (Nat.le_refl _) (by show 0 + len ≤ len; omega)
  rw [hh0] at ba3 st3
  have kp3 : XT.Kept s T3 := (XT.Kept.of_eq hh0).push bh3
  have hA3 := hA.keep X3.warmed.alike (kp3 _ _ hA.1.1)
  have hne : b ≠ s.heap.size := hA.1.ne
  have c4 : Steps p.tables e below (s₁.setTop (entryFrame m #[.ref b, .int (Int32.ofNat o), .int (Int32.ofNat len)] 6)) (T3.setTop (mkF m 3 #[.val (.ref b), .val (.int (Int32.ofNat o)), .val (.int (Int32.ofNat len)), .unset, .unset, .unset] [.ref s.heap.size])) := c2.trans (st3 _ (Steps.refl _))
  have c5 : Steps p.tables e below (s₁.setTop (entryFrame m #[.ref b, .int (Int32.ofNat o), .int (Int32.ofNat len)] 6)) (T3.setTop (mkF m 9 #[.val (.ref b), .val (.int (Int32.ofNat o)), .val (.int (Int32.ofNat len)), .val (.ref s.heap.size), .unset, .unset] [.int (Int32.ofNat len), .int 0, .ref s.heap.size, .int (Int32.ofNat o), .ref b])) := c4.trans (by
    refine XS.astoreN X3.here hexec rfl (hb hbytes d3) rfl rfl rfl ?_
    refine XS.aloadN X3.here hexec rfl (hb hbytes d4) rfl rfl ?_
    refine XS.iloadN X3.here hexec rfl (hb hbytes d5) rfl ?_
    refine XS.aloadN X3.here hexec rfl (hb hbytes d6) rfl rfl ?_
    refine iconstV X3.here hexec rfl 0 (hb hbytes d7) (by decide) ?_
    refine XS.iloadN X3.here hexec rfl (hb hbytes d8) rfl ?_
    exact Steps.refl _)
  obtain ⟨v6, T6, X6, E6, g6⟩ := X3.callS hexec (Cmp5.law l b A s.heap.size B3 o 0 len) hown (wks W (staticW U16 115 Cmp5.yN)) (wk W Cmp5.tab) (W := 0) (Nat.le_of_ble_eq_true rfl) (Nat.le_of_ble_eq_true rfl) (Nat.le_refl _) (by show 0 + len + 0 ≤ len; omega) (g := (mkF m 9 #[.val (.ref b), .val (.int (Int32.ofNat o)), .val (.int (Int32.ofNat len)), .val (.ref s.heap.size), .unset, .unset] [.int (Int32.ofNat len), .int (Int32.ofNat 0), .ref s.heap.size, .int (Int32.ofNat o), .ref b])) rfl (by rw [hml]; rfl) c5 (argsL := [.ref b, .int (Int32.ofNat o), .ref s.heap.size, .int (Int32.ofNat 0), .int (Int32.ofNat len)]) (rest := []) rfl rfl (by show 2 * 0 + 0 ≤ _; decide) (hb hbytes d9) (⟨rfl, hA3, ba3, hne, l1, by rw [bs3]; simp, hp⟩)
  obtain ⟨rfl, B6, p6, f6⟩ := E6
  have c7 : Steps p.tables e below (s₁.setTop (entryFrame m #[.ref b, .int (Int32.ofNat o), .int (Int32.ofNat len)] 6)) (T6.setTop (mkF m 12 #[.val (.ref b), .val (.int (Int32.ofNat o)), .val (.int (Int32.ofNat len)), .val (.ref s.heap.size), .unset, .unset] [.int (Int32.ofNat len)])) := g6
  have c8 : Steps p.tables e below (s₁.setTop (entryFrame m #[.ref b, .int (Int32.ofNat o), .int (Int32.ofNat len)] 6)) (T6.setTop (mkF m 58 #[.val (.ref b), .val (.int (Int32.ofNat o)), .val (.int (Int32.ofNat len)), .val (.ref s.heap.size), .val (.int (Int32.ofNat len)), .unset] [.ref s.heap.size])) := c7.trans (by
    refine XS.istore X6.here hexec rfl (hb hbytes d12) rfl rfl ?_
    refine XS.iload X6.here hexec rfl (hb hbytes d14) rfl ?_
    refine XS.iloadN X6.here hexec rfl (hb hbytes d16) rfl ?_
    refine XS.icmpYes X6.here hexec rfl (pc0 := 17) rfl (hb hbytes d17) rfl (ii_eq_t rfl) (by decide) rfl ?_
    refine XS.aloadN X6.here hexec rfl (hb hbytes d57) rfl rfl ?_
    exact Steps.refl _)
  have X8 := X6.wide (L' := []) (cells' := 1) (slots' := len) (fun x hx hlt => by
    simp only [List.nil_append, copyLocs, List.mem_map, List.mem_range] at hx
    obtain ⟨i, -, rfl⟩ := hx
    exact absurd hlt (Nat.lt_irrefl _)) (Nat.le_refl _) (by omega)
  exact ⟨T6, some (.ref s.heap.size), _, _, _, X8, rfl, rfl, rfl, (fun h => by cases h), ⟨⟨rfl, B6, ba3.like (X3.warmed.alike.symm.trans X6.warmed.alike) p6.1 f6.1 f6.2.1 f6.2.2.1, f6.2.1.trans bv3, by rw [X6.warmed.alike.findClass, f6.1]; exact bf3, by rw [f6.2.2.1, bs3]; simp, fun j hj => by rw [f6.2.2.2 j, if_pos (by omega)]; rfl, kp3.put p6 (Nat.le_refl _)⟩, by rw [p6.2.2, bh3, hh0]; simp⟩, fun fs hl => c8.trans (X8.areturnOut hexec rfl hret rfl (hb hbytes d58) hl)⟩
end Cmp3
namespace CodL
def yN : MethodName := ⟨"java/lang/StringUTF16", "coderFromArrayLen", "([BI)B"⟩
abbrev yB : ByteArray := jdk_52_method_15_code
theorem d0 : decode yB 0 = .ok (.iload_n 1, 1) := by decide +kernel
theorem d1 : decode yB 1 = .ok (.aload_n 0, 1) := by decide +kernel
theorem d2 : decode yB 2 = .ok (.arraylength, 1) := by decide +kernel
theorem d3 : decode yB 3 = .ok (.isub, 1) := by decide +kernel
theorem d4 : decode yB 4 = .ok (.bipush 31, 2) := by decide +kernel
theorem d6 : decode yB 6 = .ok (.iushr, 1) := by decide +kernel
theorem d7 : decode yB 7 = .ok (.i2b, 1) := by decide +kernel
theorem d8 : decode yB 8 = .ok (.ireturn, 1) := by decide +kernel
def site : List Cond := []
def tab : Cond := tabOf yN yB 2 (some .byte) site
def P (d : Addr) (B : Cell) (args : Array Value) (s : State) : Prop := args = #[.ref d, .int (Int32.ofNat B.slots.size)] ∧ Arr .byte d B s
def E (r : Option Value) (s u : State) : Prop := XT.PureE (some (.int 0)) r s u
/-- an array as long as the number of chars: LATIN1 -/
theorem law (l : Launch) (d : Addr) (B : Cell) : Law l yN 2 2 0 0 yB 2 (some .byte) site (P d B) E [] 0 0 := by
  refine Law.of_walk (plainFor_of_name (by decide +kernel)) (by decide +kernel) (by decide +kernel) (by decide) (fun _ _ h => by rw [h.1]; rfl) (fun _ U U' hal hh h => ⟨h.1, h.2.mv hal hh⟩) (fun r U U' V V' h1 hal h2 h => XT.PureE.mv r U U' V V' h1 hal h2 h) ?_
  intro p e s m args below meth c s₁ X0 hexec hbytes hml hret hlk hnm hown hh0 W hP
  obtain ⟨rfl, hB⟩ := hP
  have hB0 := hB.mv X0.warmed.alike hh0
  have c1 : Steps p.tables e below (s₁.setTop (entryFrame m #[.ref d, .int (Int32.ofNat B.slots.size)] 2)) (s₁.setTop (mkF m 0 #[.val (.ref d), .val (.int (Int32.ofNat B.slots.size))] [])) := entry rfl
  have c2 : Steps p.tables e below (s₁.setTop (entryFrame m #[.ref d, .int (Int32.ofNat B.slots.size)] 2)) (s₁.setTop (mkF m 2 #[.val (.ref d), .val (.int (Int32.ofNat B.slots.size))] [.ref d, .int (Int32.ofNat B.slots.size)])) := c1.trans (by
    refine XS.iloadN X0.here hexec rfl (hb hbytes d0) rfl ?_
    refine XS.aloadN X0.here hexec rfl (hb hbytes d1) rfl rfl ?_
    exact Steps.refl _)
  have c3 : Steps p.tables e below (s₁.setTop (entryFrame m #[.ref d, .int (Int32.ofNat B.slots.size)] 2)) (s₁.setTop (mkF m 8 #[.val (.ref d), .val (.int (Int32.ofNat B.slots.size))] [.int (lo8 (ushr (Int32.ofNat B.slots.size - Int32.ofNat B.slots.size) 31))])) := c2.trans (by
    refine X0.alen hexec hB0 rfl rfl (hb hbytes d2) ?_
    refine XS.isub X0.here hexec rfl (hb hbytes d3) rfl ?_
    refine bipushV X0.here hexec rfl 31 (hb hbytes d4) (by decide) ?_
    refine iushr X0.here hexec rfl (hb hbytes d6) rfl ?_
    refine i2b X0.here hexec rfl (hb hbytes d7) rfl ?_
    exact Steps.refl _)
  have e0 : lo8 (ushr (Int32.ofNat B.slots.size - Int32.ofNat B.slots.size) 31) = 0 := by rw [Int32.sub_self]; decide
  rw [e0] at c3
  exact ⟨s₁, some (.int 0), _, _, _, X0, rfl, rfl, rfl, (fun h => by cases h), ⟨rfl, hh0⟩, fun fs hl => c3.trans (X0.ireturnOut hexec hret rfl (Or.inr (Or.inr (Or.inl rfl))) (hb hbytes d8) hl)⟩
end CodL
/-- the String at a is Latin-1 over a new byte[] (the heap's one new cell): the low bytes of the len chars of A from o on; every cell but a is kept -/
def Got (a : Addr) (D : Cell) (fV fC : Field) (A : Cell) (o len : Nat) (r : Option Value) (s u : State) : Prop := r = none ∧ ∃ D' V : Cell, Blank "java/lang/String" a D' u ∧ Same D D' [fV.slot, fC.slot] ∧ D'.slots[fV.slot]? = some (.ref s.heap.size) ∧ D'.slots[fC.slot]? = some (.int 0) ∧ Arr .byte s.heap.size V u ∧ V.vm = .none ∧ u.vm.findClass "[B" = some V.cls ∧ V.slots.size = len ∧ (∀ j, j < len → V.slots[j]? = some (.int (lo8 (cv A (o + j))))) ∧ (∀ (y : Addr) (c : Cell), y ≠ a → s.heap[y]? = some c → u.heap[y]? = some c) ∧ u.heap.size = s.heap.size + 1
theorem Got.mv {a : Addr} {D A : Cell} {fV fC : Field} {o len : Nat} : ∀ r (U U' V V' : State), U'.heap = U.heap → V.vm.Alike V'.vm → V'.heap = V.heap → Got a D fV fC A o len r U V → Got a D fV fC A o len r U' V' :=
  fun r U U' V V' h1 hal h2 ⟨e0, D', X, a1, a2, a3, a4, a5, a6, a7, a8, a9, a10, a11⟩ => ⟨e0, D', X, a1.mv hal h2, a2, by rw [h1]; exact a3, a4, by rw [h1]; exact a5.mv hal h2, a6, by rw [hal.findClass]; exact a7, a8, a9, by rw [h1, h2]; exact a10, by rw [h1, h2]; exact a11⟩
namespace New4
def yN : MethodName := ⟨"java/lang/String", "<init>", "([CIILjava/lang/Void;)V"⟩
abbrev yB : ByteArray := jdk_42_method_149_code
theorem d0 : decode yB 0 = .ok (.aload_n 0, 1) := by decide +kernel
theorem d1 : decode yB 1 = .ok (.invokespecial 1, 3) := by decide +kernel
theorem d4 : decode yB 4 = .ok (.iload_n 3, 1) := by decide +kernel
theorem d5 : decode yB 5 = .ok (.ifCond (.ne) 22, 3) := by decide +kernel
theorem d27 : decode yB 27 = .ok (.getstatic 38, 3) := by decide +kernel
theorem d30 : decode yB 30 = .ok (.ifCond (.eq) 28, 3) := by decide +kernel
theorem d33 : decode yB 33 = .ok (.aload_n 1, 1) := by decide +kernel
theorem d34 : decode yB 34 = .ok (.iload_n 2, 1) := by decide +kernel
theorem d35 : decode yB 35 = .ok (.iload_n 3, 1) := by decide +kernel
theorem d36 : decode yB 36 = .ok (.invokestatic 177, 3) := by decide +kernel
theorem d39 : decode yB 39 = .ok (.astore 5, 2) := by decide +kernel
theorem d41 : decode yB 41 = .ok (.aload_n 0, 1) := by decide +kernel
theorem d42 : decode yB 42 = .ok (.aload 5, 2) := by decide +kernel
theorem d44 : decode yB 44 = .ok (.iload_n 3, 1) := by decide +kernel
theorem d45 : decode yB 45 = .ok (.invokestatic 47, 3) := by decide +kernel
theorem d48 : decode yB 48 = .ok (.putfield 15, 3) := by decide +kernel
theorem d51 : decode yB 51 = .ok (.aload_n 0, 1) := by decide +kernel
theorem d52 : decode yB 52 = .ok (.aload 5, 2) := by decide +kernel
theorem d54 : decode yB 54 = .ok (.putfield 9, 3) := by decide +kernel
theorem d57 : decode yB 57 = .ok (.return_, 1) := by decide +kernel
def site : List Cond := [.fieldLink "java/lang/String" 38 "java/lang/String" "COMPACT_STRINGS" "Z", Cmp3.tab, CodL.tab, .laysFinal "java/lang/String" "java/lang/String" "value" "[B", .fieldLink "java/lang/String" 9 "java/lang/String" "value" "[B", .laysFinal "java/lang/String" "java/lang/String" "coder" "B", .fieldLink "java/lang/String" 15 "java/lang/String" "coder" "B"] ++ objW "java/lang/String" 1 ++ staticW "java/lang/String" 177 Cmp3.yN ++ staticW "java/lang/String" 47 CodL.yN
def tab : Cond := tabOf yN yB 6 none site
def P (a : Addr) (D : Cell) (fV fC : Field) (b : Addr) (A : Cell) (z : Int32) (o len : Nat) (args : Array Value) (s : State) : Prop := args = #[.ref a, .ref b, .int (Int32.ofNat o), .int (Int32.ofNat len), .null] ∧ Blank "java/lang/String" a D s ∧ Found "java/lang/String" "value" "[B" fV s ∧ Found "java/lang/String" "coder" "B" fC s ∧ Ch b A s ∧ StaticIs s "java/lang/String" "COMPACT_STRINGS" "Z" (.int z) ∧ ¬ z = 0 ∧ 0 < len ∧ o + len ≤ A.slots.size ∧ len ≤ 536870912 ∧ ∀ i, i < len → ¬ 255 < cv A (o + i)
def E (a : Addr) (D : Cell) (fV fC : Field) (A : Cell) (o len : Nat) (r : Option Value) (s u : State) : Prop := Got a D fV fC A o len r s u
/-- len > 0, no char of the range above 255: a Latin-1 String of their low bytes -/
theorem law (l : Launch) (a : Addr) (D : Cell) (fV fC : Field) (b : Addr) (A : Cell) (z : Int32) (o len : Nat) : Law l yN 5 4 2 35 yB 6 none site (P a D fV fC b A z o len) (E a D fV fC A o len) [⟨a, fC.slot⟩, ⟨a, fV.slot⟩] 1 len := by
  refine Law.of_walk (plainFor_of_name (by decide +kernel)) (by decide +kernel) (by decide +kernel) (by decide) (fun _ _ h => by rw [h.1]; rfl) (fun _ U U' hal hh h => ⟨h.1, h.2.1.mv hal hh, h.2.2.1.al hal, h.2.2.2.1.al hal, h.2.2.2.2.1.mv hal hh, h.2.2.2.2.2.1.there hal hh, h.2.2.2.2.2.2⟩) (fun r U U' V V' h1 hal h2 h => Got.mv r U U' V V' h1 hal h2 h) ?_
  intro p e s m args below meth c s₁ X0 hexec hbytes hml hret hlk hnm hown hh0 W hP
  obtain ⟨rfl, hB, f1, f2, hA, s1, hz, l0, l1, l2, hp⟩ := hP
  have a31 := hA.1.2.2.2
  have c1 : Steps p.tables e below (s₁.setTop (entryFrame m #[.ref a, .ref b, .int (Int32.ofNat o), .int (Int32.ofNat len), .null] 6)) (s₁.setTop (mkF m 0 #[.val (.ref a), .val (.ref b), .val (.int (Int32.ofNat o)), .val (.int (Int32.ofNat len)), .val .null, .unset] [])) := entry rfl
  have c2 : Steps p.tables e below (s₁.setTop (entryFrame m #[.ref a, .ref b, .int (Int32.ofNat o), .int (Int32.ofNat len), .null] 6)) (s₁.setTop (mkF m 1 #[.val (.ref a), .val (.ref b), .val (.int (Int32.ofNat o)), .val (.int (Int32.ofNat len)), .val .null, .unset] [.ref a])) := c1.trans (by
    refine XS.aloadN X0.here hexec rfl (hb hbytes d0) rfl rfl ?_
    exact Steps.refl _)
  obtain ⟨T3, X3, q3, st3⟩ := X0.oinit hexec hown (wks W (objW "java/lang/String" 1)) (g := (mkF m 1 #[.val (.ref a), .val (.ref b), .val (.int (Int32.ofNat o)), .val (.int (Int32.ofNat len)), .val .null, .unset] [.ref a])) rfl (by rw [hml]; rfl) (rest := []) rfl (hb hbytes d1) (W := 0) (by show 2 * 0 + 0 ≤ _; decide) (Nat.le_of_ble_eq_true rfl) (Nat.le_of_ble_eq_true rfl)
  have hh3 := q3.trans hh0
  have c4 : Steps p.tables e below (s₁.setTop (entryFrame m #[.ref a, .ref b, .int (Int32.ofNat o), .int (Int32.ofNat len), .null] 6)) (T3.setTop (mkF m 27 #[.val (.ref a), .val (.ref b), .val (.int (Int32.ofNat o)), .val (.int (Int32.ofNat len)), .val .null, .unset] [])) := (c2.trans (st3 _ (Steps.refl _))).trans (by
    refine XS.iloadN X3.here hexec rfl (hb hbytes d4) rfl ?_
    refine XS.ifYes X3.here hexec rfl (pc0 := 5) rfl (hb hbytes d5) rfl (i0_ne_t (nz32 (by omega) l0)) (by decide) rfl ?_
    exact Steps.refl _)
  obtain ⟨T5, X5, q5, st5⟩ := X3.sget hexec hown (wk W (.fieldLink "java/lang/String" 38 "java/lang/String" "COMPACT_STRINGS" "Z")) s1 (fun _ _ h => by rw [hh3]; exact h) (g := (mkF m 27 #[.val (.ref a), .val (.ref b), .val (.int (Int32.ofNat o)), .val (.int (Int32.ofNat len)), .val .null, .unset] [])) rfl (hb hbytes d27)
  have hh5 := q5.trans hh3
  have c6 : Steps p.tables e below (s₁.setTop (entryFrame m #[.ref a, .ref b, .int (Int32.ofNat o), .int (Int32.ofNat len), .null] 6)) (T5.setTop (mkF m 30 #[.val (.ref a), .val (.ref b), .val (.int (Int32.ofNat o)), .val (.int (Int32.ofNat len)), .val .null, .unset] [.int z])) := c4.trans (st5 _ (Steps.refl _))
  have c7 : Steps p.tables e below (s₁.setTop (entryFrame m #[.ref a, .ref b, .int (Int32.ofNat o), .int (Int32.ofNat len), .null] 6)) (T5.setTop (mkF m 36 #[.val (.ref a), .val (.ref b), .val (.int (Int32.ofNat o)), .val (.int (Int32.ofNat len)), .val .null, .unset] [.int (Int32.ofNat len), .int (Int32.ofNat o), .ref b])) := c6.trans (by
    refine XS.ifNo X5.here hexec rfl (hb hbytes d30) rfl (i0_eq_f hz) ?_
    refine XS.aloadN X5.here hexec rfl (hb hbytes d33) rfl rfl ?_
    refine XS.iloadN X5.here hexec rfl (hb hbytes d34) rfl ?_
    refine XS.iloadN X5.here hexec rfl (hb hbytes d35) rfl ?_
    exact Steps.refl _)
  obtain ⟨v8, T8, X8, E8, g8⟩ := X5.callS hexec (Cmp3.law l b A o len) hown (wks W (staticW "java/lang/String" 177 Cmp3.yN)) (wk W Cmp3.tab) (W := 0) (Nat.le_of_ble_eq_true rfl) (Nat.le_of_ble_eq_true rfl) (Nat.le_refl _) (by show 0 + len ≤ len; omega) (g := (mkF m 36 #[.val (.ref a), .val (.ref b), .val (.int (Int32.ofNat o)), .val (.int (Int32.ofNat len)), .val .null, .unset] [.int (Int32.ofNat len), .int (Int32.ofNat o), .ref b])) rfl (by rw [hml]; rfl) c7 (argsL := [.ref b, .int (Int32.ofNat o), .int (Int32.ofNat len)]) (rest := []) rfl rfl (by show 2 * 0 + 0 ≤ _; decide) (hb hbytes d36) (⟨rfl, hA.mv X5.warmed.alike hh5, l1, l2, hp⟩)
  obtain ⟨e8, z8⟩ := E8
  obtain ⟨rfl, N, n1, n2, n3, n4, n5, n6⟩ := NewArr.mv _ T5 s _ _ hh5.symm (Vm.Alike.refl _) rfl e8
  rw [hh5] at z8
  have hB1 := hB.keep X8.warmed.alike (n6 _ _ hB.1)
  have hne : s.heap.size ≠ a := (Nat.ne_of_lt (Array.getElem?_eq_some_iff.mp hB.1).1).symm
  have c9 : Steps p.tables e below (s₁.setTop (entryFrame m #[.ref a, .ref b, .int (Int32.ofNat o), .int (Int32.ofNat len), .null] 6)) (T8.setTop (mkF m 39 #[.val (.ref a), .val (.ref b), .val (.int (Int32.ofNat o)), .val (.int (Int32.ofNat len)), .val .null, .unset] [.ref s.heap.size])) := g8
  have c10 : Steps p.tables e below (s₁.setTop (entryFrame m #[.ref a, .ref b, .int (Int32.ofNat o), .int (Int32.ofNat len), .null] 6)) (T8.setTop (mkF m 45 #[.val (.ref a), .val (.ref b), .val (.int (Int32.ofNat o)), .val (.int (Int32.ofNat len)), .val .null, .val (.ref s.heap.size)] [.int (Int32.ofNat N.slots.size), .ref s.heap.size, .ref a])) := by
    have hc : Steps p.tables e below (s₁.setTop (entryFrame m #[.ref a, .ref b, .int (Int32.ofNat o), .int (Int32.ofNat len), .null] 6)) (T8.setTop (mkF m 45 #[.val (.ref a), .val (.ref b), .val (.int (Int32.ofNat o)), .val (.int (Int32.ofNat len)), .val .null, .val (.ref s.heap.size)] [.int (Int32.ofNat len), .ref s.heap.size, .ref a])) := c9.trans (by
      refine XS.astore X8.here hexec rfl (hb hbytes d39) rfl rfl rfl ?_
      refine XS.aloadN X8.here hexec rfl (hb hbytes d41) rfl rfl ?_
      refine XS.aload X8.here hexec rfl (hb hbytes d42) rfl rfl ?_
      refine XS.iloadN X8.here hexec rfl (hb hbytes d44) rfl ?_
      exact Steps.refl _)
    rw [n4]; exact hc
  obtain ⟨v11, T11, X11, E11, g11⟩ := X8.callS hexec (CodL.law l s.heap.size N) hown (wks W (staticW "java/lang/String" 47 CodL.yN)) (wk W CodL.tab) (W := 1) (Nat.le_of_ble_eq_true rfl) (Nat.le_of_ble_eq_true rfl) (Nat.le_refl _) (by show 0 + len + 0 ≤ len; omega) (g := (mkF m 45 #[.val (.ref a), .val (.ref b), .val (.int (Int32.ofNat o)), .val (.int (Int32.ofNat len)), .val .null, .val (.ref s.heap.size)] [.int (Int32.ofNat N.slots.size), .ref s.heap.size, .ref a])) rfl (by rw [hml]; rfl) c10 (argsL := [.ref s.heap.size, .int (Int32.ofNat N.slots.size)]) (rest := [.ref a]) rfl rfl (by show 2 * 0 + (1 + 0) ≤ _; decide) (hb hbytes d45) (⟨rfl, n1⟩)
  obtain ⟨rfl, q11⟩ := E11
  have hB11 := hB1.mv (X8.warmed.alike.symm.trans X11.warmed.alike) q11
  have c12 : Steps p.tables e below (s₁.setTop (entryFrame m #[.ref a, .ref b, .int (Int32.ofNat o), .int (Int32.ofNat len), .null] 6)) (T11.setTop (mkF m 48 #[.val (.ref a), .val (.ref b), .val (.int (Int32.ofNat o)), .val (.int (Int32.ofNat len)), .val .null, .val (.ref s.heap.size)] [.int 0, .ref a])) := g11
  obtain ⟨T13, X13, p13, bl13, sl13, st13⟩ := X11.finit hexec hown (wk W (.fieldLink "java/lang/String" 15 "java/lang/String" "coder" "B")) (Or.inr ⟨_, (wk W (.laysFinal "java/lang/String" "java/lang/String" "coder" "B"))⟩) (Or.inl ⟨rfl, hnm⟩) f2 (Or.inl rfl) hB11 (t := .byte) (by decide +kernel) rfl (g := (mkF m 48 #[.val (.ref a), .val (.ref b), .val (.int (Int32.ofNat o)), .val (.int (Int32.ofNat len)), .val .null, .val (.ref s.heap.size)] [.int 0, .ref a])) rfl (rest := []) rfl (hb hbytes d48)
  have c14 : Steps p.tables e below (s₁.setTop (entryFrame m #[.ref a, .ref b, .int (Int32.ofNat o), .int (Int32.ofNat len), .null] 6)) (T13.setTop (mkF m 54 #[.val (.ref a), .val (.ref b), .val (.int (Int32.ofNat o)), .val (.int (Int32.ofNat len)), .val .null, .val (.ref s.heap.size)] [.ref s.heap.size, .ref a])) := (c12.trans (st13 _ (Steps.refl _))).trans (by
    refine XS.aloadN X13.here hexec rfl (hb hbytes d51) rfl rfl ?_
    refine XS.aload X13.here hexec rfl (hb hbytes d52) rfl rfl ?_
    exact Steps.refl _)
  obtain ⟨T15, X15, p15, bl15, sl15, st15⟩ := X13.finit hexec hown (wk W (.fieldLink "java/lang/String" 9 "java/lang/String" "value" "[B")) (Or.inr ⟨_, (wk W (.laysFinal "java/lang/String" "java/lang/String" "value" "[B"))⟩) (Or.inl ⟨rfl, hnm⟩) f1 (Or.inl rfl) bl13 (t := (.array .byte)) (by decide +kernel) rfl (g := (mkF m 54 #[.val (.ref a), .val (.ref b), .val (.int (Int32.ofNat o)), .val (.int (Int32.ofNat len)), .val .null, .val (.ref s.heap.size)] [.ref s.heap.size, .ref a])) rfl (rest := []) rfl (hb hbytes d54)
  have c16 : Steps p.tables e below (s₁.setTop (entryFrame m #[.ref a, .ref b, .int (Int32.ofNat o), .int (Int32.ofNat len), .null] 6)) (T15.setTop (mkF m 57 #[.val (.ref a), .val (.ref b), .val (.int (Int32.ofNat o)), .val (.int (Int32.ofNat len)), .val .null, .val (.ref s.heap.size)] [])) := c14.trans (st15 _ (Steps.refl _))
  have ap := apart (Or.inr ⟨_, (wk W (.laysFinal "java/lang/String" "java/lang/String" "value" "[B"))⟩) (Or.inr ⟨_, (wk W (.laysFinal "java/lang/String" "java/lang/String" "coder" "B"))⟩) f1 f2 (t₁ := .array .byte) (t₂ := .byte) (by decide +kernel) (by decide +kernel) (by decide)
  have al := X8.warmed.alike.symm.trans X15.warmed.alike
  have n7 : T11.heap[s.heap.size]? = some N := by rw [q11]; exact n1.1
  exact ⟨T15, none, _, _, _, X15, by simp, rfl, by omega, (fun _ => rfl), ⟨rfl, _, N, bl15, ((Same.refl D _).set _ (by simp)).set _ (by simp), sl15, (Cell.slots_setSlot_ne _ ap).trans sl13, n1.keep al (p15.other hne (p13.other hne n7)), n2, by rw [al.findClass]; exact n3, n4, n5, fun y c h1 h2 => p15.other h1 (p13.other h1 (by rw [q11]; exact n6 y c h2)), by rw [p15.2.2, p13.2.2, q11]; exact z8⟩, fun fs hl => c16.trans (X15.returnOut hexec hret (hb hbytes d57) hl)⟩
end New4
namespace New1
def yN : MethodName := ⟨"java/lang/String", "<init>", "([C)V"⟩
abbrev yB : ByteArray := jdk_42_method_3_code
theorem d0 : decode yB 0 = .ok (.aload_n 0, 1) := by decide +kernel
theorem d1 : decode yB 1 = .ok (.aload_n 1, 1) := by decide +kernel
theorem d2 : decode yB 2 = .ok (.iconst 0, 1) := by decide +kernel
theorem d3 : decode yB 3 = .ok (.aload_n 1, 1) := by decide +kernel
theorem d4 : decode yB 4 = .ok (.arraylength, 1) := by decide +kernel
theorem d5 : decode yB 5 = .ok (.aconst_null, 1) := by decide +kernel
theorem d6 : decode yB 6 = .ok (.invokespecial 27, 3) := by decide +kernel
theorem d9 : decode yB 9 = .ok (.return_, 1) := by decide +kernel
def site : List Cond := [New4.tab] ++ initW "java/lang/String" 27 New4.yN
def tab : Cond := tabOf yN yB 2 none site
def P (a : Addr) (D : Cell) (fV fC : Field) (b : Addr) (A : Cell) (z : Int32) (args : Array Value) (s : State) : Prop := args = #[.ref a, .ref b] ∧ Blank "java/lang/String" a D s ∧ Found "java/lang/String" "value" "[B" fV s ∧ Found "java/lang/String" "coder" "B" fC s ∧ Ch b A s ∧ StaticIs s "java/lang/String" "COMPACT_STRINGS" "Z" (.int z) ∧ ¬ z = 0 ∧ 0 < A.slots.size ∧ A.slots.size ≤ 536870912 ∧ ∀ i, i < A.slots.size → ¬ 255 < cv A i
def E (a : Addr) (D : Cell) (fV fC : Field) (A : Cell) (r : Option Value) (s u : State) : Prop := Got a D fV fC A 0 A.slots.size r s u
/-- new String(chars), not empty, no char above 255: a Latin-1 String of their low bytes -/
theorem law (l : Launch) (a : Addr) (D : Cell) (fV fC : Field) (b : Addr) (A : Cell) (z : Int32) : Law l yN 2 1 3 52 yB 2 none site (P a D fV fC b A z) (E a D fV fC A) [⟨a, fC.slot⟩, ⟨a, fV.slot⟩] 1 A.slots.size := by
  refine Law.of_walk (plainFor_of_name (by decide +kernel)) (by decide +kernel) (by decide +kernel) (by decide) (fun _ _ h => by rw [h.1]; rfl) (fun _ U U' hal hh h => ⟨h.1, h.2.1.mv hal hh, h.2.2.1.al hal, h.2.2.2.1.al hal, h.2.2.2.2.1.mv hal hh, h.2.2.2.2.2.1.there hal hh, h.2.2.2.2.2.2⟩) (fun r U U' V V' h1 hal h2 h => Got.mv r U U' V V' h1 hal h2 h) ?_
  intro p e s m args below meth c s₁ X0 hexec hbytes hml hret hlk hnm hown hh0 W hP
  obtain ⟨rfl, hB, f1, f2, hA, s1, hz, l0, l2, hp⟩ := hP
  have c1 : Steps p.tables e below (s₁.setTop (entryFrame m #[.ref a, .ref b] 2)) (s₁.setTop (mkF m 0 #[.val (.ref a), .val (.ref b)] [])) := entry rfl
  have c2 : Steps p.tables e below (s₁.setTop (entryFrame m #[.ref a, .ref b] 2)) (s₁.setTop (mkF m 6 #[.val (.ref a), .val (.ref b)] [.null, .int (Int32.ofNat A.slots.size), .int 0, .ref b, .ref a])) := c1.trans (by
    refine XS.aloadN X0.here hexec rfl (hb hbytes d0) rfl rfl ?_
    refine XS.aloadN X0.here hexec rfl (hb hbytes d1) rfl rfl ?_
    refine iconstV X0.here hexec rfl 0 (hb hbytes d2) (by decide) ?_
    refine XS.aloadN X0.here hexec rfl (hb hbytes d3) rfl rfl ?_
    refine X0.alen hexec (hA.1.mv X0.warmed.alike hh0) rfl rfl (hb hbytes d4) ?_
    refine XS.aconstNull X0.here hexec rfl (hb hbytes d5) ?_
    exact Steps.refl _)
  obtain ⟨v3, T3, X3, E3, g3⟩ := X0.callN hexec (New4.law l a D fV fC b A z 0 A.slots.size) rfl hown (wks W (initW "java/lang/String" 27 New4.yN)) (W New4.tab (by simp only [site, List.mem_cons, List.mem_append, true_or, or_true])) (W := 0) (Nat.le_of_ble_eq_true rfl) (Nat.le_of_ble_eq_true rfl) (Nat.le_refl _) (by show 0 + A.slots.size ≤ A.slots.size; omega) (g := (mkF m 6 #[.val (.ref a), .val (.ref b)] [.null, .int (Int32.ofNat A.slots.size), .int (Int32.ofNat 0), .ref b, .ref a])) rfl (by rw [hml]; rfl) c2 (argsL := [.ref b, .int (Int32.ofNat 0), .int (Int32.ofNat A.slots.size), .null]) (rest := []) rfl rfl (by show 2 * 0 + 0 ≤ _; decide) (hb hbytes d6) (⟨rfl, hB.mv X0.warmed.alike hh0, f1.al X0.warmed.alike, f2.al X0.warmed.alike, hA.mv X0.warmed.alike hh0, s1.there X0.warmed.alike hh0, hz, l0, by omega, l2, fun i hi => by rw [Nat.zero_add]; exact hp i hi⟩)
  have e0 := Got.mv _ s₁ s _ _ hh0.symm (Vm.Alike.refl _) rfl E3
  obtain rfl := e0.1
  have c4 : Steps p.tables e below (s₁.setTop (entryFrame m #[.ref a, .ref b] 2)) (T3.setTop (mkF m 9 #[.val (.ref a), .val (.ref b)] [])) := g3
  exact ⟨T3, none, _, _, _, X3, by simp, rfl, by omega, (fun _ => rfl), e0, fun fs hl => c4.trans (X3.returnOut hexec hret (hb hbytes d9) hl)⟩
theorem pays {l : Launch} {R : Room} {p : Program} {e : Env} {below : List Frame} {s : State} {sargs : Array Value} {len W : Nat} (a : Addr) (D : Cell) (fV fC : Field) (b : Addr) (A : Cell) (z : Int32) (htab : tab.before sargs s = true) (hfr : 4 ≤ R.frames) (hlo : W + 65 ≤ R.locals) :
    Back l R p e below s sargs yN len W (fun A₁ a₁ => A₁.cells + 1 ≤ R.cells ∧ A₁.slots + A.slots.size ≤ R.slots ∧ P a D fV fC b A z a₁ A₁.U) (fun A₁ _ v₁ B₁ => E a D fV fC A v₁ A₁.U B₁.U ∧ B₁.locs = A₁.locs ++ [⟨a, fC.slot⟩, ⟨a, fV.slot⟩] ∧ B₁.cells = A₁.cells + 1 ∧ B₁.slots = A₁.slots + A.slots.size) :=
  (law l a D fV fC b A z).pays htab hfr (by omega)
end New1
/-- the byte, read back as charAt reads it, is the char -/
theorem lo8_mask {x : Int32} (h0 : ¬ x < 0) (h1 : ¬ 255 < x) : lo8 x &&& 255 = x := by
  have t : ∀ k : Fin 256, lo8 (Int32.ofNat k.val) &&& 255 = Int32.ofNat k.val := by decide +kernel
  rw [Int32.lt_iff_toInt_lt] at h0 h1
  have e0 : (0 : Int32).toInt = 0 := rfl
  have e1 : (255 : Int32).toInt = 255 := rfl
  obtain ⟨k, hk⟩ : ∃ k : Nat, x.toInt = k := ⟨x.toInt.toNat, by omega⟩
  have hx : x = Int32.ofNat k := Int32.toInt_inj.mp (by rw [hk, Int32.toInt_ofNat_small (by omega)])
  rw [hx]
  exact t ⟨k, by omega⟩
end StrChars
namespace StrChars.Road
open Jvm Sem ClassFile Op Lib Jvm.Stand Jvm.Free Jvm.Free.XT
open Jvm.Lib.Cold (StaticIs)
abbrev ST : String := "java/lang/String"
/-- every table word that New1's law asks, flat -/
abbrev words : List Jvm.Cond := [.code New1.yN New1.yB 2 none, .initialized ST, .methodLink ST 27 New4.yN, .instanceMethod New4.yN,
  .code New4.yN New4.yB 6 none, .fieldLink ST 38 ST "COMPACT_STRINGS" "Z", .laysFinal ST ST "value" "[B", .fieldLink ST 9 ST "value" "[B", .laysFinal ST ST "coder" "B", .fieldLink ST 15 ST "coder" "B",
  .methodLink ST 1 Lib.objectInit, .instanceMethod Lib.objectInit, .code Lib.objectInit ⟨#[0xb1]⟩ 1 none, .methodLink ST 177 Cmp3.yN, .static Cmp3.yN, .methodLink ST 47 CodL.yN, .static CodL.yN,
  .code Cmp3.yN Cmp3.yB 6 (some (.array .byte)), .initialized U16, .arrayClass .byte, .methodLink U16 115 Cmp5.yN, .static Cmp5.yN, .code Cmp5.yN Cmp5.yB 7 (some .int), .code CodL.yN CodL.yB 2 (some .byte)]
theorem tab_of {a : Array Value} {s : State} (h : ∀ w ∈ words, w.before a s = true) : New1.tab.before a s = true := by
  have h5 : Cmp5.tab.before a s = true := unparts (wk h (.code Cmp5.yN Cmp5.yB 7 (some .int))) (wks h (.initialized Cmp5.yN.cls :: Cmp5.site))
  have hc : CodL.tab.before a s = true := unparts (wk h (.code CodL.yN CodL.yB 2 (some .byte))) (wks h (.initialized CodL.yN.cls :: CodL.site))
  have q5 : ∀ w ∈ Cmp5.tab :: words, w.before a s = true := fun w hw => (List.mem_cons.mp hw).elim (fun e => e ▸ h5) (h w)
  have h3 : Cmp3.tab.before a s = true := unparts (wk q5 (.code Cmp3.yN Cmp3.yB 6 (some (.array .byte)))) (wks q5 (.initialized Cmp3.yN.cls :: Cmp3.site))
  have q3 : ∀ w ∈ Cmp3.tab :: CodL.tab :: words, w.before a s = true := fun w hw => (List.mem_cons.mp hw).elim (fun e => e ▸ h3) fun hw => (List.mem_cons.mp hw).elim (fun e => e ▸ hc) (h w)
  have h4 : New4.tab.before a s = true := unparts (wk q3 (.code New4.yN New4.yB 6 none)) (wks q3 (.initialized New4.yN.cls :: New4.site))
  have q4 : ∀ w ∈ New4.tab :: words, w.before a s = true := fun w hw => (List.mem_cons.mp hw).elim (fun e => e ▸ h4) (h w)
  exact unparts (wk q4 (.code New1.yN New1.yB 2 none)) (wks q4 (.initialized New1.yN.cls :: New1.site))
/-- the words ride from the start Z to the walk's own state -/
theorem moved {Z s : State} {a0 args : Array Value} (hZ : Z.Warmed39 s.vm) (hw : ∀ d ∈ words, d.before a0 Z = true) : ∀ d ∈ words, d.before args s = true := fun d hd => by
  have q := hw d hd
  have t : ∀ d ∈ words, d = .arrayClass .byte ∨ (d.onTables && d.keepsFace) = true := by decide +kernel
  rcases t d hd with rfl | t
  · exact RoadKit.mvA hZ q
  · exact RoadKit.mv hZ q t
/-- WHAT COMES BACK, over the tables of the start Z: h the heap at the call, h' behind it -/
def Q (Z : State) (x : Addr) (A : Cell) (h : Heap) (v : Option Value) (h' : Heap) (L : List Loc) : Prop := v = none ∧ (∀ y ∈ L, y.base = x) ∧ RoadKit.Keep h h' [x] ∧ h'.size = h.size + 1 ∧ RoadKit.Exa Z h' x ST ∧ RoadKit.Fld Z h' x ST "value" "[B" (.ref h.size) ∧ RoadKit.Fld Z h' x ST "coder" "B" (.int 0) ∧
  (∃ V : Cell, RoadKit.Arr Z h' h.size V .byte ∧ V.vm = .none ∧ Z.vm.findClass "[B" = some V.cls ∧ V.slots.size = A.slots.size ∧ ∀ j, j < A.slots.size → V.slots[j]? = some (.int (lo8 (cv A j)))) ∧
  ∀ (O n d : String) (w : Value), RoadKit.Fld Z h x O n d w → RoadKit.slotOf Z O n d ≠ RoadKit.slotOf Z ST "value" "[B" → RoadKit.slotOf Z O n d ≠ RoadKit.slotOf Z ST "coder" "B" → RoadKit.Fld Z h' x O n d w
/-- **new String(chars) AT A CALL, IN THE ROAD'S FORM**: for specialBack behind newO: x the fresh String, b the char[] with the cell A -/
theorem back {p : Program} {l : Launch} {e : Env} {R : Room} {s : State} {args : Array Value} {below : List Frame} {len W : Nat} {Z : State} {a0 : Array Value} {h : Heap} (hZ : Z.Warmed39 s.vm) (hw : ∀ d ∈ words, d.before a0 Z = true) {kI : Nat} (wi : (Jvm.Cond.instantiable ST kI).before a0 Z = true)
    {x b : Addr} {A : Cell} {z : Int32} {v0 c0 : Value} (E : RoadKit.Exa Z h x ST) (V : RoadKit.Fld Z h x ST "value" "[B" v0) (C : RoadKit.Fld Z h x ST "coder" "B" c0) (K : RoadKit.Arr Z h b A .char) (hty : Typed .char A) (S : RoadKit.Sta Z h ST "COMPACT_STRINGS" "Z" (.int z)) (hz : ¬ z = 0)
    (l0 : 0 < A.slots.size) (l2 : A.slots.size ≤ 536870912) (hp : ∀ i, i < A.slots.size → ¬ 255 < cv A i) (hfr : 4 ≤ R.frames) (hlo : W + 65 ≤ R.locals) :
    Back l R p e below s args New1.yN len W (fun P a => a = #[.ref x, .ref b] ∧ P.U.heap = h ∧ P.cells + 1 ≤ R.cells ∧ P.slots + A.slots.size ≤ R.slots)
      (fun P _ v B => ∃ L, Q Z x A h v B.U.heap L ∧ B.locs = P.locs ++ L ∧ B.cells = P.cells + 1 ∧ B.slots = P.slots + A.slots.size) := by
  intro m meth c P g ig mk a X hg hsize hdg hW hn hp'
  obtain ⟨rfl, rfl, r1, r2⟩ := hp'
  have al : Z.vm.Alike P.U.vm := hZ.alike.trans X.warmed.alike
  obtain ⟨D, cfV, kV, iV, fV, hD, gV, stV, knV, obV, asV, slV⟩ := id V
  obtain ⟨D', cfC, kC, iC, fC, hD', gC, stC, -, -, asC, slC⟩ := id C
  cases hD.symm.trans hD'
  obtain ⟨D2, kD, e1, e2, e3, e4, e5⟩ := id E
  cases hD.symm.trans e1
  obtain ⟨c2, k2, i1, i2, i3, -⟩ := Cond.instantiable_spec wi
  cases e2.symm.trans i1
  cases e3.symm.trans i2
  obtain ⟨kU, u1, u2⟩ := al.2.2 _ _ e3
  have hB : Blank ST x D P.U := ⟨hD, ⟨knV, fun q hq => by rw [hq] at obV; cases obV⟩, by rw [al.findClass]; exact e2, kU, u1, by rw [u2]; exact i3, by rw [u2]; exact e5 i3⟩
  have F1 : Found ST "value" "[B" fV P.U := ⟨SBG.found_only al ⟨cfV, kV, iV, gV⟩, stV⟩
  have F2 : Found ST "coder" "B" fC P.U := ⟨SBG.found_only al ⟨cfC, kC, iC, gC⟩, stC⟩
  have hA : Ch b A P.U := ⟨⟨K.1, State.isArrayOf_alike al K.2.1, K.2.2, by omega⟩, hty⟩
  have hS : StaticIs P.U ST "COMPACT_STRINGS" "Z" (.int z) := by
    obtain ⟨cfS, iS, kS, fS, st, cS, t1, t2, t3, t4, t5, t6, t7⟩ := S
    exact StaticIs.there (s := { Z with heap := P.U.heap }) ⟨cfS, iS, kS, fS, st, cS, t1, t2, t3, t4, t5, (fun q => by rw [q] at t6; cases t6), t7⟩ al rfl
  obtain ⟨v, B, X', ⟨⟨hv, E', V', q1, q2, q3, q4, q5, q6, q7, q8, q9, q10, q11⟩, hl, hc, hs⟩, st⟩ := New1.pays x D fV fC b A z (tab_of (moved hZ hw)) hfr hlo m meth c P g ig mk _ X hg hsize hdg hW hn ⟨r1, r2, rfl, hB, F1, F2, hA, hS, hz, l0, l2, hp⟩
  have al' : Z.vm.Alike B.U.vm := hZ.alike.trans X'.warmed.alike
  have hsz : E'.slots.size = D.slots.size := by
    obtain ⟨-, -, -, kB, w1, w2, w3⟩ := q1
    obtain ⟨kB', y1, y2⟩ := al'.2.2 _ _ e3
    rw [q2.2.1] at w1
    cases w1.symm.trans y1
    rw [w3, e5 i3, y2]
  refine ⟨v, B, X', ⟨_, ⟨hv, ?_, ⟨by omega, fun y cy hy hn' => q10 y cy (by simpa using hn') hy, fun y cy hy => ?_⟩, q11, ⟨E', _, q1.1, by rw [q2.2.1]; exact e2, by rw [q2.2.1]; exact e3, by rw [q2.1]; exact obV, fun _ => by rw [hsz]; exact e5 i3⟩,
    ⟨E', cfV, kV, iV, fV, q1.1, gV, stV, by rw [q2.1]; exact knV, by rw [q2.1]; exact obV, by rw [q2.2.1]; exact asV, q3⟩, ⟨E', cfC, kC, iC, fC, q1.1, gC, stC, by rw [q2.1]; exact knV, by rw [q2.1]; exact obV, by rw [q2.2.1]; exact asC, q4⟩,
    ⟨V', ⟨q5.1, State.isArrayOf_alike al'.symm q5.2.1, q5.2.2.1⟩, q6, by rw [← al'.findClass]; exact q7, q8, fun j hj => by have := q9 j hj; rwa [Nat.zero_add] at this⟩, fun O n d w F n1 n2 => ?_⟩, hl, hc, hs⟩, st⟩
  · intro y hy
    simp only [List.mem_cons, List.not_mem_nil, or_false] at hy
    rcases hy with rfl | rfl <;> rfl
  · by_cases q : y = x
    · subst q
      cases hD.symm.trans hy
      exact ⟨E', q1.1, q2.2.1, q2.1, hsz⟩
    · exact ⟨cy, q10 y cy q hy, rfl, rfl, rfl⟩
  · obtain ⟨D3, cf, k, i, f, g1, g2, g3, g4, g5, g6, g7⟩ := F
    cases hD.symm.trans g1
    simp only [RoadKit.slotOf, g2, gV, gC, Option.map_some, Option.getD_some] at n1 n2
    exact ⟨E', cf, k, i, f, q1.1, g2, g3, by rw [q2.1]; exact g4, by rw [q2.1]; exact g5, by rw [q2.2.1]; exact g6, by rw [q2.2.2 f.slot (by simp [n1, n2])]; exact g7⟩
end StrChars.Road
namespace StrChars.Road
open Jvm Sem ClassFile Op Lib Jvm.Stand Jvm.Free Jvm.Free.XT
/-- WHAT COMES BACK, the byte[] as a list of values -/
def QA (Z : State) (x : Addr) (zn : Int32) (cs : List Int32) (h : Heap) (v : Option Value) (h' : Heap) (L : List Loc) : Prop := v = none ∧ (∀ y ∈ L, y.base = x) ∧ RoadKit.Keep h h' [x] ∧ h'.size = h.size + 1 ∧ RoadKit.Exa Z h' x ST ∧ RoadKit.Fld Z h' x ST "value" "[B" (.ref h.size) ∧ RoadKit.Fld Z h' x ST "coder" "B" (.int 0) ∧
  (∃ kb, Z.vm.findClass "[B" = some kb ∧ RoadKit.Arv Z h' h.size kb .byte zn (cs.map fun c => .int (lo8 c)) (.int 0)) ∧
  ∀ (O n d : String) (w : Value), RoadKit.Fld Z h x O n d w → RoadKit.slotOf Z O n d ≠ RoadKit.slotOf Z ST "value" "[B" → RoadKit.slotOf Z O n d ≠ RoadKit.slotOf Z ST "coder" "B" → RoadKit.Fld Z h' x O n d w
/-- **new String(chars) AT A CALL, THE ARRAYS AS LISTS**: the char[] at b holds cs, not empty, no char above 255 -/
theorem backArv {p : Program} {l : Launch} {e : Env} {R : Room} {s : State} {args : Array Value} {below : List Frame} {len W : Nat} {Z : State} {a0 : Array Value} {h : Heap} (hZ : Z.Warmed39 s.vm) (hw : ∀ d ∈ words, d.before a0 Z = true) {kI : Nat} (wi : (Jvm.Cond.instantiable ST kI).before a0 Z = true)
    {x b : Addr} {k : ClassId} {zn z : Int32} {cs : List Int32} {dv v0 c0 : Value} (E : RoadKit.Exa Z h x ST) (V : RoadKit.Fld Z h x ST "value" "[B" v0) (C : RoadKit.Fld Z h x ST "coder" "B" c0) (K : RoadKit.Arv Z h b k .char zn (cs.map Value.int) dv) (S : RoadKit.Sta Z h ST "COMPACT_STRINGS" "Z" (.int z)) (hz : ¬ z = 0)
    (hlen : zn.toNatClampNeg = cs.length) (h0 : 0 < cs.length) (hbig : cs.length ≤ 536870912) (hall : ∀ c ∈ cs, ¬ 255 < c) (hfr : 4 ≤ R.frames) (hlo : W + 65 ≤ R.locals) :
    Back l R p e below s args New1.yN len W (fun P a => a = #[.ref x, .ref b] ∧ P.U.heap = h ∧ P.cells + 1 ≤ R.cells ∧ P.slots + cs.length ≤ R.slots)
      (fun P _ v B => ∃ L, QA Z x zn cs h v B.U.heap L ∧ B.locs = P.locs ++ L ∧ B.cells = P.cells + 1 ∧ B.slots = P.slots + cs.length) := by
  obtain ⟨A, K1, K2, K3, K4, K5, K6⟩ := K
  have e : A.slots.size = cs.length := K3.trans hlen
  have hat : ∀ (i : Nat) (hi : i < cs.length), A.slots[i]? = some (.int cs[i]) := fun i hi => by rw [K5 i (by omega)]; simp [List.getD_eq_getElem?_getD, hi]
  have hcv : ∀ (i : Nat) (hi : i < cs.length), cv A i = cs[i] := fun i hi => by unfold cv; rw [hat i hi]
  have hty : Typed .char A := fun i v hv => by
    have hi : i < A.slots.size := (Array.getElem?_eq_some_iff.mp hv).1
    have q := K5 i hi
    rw [hv] at q
    rw [Option.some.inj q]
    exact K6 i hi
  refine Back.mono (back hZ hw wi E V C K1 hty S hz (by omega) (by omega) (fun i hi => by rw [hcv i (by omega)]; exact hall _ (List.getElem_mem _)) hfr hlo) (fun P a hp => ⟨hp.1, hp.2.1, hp.2.2.1, by rw [e]; exact hp.2.2.2⟩) (fun P a v B hp hq => ?_)
  obtain ⟨L, ⟨q1, q2, q3, q4, q5, q6, q7, ⟨V', v1, v2, v3, v4, v5⟩, q9⟩, hl, hc, hs⟩ := hq
  refine ⟨L, ⟨q1, q2, q3, q4, q5, q6, q7, ⟨V'.cls, v3, V', v1, rfl, by rw [v4, e, hlen], K4, fun i hi => ?_, fun i hi => ?_⟩, q9⟩, hl, hc, by rw [hs, e]⟩
  · have hi' : i < cs.length := by omega
    rw [v5 i (by omega), hcv i hi']; simp [List.getD_eq_getElem?_getD, hi']
  · have hi' : i < cs.length := by omega
    simp only [List.getD_eq_getElem?_getD, List.getElem?_map, List.getElem?_eq_getElem hi', Option.map_some, Option.getD_some]
    exact fits_lo8 _
end StrChars.Road
namespace StrChars.Road
open Jvm Sem ClassFile Op Lib Jvm.Stand Jvm.Free Jvm.Free.XT
/-- WHAT COMES BACK, in the writer's own shape -/
def QV (Z : State) (x : Addr) (N : Int32) (bs : List Int32) (h : Heap) (n0 : Nat) (v : Option Value) (h' : Heap) (L : List Loc) : Prop := v = none ∧ RoadKit.Fr n0 L ∧ RoadKit.Keep h h' [x] ∧ RoadKit.Exa Z h' x ST ∧ RoadKit.Fld Z h' x ST "coder" "B" (.int 0) ∧
  ∃ (t : Addr) (kb : ClassId), n0 ≤ t ∧ h.size ≤ t ∧ ¬ t = x ∧ RoadKit.Fld Z h' x ST "value" "[B" (.ref t) ∧ RoadKit.Arv Z h' t kb .byte N (bs.map Value.int) (.int 0)
/-- **new String(chars) AT A CALL, FOR THE WRITER**: a char[] of n known ints, each 0 to 255 -/
theorem backV {p : Program} {l : Launch} {e : Env} {R : Room} {s : State} {args : Array Value} {below : List Frame} {len W : Nat} {Z : State} {a0 : Array Value} {h : Heap} (hZ : Z.Warmed39 s.vm) (hw : ∀ d ∈ words, d.before a0 Z = true) {kI : Nat} (wi : (Jvm.Cond.instantiable ST kI).before a0 Z = true)
    {x b : Addr} {kC : ClassId} {cs bs : List Int32} {d v0 c0 : Value} {z N : Int32} {n n0 : Nat} (hx0 : n0 ≤ x) (hh0 : n0 ≤ h.size) (E : RoadKit.Exa Z h x ST) (V : RoadKit.Fld Z h x ST "value" "[B" v0) (C : RoadKit.Fld Z h x ST "coder" "B" c0) (K : RoadKit.Arv Z h b kC .char N (cs.map Value.int) d) (S : RoadKit.Sta Z h ST "COMPACT_STRINGS" "Z" (.int z)) (hz : ¬ z = 0)
    (hn : cs.length = n) (hN : N = Int32.ofNat n) (l0 : 0 < n) (l2 : n ≤ 4000) (hp : ∀ c ∈ cs, ¬ c < 0 ∧ ¬ (255 : Int32) < c) (hb : bs = cs.map (fun c => c.toInt8.toInt32)) (hfr : 4 ≤ R.frames) (hlo : W + 65 ≤ R.locals) :
    Back l R p e below s args (⟨"java/lang/String", "<init>", "([C)V"⟩ : MethodName) len W (fun P a => a = #[.ref x, .ref b] ∧ P.U.heap = h ∧ P.cells + 1 ≤ R.cells ∧ P.slots + n ≤ R.slots)
      (fun P _ v B => ∃ L, QV Z x N bs h n0 v B.U.heap L ∧ B.locs = P.locs ++ L ∧ B.cells = P.cells + 1 ∧ B.slots = P.slots + n) := by
  subst hn hN hb
  refine Back.mono (backArv hZ hw wi E V C K S hz (n32 (by omega)) l0 (by omega) (fun c hc => (hp c hc).2) hfr hlo) (fun P a hp => hp) (fun P a v B hp hq => ?_)
  obtain ⟨L, ⟨q1, q2, q3, q4, q5, q6, q7, ⟨kb, v1, v2⟩, q9⟩, hl, hc, hs⟩ := hq
  exact ⟨L, ⟨q1, fun y hy => by rw [q2 y hy]; exact hx0, q3, q5, q7, h.size, kb, hh0, Nat.le_refl _, Nat.ne_of_gt E.lt, q6, by rw [List.map_map]; exact v2⟩, hl, hc, hs⟩
end StrChars.Road
namespace StrChars
open Jvm Sem ClassFile Op Lib Jvm.Stand Jvm.Free.XT Jvm.Free.ALB Jvm.Free.JM Jvm.Free
open Jvm.Lib.Cold (StaticIs)
def hi8 (x : Int32) : Int32 := lo8 (x >>> ((8 : Int32) &&& 31))
/-- what StringUTF16.getChar makes of two bytes -/
def pairCh (u v : Int32) : Int32 := (((u &&& 255) <<< ((0 : Int32) &&& 31)) ||| ((v &&& 255) <<< ((8 : Int32) &&& 31))).toUInt32.toUInt16.toUInt32.toInt32
theorem shr0 (c : Int32) : c >>> ((0 : Int32) &&& 31) = c := by
  have e : ((0 : Int32) &&& 31) = 0 := by decide
  rw [e]
  apply Int32.toBitVec_inj.mp
  rw [Int32.toBitVec_shiftRight]
  have e1 : ((0 : Int32).toBitVec.smod 32) = 0#32 := by decide
  rw [e1, BitVec.sshiftRight_eq']
  exact BitVec.sshiftRight_zero
theorem lo8_and (x : Int32) : (lo8 x &&& 255).toBitVec.toNat = x.toBitVec.toNat % 256 := by
  have h : (lo8 x).toBitVec = (x.toBitVec.signExtend 8).signExtend 32 := by rw [lo8, Int8.toBitVec_toInt32, Int32.toBitVec_toInt8]
  rw [Int32.toBitVec_and, BitVec.toNat_and, h]
  have e : ((x.toBitVec.signExtend 8).signExtend 32).toNat % 256 = x.toBitVec.toNat % 256 := by
    rw [BitVec.toNat_signExtend]
    have hlt := x.toBitVec.isLt
    simp only [BitVec.toNat_setWidth, BitVec.toNat_signExtend]
    split <;> split <;> omega
  rw [← e]
  exact Nat.and_two_pow_sub_one_eq_mod _ 8
theorem pair_says {c : Int32} (h0 : ¬ c < 0) (h1 : ¬ 65535 < c) : pairCh (lo8 c) (hi8 c) = c := by
  rw [Int32.lt_iff_toInt_lt] at h0 h1
  have e0 : (0 : Int32).toInt = 0 := rfl
  have e1 : (65535 : Int32).toInt = 65535 := rfl
  have hc : c.toInt = c.toBitVec.toNat := by
    have := c.toBitVec.isLt
    have e : c.toInt = c.toBitVec.toInt := rfl
    rw [e] at h0 h1
    rw [e]
    rw [BitVec.toInt_eq_toNat_cond] at h0 h1 ⊢
    split at h0 <;> split <;> omega
  have hn : c.toBitVec.toNat < 65536 := by omega
  have a1 := lo8_and c
  have a2 : (hi8 c &&& 255).toBitVec.toNat = c.toBitVec.toNat / 256 := by
    rw [hi8, lo8_and]
    have e : ((8 : Int32) &&& 31) = 8 := by decide
    rw [e, Int32.toBitVec_shiftRight]
    have e2 : ((8 : Int32).toBitVec.smod 32) = 8#32 := by decide
    rw [e2, BitVec.sshiftRight_eq', BitVec.toNat_sshiftRight_of_msb_false (by rw [BitVec.msb_eq_false_iff_two_mul_lt]; omega)]
    show c.toBitVec.toNat >>> 8 % 256 = _
    rw [Nat.shiftRight_eq_div_pow]
    omega
  unfold pairCh
  apply Int32.toBitVec_inj.mp
  apply BitVec.eq_of_toNat_eq
  have f0 : ((0 : Int32) &&& 31) = 0 := by decide
  have f8 : ((8 : Int32) &&& 31) = 8 := by decide
  rw [f0, f8]
  have g : (((lo8 c &&& 255) <<< (0 : Int32)) ||| ((hi8 c &&& 255) <<< (8 : Int32))).toBitVec.toNat = c.toBitVec.toNat := by
    rw [Int32.toBitVec_or, Int32.toBitVec_shiftLeft, Int32.toBitVec_shiftLeft]
    have s0 : ((0 : Int32).toBitVec.smod 32) = 0#32 := by decide
    have s8 : ((8 : Int32).toBitVec.smod 32) = 8#32 := by decide
    rw [s0, s8, BitVec.toNat_or]
    simp only [BitVec.shiftLeft_eq', BitVec.toNat_shiftLeft, a1, a2]
    show (c.toBitVec.toNat % 256) <<< 0 % 2 ^ 32 ||| (c.toBitVec.toNat / 256) <<< 8 % 2 ^ 32 = _
    rw [Nat.shiftLeft_zero, Nat.mod_eq_of_lt (show c.toBitVec.toNat % 256 < 2 ^ 32 by omega), Nat.mod_eq_of_lt (show (c.toBitVec.toNat / 256) <<< 8 < 2 ^ 32 by rw [Nat.shiftLeft_eq]; omega), Nat.or_comm, ← Nat.shiftLeft_add_eq_or_of_lt (by omega), Nat.shiftLeft_eq]
    omega
  show BitVec.toNat (((((lo8 c &&& 255) <<< (0 : Int32)) ||| ((hi8 c &&& 255) <<< (8 : Int32))).toBitVec.setWidth 16).setWidth 32) = _
  rw [BitVec.toNat_setWidth, BitVec.toNat_setWidth, g]
  omega
end StrChars
namespace StrChars
open Jvm Sem ClassFile Op Lib Jvm.Stand Jvm.Free.XT Jvm.Free.ALB Jvm.Free.JM Jvm.Free
open Jvm.Lib.Cold (StaticIs)
theorem shr1 {n : Nat} (h : 2 * n < 2 ^ 31) : Int32.ofNat (2 * n) >>> ((1 : Int32) &&& 31) = Int32.ofNat n := by
  have e : ((1 : Int32) &&& 31) = 1 := by decide
  rw [e]
  apply Int32.toBitVec_inj.mp
  rw [Int32.toBitVec_shiftRight]
  have e1 : ((1 : Int32).toBitVec.smod 32) = 1#32 := by decide
  have hm : (BitVec.ofNat 32 (2 * n)).toNat = 2 * n := by rw [BitVec.toNat_ofNat, Nat.mod_eq_of_lt (by omega)]
  rw [e1, BitVec.sshiftRight_eq']
  apply BitVec.eq_of_toNat_eq
  show ((BitVec.ofNat 32 (2 * n)).sshiftRight 1).toNat = (BitVec.ofNat 32 n).toNat
  rw [BitVec.toNat_sshiftRight_of_msb_false (by rw [BitVec.msb_eq_false_iff_two_mul_lt, hm]; omega), hm, BitVec.toNat_ofNat, Nat.shiftRight_eq_div_pow]
  omega
/-- charAt's cast of a byte read back -/
def chr8 (u : Int32) : Int32 := (u &&& 255).toUInt32.toUInt16.toUInt32.toInt32
theorem chr8_lo8 {c : Int32} (h0 : ¬ c < 0) (h1 : ¬ 255 < c) : chr8 (lo8 c) = c := by
  have t : ∀ k : Fin 256, (Int32.ofNat k.val).toUInt32.toUInt16.toUInt32.toInt32 = Int32.ofNat k.val := by decide +kernel
  unfold chr8
  rw [lo8_mask h0 h1]
  rw [Int32.lt_iff_toInt_lt] at h0 h1
  have e0 : (0 : Int32).toInt = 0 := rfl
  have e1 : (255 : Int32).toInt = 255 := rfl
  obtain ⟨k, hk⟩ : ∃ k : Nat, c.toInt = k := ⟨c.toInt.toNat, by omega⟩
  have hx : c = Int32.ofNat k := Int32.toInt_inj.mp (by rw [hk, Int32.toInt_ofNat_small (by omega)])
  rw [hx]
  exact t ⟨k, by omega⟩
theorem narrow_ch {c : Int32} (h0 : ¬ c < 0) (h1 : ¬ 65535 < c) : narrow .char (.int c) = .int c := by
  have q : narrow .char (.int (pairCh (lo8 c) (hi8 c))) = .int (pairCh (lo8 c) (hi8 c)) := narrow_c _
  rwa [pair_says h0 h1] at q
/-- the array's cell V codes the n chars f 0 .. f (n - 1) by the coder cd, as the JDK does: coder 1 just where some char is above 255 -/
def Cod (cd : Int32) (n : Nat) (f : Nat → Int32) (V : Cell) : Prop := (cd = 0 ∧ V.slots.size = n ∧ ∀ j, j < n → V.slots[j]? = some (.int (lo8 (f j))) ∧ ¬ 255 < f j) ∨ (cd = 1 ∧ V.slots.size = 2 * n ∧ (∀ j, j < n → V.slots[2 * j]? = some (.int (lo8 (f j))) ∧ V.slots[2 * j + 1]? = some (.int (hi8 (f j)))) ∧ ∃ j, j < n ∧ 255 < f j)
theorem Cod.cd {cd : Int32} {n : Nat} {f : Nat → Int32} {V : Cell} (h : Cod cd n f V) : cd = 0 ∨ cd = 1 := h.imp (fun q => q.1) fun q => q.1
theorem Cod.len {cd : Int32} {n : Nat} {f : Nat → Int32} {V : Cell} (h : Cod cd n f V) (hs : V.slots.size < 2 ^ 31) : Int32.ofNat V.slots.size >>> (cd &&& 31) = Int32.ofNat n := by
  rcases h with ⟨rfl, h, -⟩ | ⟨rfl, h, -⟩
  · rw [shr0, h]
  · rw [h, shr1 (by omega)]
/-- **x is a String of the n chars f 0 .. f (n - 1)**, Latin-1 or UTF-16; its array at t has the cell V -/
def Txt (x t : Addr) (V : Cell) (cd : Int32) (n : Nat) (f : Nat → Int32) (U : State) : Prop := Exact "java/lang/String" x U ∧ Has x "java/lang/String" "value" "[B" (.ref t) U ∧ Has x "java/lang/String" "coder" "B" (.int cd) U ∧ XT.Arr .byte t V U ∧ Cod cd n f V ∧ ∀ j, j < n → ¬ f j < 0 ∧ ¬ 65535 < f j
theorem Txt.mv {x t : Addr} {V : Cell} {cd : Int32} {n : Nat} {f : Nat → Int32} {U U' : State} (h : Txt x t V cd n f U) (hal : U.vm.Alike U'.vm) (hh : U'.heap = U.heap) : Txt x t V cd n f U' := ⟨h.1.mv hal hh, h.2.1.mv hal hh, h.2.2.1.mv hal hh, h.2.2.2.1.mv hal hh, h.2.2.2.2⟩
namespace Cdr
def yN : MethodName := ⟨"java/lang/String", "coder", "()B"⟩
abbrev yB : ByteArray := jdk_42_method_152_code
theorem d0 : decode yB 0 = .ok (.getstatic 38, 3) := by decide +kernel
theorem d3 : decode yB 3 = .ok (.ifCond (.eq) 10, 3) := by decide +kernel
theorem d6 : decode yB 6 = .ok (.aload_n 0, 1) := by decide +kernel
theorem d7 : decode yB 7 = .ok (.getfield 15, 3) := by decide +kernel
theorem d10 : decode yB 10 = .ok (.goto 4, 3) := by decide +kernel
theorem d14 : decode yB 14 = .ok (.ireturn, 1) := by decide +kernel
def site : List Cond := [.fieldLink "java/lang/String" 38 "java/lang/String" "COMPACT_STRINGS" "Z", .fieldLink "java/lang/String" 15 "java/lang/String" "coder" "B"]
def tab : Cond := tabOf yN yB 1 (some .byte) site
def P (x : Addr) (cd z : Int32) (args : Array Value) (s : State) : Prop := args = #[.ref x] ∧ Has x "java/lang/String" "coder" "B" (.int cd) s ∧ (cd = 0 ∨ cd = 1) ∧ StaticIs s "java/lang/String" "COMPACT_STRINGS" "Z" (.int z) ∧ ¬ z = 0
def E (cd : Int32) (r : Option Value) (s u : State) : Prop := XT.PureE (some (.int cd)) r s u
theorem law (l : Launch) (x : Addr) (cd z : Int32) : Law l yN 1 0 0 0 yB 1 (some .byte) site (P x cd z) (E cd) [] 0 0 := by
  refine Law.of_walk (plainFor_of_name (by decide +kernel)) (by decide +kernel) (by decide +kernel) (by decide) (fun _ _ h => by rw [h.1]; rfl) (fun _ U U' hal hh h => ⟨h.1, h.2.1.mv hal hh, h.2.2.1, h.2.2.2.1.there hal hh, h.2.2.2.2⟩) (fun r U U' V V' h1 hal h2 h => XT.PureE.mv r U U' V V' h1 hal h2 h) ?_
  intro p e s m args below meth c s₁ X0 hexec hbytes hml hret hlk hnm hown hh0 W hP
  obtain ⟨rfl, hx, hc, s1, hz⟩ := hP
  have c1 : Steps p.tables e below (s₁.setTop (entryFrame m #[.ref x] 1)) (s₁.setTop (mkF m 0 #[.val (.ref x)] [])) := entry rfl
  obtain ⟨T2, X2, q2, st2⟩ := X0.sget hexec hown (wk W (.fieldLink "java/lang/String" 38 "java/lang/String" "COMPACT_STRINGS" "Z")) s1 (fun _ _ h => by rw [hh0]; exact h) (g := (mkF m 0 #[.val (.ref x)] [])) rfl (hb hbytes d0)
  have hh2 := q2.trans hh0
  have c3 : Steps p.tables e below (s₁.setTop (entryFrame m #[.ref x] 1)) (T2.setTop (mkF m 7 #[.val (.ref x)] [.ref x])) := (c1.trans (st2 _ (Steps.refl _))).trans (by
    refine XS.ifNo X2.here hexec rfl (hb hbytes d3) rfl (i0_eq_f hz) ?_
    refine XS.aloadN X2.here hexec rfl (hb hbytes d6) rfl rfl ?_
    exact Steps.refl _)
  obtain ⟨T4, X4, q4, st4⟩ := X2.hget hexec hown (wk W (.fieldLink "java/lang/String" 15 "java/lang/String" "coder" "B")) (hx.mv X2.warmed.alike hh2) (g := (mkF m 7 #[.val (.ref x)] [.ref x])) rfl (rest := []) rfl (hb hbytes d7)
  have c5 : Steps p.tables e below (s₁.setTop (entryFrame m #[.ref x] 1)) (T4.setTop (mkF m 14 #[.val (.ref x)] [.int cd])) := (c3.trans (st4 _ (Steps.refl _))).trans (by
    refine XS.goto X4.here hexec rfl (pc0 := 10) rfl (hb hbytes d10) (by decide) rfl ?_
    exact Steps.refl _)
  exact ⟨T4, some (.int cd), _, _, _, X4, rfl, rfl, rfl, (fun h => by cases h), ⟨rfl, q4.trans hh2⟩, fun fs hl => c5.trans (X4.ireturnOut hexec hret (by rcases hc with rfl | rfl <;> rfl) (Or.inr (Or.inr (Or.inl rfl))) (hb hbytes d14) hl)⟩
end Cdr
namespace Len
def yN : MethodName := ⟨"java/lang/String", "length", "()I"⟩
abbrev yB : ByteArray := jdk_42_method_54_code
theorem d0 : decode yB 0 = .ok (.aload_n 0, 1) := by decide +kernel
theorem d1 : decode yB 1 = .ok (.getfield 9, 3) := by decide +kernel
theorem d4 : decode yB 4 = .ok (.arraylength, 1) := by decide +kernel
theorem d5 : decode yB 5 = .ok (.aload_n 0, 1) := by decide +kernel
theorem d6 : decode yB 6 = .ok (.invokevirtual 335, 3) := by decide +kernel
theorem d9 : decode yB 9 = .ok (.ishr, 1) := by decide +kernel
theorem d10 : decode yB 10 = .ok (.ireturn, 1) := by decide +kernel
def site : List Cond := [.fieldLink "java/lang/String" 9 "java/lang/String" "value" "[B", Cdr.tab] ++ virtW "java/lang/String" 335 "java/lang/String" Cdr.yN Cdr.yN
def tab : Cond := tabOf yN yB 1 (some .int) site
def P (x t : Addr) (V : Cell) (cd : Int32) (n : Nat) (f : Nat → Int32) (z : Int32) (args : Array Value) (s : State) : Prop := args = #[.ref x] ∧ Txt x t V cd n f s ∧ StaticIs s "java/lang/String" "COMPACT_STRINGS" "Z" (.int z) ∧ ¬ z = 0
def E (n : Nat) (r : Option Value) (s u : State) : Prop := XT.PureE (some (.int (Int32.ofNat n))) r s u
/-- length() of a String of n chars, in either coding -/
theorem law (l : Launch) (x t : Addr) (V : Cell) (cd : Int32) (n : Nat) (f : Nat → Int32) (z : Int32) : Law l yN 1 0 1 13 yB 1 (some .int) site (P x t V cd n f z) (E n) [] 0 0 := by
  refine Law.of_walk (plainFor_of_name (by decide +kernel)) (by decide +kernel) (by decide +kernel) (by decide) (fun _ _ h => by rw [h.1]; rfl) (fun _ U U' hal hh h => ⟨h.1, h.2.1.mv hal hh, h.2.2.1.there hal hh, h.2.2.2⟩) (fun r U U' V V' h1 hal h2 h => XT.PureE.mv r U U' V V' h1 hal h2 h) ?_
  intro p e s m args below meth c s₁ X0 hexec hbytes hml hret hlk hnm hown hh0 W hP
  obtain ⟨rfl, hx, s1, hz⟩ := hP
  have v31 := hx.2.2.2.1.2.2.2
  have c1 : Steps p.tables e below (s₁.setTop (entryFrame m #[.ref x] 1)) (s₁.setTop (mkF m 1 #[.val (.ref x)] [.ref x])) := Steps.trans (entry rfl) (by
    show Steps p.tables e below (s₁.setTop (mkF m 0 #[.val (.ref x)] [])) _
    refine XS.aloadN X0.here hexec rfl (hb hbytes d0) rfl rfl ?_
    exact Steps.refl _)
  obtain ⟨T2, X2, q2, st2⟩ := X0.hget hexec hown (wk W (.fieldLink "java/lang/String" 9 "java/lang/String" "value" "[B")) (hx.mv X0.warmed.alike hh0).2.1 (g := (mkF m 1 #[.val (.ref x)] [.ref x])) rfl (rest := []) rfl (hb hbytes d1)
  have hh2 := q2.trans hh0
  have hx2 := hx.mv X2.warmed.alike hh2
  have c3 : Steps p.tables e below (s₁.setTop (entryFrame m #[.ref x] 1)) (T2.setTop (mkF m 6 #[.val (.ref x)] [.ref x, .int (Int32.ofNat V.slots.size)])) := (c1.trans (st2 _ (Steps.refl _))).trans (by
    refine X2.alen hexec hx2.2.2.2.1 rfl rfl (hb hbytes d4) ?_
    refine XS.aloadN X2.here hexec rfl (hb hbytes d5) rfl rfl ?_
    exact Steps.refl _)
  obtain ⟨v4, T4, X4, E4, g4⟩ := X2.callV hexec (Cdr.law l x cd z) hown (wks W (virtW "java/lang/String" 335 "java/lang/String" Cdr.yN Cdr.yN)) rfl (by decide) (wk W Cdr.tab) (W := 1) (Nat.le_of_ble_eq_true rfl) (Nat.le_of_ble_eq_true rfl) (Nat.le_refl _) (Nat.le_refl _) (hx2.1.fc X2.warmed.alike) hx2.1.is (g := (mkF m 6 #[.val (.ref x)] [.ref x, .int (Int32.ofNat V.slots.size)])) rfl (by rw [hml]; rfl) c3 (argsL := []) (rest := [.int (Int32.ofNat V.slots.size)]) rfl rfl (by show 2 * 0 + (1 + 0) ≤ _; decide) (hb hbytes d6) (⟨rfl, hx2.2.2.1, hx.2.2.2.2.1.cd, s1.there X2.warmed.alike hh2, hz⟩)
  obtain ⟨rfl, q4⟩ := E4
  have c5 : Steps p.tables e below (s₁.setTop (entryFrame m #[.ref x] 1)) (T4.setTop (mkF m 10 #[.val (.ref x)] [.int (Int32.ofNat V.slots.size >>> (cd &&& 31))])) := Steps.trans g4 (by
    refine ishr X4.here hexec rfl (hb hbytes d9) rfl ?_
    exact Steps.refl _)
  rw [hx.2.2.2.2.1.len v31] at c5
  exact ⟨T4, some (.int (Int32.ofNat n)), _, _, _, X4, rfl, rfl, rfl, (fun h => by cases h), ⟨rfl, q4.trans hh2⟩, fun fs hl => c5.trans (X4.ireturnOut hexec hret rfl (Or.inl rfl) (hb hbytes d10) hl)⟩
theorem pays {l : Launch} {R : Room} {p : Program} {e : Env} {below : List Frame} {s : State} {sargs : Array Value} {len W : Nat} (x t : Addr) (V : Cell) (cd : Int32) (n : Nat) (f : Nat → Int32) (z : Int32) (htab : tab.before sargs s = true) (hfr : 2 ≤ R.frames) (hlo : W + 25 ≤ R.locals) :
    Back l R p e below s sargs yN len W (fun A₁ a₁ => A₁.cells + 0 ≤ R.cells ∧ A₁.slots + 0 ≤ R.slots ∧ P x t V cd n f z a₁ A₁.U) (fun A₁ _ v₁ B₁ => E n v₁ A₁.U B₁.U ∧ B₁.locs = A₁.locs ++ [] ∧ B₁.cells = A₁.cells + 0 ∧ B₁.slots = A₁.slots + 0) :=
  (law l x t V cd n f z).pays htab hfr (by omega)
end Len
namespace IsL
def yN : MethodName := ⟨"java/lang/String", "isLatin1", "()Z"⟩
abbrev yB : ByteArray := jdk_42_method_154_code
theorem d0 : decode yB 0 = .ok (.getstatic 38, 3) := by decide +kernel
theorem d3 : decode yB 3 = .ok (.ifCond (.eq) 14, 3) := by decide +kernel
theorem d6 : decode yB 6 = .ok (.aload_n 0, 1) := by decide +kernel
theorem d7 : decode yB 7 = .ok (.getfield 15, 3) := by decide +kernel
theorem d10 : decode yB 10 = .ok (.ifCond (.ne) 7, 3) := by decide +kernel
theorem d13 : decode yB 13 = .ok (.iconst 1, 1) := by decide +kernel
theorem d14 : decode yB 14 = .ok (.goto 4, 3) := by decide +kernel
theorem d17 : decode yB 17 = .ok (.iconst 0, 1) := by decide +kernel
theorem d18 : decode yB 18 = .ok (.ireturn, 1) := by decide +kernel
def site : List Cond := [.fieldLink "java/lang/String" 38 "java/lang/String" "COMPACT_STRINGS" "Z", .fieldLink "java/lang/String" 15 "java/lang/String" "coder" "B"]
def tab : Cond := tabOf yN yB 1 (some .boolean) site
def P (x : Addr) (cd z : Int32) (args : Array Value) (s : State) : Prop := args = #[.ref x] ∧ Has x "java/lang/String" "coder" "B" (.int cd) s ∧ (cd = 0 ∨ cd = 1) ∧ StaticIs s "java/lang/String" "COMPACT_STRINGS" "Z" (.int z) ∧ ¬ z = 0
def E (cd : Int32) (r : Option Value) (s u : State) : Prop := XT.PureE (some (.int (1 - cd))) r s u
theorem law (l : Launch) (x : Addr) (cd z : Int32) : Law l yN 1 0 0 0 yB 1 (some .boolean) site (P x cd z) (E cd) [] 0 0 := by
  refine Law.of_walk (plainFor_of_name (by decide +kernel)) (by decide +kernel) (by decide +kernel) (by decide) (fun _ _ h => by rw [h.1]; rfl) (fun _ U U' hal hh h => ⟨h.1, h.2.1.mv hal hh, h.2.2.1, h.2.2.2.1.there hal hh, h.2.2.2.2⟩) (fun r U U' V V' h1 hal h2 h => XT.PureE.mv r U U' V V' h1 hal h2 h) ?_
  intro p e s m args below meth c s₁ X0 hexec hbytes hml hret hlk hnm hown hh0 W hP
  obtain ⟨rfl, hx, hc, s1, hz⟩ := hP
  have c1 : Steps p.tables e below (s₁.setTop (entryFrame m #[.ref x] 1)) (s₁.setTop (mkF m 0 #[.val (.ref x)] [])) := entry rfl
  obtain ⟨T2, X2, q2, st2⟩ := X0.sget hexec hown (wk W (.fieldLink "java/lang/String" 38 "java/lang/String" "COMPACT_STRINGS" "Z")) s1 (fun _ _ h => by rw [hh0]; exact h) (g := (mkF m 0 #[.val (.ref x)] [])) rfl (hb hbytes d0)
  have hh2 := q2.trans hh0
  have c3 : Steps p.tables e below (s₁.setTop (entryFrame m #[.ref x] 1)) (T2.setTop (mkF m 7 #[.val (.ref x)] [.ref x])) := (c1.trans (st2 _ (Steps.refl _))).trans (by
    refine XS.ifNo X2.here hexec rfl (hb hbytes d3) rfl (i0_eq_f hz) ?_
    refine XS.aloadN X2.here hexec rfl (hb hbytes d6) rfl rfl ?_
    exact Steps.refl _)
  obtain ⟨T4, X4, q4, st4⟩ := X2.hget hexec hown (wk W (.fieldLink "java/lang/String" 15 "java/lang/String" "coder" "B")) (hx.mv X2.warmed.alike hh2) (g := (mkF m 7 #[.val (.ref x)] [.ref x])) rfl (rest := []) rfl (hb hbytes d7)
  have c5 : Steps p.tables e below (s₁.setTop (entryFrame m #[.ref x] 1)) (T4.setTop (mkF m 10 #[.val (.ref x)] [.int cd])) := c3.trans (st4 _ (Steps.refl _))
  have c6 : Steps p.tables e below (s₁.setTop (entryFrame m #[.ref x] 1)) (T4.setTop (mkF m 18 #[.val (.ref x)] [.int (1 - cd)])) := by
    rcases hc with rfl | rfl
    · exact c5.trans (by
        refine XS.ifNo X4.here hexec rfl (hb hbytes d10) rfl (i0_ne_f rfl) ?_
        refine iconstV X4.here hexec rfl 1 (hb hbytes d13) (by decide) ?_
        refine XS.goto X4.here hexec rfl (pc0 := 14) rfl (hb hbytes d14) (by decide) rfl ?_
        exact Steps.refl _)
    · exact c5.trans (by
        refine XS.ifYes X4.here hexec rfl (pc0 := 10) rfl (hb hbytes d10) rfl (i0_ne_t (by decide)) (by decide) rfl ?_
        refine iconstV X4.here hexec rfl 0 (hb hbytes d17) (by decide) ?_
        exact Steps.refl _)
  exact ⟨T4, some (.int (1 - cd)), _, _, _, X4, rfl, rfl, rfl, (fun h => by cases h), ⟨rfl, q4.trans hh2⟩, fun fs hl => c6.trans (X4.ireturnOut hexec hret (by rcases hc with rfl | rfl <;> rfl) (Or.inr (Or.inl rfl)) (hb hbytes d18) hl)⟩
end IsL
namespace LChA
def yN : MethodName := ⟨"java/lang/StringLatin1", "charAt", "([BI)C"⟩
abbrev yB : ByteArray := jdk_43_method_2_code
theorem d0 : decode yB 0 = .ok (.iload_n 1, 1) := by decide +kernel
theorem d1 : decode yB 1 = .ok (.aload_n 0, 1) := by decide +kernel
theorem d2 : decode yB 2 = .ok (.arraylength, 1) := by decide +kernel
theorem d3 : decode yB 3 = .ok (.invokestatic 9, 3) := by decide +kernel
theorem d6 : decode yB 6 = .ok (.aload_n 0, 1) := by decide +kernel
theorem d7 : decode yB 7 = .ok (.iload_n 1, 1) := by decide +kernel
theorem d8 : decode yB 8 = .ok (.baload, 1) := by decide +kernel
theorem d9 : decode yB 9 = .ok (.sipush 255, 3) := by decide +kernel
theorem d12 : decode yB 12 = .ok (.iand, 1) := by decide +kernel
theorem d13 : decode yB 13 = .ok (.i2c, 1) := by decide +kernel
theorem d14 : decode yB 14 = .ok (.ireturn, 1) := by decide +kernel
def site : List Cond := [JO.Str_checkIndex.tab] ++ staticW "java/lang/StringLatin1" 9 JO.Str_checkIndex.yN
def tab : Cond := tabOf yN yB 2 (some .char) site
def P (t : Addr) (V : Cell) (i : Nat) (u : Int32) (fm : Value) (args : Array Value) (s : State) : Prop := args = #[.ref t, .int (Int32.ofNat i)] ∧ XT.Arr .byte t V s ∧ V.slots[i]? = some (.int u) ∧ (StaticIs s "jdk/internal/util/Preconditions" "SIOOBE_FORMATTER" "Ljava/util/function/BiFunction;" fm ∧ fm.isRef = true)
def E (u : Int32) (r : Option Value) (s w : State) : Prop := XT.PureE (some (.int (chr8 u))) r s w
theorem law (l : Launch) (t : Addr) (V : Cell) (i : Nat) (u : Int32) (fm : Value) : Law l yN 2 2 2 27 yB 2 (some .char) site (P t V i u fm) (E u) [] 0 0 := by
  refine Law.of_walk (plainFor_of_name (by decide +kernel)) (by decide +kernel) (by decide +kernel) (by decide) (fun _ _ h => by rw [h.1]; rfl) (fun _ U U' hal hh h => ⟨h.1, h.2.1.mv hal hh, h.2.2.1, h.2.2.2.1.there hal hh, h.2.2.2.2⟩) (fun r U U' V V' h1 hal h2 h => XT.PureE.mv r U U' V V' h1 hal h2 h) ?_
  intro p e s m args below meth c s₁ X0 hexec hbytes hml hret hlk hnm hown hh0 W hP
  obtain ⟨rfl, hV, hu, s1, rf⟩ := hP
  have v31 := hV.2.2.2
  have hi : i < V.slots.size := (Array.getElem?_eq_some_iff.mp hu).1
  have c1 : Steps p.tables e below (s₁.setTop (entryFrame m #[.ref t, .int (Int32.ofNat i)] 2)) (s₁.setTop (mkF m 0 #[.val (.ref t), .val (.int (Int32.ofNat i))] [])) := entry rfl
  have c2 : Steps p.tables e below (s₁.setTop (entryFrame m #[.ref t, .int (Int32.ofNat i)] 2)) (s₁.setTop (mkF m 3 #[.val (.ref t), .val (.int (Int32.ofNat i))] [.int (Int32.ofNat V.slots.size), .int (Int32.ofNat i)])) := c1.trans (by
    refine XS.iloadN X0.here hexec rfl (hb hbytes d0) rfl ?_
    refine XS.aloadN X0.here hexec rfl (hb hbytes d1) rfl rfl ?_
    refine X0.alen hexec (hV.mv X0.warmed.alike hh0) rfl rfl (hb hbytes d2) ?_
    exact Steps.refl _)
  obtain ⟨v3, T3, X3, E3, g3⟩ := X0.callS hexec (JO.Str_checkIndex.law l (Int32.ofNat i) (Int32.ofNat V.slots.size) fm) hown (wks W (staticW "java/lang/StringLatin1" 9 JO.Str_checkIndex.yN)) (wk W JO.Str_checkIndex.tab) (W := 0) (Nat.le_of_ble_eq_true rfl) (Nat.le_of_ble_eq_true rfl) (Nat.le_refl _) (Nat.le_refl _) (g := (mkF m 3 #[.val (.ref t), .val (.int (Int32.ofNat i))] [.int (Int32.ofNat V.slots.size), .int (Int32.ofNat i)])) rfl (by rw [hml]; rfl) c2 (argsL := [.int (Int32.ofNat i), .int (Int32.ofNat V.slots.size)]) (rest := []) rfl rfl (by show 2 * 0 + 0 ≤ _; decide) (hb hbytes d3) (⟨rfl, rf, s1.there X0.warmed.alike hh0, Int32.ofNat_not_neg (by omega), lt32 v31 hi⟩)
  obtain ⟨rfl, q3⟩ := E3
  have hh3 := q3.trans hh0
  have c4 : Steps p.tables e below (s₁.setTop (entryFrame m #[.ref t, .int (Int32.ofNat i)] 2)) (T3.setTop (mkF m 14 #[.val (.ref t), .val (.int (Int32.ofNat i))] [.int (chr8 u)])) := Steps.trans g3 (by
    refine XS.aloadN X3.here hexec rfl (hb hbytes d6) rfl rfl ?_
    refine XS.iloadN X3.here hexec rfl (hb hbytes d7) rfl ?_
    refine X3.aget hexec (hV.mv X3.warmed.alike hh3) rfl hu rfl rfl (hb hbytes d8) ?_
    refine sipushV X3.here hexec rfl 255 (hb hbytes d9) (by decide) ?_
    refine XS.iand X3.here hexec rfl (hb hbytes d12) rfl ?_
    refine i2c X3.here hexec rfl (hb hbytes d13) rfl ?_
    exact Steps.refl _)
  exact ⟨T3, some (.int (chr8 u)), _, _, _, X3, rfl, rfl, rfl, (fun h => by cases h), ⟨rfl, hh3⟩, fun fs hl => c4.trans (X3.ireturnOut hexec hret (narrow_c _) (Or.inr (Or.inr (Or.inr (Or.inl rfl)))) (hb hbytes d14) hl)⟩
end LChA
end StrChars
namespace StrChars.Road
open Jvm Sem ClassFile Op Lib Jvm.Stand Jvm.Free Jvm.Free.XT
open Jvm.Lib.Cold (StaticIs)
theorem consq {a : Array Value} {s : State} {c : Jvm.Cond} {L : List Jvm.Cond} (h0 : c.before a s = true) (h : ∀ w ∈ L, w.before a s = true) : ∀ w ∈ c :: L, w.before a s = true := fun w hw => (List.mem_cons.mp hw).elim (fun e => e ▸ h0) (h w)
/-- the words of String.length(), either coding -/
abbrev wordsLen : List Jvm.Cond := [.code Len.yN Len.yB 1 (some .int), .initialized ST, .fieldLink ST 9 ST "value" "[B", .fieldLink ST 38 ST "COMPACT_STRINGS" "Z", .fieldLink ST 15 ST "coder" "B", .code Cdr.yN Cdr.yB 1 (some .byte), .methodLink ST 335 Cdr.yN, .declares Cdr.yN, .selects ST Cdr.yN Cdr.yN, .instanceMethod Cdr.yN]
theorem tabLen_of {a : Array Value} {s : State} (h : ∀ w ∈ wordsLen, w.before a s = true) : Len.tab.before a s = true := by
  have hc : Cdr.tab.before a s = true := unparts (wk h (.code Cdr.yN Cdr.yB 1 (some .byte))) (wks h (.initialized Cdr.yN.cls :: Cdr.site))
  have q := consq hc h
  exact unparts (wk q (.code Len.yN Len.yB 1 (some .int))) (wks q (.initialized Len.yN.cls :: Len.site))
theorem movedLen {Z s : State} {a0 args : Array Value} (hZ : Z.Warmed39 s.vm) (hw : ∀ d ∈ wordsLen, d.before a0 Z = true) : ∀ d ∈ wordsLen, d.before args s = true := fun d hd => by
  have q := hw d hd
  have t : ∀ d ∈ wordsLen, d = .arrayClass .byte ∨ (d.onTables && d.keepsFace) = true := by decide +kernel
  rcases t d hd with rfl | t
  · exact RoadKit.mvA hZ q
  · exact RoadKit.mv hZ q t
/-- the bytes of the chars cs, low before high -/
def wideBytes : List Int32 → List Value
  | [] => []
  | c :: cs => .int (lo8 c) :: .int (hi8 c) :: wideBytes cs
theorem wide_lo (d : Value) : ∀ (cs : List Int32) (j : Nat), j < cs.length → (wideBytes cs).getD (2 * j) d = .int (lo8 (cs.getD j 0))
  | [], j, h => absurd h (Nat.not_lt_zero j)
  | c :: cs, 0, _ => rfl
  | c :: cs, j + 1, h => by
    have q := wide_lo d cs j (by simpa using h)
    rw [show 2 * (j + 1) = 2 * j + 1 + 1 from by omega]
    simpa [wideBytes] using q
theorem wide_hi (d : Value) : ∀ (cs : List Int32) (j : Nat), j < cs.length → (wideBytes cs).getD (2 * j + 1) d = .int (hi8 (cs.getD j 0))
  | [], j, h => absurd h (Nat.not_lt_zero j)
  | c :: cs, 0, _ => rfl
  | c :: cs, j + 1, h => by
    have q := wide_hi d cs j (by simpa using h)
    rw [show 2 * (j + 1) + 1 = 2 * j + 1 + 1 + 1 from by omega]
    simpa [wideBytes] using q
theorem low_at (d : Value) (cs : List Int32) (j : Nat) (h : j < cs.length) : (cs.map fun c => Value.int (lo8 c)).getD j d = .int (lo8 (cs.getD j 0)) := by
  simp [List.getD_eq_getElem?_getD, h]
/-- an array of N2 bytes vs codes the chars cs by the coder cd -/
def CodA (cs : List Int32) (cd N2 : Int32) (vs : List Value) : Prop := (cd = 0 ∧ N2 = Int32.ofNat cs.length ∧ vs = (cs.map fun c => Value.int (lo8 c)) ∧ ∀ c ∈ cs, ¬ 255 < c) ∨ (cd = 1 ∧ N2 = Int32.ofNat (2 * cs.length) ∧ vs = wideBytes cs ∧ ∃ c ∈ cs, 255 < c)
theorem CodA.cod {cs : List Int32} {cd N2 : Int32} {vs : List Value} {V : Cell} (h : CodA cs cd N2 vs) (hn : 2 * cs.length < 2 ^ 31) (hs : V.slots.size = N2.toNatClampNeg) (hv : RoadKit.Has V vs (.int 0)) : Cod cd cs.length (fun j => cs.getD j 0) V := by
  rcases h with ⟨rfl, rfl, rfl, h⟩ | ⟨rfl, rfl, rfl, c, hc, hw⟩
  · rw [n32 (by omega)] at hs
    exact Or.inl ⟨rfl, hs, fun j hj => ⟨by rw [hv j (by omega), low_at _ _ _ hj], by
      have e : cs.getD j 0 = cs[j] := by simp [List.getD_eq_getElem?_getD, hj]
      show ¬ 255 < cs.getD j 0
      rw [e]; exact h _ (List.getElem_mem _)⟩⟩
  · rw [n32 (by omega)] at hs
    obtain ⟨j, hj, rfl⟩ := List.getElem_of_mem hc
    exact Or.inr ⟨rfl, hs, fun j hj => ⟨by rw [hv _ (by omega), wide_lo _ _ _ hj], by rw [hv _ (by omega), wide_hi _ _ _ hj]⟩, j, hj, by
      have e : cs.getD j 0 = cs[j] := by simp [List.getD_eq_getElem?_getD, hj]
      show 255 < cs.getD j 0
      rw [e]; exact hw⟩
/-- an object of exactly java/lang/String, its two fields found: as the laws ask it -/
theorem strObj {Z U : State} {a0 : Array Value} {kI : Nat} (wi : (Jvm.Cond.instantiable ST kI).before a0 Z = true) (al : Z.vm.Alike U.vm) {x : Addr} {v0 c0 : Value} (E : RoadKit.Exa Z U.heap x ST) (V : RoadKit.Fld Z U.heap x ST "value" "[B" v0) (C : RoadKit.Fld Z U.heap x ST "coder" "B" c0) :
    ∃ (D : Cell) (fV fC : Field), Blank ST x D U ∧ Found ST "value" "[B" fV U ∧ Found ST "coder" "B" fC U ∧ D.slots[fV.slot]? = some v0 ∧ D.slots[fC.slot]? = some c0 ∧ RoadKit.slotOf Z ST "value" "[B" = fV.slot ∧ RoadKit.slotOf Z ST "coder" "B" = fC.slot := by
  obtain ⟨D, cfV, kV, iV, fV, hD, gV, stV, knV, obV, asV, slV⟩ := V
  obtain ⟨D', cfC, kC, iC, fC, hD', gC, stC, -, -, asC, slC⟩ := C
  cases hD.symm.trans hD'
  obtain ⟨D2, kD, e1, e2, e3, e4, e5⟩ := E
  cases hD.symm.trans e1
  obtain ⟨c2, k2, i1, i2, i3, -⟩ := Cond.instantiable_spec wi
  cases e2.symm.trans i1
  cases e3.symm.trans i2
  obtain ⟨kU, u1, u2⟩ := al.2.2 _ _ e3
  exact ⟨D, fV, fC, ⟨hD, ⟨knV, fun q hq => by rw [hq] at obV; cases obV⟩, by rw [al.findClass]; exact e2, kU, u1, by rw [u2]; exact i3, by rw [u2]; exact e5 i3⟩, ⟨SBG.found_only al ⟨cfV, kV, iV, gV⟩, stV⟩, ⟨SBG.found_only al ⟨cfC, kC, iC, gC⟩, stC⟩, slV, slC, by simp [RoadKit.slotOf, gV], by simp [RoadKit.slotOf, gC]⟩
theorem sta_is {Z U : State} (al : Z.vm.Alike U.vm) {C n d : String} {v : Value} (S : RoadKit.Sta Z U.heap C n d v) : StaticIs U C n d v := by
  obtain ⟨cfS, iS, kS, fS, st, cS, t1, t2, t3, t4, t5, t6, t7⟩ := S
  exact StaticIs.there (s := { Z with heap := U.heap }) ⟨cfS, iS, kS, fS, st, cS, t1, t2, t3, t4, t5, (fun q => by rw [q] at t6; cases t6), t7⟩ al rfl
/-- **length() OF SUCH A STRING** -/
theorem lenW {p : Program} {l : Launch} {e : Env} {R : Room} {s : State} {args : Array Value} {below : List Frame} {len W : Nat} {Z : State} {a0 : Array Value} {h : Heap} (hZ : Z.Warmed39 s.vm) (hw : ∀ d ∈ wordsLen, d.before a0 Z = true) {kI : Nat} (wi : (Jvm.Cond.instantiable ST kI).before a0 Z = true)
    {x t : Addr} {kb : ClassId} {cs : List Int32} {cd N2 z : Int32} {vs : List Value} (E : RoadKit.Exa Z h x ST) (V : RoadKit.Fld Z h x ST "value" "[B" (.ref t)) (C : RoadKit.Fld Z h x ST "coder" "B" (.int cd)) (K : RoadKit.Arv Z h t kb .byte N2 vs (.int 0)) (hc : CodA cs cd N2 vs) (hb : ∀ c ∈ cs, ¬ c < 0 ∧ ¬ (65535 : Int32) < c)
    (S : RoadKit.Sta Z h ST "COMPACT_STRINGS" "Z" (.int z)) (hz : ¬ z = 0) (l2 : cs.length ≤ 4000) (hfr : 2 ≤ R.frames) (hlo : W + 25 ≤ R.locals) :
    Back l R p e below s args (⟨"java/lang/String", "length", "()I"⟩ : MethodName) len W (fun P a => a = #[.ref x] ∧ P.U.heap = h ∧ P.cells + 0 ≤ R.cells ∧ P.slots + 0 ≤ R.slots)
      (fun P _ v B => ∃ L, (v = some (.int (Int32.ofNat cs.length)) ∧ L = [] ∧ B.U.heap = h) ∧ B.locs = P.locs ++ L ∧ B.cells = P.cells + 0 ∧ B.slots = P.slots + 0) := by
  obtain ⟨A, K1, K2, K3, K4, K5, K6⟩ := K
  have hcod := hc.cod (by omega) K3 K5
  intro m meth c P g ig mk a X hg hsize hdg hW hn hp'
  obtain ⟨rfl, rfl, r1, r2⟩ := hp'
  have al : Z.vm.Alike P.U.vm := hZ.alike.trans X.warmed.alike
  obtain ⟨D, fV, fC, hB, F1, F2, g1, g2, -, -⟩ := strObj wi al E V C
  have hx : Txt x t A cd cs.length (fun j => cs.getD j 0) P.U := ⟨⟨_, hB.2.2.1, D, hB.1, rfl, by cases q : D.vm <;> first | rfl | exact absurd q (hB.2.1.2 _)⟩, Has.of hB F1 g1, Has.of hB F2 g2, ⟨K1.1, State.isArrayOf_alike al K1.2.1, K1.2.2, by rcases hcod with ⟨-, q, -⟩ | ⟨-, q, -⟩ <;> omega⟩, hcod, fun j hj => by
    have e : cs.getD j 0 = cs[j] := by simp [List.getD_eq_getElem?_getD, hj]
    show ¬ cs.getD j 0 < 0 ∧ ¬ 65535 < cs.getD j 0
    rw [e]; exact hb _ (List.getElem_mem _)⟩
  obtain ⟨v, B, X', ⟨⟨hv, hh⟩, hl, hk, hs⟩, st⟩ := Len.pays x t A cd cs.length (fun j => cs.getD j 0) z (tabLen_of (movedLen hZ hw)) hfr hlo m meth c P g ig mk _ X hg hsize hdg hW hn ⟨r1, r2, rfl, hx, sta_is al S, hz⟩
  exact ⟨v, B, X', ⟨[], ⟨hv, rfl, hh⟩, hl, hk, hs⟩, st⟩
end StrChars.Road
namespace StrChars.Road
open Jvm Sem ClassFile Op Lib Jvm.Stand Jvm.Free Jvm.Free.XT
open Jvm.Lib.Cold (StaticIs)
/-- the road's facts of a String, as the laws ask it -/
theorem txt_of {Z U : State} {a0 : Array Value} {kI : Nat} (wi : (Jvm.Cond.instantiable ST kI).before a0 Z = true) (al : Z.vm.Alike U.vm) {x t : Addr} {kb : ClassId} {cs : List Int32} {cd N2 : Int32} {vs : List Value} (E : RoadKit.Exa Z U.heap x ST) (V : RoadKit.Fld Z U.heap x ST "value" "[B" (.ref t)) (C : RoadKit.Fld Z U.heap x ST "coder" "B" (.int cd)) (K : RoadKit.Arv Z U.heap t kb .byte N2 vs (.int 0)) (hc : CodA cs cd N2 vs) (hb : ∀ c ∈ cs, ¬ c < 0 ∧ ¬ (65535 : Int32) < c) (l2 : cs.length ≤ 4000) :
    ∃ A, Txt x t A cd cs.length (fun j => cs.getD j 0) U := by
  obtain ⟨A, K1, K2, K3, K4, K5, K6⟩ := K
  have hcod := hc.cod (by omega) K3 K5
  obtain ⟨D, fV, fC, hB, F1, F2, g1, g2, -, -⟩ := strObj wi al E V C
  exact ⟨A, ⟨_, hB.2.2.1, D, hB.1, rfl, by cases q : D.vm <;> first | rfl | exact absurd q (hB.2.1.2 _)⟩, Has.of hB F1 g1, Has.of hB F2 g2, ⟨K1.1, State.isArrayOf_alike al K1.2.1, K1.2.2, by rcases hcod with ⟨-, q, -⟩ | ⟨-, q, -⟩ <;> omega⟩, hcod, fun j hj => by
    have e : cs.getD j 0 = cs[j] := by simp [List.getD_eq_getElem?_getD, hj]
    show ¬ cs.getD j 0 < 0 ∧ ¬ 65535 < cs.getD j 0
    rw [e]; exact hb _ (List.getElem_mem _)⟩
end StrChars.Road
namespace StrChars
open Jvm Sem ClassFile Op Lib Jvm.Stand Jvm.Free.XT Jvm.Free.ALB Jvm.Free.JM Jvm.Free
open Jvm.Lib.Cold (StaticIs)
namespace ChN
def yN : MethodName := ⟨"java/lang/String", "charAt", "(I)C"⟩
abbrev yB : ByteArray := jdk_42_method_56_code
theorem d0 : decode yB 0 = .ok (.aload_n 0, 1) := by decide +kernel
theorem d1 : decode yB 1 = .ok (.invokevirtual 492, 3) := by decide +kernel
theorem d4 : decode yB 4 = .ok (.ifCond (.eq) 12, 3) := by decide +kernel
theorem d7 : decode yB 7 = .ok (.aload_n 0, 1) := by decide +kernel
theorem d8 : decode yB 8 = .ok (.getfield 9, 3) := by decide +kernel
theorem d11 : decode yB 11 = .ok (.iload_n 1, 1) := by decide +kernel
theorem d12 : decode yB 12 = .ok (.invokestatic 495, 3) := by decide +kernel
theorem d15 : decode yB 15 = .ok (.ireturn, 1) := by decide +kernel
def site : List Cond := [.fieldLink "java/lang/String" 9 "java/lang/String" "value" "[B", IsL.tab, LChA.tab] ++ virtW "java/lang/String" 492 "java/lang/String" IsL.yN IsL.yN ++ staticW "java/lang/String" 495 LChA.yN
def tab : Cond := tabOf yN yB 2 (some .char) site
def P (x t : Addr) (V : Cell) (n : Nat) (f : Nat → Int32) (z : Int32) (fm : Value) (i : Nat) (args : Array Value) (s : State) : Prop := args = #[.ref x, .int (Int32.ofNat i)] ∧ Txt x t V 0 n f s ∧ i < n ∧ StaticIs s "java/lang/String" "COMPACT_STRINGS" "Z" (.int z) ∧ ¬ z = 0 ∧ StaticIs s "jdk/internal/util/Preconditions" "SIOOBE_FORMATTER" "Ljava/util/function/BiFunction;" fm ∧ fm.isRef = true
def E (f : Nat → Int32) (i : Nat) (r : Option Value) (s u : State) : Prop := XT.PureE (some (.int (f i))) r s u
/-- charAt(i) of a Latin-1 String of n chars, i < n: f i -/
theorem law (l : Launch) (x t : Addr) (V : Cell) (n : Nat) (f : Nat → Int32) (z : Int32) (fm : Value) (i : Nat) : Law l yN 2 1 3 40 yB 2 (some .char) site (P x t V n f z fm i) (E f i) [] 0 0 := by
  refine Law.of_walk (plainFor_of_name (by decide +kernel)) (by decide +kernel) (by decide +kernel) (by decide) (fun _ _ h => by rw [h.1]; rfl) (fun _ U U' hal hh h => ⟨h.1, h.2.1.mv hal hh, h.2.2.1, h.2.2.2.1.there hal hh, h.2.2.2.2.1, h.2.2.2.2.2.1.there hal hh, h.2.2.2.2.2.2⟩) (fun r U U' V V' h1 hal h2 h => XT.PureE.mv r U U' V V' h1 hal h2 h) ?_
  intro p e s m args below meth c s₁ X0 hexec hbytes hml hret hlk hnm hown hh0 W hP
  obtain ⟨rfl, hx, hi, s1, hz, s3, rf⟩ := hP
  have v31 := hx.2.2.2.1.2.2.2
  have hr := hx.2.2.2.2.2 i hi
  have hx0 := hx.mv X0.warmed.alike hh0
  have c1 : Steps p.tables e below (s₁.setTop (entryFrame m #[.ref x, .int (Int32.ofNat i)] 2)) (s₁.setTop (mkF m 1 #[.val (.ref x), .val (.int (Int32.ofNat i))] [.ref x])) := Steps.trans (entry rfl) (by
    show Steps p.tables e below (s₁.setTop (mkF m 0 #[.val (.ref x), .val (.int (Int32.ofNat i))] [])) _
    refine XS.aloadN X0.here hexec rfl (hb hbytes d0) rfl rfl ?_
    exact Steps.refl _)
  obtain ⟨v2, T2, X2, E2, g2⟩ := X0.callV hexec (IsL.law l x 0 z) hown (wks W (virtW "java/lang/String" 492 "java/lang/String" IsL.yN IsL.yN)) rfl (by decide) (wk W IsL.tab) (W := 0) (Nat.le_of_ble_eq_true rfl) (Nat.le_of_ble_eq_true rfl) (Nat.le_refl _) (Nat.le_refl _) (hx0.1.fc X0.warmed.alike) hx0.1.is (g := (mkF m 1 #[.val (.ref x), .val (.int (Int32.ofNat i))] [.ref x])) rfl (by rw [hml]; rfl) c1 (argsL := []) (rest := []) rfl rfl (by show 2 * 0 + 0 ≤ _; decide) (hb hbytes d1) (⟨rfl, hx0.2.2.1, hx.2.2.2.2.1.cd, s1.there X0.warmed.alike hh0, hz⟩)
  obtain ⟨rfl, q2⟩ := E2
  have hh2 := q2.trans hh0
  have hx2 := hx.mv X2.warmed.alike hh2
  obtain ⟨-, k1, k2⟩ | ⟨k0, -⟩ := hx.2.2.2.2.1
  · have c3 : Steps p.tables e below (s₁.setTop (entryFrame m #[.ref x, .int (Int32.ofNat i)] 2)) (T2.setTop (mkF m 8 #[.val (.ref x), .val (.int (Int32.ofNat i))] [.ref x])) := Steps.trans g2 (by
      refine XS.ifNo X2.here hexec rfl (hb hbytes d4) rfl (i0_eq_f (by decide)) ?_
      refine XS.aloadN X2.here hexec rfl (hb hbytes d7) rfl rfl ?_
      exact Steps.refl _)
    obtain ⟨T4, X4, q4, st4⟩ := X2.hget hexec hown (wk W (.fieldLink "java/lang/String" 9 "java/lang/String" "value" "[B")) hx2.2.1 (g := (mkF m 8 #[.val (.ref x), .val (.int (Int32.ofNat i))] [.ref x])) rfl (rest := []) rfl (hb hbytes d8)
    have hh4 := q4.trans hh2
    have c5 : Steps p.tables e below (s₁.setTop (entryFrame m #[.ref x, .int (Int32.ofNat i)] 2)) (T4.setTop (mkF m 12 #[.val (.ref x), .val (.int (Int32.ofNat i))] [.int (Int32.ofNat i), .ref t])) := (c3.trans (st4 _ (Steps.refl _))).trans (by
      refine XS.iloadN X4.here hexec rfl (hb hbytes d11) rfl ?_
      exact Steps.refl _)
    obtain ⟨v6, T6, X6, E6, g6⟩ := X4.callS hexec (LChA.law l t V i (lo8 (f i)) fm) hown (wks W (staticW "java/lang/String" 495 LChA.yN)) (wk W LChA.tab) (W := 0) (Nat.le_of_ble_eq_true rfl) (Nat.le_of_ble_eq_true rfl) (Nat.le_refl _) (Nat.le_refl _) (g := (mkF m 12 #[.val (.ref x), .val (.int (Int32.ofNat i))] [.int (Int32.ofNat i), .ref t])) rfl (by rw [hml]; rfl) c5 (argsL := [.ref t, .int (Int32.ofNat i)]) (rest := []) rfl rfl (by show 2 * 0 + 0 ≤ _; decide) (hb hbytes d12) (⟨rfl, hx.2.2.2.1.mv X4.warmed.alike hh4, (k2 i hi).1, s3.there X4.warmed.alike hh4, rf⟩)
    obtain ⟨rfl, q6⟩ := E6
    rw [chr8_lo8 hr.1 (k2 i hi).2] at g6
    exact ⟨T6, some (.int (f i)), _, _, _, X6, rfl, rfl, rfl, (fun h => by cases h), ⟨rfl, q6.trans hh4⟩, fun fs hl => Steps.trans g6 (X6.ireturnOut hexec hret (narrow_ch hr.1 hr.2) (Or.inr (Or.inr (Or.inr (Or.inl rfl)))) (hb hbytes d15) hl)⟩
  · exact absurd k0 (by decide)
theorem pays {l : Launch} {R : Room} {p : Program} {e : Env} {below : List Frame} {s : State} {sargs : Array Value} {len W : Nat} (x t : Addr) (V : Cell) (n : Nat) (f : Nat → Int32) (z : Int32) (fm : Value) (i : Nat) (htab : tab.before sargs s = true) (hfr : 4 ≤ R.frames) (hlo : W + 53 ≤ R.locals) :
    Back l R p e below s sargs yN len W (fun A₁ a₁ => A₁.cells + 0 ≤ R.cells ∧ A₁.slots + 0 ≤ R.slots ∧ P x t V n f z fm i a₁ A₁.U) (fun A₁ _ v₁ B₁ => E f i v₁ A₁.U B₁.U ∧ B₁.locs = A₁.locs ++ [] ∧ B₁.cells = A₁.cells + 0 ∧ B₁.slots = A₁.slots + 0) :=
  (law l x t V n f z fm i).pays htab hfr (by omega)
end ChN
end StrChars
namespace StrChars.Road
open Jvm Sem ClassFile Op Lib Jvm.Stand Jvm.Free Jvm.Free.XT
open Jvm.Lib.Cold (StaticIs)
/-- the words of String.charAt(int), the Latin-1 road alone -/
abbrev wordsChN : List Jvm.Cond := [.code ChN.yN ChN.yB 2 (some .char), .initialized ST, .fieldLink ST 9 ST "value" "[B", .fieldLink ST 38 ST "COMPACT_STRINGS" "Z", .fieldLink ST 15 ST "coder" "B", .code IsL.yN IsL.yB 1 (some .boolean), .methodLink ST 492 IsL.yN, .declares IsL.yN, .selects ST IsL.yN IsL.yN, .instanceMethod IsL.yN,
  .methodLink ST 495 LChA.yN, .static LChA.yN, .code LChA.yN LChA.yB 2 (some .char), .initialized "java/lang/StringLatin1", .methodLink "java/lang/StringLatin1" 9 JO.Str_checkIndex.yN, .static JO.Str_checkIndex.yN, .code JO.Str_checkIndex.yN JO.Str_checkIndex.yB 2 none,
  .fieldLink ST 1053 "jdk/internal/util/Preconditions" "SIOOBE_FORMATTER" "Ljava/util/function/BiFunction;", .methodLink ST 1059 JC.PreCheck.yN, .static JC.PreCheck.yN, .code JC.PreCheck.yN JC.PreCheck.yB 3 (some .int), .initialized "jdk/internal/util/Preconditions"]
theorem tabChN_of {a : Array Value} {s : State} (h : ∀ w ∈ wordsChN, w.before a s = true) : ChN.tab.before a s = true := by
  have hp : JC.PreCheck.tab.before a s = true := unparts (wk h (.code JC.PreCheck.yN JC.PreCheck.yB 3 (some .int))) (wks h (.initialized JC.PreCheck.yN.cls :: JC.PreCheck.site))
  have qk := consq hp h
  have hk : JO.Str_checkIndex.tab.before a s = true := unparts (wk qk (.code JO.Str_checkIndex.yN JO.Str_checkIndex.yB 2 none)) (wks qk (.initialized JO.Str_checkIndex.yN.cls :: JO.Str_checkIndex.site))
  have ql := consq hk h
  have hl : LChA.tab.before a s = true := unparts (wk ql (.code LChA.yN LChA.yB 2 (some .char))) (wks ql (.initialized LChA.yN.cls :: LChA.site))
  have hi : IsL.tab.before a s = true := unparts (wk h (.code IsL.yN IsL.yB 1 (some .boolean))) (wks h (.initialized IsL.yN.cls :: IsL.site))
  have q := consq hi (consq hl h)
  exact unparts (wk q (.code ChN.yN ChN.yB 2 (some .char))) (wks q (.initialized ChN.yN.cls :: ChN.site))
theorem movedChN {Z s : State} {a0 args : Array Value} (hZ : Z.Warmed39 s.vm) (hw : ∀ d ∈ wordsChN, d.before a0 Z = true) : ∀ d ∈ wordsChN, d.before args s = true := fun d hd => by
  have t : ∀ d ∈ wordsChN, (d.onTables && d.keepsFace) = true := by decide +kernel
  exact RoadKit.mv hZ (hw d hd) (t d hd)
/-- **charAt(i) OF A LATIN-1 STRING**, i < n: the char -/
theorem chN {p : Program} {l : Launch} {e : Env} {R : Room} {s : State} {args : Array Value} {below : List Frame} {len W : Nat} {Z : State} {a0 : Array Value} {h : Heap} (hZ : Z.Warmed39 s.vm) (hw : ∀ d ∈ wordsChN, d.before a0 Z = true) {kI : Nat} (wi : (Jvm.Cond.instantiable ST kI).before a0 Z = true)
    {x t : Addr} {kb : ClassId} {cs : List Int32} {N2 z : Int32} {vs : List Value} {fm : Value} {i : Nat} {j : Int32} (E : RoadKit.Exa Z h x ST) (V : RoadKit.Fld Z h x ST "value" "[B" (.ref t)) (C : RoadKit.Fld Z h x ST "coder" "B" (.int 0)) (K : RoadKit.Arv Z h t kb .byte N2 vs (.int 0)) (hc : CodA cs 0 N2 vs) (hb : ∀ c ∈ cs, ¬ c < 0 ∧ ¬ (65535 : Int32) < c)
    (S : RoadKit.Sta Z h ST "COMPACT_STRINGS" "Z" (.int z)) (hz : ¬ z = 0) (F : RoadKit.Sta Z h "jdk/internal/util/Preconditions" "SIOOBE_FORMATTER" "Ljava/util/function/BiFunction;" fm) (rf : fm.isRef = true) (l2 : cs.length ≤ 4000) (hi : i < cs.length) (hj : j = Int32.ofNat i) (hfr : 4 ≤ R.frames) (hlo : W + 53 ≤ R.locals) :
    Back l R p e below s args (⟨"java/lang/String", "charAt", "(I)C"⟩ : MethodName) len W (fun P a => a = #[.ref x, .int j] ∧ P.U.heap = h ∧ P.cells + 0 ≤ R.cells ∧ P.slots + 0 ≤ R.slots)
      (fun P _ v B => ∃ L, (v = some (.int (cs.getD i 0)) ∧ L = [] ∧ B.U.heap = h) ∧ B.locs = P.locs ++ L ∧ B.cells = P.cells + 0 ∧ B.slots = P.slots + 0) := by
  subst hj
  intro m meth c P g ig mk a X hg hsize hdg hW hn hp'
  obtain ⟨rfl, rfl, r1, r2⟩ := hp'
  have al : Z.vm.Alike P.U.vm := hZ.alike.trans X.warmed.alike
  obtain ⟨A, hx⟩ := txt_of wi al E V C K hc hb l2
  obtain ⟨v, B, X', ⟨⟨hv, hh⟩, hl, hk, hs⟩, st⟩ := ChN.pays x t A cs.length (fun j => cs.getD j 0) z fm i (tabChN_of (movedChN hZ hw)) hfr hlo m meth c P g ig mk _ X hg hsize hdg hW hn ⟨r1, r2, rfl, hx, hi, sta_is al S, hz, sta_is al F, rf⟩
  exact ⟨v, B, X', ⟨[], ⟨hv, rfl, hh⟩, hl, hk, hs⟩, st⟩
/-- what backV says of its String, as the contracts of this text ask it: cs's low bytes, coder 0 -/
theorem codOf {cs : List Int32} {n : Nat} (hn : cs.length = n) (hb : ∀ c ∈ cs, ¬ 255 < c) : CodA cs 0 (Int32.ofNat n) ((cs.map lo8).map Value.int) := Or.inl ⟨rfl, by rw [hn], by simp [List.map_map, Function.comp_def], hb⟩
end StrChars.Road
end Jvm.Pilot.@@N@@
namespace Jvm.Pilot.@@N@@
open Jvm Jvm.ClassFile Sem Op Lib Jvm.Free Jvm.Stand Jvm.LawKit Jvm.RoadKit Bundle Jvm.Pilot.@@N@@.Jvm.D
/-- every run that goes on from the frame g of T to t is one of G -/
abbrev Go (p : Program) (e : Env) (below : List Frame) (T : State) (g : JFrame) (G : State → Prop) : Prop := ∀ t, Steps p.tables e below (T.setTop g) t → G t
theorem own_i2c (y : Int32) (h0 : 0 ≤ y.toInt) (h1 : y.toInt ≤ 65535) : y.toUInt32.toUInt16.toUInt32.toInt32 = y := by
  rw [← Int32.toInt_inj]
  have h := c_i2c y
  omega
theorem own_and255 (x : Int32) : 0 ≤ (x &&& (255 : Int32)).toInt ∧ (x &&& (255 : Int32)).toInt ≤ 255 := by
  have h := c_and x (255 : Int32) (by decide)
  have e : (255 : Int32).toInt = 255 := by decide
  rw [e] at h
  exact h
theorem own_c255 (x : Int32) : nar .char ((x &&& (255 : Int32)).toUInt32.toUInt16.toUInt32.toInt32) = (x &&& (255 : Int32)) := by
  have h := own_and255 x
  have e := own_i2c (x &&& (255 : Int32)) h.1 (by omega)
  show ((x &&& (255 : Int32)).toUInt32.toUInt16.toUInt32.toInt32).toUInt32.toUInt16.toUInt32.toInt32 = _
  rw [e, e]
theorem own_p255 (x : Int32) : ¬ nar .char ((x &&& (255 : Int32)).toUInt32.toUInt16.toUInt32.toInt32) < 0 ∧ ¬ (255 : Int32) < nar .char ((x &&& (255 : Int32)).toUInt32.toUInt16.toUInt32.toInt32) := by
  have h := own_and255 x
  have e : (255 : Int32).toInt = 255 := by decide
  have e0 : (0 : Int32).toInt = 0 := by decide
  rw [own_c255, Int32.lt_iff_toInt_lt, Int32.lt_iff_toInt_lt, e, e0]
  omega
abbrev own_EL : List (String × Nat) := [("java/lang/String", 7)]
theorem own_EW {Z : State} {a0 : Array Value} (hW : ∀ (k : Nat) (d : Jvm.Cond), tables_1[k]? = some d → d.before a0 Z = true) : EW Z a0 own_EL := EW.cons (hW 86 _ rfl) (by decide) EW.nil
theorem own_safe {Z : State} {vm : Vm} {h : Heap} {x : Addr} (hal : Z.vm.Alike vm) (E : Exa Z h x "java/lang/String") (F : Fld Z h x "java/lang/String" "value" "[B" .null) : Safe Z own_EL vm h x := fun B => by
  obtain ⟨cell, cf, k, i, f, f1, f2, f3, f4, f5, f6, f7⟩ := F
  obtain ⟨cell', k', e1, e2, e3, -, -⟩ := E
  cases f1.symm.trans e1
  obtain ⟨p, -, u, a, -, q, -, S, rfl | rfl⟩ := B
  · cases (show h[q.sa]? = some q.sC from S.ha).symm.trans f1
    obtain ⟨cS, ⟨⟨-, -, -, ⟨c2, k2, i2, g1, -⟩, -, -, -, g2, -⟩, -, -⟩, -⟩ := S
    obtain ⟨k3, g3⟩ := ff_back (U := Wst Z vm h) hal g1
    cases g3.symm.trans f2
    rw [f7] at g2
    cases g2
  · cases (show h[q.sd]? = some q.SA from S.hd).symm.trans f1
    obtain ⟨cS, -, -, g, -⟩ := S
    have g' := (hal.findClass _ _).symm.trans g
    exact ids_ne g' e2 (by decide) rfl
theorem pn_0 : plainName "java/lang/String" = true := by first | (simp [plainName, overriddenIn]; done) | decide +kernel
theorem ef_jdk_42_method_149_RRIIN (m : MethodId) (x0 : Addr) (x1 : Addr) (x2 : Int32) (x3 : Int32) : entryFrame m #[(.ref x0), (.ref x1), (.int x2), (.int x3), .null] 6 = mkF m 0 #[.val (.ref x0), .val (.ref x1), .val (.int x2), .val (.int x3), .val .null, .unset] [] := by first | (simp [entryFrame, mkF, argsToLocals, Value.category]; done) | rfl
theorem d_jdk_42_method_149_0 : decode jdk_42_method_149_code 0 = .ok (.aload_n 0, 1) := by decide +kernel
theorem d_jdk_42_method_149_1 : decode jdk_42_method_149_code 1 = .ok (.invokespecial 1, 3) := by decide +kernel
theorem d_jdk_42_method_149_4 : decode jdk_42_method_149_code 4 = .ok (.iload_n 3, 1) := by decide +kernel
theorem d_jdk_42_method_149_5 : decode jdk_42_method_149_code 5 = .ok (.ifCond .ne 22, 3) := by decide +kernel
theorem d_jdk_42_method_149_8 : decode jdk_42_method_149_code 8 = .ok (.aload_n 0, 1) := by decide +kernel
theorem d_jdk_42_method_149_9 : decode jdk_42_method_149_code 9 = .ok (.ldc 7, 2) := by decide +kernel
theorem d_jdk_42_method_149_11 : decode jdk_42_method_149_code 11 = .ok (.getfield 9, 3) := by decide +kernel
theorem d_jdk_42_method_149_14 : decode jdk_42_method_149_code 14 = .ok (.putfield 9, 3) := by decide +kernel
theorem d_jdk_42_method_149_17 : decode jdk_42_method_149_code 17 = .ok (.aload_n 0, 1) := by decide +kernel
theorem d_jdk_42_method_149_18 : decode jdk_42_method_149_code 18 = .ok (.ldc 7, 2) := by decide +kernel
theorem d_jdk_42_method_149_20 : decode jdk_42_method_149_code 20 = .ok (.getfield 15, 3) := by decide +kernel
theorem d_jdk_42_method_149_23 : decode jdk_42_method_149_code 23 = .ok (.putfield 15, 3) := by decide +kernel
theorem d_jdk_42_method_149_26 : decode jdk_42_method_149_code 26 = .ok (.return_, 1) := by decide +kernel
def QN4 (Z : State) (a : Addr) (b : Addr) (h0 : Heap) (n0 : Nat) (v : Option Value) (h : Heap) (L : List Loc) : Prop := v = none ∧ Fr n0 L ∧ Keep h0 h [a] ∧ Exa Z h a "java/lang/String" ∧ Fld Z h a "java/lang/String" "coder" "B" (.int (0 : Int32)) ∧ ∃ (t : Addr) (kb : ClassId), t ≠ a ∧ Fld Z h a "java/lang/String" "value" "[B" (.ref t) ∧ Arv Z h t kb .byte (0 : Int32) [] (.int (0 : Int32))
set_option maxRecDepth 65536 in
set_option maxHeartbeats 40000000 in
theorem rmN4 (l : Launch) (Z : State) (a0 : Array Value) (hw : ∀ d ∈ tables_1, d.before a0 Z = true) (ws : List Jvm.Cond) (a : Addr) (b : Addr) (h0 : Heap) (n0 : Nat) (Z0 : n0 ≤ h0.size) (F_value_a : Fld Z h0 a "java/lang/String" "value" "[B" .null) (F_coder_a : Fld Z h0 a "java/lang/String" "coder" "B" (.int (0 : Int32))) (E_a : Exa Z h0 a "java/lang/String") (ge_a : n0 ≤ a) :
    MetFree l (⟨"java/lang/String", "<init>", "([CIILjava/lang/Void;)V"⟩ : MethodName) (head1 (Jvm.Cond.code (⟨"java/lang/String", "<init>", "([CIILjava/lang/Void;)V"⟩ : MethodName) jdk_42_method_149_code 6 none :: ws) ({ frames := 1, cells := 2, slots := 4, locals := 12 } : Room)) (fun aa UU => aa = #[(.ref a), (.ref b), (.int (0 : Int32)), (.int (0 : Int32)), .null] ∧ Z.Warmed39 UU.vm ∧ UU.heap = h0 ∧ CHv Z own_EL UU.vm h0) (fun _ _ _ _ _ => True) (fun _ UU oo UU' => ∃ vv LL, oo = .returned vv ∧ QN4 Z a b h0 n0 vv UU'.heap LL ∧ CHr Z own_EL UU.vm UU.heap UU'.vm UU'.heap ∧ ReturnedEndW UU oo UU' LL ({ frames := 1, cells := 2, slots := 4, locals := 12 } : Room).cells ({ frames := 1, cells := 2, slots := 4, locals := 12 } : Room).slots) := by
  refine MetFree.of_bodySF (plainFor_of_name pn_0) hisR ?_
  intro p e s m args below meth c s₁ Bd hml0 hP hK
  obtain ⟨rfl, hZ, hh, HC⟩ := hP
  have hx := Bd.exec
  have hby := Bd.bytes
  have hml : c.maxLocals = 6 := hml0
  have hown : s.vm.findClass "java/lang/String" = some m.cls := findClass_of_methodNamed Bd.named
  have hnm := (name_of_methodNamed Bd.named Bd.method).1
  have hW : ∀ (k : Nat) (d : Jvm.Cond), tables_1[k]? = some d → d.before a0 Z = true := fun k d h => hw d (List.mem_of_getElem? h)
  have X0 : Stand p l e ({ frames := 1, cells := 2, slots := 4, locals := 12 } : Room) (s.setVm s.vm) m #[(.ref a), (.ref b), (.int (0 : Int32)), (.int (0 : Int32)), .null] below meth c s₁ [] 0 0 := Stand.of_body Bd
  have e0 : s₁.heap = h0 := by rw [← hh, Bd.state]; rfl
  have N0 := Fr.nil n0
  obtain ⟨G, hG, K0⟩ : ∃ G : State → Prop, (∀ tq, G tq → Steps p.tables e below (s₁.setTop (entryFrame m #[(.ref a), (.ref b), (.int (0 : Int32)), (.int (0 : Int32)), .null] 6)) tq) ∧ Go p e below s₁ (mkF m 0 #[.val (.ref a), .val (.ref b), .val (.int (0 : Int32)), .val (.int (0 : Int32)), .val .null, .unset] []) G := ⟨fun tq => Steps p.tables e below (s₁.setTop (entryFrame m #[(.ref a), (.ref b), (.int (0 : Int32)), (.int (0 : Int32)), .null] 6)) tq, fun _ h => h, fun tq kq => castTop (ef_jdk_42_method_149_RRIIN m a b (0 : Int32) (0 : Int32)) kq⟩
  have hS0 := (State.WarmedH.refl s).since 0
  have hEL : EW Z a0 own_EL := own_EW hW
  have CR0 := CHr.refl HC
  have Sfa := own_safe hZ.alike E_a F_value_a
  have K1 : Go p e below s₁ (mkF m 1 #[.val (.ref a), .val (.ref b), .val (.int (0 : Int32)), .val (.int (0 : Int32)), .val .null, .unset] [(.ref a)]) G := fun tq kq => K0 tq (XS.aloadN X0.here hx rfl (hb hby d_jdk_42_method_149_0) rfl rfl kq)
  obtain ⟨T2, X2, e2, st2⟩ := initO X0 hx hZ hown (hW 19 _ rfl) (hW 20 _ rfl) (hW 21 _ rfl) e0 (g := (mkF m 1 #[.val (.ref a), .val (.ref b), .val (.int (0 : Int32)), .val (.int (0 : Int32)), .val .null, .unset] [(.ref a)])) rfl (by rw [hml]; rfl) rfl (hb hby d_jdk_42_method_149_1) (by decide) (W := 0) (by show 2 * 0 + _ ≤ _; exact Nat.le_of_eq rfl) (by decide)
  have K3 : Go p e below T2 (mkF m 4 #[.val (.ref a), .val (.ref b), .val (.int (0 : Int32)), .val (.int (0 : Int32)), .val .null, .unset] []) G := fun tq kq => K1 tq (st2 tq kq)
  have K4 : Go p e below T2 (mkF m 5 #[.val (.ref a), .val (.ref b), .val (.int (0 : Int32)), .val (.int (0 : Int32)), .val .null, .unset] [(.int (0 : Int32))]) G := fun tq kq => K3 tq (XS.iloadN X2.here hx rfl (hb hby d_jdk_42_method_149_4) rfl kq)
  have K5 : Go p e below T2 (mkF m 8 #[.val (.ref a), .val (.ref b), .val (.int (0 : Int32)), .val (.int (0 : Int32)), .val .null, .unset] []) G := fun tq kq => K4 tq (XS.ifNo X2.here hx rfl (hb hby d_jdk_42_method_149_5) rfl ((if0 _ _).trans (teq (by decide : (0 : Int32) = (0 : Int32))).2) kq)
  have K6 : Go p e below T2 (mkF m 9 #[.val (.ref a), .val (.ref b), .val (.int (0 : Int32)), .val (.int (0 : Int32)), .val .null, .unset] [(.ref a)]) G := fun tq kq => K5 tq (XS.aloadN X2.here hx rfl (hb hby d_jdk_42_method_149_8) rfl rfl kq)
  obtain ⟨a7, T7, h7, k7, bb7, kb7, X7, e7, E7, hS7, hk7, hZ, hown, EL7, FC7, FV7, VB7, la7, lb7, CH7, Lit7, ap7, st7⟩ := ldcCH (s := s) (vm0 := s.vm) X2 hx hZ hown (hW 86 _ rfl) (fun d hd => hw d ((by decide +kernel : ∀ d ∈ Bundle.stringAtoms, d ∈ tables_1) d hd)) e2 hS0 (Nat.zero_le _) hEL (by decide) CR0.1 (vs := []) (z := (0 : Int32)) ⟨by decide, rfl⟩ (by decide) rfl (g := (mkF m 9 #[.val (.ref a), .val (.ref b), .val (.int (0 : Int32)), .val (.int (0 : Int32)), .val .null, .unset] [(.ref a)])) rfl (hb hby d_jdk_42_method_149_9) (n := 0) (by decide) (by decide) (by decide) (by decide)
  have Sl7_a := CHr.safe CH7 E_a.lt Sfa
  have CRl7 := CR0.trans CH7
  have K8 : Go p e below T7 (mkF m 11 #[.val (.ref a), .val (.ref b), .val (.int (0 : Int32)), .val (.int (0 : Int32)), .val .null, .unset] [(.ref a7), (.ref a)]) G := fun tq kq => K6 tq (st7 tq kq)
  obtain ⟨T9, X9, e9, st9⟩ := getF X7 hx hZ hown (host := "") (Or.inl (hW 36 _ rfl)) Via.refl e7 FV7 (g := (mkF m 11 #[.val (.ref a), .val (.ref b), .val (.int (0 : Int32)), .val (.int (0 : Int32)), .val .null, .unset] [(.ref a7), (.ref a)])) rfl rfl (hb hby d_jdk_42_method_149_11)
  have K10 : Go p e below T9 (mkF m 14 #[.val (.ref a), .val (.ref b), .val (.int (0 : Int32)), .val (.int (0 : Int32)), .val .null, .unset] [(.ref bb7), (.ref a)]) G := fun tq kq => K8 tq (st9 tq kq)
  obtain ⟨T11, h11, X11, e11, W11, st11⟩ := putF X9 hx hZ hown (host := "") (Or.inl (hW 36 _ rfl)) Via.refl e9 (F_value_a.ext E7) (E_a.ext E7) (Or.inr ⟨(hW 37 _ rfl), rfl, hnm⟩) (hW 9 _ rfl) (ty := (.array .byte)) (by decide) rfl rfl (g := (mkF m 14 #[.val (.ref a), .val (.ref b), .val (.int (0 : Int32)), .val (.int (0 : Int32)), .val .null, .unset] [(.ref bb7), (.ref a)])) rfl rfl (hb hby d_jdk_42_method_149_14)
  have N11 := Fr.snoc X11 N0 ge_a
  have F11 := Fld.same W11 (F_value_a.ext E7)
  have CR12 := CRl7.trans (CHr.wr W11 Sl7_a CRl7.1)
  have Sf12_a := Safe.wr W11 Sl7_a CRl7.1 Sl7_a
  have K13 : Go p e below T11 (mkF m 17 #[.val (.ref a), .val (.ref b), .val (.int (0 : Int32)), .val (.int (0 : Int32)), .val .null, .unset] []) G := fun tq kq => K10 tq (st11 tq kq)
  have K14 : Go p e below T11 (mkF m 18 #[.val (.ref a), .val (.ref b), .val (.int (0 : Int32)), .val (.int (0 : Int32)), .val .null, .unset] [(.ref a)]) G := fun tq kq => K13 tq (XS.aloadN X11.here hx rfl (hb hby d_jdk_42_method_149_17) rfl rfl kq)
  have K16 : Go p e below T11 (mkF m 20 #[.val (.ref a), .val (.ref b), .val (.int (0 : Int32)), .val (.int (0 : Int32)), .val .null, .unset] [(.ref a7), (.ref a)]) G := fun tq kq => K14 tq (ldcAgain (s := s) X11 hx hZ hown (hW 86 _ rfl) Lit7 (g := (mkF m 18 #[.val (.ref a), .val (.ref b), .val (.int (0 : Int32)), .val (.int (0 : Int32)), .val .null, .unset] [(.ref a)])) rfl (hb hby d_jdk_42_method_149_18) tq kq)
  obtain ⟨T17, X17, e17, st17⟩ := getF X11 hx hZ hown (host := "") (Or.inl (hW 34 _ rfl)) Via.refl e11 (FC7.other W11 (Or.inl (Ne.symm (ap7 _ Sl7_a).1))) (g := (mkF m 20 #[.val (.ref a), .val (.ref b), .val (.int (0 : Int32)), .val (.int (0 : Int32)), .val .null, .unset] [(.ref a7), (.ref a)])) rfl rfl (hb hby d_jdk_42_method_149_20)
  have K18 : Go p e below T17 (mkF m 23 #[.val (.ref a), .val (.ref b), .val (.int (0 : Int32)), .val (.int (0 : Int32)), .val .null, .unset] [(.int (0 : Int32)), (.ref a)]) G := fun tq kq => K16 tq (st17 tq kq)
  obtain ⟨T19, h19, X19, e19, W19, st19⟩ := putFN X17 hx hZ hown (hW 34 _ rfl) Via.refl e17 ((F_coder_a.ext E7).other W11 (Or.inr (slot_ne (Or.inr (hW 35 _ rfl)) (Or.inr (hW 37 _ rfl)) (by decide) (t := .byte) (t' := (.array .byte)) (by decide) (by decide)))) ((E_a.ext E7).wr W11) (Or.inr ⟨(hW 35 _ rfl), rfl, hnm⟩) (hW 9 _ rfl) (ty := .byte) (v' := (.int (0 : Int32))) (by decide) rfl (by decide) (g := (mkF m 23 #[.val (.ref a), .val (.ref b), .val (.int (0 : Int32)), .val (.int (0 : Int32)), .val .null, .unset] [(.int (0 : Int32)), (.ref a)])) rfl rfl (hb hby d_jdk_42_method_149_23)
  have N19 := Fr.snoc X19 N11 ge_a
  have F19 := Fld.same W19 ((F_coder_a.ext E7).other W11 (Or.inr (slot_ne (Or.inr (hW 35 _ rfl)) (Or.inr (hW 37 _ rfl)) (by decide) (t := .byte) (t' := (.array .byte)) (by decide) (by decide))))
  have CR20 := CR12.trans (CHr.wr W19 Sf12_a CR12.1)
  have Sf20_a := Safe.wr W19 Sf12_a CR12.1 Sf12_a
  have K21 : Go p e below T19 (mkF m 26 #[.val (.ref a), .val (.ref b), .val (.int (0 : Int32)), .val (.int (0 : Int32)), .val .null, .unset] []) G := fun tq kq => K18 tq (st19 tq kq)
  obtain ⟨fs, hr, hrun, hended, hRE⟩ := X19.leaveW (s := s) hS7 (by first | exact (Nat.le_trans (Nat.le_trans hk7 (Keep.of_wr W11).1) (Keep.of_wr W19).1) | (rw [e19]; exact (Nat.le_trans (Nat.le_trans hk7 (Keep.of_wr W11).1) (Keep.of_wr W19).1))) (v := none) (fun _ => rfl)
  have CRe := CR20.trans (CHv.at X19 hZ hEL CR20.1)
  refine ⟨_, _, hG _ (K21 _ (X19.returnOut hx Bd.returns (hb hby d_jdk_42_method_149_26) hr)), hrun, hended, _, _, rfl, ?_, (by show CHr Z own_EL s.vm s.heap T19.vm T19.heap; rw [hh, e19]; exact CRe), hRE.1, hRE.2.1, hRE.2.2.1, hRE.2.2.2.mono (by decide) (by decide)⟩
  show QN4 Z a b h0 n0 _ T19.heap _
  rw [e19]
  exact ⟨rfl, N19, ((((Keep.refl h0 [a]).ext E7).wr W11 (Or.inl (List.mem_of_getElem? (i := 0) rfl))).wr W19 (Or.inl (List.mem_of_getElem? (i := 0) rfl))), (((E_a.ext E7).wr W11).wr W19), F19, bb7, _, Ne.symm (ap7 _ Sl7_a).2, (F11.other W19 (Or.inr (slot_ne (Or.inr (hW 37 _ rfl)) (Or.inr (hW 35 _ rfl)) (by decide) (t := (.array .byte)) (t' := .byte) (by decide) (by decide)))), ((VB7.other W11 (Ne.symm (ap7 _ Sl7_a).2)).other W19 (Ne.symm (ap7 _ Sl7_a).2))⟩
theorem ef_jdk_42_method_3_RR (m : MethodId) (x0 : Addr) (x1 : Addr) : entryFrame m #[(.ref x0), (.ref x1)] 2 = mkF m 0 #[.val (.ref x0), .val (.ref x1)] [] := by first | (simp [entryFrame, mkF, argsToLocals, Value.category]; done) | rfl
theorem pd_16 : parseMethodDescriptor "([CIILjava/lang/Void;)V" = some ⟨[(.array .char), .int, .int, (.object "java/lang/Void")], none⟩ := by decide +kernel
theorem d_jdk_42_method_3_0 : decode jdk_42_method_3_code 0 = .ok (.aload_n 0, 1) := by decide +kernel
theorem d_jdk_42_method_3_1 : decode jdk_42_method_3_code 1 = .ok (.aload_n 1, 1) := by decide +kernel
theorem d_jdk_42_method_3_2 : decode jdk_42_method_3_code 2 = .ok (.iconst 0, 1) := by decide +kernel
theorem d_jdk_42_method_3_3 : decode jdk_42_method_3_code 3 = .ok (.aload_n 1, 1) := by decide +kernel
theorem d_jdk_42_method_3_4 : decode jdk_42_method_3_code 4 = .ok (.arraylength, 1) := by decide +kernel
theorem d_jdk_42_method_3_5 : decode jdk_42_method_3_code 5 = .ok (.aconst_null, 1) := by decide +kernel
theorem d_jdk_42_method_3_6 : decode jdk_42_method_3_code 6 = .ok (.invokespecial 27, 3) := by decide +kernel
theorem d_jdk_42_method_3_9 : decode jdk_42_method_3_code 9 = .ok (.return_, 1) := by decide +kernel
def QN1 (Z : State) (a : Addr) (b : Addr) (kc : ClassId) (h0 : Heap) (n0 : Nat) (v : Option Value) (h : Heap) (L : List Loc) : Prop := v = none ∧ Fr n0 L ∧ Keep h0 h [a] ∧ Exa Z h a "java/lang/String" ∧ Fld Z h a "java/lang/String" "coder" "B" (.int (0 : Int32)) ∧ ∃ (t : Addr) (kb : ClassId), t ≠ a ∧ Fld Z h a "java/lang/String" "value" "[B" (.ref t) ∧ Arv Z h t kb .byte (0 : Int32) [] (.int (0 : Int32))
set_option maxRecDepth 65536 in
set_option maxHeartbeats 40000000 in
theorem rmN1 (l : Launch) (Z : State) (a0 : Array Value) (hw : ∀ d ∈ tables_1, d.before a0 Z = true) (ws : List Jvm.Cond) (a : Addr) (b : Addr) (kc : ClassId) (h0 : Heap) (n0 : Nat) (Z0 : n0 ≤ h0.size) (F_value_a : Fld Z h0 a "java/lang/String" "value" "[B" .null) (F_coder_a : Fld Z h0 a "java/lang/String" "coder" "B" (.int (0 : Int32))) (E_a : Exa Z h0 a "java/lang/String") (ge_a : n0 ≤ a) (V_b : Arv Z h0 b kc .char (0 : Int32) [] (.int (0 : Int32))) :
    MetFree l (⟨"java/lang/String", "<init>", "([C)V"⟩ : MethodName) (head1 (Jvm.Cond.code (⟨"java/lang/String", "<init>", "([C)V"⟩ : MethodName) jdk_42_method_3_code 2 none :: ws) ({ frames := 2, cells := 2, slots := 4, locals := 29 } : Room)) (fun aa UU => aa = #[(.ref a), (.ref b)] ∧ Z.Warmed39 UU.vm ∧ UU.heap = h0 ∧ CHv Z own_EL UU.vm h0) (fun _ _ _ _ _ => True) (fun _ UU oo UU' => ∃ vv LL, oo = .returned vv ∧ QN1 Z a b kc h0 n0 vv UU'.heap LL ∧ CHr Z own_EL UU.vm UU.heap UU'.vm UU'.heap ∧ ReturnedEndW UU oo UU' LL ({ frames := 2, cells := 2, slots := 4, locals := 29 } : Room).cells ({ frames := 2, cells := 2, slots := 4, locals := 29 } : Room).slots) := by
  refine MetFree.of_bodySF (plainFor_of_name pn_0) hisR ?_
  intro p e s m args below meth c s₁ Bd hml0 hP hK
  obtain ⟨rfl, hZ, hh, HC⟩ := hP
  have hx := Bd.exec
  have hby := Bd.bytes
  have hml : c.maxLocals = 2 := hml0
  have hown : s.vm.findClass "java/lang/String" = some m.cls := findClass_of_methodNamed Bd.named
  have hnm := (name_of_methodNamed Bd.named Bd.method).1
  have hW : ∀ (k : Nat) (d : Jvm.Cond), tables_1[k]? = some d → d.before a0 Z = true := fun k d h => hw d (List.mem_of_getElem? h)
  have X0 : Stand p l e ({ frames := 2, cells := 2, slots := 4, locals := 29 } : Room) (s.setVm s.vm) m #[(.ref a), (.ref b)] below meth c s₁ [] 0 0 := Stand.of_body Bd
  have e0 : s₁.heap = h0 := by rw [← hh, Bd.state]; rfl
  have N0 := Fr.nil n0
  obtain ⟨G, hG, K0⟩ : ∃ G : State → Prop, (∀ tq, G tq → Steps p.tables e below (s₁.setTop (entryFrame m #[(.ref a), (.ref b)] 2)) tq) ∧ Go p e below s₁ (mkF m 0 #[.val (.ref a), .val (.ref b)] []) G := ⟨fun tq => Steps p.tables e below (s₁.setTop (entryFrame m #[(.ref a), (.ref b)] 2)) tq, fun _ h => h, fun tq kq => castTop (ef_jdk_42_method_3_RR m a b) kq⟩
  have hS0 := (State.WarmedH.refl s).since 0
  have hEL : EW Z a0 own_EL := own_EW hW
  have CR0 := CHr.refl HC
  have K22 : Go p e below s₁ (mkF m 1 #[.val (.ref a), .val (.ref b)] [(.ref a)]) G := fun tq kq => K0 tq (XS.aloadN X0.here hx rfl (hb hby d_jdk_42_method_3_0) rfl rfl kq)
  have K23 : Go p e below s₁ (mkF m 2 #[.val (.ref a), .val (.ref b)] [(.ref b), (.ref a)]) G := fun tq kq => K22 tq (XS.aloadN X0.here hx rfl (hb hby d_jdk_42_method_3_1) rfl rfl kq)
  have K24 : Go p e below s₁ (mkF m 3 #[.val (.ref a), .val (.ref b)] [(.int (0 : Int32)), (.ref b), (.ref a)]) G := fun tq kq => K23 tq (XS.iconst X0.here hx rfl (hb hby d_jdk_42_method_3_2) kq)
  have K25 : Go p e below s₁ (mkF m 4 #[.val (.ref a), .val (.ref b)] [(.ref b), (.int (0 : Int32)), (.ref b), (.ref a)]) G := fun tq kq => K24 tq (XS.aloadN X0.here hx rfl (hb hby d_jdk_42_method_3_3) rfl rfl kq)
  obtain ⟨cl26, Ar26, q26, S26, Nn26, Hh26, Gg26⟩ := id V_b
  have K27 : Go p e below s₁ (mkF m 5 #[.val (.ref a), .val (.ref b)] [(.int (0 : Int32)), (.int (0 : Int32)), (.ref b), (.ref a)]) G := fun tq kq => K25 tq (X0.arraylength hx (by rw [e0]; exact Ar26.1) (State.isArrayOf_alike hZ.alike Ar26.2.1) (g := (mkF m 4 #[.val (.ref a), .val (.ref b)] [(.ref b), (.int (0 : Int32)), (.ref b), (.ref a)])) rfl rfl (hb hby d_jdk_42_method_3_4) _ (by rw [len_of S26 Nn26]; exact kq))
  have K28 : Go p e below s₁ (mkF m 6 #[.val (.ref a), .val (.ref b)] [.null, (.int (0 : Int32)), (.int (0 : Int32)), (.ref b), (.ref a)]) G := fun tq kq => K27 tq (XS.aconstNull X0.here hx rfl (hb hby d_jdk_42_method_3_5) kq)
  obtain ⟨v29, _, ⟨T29, L29, k29, n29⟩, -, X29, hSa29, hgr29, ⟨Lc29, hQ29, l29, y29, z29, hCR29⟩, st29⟩ := X0.specialBackS hx (y := (⟨"java/lang/String", "<init>", "([CIILjava/lang/Void;)V"⟩ : MethodName)) rfl hown (mvT hZ (hW 15 _ rfl)) (mvT hZ (hW 16 _ rfl)) (mvT hZ (hW 18 _ rfl)) (by decide) (backOfSH (W := 0) (rmN4 l Z a0 hw [] a b h0 n0 Z0 F_value_a F_coder_a E_a ge_a) hZ (hW 18 _ rfl) (hW 10 _ rfl) (by decide) (by decide) hEL CR0.1) (g := (mkF m 6 #[.val (.ref a), .val (.ref b)] [.null, (.int (0 : Int32)), (.int (0 : Int32)), (.ref b), (.ref a)])) rfl (by rw [hml]; rfl) (Steps.refl _) (a := a) (argsL := [(.ref b), (.int (0 : Int32)), (.int (0 : Int32)), .null]) (rest := []) (lenOf pd_16 rfl) rfl (by show 2 * 0 + _ ≤ _; exact Nat.le_of_eq rfl) (hb hby d_jdk_42_method_3_6) (fun _ _ => ⟨rfl, e0, (by decide : 0 + 2 ≤ _), (by decide : 0 + 4 ≤ _)⟩)
  dsimp only [Pt.U, Pt.locs, Pt.cells, Pt.slots] at X29 l29 y29 z29 st29 hQ29 hSa29 hgr29 hCR29
  subst l29 y29 z29
  obtain ⟨X29, hSb29, hZ, hown⟩ := rebS hS0 (by first | exact (Nat.zero_le _) | (rw [e0]; exact (Nat.zero_le _))) X29 hSa29 hgr29 hZ hown
  have CR30 := CR0.trans (hCR29)
  have hQx := hQ29
  obtain ⟨rfl, N29q, K29q, rest29⟩ := hQ29
  have N29 := Fr.app N0 N29q
  have K31 : Go p e below T29 (mkF m 9 #[.val (.ref a), .val (.ref b)] []) G := fun tq kq => K28 tq (st29.trans kq)
  obtain ⟨fs, hr, hrun, hended, hRE⟩ := X29.leaveW (s := s) hSb29 (by first | exact (Nat.le_refl _) | (rw [rfl]; exact (Nat.le_refl _))) (v := none) (fun _ => rfl)
  have CRe := CR30.trans (CHv.at X29 hZ hEL CR30.1)
  refine ⟨_, _, hG _ (K31 _ (X29.returnOut hx Bd.returns (hb hby d_jdk_42_method_3_9) hr)), hrun, hended, _, _, rfl, ?_, (by show CHr Z own_EL s.vm s.heap T29.vm T29.heap; rw [hh]; exact CRe), hRE.1, hRE.2.1, hRE.2.2.1, hRE.2.2.2.mono (by decide) (by decide)⟩
  show QN1 Z a b kc h0 n0 _ T29.heap _
  exact ⟨rfl, N29, ((Keep.refl h0 [a]).trans K29q (allS (Or.inl (List.mem_of_getElem? (i := 0) rfl)) all0)), rest29⟩
theorem own_I0 : (0 : Int32).toInt = 0 := by decide
theorem own_I1 : (1 : Int32).toInt = 1 := by decide
theorem own_I2 : (2 : Int32).toInt = 2 := by decide
theorem own_I3 : (3 : Int32).toInt = 3 := by decide
theorem own_I4 : (4 : Int32).toInt = 4 := by decide
theorem own_I5 : (5 : Int32).toInt = 5 := by decide
theorem own_I6 : (6 : Int32).toInt = 6 := by decide
theorem own_I9 : (9 : Int32).toInt = 9 := by decide
theorem own_I48 : (48 : Int32).toInt = 48 := by decide
theorem own_I49 : (49 : Int32).toInt = 49 := by decide
theorem own_I57 : (57 : Int32).toInt = 57 := by decide
theorem own_I69 : (69 : Int32).toInt = 69 := by decide
theorem own_I101 : (101 : Int32).toInt = 101 := by decide
theorem own_I255 : (255 : Int32).toInt = 255 := by decide
theorem own_I65535 : (65535 : Int32).toInt = 65535 := by decide
theorem own_I2147483647 : (2147483647 : Int32).toInt = 2147483647 := by decide
theorem own_idem (x : Int32) : nar .char (nar .char x) = nar .char x := by simp only [nar, UInt32.toUInt32_toInt32, UInt16.toUInt16_toUInt32]
def own_R (c : Int32) : Prop := (¬ c < 0 ∧ ¬ (255 : Int32) < c) ∧ nar .char c = c
theorem own_rg (y : Int32) (h0 : 0 ≤ y.toInt) (h1 : y.toInt ≤ 255) : own_R (nar .char y) := by
  refine ⟨?_, own_idem y⟩
  have e : nar .char y = y := own_i2c y h0 (by omega)
  rw [e, Int32.lt_iff_toInt_lt, Int32.lt_iff_toInt_lt, own_I0, own_I255]
  omega
theorem own_rc (y : Int32) (h0 : 0 ≤ y.toInt) (h1 : y.toInt ≤ 255) : own_R (nar .char (y.toUInt32.toUInt16.toUInt32.toInt32)) := by
  rw [own_i2c y h0 (by omega)]
  exact own_rg y h0 h1
theorem own_49 (x : Int32) : 0 ≤ ((49 : Int32) + (((x.toUInt32 >>> ((2 : Int32) &&& 31).toUInt32).toInt32) % (9 : Int32))).toInt ∧ ((49 : Int32) + (((x.toUInt32 >>> ((2 : Int32) &&& 31).toUInt32).toInt32) % (9 : Int32))).toInt ≤ 255 := by
  have h := c_iushr x (2 : Int32) 2 (by decide) (by decide)
  have r := rng32 x
  generalize ((x.toUInt32 >>> ((2 : Int32) &&& 31).toUInt32).toInt32) = z at h ⊢
  have h2 := c_irem z (9 : Int32) 9 own_I9
  have h3 := c_iadd (49 : Int32) (z % (9 : Int32))
  rw [own_I49] at h3
  have r3 := rng32 ((49 : Int32) + z % (9 : Int32))
  omega
theorem pn_41 : plainName "com/example/tallyrule/tallyrule/DecimalsSignificantDigitsPinLaw" = true := by first | (simp [plainName, overriddenIn]; done) | decide +kernel
theorem ef_method_2_I (m : MethodId) (x0 : Int32) : entryFrame m #[(.int x0)] 3 = mkF m 0 #[.val (.int x0), .unset, .unset] [] := by first | (simp [entryFrame, mkF, argsToLocals, Value.category]; done) | rfl
theorem d_method_2_0 : decode method_2_code 0 = .ok (.iload_n 0, 1) := by decide +kernel
theorem d_method_2_1 : decode method_2_code 1 = .ok (.iconst 3, 1) := by decide +kernel
theorem d_method_2_2 : decode method_2_code 2 = .ok (.iand, 1) := by decide +kernel
theorem d_method_2_3 : decode method_2_code 3 = .ok (.istore_n 1, 1) := by decide +kernel
theorem d_method_2_4 : decode method_2_code 4 = .ok (.iload_n 0, 1) := by decide +kernel
theorem d_method_2_5 : decode method_2_code 5 = .ok (.iconst 2, 1) := by decide +kernel
theorem d_method_2_6 : decode method_2_code 6 = .ok (.iushr, 1) := by decide +kernel
theorem d_method_2_7 : decode method_2_code 7 = .ok (.istore_n 2, 1) := by decide +kernel
theorem d_method_2_8 : decode method_2_code 8 = .ok (.iload_n 1, 1) := by decide +kernel
theorem d_method_2_9 : decode method_2_code 9 = .ok (.ifCond .ne 6, 3) := by decide +kernel
theorem d_method_2_12 : decode method_2_code 12 = .ok (.bipush 48, 2) := by decide +kernel
theorem d_method_2_14 : decode method_2_code 14 = .ok (.ireturn, 1) := by decide +kernel
theorem d_method_2_15 : decode method_2_code 15 = .ok (.iload_n 1, 1) := by decide +kernel
theorem d_method_2_16 : decode method_2_code 16 = .ok (.iconst 1, 1) := by decide +kernel
theorem d_method_2_17 : decode method_2_code 17 = .ok (.if_icmp .ne 12, 3) := by decide +kernel
theorem d_method_2_20 : decode method_2_code 20 = .ok (.bipush 49, 2) := by decide +kernel
theorem d_method_2_22 : decode method_2_code 22 = .ok (.iload_n 2, 1) := by decide +kernel
theorem d_method_2_23 : decode method_2_code 23 = .ok (.bipush 9, 2) := by decide +kernel
theorem d_method_2_25 : decode method_2_code 25 = .ok (.irem, 1) := by decide +kernel
theorem d_method_2_26 : decode method_2_code 26 = .ok (.iadd, 1) := by decide +kernel
theorem d_method_2_27 : decode method_2_code 27 = .ok (.i2c, 1) := by decide +kernel
theorem d_method_2_28 : decode method_2_code 28 = .ok (.ireturn, 1) := by decide +kernel
theorem d_method_2_29 : decode method_2_code 29 = .ok (.iload_n 1, 1) := by decide +kernel
theorem d_method_2_30 : decode method_2_code 30 = .ok (.iconst 2, 1) := by decide +kernel
theorem d_method_2_31 : decode method_2_code 31 = .ok (.if_icmp .ne 17, 3) := by decide +kernel
theorem d_method_2_34 : decode method_2_code 34 = .ok (.iload_n 2, 1) := by decide +kernel
theorem d_method_2_35 : decode method_2_code 35 = .ok (.iconst 1, 1) := by decide +kernel
theorem d_method_2_36 : decode method_2_code 36 = .ok (.iand, 1) := by decide +kernel
theorem d_method_2_37 : decode method_2_code 37 = .ok (.ifCond .ne 8, 3) := by decide +kernel
theorem d_method_2_40 : decode method_2_code 40 = .ok (.bipush 101, 2) := by decide +kernel
theorem d_method_2_42 : decode method_2_code 42 = .ok (.goto 5, 3) := by decide +kernel
theorem d_method_2_45 : decode method_2_code 45 = .ok (.bipush 69, 2) := by decide +kernel
theorem d_method_2_47 : decode method_2_code 47 = .ok (.ireturn, 1) := by decide +kernel
theorem d_method_2_48 : decode method_2_code 48 = .ok (.iload_n 2, 1) := by decide +kernel
theorem d_method_2_49 : decode method_2_code 49 = .ok (.sipush 255, 3) := by decide +kernel
theorem d_method_2_52 : decode method_2_code 52 = .ok (.iand, 1) := by decide +kernel
theorem d_method_2_53 : decode method_2_code 53 = .ok (.i2c, 1) := by decide +kernel
theorem d_method_2_54 : decode method_2_code 54 = .ok (.ireturn, 1) := by decide +kernel
def QPK (Z : State) (x : Int32) (h0 : Heap) (n0 : Nat) (v : Option Value) (h : Heap) (L : List Loc) : Prop := ∃ c : Int32, v = some (.int c) ∧ own_R c ∧ Fr n0 L ∧ h = h0
set_option maxRecDepth 65536 in
set_option maxHeartbeats 40000000 in
theorem rmPK (l : Launch) (Z : State) (a0 : Array Value) (hw : ∀ d ∈ tables_1, d.before a0 Z = true) (ws : List Jvm.Cond) (x : Int32) (h0 : Heap) (n0 : Nat) (Z0 : n0 ≤ h0.size) :
    MetFree l (⟨"com/example/tallyrule/tallyrule/DecimalsSignificantDigitsPinLaw", "pick", "(I)C"⟩ : MethodName) (head1 (Jvm.Cond.code (⟨"com/example/tallyrule/tallyrule/DecimalsSignificantDigitsPinLaw", "pick", "(I)C"⟩ : MethodName) method_2_code 3 (some .char) :: ws) ({ frames := 0, cells := 0, slots := 0, locals := 0 } : Room)) (fun aa UU => aa = #[(.int x)] ∧ Z.Warmed39 UU.vm ∧ UU.heap = h0) (fun _ _ _ _ _ => True) (fun _ UU oo UU' => ∃ vv LL, oo = .returned vv ∧ QPK Z x h0 n0 vv UU'.heap LL ∧ FrameEnd UU oo UU' LL ({ frames := 0, cells := 0, slots := 0, locals := 0 } : Room).cells ({ frames := 0, cells := 0, slots := 0, locals := 0 } : Room).slots) := by
  refine MetFree.of_bodySF (plainFor_of_name pn_41) hisR ?_
  intro p e s m args below meth c s₁ Bd hml0 hP hK
  obtain ⟨rfl, hZ, hh⟩ := hP
  have hx := Bd.exec
  have hby := Bd.bytes
  have hml : c.maxLocals = 3 := hml0
  have hown : s.vm.findClass "com/example/tallyrule/tallyrule/DecimalsSignificantDigitsPinLaw" = some m.cls := findClass_of_methodNamed Bd.named
  have hnm := (name_of_methodNamed Bd.named Bd.method).1
  have hW : ∀ (k : Nat) (d : Jvm.Cond), tables_1[k]? = some d → d.before a0 Z = true := fun k d h => hw d (List.mem_of_getElem? h)
  have X0 : Stand p l e ({ frames := 0, cells := 0, slots := 0, locals := 0 } : Room) s m #[(.int x)] below meth c s₁ [] 0 0 := Stand.of_body Bd
  have e0 : s₁.heap = h0 := by rw [← hh, Bd.state]; rfl
  have N0 := Fr.nil n0
  obtain ⟨G, hG, K0⟩ : ∃ G : State → Prop, (∀ tq, G tq → Steps p.tables e below (s₁.setTop (entryFrame m #[(.int x)] 3)) tq) ∧ Go p e below s₁ (mkF m 0 #[.val (.int x), .unset, .unset] []) G := ⟨fun tq => Steps p.tables e below (s₁.setTop (entryFrame m #[(.int x)] 3)) tq, fun _ h => h, fun tq kq => castTop (ef_method_2_I m x) kq⟩
  have K32 : Go p e below s₁ (mkF m 1 #[.val (.int x), .unset, .unset] [(.int x)]) G := fun tq kq => K0 tq (XS.iloadN X0.here hx rfl (hb hby d_method_2_0) rfl kq)
  have K33 : Go p e below s₁ (mkF m 2 #[.val (.int x), .unset, .unset] [(.int (3 : Int32)), (.int x)]) G := fun tq kq => K32 tq (XS.iconst X0.here hx rfl (hb hby d_method_2_1) kq)
  have K34 : Go p e below s₁ (mkF m 3 #[.val (.int x), .unset, .unset] [(.int (x &&& (3 : Int32)))]) G := fun tq kq => K33 tq (XS.iand X0.here hx rfl (hb hby d_method_2_2) rfl kq)
  have K35 : Go p e below s₁ (mkF m 4 #[.val (.int x), .val (.int (x &&& (3 : Int32))), .unset] []) G := fun tq kq => K34 tq (XS.istoreN X0.here hx rfl (hb hby d_method_2_3) rfl (l' := #[.val (.int x), .val (.int (x &&& (3 : Int32))), .unset]) rfl kq)
  have K36 : Go p e below s₁ (mkF m 5 #[.val (.int x), .val (.int (x &&& (3 : Int32))), .unset] [(.int x)]) G := fun tq kq => K35 tq (XS.iloadN X0.here hx rfl (hb hby d_method_2_4) rfl kq)
  have K37 : Go p e below s₁ (mkF m 6 #[.val (.int x), .val (.int (x &&& (3 : Int32))), .unset] [(.int (2 : Int32)), (.int x)]) G := fun tq kq => K36 tq (XS.iconst X0.here hx rfl (hb hby d_method_2_5) kq)
  have K38 : Go p e below s₁ (mkF m 7 #[.val (.int x), .val (.int (x &&& (3 : Int32))), .unset] [(.int ((x.toUInt32 >>> ((2 : Int32) &&& 31).toUInt32).toInt32))]) G := fun tq kq => K37 tq (XS.iushr X0.here hx rfl (hb hby d_method_2_6) rfl kq)
  have K39 : Go p e below s₁ (mkF m 8 #[.val (.int x), .val (.int (x &&& (3 : Int32))), .val (.int ((x.toUInt32 >>> ((2 : Int32) &&& 31).toUInt32).toInt32))] []) G := fun tq kq => K38 tq (XS.istoreN X0.here hx rfl (hb hby d_method_2_7) rfl (l' := #[.val (.int x), .val (.int (x &&& (3 : Int32))), .val (.int ((x.toUInt32 >>> ((2 : Int32) &&& 31).toUInt32).toInt32))]) rfl kq)
  have K40 : Go p e below s₁ (mkF m 9 #[.val (.int x), .val (.int (x &&& (3 : Int32))), .val (.int ((x.toUInt32 >>> ((2 : Int32) &&& 31).toUInt32).toInt32))] [(.int (x &&& (3 : Int32)))]) G := fun tq kq => K39 tq (XS.iloadN X0.here hx rfl (hb hby d_method_2_8) rfl kq)
  by_cases hc41 : (x &&& (3 : Int32)) = (0 : Int32)
  · skip
    have K42 : Go p e below s₁ (mkF m 12 #[.val (.int x), .val (.int (x &&& (3 : Int32))), .val (.int ((x.toUInt32 >>> ((2 : Int32) &&& 31).toUInt32).toInt32))] []) G := fun tq kq => K40 tq (XS.ifNo X0.here hx rfl (hb hby d_method_2_9) rfl ((if0 _ _).trans (teq hc41).2) kq)
    have K43 : Go p e below s₁ (mkF m 14 #[.val (.int x), .val (.int (x &&& (3 : Int32))), .val (.int ((x.toUInt32 >>> ((2 : Int32) &&& 31).toUInt32).toInt32))] [(.int (48 : Int32))]) G := fun tq kq => K42 tq (XS.bipush X0.here hx rfl (hb hby d_method_2_12) kq)
    obtain ⟨fs, hr, hrun, hended, hWW, hsame⟩ := X0.leave (v := some (.int (nar .char (48 : Int32)))) (fun h => by rw [Bd.returns] at h; cases h)
    refine ⟨_, _, hG _ (K43 _ (retN X0 hx (t := .char) Bd.returns (by simp) (hb hby d_method_2_14) hr)), hrun, hended, _, _, rfl, ?_, ⟨_, rfl⟩, hWW, hsame.mono (by decide) (by decide)⟩
    show QPK Z x h0 n0 _ s₁.heap _
    rw [e0]
    exact ⟨_, rfl, own_rg _ (by decide) (by decide), N0, rfl⟩
  · skip
    have K44 : Go p e below s₁ (mkF m 15 #[.val (.int x), .val (.int (x &&& (3 : Int32))), .val (.int ((x.toUInt32 >>> ((2 : Int32) &&& 31).toUInt32).toInt32))] []) G := fun tq kq => K40 tq (XS.ifYes X0.here hx rfl (pc0 := 9) (pc' := 15) rfl (hb hby d_method_2_9) rfl ((if0 _ _).trans (feq hc41).2) (by decide) (by decide) kq)
    have K45 : Go p e below s₁ (mkF m 16 #[.val (.int x), .val (.int (x &&& (3 : Int32))), .val (.int ((x.toUInt32 >>> ((2 : Int32) &&& 31).toUInt32).toInt32))] [(.int (x &&& (3 : Int32)))]) G := fun tq kq => K44 tq (XS.iloadN X0.here hx rfl (hb hby d_method_2_15) rfl kq)
    have K46 : Go p e below s₁ (mkF m 17 #[.val (.int x), .val (.int (x &&& (3 : Int32))), .val (.int ((x.toUInt32 >>> ((2 : Int32) &&& 31).toUInt32).toInt32))] [(.int (1 : Int32)), (.int (x &&& (3 : Int32)))]) G := fun tq kq => K45 tq (XS.iconst X0.here hx rfl (hb hby d_method_2_16) kq)
    by_cases hc47 : (x &&& (3 : Int32)) = (1 : Int32)
    · skip
      have K48 : Go p e below s₁ (mkF m 20 #[.val (.int x), .val (.int (x &&& (3 : Int32))), .val (.int ((x.toUInt32 >>> ((2 : Int32) &&& 31).toUInt32).toInt32))] []) G := fun tq kq => K46 tq (XS.icmpNo X0.here hx rfl (hb hby d_method_2_17) rfl ((teq hc47).2) kq)
      have K49 : Go p e below s₁ (mkF m 22 #[.val (.int x), .val (.int (x &&& (3 : Int32))), .val (.int ((x.toUInt32 >>> ((2 : Int32) &&& 31).toUInt32).toInt32))] [(.int (49 : Int32))]) G := fun tq kq => K48 tq (XS.bipush X0.here hx rfl (hb hby d_method_2_20) kq)
      have K50 : Go p e below s₁ (mkF m 23 #[.val (.int x), .val (.int (x &&& (3 : Int32))), .val (.int ((x.toUInt32 >>> ((2 : Int32) &&& 31).toUInt32).toInt32))] [(.int ((x.toUInt32 >>> ((2 : Int32) &&& 31).toUInt32).toInt32)), (.int (49 : Int32))]) G := fun tq kq => K49 tq (XS.iloadN X0.here hx rfl (hb hby d_method_2_22) rfl kq)
      have K51 : Go p e below s₁ (mkF m 25 #[.val (.int x), .val (.int (x &&& (3 : Int32))), .val (.int ((x.toUInt32 >>> ((2 : Int32) &&& 31).toUInt32).toInt32))] [(.int (9 : Int32)), (.int ((x.toUInt32 >>> ((2 : Int32) &&& 31).toUInt32).toInt32)), (.int (49 : Int32))]) G := fun tq kq => K50 tq (XS.bipush X0.here hx rfl (hb hby d_method_2_23) kq)
      have K52 : Go p e below s₁ (mkF m 26 #[.val (.int x), .val (.int (x &&& (3 : Int32))), .val (.int ((x.toUInt32 >>> ((2 : Int32) &&& 31).toUInt32).toInt32))] [(.int (((x.toUInt32 >>> ((2 : Int32) &&& 31).toUInt32).toInt32) % (9 : Int32))), (.int (49 : Int32))]) G := fun tq kq => K51 tq (iremM X0 hx rfl (hb hby d_method_2_25) rfl (by decide) kq)
      have K53 : Go p e below s₁ (mkF m 27 #[.val (.int x), .val (.int (x &&& (3 : Int32))), .val (.int ((x.toUInt32 >>> ((2 : Int32) &&& 31).toUInt32).toInt32))] [(.int ((49 : Int32) + (((x.toUInt32 >>> ((2 : Int32) &&& 31).toUInt32).toInt32) % (9 : Int32))))]) G := fun tq kq => K52 tq (XS.iadd X0.here hx rfl (hb hby d_method_2_26) rfl kq)
      have K54 : Go p e below s₁ (mkF m 28 #[.val (.int x), .val (.int (x &&& (3 : Int32))), .val (.int ((x.toUInt32 >>> ((2 : Int32) &&& 31).toUInt32).toInt32))] [(.int (((49 : Int32) + (((x.toUInt32 >>> ((2 : Int32) &&& 31).toUInt32).toInt32) % (9 : Int32))).toUInt32.toUInt16.toUInt32.toInt32))]) G := fun tq kq => K53 tq (XS.i2c X0.here hx rfl (hb hby d_method_2_27) rfl kq)
      obtain ⟨fs, hr, hrun, hended, hWW, hsame⟩ := X0.leave (v := some (.int (nar .char (((49 : Int32) + (((x.toUInt32 >>> ((2 : Int32) &&& 31).toUInt32).toInt32) % (9 : Int32))).toUInt32.toUInt16.toUInt32.toInt32)))) (fun h => by rw [Bd.returns] at h; cases h)
      refine ⟨_, _, hG _ (K54 _ (retN X0 hx (t := .char) Bd.returns (by simp) (hb hby d_method_2_28) hr)), hrun, hended, _, _, rfl, ?_, ⟨_, rfl⟩, hWW, hsame.mono (by decide) (by decide)⟩
      show QPK Z x h0 n0 _ s₁.heap _
      rw [e0]
      exact ⟨_, rfl, own_rc _ (own_49 x).1 (own_49 x).2, N0, rfl⟩
    · skip
      have K55 : Go p e below s₁ (mkF m 29 #[.val (.int x), .val (.int (x &&& (3 : Int32))), .val (.int ((x.toUInt32 >>> ((2 : Int32) &&& 31).toUInt32).toInt32))] []) G := fun tq kq => K46 tq (XS.icmpYes X0.here hx rfl (pc0 := 17) (pc' := 29) rfl (hb hby d_method_2_17) rfl ((feq hc47).2) (by decide) (by decide) kq)
      have K56 : Go p e below s₁ (mkF m 30 #[.val (.int x), .val (.int (x &&& (3 : Int32))), .val (.int ((x.toUInt32 >>> ((2 : Int32) &&& 31).toUInt32).toInt32))] [(.int (x &&& (3 : Int32)))]) G := fun tq kq => K55 tq (XS.iloadN X0.here hx rfl (hb hby d_method_2_29) rfl kq)
      have K57 : Go p e below s₁ (mkF m 31 #[.val (.int x), .val (.int (x &&& (3 : Int32))), .val (.int ((x.toUInt32 >>> ((2 : Int32) &&& 31).toUInt32).toInt32))] [(.int (2 : Int32)), (.int (x &&& (3 : Int32)))]) G := fun tq kq => K56 tq (XS.iconst X0.here hx rfl (hb hby d_method_2_30) kq)
      by_cases hc58 : (x &&& (3 : Int32)) = (2 : Int32)
      · skip
        have K59 : Go p e below s₁ (mkF m 34 #[.val (.int x), .val (.int (x &&& (3 : Int32))), .val (.int ((x.toUInt32 >>> ((2 : Int32) &&& 31).toUInt32).toInt32))] []) G := fun tq kq => K57 tq (XS.icmpNo X0.here hx rfl (hb hby d_method_2_31) rfl ((teq hc58).2) kq)
        have K60 : Go p e below s₁ (mkF m 35 #[.val (.int x), .val (.int (x &&& (3 : Int32))), .val (.int ((x.toUInt32 >>> ((2 : Int32) &&& 31).toUInt32).toInt32))] [(.int ((x.toUInt32 >>> ((2 : Int32) &&& 31).toUInt32).toInt32))]) G := fun tq kq => K59 tq (XS.iloadN X0.here hx rfl (hb hby d_method_2_34) rfl kq)
        have K61 : Go p e below s₁ (mkF m 36 #[.val (.int x), .val (.int (x &&& (3 : Int32))), .val (.int ((x.toUInt32 >>> ((2 : Int32) &&& 31).toUInt32).toInt32))] [(.int (1 : Int32)), (.int ((x.toUInt32 >>> ((2 : Int32) &&& 31).toUInt32).toInt32))]) G := fun tq kq => K60 tq (XS.iconst X0.here hx rfl (hb hby d_method_2_35) kq)
        have K62 : Go p e below s₁ (mkF m 37 #[.val (.int x), .val (.int (x &&& (3 : Int32))), .val (.int ((x.toUInt32 >>> ((2 : Int32) &&& 31).toUInt32).toInt32))] [(.int (((x.toUInt32 >>> ((2 : Int32) &&& 31).toUInt32).toInt32) &&& (1 : Int32)))]) G := fun tq kq => K61 tq (XS.iand X0.here hx rfl (hb hby d_method_2_36) rfl kq)
        by_cases hc63 : (((x.toUInt32 >>> ((2 : Int32) &&& 31).toUInt32).toInt32) &&& (1 : Int32)) = (0 : Int32)
        · skip
          have K64 : Go p e below s₁ (mkF m 40 #[.val (.int x), .val (.int (x &&& (3 : Int32))), .val (.int ((x.toUInt32 >>> ((2 : Int32) &&& 31).toUInt32).toInt32))] []) G := fun tq kq => K62 tq (XS.ifNo X0.here hx rfl (hb hby d_method_2_37) rfl ((if0 _ _).trans (teq hc63).2) kq)
          have K65 : Go p e below s₁ (mkF m 42 #[.val (.int x), .val (.int (x &&& (3 : Int32))), .val (.int ((x.toUInt32 >>> ((2 : Int32) &&& 31).toUInt32).toInt32))] [(.int (101 : Int32))]) G := fun tq kq => K64 tq (XS.bipush X0.here hx rfl (hb hby d_method_2_40) kq)
          have K66 : Go p e below s₁ (mkF m 47 #[.val (.int x), .val (.int (x &&& (3 : Int32))), .val (.int ((x.toUInt32 >>> ((2 : Int32) &&& 31).toUInt32).toInt32))] [(.int (101 : Int32))]) G := fun tq kq => K65 tq (XS.goto X0.here hx rfl (pc0 := 42) (pc' := 47) rfl (hb hby d_method_2_42) (by decide) (by decide) kq)
          obtain ⟨fs, hr, hrun, hended, hWW, hsame⟩ := X0.leave (v := some (.int (nar .char (101 : Int32)))) (fun h => by rw [Bd.returns] at h; cases h)
          refine ⟨_, _, hG _ (K66 _ (retN X0 hx (t := .char) Bd.returns (by simp) (hb hby d_method_2_47) hr)), hrun, hended, _, _, rfl, ?_, ⟨_, rfl⟩, hWW, hsame.mono (by decide) (by decide)⟩
          show QPK Z x h0 n0 _ s₁.heap _
          rw [e0]
          exact ⟨_, rfl, own_rg _ (by decide) (by decide), N0, rfl⟩
        · skip
          have K67 : Go p e below s₁ (mkF m 45 #[.val (.int x), .val (.int (x &&& (3 : Int32))), .val (.int ((x.toUInt32 >>> ((2 : Int32) &&& 31).toUInt32).toInt32))] []) G := fun tq kq => K62 tq (XS.ifYes X0.here hx rfl (pc0 := 37) (pc' := 45) rfl (hb hby d_method_2_37) rfl ((if0 _ _).trans (feq hc63).2) (by decide) (by decide) kq)
          have K68 : Go p e below s₁ (mkF m 47 #[.val (.int x), .val (.int (x &&& (3 : Int32))), .val (.int ((x.toUInt32 >>> ((2 : Int32) &&& 31).toUInt32).toInt32))] [(.int (69 : Int32))]) G := fun tq kq => K67 tq (XS.bipush X0.here hx rfl (hb hby d_method_2_45) kq)
          obtain ⟨fs, hr, hrun, hended, hWW, hsame⟩ := X0.leave (v := some (.int (nar .char (69 : Int32)))) (fun h => by rw [Bd.returns] at h; cases h)
          refine ⟨_, _, hG _ (K68 _ (retN X0 hx (t := .char) Bd.returns (by simp) (hb hby d_method_2_47) hr)), hrun, hended, _, _, rfl, ?_, ⟨_, rfl⟩, hWW, hsame.mono (by decide) (by decide)⟩
          show QPK Z x h0 n0 _ s₁.heap _
          rw [e0]
          exact ⟨_, rfl, own_rg _ (by decide) (by decide), N0, rfl⟩
      · skip
        have K69 : Go p e below s₁ (mkF m 48 #[.val (.int x), .val (.int (x &&& (3 : Int32))), .val (.int ((x.toUInt32 >>> ((2 : Int32) &&& 31).toUInt32).toInt32))] []) G := fun tq kq => K57 tq (XS.icmpYes X0.here hx rfl (pc0 := 31) (pc' := 48) rfl (hb hby d_method_2_31) rfl ((feq hc58).2) (by decide) (by decide) kq)
        have K70 : Go p e below s₁ (mkF m 49 #[.val (.int x), .val (.int (x &&& (3 : Int32))), .val (.int ((x.toUInt32 >>> ((2 : Int32) &&& 31).toUInt32).toInt32))] [(.int ((x.toUInt32 >>> ((2 : Int32) &&& 31).toUInt32).toInt32))]) G := fun tq kq => K69 tq (XS.iloadN X0.here hx rfl (hb hby d_method_2_48) rfl kq)
        have K71 : Go p e below s₁ (mkF m 52 #[.val (.int x), .val (.int (x &&& (3 : Int32))), .val (.int ((x.toUInt32 >>> ((2 : Int32) &&& 31).toUInt32).toInt32))] [(.int (255 : Int32)), (.int ((x.toUInt32 >>> ((2 : Int32) &&& 31).toUInt32).toInt32))]) G := fun tq kq => K70 tq (XS.sipush X0.here hx rfl (hb hby d_method_2_49) kq)
        have K72 : Go p e below s₁ (mkF m 53 #[.val (.int x), .val (.int (x &&& (3 : Int32))), .val (.int ((x.toUInt32 >>> ((2 : Int32) &&& 31).toUInt32).toInt32))] [(.int (((x.toUInt32 >>> ((2 : Int32) &&& 31).toUInt32).toInt32) &&& (255 : Int32)))]) G := fun tq kq => K71 tq (XS.iand X0.here hx rfl (hb hby d_method_2_52) rfl kq)
        have K73 : Go p e below s₁ (mkF m 54 #[.val (.int x), .val (.int (x &&& (3 : Int32))), .val (.int ((x.toUInt32 >>> ((2 : Int32) &&& 31).toUInt32).toInt32))] [(.int ((((x.toUInt32 >>> ((2 : Int32) &&& 31).toUInt32).toInt32) &&& (255 : Int32)).toUInt32.toUInt16.toUInt32.toInt32))]) G := fun tq kq => K72 tq (XS.i2c X0.here hx rfl (hb hby d_method_2_53) rfl kq)
        obtain ⟨fs, hr, hrun, hended, hWW, hsame⟩ := X0.leave (v := some (.int (nar .char ((((x.toUInt32 >>> ((2 : Int32) &&& 31).toUInt32).toInt32) &&& (255 : Int32)).toUInt32.toUInt16.toUInt32.toInt32)))) (fun h => by rw [Bd.returns] at h; cases h)
        refine ⟨_, _, hG _ (K73 _ (retN X0 hx (t := .char) Bd.returns (by simp) (hb hby d_method_2_54) hr)), hrun, hended, _, _, rfl, ?_, ⟨_, rfl⟩, hWW, hsame.mono (by decide) (by decide)⟩
        show QPK Z x h0 n0 _ s₁.heap _
        rw [e0]
        exact ⟨_, rfl, own_rc _ (own_and255 _).1 (own_and255 _).2, N0, rfl⟩
theorem ef_method_3_I (m : MethodId) (x0 : Int32) : entryFrame m #[(.int x0)] 1 = mkF m 0 #[.val (.int x0)] [] := by first | (simp [entryFrame, mkF, argsToLocals, Value.category]; done) | rfl
theorem d_method_3_0 : decode method_3_code 0 = .ok (.iload_n 0, 1) := by decide +kernel
theorem d_method_3_1 : decode method_3_code 1 = .ok (.bipush 101, 2) := by decide +kernel
theorem d_method_3_3 : decode method_3_code 3 = .ok (.if_icmp .eq 9, 3) := by decide +kernel
theorem d_method_3_6 : decode method_3_code 6 = .ok (.iload_n 0, 1) := by decide +kernel
theorem d_method_3_7 : decode method_3_code 7 = .ok (.bipush 69, 2) := by decide +kernel
theorem d_method_3_9 : decode method_3_code 9 = .ok (.if_icmp .ne 7, 3) := by decide +kernel
theorem d_method_3_12 : decode method_3_code 12 = .ok (.iconst 1, 1) := by decide +kernel
theorem d_method_3_13 : decode method_3_code 13 = .ok (.goto 4, 3) := by decide +kernel
theorem d_method_3_16 : decode method_3_code 16 = .ok (.iconst 0, 1) := by decide +kernel
theorem d_method_3_17 : decode method_3_code 17 = .ok (.ireturn, 1) := by decide +kernel
def QIE (Z : State) (ch : Int32) (h0 : Heap) (n0 : Nat) (v : Option Value) (h : Heap) (L : List Loc) : Prop := v = some (.int (if ch = (101 : Int32) ∨ ch = (69 : Int32) then (1 : Int32) else 0)) ∧ Fr n0 L ∧ h = h0
set_option maxRecDepth 65536 in
set_option maxHeartbeats 40000000 in
theorem rmIE (l : Launch) (Z : State) (a0 : Array Value) (hw : ∀ d ∈ tables_1, d.before a0 Z = true) (ws : List Jvm.Cond) (ch : Int32) (h0 : Heap) (n0 : Nat) (Z0 : n0 ≤ h0.size) :
    MetFree l (⟨"com/example/tallyrule/tallyrule/DecimalsSignificantDigitsPinLaw", "isE", "(C)Z"⟩ : MethodName) (head1 (Jvm.Cond.code (⟨"com/example/tallyrule/tallyrule/DecimalsSignificantDigitsPinLaw", "isE", "(C)Z"⟩ : MethodName) method_3_code 1 (some .boolean) :: ws) ({ frames := 0, cells := 0, slots := 0, locals := 0 } : Room)) (fun aa UU => aa = #[(.int ch)] ∧ Z.Warmed39 UU.vm ∧ UU.heap = h0) (fun _ _ _ _ _ => True) (fun _ UU oo UU' => ∃ vv LL, oo = .returned vv ∧ QIE Z ch h0 n0 vv UU'.heap LL ∧ FrameEnd UU oo UU' LL ({ frames := 0, cells := 0, slots := 0, locals := 0 } : Room).cells ({ frames := 0, cells := 0, slots := 0, locals := 0 } : Room).slots) := by
  refine MetFree.of_bodySF (plainFor_of_name pn_41) hisR ?_
  intro p e s m args below meth c s₁ Bd hml0 hP hK
  obtain ⟨rfl, hZ, hh⟩ := hP
  have hx := Bd.exec
  have hby := Bd.bytes
  have hml : c.maxLocals = 1 := hml0
  have hown : s.vm.findClass "com/example/tallyrule/tallyrule/DecimalsSignificantDigitsPinLaw" = some m.cls := findClass_of_methodNamed Bd.named
  have hnm := (name_of_methodNamed Bd.named Bd.method).1
  have hW : ∀ (k : Nat) (d : Jvm.Cond), tables_1[k]? = some d → d.before a0 Z = true := fun k d h => hw d (List.mem_of_getElem? h)
  have X0 : Stand p l e ({ frames := 0, cells := 0, slots := 0, locals := 0 } : Room) s m #[(.int ch)] below meth c s₁ [] 0 0 := Stand.of_body Bd
  have e0 : s₁.heap = h0 := by rw [← hh, Bd.state]; rfl
  have N0 := Fr.nil n0
  obtain ⟨G, hG, K0⟩ : ∃ G : State → Prop, (∀ tq, G tq → Steps p.tables e below (s₁.setTop (entryFrame m #[(.int ch)] 1)) tq) ∧ Go p e below s₁ (mkF m 0 #[.val (.int ch)] []) G := ⟨fun tq => Steps p.tables e below (s₁.setTop (entryFrame m #[(.int ch)] 1)) tq, fun _ h => h, fun tq kq => castTop (ef_method_3_I m ch) kq⟩
  have K74 : Go p e below s₁ (mkF m 1 #[.val (.int ch)] [(.int ch)]) G := fun tq kq => K0 tq (XS.iloadN X0.here hx rfl (hb hby d_method_3_0) rfl kq)
  have K75 : Go p e below s₁ (mkF m 3 #[.val (.int ch)] [(.int (101 : Int32)), (.int ch)]) G := fun tq kq => K74 tq (XS.bipush X0.here hx rfl (hb hby d_method_3_1) kq)
  by_cases hc76 : ch = (101 : Int32)
  · skip
    have K77 : Go p e below s₁ (mkF m 12 #[.val (.int ch)] []) G := fun tq kq => K75 tq (XS.icmpYes X0.here hx rfl (pc0 := 3) (pc' := 12) rfl (hb hby d_method_3_3) rfl ((teq hc76).1) (by decide) (by decide) kq)
    have K78 : Go p e below s₁ (mkF m 13 #[.val (.int ch)] [(.int (1 : Int32))]) G := fun tq kq => K77 tq (XS.iconst X0.here hx rfl (hb hby d_method_3_12) kq)
    have K79 : Go p e below s₁ (mkF m 17 #[.val (.int ch)] [(.int (1 : Int32))]) G := fun tq kq => K78 tq (XS.goto X0.here hx rfl (pc0 := 13) (pc' := 17) rfl (hb hby d_method_3_13) (by decide) (by decide) kq)
    obtain ⟨fs, hr, hrun, hended, hWW, hsame⟩ := X0.leave (v := some (.int (1 : Int32))) (fun h => by rw [Bd.returns] at h; cases h)
    refine ⟨_, _, hG _ (K79 _ (retN X0 hx (t := .boolean) Bd.returns (by simp) (hb hby d_method_3_17) hr)), hrun, hended, _, _, rfl, ?_, ⟨_, rfl⟩, hWW, hsame.mono (by decide) (by decide)⟩
    show QIE Z ch h0 n0 _ s₁.heap _
    rw [e0]
    exact ⟨by simp [hc76], N0, rfl⟩
  · skip
    have K80 : Go p e below s₁ (mkF m 6 #[.val (.int ch)] []) G := fun tq kq => K75 tq (XS.icmpNo X0.here hx rfl (hb hby d_method_3_3) rfl ((feq hc76).1) kq)
    have K81 : Go p e below s₁ (mkF m 7 #[.val (.int ch)] [(.int ch)]) G := fun tq kq => K80 tq (XS.iloadN X0.here hx rfl (hb hby d_method_3_6) rfl kq)
    have K82 : Go p e below s₁ (mkF m 9 #[.val (.int ch)] [(.int (69 : Int32)), (.int ch)]) G := fun tq kq => K81 tq (XS.bipush X0.here hx rfl (hb hby d_method_3_7) kq)
    by_cases hc83 : ch = (69 : Int32)
    · skip
      have K84 : Go p e below s₁ (mkF m 12 #[.val (.int ch)] []) G := fun tq kq => K82 tq (XS.icmpNo X0.here hx rfl (hb hby d_method_3_9) rfl ((teq hc83).2) kq)
      have K85 : Go p e below s₁ (mkF m 13 #[.val (.int ch)] [(.int (1 : Int32))]) G := fun tq kq => K84 tq (XS.iconst X0.here hx rfl (hb hby d_method_3_12) kq)
      have K86 : Go p e below s₁ (mkF m 17 #[.val (.int ch)] [(.int (1 : Int32))]) G := fun tq kq => K85 tq (XS.goto X0.here hx rfl (pc0 := 13) (pc' := 17) rfl (hb hby d_method_3_13) (by decide) (by decide) kq)
      obtain ⟨fs, hr, hrun, hended, hWW, hsame⟩ := X0.leave (v := some (.int (1 : Int32))) (fun h => by rw [Bd.returns] at h; cases h)
      refine ⟨_, _, hG _ (K86 _ (retN X0 hx (t := .boolean) Bd.returns (by simp) (hb hby d_method_3_17) hr)), hrun, hended, _, _, rfl, ?_, ⟨_, rfl⟩, hWW, hsame.mono (by decide) (by decide)⟩
      show QIE Z ch h0 n0 _ s₁.heap _
      rw [e0]
      exact ⟨by simp [hc76, hc83], N0, rfl⟩
    · skip
      have K87 : Go p e below s₁ (mkF m 16 #[.val (.int ch)] []) G := fun tq kq => K82 tq (XS.icmpYes X0.here hx rfl (pc0 := 9) (pc' := 16) rfl (hb hby d_method_3_9) rfl ((feq hc83).2) (by decide) (by decide) kq)
      have K88 : Go p e below s₁ (mkF m 17 #[.val (.int ch)] [(.int (0 : Int32))]) G := fun tq kq => K87 tq (XS.iconst X0.here hx rfl (hb hby d_method_3_16) kq)
      obtain ⟨fs, hr, hrun, hended, hWW, hsame⟩ := X0.leave (v := some (.int (0 : Int32))) (fun h => by rw [Bd.returns] at h; cases h)
      refine ⟨_, _, hG _ (K88 _ (retN X0 hx (t := .boolean) Bd.returns (by simp) (hb hby d_method_3_17) hr)), hrun, hended, _, _, rfl, ?_, ⟨_, rfl⟩, hWW, hsame.mono (by decide) (by decide)⟩
      show QIE Z ch h0 n0 _ s₁.heap _
      rw [e0]
      exact ⟨by simp [hc76, hc83], N0, rfl⟩
theorem ef_method_4_I (m : MethodId) (x0 : Int32) : entryFrame m #[(.int x0)] 1 = mkF m 0 #[.val (.int x0)] [] := by first | (simp [entryFrame, mkF, argsToLocals, Value.category]; done) | rfl
theorem d_method_4_0 : decode method_4_code 0 = .ok (.iload_n 0, 1) := by decide +kernel
theorem d_method_4_1 : decode method_4_code 1 = .ok (.bipush 48, 2) := by decide +kernel
theorem d_method_4_3 : decode method_4_code 3 = .ok (.if_icmp .lt 13, 3) := by decide +kernel
theorem d_method_4_6 : decode method_4_code 6 = .ok (.iload_n 0, 1) := by decide +kernel
theorem d_method_4_7 : decode method_4_code 7 = .ok (.bipush 57, 2) := by decide +kernel
theorem d_method_4_9 : decode method_4_code 9 = .ok (.if_icmp .gt 7, 3) := by decide +kernel
theorem d_method_4_12 : decode method_4_code 12 = .ok (.iconst 1, 1) := by decide +kernel
theorem d_method_4_13 : decode method_4_code 13 = .ok (.goto 4, 3) := by decide +kernel
theorem d_method_4_16 : decode method_4_code 16 = .ok (.iconst 0, 1) := by decide +kernel
theorem d_method_4_17 : decode method_4_code 17 = .ok (.ireturn, 1) := by decide +kernel
def QID (Z : State) (ch : Int32) (h0 : Heap) (n0 : Nat) (v : Option Value) (h : Heap) (L : List Loc) : Prop := v = some (.int (if ¬ (ch < (48 : Int32)) ∧ ¬ ((57 : Int32) < ch) then (1 : Int32) else 0)) ∧ Fr n0 L ∧ h = h0
set_option maxRecDepth 65536 in
set_option maxHeartbeats 40000000 in
theorem rmID (l : Launch) (Z : State) (a0 : Array Value) (hw : ∀ d ∈ tables_1, d.before a0 Z = true) (ws : List Jvm.Cond) (ch : Int32) (h0 : Heap) (n0 : Nat) (Z0 : n0 ≤ h0.size) :
    MetFree l (⟨"com/example/tallyrule/tallyrule/DecimalsSignificantDigitsPinLaw", "isDigit", "(C)Z"⟩ : MethodName) (head1 (Jvm.Cond.code (⟨"com/example/tallyrule/tallyrule/DecimalsSignificantDigitsPinLaw", "isDigit", "(C)Z"⟩ : MethodName) method_4_code 1 (some .boolean) :: ws) ({ frames := 0, cells := 0, slots := 0, locals := 0 } : Room)) (fun aa UU => aa = #[(.int ch)] ∧ Z.Warmed39 UU.vm ∧ UU.heap = h0) (fun _ _ _ _ _ => True) (fun _ UU oo UU' => ∃ vv LL, oo = .returned vv ∧ QID Z ch h0 n0 vv UU'.heap LL ∧ FrameEnd UU oo UU' LL ({ frames := 0, cells := 0, slots := 0, locals := 0 } : Room).cells ({ frames := 0, cells := 0, slots := 0, locals := 0 } : Room).slots) := by
  refine MetFree.of_bodySF (plainFor_of_name pn_41) hisR ?_
  intro p e s m args below meth c s₁ Bd hml0 hP hK
  obtain ⟨rfl, hZ, hh⟩ := hP
  have hx := Bd.exec
  have hby := Bd.bytes
  have hml : c.maxLocals = 1 := hml0
  have hown : s.vm.findClass "com/example/tallyrule/tallyrule/DecimalsSignificantDigitsPinLaw" = some m.cls := findClass_of_methodNamed Bd.named
  have hnm := (name_of_methodNamed Bd.named Bd.method).1
  have hW : ∀ (k : Nat) (d : Jvm.Cond), tables_1[k]? = some d → d.before a0 Z = true := fun k d h => hw d (List.mem_of_getElem? h)
  have X0 : Stand p l e ({ frames := 0, cells := 0, slots := 0, locals := 0 } : Room) s m #[(.int ch)] below meth c s₁ [] 0 0 := Stand.of_body Bd
  have e0 : s₁.heap = h0 := by rw [← hh, Bd.state]; rfl
  have N0 := Fr.nil n0
  obtain ⟨G, hG, K0⟩ : ∃ G : State → Prop, (∀ tq, G tq → Steps p.tables e below (s₁.setTop (entryFrame m #[(.int ch)] 1)) tq) ∧ Go p e below s₁ (mkF m 0 #[.val (.int ch)] []) G := ⟨fun tq => Steps p.tables e below (s₁.setTop (entryFrame m #[(.int ch)] 1)) tq, fun _ h => h, fun tq kq => castTop (ef_method_4_I m ch) kq⟩
  have K89 : Go p e below s₁ (mkF m 1 #[.val (.int ch)] [(.int ch)]) G := fun tq kq => K0 tq (XS.iloadN X0.here hx rfl (hb hby d_method_4_0) rfl kq)
  have K90 : Go p e below s₁ (mkF m 3 #[.val (.int ch)] [(.int (48 : Int32)), (.int ch)]) G := fun tq kq => K89 tq (XS.bipush X0.here hx rfl (hb hby d_method_4_1) kq)
  by_cases hc91 : ch < (48 : Int32)
  · skip
    have K92 : Go p e below s₁ (mkF m 16 #[.val (.int ch)] []) G := fun tq kq => K90 tq (XS.icmpYes X0.here hx rfl (pc0 := 3) (pc' := 16) rfl (hb hby d_method_4_3) rfl ((tlt hc91).1) (by decide) (by decide) kq)
    have K93 : Go p e below s₁ (mkF m 17 #[.val (.int ch)] [(.int (0 : Int32))]) G := fun tq kq => K92 tq (XS.iconst X0.here hx rfl (hb hby d_method_4_16) kq)
    obtain ⟨fs, hr, hrun, hended, hWW, hsame⟩ := X0.leave (v := some (.int (0 : Int32))) (fun h => by rw [Bd.returns] at h; cases h)
    refine ⟨_, _, hG _ (K93 _ (retN X0 hx (t := .boolean) Bd.returns (by simp) (hb hby d_method_4_17) hr)), hrun, hended, _, _, rfl, ?_, ⟨_, rfl⟩, hWW, hsame.mono (by decide) (by decide)⟩
    show QID Z ch h0 n0 _ s₁.heap _
    rw [e0]
    exact ⟨by simp [hc91], N0, rfl⟩
  · skip
    have K94 : Go p e below s₁ (mkF m 6 #[.val (.int ch)] []) G := fun tq kq => K90 tq (XS.icmpNo X0.here hx rfl (hb hby d_method_4_3) rfl ((flt hc91).1) kq)
    have K95 : Go p e below s₁ (mkF m 7 #[.val (.int ch)] [(.int ch)]) G := fun tq kq => K94 tq (XS.iloadN X0.here hx rfl (hb hby d_method_4_6) rfl kq)
    have K96 : Go p e below s₁ (mkF m 9 #[.val (.int ch)] [(.int (57 : Int32)), (.int ch)]) G := fun tq kq => K95 tq (XS.bipush X0.here hx rfl (hb hby d_method_4_7) kq)
    by_cases hc97 : (57 : Int32) < ch
    · skip
      have K98 : Go p e below s₁ (mkF m 16 #[.val (.int ch)] []) G := fun tq kq => K96 tq (XS.icmpYes X0.here hx rfl (pc0 := 9) (pc' := 16) rfl (hb hby d_method_4_9) rfl ((tlt hc97).2.2.1) (by decide) (by decide) kq)
      have K99 : Go p e below s₁ (mkF m 17 #[.val (.int ch)] [(.int (0 : Int32))]) G := fun tq kq => K98 tq (XS.iconst X0.here hx rfl (hb hby d_method_4_16) kq)
      obtain ⟨fs, hr, hrun, hended, hWW, hsame⟩ := X0.leave (v := some (.int (0 : Int32))) (fun h => by rw [Bd.returns] at h; cases h)
      refine ⟨_, _, hG _ (K99 _ (retN X0 hx (t := .boolean) Bd.returns (by simp) (hb hby d_method_4_17) hr)), hrun, hended, _, _, rfl, ?_, ⟨_, rfl⟩, hWW, hsame.mono (by decide) (by decide)⟩
      show QID Z ch h0 n0 _ s₁.heap _
      rw [e0]
      exact ⟨by simp [hc91, hc97], N0, rfl⟩
    · skip
      have K100 : Go p e below s₁ (mkF m 12 #[.val (.int ch)] []) G := fun tq kq => K96 tq (XS.icmpNo X0.here hx rfl (hb hby d_method_4_9) rfl ((flt hc97).2.2.1) kq)
      have K101 : Go p e below s₁ (mkF m 13 #[.val (.int ch)] [(.int (1 : Int32))]) G := fun tq kq => K100 tq (XS.iconst X0.here hx rfl (hb hby d_method_4_12) kq)
      have K102 : Go p e below s₁ (mkF m 17 #[.val (.int ch)] [(.int (1 : Int32))]) G := fun tq kq => K101 tq (XS.goto X0.here hx rfl (pc0 := 13) (pc' := 17) rfl (hb hby d_method_4_13) (by decide) (by decide) kq)
      obtain ⟨fs, hr, hrun, hended, hWW, hsame⟩ := X0.leave (v := some (.int (1 : Int32))) (fun h => by rw [Bd.returns] at h; cases h)
      refine ⟨_, _, hG _ (K102 _ (retN X0 hx (t := .boolean) Bd.returns (by simp) (hb hby d_method_4_17) hr)), hrun, hended, _, _, rfl, ?_, ⟨_, rfl⟩, hWW, hsame.mono (by decide) (by decide)⟩
      show QID Z ch h0 n0 _ s₁.heap _
      rw [e0]
      exact ⟨by simp [hc91, hc97], N0, rfl⟩
theorem ef_method_5_I (m : MethodId) (x0 : Int32) : entryFrame m #[(.int x0)] 1 = mkF m 0 #[.val (.int x0)] [] := by first | (simp [entryFrame, mkF, argsToLocals, Value.category]; done) | rfl
theorem d_method_5_0 : decode method_5_code 0 = .ok (.iload_n 0, 1) := by decide +kernel
theorem d_method_5_1 : decode method_5_code 1 = .ok (.bipush 49, 2) := by decide +kernel
theorem d_method_5_3 : decode method_5_code 3 = .ok (.if_icmp .lt 13, 3) := by decide +kernel
theorem d_method_5_6 : decode method_5_code 6 = .ok (.iload_n 0, 1) := by decide +kernel
theorem d_method_5_7 : decode method_5_code 7 = .ok (.bipush 57, 2) := by decide +kernel
theorem d_method_5_9 : decode method_5_code 9 = .ok (.if_icmp .gt 7, 3) := by decide +kernel
theorem d_method_5_12 : decode method_5_code 12 = .ok (.iconst 1, 1) := by decide +kernel
theorem d_method_5_13 : decode method_5_code 13 = .ok (.goto 4, 3) := by decide +kernel
theorem d_method_5_16 : decode method_5_code 16 = .ok (.iconst 0, 1) := by decide +kernel
theorem d_method_5_17 : decode method_5_code 17 = .ok (.ireturn, 1) := by decide +kernel
def QNZ (Z : State) (ch : Int32) (h0 : Heap) (n0 : Nat) (v : Option Value) (h : Heap) (L : List Loc) : Prop := v = some (.int (if ¬ (ch < (49 : Int32)) ∧ ¬ ((57 : Int32) < ch) then (1 : Int32) else 0)) ∧ Fr n0 L ∧ h = h0
set_option maxRecDepth 65536 in
set_option maxHeartbeats 40000000 in
theorem rmNZ (l : Launch) (Z : State) (a0 : Array Value) (hw : ∀ d ∈ tables_1, d.before a0 Z = true) (ws : List Jvm.Cond) (ch : Int32) (h0 : Heap) (n0 : Nat) (Z0 : n0 ≤ h0.size) :
    MetFree l (⟨"com/example/tallyrule/tallyrule/DecimalsSignificantDigitsPinLaw", "isNz", "(C)Z"⟩ : MethodName) (head1 (Jvm.Cond.code (⟨"com/example/tallyrule/tallyrule/DecimalsSignificantDigitsPinLaw", "isNz", "(C)Z"⟩ : MethodName) method_5_code 1 (some .boolean) :: ws) ({ frames := 0, cells := 0, slots := 0, locals := 0 } : Room)) (fun aa UU => aa = #[(.int ch)] ∧ Z.Warmed39 UU.vm ∧ UU.heap = h0) (fun _ _ _ _ _ => True) (fun _ UU oo UU' => ∃ vv LL, oo = .returned vv ∧ QNZ Z ch h0 n0 vv UU'.heap LL ∧ FrameEnd UU oo UU' LL ({ frames := 0, cells := 0, slots := 0, locals := 0 } : Room).cells ({ frames := 0, cells := 0, slots := 0, locals := 0 } : Room).slots) := by
  refine MetFree.of_bodySF (plainFor_of_name pn_41) hisR ?_
  intro p e s m args below meth c s₁ Bd hml0 hP hK
  obtain ⟨rfl, hZ, hh⟩ := hP
  have hx := Bd.exec
  have hby := Bd.bytes
  have hml : c.maxLocals = 1 := hml0
  have hown : s.vm.findClass "com/example/tallyrule/tallyrule/DecimalsSignificantDigitsPinLaw" = some m.cls := findClass_of_methodNamed Bd.named
  have hnm := (name_of_methodNamed Bd.named Bd.method).1
  have hW : ∀ (k : Nat) (d : Jvm.Cond), tables_1[k]? = some d → d.before a0 Z = true := fun k d h => hw d (List.mem_of_getElem? h)
  have X0 : Stand p l e ({ frames := 0, cells := 0, slots := 0, locals := 0 } : Room) s m #[(.int ch)] below meth c s₁ [] 0 0 := Stand.of_body Bd
  have e0 : s₁.heap = h0 := by rw [← hh, Bd.state]; rfl
  have N0 := Fr.nil n0
  obtain ⟨G, hG, K0⟩ : ∃ G : State → Prop, (∀ tq, G tq → Steps p.tables e below (s₁.setTop (entryFrame m #[(.int ch)] 1)) tq) ∧ Go p e below s₁ (mkF m 0 #[.val (.int ch)] []) G := ⟨fun tq => Steps p.tables e below (s₁.setTop (entryFrame m #[(.int ch)] 1)) tq, fun _ h => h, fun tq kq => castTop (ef_method_5_I m ch) kq⟩
  have K103 : Go p e below s₁ (mkF m 1 #[.val (.int ch)] [(.int ch)]) G := fun tq kq => K0 tq (XS.iloadN X0.here hx rfl (hb hby d_method_5_0) rfl kq)
  have K104 : Go p e below s₁ (mkF m 3 #[.val (.int ch)] [(.int (49 : Int32)), (.int ch)]) G := fun tq kq => K103 tq (XS.bipush X0.here hx rfl (hb hby d_method_5_1) kq)
  by_cases hc105 : ch < (49 : Int32)
  · skip
    have K106 : Go p e below s₁ (mkF m 16 #[.val (.int ch)] []) G := fun tq kq => K104 tq (XS.icmpYes X0.here hx rfl (pc0 := 3) (pc' := 16) rfl (hb hby d_method_5_3) rfl ((tlt hc105).1) (by decide) (by decide) kq)
    have K107 : Go p e below s₁ (mkF m 17 #[.val (.int ch)] [(.int (0 : Int32))]) G := fun tq kq => K106 tq (XS.iconst X0.here hx rfl (hb hby d_method_5_16) kq)
    obtain ⟨fs, hr, hrun, hended, hWW, hsame⟩ := X0.leave (v := some (.int (0 : Int32))) (fun h => by rw [Bd.returns] at h; cases h)
    refine ⟨_, _, hG _ (K107 _ (retN X0 hx (t := .boolean) Bd.returns (by simp) (hb hby d_method_5_17) hr)), hrun, hended, _, _, rfl, ?_, ⟨_, rfl⟩, hWW, hsame.mono (by decide) (by decide)⟩
    show QNZ Z ch h0 n0 _ s₁.heap _
    rw [e0]
    exact ⟨by simp [hc105], N0, rfl⟩
  · skip
    have K108 : Go p e below s₁ (mkF m 6 #[.val (.int ch)] []) G := fun tq kq => K104 tq (XS.icmpNo X0.here hx rfl (hb hby d_method_5_3) rfl ((flt hc105).1) kq)
    have K109 : Go p e below s₁ (mkF m 7 #[.val (.int ch)] [(.int ch)]) G := fun tq kq => K108 tq (XS.iloadN X0.here hx rfl (hb hby d_method_5_6) rfl kq)
    have K110 : Go p e below s₁ (mkF m 9 #[.val (.int ch)] [(.int (57 : Int32)), (.int ch)]) G := fun tq kq => K109 tq (XS.bipush X0.here hx rfl (hb hby d_method_5_7) kq)
    by_cases hc111 : (57 : Int32) < ch
    · skip
      have K112 : Go p e below s₁ (mkF m 16 #[.val (.int ch)] []) G := fun tq kq => K110 tq (XS.icmpYes X0.here hx rfl (pc0 := 9) (pc' := 16) rfl (hb hby d_method_5_9) rfl ((tlt hc111).2.2.1) (by decide) (by decide) kq)
      have K113 : Go p e below s₁ (mkF m 17 #[.val (.int ch)] [(.int (0 : Int32))]) G := fun tq kq => K112 tq (XS.iconst X0.here hx rfl (hb hby d_method_5_16) kq)
      obtain ⟨fs, hr, hrun, hended, hWW, hsame⟩ := X0.leave (v := some (.int (0 : Int32))) (fun h => by rw [Bd.returns] at h; cases h)
      refine ⟨_, _, hG _ (K113 _ (retN X0 hx (t := .boolean) Bd.returns (by simp) (hb hby d_method_5_17) hr)), hrun, hended, _, _, rfl, ?_, ⟨_, rfl⟩, hWW, hsame.mono (by decide) (by decide)⟩
      show QNZ Z ch h0 n0 _ s₁.heap _
      rw [e0]
      exact ⟨by simp [hc105, hc111], N0, rfl⟩
    · skip
      have K114 : Go p e below s₁ (mkF m 12 #[.val (.int ch)] []) G := fun tq kq => K110 tq (XS.icmpNo X0.here hx rfl (hb hby d_method_5_9) rfl ((flt hc111).2.2.1) kq)
      have K115 : Go p e below s₁ (mkF m 13 #[.val (.int ch)] [(.int (1 : Int32))]) G := fun tq kq => K114 tq (XS.iconst X0.here hx rfl (hb hby d_method_5_12) kq)
      have K116 : Go p e below s₁ (mkF m 17 #[.val (.int ch)] [(.int (1 : Int32))]) G := fun tq kq => K115 tq (XS.goto X0.here hx rfl (pc0 := 13) (pc' := 17) rfl (hb hby d_method_5_13) (by decide) (by decide) kq)
      obtain ⟨fs, hr, hrun, hended, hWW, hsame⟩ := X0.leave (v := some (.int (1 : Int32))) (fun h => by rw [Bd.returns] at h; cases h)
      refine ⟨_, _, hG _ (K116 _ (retN X0 hx (t := .boolean) Bd.returns (by simp) (hb hby d_method_5_17) hr)), hrun, hended, _, _, rfl, ?_, ⟨_, rfl⟩, hWW, hsame.mono (by decide) (by decide)⟩
      show QNZ Z ch h0 n0 _ s₁.heap _
      rw [e0]
      exact ⟨by simp [hc105, hc111], N0, rfl⟩
theorem ef_method_6_I (m : MethodId) (x0 : Int32) : entryFrame m #[(.int x0)] 1 = mkF m 0 #[.val (.int x0)] [] := by first | (simp [entryFrame, mkF, argsToLocals, Value.category]; done) | rfl
theorem d_method_6_0 : decode method_6_code 0 = .ok (.iload_n 0, 1) := by decide +kernel
theorem d_method_6_1 : decode method_6_code 1 = .ok (.ifCond .eq 7, 3) := by decide +kernel
theorem d_method_6_4 : decode method_6_code 4 = .ok (.iconst 1, 1) := by decide +kernel
theorem d_method_6_5 : decode method_6_code 5 = .ok (.goto 4, 3) := by decide +kernel
theorem d_method_6_8 : decode method_6_code 8 = .ok (.iconst 0, 1) := by decide +kernel
theorem d_method_6_9 : decode method_6_code 9 = .ok (.ireturn, 1) := by decide +kernel
def QONE (Z : State) (b : Int32) (h0 : Heap) (n0 : Nat) (v : Option Value) (h : Heap) (L : List Loc) : Prop := v = some (.int (if b = (0 : Int32) then (0 : Int32) else 1)) ∧ Fr n0 L ∧ h = h0
set_option maxRecDepth 65536 in
set_option maxHeartbeats 40000000 in
theorem rmONE (l : Launch) (Z : State) (a0 : Array Value) (hw : ∀ d ∈ tables_1, d.before a0 Z = true) (ws : List Jvm.Cond) (b : Int32) (h0 : Heap) (n0 : Nat) (Z0 : n0 ≤ h0.size) :
    MetFree l (⟨"com/example/tallyrule/tallyrule/DecimalsSignificantDigitsPinLaw", "one", "(Z)I"⟩ : MethodName) (head1 (Jvm.Cond.code (⟨"com/example/tallyrule/tallyrule/DecimalsSignificantDigitsPinLaw", "one", "(Z)I"⟩ : MethodName) method_6_code 1 (some .int) :: ws) ({ frames := 0, cells := 0, slots := 0, locals := 0 } : Room)) (fun aa UU => aa = #[(.int b)] ∧ Z.Warmed39 UU.vm ∧ UU.heap = h0) (fun _ _ _ _ _ => True) (fun _ UU oo UU' => ∃ vv LL, oo = .returned vv ∧ QONE Z b h0 n0 vv UU'.heap LL ∧ FrameEnd UU oo UU' LL ({ frames := 0, cells := 0, slots := 0, locals := 0 } : Room).cells ({ frames := 0, cells := 0, slots := 0, locals := 0 } : Room).slots) := by
  refine MetFree.of_bodySF (plainFor_of_name pn_41) hisR ?_
  intro p e s m args below meth c s₁ Bd hml0 hP hK
  obtain ⟨rfl, hZ, hh⟩ := hP
  have hx := Bd.exec
  have hby := Bd.bytes
  have hml : c.maxLocals = 1 := hml0
  have hown : s.vm.findClass "com/example/tallyrule/tallyrule/DecimalsSignificantDigitsPinLaw" = some m.cls := findClass_of_methodNamed Bd.named
  have hnm := (name_of_methodNamed Bd.named Bd.method).1
  have hW : ∀ (k : Nat) (d : Jvm.Cond), tables_1[k]? = some d → d.before a0 Z = true := fun k d h => hw d (List.mem_of_getElem? h)
  have X0 : Stand p l e ({ frames := 0, cells := 0, slots := 0, locals := 0 } : Room) s m #[(.int b)] below meth c s₁ [] 0 0 := Stand.of_body Bd
  have e0 : s₁.heap = h0 := by rw [← hh, Bd.state]; rfl
  have N0 := Fr.nil n0
  obtain ⟨G, hG, K0⟩ : ∃ G : State → Prop, (∀ tq, G tq → Steps p.tables e below (s₁.setTop (entryFrame m #[(.int b)] 1)) tq) ∧ Go p e below s₁ (mkF m 0 #[.val (.int b)] []) G := ⟨fun tq => Steps p.tables e below (s₁.setTop (entryFrame m #[(.int b)] 1)) tq, fun _ h => h, fun tq kq => castTop (ef_method_6_I m b) kq⟩
  have K117 : Go p e below s₁ (mkF m 1 #[.val (.int b)] [(.int b)]) G := fun tq kq => K0 tq (XS.iloadN X0.here hx rfl (hb hby d_method_6_0) rfl kq)
  by_cases hc118 : b = (0 : Int32)
  · skip
    have K119 : Go p e below s₁ (mkF m 8 #[.val (.int b)] []) G := fun tq kq => K117 tq (XS.ifYes X0.here hx rfl (pc0 := 1) (pc' := 8) rfl (hb hby d_method_6_1) rfl ((if0 _ _).trans (teq hc118).1) (by decide) (by decide) kq)
    have K120 : Go p e below s₁ (mkF m 9 #[.val (.int b)] [(.int (0 : Int32))]) G := fun tq kq => K119 tq (XS.iconst X0.here hx rfl (hb hby d_method_6_8) kq)
    obtain ⟨fs, hr, hrun, hended, hWW, hsame⟩ := X0.leave (v := some (.int (0 : Int32))) (fun h => by rw [Bd.returns] at h; cases h)
    refine ⟨_, _, hG _ (K120 _ (retOut X0 hx Bd.returns rfl (Or.inl ⟨rfl, Or.inl rfl, _, rfl⟩) (hb hby d_method_6_9) hr)), hrun, hended, _, _, rfl, ?_, ⟨_, rfl⟩, hWW, hsame.mono (by decide) (by decide)⟩
    show QONE Z b h0 n0 _ s₁.heap _
    rw [e0]
    exact ⟨by simp [hc118], N0, rfl⟩
  · skip
    have K121 : Go p e below s₁ (mkF m 4 #[.val (.int b)] []) G := fun tq kq => K117 tq (XS.ifNo X0.here hx rfl (hb hby d_method_6_1) rfl ((if0 _ _).trans (feq hc118).1) kq)
    have K122 : Go p e below s₁ (mkF m 5 #[.val (.int b)] [(.int (1 : Int32))]) G := fun tq kq => K121 tq (XS.iconst X0.here hx rfl (hb hby d_method_6_4) kq)
    have K123 : Go p e below s₁ (mkF m 9 #[.val (.int b)] [(.int (1 : Int32))]) G := fun tq kq => K122 tq (XS.goto X0.here hx rfl (pc0 := 5) (pc' := 9) rfl (hb hby d_method_6_5) (by decide) (by decide) kq)
    obtain ⟨fs, hr, hrun, hended, hWW, hsame⟩ := X0.leave (v := some (.int (1 : Int32))) (fun h => by rw [Bd.returns] at h; cases h)
    refine ⟨_, _, hG _ (K123 _ (retOut X0 hx Bd.returns rfl (Or.inl ⟨rfl, Or.inl rfl, _, rfl⟩) (hb hby d_method_6_9) hr)), hrun, hended, _, _, rfl, ?_, ⟨_, rfl⟩, hWW, hsame.mono (by decide) (by decide)⟩
    show QONE Z b h0 n0 _ s₁.heap _
    rw [e0]
    exact ⟨by simp [hc118], N0, rfl⟩
def own_tx (n c0 c1 c2 c3 c4 : Int32) : List Int32 := if n = 0 then [] else if n = 1 then [c0] else if n = 2 then [c0, c1] else if n = 3 then [c0, c1, c2] else if n = 4 then [c0, c1, c2, c3] else [c0, c1, c2, c3, c4]
theorem ef_method_7_IIIIII (m : MethodId) (x0 : Int32) (x1 : Int32) (x2 : Int32) (x3 : Int32) (x4 : Int32) (x5 : Int32) : entryFrame m #[(.int x0), (.int x1), (.int x2), (.int x3), (.int x4), (.int x5)] 6 = mkF m 0 #[.val (.int x0), .val (.int x1), .val (.int x2), .val (.int x3), .val (.int x4), .val (.int x5)] [] := by first | (simp [entryFrame, mkF, argsToLocals, Value.category]; done) | rfl
theorem pd_122 : parseMethodDescriptor "([C)V" = some ⟨[(.array .char)], none⟩ := by decide +kernel
theorem d_method_7_0 : decode method_7_code 0 = .ok (.iload_n 0, 1) := by decide +kernel
theorem d_method_7_1 : decode method_7_code 1 = .ok (.ifCond .ne 14, 3) := by decide +kernel
theorem d_method_7_4 : decode method_7_code 4 = .ok (.new 7, 3) := by decide +kernel
theorem d_method_7_7 : decode method_7_code 7 = .ok (.dup, 1) := by decide +kernel
theorem d_method_7_8 : decode method_7_code 8 = .ok (.iconst 0, 1) := by decide +kernel
theorem d_method_7_9 : decode method_7_code 9 = .ok (.newarray .char, 2) := by decide +kernel
theorem d_method_7_11 : decode method_7_code 11 = .ok (.invokespecial 9, 3) := by decide +kernel
theorem d_method_7_14 : decode method_7_code 14 = .ok (.areturn, 1) := by decide +kernel
theorem d_method_7_15 : decode method_7_code 15 = .ok (.iload_n 0, 1) := by decide +kernel
theorem d_method_7_16 : decode method_7_code 16 = .ok (.iconst 1, 1) := by decide +kernel
theorem d_method_7_17 : decode method_7_code 17 = .ok (.if_icmp .ne 18, 3) := by decide +kernel
theorem d_method_7_20 : decode method_7_code 20 = .ok (.new 7, 3) := by decide +kernel
theorem d_method_7_23 : decode method_7_code 23 = .ok (.dup, 1) := by decide +kernel
theorem d_method_7_24 : decode method_7_code 24 = .ok (.iconst 1, 1) := by decide +kernel
theorem d_method_7_25 : decode method_7_code 25 = .ok (.newarray .char, 2) := by decide +kernel
theorem d_method_7_27 : decode method_7_code 27 = .ok (.dup, 1) := by decide +kernel
theorem d_method_7_28 : decode method_7_code 28 = .ok (.iconst 0, 1) := by decide +kernel
theorem d_method_7_29 : decode method_7_code 29 = .ok (.iload_n 1, 1) := by decide +kernel
theorem d_method_7_30 : decode method_7_code 30 = .ok (.castore, 1) := by decide +kernel
theorem d_method_7_31 : decode method_7_code 31 = .ok (.invokespecial 9, 3) := by decide +kernel
theorem d_method_7_34 : decode method_7_code 34 = .ok (.areturn, 1) := by decide +kernel
theorem d_method_7_35 : decode method_7_code 35 = .ok (.iload_n 0, 1) := by decide +kernel
theorem d_method_7_36 : decode method_7_code 36 = .ok (.iconst 2, 1) := by decide +kernel
theorem d_method_7_37 : decode method_7_code 37 = .ok (.if_icmp .ne 22, 3) := by decide +kernel
theorem d_method_7_40 : decode method_7_code 40 = .ok (.new 7, 3) := by decide +kernel
theorem d_method_7_43 : decode method_7_code 43 = .ok (.dup, 1) := by decide +kernel
theorem d_method_7_44 : decode method_7_code 44 = .ok (.iconst 2, 1) := by decide +kernel
theorem d_method_7_45 : decode method_7_code 45 = .ok (.newarray .char, 2) := by decide +kernel
theorem d_method_7_47 : decode method_7_code 47 = .ok (.dup, 1) := by decide +kernel
theorem d_method_7_48 : decode method_7_code 48 = .ok (.iconst 0, 1) := by decide +kernel
theorem d_method_7_49 : decode method_7_code 49 = .ok (.iload_n 1, 1) := by decide +kernel
theorem d_method_7_50 : decode method_7_code 50 = .ok (.castore, 1) := by decide +kernel
theorem d_method_7_51 : decode method_7_code 51 = .ok (.dup, 1) := by decide +kernel
theorem d_method_7_52 : decode method_7_code 52 = .ok (.iconst 1, 1) := by decide +kernel
theorem d_method_7_53 : decode method_7_code 53 = .ok (.iload_n 2, 1) := by decide +kernel
theorem d_method_7_54 : decode method_7_code 54 = .ok (.castore, 1) := by decide +kernel
theorem d_method_7_55 : decode method_7_code 55 = .ok (.invokespecial 9, 3) := by decide +kernel
theorem d_method_7_58 : decode method_7_code 58 = .ok (.areturn, 1) := by decide +kernel
theorem d_method_7_59 : decode method_7_code 59 = .ok (.iload_n 0, 1) := by decide +kernel
theorem d_method_7_60 : decode method_7_code 60 = .ok (.iconst 3, 1) := by decide +kernel
theorem d_method_7_61 : decode method_7_code 61 = .ok (.if_icmp .ne 26, 3) := by decide +kernel
theorem d_method_7_64 : decode method_7_code 64 = .ok (.new 7, 3) := by decide +kernel
theorem d_method_7_67 : decode method_7_code 67 = .ok (.dup, 1) := by decide +kernel
theorem d_method_7_68 : decode method_7_code 68 = .ok (.iconst 3, 1) := by decide +kernel
theorem d_method_7_69 : decode method_7_code 69 = .ok (.newarray .char, 2) := by decide +kernel
theorem d_method_7_71 : decode method_7_code 71 = .ok (.dup, 1) := by decide +kernel
theorem d_method_7_72 : decode method_7_code 72 = .ok (.iconst 0, 1) := by decide +kernel
theorem d_method_7_73 : decode method_7_code 73 = .ok (.iload_n 1, 1) := by decide +kernel
theorem d_method_7_74 : decode method_7_code 74 = .ok (.castore, 1) := by decide +kernel
theorem d_method_7_75 : decode method_7_code 75 = .ok (.dup, 1) := by decide +kernel
theorem d_method_7_76 : decode method_7_code 76 = .ok (.iconst 1, 1) := by decide +kernel
theorem d_method_7_77 : decode method_7_code 77 = .ok (.iload_n 2, 1) := by decide +kernel
theorem d_method_7_78 : decode method_7_code 78 = .ok (.castore, 1) := by decide +kernel
theorem d_method_7_79 : decode method_7_code 79 = .ok (.dup, 1) := by decide +kernel
theorem d_method_7_80 : decode method_7_code 80 = .ok (.iconst 2, 1) := by decide +kernel
theorem d_method_7_81 : decode method_7_code 81 = .ok (.iload_n 3, 1) := by decide +kernel
theorem d_method_7_82 : decode method_7_code 82 = .ok (.castore, 1) := by decide +kernel
theorem d_method_7_83 : decode method_7_code 83 = .ok (.invokespecial 9, 3) := by decide +kernel
theorem d_method_7_86 : decode method_7_code 86 = .ok (.areturn, 1) := by decide +kernel
theorem d_method_7_87 : decode method_7_code 87 = .ok (.iload_n 0, 1) := by decide +kernel
theorem d_method_7_88 : decode method_7_code 88 = .ok (.iconst 4, 1) := by decide +kernel
theorem d_method_7_89 : decode method_7_code 89 = .ok (.if_icmp .ne 31, 3) := by decide +kernel
theorem d_method_7_92 : decode method_7_code 92 = .ok (.new 7, 3) := by decide +kernel
theorem d_method_7_95 : decode method_7_code 95 = .ok (.dup, 1) := by decide +kernel
theorem d_method_7_96 : decode method_7_code 96 = .ok (.iconst 4, 1) := by decide +kernel
theorem d_method_7_97 : decode method_7_code 97 = .ok (.newarray .char, 2) := by decide +kernel
theorem d_method_7_99 : decode method_7_code 99 = .ok (.dup, 1) := by decide +kernel
theorem d_method_7_100 : decode method_7_code 100 = .ok (.iconst 0, 1) := by decide +kernel
theorem d_method_7_101 : decode method_7_code 101 = .ok (.iload_n 1, 1) := by decide +kernel
theorem d_method_7_102 : decode method_7_code 102 = .ok (.castore, 1) := by decide +kernel
theorem d_method_7_103 : decode method_7_code 103 = .ok (.dup, 1) := by decide +kernel
theorem d_method_7_104 : decode method_7_code 104 = .ok (.iconst 1, 1) := by decide +kernel
theorem d_method_7_105 : decode method_7_code 105 = .ok (.iload_n 2, 1) := by decide +kernel
theorem d_method_7_106 : decode method_7_code 106 = .ok (.castore, 1) := by decide +kernel
theorem d_method_7_107 : decode method_7_code 107 = .ok (.dup, 1) := by decide +kernel
theorem d_method_7_108 : decode method_7_code 108 = .ok (.iconst 2, 1) := by decide +kernel
theorem d_method_7_109 : decode method_7_code 109 = .ok (.iload_n 3, 1) := by decide +kernel
theorem d_method_7_110 : decode method_7_code 110 = .ok (.castore, 1) := by decide +kernel
theorem d_method_7_111 : decode method_7_code 111 = .ok (.dup, 1) := by decide +kernel
theorem d_method_7_112 : decode method_7_code 112 = .ok (.iconst 3, 1) := by decide +kernel
theorem d_method_7_113 : decode method_7_code 113 = .ok (.iload 4, 2) := by decide +kernel
theorem d_method_7_115 : decode method_7_code 115 = .ok (.castore, 1) := by decide +kernel
theorem d_method_7_116 : decode method_7_code 116 = .ok (.invokespecial 9, 3) := by decide +kernel
theorem d_method_7_119 : decode method_7_code 119 = .ok (.areturn, 1) := by decide +kernel
theorem d_method_7_120 : decode method_7_code 120 = .ok (.new 7, 3) := by decide +kernel
theorem d_method_7_123 : decode method_7_code 123 = .ok (.dup, 1) := by decide +kernel
theorem d_method_7_124 : decode method_7_code 124 = .ok (.iconst 5, 1) := by decide +kernel
theorem d_method_7_125 : decode method_7_code 125 = .ok (.newarray .char, 2) := by decide +kernel
theorem d_method_7_127 : decode method_7_code 127 = .ok (.dup, 1) := by decide +kernel
theorem d_method_7_128 : decode method_7_code 128 = .ok (.iconst 0, 1) := by decide +kernel
theorem d_method_7_129 : decode method_7_code 129 = .ok (.iload_n 1, 1) := by decide +kernel
theorem d_method_7_130 : decode method_7_code 130 = .ok (.castore, 1) := by decide +kernel
theorem d_method_7_131 : decode method_7_code 131 = .ok (.dup, 1) := by decide +kernel
theorem d_method_7_132 : decode method_7_code 132 = .ok (.iconst 1, 1) := by decide +kernel
theorem d_method_7_133 : decode method_7_code 133 = .ok (.iload_n 2, 1) := by decide +kernel
theorem d_method_7_134 : decode method_7_code 134 = .ok (.castore, 1) := by decide +kernel
theorem d_method_7_135 : decode method_7_code 135 = .ok (.dup, 1) := by decide +kernel
theorem d_method_7_136 : decode method_7_code 136 = .ok (.iconst 2, 1) := by decide +kernel
theorem d_method_7_137 : decode method_7_code 137 = .ok (.iload_n 3, 1) := by decide +kernel
theorem d_method_7_138 : decode method_7_code 138 = .ok (.castore, 1) := by decide +kernel
theorem d_method_7_139 : decode method_7_code 139 = .ok (.dup, 1) := by decide +kernel
theorem d_method_7_140 : decode method_7_code 140 = .ok (.iconst 3, 1) := by decide +kernel
theorem d_method_7_141 : decode method_7_code 141 = .ok (.iload 4, 2) := by decide +kernel
theorem d_method_7_143 : decode method_7_code 143 = .ok (.castore, 1) := by decide +kernel
theorem d_method_7_144 : decode method_7_code 144 = .ok (.dup, 1) := by decide +kernel
theorem d_method_7_145 : decode method_7_code 145 = .ok (.iconst 4, 1) := by decide +kernel
theorem d_method_7_146 : decode method_7_code 146 = .ok (.iload 5, 2) := by decide +kernel
theorem d_method_7_148 : decode method_7_code 148 = .ok (.castore, 1) := by decide +kernel
theorem d_method_7_149 : decode method_7_code 149 = .ok (.invokespecial 9, 3) := by decide +kernel
theorem d_method_7_152 : decode method_7_code 152 = .ok (.areturn, 1) := by decide +kernel
def QTX (Z : State) (n : Int32) (c0 : Int32) (c1 : Int32) (c2 : Int32) (c3 : Int32) (c4 : Int32) (cz : Int32) (h0 : Heap) (n0 : Nat) (v : Option Value) (h : Heap) (L : List Loc) : Prop := ∃ (r : Addr) (t : Addr) (kb : ClassId) (N2 : Int32) (vs : List Value), v = some (.ref r) ∧ Fr n0 L ∧ Keep h0 h [] ∧ Exa Z h r "java/lang/String" ∧ Fld Z h r "java/lang/String" "value" "[B" (.ref t) ∧ Fld Z h r "java/lang/String" "coder" "B" (.int (0 : Int32)) ∧ Arv Z h t kb .byte N2 vs (.int (0 : Int32)) ∧ StrChars.Road.CodA (own_tx n c0 c1 c2 c3 c4) 0 N2 vs
set_option maxRecDepth 65536 in
set_option maxHeartbeats 40000000 in
theorem rmTX (l : Launch) (Z : State) (a0 : Array Value) (hw : ∀ d ∈ tables_1, d.before a0 Z = true) (ws : List Jvm.Cond) (n : Int32) (c0 : Int32) (c1 : Int32) (c2 : Int32) (c3 : Int32) (c4 : Int32) (cz : Int32) (h0 : Heap) (n0 : Nat) (Z0 : n0 ≤ h0.size) (O0 : Old Z n0 h0) (S_cs : Sta Z Z.heap "java/lang/String" "COMPACT_STRINGS" "Z" (.int cz)) (hcz : ¬ cz = 0) (R_c0 : own_R c0) (R_c1 : own_R c1) (R_c2 : own_R c2) (R_c3 : own_R c3) (R_c4 : own_R c4) :
    MetFree l (⟨"com/example/tallyrule/tallyrule/DecimalsSignificantDigitsPinLaw", "text", "(ICCCCC)Ljava/lang/String;"⟩ : MethodName) (head1 (Jvm.Cond.code (⟨"com/example/tallyrule/tallyrule/DecimalsSignificantDigitsPinLaw", "text", "(ICCCCC)Ljava/lang/String;"⟩ : MethodName) method_7_code 6 (some (.object "java/lang/String")) :: ws) ({ frames := 4, cells := 4, slots := 14, locals := 66 } : Room)) (fun aa UU => aa = #[(.int n), (.int c0), (.int c1), (.int c2), (.int c3), (.int c4)] ∧ Z.Warmed39 UU.vm ∧ UU.heap = h0 ∧ CHv Z own_EL UU.vm h0) (fun _ _ _ _ _ => True) (fun _ UU oo UU' => ∃ vv LL, oo = .returned vv ∧ QTX Z n c0 c1 c2 c3 c4 cz h0 n0 vv UU'.heap LL ∧ CHr Z own_EL UU.vm UU.heap UU'.vm UU'.heap ∧ ReturnedEndW UU oo UU' LL ({ frames := 4, cells := 4, slots := 14, locals := 66 } : Room).cells ({ frames := 4, cells := 4, slots := 14, locals := 66 } : Room).slots) := by
  refine MetFree.of_bodySF (plainFor_of_name pn_41) hisR ?_
  intro p e s m args below meth c s₁ Bd hml0 hP hK
  obtain ⟨rfl, hZ, hh, HC⟩ := hP
  have hx := Bd.exec
  have hby := Bd.bytes
  have hml : c.maxLocals = 6 := hml0
  have hown : s.vm.findClass "com/example/tallyrule/tallyrule/DecimalsSignificantDigitsPinLaw" = some m.cls := findClass_of_methodNamed Bd.named
  have hnm := (name_of_methodNamed Bd.named Bd.method).1
  have hW : ∀ (k : Nat) (d : Jvm.Cond), tables_1[k]? = some d → d.before a0 Z = true := fun k d h => hw d (List.mem_of_getElem? h)
  have X0 : Stand p l e ({ frames := 4, cells := 4, slots := 14, locals := 66 } : Room) (s.setVm s.vm) m #[(.int n), (.int c0), (.int c1), (.int c2), (.int c3), (.int c4)] below meth c s₁ [] 0 0 := Stand.of_body Bd
  have e0 : s₁.heap = h0 := by rw [← hh, Bd.state]; rfl
  have N0 := Fr.nil n0
  obtain ⟨G, hG, K0⟩ : ∃ G : State → Prop, (∀ tq, G tq → Steps p.tables e below (s₁.setTop (entryFrame m #[(.int n), (.int c0), (.int c1), (.int c2), (.int c3), (.int c4)] 6)) tq) ∧ Go p e below s₁ (mkF m 0 #[.val (.int n), .val (.int c0), .val (.int c1), .val (.int c2), .val (.int c3), .val (.int c4)] []) G := ⟨fun tq => Steps p.tables e below (s₁.setTop (entryFrame m #[(.int n), (.int c0), (.int c1), (.int c2), (.int c3), (.int c4)] 6)) tq, fun _ h => h, fun tq kq => castTop (ef_method_7_IIIIII m n c0 c1 c2 c3 c4) kq⟩
  have hS0 := (State.WarmedH.refl s).since 0
  have hEL : EW Z a0 own_EL := own_EW hW
  have CR0 := CHr.refl HC
  have hws : ∀ d ∈ StrChars.Road.words, d.before a0 Z = true := fun d hd => hw d ((by decide +kernel : ∀ d ∈ StrChars.Road.words, d ∈ tables_1) d hd)
  have K124 : Go p e below s₁ (mkF m 1 #[.val (.int n), .val (.int c0), .val (.int c1), .val (.int c2), .val (.int c3), .val (.int c4)] [(.int n)]) G := fun tq kq => K0 tq (XS.iloadN X0.here hx rfl (hb hby d_method_7_0) rfl kq)
  by_cases hc125 : n = (0 : Int32)
  · skip
    have K126 : Go p e below s₁ (mkF m 4 #[.val (.int n), .val (.int c0), .val (.int c1), .val (.int c2), .val (.int c3), .val (.int c4)] []) G := fun tq kq => K124 tq (XS.ifNo X0.here hx rfl (hb hby d_method_7_1) rfl ((if0 _ _).trans (teq hc125).2) kq)
    obtain ⟨T127, h127, X127, e127, E127, A127, D127, -, st127⟩ := newO X0 hx hZ hown (hW 8 _ rfl) (hW 9 _ rfl) (hW 10 _ rfl) e0 (g := (mkF m 4 #[.val (.int n), .val (.int c0), .val (.int c1), .val (.int c2), .val (.int c3), .val (.int c4)] [])) rfl (hb hby d_method_7_4) (by decide) (by decide)
    obtain ⟨b127, g127⟩ : ∃ z, z = h0.size := ⟨_, rfl⟩
    rw [← g127] at A127 D127 st127
    have ge_b127 : n0 ≤ b127 := Nat.le_trans Z0 (Nat.le_of_eq g127.symm)
    have sz_b127 : h0.size ≤ b127 := Nat.le_trans ((Keep.refl h0 [])).1 (Nat.le_of_eq g127.symm)
    have CR128 := CR0.trans (CHr.ext E127 CR0.1)
    have Sf127 := Safe.ext E127 CR0.1 (Safe.new (Nat.le_of_eq g127.symm))
    have F127_coder : Fld Z h127 b127 "java/lang/String" "coder" "B" (.int (0 : Int32)) := D127 (Or.inr (hW 35 _ rfl)) (ty := .byte) (by decide)
    have F127_value : Fld Z h127 b127 "java/lang/String" "value" "[B" .null := D127 (Or.inr (hW 37 _ rfl)) (ty := (.array .byte)) (by decide)
    have K129 : Go p e below T127 (mkF m 7 #[.val (.int n), .val (.int c0), .val (.int c1), .val (.int c2), .val (.int c3), .val (.int c4)] [(.ref b127)]) G := fun tq kq => K126 tq (st127 tq kq)
    have K130 : Go p e below T127 (mkF m 8 #[.val (.int n), .val (.int c0), .val (.int c1), .val (.int c2), .val (.int c3), .val (.int c4)] [(.ref b127), (.ref b127)]) G := fun tq kq => K129 tq (XS.dup X127.here hx rfl (hb hby d_method_7_7) rfl rfl kq)
    have K131 : Go p e below T127 (mkF m 9 #[.val (.int n), .val (.int c0), .val (.int c1), .val (.int c2), .val (.int c3), .val (.int c4)] [(.int (0 : Int32)), (.ref b127), (.ref b127)]) G := fun tq kq => K130 tq (XS.iconst X127.here hx rfl (hb hby d_method_7_8) kq)
    obtain ⟨T132, h132, k132, X132, e132, E132, A132, st132⟩ := newP X127 hx hZ (hW 11 _ rfl) e127 (g := (mkF m 9 #[.val (.int n), .val (.int c0), .val (.int c1), .val (.int c2), .val (.int c3), .val (.int c4)] [(.int (0 : Int32)), (.ref b127), (.ref b127)])) rfl (hb hby d_method_7_9) rfl (by decide) (cap := 0) (by decide) (by decide) (by decide) (by decide)
    obtain ⟨b132, g132⟩ : ∃ z, z = h127.size := ⟨_, rfl⟩
    rw [← g132] at A132 st132
    have ne132_b127 : b127 ≠ b132 := Nat.ne_of_lt (Nat.lt_of_lt_of_le A127.lt (Nat.le_of_eq g132.symm))
    have ge_b132 : n0 ≤ b132 := Nat.le_trans (Nat.le_trans Z0 E127.1) (Nat.le_of_eq g132.symm)
    have sz_b132 : h0.size ≤ b132 := Nat.le_trans (((Keep.refl h0 []).ext E127)).1 (Nat.le_of_eq g132.symm)
    have V132 : Arv Z h132 b132 k132 .char (0 : Int32) [] (.int (0 : Int32)) := (Arv.new A132 (by decide)).pad (pad_rep [] (.int (0 : Int32)) 0)
    have CR133 := CR128.trans (CHr.ext E132 CR128.1)
    have Sf133_b127 := Safe.ext E132 CR128.1 Sf127
    have K134 : Go p e below T132 (mkF m 11 #[.val (.int n), .val (.int c0), .val (.int c1), .val (.int c2), .val (.int c3), .val (.int c4)] [(.ref b132), (.ref b127), (.ref b127)]) G := fun tq kq => K131 tq (st132 tq kq)
    obtain ⟨v135, _, ⟨T135, L135, k135, n135⟩, -, X135, hSa135, hgr135, ⟨Lc135, hQ135, l135, y135, z135, hCR135⟩, st135⟩ := X132.specialBackS hx (y := (⟨"java/lang/String", "<init>", "([C)V"⟩ : MethodName)) rfl hown (mvT hZ (hW 12 _ rfl)) (mvT hZ (hW 13 _ rfl)) (mvT hZ (hW 14 _ rfl)) (by decide) (backOfSH (W := 1) (rmN1 l Z a0 hw [] b127 b132 k132 h132 n0 (Nat.le_trans (Nat.le_trans Z0 E127.1) E132.1) (F127_value.ext E132) (F127_coder.ext E132) (A127.ext E132) ge_b127 V132) hZ (hW 14 _ rfl) (hW 10 _ rfl) (by decide) (by decide) hEL CR133.1) (g := (mkF m 11 #[.val (.int n), .val (.int c0), .val (.int c1), .val (.int c2), .val (.int c3), .val (.int c4)] [(.ref b132), (.ref b127), (.ref b127)])) rfl (by rw [hml]; rfl) (Steps.refl _) (a := b127) (argsL := [(.ref b132)]) (rest := [(.ref b127)]) (lenOf pd_122 rfl) rfl (by show 2 * 0 + _ ≤ _; exact Nat.le_of_eq rfl) (hb hby d_method_7_11) (fun _ _ => ⟨rfl, e132, (by decide : 2 + 2 ≤ _), (by decide : 4 + 4 ≤ _)⟩)
    dsimp only [Pt.U, Pt.locs, Pt.cells, Pt.slots] at X135 l135 y135 z135 st135 hQ135 hSa135 hgr135 hCR135
    subst l135 y135 z135
    obtain ⟨X135, hSb135, hZ, hown⟩ := rebS hS0 (by first | exact (Nat.le_trans (Nat.le_trans (Nat.zero_le _) E127.1) E132.1) | (rw [e132]; exact (Nat.le_trans (Nat.le_trans (Nat.zero_le _) E127.1) E132.1))) X135 hSa135 hgr135 hZ hown
    have CR136 := CR133.trans (hCR135)
    have Sf136_b127 := CHr.safe (hCR135) (A127.ext E132).lt Sf133_b127
    obtain ⟨rfl, N135q, K135q, E135q, FC135q, t135, kb135, net135, FV135q, VB135q⟩ := hQ135
    have N135 := Fr.app N0 N135q
    have K137 : Go p e below T135 (mkF m 14 #[.val (.int n), .val (.int c0), .val (.int c1), .val (.int c2), .val (.int c3), .val (.int c4)] [(.ref b127)]) G := fun tq kq => K134 tq (st135.trans kq)
    obtain ⟨fs, hr, hrun, hended, hRE⟩ := X135.leaveW (s := s) hSb135 (by first | exact (Nat.le_refl _) | (rw [rfl]; exact (Nat.le_refl _))) (v := some (.ref b127)) (fun h => by rw [Bd.returns] at h; cases h)
    have CRe := CR136.trans (CHv.at X135 hZ hEL CR136.1)
    refine ⟨_, _, hG _ (K137 _ (retOut X135 hx Bd.returns rfl (Or.inr (Or.inr (Or.inr (Or.inr ⟨rfl, rfl, rfl⟩)))) (hb hby d_method_7_14) hr)), hrun, hended, _, _, rfl, ?_, (by show CHr Z own_EL s.vm s.heap T135.vm T135.heap; rw [hh]; exact CRe), hRE.1, hRE.2.1, hRE.2.2.1, hRE.2.2.2.mono (by decide) (by decide)⟩
    show QTX Z n c0 c1 c2 c3 c4 cz h0 n0 _ T135.heap _
    exact ⟨b127, t135, kb135, _, _, rfl, N135, ((((Keep.refl h0 []).ext E127).ext E132).trans K135q (allS (Or.inr sz_b127) all0)), E135q, FV135q, FC135q, VB135q, by rw [own_tx]; simp only [hc125, if_true, if_false]; exact StrChars.Road.codOf (cs := ([] : List Int32)) rfl (by simp)⟩
  · skip
    have K138 : Go p e below s₁ (mkF m 15 #[.val (.int n), .val (.int c0), .val (.int c1), .val (.int c2), .val (.int c3), .val (.int c4)] []) G := fun tq kq => K124 tq (XS.ifYes X0.here hx rfl (pc0 := 1) (pc' := 15) rfl (hb hby d_method_7_1) rfl ((if0 _ _).trans (feq hc125).2) (by decide) (by decide) kq)
    have K139 : Go p e below s₁ (mkF m 16 #[.val (.int n), .val (.int c0), .val (.int c1), .val (.int c2), .val (.int c3), .val (.int c4)] [(.int n)]) G := fun tq kq => K138 tq (XS.iloadN X0.here hx rfl (hb hby d_method_7_15) rfl kq)
    have K140 : Go p e below s₁ (mkF m 17 #[.val (.int n), .val (.int c0), .val (.int c1), .val (.int c2), .val (.int c3), .val (.int c4)] [(.int (1 : Int32)), (.int n)]) G := fun tq kq => K139 tq (XS.iconst X0.here hx rfl (hb hby d_method_7_16) kq)
    by_cases hc141 : n = (1 : Int32)
    · skip
      have K142 : Go p e below s₁ (mkF m 20 #[.val (.int n), .val (.int c0), .val (.int c1), .val (.int c2), .val (.int c3), .val (.int c4)] []) G := fun tq kq => K140 tq (XS.icmpNo X0.here hx rfl (hb hby d_method_7_17) rfl ((teq hc141).2) kq)
      obtain ⟨T143, h143, X143, e143, E143, A143, D143, -, st143⟩ := newO X0 hx hZ hown (hW 8 _ rfl) (hW 9 _ rfl) (hW 10 _ rfl) e0 (g := (mkF m 20 #[.val (.int n), .val (.int c0), .val (.int c1), .val (.int c2), .val (.int c3), .val (.int c4)] [])) rfl (hb hby d_method_7_20) (by decide) (by decide)
      obtain ⟨b143, g143⟩ : ∃ z, z = h0.size := ⟨_, rfl⟩
      rw [← g143] at A143 D143 st143
      have ge_b143 : n0 ≤ b143 := Nat.le_trans Z0 (Nat.le_of_eq g143.symm)
      have sz_b143 : h0.size ≤ b143 := Nat.le_trans ((Keep.refl h0 [])).1 (Nat.le_of_eq g143.symm)
      have CR144 := CR0.trans (CHr.ext E143 CR0.1)
      have Sf143 := Safe.ext E143 CR0.1 (Safe.new (Nat.le_of_eq g143.symm))
      have F143_coder : Fld Z h143 b143 "java/lang/String" "coder" "B" (.int (0 : Int32)) := D143 (Or.inr (hW 35 _ rfl)) (ty := .byte) (by decide)
      have F143_value : Fld Z h143 b143 "java/lang/String" "value" "[B" .null := D143 (Or.inr (hW 37 _ rfl)) (ty := (.array .byte)) (by decide)
      have K145 : Go p e below T143 (mkF m 23 #[.val (.int n), .val (.int c0), .val (.int c1), .val (.int c2), .val (.int c3), .val (.int c4)] [(.ref b143)]) G := fun tq kq => K142 tq (st143 tq kq)
      have K146 : Go p e below T143 (mkF m 24 #[.val (.int n), .val (.int c0), .val (.int c1), .val (.int c2), .val (.int c3), .val (.int c4)] [(.ref b143), (.ref b143)]) G := fun tq kq => K145 tq (XS.dup X143.here hx rfl (hb hby d_method_7_23) rfl rfl kq)
      have K147 : Go p e below T143 (mkF m 25 #[.val (.int n), .val (.int c0), .val (.int c1), .val (.int c2), .val (.int c3), .val (.int c4)] [(.int (1 : Int32)), (.ref b143), (.ref b143)]) G := fun tq kq => K146 tq (XS.iconst X143.here hx rfl (hb hby d_method_7_24) kq)
      obtain ⟨T148, h148, k148, X148, e148, E148, A148, st148⟩ := newP X143 hx hZ (hW 11 _ rfl) e143 (g := (mkF m 25 #[.val (.int n), .val (.int c0), .val (.int c1), .val (.int c2), .val (.int c3), .val (.int c4)] [(.int (1 : Int32)), (.ref b143), (.ref b143)])) rfl (hb hby d_method_7_25) rfl (by decide) (cap := 1) (by decide) (by decide) (by decide) (by decide)
      obtain ⟨b148, g148⟩ : ∃ z, z = h143.size := ⟨_, rfl⟩
      rw [← g148] at A148 st148
      have ne148_b143 : b143 ≠ b148 := Nat.ne_of_lt (Nat.lt_of_lt_of_le A143.lt (Nat.le_of_eq g148.symm))
      have ge_b148 : n0 ≤ b148 := Nat.le_trans (Nat.le_trans Z0 E143.1) (Nat.le_of_eq g148.symm)
      have sz_b148 : h0.size ≤ b148 := Nat.le_trans (((Keep.refl h0 []).ext E143)).1 (Nat.le_of_eq g148.symm)
      have V148 : Arv Z h148 b148 k148 .char (1 : Int32) [(.int (0 : Int32))] (.int (0 : Int32)) := (Arv.new A148 (by decide)).pad (pad_rep [] (.int (0 : Int32)) 1)
      have CR149 := CR144.trans (CHr.ext E148 CR144.1)
      have Sf149_b143 := Safe.ext E148 CR144.1 Sf143
      have K150 : Go p e below T148 (mkF m 27 #[.val (.int n), .val (.int c0), .val (.int c1), .val (.int c2), .val (.int c3), .val (.int c4)] [(.ref b148), (.ref b143), (.ref b143)]) G := fun tq kq => K147 tq (st148 tq kq)
      have K151 : Go p e below T148 (mkF m 28 #[.val (.int n), .val (.int c0), .val (.int c1), .val (.int c2), .val (.int c3), .val (.int c4)] [(.ref b148), (.ref b148), (.ref b143), (.ref b143)]) G := fun tq kq => K150 tq (XS.dup X148.here hx rfl (hb hby d_method_7_27) rfl rfl kq)
      have K152 : Go p e below T148 (mkF m 29 #[.val (.int n), .val (.int c0), .val (.int c1), .val (.int c2), .val (.int c3), .val (.int c4)] [(.int (0 : Int32)), (.ref b148), (.ref b148), (.ref b143), (.ref b143)]) G := fun tq kq => K151 tq (XS.iconst X148.here hx rfl (hb hby d_method_7_28) kq)
      have K153 : Go p e below T148 (mkF m 30 #[.val (.int n), .val (.int c0), .val (.int c1), .val (.int c2), .val (.int c3), .val (.int c4)] [(.int c0), (.int (0 : Int32)), (.ref b148), (.ref b148), (.ref b143), (.ref b143)]) G := fun tq kq => K152 tq (XS.iloadN X148.here hx rfl (hb hby d_method_7_29) rfl kq)
      obtain ⟨cl154, Ar154, q154, S154, Nn154, Hh154, Gg154⟩ := id V148
      have hin154 : ¬ ((0 : Int32) < 0 ∨ cl154.slots.size ≤ ((0 : Int32)).toNatClampNeg) := inb_of S154 ⟨by decide, by decide⟩
      obtain ⟨T154, h154, X154, e154, W154, st154⟩ := stC X148 hx hZ e148 Ar154 (j := (0 : Int32)) hin154 (g := (mkF m 30 #[.val (.int n), .val (.int c0), .val (.int c1), .val (.int c2), .val (.int c3), .val (.int c4)] [(.int c0), (.int (0 : Int32)), (.ref b148), (.ref b148), (.ref b143), (.ref b143)])) rfl rfl (hb hby d_method_7_30)
      rw [R_c0.2] at W154
      have V154 : Arv Z h154 b148 k148 .char (1 : Int32) [(.int c0)] (.int (0 : Int32)) := Arv.set Ar154 q154 S154 Nn154 Hh154 Gg154 (by rw [← R_c0.2]; exact fits_nar_char _) W154 0 rfl (Nat.le_of_ble_eq_true rfl)
      have N154 := Fr.snoc X154 N0 ge_b148
      have CR155 := CR149.trans (CHr.wr W154 (Safe.arv hZ.alike V148 (by decide)) CR149.1)
      have Sf155_b143 := Safe.wr W154 (Safe.arv hZ.alike V148 (by decide)) CR149.1 Sf149_b143
      have K156 : Go p e below T154 (mkF m 31 #[.val (.int n), .val (.int c0), .val (.int c1), .val (.int c2), .val (.int c3), .val (.int c4)] [(.ref b148), (.ref b143), (.ref b143)]) G := fun tq kq => K153 tq (st154 tq kq)
      have hp157 : ∀ c ∈ ([c0] : List Int32), ¬ c < 0 ∧ ¬ (255 : Int32) < c := by
        intro c hc
        simp only [List.mem_cons, List.not_mem_nil, or_false] at hc
        rcases hc with rfl
        · exact R_c0.1
      obtain ⟨v158, _, ⟨T158, L158, k158, n158⟩, -, X158, ⟨Lc158, hQ158, l158, y158, z158⟩, st158⟩ := X154.specialBack hx (y := (⟨"java/lang/String", "<init>", "([C)V"⟩ : MethodName)) rfl hown (mvT hZ (hW 12 _ rfl)) (mvT hZ (hW 13 _ rfl)) (mvT hZ (hW 14 _ rfl)) (by decide) (StrChars.Road.backV (W := 1) hZ hws (kI := 4) (hW 9 _ rfl) (cs := ([c0] : List Int32)) (bs := (([c0] : List Int32)).map (fun c => c.toInt8.toInt32)) (n := 1) ge_b143 (Nat.le_trans (Nat.le_trans (Nat.le_trans Z0 E143.1) E148.1) (Keep.of_wr W154).1) ((A143.ext E148).wr W154) ((F143_value.ext E148).other W154 (Or.inl ne148_b143)) ((F143_coder.ext E148).other W154 (Or.inl ne148_b143)) V154 (S_cs.ext (((O0.ext E143).ext E148).wr W154 ge_b148).2) hcz rfl rfl (by decide) (by decide) hp157 rfl (by decide) (by decide)) (g := (mkF m 31 #[.val (.int n), .val (.int c0), .val (.int c1), .val (.int c2), .val (.int c3), .val (.int c4)] [(.ref b148), (.ref b143), (.ref b143)])) rfl (by rw [hml]; rfl) (Steps.refl _) (a := b143) (argsL := [(.ref b148)]) (rest := [(.ref b143)]) (lenOf pd_122 rfl) rfl (by show 2 * 0 + _ ≤ _; exact Nat.le_of_eq rfl) (hb hby d_method_7_31) (fun _ _ => ⟨rfl, e154, (by decide : 2 + 1 ≤ _), (by decide : 5 + 1 ≤ _)⟩)
      dsimp only [Pt.U, Pt.locs, Pt.cells, Pt.slots] at X158 l158 y158 z158 st158 hQ158
      subst l158 y158 z158
      obtain ⟨rfl, N158q, K158q, E158q, FC158q, t158, kb158, get158, szt158, net158, FV158q, VB158q⟩ := hQ158
      have N158 := Fr.app N154 N158q
      have CR159 := CR155.trans (CHr.keep K158q (sfS Sf155_b143 sf0) CR155.1)
      have Sf159_b143 := Safe.keep K158q (sfS Sf155_b143 sf0) CR155.1 Sf155_b143
      have K160 : Go p e below T158 (mkF m 34 #[.val (.int n), .val (.int c0), .val (.int c1), .val (.int c2), .val (.int c3), .val (.int c4)] [(.ref b143)]) G := fun tq kq => K156 tq (st158.trans kq)
      obtain ⟨fs, hr, hrun, hended, hRE⟩ := X158.leaveW (s := s) hS0 (by first | exact (Nat.le_trans (Nat.le_trans (Nat.le_trans (Nat.le_trans (Nat.zero_le _) E143.1) E148.1) (Keep.of_wr W154).1) K158q.1) | (rw [rfl]; exact (Nat.le_trans (Nat.le_trans (Nat.le_trans (Nat.le_trans (Nat.zero_le _) E143.1) E148.1) (Keep.of_wr W154).1) K158q.1))) (v := some (.ref b143)) (fun h => by rw [Bd.returns] at h; cases h)
      have CRe := CR159.trans (CHv.at X158 hZ hEL CR159.1)
      refine ⟨_, _, hG _ (K160 _ (retOut X158 hx Bd.returns rfl (Or.inr (Or.inr (Or.inr (Or.inr ⟨rfl, rfl, rfl⟩)))) (hb hby d_method_7_34) hr)), hrun, hended, _, _, rfl, ?_, (by show CHr Z own_EL s.vm s.heap T158.vm T158.heap; rw [hh]; exact CRe), hRE.1, hRE.2.1, hRE.2.2.1, hRE.2.2.2.mono (by decide) (by decide)⟩
      show QTX Z n c0 c1 c2 c3 c4 cz h0 n0 _ T158.heap _
      exact ⟨b143, t158, kb158, _, _, rfl, N158, (((((Keep.refl h0 []).ext E143).ext E148).wr W154 (Or.inr sz_b148)).trans K158q (allS (Or.inr sz_b143) all0)), E158q, FV158q, FC158q, VB158q, by rw [own_tx]; simp only [hc125, hc141, if_true, if_false]; exact StrChars.Road.codOf (cs := ([c0] : List Int32)) rfl (fun c hc => (hp157 c hc).2)⟩
    · skip
      have K161 : Go p e below s₁ (mkF m 35 #[.val (.int n), .val (.int c0), .val (.int c1), .val (.int c2), .val (.int c3), .val (.int c4)] []) G := fun tq kq => K140 tq (XS.icmpYes X0.here hx rfl (pc0 := 17) (pc' := 35) rfl (hb hby d_method_7_17) rfl ((feq hc141).2) (by decide) (by decide) kq)
      have K162 : Go p e below s₁ (mkF m 36 #[.val (.int n), .val (.int c0), .val (.int c1), .val (.int c2), .val (.int c3), .val (.int c4)] [(.int n)]) G := fun tq kq => K161 tq (XS.iloadN X0.here hx rfl (hb hby d_method_7_35) rfl kq)
      have K163 : Go p e below s₁ (mkF m 37 #[.val (.int n), .val (.int c0), .val (.int c1), .val (.int c2), .val (.int c3), .val (.int c4)] [(.int (2 : Int32)), (.int n)]) G := fun tq kq => K162 tq (XS.iconst X0.here hx rfl (hb hby d_method_7_36) kq)
      by_cases hc164 : n = (2 : Int32)
      · skip
        have K165 : Go p e below s₁ (mkF m 40 #[.val (.int n), .val (.int c0), .val (.int c1), .val (.int c2), .val (.int c3), .val (.int c4)] []) G := fun tq kq => K163 tq (XS.icmpNo X0.here hx rfl (hb hby d_method_7_37) rfl ((teq hc164).2) kq)
        obtain ⟨T166, h166, X166, e166, E166, A166, D166, -, st166⟩ := newO X0 hx hZ hown (hW 8 _ rfl) (hW 9 _ rfl) (hW 10 _ rfl) e0 (g := (mkF m 40 #[.val (.int n), .val (.int c0), .val (.int c1), .val (.int c2), .val (.int c3), .val (.int c4)] [])) rfl (hb hby d_method_7_40) (by decide) (by decide)
        obtain ⟨b166, g166⟩ : ∃ z, z = h0.size := ⟨_, rfl⟩
        rw [← g166] at A166 D166 st166
        have ge_b166 : n0 ≤ b166 := Nat.le_trans Z0 (Nat.le_of_eq g166.symm)
        have sz_b166 : h0.size ≤ b166 := Nat.le_trans ((Keep.refl h0 [])).1 (Nat.le_of_eq g166.symm)
        have CR167 := CR0.trans (CHr.ext E166 CR0.1)
        have Sf166 := Safe.ext E166 CR0.1 (Safe.new (Nat.le_of_eq g166.symm))
        have F166_coder : Fld Z h166 b166 "java/lang/String" "coder" "B" (.int (0 : Int32)) := D166 (Or.inr (hW 35 _ rfl)) (ty := .byte) (by decide)
        have F166_value : Fld Z h166 b166 "java/lang/String" "value" "[B" .null := D166 (Or.inr (hW 37 _ rfl)) (ty := (.array .byte)) (by decide)
        have K168 : Go p e below T166 (mkF m 43 #[.val (.int n), .val (.int c0), .val (.int c1), .val (.int c2), .val (.int c3), .val (.int c4)] [(.ref b166)]) G := fun tq kq => K165 tq (st166 tq kq)
        have K169 : Go p e below T166 (mkF m 44 #[.val (.int n), .val (.int c0), .val (.int c1), .val (.int c2), .val (.int c3), .val (.int c4)] [(.ref b166), (.ref b166)]) G := fun tq kq => K168 tq (XS.dup X166.here hx rfl (hb hby d_method_7_43) rfl rfl kq)
        have K170 : Go p e below T166 (mkF m 45 #[.val (.int n), .val (.int c0), .val (.int c1), .val (.int c2), .val (.int c3), .val (.int c4)] [(.int (2 : Int32)), (.ref b166), (.ref b166)]) G := fun tq kq => K169 tq (XS.iconst X166.here hx rfl (hb hby d_method_7_44) kq)
        obtain ⟨T171, h171, k171, X171, e171, E171, A171, st171⟩ := newP X166 hx hZ (hW 11 _ rfl) e166 (g := (mkF m 45 #[.val (.int n), .val (.int c0), .val (.int c1), .val (.int c2), .val (.int c3), .val (.int c4)] [(.int (2 : Int32)), (.ref b166), (.ref b166)])) rfl (hb hby d_method_7_45) rfl (by decide) (cap := 2) (by decide) (by decide) (by decide) (by decide)
        obtain ⟨b171, g171⟩ : ∃ z, z = h166.size := ⟨_, rfl⟩
        rw [← g171] at A171 st171
        have ne171_b166 : b166 ≠ b171 := Nat.ne_of_lt (Nat.lt_of_lt_of_le A166.lt (Nat.le_of_eq g171.symm))
        have ge_b171 : n0 ≤ b171 := Nat.le_trans (Nat.le_trans Z0 E166.1) (Nat.le_of_eq g171.symm)
        have sz_b171 : h0.size ≤ b171 := Nat.le_trans (((Keep.refl h0 []).ext E166)).1 (Nat.le_of_eq g171.symm)
        have V171 : Arv Z h171 b171 k171 .char (2 : Int32) [(.int (0 : Int32)), (.int (0 : Int32))] (.int (0 : Int32)) := (Arv.new A171 (by decide)).pad (pad_rep [] (.int (0 : Int32)) 2)
        have CR172 := CR167.trans (CHr.ext E171 CR167.1)
        have Sf172_b166 := Safe.ext E171 CR167.1 Sf166
        have K173 : Go p e below T171 (mkF m 47 #[.val (.int n), .val (.int c0), .val (.int c1), .val (.int c2), .val (.int c3), .val (.int c4)] [(.ref b171), (.ref b166), (.ref b166)]) G := fun tq kq => K170 tq (st171 tq kq)
        have K174 : Go p e below T171 (mkF m 48 #[.val (.int n), .val (.int c0), .val (.int c1), .val (.int c2), .val (.int c3), .val (.int c4)] [(.ref b171), (.ref b171), (.ref b166), (.ref b166)]) G := fun tq kq => K173 tq (XS.dup X171.here hx rfl (hb hby d_method_7_47) rfl rfl kq)
        have K175 : Go p e below T171 (mkF m 49 #[.val (.int n), .val (.int c0), .val (.int c1), .val (.int c2), .val (.int c3), .val (.int c4)] [(.int (0 : Int32)), (.ref b171), (.ref b171), (.ref b166), (.ref b166)]) G := fun tq kq => K174 tq (XS.iconst X171.here hx rfl (hb hby d_method_7_48) kq)
        have K176 : Go p e below T171 (mkF m 50 #[.val (.int n), .val (.int c0), .val (.int c1), .val (.int c2), .val (.int c3), .val (.int c4)] [(.int c0), (.int (0 : Int32)), (.ref b171), (.ref b171), (.ref b166), (.ref b166)]) G := fun tq kq => K175 tq (XS.iloadN X171.here hx rfl (hb hby d_method_7_49) rfl kq)
        obtain ⟨cl177, Ar177, q177, S177, Nn177, Hh177, Gg177⟩ := id V171
        have hin177 : ¬ ((0 : Int32) < 0 ∨ cl177.slots.size ≤ ((0 : Int32)).toNatClampNeg) := inb_of S177 ⟨by decide, by decide⟩
        obtain ⟨T177, h177, X177, e177, W177, st177⟩ := stC X171 hx hZ e171 Ar177 (j := (0 : Int32)) hin177 (g := (mkF m 50 #[.val (.int n), .val (.int c0), .val (.int c1), .val (.int c2), .val (.int c3), .val (.int c4)] [(.int c0), (.int (0 : Int32)), (.ref b171), (.ref b171), (.ref b166), (.ref b166)])) rfl rfl (hb hby d_method_7_50)
        rw [R_c0.2] at W177
        have V177 : Arv Z h177 b171 k171 .char (2 : Int32) [(.int c0), (.int (0 : Int32))] (.int (0 : Int32)) := Arv.set Ar177 q177 S177 Nn177 Hh177 Gg177 (by rw [← R_c0.2]; exact fits_nar_char _) W177 0 rfl (Nat.le_of_ble_eq_true rfl)
        have N177 := Fr.snoc X177 N0 ge_b171
        have CR178 := CR172.trans (CHr.wr W177 (Safe.arv hZ.alike V171 (by decide)) CR172.1)
        have Sf178_b166 := Safe.wr W177 (Safe.arv hZ.alike V171 (by decide)) CR172.1 Sf172_b166
        have K179 : Go p e below T177 (mkF m 51 #[.val (.int n), .val (.int c0), .val (.int c1), .val (.int c2), .val (.int c3), .val (.int c4)] [(.ref b171), (.ref b166), (.ref b166)]) G := fun tq kq => K176 tq (st177 tq kq)
        have K180 : Go p e below T177 (mkF m 52 #[.val (.int n), .val (.int c0), .val (.int c1), .val (.int c2), .val (.int c3), .val (.int c4)] [(.ref b171), (.ref b171), (.ref b166), (.ref b166)]) G := fun tq kq => K179 tq (XS.dup X177.here hx rfl (hb hby d_method_7_51) rfl rfl kq)
        have K181 : Go p e below T177 (mkF m 53 #[.val (.int n), .val (.int c0), .val (.int c1), .val (.int c2), .val (.int c3), .val (.int c4)] [(.int (1 : Int32)), (.ref b171), (.ref b171), (.ref b166), (.ref b166)]) G := fun tq kq => K180 tq (XS.iconst X177.here hx rfl (hb hby d_method_7_52) kq)
        have K182 : Go p e below T177 (mkF m 54 #[.val (.int n), .val (.int c0), .val (.int c1), .val (.int c2), .val (.int c3), .val (.int c4)] [(.int c1), (.int (1 : Int32)), (.ref b171), (.ref b171), (.ref b166), (.ref b166)]) G := fun tq kq => K181 tq (XS.iloadN X177.here hx rfl (hb hby d_method_7_53) rfl kq)
        obtain ⟨cl183, Ar183, q183, S183, Nn183, Hh183, Gg183⟩ := id V177
        have hin183 : ¬ ((1 : Int32) < 0 ∨ cl183.slots.size ≤ ((1 : Int32)).toNatClampNeg) := inb_of S183 ⟨by decide, by decide⟩
        obtain ⟨T183, h183, X183, e183, W183, st183⟩ := stC X177 hx hZ e177 Ar183 (j := (1 : Int32)) hin183 (g := (mkF m 54 #[.val (.int n), .val (.int c0), .val (.int c1), .val (.int c2), .val (.int c3), .val (.int c4)] [(.int c1), (.int (1 : Int32)), (.ref b171), (.ref b171), (.ref b166), (.ref b166)])) rfl rfl (hb hby d_method_7_54)
        rw [R_c1.2] at W183
        have V183 : Arv Z h183 b171 k171 .char (2 : Int32) [(.int c0), (.int c1)] (.int (0 : Int32)) := Arv.set Ar183 q183 S183 Nn183 Hh183 Gg183 (by rw [← R_c1.2]; exact fits_nar_char _) W183 1 rfl (Nat.le_of_ble_eq_true rfl)
        have N183 := Fr.snoc X183 N177 ge_b171
        have CR184 := CR178.trans (CHr.wr W183 (Safe.arv hZ.alike V177 (by decide)) CR178.1)
        have Sf184_b166 := Safe.wr W183 (Safe.arv hZ.alike V177 (by decide)) CR178.1 Sf178_b166
        have K185 : Go p e below T183 (mkF m 55 #[.val (.int n), .val (.int c0), .val (.int c1), .val (.int c2), .val (.int c3), .val (.int c4)] [(.ref b171), (.ref b166), (.ref b166)]) G := fun tq kq => K182 tq (st183 tq kq)
        have hp186 : ∀ c ∈ ([c0, c1] : List Int32), ¬ c < 0 ∧ ¬ (255 : Int32) < c := by
          intro c hc
          simp only [List.mem_cons, List.not_mem_nil, or_false] at hc
          rcases hc with rfl | rfl
          · exact R_c0.1
          · exact R_c1.1
        obtain ⟨v187, _, ⟨T187, L187, k187, n187⟩, -, X187, ⟨Lc187, hQ187, l187, y187, z187⟩, st187⟩ := X183.specialBack hx (y := (⟨"java/lang/String", "<init>", "([C)V"⟩ : MethodName)) rfl hown (mvT hZ (hW 12 _ rfl)) (mvT hZ (hW 13 _ rfl)) (mvT hZ (hW 14 _ rfl)) (by decide) (StrChars.Road.backV (W := 1) hZ hws (kI := 4) (hW 9 _ rfl) (cs := ([c0, c1] : List Int32)) (bs := (([c0, c1] : List Int32)).map (fun c => c.toInt8.toInt32)) (n := 2) ge_b166 (Nat.le_trans (Nat.le_trans (Nat.le_trans (Nat.le_trans Z0 E166.1) E171.1) (Keep.of_wr W177).1) (Keep.of_wr W183).1) (((A166.ext E171).wr W177).wr W183) (((F166_value.ext E171).other W177 (Or.inl ne171_b166)).other W183 (Or.inl ne171_b166)) (((F166_coder.ext E171).other W177 (Or.inl ne171_b166)).other W183 (Or.inl ne171_b166)) V183 (S_cs.ext ((((O0.ext E166).ext E171).wr W177 ge_b171).wr W183 ge_b171).2) hcz rfl rfl (by decide) (by decide) hp186 rfl (by decide) (by decide)) (g := (mkF m 55 #[.val (.int n), .val (.int c0), .val (.int c1), .val (.int c2), .val (.int c3), .val (.int c4)] [(.ref b171), (.ref b166), (.ref b166)])) rfl (by rw [hml]; rfl) (Steps.refl _) (a := b166) (argsL := [(.ref b171)]) (rest := [(.ref b166)]) (lenOf pd_122 rfl) rfl (by show 2 * 0 + _ ≤ _; exact Nat.le_of_eq rfl) (hb hby d_method_7_55) (fun _ _ => ⟨rfl, e183, (by decide : 2 + 1 ≤ _), (by decide : 6 + 2 ≤ _)⟩)
        dsimp only [Pt.U, Pt.locs, Pt.cells, Pt.slots] at X187 l187 y187 z187 st187 hQ187
        subst l187 y187 z187
        obtain ⟨rfl, N187q, K187q, E187q, FC187q, t187, kb187, get187, szt187, net187, FV187q, VB187q⟩ := hQ187
        have N187 := Fr.app N183 N187q
        have CR188 := CR184.trans (CHr.keep K187q (sfS Sf184_b166 sf0) CR184.1)
        have Sf188_b166 := Safe.keep K187q (sfS Sf184_b166 sf0) CR184.1 Sf184_b166
        have K189 : Go p e below T187 (mkF m 58 #[.val (.int n), .val (.int c0), .val (.int c1), .val (.int c2), .val (.int c3), .val (.int c4)] [(.ref b166)]) G := fun tq kq => K185 tq (st187.trans kq)
        obtain ⟨fs, hr, hrun, hended, hRE⟩ := X187.leaveW (s := s) hS0 (by first | exact (Nat.le_trans (Nat.le_trans (Nat.le_trans (Nat.le_trans (Nat.le_trans (Nat.zero_le _) E166.1) E171.1) (Keep.of_wr W177).1) (Keep.of_wr W183).1) K187q.1) | (rw [rfl]; exact (Nat.le_trans (Nat.le_trans (Nat.le_trans (Nat.le_trans (Nat.le_trans (Nat.zero_le _) E166.1) E171.1) (Keep.of_wr W177).1) (Keep.of_wr W183).1) K187q.1))) (v := some (.ref b166)) (fun h => by rw [Bd.returns] at h; cases h)
        have CRe := CR188.trans (CHv.at X187 hZ hEL CR188.1)
        refine ⟨_, _, hG _ (K189 _ (retOut X187 hx Bd.returns rfl (Or.inr (Or.inr (Or.inr (Or.inr ⟨rfl, rfl, rfl⟩)))) (hb hby d_method_7_58) hr)), hrun, hended, _, _, rfl, ?_, (by show CHr Z own_EL s.vm s.heap T187.vm T187.heap; rw [hh]; exact CRe), hRE.1, hRE.2.1, hRE.2.2.1, hRE.2.2.2.mono (by decide) (by decide)⟩
        show QTX Z n c0 c1 c2 c3 c4 cz h0 n0 _ T187.heap _
        exact ⟨b166, t187, kb187, _, _, rfl, N187, ((((((Keep.refl h0 []).ext E166).ext E171).wr W177 (Or.inr sz_b171)).wr W183 (Or.inr sz_b171)).trans K187q (allS (Or.inr sz_b166) all0)), E187q, FV187q, FC187q, VB187q, by rw [own_tx]; simp only [hc125, hc141, hc164, if_true, if_false]; exact StrChars.Road.codOf (cs := ([c0, c1] : List Int32)) rfl (fun c hc => (hp186 c hc).2)⟩
      · skip
        have K190 : Go p e below s₁ (mkF m 59 #[.val (.int n), .val (.int c0), .val (.int c1), .val (.int c2), .val (.int c3), .val (.int c4)] []) G := fun tq kq => K163 tq (XS.icmpYes X0.here hx rfl (pc0 := 37) (pc' := 59) rfl (hb hby d_method_7_37) rfl ((feq hc164).2) (by decide) (by decide) kq)
        have K191 : Go p e below s₁ (mkF m 60 #[.val (.int n), .val (.int c0), .val (.int c1), .val (.int c2), .val (.int c3), .val (.int c4)] [(.int n)]) G := fun tq kq => K190 tq (XS.iloadN X0.here hx rfl (hb hby d_method_7_59) rfl kq)
        have K192 : Go p e below s₁ (mkF m 61 #[.val (.int n), .val (.int c0), .val (.int c1), .val (.int c2), .val (.int c3), .val (.int c4)] [(.int (3 : Int32)), (.int n)]) G := fun tq kq => K191 tq (XS.iconst X0.here hx rfl (hb hby d_method_7_60) kq)
        by_cases hc193 : n = (3 : Int32)
        · skip
          have K194 : Go p e below s₁ (mkF m 64 #[.val (.int n), .val (.int c0), .val (.int c1), .val (.int c2), .val (.int c3), .val (.int c4)] []) G := fun tq kq => K192 tq (XS.icmpNo X0.here hx rfl (hb hby d_method_7_61) rfl ((teq hc193).2) kq)
          obtain ⟨T195, h195, X195, e195, E195, A195, D195, -, st195⟩ := newO X0 hx hZ hown (hW 8 _ rfl) (hW 9 _ rfl) (hW 10 _ rfl) e0 (g := (mkF m 64 #[.val (.int n), .val (.int c0), .val (.int c1), .val (.int c2), .val (.int c3), .val (.int c4)] [])) rfl (hb hby d_method_7_64) (by decide) (by decide)
          obtain ⟨b195, g195⟩ : ∃ z, z = h0.size := ⟨_, rfl⟩
          rw [← g195] at A195 D195 st195
          have ge_b195 : n0 ≤ b195 := Nat.le_trans Z0 (Nat.le_of_eq g195.symm)
          have sz_b195 : h0.size ≤ b195 := Nat.le_trans ((Keep.refl h0 [])).1 (Nat.le_of_eq g195.symm)
          have CR196 := CR0.trans (CHr.ext E195 CR0.1)
          have Sf195 := Safe.ext E195 CR0.1 (Safe.new (Nat.le_of_eq g195.symm))
          have F195_coder : Fld Z h195 b195 "java/lang/String" "coder" "B" (.int (0 : Int32)) := D195 (Or.inr (hW 35 _ rfl)) (ty := .byte) (by decide)
          have F195_value : Fld Z h195 b195 "java/lang/String" "value" "[B" .null := D195 (Or.inr (hW 37 _ rfl)) (ty := (.array .byte)) (by decide)
          have K197 : Go p e below T195 (mkF m 67 #[.val (.int n), .val (.int c0), .val (.int c1), .val (.int c2), .val (.int c3), .val (.int c4)] [(.ref b195)]) G := fun tq kq => K194 tq (st195 tq kq)
          have K198 : Go p e below T195 (mkF m 68 #[.val (.int n), .val (.int c0), .val (.int c1), .val (.int c2), .val (.int c3), .val (.int c4)] [(.ref b195), (.ref b195)]) G := fun tq kq => K197 tq (XS.dup X195.here hx rfl (hb hby d_method_7_67) rfl rfl kq)
          have K199 : Go p e below T195 (mkF m 69 #[.val (.int n), .val (.int c0), .val (.int c1), .val (.int c2), .val (.int c3), .val (.int c4)] [(.int (3 : Int32)), (.ref b195), (.ref b195)]) G := fun tq kq => K198 tq (XS.iconst X195.here hx rfl (hb hby d_method_7_68) kq)
          obtain ⟨T200, h200, k200, X200, e200, E200, A200, st200⟩ := newP X195 hx hZ (hW 11 _ rfl) e195 (g := (mkF m 69 #[.val (.int n), .val (.int c0), .val (.int c1), .val (.int c2), .val (.int c3), .val (.int c4)] [(.int (3 : Int32)), (.ref b195), (.ref b195)])) rfl (hb hby d_method_7_69) rfl (by decide) (cap := 3) (by decide) (by decide) (by decide) (by decide)
          obtain ⟨b200, g200⟩ : ∃ z, z = h195.size := ⟨_, rfl⟩
          rw [← g200] at A200 st200
          have ne200_b195 : b195 ≠ b200 := Nat.ne_of_lt (Nat.lt_of_lt_of_le A195.lt (Nat.le_of_eq g200.symm))
          have ge_b200 : n0 ≤ b200 := Nat.le_trans (Nat.le_trans Z0 E195.1) (Nat.le_of_eq g200.symm)
          have sz_b200 : h0.size ≤ b200 := Nat.le_trans (((Keep.refl h0 []).ext E195)).1 (Nat.le_of_eq g200.symm)
          have V200 : Arv Z h200 b200 k200 .char (3 : Int32) [(.int (0 : Int32)), (.int (0 : Int32)), (.int (0 : Int32))] (.int (0 : Int32)) := (Arv.new A200 (by decide)).pad (pad_rep [] (.int (0 : Int32)) 3)
          have CR201 := CR196.trans (CHr.ext E200 CR196.1)
          have Sf201_b195 := Safe.ext E200 CR196.1 Sf195
          have K202 : Go p e below T200 (mkF m 71 #[.val (.int n), .val (.int c0), .val (.int c1), .val (.int c2), .val (.int c3), .val (.int c4)] [(.ref b200), (.ref b195), (.ref b195)]) G := fun tq kq => K199 tq (st200 tq kq)
          have K203 : Go p e below T200 (mkF m 72 #[.val (.int n), .val (.int c0), .val (.int c1), .val (.int c2), .val (.int c3), .val (.int c4)] [(.ref b200), (.ref b200), (.ref b195), (.ref b195)]) G := fun tq kq => K202 tq (XS.dup X200.here hx rfl (hb hby d_method_7_71) rfl rfl kq)
          have K204 : Go p e below T200 (mkF m 73 #[.val (.int n), .val (.int c0), .val (.int c1), .val (.int c2), .val (.int c3), .val (.int c4)] [(.int (0 : Int32)), (.ref b200), (.ref b200), (.ref b195), (.ref b195)]) G := fun tq kq => K203 tq (XS.iconst X200.here hx rfl (hb hby d_method_7_72) kq)
          have K205 : Go p e below T200 (mkF m 74 #[.val (.int n), .val (.int c0), .val (.int c1), .val (.int c2), .val (.int c3), .val (.int c4)] [(.int c0), (.int (0 : Int32)), (.ref b200), (.ref b200), (.ref b195), (.ref b195)]) G := fun tq kq => K204 tq (XS.iloadN X200.here hx rfl (hb hby d_method_7_73) rfl kq)
          obtain ⟨cl206, Ar206, q206, S206, Nn206, Hh206, Gg206⟩ := id V200
          have hin206 : ¬ ((0 : Int32) < 0 ∨ cl206.slots.size ≤ ((0 : Int32)).toNatClampNeg) := inb_of S206 ⟨by decide, by decide⟩
          obtain ⟨T206, h206, X206, e206, W206, st206⟩ := stC X200 hx hZ e200 Ar206 (j := (0 : Int32)) hin206 (g := (mkF m 74 #[.val (.int n), .val (.int c0), .val (.int c1), .val (.int c2), .val (.int c3), .val (.int c4)] [(.int c0), (.int (0 : Int32)), (.ref b200), (.ref b200), (.ref b195), (.ref b195)])) rfl rfl (hb hby d_method_7_74)
          rw [R_c0.2] at W206
          have V206 : Arv Z h206 b200 k200 .char (3 : Int32) [(.int c0), (.int (0 : Int32)), (.int (0 : Int32))] (.int (0 : Int32)) := Arv.set Ar206 q206 S206 Nn206 Hh206 Gg206 (by rw [← R_c0.2]; exact fits_nar_char _) W206 0 rfl (Nat.le_of_ble_eq_true rfl)
          have N206 := Fr.snoc X206 N0 ge_b200
          have CR207 := CR201.trans (CHr.wr W206 (Safe.arv hZ.alike V200 (by decide)) CR201.1)
          have Sf207_b195 := Safe.wr W206 (Safe.arv hZ.alike V200 (by decide)) CR201.1 Sf201_b195
          have K208 : Go p e below T206 (mkF m 75 #[.val (.int n), .val (.int c0), .val (.int c1), .val (.int c2), .val (.int c3), .val (.int c4)] [(.ref b200), (.ref b195), (.ref b195)]) G := fun tq kq => K205 tq (st206 tq kq)
          have K209 : Go p e below T206 (mkF m 76 #[.val (.int n), .val (.int c0), .val (.int c1), .val (.int c2), .val (.int c3), .val (.int c4)] [(.ref b200), (.ref b200), (.ref b195), (.ref b195)]) G := fun tq kq => K208 tq (XS.dup X206.here hx rfl (hb hby d_method_7_75) rfl rfl kq)
          have K210 : Go p e below T206 (mkF m 77 #[.val (.int n), .val (.int c0), .val (.int c1), .val (.int c2), .val (.int c3), .val (.int c4)] [(.int (1 : Int32)), (.ref b200), (.ref b200), (.ref b195), (.ref b195)]) G := fun tq kq => K209 tq (XS.iconst X206.here hx rfl (hb hby d_method_7_76) kq)
          have K211 : Go p e below T206 (mkF m 78 #[.val (.int n), .val (.int c0), .val (.int c1), .val (.int c2), .val (.int c3), .val (.int c4)] [(.int c1), (.int (1 : Int32)), (.ref b200), (.ref b200), (.ref b195), (.ref b195)]) G := fun tq kq => K210 tq (XS.iloadN X206.here hx rfl (hb hby d_method_7_77) rfl kq)
          obtain ⟨cl212, Ar212, q212, S212, Nn212, Hh212, Gg212⟩ := id V206
          have hin212 : ¬ ((1 : Int32) < 0 ∨ cl212.slots.size ≤ ((1 : Int32)).toNatClampNeg) := inb_of S212 ⟨by decide, by decide⟩
          obtain ⟨T212, h212, X212, e212, W212, st212⟩ := stC X206 hx hZ e206 Ar212 (j := (1 : Int32)) hin212 (g := (mkF m 78 #[.val (.int n), .val (.int c0), .val (.int c1), .val (.int c2), .val (.int c3), .val (.int c4)] [(.int c1), (.int (1 : Int32)), (.ref b200), (.ref b200), (.ref b195), (.ref b195)])) rfl rfl (hb hby d_method_7_78)
          rw [R_c1.2] at W212
          have V212 : Arv Z h212 b200 k200 .char (3 : Int32) [(.int c0), (.int c1), (.int (0 : Int32))] (.int (0 : Int32)) := Arv.set Ar212 q212 S212 Nn212 Hh212 Gg212 (by rw [← R_c1.2]; exact fits_nar_char _) W212 1 rfl (Nat.le_of_ble_eq_true rfl)
          have N212 := Fr.snoc X212 N206 ge_b200
          have CR213 := CR207.trans (CHr.wr W212 (Safe.arv hZ.alike V206 (by decide)) CR207.1)
          have Sf213_b195 := Safe.wr W212 (Safe.arv hZ.alike V206 (by decide)) CR207.1 Sf207_b195
          have K214 : Go p e below T212 (mkF m 79 #[.val (.int n), .val (.int c0), .val (.int c1), .val (.int c2), .val (.int c3), .val (.int c4)] [(.ref b200), (.ref b195), (.ref b195)]) G := fun tq kq => K211 tq (st212 tq kq)
          have K215 : Go p e below T212 (mkF m 80 #[.val (.int n), .val (.int c0), .val (.int c1), .val (.int c2), .val (.int c3), .val (.int c4)] [(.ref b200), (.ref b200), (.ref b195), (.ref b195)]) G := fun tq kq => K214 tq (XS.dup X212.here hx rfl (hb hby d_method_7_79) rfl rfl kq)
          have K216 : Go p e below T212 (mkF m 81 #[.val (.int n), .val (.int c0), .val (.int c1), .val (.int c2), .val (.int c3), .val (.int c4)] [(.int (2 : Int32)), (.ref b200), (.ref b200), (.ref b195), (.ref b195)]) G := fun tq kq => K215 tq (XS.iconst X212.here hx rfl (hb hby d_method_7_80) kq)
          have K217 : Go p e below T212 (mkF m 82 #[.val (.int n), .val (.int c0), .val (.int c1), .val (.int c2), .val (.int c3), .val (.int c4)] [(.int c2), (.int (2 : Int32)), (.ref b200), (.ref b200), (.ref b195), (.ref b195)]) G := fun tq kq => K216 tq (XS.iloadN X212.here hx rfl (hb hby d_method_7_81) rfl kq)
          obtain ⟨cl218, Ar218, q218, S218, Nn218, Hh218, Gg218⟩ := id V212
          have hin218 : ¬ ((2 : Int32) < 0 ∨ cl218.slots.size ≤ ((2 : Int32)).toNatClampNeg) := inb_of S218 ⟨by decide, by decide⟩
          obtain ⟨T218, h218, X218, e218, W218, st218⟩ := stC X212 hx hZ e212 Ar218 (j := (2 : Int32)) hin218 (g := (mkF m 82 #[.val (.int n), .val (.int c0), .val (.int c1), .val (.int c2), .val (.int c3), .val (.int c4)] [(.int c2), (.int (2 : Int32)), (.ref b200), (.ref b200), (.ref b195), (.ref b195)])) rfl rfl (hb hby d_method_7_82)
          rw [R_c2.2] at W218
          have V218 : Arv Z h218 b200 k200 .char (3 : Int32) [(.int c0), (.int c1), (.int c2)] (.int (0 : Int32)) := Arv.set Ar218 q218 S218 Nn218 Hh218 Gg218 (by rw [← R_c2.2]; exact fits_nar_char _) W218 2 rfl (Nat.le_of_ble_eq_true rfl)
          have N218 := Fr.snoc X218 N212 ge_b200
          have CR219 := CR213.trans (CHr.wr W218 (Safe.arv hZ.alike V212 (by decide)) CR213.1)
          have Sf219_b195 := Safe.wr W218 (Safe.arv hZ.alike V212 (by decide)) CR213.1 Sf213_b195
          have K220 : Go p e below T218 (mkF m 83 #[.val (.int n), .val (.int c0), .val (.int c1), .val (.int c2), .val (.int c3), .val (.int c4)] [(.ref b200), (.ref b195), (.ref b195)]) G := fun tq kq => K217 tq (st218 tq kq)
          have hp221 : ∀ c ∈ ([c0, c1, c2] : List Int32), ¬ c < 0 ∧ ¬ (255 : Int32) < c := by
            intro c hc
            simp only [List.mem_cons, List.not_mem_nil, or_false] at hc
            rcases hc with rfl | rfl | rfl
            · exact R_c0.1
            · exact R_c1.1
            · exact R_c2.1
          obtain ⟨v222, _, ⟨T222, L222, k222, n222⟩, -, X222, ⟨Lc222, hQ222, l222, y222, z222⟩, st222⟩ := X218.specialBack hx (y := (⟨"java/lang/String", "<init>", "([C)V"⟩ : MethodName)) rfl hown (mvT hZ (hW 12 _ rfl)) (mvT hZ (hW 13 _ rfl)) (mvT hZ (hW 14 _ rfl)) (by decide) (StrChars.Road.backV (W := 1) hZ hws (kI := 4) (hW 9 _ rfl) (cs := ([c0, c1, c2] : List Int32)) (bs := (([c0, c1, c2] : List Int32)).map (fun c => c.toInt8.toInt32)) (n := 3) ge_b195 (Nat.le_trans (Nat.le_trans (Nat.le_trans (Nat.le_trans (Nat.le_trans Z0 E195.1) E200.1) (Keep.of_wr W206).1) (Keep.of_wr W212).1) (Keep.of_wr W218).1) ((((A195.ext E200).wr W206).wr W212).wr W218) ((((F195_value.ext E200).other W206 (Or.inl ne200_b195)).other W212 (Or.inl ne200_b195)).other W218 (Or.inl ne200_b195)) ((((F195_coder.ext E200).other W206 (Or.inl ne200_b195)).other W212 (Or.inl ne200_b195)).other W218 (Or.inl ne200_b195)) V218 (S_cs.ext (((((O0.ext E195).ext E200).wr W206 ge_b200).wr W212 ge_b200).wr W218 ge_b200).2) hcz rfl rfl (by decide) (by decide) hp221 rfl (by decide) (by decide)) (g := (mkF m 83 #[.val (.int n), .val (.int c0), .val (.int c1), .val (.int c2), .val (.int c3), .val (.int c4)] [(.ref b200), (.ref b195), (.ref b195)])) rfl (by rw [hml]; rfl) (Steps.refl _) (a := b195) (argsL := [(.ref b200)]) (rest := [(.ref b195)]) (lenOf pd_122 rfl) rfl (by show 2 * 0 + _ ≤ _; exact Nat.le_of_eq rfl) (hb hby d_method_7_83) (fun _ _ => ⟨rfl, e218, (by decide : 2 + 1 ≤ _), (by decide : 7 + 3 ≤ _)⟩)
          dsimp only [Pt.U, Pt.locs, Pt.cells, Pt.slots] at X222 l222 y222 z222 st222 hQ222
          subst l222 y222 z222
          obtain ⟨rfl, N222q, K222q, E222q, FC222q, t222, kb222, get222, szt222, net222, FV222q, VB222q⟩ := hQ222
          have N222 := Fr.app N218 N222q
          have CR223 := CR219.trans (CHr.keep K222q (sfS Sf219_b195 sf0) CR219.1)
          have Sf223_b195 := Safe.keep K222q (sfS Sf219_b195 sf0) CR219.1 Sf219_b195
          have K224 : Go p e below T222 (mkF m 86 #[.val (.int n), .val (.int c0), .val (.int c1), .val (.int c2), .val (.int c3), .val (.int c4)] [(.ref b195)]) G := fun tq kq => K220 tq (st222.trans kq)
          obtain ⟨fs, hr, hrun, hended, hRE⟩ := X222.leaveW (s := s) hS0 (by first | exact (Nat.le_trans (Nat.le_trans (Nat.le_trans (Nat.le_trans (Nat.le_trans (Nat.le_trans (Nat.zero_le _) E195.1) E200.1) (Keep.of_wr W206).1) (Keep.of_wr W212).1) (Keep.of_wr W218).1) K222q.1) | (rw [rfl]; exact (Nat.le_trans (Nat.le_trans (Nat.le_trans (Nat.le_trans (Nat.le_trans (Nat.le_trans (Nat.zero_le _) E195.1) E200.1) (Keep.of_wr W206).1) (Keep.of_wr W212).1) (Keep.of_wr W218).1) K222q.1))) (v := some (.ref b195)) (fun h => by rw [Bd.returns] at h; cases h)
          have CRe := CR223.trans (CHv.at X222 hZ hEL CR223.1)
          refine ⟨_, _, hG _ (K224 _ (retOut X222 hx Bd.returns rfl (Or.inr (Or.inr (Or.inr (Or.inr ⟨rfl, rfl, rfl⟩)))) (hb hby d_method_7_86) hr)), hrun, hended, _, _, rfl, ?_, (by show CHr Z own_EL s.vm s.heap T222.vm T222.heap; rw [hh]; exact CRe), hRE.1, hRE.2.1, hRE.2.2.1, hRE.2.2.2.mono (by decide) (by decide)⟩
          show QTX Z n c0 c1 c2 c3 c4 cz h0 n0 _ T222.heap _
          exact ⟨b195, t222, kb222, _, _, rfl, N222, (((((((Keep.refl h0 []).ext E195).ext E200).wr W206 (Or.inr sz_b200)).wr W212 (Or.inr sz_b200)).wr W218 (Or.inr sz_b200)).trans K222q (allS (Or.inr sz_b195) all0)), E222q, FV222q, FC222q, VB222q, by rw [own_tx]; simp only [hc125, hc141, hc164, hc193, if_true, if_false]; exact StrChars.Road.codOf (cs := ([c0, c1, c2] : List Int32)) rfl (fun c hc => (hp221 c hc).2)⟩
        · skip
          have K225 : Go p e below s₁ (mkF m 87 #[.val (.int n), .val (.int c0), .val (.int c1), .val (.int c2), .val (.int c3), .val (.int c4)] []) G := fun tq kq => K192 tq (XS.icmpYes X0.here hx rfl (pc0 := 61) (pc' := 87) rfl (hb hby d_method_7_61) rfl ((feq hc193).2) (by decide) (by decide) kq)
          have K226 : Go p e below s₁ (mkF m 88 #[.val (.int n), .val (.int c0), .val (.int c1), .val (.int c2), .val (.int c3), .val (.int c4)] [(.int n)]) G := fun tq kq => K225 tq (XS.iloadN X0.here hx rfl (hb hby d_method_7_87) rfl kq)
          have K227 : Go p e below s₁ (mkF m 89 #[.val (.int n), .val (.int c0), .val (.int c1), .val (.int c2), .val (.int c3), .val (.int c4)] [(.int (4 : Int32)), (.int n)]) G := fun tq kq => K226 tq (XS.iconst X0.here hx rfl (hb hby d_method_7_88) kq)
          by_cases hc228 : n = (4 : Int32)
          · skip
            have K229 : Go p e below s₁ (mkF m 92 #[.val (.int n), .val (.int c0), .val (.int c1), .val (.int c2), .val (.int c3), .val (.int c4)] []) G := fun tq kq => K227 tq (XS.icmpNo X0.here hx rfl (hb hby d_method_7_89) rfl ((teq hc228).2) kq)
            obtain ⟨T230, h230, X230, e230, E230, A230, D230, -, st230⟩ := newO X0 hx hZ hown (hW 8 _ rfl) (hW 9 _ rfl) (hW 10 _ rfl) e0 (g := (mkF m 92 #[.val (.int n), .val (.int c0), .val (.int c1), .val (.int c2), .val (.int c3), .val (.int c4)] [])) rfl (hb hby d_method_7_92) (by decide) (by decide)
            obtain ⟨b230, g230⟩ : ∃ z, z = h0.size := ⟨_, rfl⟩
            rw [← g230] at A230 D230 st230
            have ge_b230 : n0 ≤ b230 := Nat.le_trans Z0 (Nat.le_of_eq g230.symm)
            have sz_b230 : h0.size ≤ b230 := Nat.le_trans ((Keep.refl h0 [])).1 (Nat.le_of_eq g230.symm)
            have CR231 := CR0.trans (CHr.ext E230 CR0.1)
            have Sf230 := Safe.ext E230 CR0.1 (Safe.new (Nat.le_of_eq g230.symm))
            have F230_coder : Fld Z h230 b230 "java/lang/String" "coder" "B" (.int (0 : Int32)) := D230 (Or.inr (hW 35 _ rfl)) (ty := .byte) (by decide)
            have F230_value : Fld Z h230 b230 "java/lang/String" "value" "[B" .null := D230 (Or.inr (hW 37 _ rfl)) (ty := (.array .byte)) (by decide)
            have K232 : Go p e below T230 (mkF m 95 #[.val (.int n), .val (.int c0), .val (.int c1), .val (.int c2), .val (.int c3), .val (.int c4)] [(.ref b230)]) G := fun tq kq => K229 tq (st230 tq kq)
            have K233 : Go p e below T230 (mkF m 96 #[.val (.int n), .val (.int c0), .val (.int c1), .val (.int c2), .val (.int c3), .val (.int c4)] [(.ref b230), (.ref b230)]) G := fun tq kq => K232 tq (XS.dup X230.here hx rfl (hb hby d_method_7_95) rfl rfl kq)
            have K234 : Go p e below T230 (mkF m 97 #[.val (.int n), .val (.int c0), .val (.int c1), .val (.int c2), .val (.int c3), .val (.int c4)] [(.int (4 : Int32)), (.ref b230), (.ref b230)]) G := fun tq kq => K233 tq (XS.iconst X230.here hx rfl (hb hby d_method_7_96) kq)
            obtain ⟨T235, h235, k235, X235, e235, E235, A235, st235⟩ := newP X230 hx hZ (hW 11 _ rfl) e230 (g := (mkF m 97 #[.val (.int n), .val (.int c0), .val (.int c1), .val (.int c2), .val (.int c3), .val (.int c4)] [(.int (4 : Int32)), (.ref b230), (.ref b230)])) rfl (hb hby d_method_7_97) rfl (by decide) (cap := 4) (by decide) (by decide) (by decide) (by decide)
            obtain ⟨b235, g235⟩ : ∃ z, z = h230.size := ⟨_, rfl⟩
            rw [← g235] at A235 st235
            have ne235_b230 : b230 ≠ b235 := Nat.ne_of_lt (Nat.lt_of_lt_of_le A230.lt (Nat.le_of_eq g235.symm))
            have ge_b235 : n0 ≤ b235 := Nat.le_trans (Nat.le_trans Z0 E230.1) (Nat.le_of_eq g235.symm)
            have sz_b235 : h0.size ≤ b235 := Nat.le_trans (((Keep.refl h0 []).ext E230)).1 (Nat.le_of_eq g235.symm)
            have V235 : Arv Z h235 b235 k235 .char (4 : Int32) [(.int (0 : Int32)), (.int (0 : Int32)), (.int (0 : Int32)), (.int (0 : Int32))] (.int (0 : Int32)) := (Arv.new A235 (by decide)).pad (pad_rep [] (.int (0 : Int32)) 4)
            have CR236 := CR231.trans (CHr.ext E235 CR231.1)
            have Sf236_b230 := Safe.ext E235 CR231.1 Sf230
            have K237 : Go p e below T235 (mkF m 99 #[.val (.int n), .val (.int c0), .val (.int c1), .val (.int c2), .val (.int c3), .val (.int c4)] [(.ref b235), (.ref b230), (.ref b230)]) G := fun tq kq => K234 tq (st235 tq kq)
            have K238 : Go p e below T235 (mkF m 100 #[.val (.int n), .val (.int c0), .val (.int c1), .val (.int c2), .val (.int c3), .val (.int c4)] [(.ref b235), (.ref b235), (.ref b230), (.ref b230)]) G := fun tq kq => K237 tq (XS.dup X235.here hx rfl (hb hby d_method_7_99) rfl rfl kq)
            have K239 : Go p e below T235 (mkF m 101 #[.val (.int n), .val (.int c0), .val (.int c1), .val (.int c2), .val (.int c3), .val (.int c4)] [(.int (0 : Int32)), (.ref b235), (.ref b235), (.ref b230), (.ref b230)]) G := fun tq kq => K238 tq (XS.iconst X235.here hx rfl (hb hby d_method_7_100) kq)
            have K240 : Go p e below T235 (mkF m 102 #[.val (.int n), .val (.int c0), .val (.int c1), .val (.int c2), .val (.int c3), .val (.int c4)] [(.int c0), (.int (0 : Int32)), (.ref b235), (.ref b235), (.ref b230), (.ref b230)]) G := fun tq kq => K239 tq (XS.iloadN X235.here hx rfl (hb hby d_method_7_101) rfl kq)
            obtain ⟨cl241, Ar241, q241, S241, Nn241, Hh241, Gg241⟩ := id V235
            have hin241 : ¬ ((0 : Int32) < 0 ∨ cl241.slots.size ≤ ((0 : Int32)).toNatClampNeg) := inb_of S241 ⟨by decide, by decide⟩
            obtain ⟨T241, h241, X241, e241, W241, st241⟩ := stC X235 hx hZ e235 Ar241 (j := (0 : Int32)) hin241 (g := (mkF m 102 #[.val (.int n), .val (.int c0), .val (.int c1), .val (.int c2), .val (.int c3), .val (.int c4)] [(.int c0), (.int (0 : Int32)), (.ref b235), (.ref b235), (.ref b230), (.ref b230)])) rfl rfl (hb hby d_method_7_102)
            rw [R_c0.2] at W241
            have V241 : Arv Z h241 b235 k235 .char (4 : Int32) [(.int c0), (.int (0 : Int32)), (.int (0 : Int32)), (.int (0 : Int32))] (.int (0 : Int32)) := Arv.set Ar241 q241 S241 Nn241 Hh241 Gg241 (by rw [← R_c0.2]; exact fits_nar_char _) W241 0 rfl (Nat.le_of_ble_eq_true rfl)
            have N241 := Fr.snoc X241 N0 ge_b235
            have CR242 := CR236.trans (CHr.wr W241 (Safe.arv hZ.alike V235 (by decide)) CR236.1)
            have Sf242_b230 := Safe.wr W241 (Safe.arv hZ.alike V235 (by decide)) CR236.1 Sf236_b230
            have K243 : Go p e below T241 (mkF m 103 #[.val (.int n), .val (.int c0), .val (.int c1), .val (.int c2), .val (.int c3), .val (.int c4)] [(.ref b235), (.ref b230), (.ref b230)]) G := fun tq kq => K240 tq (st241 tq kq)
            have K244 : Go p e below T241 (mkF m 104 #[.val (.int n), .val (.int c0), .val (.int c1), .val (.int c2), .val (.int c3), .val (.int c4)] [(.ref b235), (.ref b235), (.ref b230), (.ref b230)]) G := fun tq kq => K243 tq (XS.dup X241.here hx rfl (hb hby d_method_7_103) rfl rfl kq)
            have K245 : Go p e below T241 (mkF m 105 #[.val (.int n), .val (.int c0), .val (.int c1), .val (.int c2), .val (.int c3), .val (.int c4)] [(.int (1 : Int32)), (.ref b235), (.ref b235), (.ref b230), (.ref b230)]) G := fun tq kq => K244 tq (XS.iconst X241.here hx rfl (hb hby d_method_7_104) kq)
            have K246 : Go p e below T241 (mkF m 106 #[.val (.int n), .val (.int c0), .val (.int c1), .val (.int c2), .val (.int c3), .val (.int c4)] [(.int c1), (.int (1 : Int32)), (.ref b235), (.ref b235), (.ref b230), (.ref b230)]) G := fun tq kq => K245 tq (XS.iloadN X241.here hx rfl (hb hby d_method_7_105) rfl kq)
            obtain ⟨cl247, Ar247, q247, S247, Nn247, Hh247, Gg247⟩ := id V241
            have hin247 : ¬ ((1 : Int32) < 0 ∨ cl247.slots.size ≤ ((1 : Int32)).toNatClampNeg) := inb_of S247 ⟨by decide, by decide⟩
            obtain ⟨T247, h247, X247, e247, W247, st247⟩ := stC X241 hx hZ e241 Ar247 (j := (1 : Int32)) hin247 (g := (mkF m 106 #[.val (.int n), .val (.int c0), .val (.int c1), .val (.int c2), .val (.int c3), .val (.int c4)] [(.int c1), (.int (1 : Int32)), (.ref b235), (.ref b235), (.ref b230), (.ref b230)])) rfl rfl (hb hby d_method_7_106)
            rw [R_c1.2] at W247
            have V247 : Arv Z h247 b235 k235 .char (4 : Int32) [(.int c0), (.int c1), (.int (0 : Int32)), (.int (0 : Int32))] (.int (0 : Int32)) := Arv.set Ar247 q247 S247 Nn247 Hh247 Gg247 (by rw [← R_c1.2]; exact fits_nar_char _) W247 1 rfl (Nat.le_of_ble_eq_true rfl)
            have N247 := Fr.snoc X247 N241 ge_b235
            have CR248 := CR242.trans (CHr.wr W247 (Safe.arv hZ.alike V241 (by decide)) CR242.1)
            have Sf248_b230 := Safe.wr W247 (Safe.arv hZ.alike V241 (by decide)) CR242.1 Sf242_b230
            have K249 : Go p e below T247 (mkF m 107 #[.val (.int n), .val (.int c0), .val (.int c1), .val (.int c2), .val (.int c3), .val (.int c4)] [(.ref b235), (.ref b230), (.ref b230)]) G := fun tq kq => K246 tq (st247 tq kq)
            have K250 : Go p e below T247 (mkF m 108 #[.val (.int n), .val (.int c0), .val (.int c1), .val (.int c2), .val (.int c3), .val (.int c4)] [(.ref b235), (.ref b235), (.ref b230), (.ref b230)]) G := fun tq kq => K249 tq (XS.dup X247.here hx rfl (hb hby d_method_7_107) rfl rfl kq)
            have K251 : Go p e below T247 (mkF m 109 #[.val (.int n), .val (.int c0), .val (.int c1), .val (.int c2), .val (.int c3), .val (.int c4)] [(.int (2 : Int32)), (.ref b235), (.ref b235), (.ref b230), (.ref b230)]) G := fun tq kq => K250 tq (XS.iconst X247.here hx rfl (hb hby d_method_7_108) kq)
            have K252 : Go p e below T247 (mkF m 110 #[.val (.int n), .val (.int c0), .val (.int c1), .val (.int c2), .val (.int c3), .val (.int c4)] [(.int c2), (.int (2 : Int32)), (.ref b235), (.ref b235), (.ref b230), (.ref b230)]) G := fun tq kq => K251 tq (XS.iloadN X247.here hx rfl (hb hby d_method_7_109) rfl kq)
            obtain ⟨cl253, Ar253, q253, S253, Nn253, Hh253, Gg253⟩ := id V247
            have hin253 : ¬ ((2 : Int32) < 0 ∨ cl253.slots.size ≤ ((2 : Int32)).toNatClampNeg) := inb_of S253 ⟨by decide, by decide⟩
            obtain ⟨T253, h253, X253, e253, W253, st253⟩ := stC X247 hx hZ e247 Ar253 (j := (2 : Int32)) hin253 (g := (mkF m 110 #[.val (.int n), .val (.int c0), .val (.int c1), .val (.int c2), .val (.int c3), .val (.int c4)] [(.int c2), (.int (2 : Int32)), (.ref b235), (.ref b235), (.ref b230), (.ref b230)])) rfl rfl (hb hby d_method_7_110)
            rw [R_c2.2] at W253
            have V253 : Arv Z h253 b235 k235 .char (4 : Int32) [(.int c0), (.int c1), (.int c2), (.int (0 : Int32))] (.int (0 : Int32)) := Arv.set Ar253 q253 S253 Nn253 Hh253 Gg253 (by rw [← R_c2.2]; exact fits_nar_char _) W253 2 rfl (Nat.le_of_ble_eq_true rfl)
            have N253 := Fr.snoc X253 N247 ge_b235
            have CR254 := CR248.trans (CHr.wr W253 (Safe.arv hZ.alike V247 (by decide)) CR248.1)
            have Sf254_b230 := Safe.wr W253 (Safe.arv hZ.alike V247 (by decide)) CR248.1 Sf248_b230
            have K255 : Go p e below T253 (mkF m 111 #[.val (.int n), .val (.int c0), .val (.int c1), .val (.int c2), .val (.int c3), .val (.int c4)] [(.ref b235), (.ref b230), (.ref b230)]) G := fun tq kq => K252 tq (st253 tq kq)
            have K256 : Go p e below T253 (mkF m 112 #[.val (.int n), .val (.int c0), .val (.int c1), .val (.int c2), .val (.int c3), .val (.int c4)] [(.ref b235), (.ref b235), (.ref b230), (.ref b230)]) G := fun tq kq => K255 tq (XS.dup X253.here hx rfl (hb hby d_method_7_111) rfl rfl kq)
            have K257 : Go p e below T253 (mkF m 113 #[.val (.int n), .val (.int c0), .val (.int c1), .val (.int c2), .val (.int c3), .val (.int c4)] [(.int (3 : Int32)), (.ref b235), (.ref b235), (.ref b230), (.ref b230)]) G := fun tq kq => K256 tq (XS.iconst X253.here hx rfl (hb hby d_method_7_112) kq)
            have K258 : Go p e below T253 (mkF m 115 #[.val (.int n), .val (.int c0), .val (.int c1), .val (.int c2), .val (.int c3), .val (.int c4)] [(.int c3), (.int (3 : Int32)), (.ref b235), (.ref b235), (.ref b230), (.ref b230)]) G := fun tq kq => K257 tq (XS.iload X253.here hx rfl (hb hby d_method_7_113) rfl kq)
            obtain ⟨cl259, Ar259, q259, S259, Nn259, Hh259, Gg259⟩ := id V253
            have hin259 : ¬ ((3 : Int32) < 0 ∨ cl259.slots.size ≤ ((3 : Int32)).toNatClampNeg) := inb_of S259 ⟨by decide, by decide⟩
            obtain ⟨T259, h259, X259, e259, W259, st259⟩ := stC X253 hx hZ e253 Ar259 (j := (3 : Int32)) hin259 (g := (mkF m 115 #[.val (.int n), .val (.int c0), .val (.int c1), .val (.int c2), .val (.int c3), .val (.int c4)] [(.int c3), (.int (3 : Int32)), (.ref b235), (.ref b235), (.ref b230), (.ref b230)])) rfl rfl (hb hby d_method_7_115)
            rw [R_c3.2] at W259
            have V259 : Arv Z h259 b235 k235 .char (4 : Int32) [(.int c0), (.int c1), (.int c2), (.int c3)] (.int (0 : Int32)) := Arv.set Ar259 q259 S259 Nn259 Hh259 Gg259 (by rw [← R_c3.2]; exact fits_nar_char _) W259 3 rfl (Nat.le_of_ble_eq_true rfl)
            have N259 := Fr.snoc X259 N253 ge_b235
            have CR260 := CR254.trans (CHr.wr W259 (Safe.arv hZ.alike V253 (by decide)) CR254.1)
            have Sf260_b230 := Safe.wr W259 (Safe.arv hZ.alike V253 (by decide)) CR254.1 Sf254_b230
            have K261 : Go p e below T259 (mkF m 116 #[.val (.int n), .val (.int c0), .val (.int c1), .val (.int c2), .val (.int c3), .val (.int c4)] [(.ref b235), (.ref b230), (.ref b230)]) G := fun tq kq => K258 tq (st259 tq kq)
            have hp262 : ∀ c ∈ ([c0, c1, c2, c3] : List Int32), ¬ c < 0 ∧ ¬ (255 : Int32) < c := by
              intro c hc
              simp only [List.mem_cons, List.not_mem_nil, or_false] at hc
              rcases hc with rfl | rfl | rfl | rfl
              · exact R_c0.1
              · exact R_c1.1
              · exact R_c2.1
              · exact R_c3.1
            obtain ⟨v263, _, ⟨T263, L263, k263, n263⟩, -, X263, ⟨Lc263, hQ263, l263, y263, z263⟩, st263⟩ := X259.specialBack hx (y := (⟨"java/lang/String", "<init>", "([C)V"⟩ : MethodName)) rfl hown (mvT hZ (hW 12 _ rfl)) (mvT hZ (hW 13 _ rfl)) (mvT hZ (hW 14 _ rfl)) (by decide) (StrChars.Road.backV (W := 1) hZ hws (kI := 4) (hW 9 _ rfl) (cs := ([c0, c1, c2, c3] : List Int32)) (bs := (([c0, c1, c2, c3] : List Int32)).map (fun c => c.toInt8.toInt32)) (n := 4) ge_b230 (Nat.le_trans (Nat.le_trans (Nat.le_trans (Nat.le_trans (Nat.le_trans (Nat.le_trans Z0 E230.1) E235.1) (Keep.of_wr W241).1) (Keep.of_wr W247).1) (Keep.of_wr W253).1) (Keep.of_wr W259).1) (((((A230.ext E235).wr W241).wr W247).wr W253).wr W259) (((((F230_value.ext E235).other W241 (Or.inl ne235_b230)).other W247 (Or.inl ne235_b230)).other W253 (Or.inl ne235_b230)).other W259 (Or.inl ne235_b230)) (((((F230_coder.ext E235).other W241 (Or.inl ne235_b230)).other W247 (Or.inl ne235_b230)).other W253 (Or.inl ne235_b230)).other W259 (Or.inl ne235_b230)) V259 (S_cs.ext ((((((O0.ext E230).ext E235).wr W241 ge_b235).wr W247 ge_b235).wr W253 ge_b235).wr W259 ge_b235).2) hcz rfl rfl (by decide) (by decide) hp262 rfl (by decide) (by decide)) (g := (mkF m 116 #[.val (.int n), .val (.int c0), .val (.int c1), .val (.int c2), .val (.int c3), .val (.int c4)] [(.ref b235), (.ref b230), (.ref b230)])) rfl (by rw [hml]; rfl) (Steps.refl _) (a := b230) (argsL := [(.ref b235)]) (rest := [(.ref b230)]) (lenOf pd_122 rfl) rfl (by show 2 * 0 + _ ≤ _; exact Nat.le_of_eq rfl) (hb hby d_method_7_116) (fun _ _ => ⟨rfl, e259, (by decide : 2 + 1 ≤ _), (by decide : 8 + 4 ≤ _)⟩)
            dsimp only [Pt.U, Pt.locs, Pt.cells, Pt.slots] at X263 l263 y263 z263 st263 hQ263
            subst l263 y263 z263
            obtain ⟨rfl, N263q, K263q, E263q, FC263q, t263, kb263, get263, szt263, net263, FV263q, VB263q⟩ := hQ263
            have N263 := Fr.app N259 N263q
            have CR264 := CR260.trans (CHr.keep K263q (sfS Sf260_b230 sf0) CR260.1)
            have Sf264_b230 := Safe.keep K263q (sfS Sf260_b230 sf0) CR260.1 Sf260_b230
            have K265 : Go p e below T263 (mkF m 119 #[.val (.int n), .val (.int c0), .val (.int c1), .val (.int c2), .val (.int c3), .val (.int c4)] [(.ref b230)]) G := fun tq kq => K261 tq (st263.trans kq)
            obtain ⟨fs, hr, hrun, hended, hRE⟩ := X263.leaveW (s := s) hS0 (by first | exact (Nat.le_trans (Nat.le_trans (Nat.le_trans (Nat.le_trans (Nat.le_trans (Nat.le_trans (Nat.le_trans (Nat.zero_le _) E230.1) E235.1) (Keep.of_wr W241).1) (Keep.of_wr W247).1) (Keep.of_wr W253).1) (Keep.of_wr W259).1) K263q.1) | (rw [rfl]; exact (Nat.le_trans (Nat.le_trans (Nat.le_trans (Nat.le_trans (Nat.le_trans (Nat.le_trans (Nat.le_trans (Nat.zero_le _) E230.1) E235.1) (Keep.of_wr W241).1) (Keep.of_wr W247).1) (Keep.of_wr W253).1) (Keep.of_wr W259).1) K263q.1))) (v := some (.ref b230)) (fun h => by rw [Bd.returns] at h; cases h)
            have CRe := CR264.trans (CHv.at X263 hZ hEL CR264.1)
            refine ⟨_, _, hG _ (K265 _ (retOut X263 hx Bd.returns rfl (Or.inr (Or.inr (Or.inr (Or.inr ⟨rfl, rfl, rfl⟩)))) (hb hby d_method_7_119) hr)), hrun, hended, _, _, rfl, ?_, (by show CHr Z own_EL s.vm s.heap T263.vm T263.heap; rw [hh]; exact CRe), hRE.1, hRE.2.1, hRE.2.2.1, hRE.2.2.2.mono (by decide) (by decide)⟩
            show QTX Z n c0 c1 c2 c3 c4 cz h0 n0 _ T263.heap _
            exact ⟨b230, t263, kb263, _, _, rfl, N263, ((((((((Keep.refl h0 []).ext E230).ext E235).wr W241 (Or.inr sz_b235)).wr W247 (Or.inr sz_b235)).wr W253 (Or.inr sz_b235)).wr W259 (Or.inr sz_b235)).trans K263q (allS (Or.inr sz_b230) all0)), E263q, FV263q, FC263q, VB263q, by rw [own_tx]; simp only [hc125, hc141, hc164, hc193, hc228, if_true, if_false]; exact StrChars.Road.codOf (cs := ([c0, c1, c2, c3] : List Int32)) rfl (fun c hc => (hp262 c hc).2)⟩
          · skip
            have K266 : Go p e below s₁ (mkF m 120 #[.val (.int n), .val (.int c0), .val (.int c1), .val (.int c2), .val (.int c3), .val (.int c4)] []) G := fun tq kq => K227 tq (XS.icmpYes X0.here hx rfl (pc0 := 89) (pc' := 120) rfl (hb hby d_method_7_89) rfl ((feq hc228).2) (by decide) (by decide) kq)
            obtain ⟨T267, h267, X267, e267, E267, A267, D267, -, st267⟩ := newO X0 hx hZ hown (hW 8 _ rfl) (hW 9 _ rfl) (hW 10 _ rfl) e0 (g := (mkF m 120 #[.val (.int n), .val (.int c0), .val (.int c1), .val (.int c2), .val (.int c3), .val (.int c4)] [])) rfl (hb hby d_method_7_120) (by decide) (by decide)
            obtain ⟨b267, g267⟩ : ∃ z, z = h0.size := ⟨_, rfl⟩
            rw [← g267] at A267 D267 st267
            have ge_b267 : n0 ≤ b267 := Nat.le_trans Z0 (Nat.le_of_eq g267.symm)
            have sz_b267 : h0.size ≤ b267 := Nat.le_trans ((Keep.refl h0 [])).1 (Nat.le_of_eq g267.symm)
            have CR268 := CR0.trans (CHr.ext E267 CR0.1)
            have Sf267 := Safe.ext E267 CR0.1 (Safe.new (Nat.le_of_eq g267.symm))
            have F267_coder : Fld Z h267 b267 "java/lang/String" "coder" "B" (.int (0 : Int32)) := D267 (Or.inr (hW 35 _ rfl)) (ty := .byte) (by decide)
            have F267_value : Fld Z h267 b267 "java/lang/String" "value" "[B" .null := D267 (Or.inr (hW 37 _ rfl)) (ty := (.array .byte)) (by decide)
            have K269 : Go p e below T267 (mkF m 123 #[.val (.int n), .val (.int c0), .val (.int c1), .val (.int c2), .val (.int c3), .val (.int c4)] [(.ref b267)]) G := fun tq kq => K266 tq (st267 tq kq)
            have K270 : Go p e below T267 (mkF m 124 #[.val (.int n), .val (.int c0), .val (.int c1), .val (.int c2), .val (.int c3), .val (.int c4)] [(.ref b267), (.ref b267)]) G := fun tq kq => K269 tq (XS.dup X267.here hx rfl (hb hby d_method_7_123) rfl rfl kq)
            have K271 : Go p e below T267 (mkF m 125 #[.val (.int n), .val (.int c0), .val (.int c1), .val (.int c2), .val (.int c3), .val (.int c4)] [(.int (5 : Int32)), (.ref b267), (.ref b267)]) G := fun tq kq => K270 tq (XS.iconst X267.here hx rfl (hb hby d_method_7_124) kq)
            obtain ⟨T272, h272, k272, X272, e272, E272, A272, st272⟩ := newP X267 hx hZ (hW 11 _ rfl) e267 (g := (mkF m 125 #[.val (.int n), .val (.int c0), .val (.int c1), .val (.int c2), .val (.int c3), .val (.int c4)] [(.int (5 : Int32)), (.ref b267), (.ref b267)])) rfl (hb hby d_method_7_125) rfl (by decide) (cap := 5) (by decide) (by decide) (by decide) (by decide)
            obtain ⟨b272, g272⟩ : ∃ z, z = h267.size := ⟨_, rfl⟩
            rw [← g272] at A272 st272
            have ne272_b267 : b267 ≠ b272 := Nat.ne_of_lt (Nat.lt_of_lt_of_le A267.lt (Nat.le_of_eq g272.symm))
            have ge_b272 : n0 ≤ b272 := Nat.le_trans (Nat.le_trans Z0 E267.1) (Nat.le_of_eq g272.symm)
            have sz_b272 : h0.size ≤ b272 := Nat.le_trans (((Keep.refl h0 []).ext E267)).1 (Nat.le_of_eq g272.symm)
            have V272 : Arv Z h272 b272 k272 .char (5 : Int32) [(.int (0 : Int32)), (.int (0 : Int32)), (.int (0 : Int32)), (.int (0 : Int32)), (.int (0 : Int32))] (.int (0 : Int32)) := (Arv.new A272 (by decide)).pad (pad_rep [] (.int (0 : Int32)) 5)
            have CR273 := CR268.trans (CHr.ext E272 CR268.1)
            have Sf273_b267 := Safe.ext E272 CR268.1 Sf267
            have K274 : Go p e below T272 (mkF m 127 #[.val (.int n), .val (.int c0), .val (.int c1), .val (.int c2), .val (.int c3), .val (.int c4)] [(.ref b272), (.ref b267), (.ref b267)]) G := fun tq kq => K271 tq (st272 tq kq)
            have K275 : Go p e below T272 (mkF m 128 #[.val (.int n), .val (.int c0), .val (.int c1), .val (.int c2), .val (.int c3), .val (.int c4)] [(.ref b272), (.ref b272), (.ref b267), (.ref b267)]) G := fun tq kq => K274 tq (XS.dup X272.here hx rfl (hb hby d_method_7_127) rfl rfl kq)
            have K276 : Go p e below T272 (mkF m 129 #[.val (.int n), .val (.int c0), .val (.int c1), .val (.int c2), .val (.int c3), .val (.int c4)] [(.int (0 : Int32)), (.ref b272), (.ref b272), (.ref b267), (.ref b267)]) G := fun tq kq => K275 tq (XS.iconst X272.here hx rfl (hb hby d_method_7_128) kq)
            have K277 : Go p e below T272 (mkF m 130 #[.val (.int n), .val (.int c0), .val (.int c1), .val (.int c2), .val (.int c3), .val (.int c4)] [(.int c0), (.int (0 : Int32)), (.ref b272), (.ref b272), (.ref b267), (.ref b267)]) G := fun tq kq => K276 tq (XS.iloadN X272.here hx rfl (hb hby d_method_7_129) rfl kq)
            obtain ⟨cl278, Ar278, q278, S278, Nn278, Hh278, Gg278⟩ := id V272
            have hin278 : ¬ ((0 : Int32) < 0 ∨ cl278.slots.size ≤ ((0 : Int32)).toNatClampNeg) := inb_of S278 ⟨by decide, by decide⟩
            obtain ⟨T278, h278, X278, e278, W278, st278⟩ := stC X272 hx hZ e272 Ar278 (j := (0 : Int32)) hin278 (g := (mkF m 130 #[.val (.int n), .val (.int c0), .val (.int c1), .val (.int c2), .val (.int c3), .val (.int c4)] [(.int c0), (.int (0 : Int32)), (.ref b272), (.ref b272), (.ref b267), (.ref b267)])) rfl rfl (hb hby d_method_7_130)
            rw [R_c0.2] at W278
            have V278 : Arv Z h278 b272 k272 .char (5 : Int32) [(.int c0), (.int (0 : Int32)), (.int (0 : Int32)), (.int (0 : Int32)), (.int (0 : Int32))] (.int (0 : Int32)) := Arv.set Ar278 q278 S278 Nn278 Hh278 Gg278 (by rw [← R_c0.2]; exact fits_nar_char _) W278 0 rfl (Nat.le_of_ble_eq_true rfl)
            have N278 := Fr.snoc X278 N0 ge_b272
            have CR279 := CR273.trans (CHr.wr W278 (Safe.arv hZ.alike V272 (by decide)) CR273.1)
            have Sf279_b267 := Safe.wr W278 (Safe.arv hZ.alike V272 (by decide)) CR273.1 Sf273_b267
            have K280 : Go p e below T278 (mkF m 131 #[.val (.int n), .val (.int c0), .val (.int c1), .val (.int c2), .val (.int c3), .val (.int c4)] [(.ref b272), (.ref b267), (.ref b267)]) G := fun tq kq => K277 tq (st278 tq kq)
            have K281 : Go p e below T278 (mkF m 132 #[.val (.int n), .val (.int c0), .val (.int c1), .val (.int c2), .val (.int c3), .val (.int c4)] [(.ref b272), (.ref b272), (.ref b267), (.ref b267)]) G := fun tq kq => K280 tq (XS.dup X278.here hx rfl (hb hby d_method_7_131) rfl rfl kq)
            have K282 : Go p e below T278 (mkF m 133 #[.val (.int n), .val (.int c0), .val (.int c1), .val (.int c2), .val (.int c3), .val (.int c4)] [(.int (1 : Int32)), (.ref b272), (.ref b272), (.ref b267), (.ref b267)]) G := fun tq kq => K281 tq (XS.iconst X278.here hx rfl (hb hby d_method_7_132) kq)
            have K283 : Go p e below T278 (mkF m 134 #[.val (.int n), .val (.int c0), .val (.int c1), .val (.int c2), .val (.int c3), .val (.int c4)] [(.int c1), (.int (1 : Int32)), (.ref b272), (.ref b272), (.ref b267), (.ref b267)]) G := fun tq kq => K282 tq (XS.iloadN X278.here hx rfl (hb hby d_method_7_133) rfl kq)
            obtain ⟨cl284, Ar284, q284, S284, Nn284, Hh284, Gg284⟩ := id V278
            have hin284 : ¬ ((1 : Int32) < 0 ∨ cl284.slots.size ≤ ((1 : Int32)).toNatClampNeg) := inb_of S284 ⟨by decide, by decide⟩
            obtain ⟨T284, h284, X284, e284, W284, st284⟩ := stC X278 hx hZ e278 Ar284 (j := (1 : Int32)) hin284 (g := (mkF m 134 #[.val (.int n), .val (.int c0), .val (.int c1), .val (.int c2), .val (.int c3), .val (.int c4)] [(.int c1), (.int (1 : Int32)), (.ref b272), (.ref b272), (.ref b267), (.ref b267)])) rfl rfl (hb hby d_method_7_134)
            rw [R_c1.2] at W284
            have V284 : Arv Z h284 b272 k272 .char (5 : Int32) [(.int c0), (.int c1), (.int (0 : Int32)), (.int (0 : Int32)), (.int (0 : Int32))] (.int (0 : Int32)) := Arv.set Ar284 q284 S284 Nn284 Hh284 Gg284 (by rw [← R_c1.2]; exact fits_nar_char _) W284 1 rfl (Nat.le_of_ble_eq_true rfl)
            have N284 := Fr.snoc X284 N278 ge_b272
            have CR285 := CR279.trans (CHr.wr W284 (Safe.arv hZ.alike V278 (by decide)) CR279.1)
            have Sf285_b267 := Safe.wr W284 (Safe.arv hZ.alike V278 (by decide)) CR279.1 Sf279_b267
            have K286 : Go p e below T284 (mkF m 135 #[.val (.int n), .val (.int c0), .val (.int c1), .val (.int c2), .val (.int c3), .val (.int c4)] [(.ref b272), (.ref b267), (.ref b267)]) G := fun tq kq => K283 tq (st284 tq kq)
            have K287 : Go p e below T284 (mkF m 136 #[.val (.int n), .val (.int c0), .val (.int c1), .val (.int c2), .val (.int c3), .val (.int c4)] [(.ref b272), (.ref b272), (.ref b267), (.ref b267)]) G := fun tq kq => K286 tq (XS.dup X284.here hx rfl (hb hby d_method_7_135) rfl rfl kq)
            have K288 : Go p e below T284 (mkF m 137 #[.val (.int n), .val (.int c0), .val (.int c1), .val (.int c2), .val (.int c3), .val (.int c4)] [(.int (2 : Int32)), (.ref b272), (.ref b272), (.ref b267), (.ref b267)]) G := fun tq kq => K287 tq (XS.iconst X284.here hx rfl (hb hby d_method_7_136) kq)
            have K289 : Go p e below T284 (mkF m 138 #[.val (.int n), .val (.int c0), .val (.int c1), .val (.int c2), .val (.int c3), .val (.int c4)] [(.int c2), (.int (2 : Int32)), (.ref b272), (.ref b272), (.ref b267), (.ref b267)]) G := fun tq kq => K288 tq (XS.iloadN X284.here hx rfl (hb hby d_method_7_137) rfl kq)
            obtain ⟨cl290, Ar290, q290, S290, Nn290, Hh290, Gg290⟩ := id V284
            have hin290 : ¬ ((2 : Int32) < 0 ∨ cl290.slots.size ≤ ((2 : Int32)).toNatClampNeg) := inb_of S290 ⟨by decide, by decide⟩
            obtain ⟨T290, h290, X290, e290, W290, st290⟩ := stC X284 hx hZ e284 Ar290 (j := (2 : Int32)) hin290 (g := (mkF m 138 #[.val (.int n), .val (.int c0), .val (.int c1), .val (.int c2), .val (.int c3), .val (.int c4)] [(.int c2), (.int (2 : Int32)), (.ref b272), (.ref b272), (.ref b267), (.ref b267)])) rfl rfl (hb hby d_method_7_138)
            rw [R_c2.2] at W290
            have V290 : Arv Z h290 b272 k272 .char (5 : Int32) [(.int c0), (.int c1), (.int c2), (.int (0 : Int32)), (.int (0 : Int32))] (.int (0 : Int32)) := Arv.set Ar290 q290 S290 Nn290 Hh290 Gg290 (by rw [← R_c2.2]; exact fits_nar_char _) W290 2 rfl (Nat.le_of_ble_eq_true rfl)
            have N290 := Fr.snoc X290 N284 ge_b272
            have CR291 := CR285.trans (CHr.wr W290 (Safe.arv hZ.alike V284 (by decide)) CR285.1)
            have Sf291_b267 := Safe.wr W290 (Safe.arv hZ.alike V284 (by decide)) CR285.1 Sf285_b267
            have K292 : Go p e below T290 (mkF m 139 #[.val (.int n), .val (.int c0), .val (.int c1), .val (.int c2), .val (.int c3), .val (.int c4)] [(.ref b272), (.ref b267), (.ref b267)]) G := fun tq kq => K289 tq (st290 tq kq)
            have K293 : Go p e below T290 (mkF m 140 #[.val (.int n), .val (.int c0), .val (.int c1), .val (.int c2), .val (.int c3), .val (.int c4)] [(.ref b272), (.ref b272), (.ref b267), (.ref b267)]) G := fun tq kq => K292 tq (XS.dup X290.here hx rfl (hb hby d_method_7_139) rfl rfl kq)
            have K294 : Go p e below T290 (mkF m 141 #[.val (.int n), .val (.int c0), .val (.int c1), .val (.int c2), .val (.int c3), .val (.int c4)] [(.int (3 : Int32)), (.ref b272), (.ref b272), (.ref b267), (.ref b267)]) G := fun tq kq => K293 tq (XS.iconst X290.here hx rfl (hb hby d_method_7_140) kq)
            have K295 : Go p e below T290 (mkF m 143 #[.val (.int n), .val (.int c0), .val (.int c1), .val (.int c2), .val (.int c3), .val (.int c4)] [(.int c3), (.int (3 : Int32)), (.ref b272), (.ref b272), (.ref b267), (.ref b267)]) G := fun tq kq => K294 tq (XS.iload X290.here hx rfl (hb hby d_method_7_141) rfl kq)
            obtain ⟨cl296, Ar296, q296, S296, Nn296, Hh296, Gg296⟩ := id V290
            have hin296 : ¬ ((3 : Int32) < 0 ∨ cl296.slots.size ≤ ((3 : Int32)).toNatClampNeg) := inb_of S296 ⟨by decide, by decide⟩
            obtain ⟨T296, h296, X296, e296, W296, st296⟩ := stC X290 hx hZ e290 Ar296 (j := (3 : Int32)) hin296 (g := (mkF m 143 #[.val (.int n), .val (.int c0), .val (.int c1), .val (.int c2), .val (.int c3), .val (.int c4)] [(.int c3), (.int (3 : Int32)), (.ref b272), (.ref b272), (.ref b267), (.ref b267)])) rfl rfl (hb hby d_method_7_143)
            rw [R_c3.2] at W296
            have V296 : Arv Z h296 b272 k272 .char (5 : Int32) [(.int c0), (.int c1), (.int c2), (.int c3), (.int (0 : Int32))] (.int (0 : Int32)) := Arv.set Ar296 q296 S296 Nn296 Hh296 Gg296 (by rw [← R_c3.2]; exact fits_nar_char _) W296 3 rfl (Nat.le_of_ble_eq_true rfl)
            have N296 := Fr.snoc X296 N290 ge_b272
            have CR297 := CR291.trans (CHr.wr W296 (Safe.arv hZ.alike V290 (by decide)) CR291.1)
            have Sf297_b267 := Safe.wr W296 (Safe.arv hZ.alike V290 (by decide)) CR291.1 Sf291_b267
            have K298 : Go p e below T296 (mkF m 144 #[.val (.int n), .val (.int c0), .val (.int c1), .val (.int c2), .val (.int c3), .val (.int c4)] [(.ref b272), (.ref b267), (.ref b267)]) G := fun tq kq => K295 tq (st296 tq kq)
            have K299 : Go p e below T296 (mkF m 145 #[.val (.int n), .val (.int c0), .val (.int c1), .val (.int c2), .val (.int c3), .val (.int c4)] [(.ref b272), (.ref b272), (.ref b267), (.ref b267)]) G := fun tq kq => K298 tq (XS.dup X296.here hx rfl (hb hby d_method_7_144) rfl rfl kq)
            have K300 : Go p e below T296 (mkF m 146 #[.val (.int n), .val (.int c0), .val (.int c1), .val (.int c2), .val (.int c3), .val (.int c4)] [(.int (4 : Int32)), (.ref b272), (.ref b272), (.ref b267), (.ref b267)]) G := fun tq kq => K299 tq (XS.iconst X296.here hx rfl (hb hby d_method_7_145) kq)
            have K301 : Go p e below T296 (mkF m 148 #[.val (.int n), .val (.int c0), .val (.int c1), .val (.int c2), .val (.int c3), .val (.int c4)] [(.int c4), (.int (4 : Int32)), (.ref b272), (.ref b272), (.ref b267), (.ref b267)]) G := fun tq kq => K300 tq (XS.iload X296.here hx rfl (hb hby d_method_7_146) rfl kq)
            obtain ⟨cl302, Ar302, q302, S302, Nn302, Hh302, Gg302⟩ := id V296
            have hin302 : ¬ ((4 : Int32) < 0 ∨ cl302.slots.size ≤ ((4 : Int32)).toNatClampNeg) := inb_of S302 ⟨by decide, by decide⟩
            obtain ⟨T302, h302, X302, e302, W302, st302⟩ := stC X296 hx hZ e296 Ar302 (j := (4 : Int32)) hin302 (g := (mkF m 148 #[.val (.int n), .val (.int c0), .val (.int c1), .val (.int c2), .val (.int c3), .val (.int c4)] [(.int c4), (.int (4 : Int32)), (.ref b272), (.ref b272), (.ref b267), (.ref b267)])) rfl rfl (hb hby d_method_7_148)
            rw [R_c4.2] at W302
            have V302 : Arv Z h302 b272 k272 .char (5 : Int32) [(.int c0), (.int c1), (.int c2), (.int c3), (.int c4)] (.int (0 : Int32)) := Arv.set Ar302 q302 S302 Nn302 Hh302 Gg302 (by rw [← R_c4.2]; exact fits_nar_char _) W302 4 rfl (Nat.le_of_ble_eq_true rfl)
            have N302 := Fr.snoc X302 N296 ge_b272
            have CR303 := CR297.trans (CHr.wr W302 (Safe.arv hZ.alike V296 (by decide)) CR297.1)
            have Sf303_b267 := Safe.wr W302 (Safe.arv hZ.alike V296 (by decide)) CR297.1 Sf297_b267
            have K304 : Go p e below T302 (mkF m 149 #[.val (.int n), .val (.int c0), .val (.int c1), .val (.int c2), .val (.int c3), .val (.int c4)] [(.ref b272), (.ref b267), (.ref b267)]) G := fun tq kq => K301 tq (st302 tq kq)
            have hp305 : ∀ c ∈ ([c0, c1, c2, c3, c4] : List Int32), ¬ c < 0 ∧ ¬ (255 : Int32) < c := by
              intro c hc
              simp only [List.mem_cons, List.not_mem_nil, or_false] at hc
              rcases hc with rfl | rfl | rfl | rfl | rfl
              · exact R_c0.1
              · exact R_c1.1
              · exact R_c2.1
              · exact R_c3.1
              · exact R_c4.1
            obtain ⟨v306, _, ⟨T306, L306, k306, n306⟩, -, X306, ⟨Lc306, hQ306, l306, y306, z306⟩, st306⟩ := X302.specialBack hx (y := (⟨"java/lang/String", "<init>", "([C)V"⟩ : MethodName)) rfl hown (mvT hZ (hW 12 _ rfl)) (mvT hZ (hW 13 _ rfl)) (mvT hZ (hW 14 _ rfl)) (by decide) (StrChars.Road.backV (W := 1) hZ hws (kI := 4) (hW 9 _ rfl) (cs := ([c0, c1, c2, c3, c4] : List Int32)) (bs := (([c0, c1, c2, c3, c4] : List Int32)).map (fun c => c.toInt8.toInt32)) (n := 5) ge_b267 (Nat.le_trans (Nat.le_trans (Nat.le_trans (Nat.le_trans (Nat.le_trans (Nat.le_trans (Nat.le_trans Z0 E267.1) E272.1) (Keep.of_wr W278).1) (Keep.of_wr W284).1) (Keep.of_wr W290).1) (Keep.of_wr W296).1) (Keep.of_wr W302).1) ((((((A267.ext E272).wr W278).wr W284).wr W290).wr W296).wr W302) ((((((F267_value.ext E272).other W278 (Or.inl ne272_b267)).other W284 (Or.inl ne272_b267)).other W290 (Or.inl ne272_b267)).other W296 (Or.inl ne272_b267)).other W302 (Or.inl ne272_b267)) ((((((F267_coder.ext E272).other W278 (Or.inl ne272_b267)).other W284 (Or.inl ne272_b267)).other W290 (Or.inl ne272_b267)).other W296 (Or.inl ne272_b267)).other W302 (Or.inl ne272_b267)) V302 (S_cs.ext (((((((O0.ext E267).ext E272).wr W278 ge_b272).wr W284 ge_b272).wr W290 ge_b272).wr W296 ge_b272).wr W302 ge_b272).2) hcz rfl rfl (by decide) (by decide) hp305 rfl (by decide) (by decide)) (g := (mkF m 149 #[.val (.int n), .val (.int c0), .val (.int c1), .val (.int c2), .val (.int c3), .val (.int c4)] [(.ref b272), (.ref b267), (.ref b267)])) rfl (by rw [hml]; rfl) (Steps.refl _) (a := b267) (argsL := [(.ref b272)]) (rest := [(.ref b267)]) (lenOf pd_122 rfl) rfl (by show 2 * 0 + _ ≤ _; exact Nat.le_of_eq rfl) (hb hby d_method_7_149) (fun _ _ => ⟨rfl, e302, (by decide : 2 + 1 ≤ _), (by decide : 9 + 5 ≤ _)⟩)
            dsimp only [Pt.U, Pt.locs, Pt.cells, Pt.slots] at X306 l306 y306 z306 st306 hQ306
            subst l306 y306 z306
            obtain ⟨rfl, N306q, K306q, E306q, FC306q, t306, kb306, get306, szt306, net306, FV306q, VB306q⟩ := hQ306
            have N306 := Fr.app N302 N306q
            have CR307 := CR303.trans (CHr.keep K306q (sfS Sf303_b267 sf0) CR303.1)
            have Sf307_b267 := Safe.keep K306q (sfS Sf303_b267 sf0) CR303.1 Sf303_b267
            have K308 : Go p e below T306 (mkF m 152 #[.val (.int n), .val (.int c0), .val (.int c1), .val (.int c2), .val (.int c3), .val (.int c4)] [(.ref b267)]) G := fun tq kq => K304 tq (st306.trans kq)
            obtain ⟨fs, hr, hrun, hended, hRE⟩ := X306.leaveW (s := s) hS0 (by first | exact (Nat.le_trans (Nat.le_trans (Nat.le_trans (Nat.le_trans (Nat.le_trans (Nat.le_trans (Nat.le_trans (Nat.le_trans (Nat.zero_le _) E267.1) E272.1) (Keep.of_wr W278).1) (Keep.of_wr W284).1) (Keep.of_wr W290).1) (Keep.of_wr W296).1) (Keep.of_wr W302).1) K306q.1) | (rw [rfl]; exact (Nat.le_trans (Nat.le_trans (Nat.le_trans (Nat.le_trans (Nat.le_trans (Nat.le_trans (Nat.le_trans (Nat.le_trans (Nat.zero_le _) E267.1) E272.1) (Keep.of_wr W278).1) (Keep.of_wr W284).1) (Keep.of_wr W290).1) (Keep.of_wr W296).1) (Keep.of_wr W302).1) K306q.1))) (v := some (.ref b267)) (fun h => by rw [Bd.returns] at h; cases h)
            have CRe := CR307.trans (CHv.at X306 hZ hEL CR307.1)
            refine ⟨_, _, hG _ (K308 _ (retOut X306 hx Bd.returns rfl (Or.inr (Or.inr (Or.inr (Or.inr ⟨rfl, rfl, rfl⟩)))) (hb hby d_method_7_152) hr)), hrun, hended, _, _, rfl, ?_, (by show CHr Z own_EL s.vm s.heap T306.vm T306.heap; rw [hh]; exact CRe), hRE.1, hRE.2.1, hRE.2.2.1, hRE.2.2.2.mono (by decide) (by decide)⟩
            show QTX Z n c0 c1 c2 c3 c4 cz h0 n0 _ T306.heap _
            exact ⟨b267, t306, kb306, _, _, rfl, N306, (((((((((Keep.refl h0 []).ext E267).ext E272).wr W278 (Or.inr sz_b272)).wr W284 (Or.inr sz_b272)).wr W290 (Or.inr sz_b272)).wr W296 (Or.inr sz_b272)).wr W302 (Or.inr sz_b272)).trans K306q (allS (Or.inr sz_b267) all0)), E306q, FV306q, FC306q, VB306q, by rw [own_tx]; simp only [hc125, hc141, hc164, hc193, hc228, if_true, if_false]; exact StrChars.Road.codOf (cs := ([c0, c1, c2, c3, c4] : List Int32)) rfl (fun c hc => (hp305 c hc).2)⟩
def own_go : List Int32 → Int32 → Int32
  | [], n => n
  | c :: r, n => if c = (101 : Int32) ∨ c = (69 : Int32) then n else if (¬ (c < (49 : Int32)) ∧ ¬ ((57 : Int32) < c)) ∨ (c = (48 : Int32) ∧ (0 : Int32) < n) then own_go r (n + 1) else own_go r n
theorem own_ofNat (a : Nat) (h : a ≤ 4000) : (Int32.ofNat a).toInt = a := Int32.toInt_ofNat_small (by omega)
theorem own_lt (a b : Nat) (h : a < b) (hb : b ≤ 4000) : Int32.ofNat a < Int32.ofNat b := by
  rw [Int32.lt_iff_toInt_lt, own_ofNat a (by omega), own_ofNat b hb]
  omega
theorem own_succ (a : Nat) (h : a < 4000) : Int32.ofNat a + (1 : Int32) = Int32.ofNat (a + 1) := by
  rw [← Int32.toInt_inj, own_ofNat (a + 1) (by omega)]
  have c := c_iadd (Int32.ofNat a) (1 : Int32)
  rw [own_ofNat a (by omega), own_I1] at c
  have r := rng32 (Int32.ofNat a + (1 : Int32))
  omega
theorem pn_233 : plainName "com/example/tallyrule/tallyrule/Decimals" = true := by first | (simp [plainName, overriddenIn]; done) | decide +kernel
theorem ef_prog_5_method_7_R (m : MethodId) (x0 : Addr) : entryFrame m #[(.ref x0)] 4 = mkF m 0 #[.val (.ref x0), .unset, .unset, .unset] [] := by first | (simp [entryFrame, mkF, argsToLocals, Value.category]; done) | rfl
theorem pd_235 : parseMethodDescriptor "()I" = some ⟨[], some .int⟩ := by decide +kernel
theorem pd_236 : parseMethodDescriptor "(I)C" = some ⟨[.int], some .char⟩ := by decide +kernel
theorem d_prog_5_method_7_0 : decode prog_5_method_7_code 0 = .ok (.iconst 0, 1) := by decide +kernel
theorem d_prog_5_method_7_1 : decode prog_5_method_7_code 1 = .ok (.istore_n 1, 1) := by decide +kernel
theorem d_prog_5_method_7_2 : decode prog_5_method_7_code 2 = .ok (.iconst 0, 1) := by decide +kernel
theorem d_prog_5_method_7_3 : decode prog_5_method_7_code 3 = .ok (.istore_n 2, 1) := by decide +kernel
theorem d_prog_5_method_7_4 : decode prog_5_method_7_code 4 = .ok (.iload_n 2, 1) := by decide +kernel
theorem d_prog_5_method_7_5 : decode prog_5_method_7_code 5 = .ok (.aload_n 0, 1) := by decide +kernel
theorem d_prog_5_method_7_6 : decode prog_5_method_7_code 6 = .ok (.invokevirtual 21, 3) := by decide +kernel
theorem d_prog_5_method_7_9 : decode prog_5_method_7_code 9 = .ok (.if_icmp .ge 55, 3) := by decide +kernel
theorem d_prog_5_method_7_12 : decode prog_5_method_7_code 12 = .ok (.aload_n 0, 1) := by decide +kernel
theorem d_prog_5_method_7_13 : decode prog_5_method_7_code 13 = .ok (.iload_n 2, 1) := by decide +kernel
theorem d_prog_5_method_7_14 : decode prog_5_method_7_code 14 = .ok (.invokevirtual 25, 3) := by decide +kernel
theorem d_prog_5_method_7_17 : decode prog_5_method_7_code 17 = .ok (.istore_n 3, 1) := by decide +kernel
theorem d_prog_5_method_7_18 : decode prog_5_method_7_code 18 = .ok (.iload_n 3, 1) := by decide +kernel
theorem d_prog_5_method_7_19 : decode prog_5_method_7_code 19 = .ok (.bipush 101, 2) := by decide +kernel
theorem d_prog_5_method_7_21 : decode prog_5_method_7_code 21 = .ok (.if_icmp .eq 43, 3) := by decide +kernel
theorem d_prog_5_method_7_24 : decode prog_5_method_7_code 24 = .ok (.iload_n 3, 1) := by decide +kernel
theorem d_prog_5_method_7_25 : decode prog_5_method_7_code 25 = .ok (.bipush 69, 2) := by decide +kernel
theorem d_prog_5_method_7_27 : decode prog_5_method_7_code 27 = .ok (.if_icmp .ne 6, 3) := by decide +kernel
theorem d_prog_5_method_7_30 : decode prog_5_method_7_code 30 = .ok (.goto 34, 3) := by decide +kernel
theorem d_prog_5_method_7_33 : decode prog_5_method_7_code 33 = .ok (.iload_n 3, 1) := by decide +kernel
theorem d_prog_5_method_7_34 : decode prog_5_method_7_code 34 = .ok (.bipush 49, 2) := by decide +kernel
theorem d_prog_5_method_7_36 : decode prog_5_method_7_code 36 = .ok (.if_icmp .lt 9, 3) := by decide +kernel
theorem d_prog_5_method_7_39 : decode prog_5_method_7_code 39 = .ok (.iload_n 3, 1) := by decide +kernel
theorem d_prog_5_method_7_40 : decode prog_5_method_7_code 40 = .ok (.bipush 57, 2) := by decide +kernel
theorem d_prog_5_method_7_42 : decode prog_5_method_7_code 42 = .ok (.if_icmp .le 13, 3) := by decide +kernel
theorem d_prog_5_method_7_45 : decode prog_5_method_7_code 45 = .ok (.iload_n 3, 1) := by decide +kernel
theorem d_prog_5_method_7_46 : decode prog_5_method_7_code 46 = .ok (.bipush 48, 2) := by decide +kernel
theorem d_prog_5_method_7_48 : decode prog_5_method_7_code 48 = .ok (.if_icmp .ne 10, 3) := by decide +kernel
theorem d_prog_5_method_7_51 : decode prog_5_method_7_code 51 = .ok (.iload_n 1, 1) := by decide +kernel
theorem d_prog_5_method_7_52 : decode prog_5_method_7_code 52 = .ok (.ifCond .le 6, 3) := by decide +kernel
theorem d_prog_5_method_7_55 : decode prog_5_method_7_code 55 = .ok (.iinc 1 1, 3) := by decide +kernel
theorem d_prog_5_method_7_58 : decode prog_5_method_7_code 58 = .ok (.iinc 2 1, 3) := by decide +kernel
theorem d_prog_5_method_7_61 : decode prog_5_method_7_code 61 = .ok (.goto (-57), 3) := by decide +kernel
theorem d_prog_5_method_7_64 : decode prog_5_method_7_code 64 = .ok (.iload_n 1, 1) := by decide +kernel
theorem d_prog_5_method_7_65 : decode prog_5_method_7_code 65 = .ok (.ireturn, 1) := by decide +kernel
def QSG (Z : State) (a : Addr) (t : Addr) (kb : ClassId) (N2 : Int32) (vs : List Value) (cs : List Int32) (cz : Int32) (fm : Value) (h0 : Heap) (n0 : Nat) (v : Option Value) (h : Heap) (L : List Loc) : Prop := v = some (.int (own_go cs (0 : Int32))) ∧ Fr n0 L ∧ h = h0
set_option maxRecDepth 65536 in
set_option maxHeartbeats 40000000 in
theorem rmSG (l : Launch) (Z : State) (a0 : Array Value) (hw : ∀ d ∈ tables_1, d.before a0 Z = true) (ws : List Jvm.Cond) (a : Addr) (t : Addr) (kb : ClassId) (N2 : Int32) (vs : List Value) (cs : List Int32) (cz : Int32) (fm : Value) (h0 : Heap) (n0 : Nat) (Z0 : n0 ≤ h0.size) (O0 : Old Z n0 h0) (S_cs : Sta Z Z.heap "java/lang/String" "COMPACT_STRINGS" "Z" (.int cz)) (hcz : ¬ cz = 0) (E_a : Exa Z h0 a "java/lang/String") (S_fm : Sta Z Z.heap "jdk/internal/util/Preconditions" "SIOOBE_FORMATTER" "Ljava/util/function/BiFunction;" fm) (rfm : fm.isRef = true) (FV : Fld Z h0 a "java/lang/String" "value" "[B" (.ref t)) (FC : Fld Z h0 a "java/lang/String" "coder" "B" (.int (0 : Int32))) (AV : Arv Z h0 t kb .byte N2 vs (.int (0 : Int32))) (CD : StrChars.Road.CodA cs 0 N2 vs) (hb5 : ∀ c ∈ cs, ¬ c < 0 ∧ ¬ (65535 : Int32) < c) (hl : cs.length ≤ 4000) :
    MetFree l (⟨"com/example/tallyrule/tallyrule/Decimals", "significantDigits", "(Ljava/lang/String;)I"⟩ : MethodName) (head1 (Jvm.Cond.code (⟨"com/example/tallyrule/tallyrule/Decimals", "significantDigits", "(Ljava/lang/String;)I"⟩ : MethodName) prog_5_method_7_code 4 (some .int) :: ws) ({ frames := 4, cells := 0, slots := 0, locals := 53 } : Room)) (fun aa UU => aa = #[(.ref a)] ∧ Z.Warmed39 UU.vm ∧ UU.heap = h0) (fun _ _ _ _ _ => True) (fun _ UU oo UU' => ∃ vv LL, oo = .returned vv ∧ QSG Z a t kb N2 vs cs cz fm h0 n0 vv UU'.heap LL ∧ FrameEnd UU oo UU' LL ({ frames := 4, cells := 0, slots := 0, locals := 53 } : Room).cells ({ frames := 4, cells := 0, slots := 0, locals := 53 } : Room).slots) := by
  refine MetFree.of_bodySF (plainFor_of_name pn_233) hisR ?_
  intro p e s m args below meth c s₁ Bd hml0 hP hK
  obtain ⟨rfl, hZ, hh⟩ := hP
  have hx := Bd.exec
  have hby := Bd.bytes
  have hml : c.maxLocals = 4 := hml0
  have hown : s.vm.findClass "com/example/tallyrule/tallyrule/Decimals" = some m.cls := findClass_of_methodNamed Bd.named
  have hnm := (name_of_methodNamed Bd.named Bd.method).1
  have hW : ∀ (k : Nat) (d : Jvm.Cond), tables_1[k]? = some d → d.before a0 Z = true := fun k d h => hw d (List.mem_of_getElem? h)
  have X0 : Stand p l e ({ frames := 4, cells := 0, slots := 0, locals := 53 } : Room) s m #[(.ref a)] below meth c s₁ [] 0 0 := Stand.of_body Bd
  have e0 : s₁.heap = h0 := by rw [← hh, Bd.state]; rfl
  have N0 := Fr.nil n0
  obtain ⟨G, hG, K0⟩ : ∃ G : State → Prop, (∀ tq, G tq → Steps p.tables e below (s₁.setTop (entryFrame m #[(.ref a)] 4)) tq) ∧ Go p e below s₁ (mkF m 0 #[.val (.ref a), .unset, .unset, .unset] []) G := ⟨fun tq => Steps p.tables e below (s₁.setTop (entryFrame m #[(.ref a)] 4)) tq, fun _ h => h, fun tq kq => castTop (ef_prog_5_method_7_R m a) kq⟩
  have hwl : ∀ d ∈ StrChars.Road.wordsLen, d.before a0 Z = true := fun d hd => hw d ((by decide +kernel : ∀ d ∈ StrChars.Road.wordsLen, d ∈ tables_1) d hd)
  have hwc : ∀ d ∈ StrChars.Road.wordsChN, d.before a0 Z = true := fun d hd => hw d ((by decide +kernel : ∀ d ∈ StrChars.Road.wordsChN, d ∈ tables_1) d hd)
  have K309 : Go p e below s₁ (mkF m 1 #[.val (.ref a), .unset, .unset, .unset] [(.int (0 : Int32))]) G := fun tq kq => K0 tq (XS.iconst X0.here hx rfl (hb hby d_prog_5_method_7_0) kq)
  have K310 : Go p e below s₁ (mkF m 2 #[.val (.ref a), .val (.int (0 : Int32)), .unset, .unset] []) G := fun tq kq => K309 tq (XS.istoreN X0.here hx rfl (hb hby d_prog_5_method_7_1) rfl (l' := #[.val (.ref a), .val (.int (0 : Int32)), .unset, .unset]) rfl kq)
  have K311 : Go p e below s₁ (mkF m 3 #[.val (.ref a), .val (.int (0 : Int32)), .unset, .unset] [(.int (0 : Int32))]) G := fun tq kq => K310 tq (XS.iconst X0.here hx rfl (hb hby d_prog_5_method_7_2) kq)
  have K312 : Go p e below s₁ (mkF m 4 #[.val (.ref a), .val (.int (0 : Int32)), .val (.int (0 : Int32)), .unset] []) G := fun tq kq => K311 tq (XS.istoreN X0.here hx rfl (hb hby d_prog_5_method_7_3) rfl (l' := #[.val (.ref a), .val (.int (0 : Int32)), .val (.int (0 : Int32)), .unset]) rfl kq)
  have loop : ∀ (r pre : List Int32) (nn i d : Int32) (Tl : State) (Ll : List Loc), cs = pre ++ r → i = Int32.ofNat pre.length → Stand p l e ({ frames := 4, cells := 0, slots := 0, locals := 53 } : Room) s m #[(.ref a)] below meth c Tl Ll 0 0 → Tl.heap = h0 → Fr n0 Ll → Go p e below Tl (mkF m 4 #[.val (.ref a), .val (.int nn), .val (.int i), .val (.int d)] []) G → ∃ (Tx : State) (Lx : List Loc) (ix : Int32) (sx : Slot), Stand p l e ({ frames := 4, cells := 0, slots := 0, locals := 53 } : Room) s m #[(.ref a)] below meth c Tx Lx 0 0 ∧ Tx.heap = h0 ∧ Fr n0 Lx ∧ Go p e below Tx (mkF m 64 #[.val (.ref a), .val (.int (own_go r nn)), .val (.int ix), sx] []) G := by
    intro r
    induction r with
    | nil =>
      intro pre nn i d Tl Ll hcs hi Xl el Nl Kl
      rw [List.append_nil] at hcs
      have hil : ¬ (i < (Int32.ofNat cs.length)) := by
        rw [hi, hcs]
        simp
      have K313 : Go p e below Tl (mkF m 5 #[.val (.ref a), .val (.int nn), .val (.int i), .val (.int d)] [(.int i)]) G := fun tq kq => Kl tq (XS.iloadN Xl.here hx rfl (hb hby d_prog_5_method_7_4) rfl kq)
      have K314 : Go p e below Tl (mkF m 6 #[.val (.ref a), .val (.int nn), .val (.int i), .val (.int d)] [(.ref a), (.int i)]) G := fun tq kq => K313 tq (XS.aloadN Xl.here hx rfl (hb hby d_prog_5_method_7_5) rfl rfl kq)
      obtain ⟨cq315, kq315, q315a, q315b, q315c⟩ := isOf hZ el E_a
      obtain ⟨v315, _, ⟨T315, L315, k315, n315⟩, -, X315, ⟨Lc315, hQ315, l315, y315, z315⟩, st315⟩ := Xl.virtualBack hx (y := (⟨"java/lang/String", "length", "()I"⟩ : MethodName)) (z := (⟨"java/lang/String", "length", "()I"⟩ : MethodName)) hown (mvT hZ (hW 54 _ rfl)) (mvT hZ (hW 55 _ rfl)) (notFace_of_selects (args := #[]) (mvT hZ (hW 57 _ rfl))) (mvT hZ (hW 57 _ rfl)) (mvT hZ (hW 56 _ rfl)) (by decide) (StrChars.Road.lenW (W := 1) hZ hwl (kI := 4) (hW 9 _ rfl) E_a FV FC AV CD hb5 (S_cs.ext O0.2) hcz hl (by decide) (by decide)) q315a q315c (g := (mkF m 6 #[.val (.ref a), .val (.int nn), .val (.int i), .val (.int d)] [(.ref a), (.int i)])) rfl (by rw [hml]; rfl) (Steps.refl _) (argsL := []) (rest := [(.int i)]) (lenOf pd_235 rfl) rfl (by show 2 * 0 + _ ≤ _; exact Nat.le_of_eq rfl) (hb hby d_prog_5_method_7_6) (fun _ _ => ⟨rfl, el, (by decide : 0 + 0 ≤ _), (by decide : 0 + 0 ≤ _)⟩)
      dsimp only [Pt.U, Pt.locs, Pt.cells, Pt.slots] at X315 l315 y315 z315 st315 hQ315
      subst l315 y315 z315
      obtain ⟨hv315, hL315, E315q⟩ := hQ315
      subst hL315
      obtain rfl := hv315
      have N315 := Fr.app Nl (Fr.nil n0)
      have K316 : Go p e below T315 (mkF m 9 #[.val (.ref a), .val (.int nn), .val (.int i), .val (.int d)] [(.int (Int32.ofNat cs.length)), (.int i)]) G := fun tq kq => K314 tq (st315.trans kq)
      have K317 : Go p e below T315 (mkF m 64 #[.val (.ref a), .val (.int nn), .val (.int i), .val (.int d)] []) G := fun tq kq => K316 tq (XS.icmpYes X315.here hx rfl (pc0 := 9) (pc' := 64) rfl (hb hby d_prog_5_method_7_9) rfl ((flt hil).2.1) (by decide) (by decide) kq)
      exact ⟨T315, _, _, _, X315, E315q, N315, K317⟩
    | cons ch r loop =>
      intro pre nn i d Tl Ll hcs hi Xl el Nl Kl
      have hlen : cs.length = pre.length + (r.length + 1) := by rw [hcs]; simp
      have hlt : pre.length < cs.length := by omega
      have hget : cs.getD pre.length 0 = ch := by rw [hcs]; simp
      have hil : i < (Int32.ofNat cs.length) := by rw [hi]; exact own_lt _ _ hlt hl
      have K318 : Go p e below Tl (mkF m 5 #[.val (.ref a), .val (.int nn), .val (.int i), .val (.int d)] [(.int i)]) G := fun tq kq => Kl tq (XS.iloadN Xl.here hx rfl (hb hby d_prog_5_method_7_4) rfl kq)
      have K319 : Go p e below Tl (mkF m 6 #[.val (.ref a), .val (.int nn), .val (.int i), .val (.int d)] [(.ref a), (.int i)]) G := fun tq kq => K318 tq (XS.aloadN Xl.here hx rfl (hb hby d_prog_5_method_7_5) rfl rfl kq)
      obtain ⟨cq320, kq320, q320a, q320b, q320c⟩ := isOf hZ el E_a
      obtain ⟨v320, _, ⟨T320, L320, k320, n320⟩, -, X320, ⟨Lc320, hQ320, l320, y320, z320⟩, st320⟩ := Xl.virtualBack hx (y := (⟨"java/lang/String", "length", "()I"⟩ : MethodName)) (z := (⟨"java/lang/String", "length", "()I"⟩ : MethodName)) hown (mvT hZ (hW 54 _ rfl)) (mvT hZ (hW 55 _ rfl)) (notFace_of_selects (args := #[]) (mvT hZ (hW 57 _ rfl))) (mvT hZ (hW 57 _ rfl)) (mvT hZ (hW 56 _ rfl)) (by decide) (StrChars.Road.lenW (W := 1) hZ hwl (kI := 4) (hW 9 _ rfl) E_a FV FC AV CD hb5 (S_cs.ext O0.2) hcz hl (by decide) (by decide)) q320a q320c (g := (mkF m 6 #[.val (.ref a), .val (.int nn), .val (.int i), .val (.int d)] [(.ref a), (.int i)])) rfl (by rw [hml]; rfl) (Steps.refl _) (argsL := []) (rest := [(.int i)]) (lenOf pd_235 rfl) rfl (by show 2 * 0 + _ ≤ _; exact Nat.le_of_eq rfl) (hb hby d_prog_5_method_7_6) (fun _ _ => ⟨rfl, el, (by decide : 0 + 0 ≤ _), (by decide : 0 + 0 ≤ _)⟩)
      dsimp only [Pt.U, Pt.locs, Pt.cells, Pt.slots] at X320 l320 y320 z320 st320 hQ320
      subst l320 y320 z320
      obtain ⟨hv320, hL320, E320q⟩ := hQ320
      subst hL320
      obtain rfl := hv320
      have N320 := Fr.app Nl (Fr.nil n0)
      have K321 : Go p e below T320 (mkF m 9 #[.val (.ref a), .val (.int nn), .val (.int i), .val (.int d)] [(.int (Int32.ofNat cs.length)), (.int i)]) G := fun tq kq => K319 tq (st320.trans kq)
      have K322 : Go p e below T320 (mkF m 12 #[.val (.ref a), .val (.int nn), .val (.int i), .val (.int d)] []) G := fun tq kq => K321 tq (XS.icmpNo X320.here hx rfl (hb hby d_prog_5_method_7_9) rfl ((tlt hil).2.1) kq)
      have K323 : Go p e below T320 (mkF m 13 #[.val (.ref a), .val (.int nn), .val (.int i), .val (.int d)] [(.ref a)]) G := fun tq kq => K322 tq (XS.aloadN X320.here hx rfl (hb hby d_prog_5_method_7_12) rfl rfl kq)
      have K324 : Go p e below T320 (mkF m 14 #[.val (.ref a), .val (.int nn), .val (.int i), .val (.int d)] [(.int i), (.ref a)]) G := fun tq kq => K323 tq (XS.iloadN X320.here hx rfl (hb hby d_prog_5_method_7_13) rfl kq)
      obtain ⟨cq325, kq325, q325a, q325b, q325c⟩ := isOf hZ E320q E_a
      obtain ⟨v325, _, ⟨T325, L325, k325, n325⟩, -, X325, ⟨Lc325, hQ325, l325, y325, z325⟩, st325⟩ := X320.virtualBack hx (y := (⟨"java/lang/String", "charAt", "(I)C"⟩ : MethodName)) (z := (⟨"java/lang/String", "charAt", "(I)C"⟩ : MethodName)) hown (mvT hZ (hW 64 _ rfl)) (mvT hZ (hW 65 _ rfl)) (notFace_of_selects (args := #[]) (mvT hZ (hW 67 _ rfl))) (mvT hZ (hW 67 _ rfl)) (mvT hZ (hW 66 _ rfl)) (by decide) (StrChars.Road.chN (W := 0) hZ hwc (kI := 4) (hW 9 _ rfl) (i := pre.length) E_a FV FC AV CD hb5 (S_cs.ext O0.2) hcz (S_fm.ext O0.2) rfm hl hlt hi (by decide) (by decide)) q325a q325c (g := (mkF m 14 #[.val (.ref a), .val (.int nn), .val (.int i), .val (.int d)] [(.int i), (.ref a)])) rfl (by rw [hml]; rfl) (Steps.refl _) (argsL := [(.int i)]) (rest := []) (lenOf pd_236 rfl) rfl (by show 2 * 0 + _ ≤ _; exact Nat.le_of_eq rfl) (hb hby d_prog_5_method_7_14) (fun _ _ => ⟨rfl, E320q, (by decide : 0 + 0 ≤ _), (by decide : 0 + 0 ≤ _)⟩)
      dsimp only [Pt.U, Pt.locs, Pt.cells, Pt.slots] at X325 l325 y325 z325 st325 hQ325
      subst l325 y325 z325
      obtain ⟨hv325, hL325, E325q⟩ := hQ325
      subst hL325
      rw [hget] at hv325
      obtain rfl := hv325
      have N325 := Fr.app N320 (Fr.nil n0)
      have K326 : Go p e below T325 (mkF m 17 #[.val (.ref a), .val (.int nn), .val (.int i), .val (.int d)] [(.int ch)]) G := fun tq kq => K324 tq (st325.trans kq)
      have K327 : Go p e below T325 (mkF m 18 #[.val (.ref a), .val (.int nn), .val (.int i), .val (.int ch)] []) G := fun tq kq => K326 tq (XS.istoreN X325.here hx rfl (hb hby d_prog_5_method_7_17) rfl (l' := #[.val (.ref a), .val (.int nn), .val (.int i), .val (.int ch)]) rfl kq)
      have K328 : Go p e below T325 (mkF m 19 #[.val (.ref a), .val (.int nn), .val (.int i), .val (.int ch)] [(.int ch)]) G := fun tq kq => K327 tq (XS.iloadN X325.here hx rfl (hb hby d_prog_5_method_7_18) rfl kq)
      have K329 : Go p e below T325 (mkF m 21 #[.val (.ref a), .val (.int nn), .val (.int i), .val (.int ch)] [(.int (101 : Int32)), (.int ch)]) G := fun tq kq => K328 tq (XS.bipush X325.here hx rfl (hb hby d_prog_5_method_7_19) kq)
      by_cases hc330 : ch = (101 : Int32)
      · skip
        have K331 : Go p e below T325 (mkF m 64 #[.val (.ref a), .val (.int nn), .val (.int i), .val (.int ch)] []) G := fun tq kq => K329 tq (XS.icmpYes X325.here hx rfl (pc0 := 21) (pc' := 64) rfl (hb hby d_prog_5_method_7_21) rfl ((teq hc330).1) (by decide) (by decide) kq)
        have hgo : own_go (ch :: r) nn = nn := by rw [own_go, if_pos]; simp [hc330]
        rw [hgo]
        exact ⟨T325, _, _, _, X325, E325q, N325, K331⟩
      · skip
        have K332 : Go p e below T325 (mkF m 24 #[.val (.ref a), .val (.int nn), .val (.int i), .val (.int ch)] []) G := fun tq kq => K329 tq (XS.icmpNo X325.here hx rfl (hb hby d_prog_5_method_7_21) rfl ((feq hc330).1) kq)
        have K333 : Go p e below T325 (mkF m 25 #[.val (.ref a), .val (.int nn), .val (.int i), .val (.int ch)] [(.int ch)]) G := fun tq kq => K332 tq (XS.iloadN X325.here hx rfl (hb hby d_prog_5_method_7_24) rfl kq)
        have K334 : Go p e below T325 (mkF m 27 #[.val (.ref a), .val (.int nn), .val (.int i), .val (.int ch)] [(.int (69 : Int32)), (.int ch)]) G := fun tq kq => K333 tq (XS.bipush X325.here hx rfl (hb hby d_prog_5_method_7_25) kq)
        by_cases hc335 : ch = (69 : Int32)
        · skip
          have K336 : Go p e below T325 (mkF m 30 #[.val (.ref a), .val (.int nn), .val (.int i), .val (.int ch)] []) G := fun tq kq => K334 tq (XS.icmpNo X325.here hx rfl (hb hby d_prog_5_method_7_27) rfl ((teq hc335).2) kq)
          have K337 : Go p e below T325 (mkF m 64 #[.val (.ref a), .val (.int nn), .val (.int i), .val (.int ch)] []) G := fun tq kq => K336 tq (XS.goto X325.here hx rfl (pc0 := 30) (pc' := 64) rfl (hb hby d_prog_5_method_7_30) (by decide) (by decide) kq)
          have hgo : own_go (ch :: r) nn = nn := by rw [own_go, if_pos]; simp [hc330, hc335]
          rw [hgo]
          exact ⟨T325, _, _, _, X325, E325q, N325, K337⟩
        · skip
          have K338 : Go p e below T325 (mkF m 33 #[.val (.ref a), .val (.int nn), .val (.int i), .val (.int ch)] []) G := fun tq kq => K334 tq (XS.icmpYes X325.here hx rfl (pc0 := 27) (pc' := 33) rfl (hb hby d_prog_5_method_7_27) rfl ((feq hc335).2) (by decide) (by decide) kq)
          have K339 : Go p e below T325 (mkF m 34 #[.val (.ref a), .val (.int nn), .val (.int i), .val (.int ch)] [(.int ch)]) G := fun tq kq => K338 tq (XS.iloadN X325.here hx rfl (hb hby d_prog_5_method_7_33) rfl kq)
          have K340 : Go p e below T325 (mkF m 36 #[.val (.ref a), .val (.int nn), .val (.int i), .val (.int ch)] [(.int (49 : Int32)), (.int ch)]) G := fun tq kq => K339 tq (XS.bipush X325.here hx rfl (hb hby d_prog_5_method_7_34) kq)
          by_cases hc341 : ch < (49 : Int32)
          · skip
            have K342 : Go p e below T325 (mkF m 45 #[.val (.ref a), .val (.int nn), .val (.int i), .val (.int ch)] []) G := fun tq kq => K340 tq (XS.icmpYes X325.here hx rfl (pc0 := 36) (pc' := 45) rfl (hb hby d_prog_5_method_7_36) rfl ((tlt hc341).1) (by decide) (by decide) kq)
            have K343 : Go p e below T325 (mkF m 46 #[.val (.ref a), .val (.int nn), .val (.int i), .val (.int ch)] [(.int ch)]) G := fun tq kq => K342 tq (XS.iloadN X325.here hx rfl (hb hby d_prog_5_method_7_45) rfl kq)
            have K344 : Go p e below T325 (mkF m 48 #[.val (.ref a), .val (.int nn), .val (.int i), .val (.int ch)] [(.int (48 : Int32)), (.int ch)]) G := fun tq kq => K343 tq (XS.bipush X325.here hx rfl (hb hby d_prog_5_method_7_46) kq)
            by_cases hc345 : ch = (48 : Int32)
            · skip
              have K346 : Go p e below T325 (mkF m 51 #[.val (.ref a), .val (.int nn), .val (.int i), .val (.int ch)] []) G := fun tq kq => K344 tq (XS.icmpNo X325.here hx rfl (hb hby d_prog_5_method_7_48) rfl ((teq hc345).2) kq)
              have K347 : Go p e below T325 (mkF m 52 #[.val (.ref a), .val (.int nn), .val (.int i), .val (.int ch)] [(.int nn)]) G := fun tq kq => K346 tq (XS.iloadN X325.here hx rfl (hb hby d_prog_5_method_7_51) rfl kq)
              by_cases hc348 : (0 : Int32) < nn
              · skip
                have K349 : Go p e below T325 (mkF m 55 #[.val (.ref a), .val (.int nn), .val (.int i), .val (.int ch)] []) G := fun tq kq => K347 tq (XS.ifNo X325.here hx rfl (hb hby d_prog_5_method_7_52) rfl ((if0 _ _).trans (tlt hc348).2.2.2) kq)
                have K350 : Go p e below T325 (mkF m 58 #[.val (.ref a), .val (.int (nn + (1 : Int32))), .val (.int i), .val (.int ch)] []) G := fun tq kq => K349 tq (XS.iinc X325.here hx rfl (hb hby d_prog_5_method_7_55) rfl (l' := #[.val (.ref a), .val (.int (nn + (1 : Int32))), .val (.int i), .val (.int ch)]) rfl kq)
                have K351 : Go p e below T325 (mkF m 61 #[.val (.ref a), .val (.int (nn + (1 : Int32))), .val (.int (i + (1 : Int32))), .val (.int ch)] []) G := fun tq kq => K350 tq (XS.iinc X325.here hx rfl (hb hby d_prog_5_method_7_58) rfl (l' := #[.val (.ref a), .val (.int (nn + (1 : Int32))), .val (.int (i + (1 : Int32))), .val (.int ch)]) rfl kq)
                have K352 : Go p e below T325 (mkF m 4 #[.val (.ref a), .val (.int (nn + (1 : Int32))), .val (.int (i + (1 : Int32))), .val (.int ch)] []) G := fun tq kq => K351 tq (XS.goto X325.here hx rfl (pc0 := 61) (pc' := 4) rfl (hb hby d_prog_5_method_7_61) (by decide) (by decide) kq)
                have hgo : own_go (ch :: r) nn = own_go r (nn + (1 : Int32)) := by rw [own_go, if_neg (fun q => q.elim hc330 hc335)]; simp [hc330, hc335, hc341, hc345, hc348]
                rw [hgo]
                exact loop (pre ++ [ch]) (nn + (1 : Int32)) _ ch T325 _ (by rw [hcs]; simp) (by rw [hi, own_succ _ (by omega)]; exact congrArg Int32.ofNat (by simp)) X325 E325q N325 K352
              · skip
                have K353 : Go p e below T325 (mkF m 58 #[.val (.ref a), .val (.int nn), .val (.int i), .val (.int ch)] []) G := fun tq kq => K347 tq (XS.ifYes X325.here hx rfl (pc0 := 52) (pc' := 58) rfl (hb hby d_prog_5_method_7_52) rfl ((if0 _ _).trans (flt hc348).2.2.2) (by decide) (by decide) kq)
                have K354 : Go p e below T325 (mkF m 61 #[.val (.ref a), .val (.int nn), .val (.int (i + (1 : Int32))), .val (.int ch)] []) G := fun tq kq => K353 tq (XS.iinc X325.here hx rfl (hb hby d_prog_5_method_7_58) rfl (l' := #[.val (.ref a), .val (.int nn), .val (.int (i + (1 : Int32))), .val (.int ch)]) rfl kq)
                have K355 : Go p e below T325 (mkF m 4 #[.val (.ref a), .val (.int nn), .val (.int (i + (1 : Int32))), .val (.int ch)] []) G := fun tq kq => K354 tq (XS.goto X325.here hx rfl (pc0 := 61) (pc' := 4) rfl (hb hby d_prog_5_method_7_61) (by decide) (by decide) kq)
                have hgo : own_go (ch :: r) nn = own_go r nn := by rw [own_go, if_neg (fun q => q.elim hc330 hc335)]; simp [hc330, hc335, hc341, hc345, hc348]
                rw [hgo]
                exact loop (pre ++ [ch]) nn _ ch T325 _ (by rw [hcs]; simp) (by rw [hi, own_succ _ (by omega)]; exact congrArg Int32.ofNat (by simp)) X325 E325q N325 K355
            · skip
              have K356 : Go p e below T325 (mkF m 58 #[.val (.ref a), .val (.int nn), .val (.int i), .val (.int ch)] []) G := fun tq kq => K344 tq (XS.icmpYes X325.here hx rfl (pc0 := 48) (pc' := 58) rfl (hb hby d_prog_5_method_7_48) rfl ((feq hc345).2) (by decide) (by decide) kq)
              have K357 : Go p e below T325 (mkF m 61 #[.val (.ref a), .val (.int nn), .val (.int (i + (1 : Int32))), .val (.int ch)] []) G := fun tq kq => K356 tq (XS.iinc X325.here hx rfl (hb hby d_prog_5_method_7_58) rfl (l' := #[.val (.ref a), .val (.int nn), .val (.int (i + (1 : Int32))), .val (.int ch)]) rfl kq)
              have K358 : Go p e below T325 (mkF m 4 #[.val (.ref a), .val (.int nn), .val (.int (i + (1 : Int32))), .val (.int ch)] []) G := fun tq kq => K357 tq (XS.goto X325.here hx rfl (pc0 := 61) (pc' := 4) rfl (hb hby d_prog_5_method_7_61) (by decide) (by decide) kq)
              have hgo : own_go (ch :: r) nn = own_go r nn := by rw [own_go, if_neg (fun q => q.elim hc330 hc335)]; simp [hc330, hc335, hc341, hc345]
              rw [hgo]
              exact loop (pre ++ [ch]) nn _ ch T325 _ (by rw [hcs]; simp) (by rw [hi, own_succ _ (by omega)]; exact congrArg Int32.ofNat (by simp)) X325 E325q N325 K358
          · skip
            have K359 : Go p e below T325 (mkF m 39 #[.val (.ref a), .val (.int nn), .val (.int i), .val (.int ch)] []) G := fun tq kq => K340 tq (XS.icmpNo X325.here hx rfl (hb hby d_prog_5_method_7_36) rfl ((flt hc341).1) kq)
            have K360 : Go p e below T325 (mkF m 40 #[.val (.ref a), .val (.int nn), .val (.int i), .val (.int ch)] [(.int ch)]) G := fun tq kq => K359 tq (XS.iloadN X325.here hx rfl (hb hby d_prog_5_method_7_39) rfl kq)
            have K361 : Go p e below T325 (mkF m 42 #[.val (.ref a), .val (.int nn), .val (.int i), .val (.int ch)] [(.int (57 : Int32)), (.int ch)]) G := fun tq kq => K360 tq (XS.bipush X325.here hx rfl (hb hby d_prog_5_method_7_40) kq)
            by_cases hc362 : (57 : Int32) < ch
            · skip
              have K363 : Go p e below T325 (mkF m 45 #[.val (.ref a), .val (.int nn), .val (.int i), .val (.int ch)] []) G := fun tq kq => K361 tq (XS.icmpNo X325.here hx rfl (hb hby d_prog_5_method_7_42) rfl ((tlt hc362).2.2.2) kq)
              have K364 : Go p e below T325 (mkF m 46 #[.val (.ref a), .val (.int nn), .val (.int i), .val (.int ch)] [(.int ch)]) G := fun tq kq => K363 tq (XS.iloadN X325.here hx rfl (hb hby d_prog_5_method_7_45) rfl kq)
              have K365 : Go p e below T325 (mkF m 48 #[.val (.ref a), .val (.int nn), .val (.int i), .val (.int ch)] [(.int (48 : Int32)), (.int ch)]) G := fun tq kq => K364 tq (XS.bipush X325.here hx rfl (hb hby d_prog_5_method_7_46) kq)
              by_cases hc366 : ch = (48 : Int32)
              · skip
                have K367 : Go p e below T325 (mkF m 51 #[.val (.ref a), .val (.int nn), .val (.int i), .val (.int ch)] []) G := fun tq kq => K365 tq (XS.icmpNo X325.here hx rfl (hb hby d_prog_5_method_7_48) rfl ((teq hc366).2) kq)
                have K368 : Go p e below T325 (mkF m 52 #[.val (.ref a), .val (.int nn), .val (.int i), .val (.int ch)] [(.int nn)]) G := fun tq kq => K367 tq (XS.iloadN X325.here hx rfl (hb hby d_prog_5_method_7_51) rfl kq)
                by_cases hc369 : (0 : Int32) < nn
                · skip
                  have K370 : Go p e below T325 (mkF m 55 #[.val (.ref a), .val (.int nn), .val (.int i), .val (.int ch)] []) G := fun tq kq => K368 tq (XS.ifNo X325.here hx rfl (hb hby d_prog_5_method_7_52) rfl ((if0 _ _).trans (tlt hc369).2.2.2) kq)
                  have K371 : Go p e below T325 (mkF m 58 #[.val (.ref a), .val (.int (nn + (1 : Int32))), .val (.int i), .val (.int ch)] []) G := fun tq kq => K370 tq (XS.iinc X325.here hx rfl (hb hby d_prog_5_method_7_55) rfl (l' := #[.val (.ref a), .val (.int (nn + (1 : Int32))), .val (.int i), .val (.int ch)]) rfl kq)
                  have K372 : Go p e below T325 (mkF m 61 #[.val (.ref a), .val (.int (nn + (1 : Int32))), .val (.int (i + (1 : Int32))), .val (.int ch)] []) G := fun tq kq => K371 tq (XS.iinc X325.here hx rfl (hb hby d_prog_5_method_7_58) rfl (l' := #[.val (.ref a), .val (.int (nn + (1 : Int32))), .val (.int (i + (1 : Int32))), .val (.int ch)]) rfl kq)
                  have K373 : Go p e below T325 (mkF m 4 #[.val (.ref a), .val (.int (nn + (1 : Int32))), .val (.int (i + (1 : Int32))), .val (.int ch)] []) G := fun tq kq => K372 tq (XS.goto X325.here hx rfl (pc0 := 61) (pc' := 4) rfl (hb hby d_prog_5_method_7_61) (by decide) (by decide) kq)
                  have hgo : own_go (ch :: r) nn = own_go r (nn + (1 : Int32)) := by rw [own_go, if_neg (fun q => q.elim hc330 hc335)]; simp [hc330, hc335, hc341, hc362, hc366, hc369]
                  rw [hgo]
                  exact loop (pre ++ [ch]) (nn + (1 : Int32)) _ ch T325 _ (by rw [hcs]; simp) (by rw [hi, own_succ _ (by omega)]; exact congrArg Int32.ofNat (by simp)) X325 E325q N325 K373
                · skip
                  have K374 : Go p e below T325 (mkF m 58 #[.val (.ref a), .val (.int nn), .val (.int i), .val (.int ch)] []) G := fun tq kq => K368 tq (XS.ifYes X325.here hx rfl (pc0 := 52) (pc' := 58) rfl (hb hby d_prog_5_method_7_52) rfl ((if0 _ _).trans (flt hc369).2.2.2) (by decide) (by decide) kq)
                  have K375 : Go p e below T325 (mkF m 61 #[.val (.ref a), .val (.int nn), .val (.int (i + (1 : Int32))), .val (.int ch)] []) G := fun tq kq => K374 tq (XS.iinc X325.here hx rfl (hb hby d_prog_5_method_7_58) rfl (l' := #[.val (.ref a), .val (.int nn), .val (.int (i + (1 : Int32))), .val (.int ch)]) rfl kq)
                  have K376 : Go p e below T325 (mkF m 4 #[.val (.ref a), .val (.int nn), .val (.int (i + (1 : Int32))), .val (.int ch)] []) G := fun tq kq => K375 tq (XS.goto X325.here hx rfl (pc0 := 61) (pc' := 4) rfl (hb hby d_prog_5_method_7_61) (by decide) (by decide) kq)
                  have hgo : own_go (ch :: r) nn = own_go r nn := by rw [own_go, if_neg (fun q => q.elim hc330 hc335)]; simp [hc330, hc335, hc341, hc362, hc366, hc369]
                  rw [hgo]
                  exact loop (pre ++ [ch]) nn _ ch T325 _ (by rw [hcs]; simp) (by rw [hi, own_succ _ (by omega)]; exact congrArg Int32.ofNat (by simp)) X325 E325q N325 K376
              · skip
                have K377 : Go p e below T325 (mkF m 58 #[.val (.ref a), .val (.int nn), .val (.int i), .val (.int ch)] []) G := fun tq kq => K365 tq (XS.icmpYes X325.here hx rfl (pc0 := 48) (pc' := 58) rfl (hb hby d_prog_5_method_7_48) rfl ((feq hc366).2) (by decide) (by decide) kq)
                have K378 : Go p e below T325 (mkF m 61 #[.val (.ref a), .val (.int nn), .val (.int (i + (1 : Int32))), .val (.int ch)] []) G := fun tq kq => K377 tq (XS.iinc X325.here hx rfl (hb hby d_prog_5_method_7_58) rfl (l' := #[.val (.ref a), .val (.int nn), .val (.int (i + (1 : Int32))), .val (.int ch)]) rfl kq)
                have K379 : Go p e below T325 (mkF m 4 #[.val (.ref a), .val (.int nn), .val (.int (i + (1 : Int32))), .val (.int ch)] []) G := fun tq kq => K378 tq (XS.goto X325.here hx rfl (pc0 := 61) (pc' := 4) rfl (hb hby d_prog_5_method_7_61) (by decide) (by decide) kq)
                have hgo : own_go (ch :: r) nn = own_go r nn := by rw [own_go, if_neg (fun q => q.elim hc330 hc335)]; simp [hc330, hc335, hc341, hc362, hc366]
                rw [hgo]
                exact loop (pre ++ [ch]) nn _ ch T325 _ (by rw [hcs]; simp) (by rw [hi, own_succ _ (by omega)]; exact congrArg Int32.ofNat (by simp)) X325 E325q N325 K379
            · skip
              have K380 : Go p e below T325 (mkF m 55 #[.val (.ref a), .val (.int nn), .val (.int i), .val (.int ch)] []) G := fun tq kq => K361 tq (XS.icmpYes X325.here hx rfl (pc0 := 42) (pc' := 55) rfl (hb hby d_prog_5_method_7_42) rfl ((flt hc362).2.2.2) (by decide) (by decide) kq)
              have K381 : Go p e below T325 (mkF m 58 #[.val (.ref a), .val (.int (nn + (1 : Int32))), .val (.int i), .val (.int ch)] []) G := fun tq kq => K380 tq (XS.iinc X325.here hx rfl (hb hby d_prog_5_method_7_55) rfl (l' := #[.val (.ref a), .val (.int (nn + (1 : Int32))), .val (.int i), .val (.int ch)]) rfl kq)
              have K382 : Go p e below T325 (mkF m 61 #[.val (.ref a), .val (.int (nn + (1 : Int32))), .val (.int (i + (1 : Int32))), .val (.int ch)] []) G := fun tq kq => K381 tq (XS.iinc X325.here hx rfl (hb hby d_prog_5_method_7_58) rfl (l' := #[.val (.ref a), .val (.int (nn + (1 : Int32))), .val (.int (i + (1 : Int32))), .val (.int ch)]) rfl kq)
              have K383 : Go p e below T325 (mkF m 4 #[.val (.ref a), .val (.int (nn + (1 : Int32))), .val (.int (i + (1 : Int32))), .val (.int ch)] []) G := fun tq kq => K382 tq (XS.goto X325.here hx rfl (pc0 := 61) (pc' := 4) rfl (hb hby d_prog_5_method_7_61) (by decide) (by decide) kq)
              have hgo : own_go (ch :: r) nn = own_go r (nn + (1 : Int32)) := by rw [own_go, if_neg (fun q => q.elim hc330 hc335)]; simp [hc330, hc335, hc341, hc362]
              rw [hgo]
              exact loop (pre ++ [ch]) (nn + (1 : Int32)) _ ch T325 _ (by rw [hcs]; simp) (by rw [hi, own_succ _ (by omega)]; exact congrArg Int32.ofNat (by simp)) X325 E325q N325 K383
  obtain ⟨Tx, Lx, ix, sx, Xx, ex, Nx, Kx⟩ : ∃ (Tx : State) (Lx : List Loc) (ix : Int32) (sx : Slot), Stand p l e ({ frames := 4, cells := 0, slots := 0, locals := 53 } : Room) s m #[(.ref a)] below meth c Tx Lx 0 0 ∧ Tx.heap = h0 ∧ Fr n0 Lx ∧ Go p e below Tx (mkF m 64 #[.val (.ref a), .val (.int (own_go cs (0 : Int32))), .val (.int ix), sx] []) G := by
    cases hcs0 : cs with
    | nil =>
      have hcs : cs = ([] : List Int32) := hcs0
      have hi : (0 : Int32) = Int32.ofNat ([] : List Int32).length := rfl
      have hil : ¬ ((0 : Int32) < (Int32.ofNat cs.length)) := by
        rw [hi, hcs]
        simp
      have K384 : Go p e below s₁ (mkF m 5 #[.val (.ref a), .val (.int (0 : Int32)), .val (.int (0 : Int32)), .unset] [(.int (0 : Int32))]) G := fun tq kq => K312 tq (XS.iloadN X0.here hx rfl (hb hby d_prog_5_method_7_4) rfl kq)
      have K385 : Go p e below s₁ (mkF m 6 #[.val (.ref a), .val (.int (0 : Int32)), .val (.int (0 : Int32)), .unset] [(.ref a), (.int (0 : Int32))]) G := fun tq kq => K384 tq (XS.aloadN X0.here hx rfl (hb hby d_prog_5_method_7_5) rfl rfl kq)
      obtain ⟨cq386, kq386, q386a, q386b, q386c⟩ := isOf hZ e0 E_a
      obtain ⟨v386, _, ⟨T386, L386, k386, n386⟩, -, X386, ⟨Lc386, hQ386, l386, y386, z386⟩, st386⟩ := X0.virtualBack hx (y := (⟨"java/lang/String", "length", "()I"⟩ : MethodName)) (z := (⟨"java/lang/String", "length", "()I"⟩ : MethodName)) hown (mvT hZ (hW 54 _ rfl)) (mvT hZ (hW 55 _ rfl)) (notFace_of_selects (args := #[]) (mvT hZ (hW 57 _ rfl))) (mvT hZ (hW 57 _ rfl)) (mvT hZ (hW 56 _ rfl)) (by decide) (StrChars.Road.lenW (W := 1) hZ hwl (kI := 4) (hW 9 _ rfl) E_a FV FC AV CD hb5 (S_cs.ext O0.2) hcz hl (by decide) (by decide)) q386a q386c (g := (mkF m 6 #[.val (.ref a), .val (.int (0 : Int32)), .val (.int (0 : Int32)), .unset] [(.ref a), (.int (0 : Int32))])) rfl (by rw [hml]; rfl) (Steps.refl _) (argsL := []) (rest := [(.int (0 : Int32))]) (lenOf pd_235 rfl) rfl (by show 2 * 0 + _ ≤ _; exact Nat.le_of_eq rfl) (hb hby d_prog_5_method_7_6) (fun _ _ => ⟨rfl, e0, (by decide : 0 + 0 ≤ _), (by decide : 0 + 0 ≤ _)⟩)
      dsimp only [Pt.U, Pt.locs, Pt.cells, Pt.slots] at X386 l386 y386 z386 st386 hQ386
      subst l386 y386 z386
      obtain ⟨hv386, hL386, E386q⟩ := hQ386
      subst hL386
      obtain rfl := hv386
      have N386 := Fr.app N0 (Fr.nil n0)
      have K387 : Go p e below T386 (mkF m 9 #[.val (.ref a), .val (.int (0 : Int32)), .val (.int (0 : Int32)), .unset] [(.int (Int32.ofNat cs.length)), (.int (0 : Int32))]) G := fun tq kq => K385 tq (st386.trans kq)
      have K388 : Go p e below T386 (mkF m 64 #[.val (.ref a), .val (.int (0 : Int32)), .val (.int (0 : Int32)), .unset] []) G := fun tq kq => K387 tq (XS.icmpYes X386.here hx rfl (pc0 := 9) (pc' := 64) rfl (hb hby d_prog_5_method_7_9) rfl ((flt hil).2.1) (by decide) (by decide) kq)
      exact ⟨T386, _, _, _, X386, E386q, N386, K388⟩
    | cons ch r =>
      obtain ⟨pre, hpre⟩ : ∃ z : List Int32, z = [] := ⟨_, rfl⟩
      have hcs : cs = pre ++ (ch :: r) := by rw [hpre]; exact hcs0
      have hi : (0 : Int32) = Int32.ofNat pre.length := by rw [hpre]; rfl
      have hlen : cs.length = pre.length + (r.length + 1) := by rw [hcs]; simp
      have hlt : pre.length < cs.length := by omega
      have hget : cs.getD pre.length 0 = ch := by rw [hcs]; simp
      have hil : (0 : Int32) < (Int32.ofNat cs.length) := by rw [hi]; exact own_lt _ _ hlt hl
      have K389 : Go p e below s₁ (mkF m 5 #[.val (.ref a), .val (.int (0 : Int32)), .val (.int (0 : Int32)), .unset] [(.int (0 : Int32))]) G := fun tq kq => K312 tq (XS.iloadN X0.here hx rfl (hb hby d_prog_5_method_7_4) rfl kq)
      have K390 : Go p e below s₁ (mkF m 6 #[.val (.ref a), .val (.int (0 : Int32)), .val (.int (0 : Int32)), .unset] [(.ref a), (.int (0 : Int32))]) G := fun tq kq => K389 tq (XS.aloadN X0.here hx rfl (hb hby d_prog_5_method_7_5) rfl rfl kq)
      obtain ⟨cq391, kq391, q391a, q391b, q391c⟩ := isOf hZ e0 E_a
      obtain ⟨v391, _, ⟨T391, L391, k391, n391⟩, -, X391, ⟨Lc391, hQ391, l391, y391, z391⟩, st391⟩ := X0.virtualBack hx (y := (⟨"java/lang/String", "length", "()I"⟩ : MethodName)) (z := (⟨"java/lang/String", "length", "()I"⟩ : MethodName)) hown (mvT hZ (hW 54 _ rfl)) (mvT hZ (hW 55 _ rfl)) (notFace_of_selects (args := #[]) (mvT hZ (hW 57 _ rfl))) (mvT hZ (hW 57 _ rfl)) (mvT hZ (hW 56 _ rfl)) (by decide) (StrChars.Road.lenW (W := 1) hZ hwl (kI := 4) (hW 9 _ rfl) E_a FV FC AV CD hb5 (S_cs.ext O0.2) hcz hl (by decide) (by decide)) q391a q391c (g := (mkF m 6 #[.val (.ref a), .val (.int (0 : Int32)), .val (.int (0 : Int32)), .unset] [(.ref a), (.int (0 : Int32))])) rfl (by rw [hml]; rfl) (Steps.refl _) (argsL := []) (rest := [(.int (0 : Int32))]) (lenOf pd_235 rfl) rfl (by show 2 * 0 + _ ≤ _; exact Nat.le_of_eq rfl) (hb hby d_prog_5_method_7_6) (fun _ _ => ⟨rfl, e0, (by decide : 0 + 0 ≤ _), (by decide : 0 + 0 ≤ _)⟩)
      dsimp only [Pt.U, Pt.locs, Pt.cells, Pt.slots] at X391 l391 y391 z391 st391 hQ391
      subst l391 y391 z391
      obtain ⟨hv391, hL391, E391q⟩ := hQ391
      subst hL391
      obtain rfl := hv391
      have N391 := Fr.app N0 (Fr.nil n0)
      have K392 : Go p e below T391 (mkF m 9 #[.val (.ref a), .val (.int (0 : Int32)), .val (.int (0 : Int32)), .unset] [(.int (Int32.ofNat cs.length)), (.int (0 : Int32))]) G := fun tq kq => K390 tq (st391.trans kq)
      have K393 : Go p e below T391 (mkF m 12 #[.val (.ref a), .val (.int (0 : Int32)), .val (.int (0 : Int32)), .unset] []) G := fun tq kq => K392 tq (XS.icmpNo X391.here hx rfl (hb hby d_prog_5_method_7_9) rfl ((tlt hil).2.1) kq)
      have K394 : Go p e below T391 (mkF m 13 #[.val (.ref a), .val (.int (0 : Int32)), .val (.int (0 : Int32)), .unset] [(.ref a)]) G := fun tq kq => K393 tq (XS.aloadN X391.here hx rfl (hb hby d_prog_5_method_7_12) rfl rfl kq)
      have K395 : Go p e below T391 (mkF m 14 #[.val (.ref a), .val (.int (0 : Int32)), .val (.int (0 : Int32)), .unset] [(.int (0 : Int32)), (.ref a)]) G := fun tq kq => K394 tq (XS.iloadN X391.here hx rfl (hb hby d_prog_5_method_7_13) rfl kq)
      obtain ⟨cq396, kq396, q396a, q396b, q396c⟩ := isOf hZ E391q E_a
      obtain ⟨v396, _, ⟨T396, L396, k396, n396⟩, -, X396, ⟨Lc396, hQ396, l396, y396, z396⟩, st396⟩ := X391.virtualBack hx (y := (⟨"java/lang/String", "charAt", "(I)C"⟩ : MethodName)) (z := (⟨"java/lang/String", "charAt", "(I)C"⟩ : MethodName)) hown (mvT hZ (hW 64 _ rfl)) (mvT hZ (hW 65 _ rfl)) (notFace_of_selects (args := #[]) (mvT hZ (hW 67 _ rfl))) (mvT hZ (hW 67 _ rfl)) (mvT hZ (hW 66 _ rfl)) (by decide) (StrChars.Road.chN (W := 0) hZ hwc (kI := 4) (hW 9 _ rfl) (i := pre.length) E_a FV FC AV CD hb5 (S_cs.ext O0.2) hcz (S_fm.ext O0.2) rfm hl hlt hi (by decide) (by decide)) q396a q396c (g := (mkF m 14 #[.val (.ref a), .val (.int (0 : Int32)), .val (.int (0 : Int32)), .unset] [(.int (0 : Int32)), (.ref a)])) rfl (by rw [hml]; rfl) (Steps.refl _) (argsL := [(.int (0 : Int32))]) (rest := []) (lenOf pd_236 rfl) rfl (by show 2 * 0 + _ ≤ _; exact Nat.le_of_eq rfl) (hb hby d_prog_5_method_7_14) (fun _ _ => ⟨rfl, E391q, (by decide : 0 + 0 ≤ _), (by decide : 0 + 0 ≤ _)⟩)
      dsimp only [Pt.U, Pt.locs, Pt.cells, Pt.slots] at X396 l396 y396 z396 st396 hQ396
      subst l396 y396 z396
      obtain ⟨hv396, hL396, E396q⟩ := hQ396
      subst hL396
      rw [hget] at hv396
      obtain rfl := hv396
      have N396 := Fr.app N391 (Fr.nil n0)
      have K397 : Go p e below T396 (mkF m 17 #[.val (.ref a), .val (.int (0 : Int32)), .val (.int (0 : Int32)), .unset] [(.int ch)]) G := fun tq kq => K395 tq (st396.trans kq)
      have K398 : Go p e below T396 (mkF m 18 #[.val (.ref a), .val (.int (0 : Int32)), .val (.int (0 : Int32)), .val (.int ch)] []) G := fun tq kq => K397 tq (XS.istoreN X396.here hx rfl (hb hby d_prog_5_method_7_17) rfl (l' := #[.val (.ref a), .val (.int (0 : Int32)), .val (.int (0 : Int32)), .val (.int ch)]) rfl kq)
      have K399 : Go p e below T396 (mkF m 19 #[.val (.ref a), .val (.int (0 : Int32)), .val (.int (0 : Int32)), .val (.int ch)] [(.int ch)]) G := fun tq kq => K398 tq (XS.iloadN X396.here hx rfl (hb hby d_prog_5_method_7_18) rfl kq)
      have K400 : Go p e below T396 (mkF m 21 #[.val (.ref a), .val (.int (0 : Int32)), .val (.int (0 : Int32)), .val (.int ch)] [(.int (101 : Int32)), (.int ch)]) G := fun tq kq => K399 tq (XS.bipush X396.here hx rfl (hb hby d_prog_5_method_7_19) kq)
      by_cases hc401 : ch = (101 : Int32)
      · skip
        have K402 : Go p e below T396 (mkF m 64 #[.val (.ref a), .val (.int (0 : Int32)), .val (.int (0 : Int32)), .val (.int ch)] []) G := fun tq kq => K400 tq (XS.icmpYes X396.here hx rfl (pc0 := 21) (pc' := 64) rfl (hb hby d_prog_5_method_7_21) rfl ((teq hc401).1) (by decide) (by decide) kq)
        have hgo : own_go (ch :: r) (0 : Int32) = (0 : Int32) := by rw [own_go, if_pos]; simp [hc401]
        rw [hgo]
        exact ⟨T396, _, _, _, X396, E396q, N396, K402⟩
      · skip
        have K403 : Go p e below T396 (mkF m 24 #[.val (.ref a), .val (.int (0 : Int32)), .val (.int (0 : Int32)), .val (.int ch)] []) G := fun tq kq => K400 tq (XS.icmpNo X396.here hx rfl (hb hby d_prog_5_method_7_21) rfl ((feq hc401).1) kq)
        have K404 : Go p e below T396 (mkF m 25 #[.val (.ref a), .val (.int (0 : Int32)), .val (.int (0 : Int32)), .val (.int ch)] [(.int ch)]) G := fun tq kq => K403 tq (XS.iloadN X396.here hx rfl (hb hby d_prog_5_method_7_24) rfl kq)
        have K405 : Go p e below T396 (mkF m 27 #[.val (.ref a), .val (.int (0 : Int32)), .val (.int (0 : Int32)), .val (.int ch)] [(.int (69 : Int32)), (.int ch)]) G := fun tq kq => K404 tq (XS.bipush X396.here hx rfl (hb hby d_prog_5_method_7_25) kq)
        by_cases hc406 : ch = (69 : Int32)
        · skip
          have K407 : Go p e below T396 (mkF m 30 #[.val (.ref a), .val (.int (0 : Int32)), .val (.int (0 : Int32)), .val (.int ch)] []) G := fun tq kq => K405 tq (XS.icmpNo X396.here hx rfl (hb hby d_prog_5_method_7_27) rfl ((teq hc406).2) kq)
          have K408 : Go p e below T396 (mkF m 64 #[.val (.ref a), .val (.int (0 : Int32)), .val (.int (0 : Int32)), .val (.int ch)] []) G := fun tq kq => K407 tq (XS.goto X396.here hx rfl (pc0 := 30) (pc' := 64) rfl (hb hby d_prog_5_method_7_30) (by decide) (by decide) kq)
          have hgo : own_go (ch :: r) (0 : Int32) = (0 : Int32) := by rw [own_go, if_pos]; simp [hc401, hc406]
          rw [hgo]
          exact ⟨T396, _, _, _, X396, E396q, N396, K408⟩
        · skip
          have K409 : Go p e below T396 (mkF m 33 #[.val (.ref a), .val (.int (0 : Int32)), .val (.int (0 : Int32)), .val (.int ch)] []) G := fun tq kq => K405 tq (XS.icmpYes X396.here hx rfl (pc0 := 27) (pc' := 33) rfl (hb hby d_prog_5_method_7_27) rfl ((feq hc406).2) (by decide) (by decide) kq)
          have K410 : Go p e below T396 (mkF m 34 #[.val (.ref a), .val (.int (0 : Int32)), .val (.int (0 : Int32)), .val (.int ch)] [(.int ch)]) G := fun tq kq => K409 tq (XS.iloadN X396.here hx rfl (hb hby d_prog_5_method_7_33) rfl kq)
          have K411 : Go p e below T396 (mkF m 36 #[.val (.ref a), .val (.int (0 : Int32)), .val (.int (0 : Int32)), .val (.int ch)] [(.int (49 : Int32)), (.int ch)]) G := fun tq kq => K410 tq (XS.bipush X396.here hx rfl (hb hby d_prog_5_method_7_34) kq)
          by_cases hc412 : ch < (49 : Int32)
          · skip
            have K413 : Go p e below T396 (mkF m 45 #[.val (.ref a), .val (.int (0 : Int32)), .val (.int (0 : Int32)), .val (.int ch)] []) G := fun tq kq => K411 tq (XS.icmpYes X396.here hx rfl (pc0 := 36) (pc' := 45) rfl (hb hby d_prog_5_method_7_36) rfl ((tlt hc412).1) (by decide) (by decide) kq)
            have K414 : Go p e below T396 (mkF m 46 #[.val (.ref a), .val (.int (0 : Int32)), .val (.int (0 : Int32)), .val (.int ch)] [(.int ch)]) G := fun tq kq => K413 tq (XS.iloadN X396.here hx rfl (hb hby d_prog_5_method_7_45) rfl kq)
            have K415 : Go p e below T396 (mkF m 48 #[.val (.ref a), .val (.int (0 : Int32)), .val (.int (0 : Int32)), .val (.int ch)] [(.int (48 : Int32)), (.int ch)]) G := fun tq kq => K414 tq (XS.bipush X396.here hx rfl (hb hby d_prog_5_method_7_46) kq)
            by_cases hc416 : ch = (48 : Int32)
            · skip
              have K417 : Go p e below T396 (mkF m 51 #[.val (.ref a), .val (.int (0 : Int32)), .val (.int (0 : Int32)), .val (.int ch)] []) G := fun tq kq => K415 tq (XS.icmpNo X396.here hx rfl (hb hby d_prog_5_method_7_48) rfl ((teq hc416).2) kq)
              have K418 : Go p e below T396 (mkF m 52 #[.val (.ref a), .val (.int (0 : Int32)), .val (.int (0 : Int32)), .val (.int ch)] [(.int (0 : Int32))]) G := fun tq kq => K417 tq (XS.iloadN X396.here hx rfl (hb hby d_prog_5_method_7_51) rfl kq)
              have K419 : Go p e below T396 (mkF m 58 #[.val (.ref a), .val (.int (0 : Int32)), .val (.int (0 : Int32)), .val (.int ch)] []) G := fun tq kq => K418 tq (XS.ifYes X396.here hx rfl (pc0 := 52) (pc' := 58) rfl (hb hby d_prog_5_method_7_52) rfl ((if0 _ _).trans (flt (by decide : ¬ ((0 : Int32) < (0 : Int32)))).2.2.2) (by decide) (by decide) kq)
              have K420 : Go p e below T396 (mkF m 61 #[.val (.ref a), .val (.int (0 : Int32)), .val (.int ((0 : Int32) + (1 : Int32))), .val (.int ch)] []) G := fun tq kq => K419 tq (XS.iinc X396.here hx rfl (hb hby d_prog_5_method_7_58) rfl (l' := #[.val (.ref a), .val (.int (0 : Int32)), .val (.int ((0 : Int32) + (1 : Int32))), .val (.int ch)]) rfl kq)
              have K421 : Go p e below T396 (mkF m 4 #[.val (.ref a), .val (.int (0 : Int32)), .val (.int ((0 : Int32) + (1 : Int32))), .val (.int ch)] []) G := fun tq kq => K420 tq (XS.goto X396.here hx rfl (pc0 := 61) (pc' := 4) rfl (hb hby d_prog_5_method_7_61) (by decide) (by decide) kq)
              have hgo : own_go (ch :: r) (0 : Int32) = own_go r (0 : Int32) := by rw [own_go, if_neg (fun q => q.elim hc401 hc406)]; simp [hc401, hc406, hc412, hc416]
              rw [hgo]
              exact loop r (pre ++ [ch]) (0 : Int32) _ ch T396 _ (by rw [hcs]; simp) (by rw [hi, own_succ _ (by omega)]; exact congrArg Int32.ofNat (by simp)) X396 E396q N396 K421
            · skip
              have K422 : Go p e below T396 (mkF m 58 #[.val (.ref a), .val (.int (0 : Int32)), .val (.int (0 : Int32)), .val (.int ch)] []) G := fun tq kq => K415 tq (XS.icmpYes X396.here hx rfl (pc0 := 48) (pc' := 58) rfl (hb hby d_prog_5_method_7_48) rfl ((feq hc416).2) (by decide) (by decide) kq)
              have K423 : Go p e below T396 (mkF m 61 #[.val (.ref a), .val (.int (0 : Int32)), .val (.int ((0 : Int32) + (1 : Int32))), .val (.int ch)] []) G := fun tq kq => K422 tq (XS.iinc X396.here hx rfl (hb hby d_prog_5_method_7_58) rfl (l' := #[.val (.ref a), .val (.int (0 : Int32)), .val (.int ((0 : Int32) + (1 : Int32))), .val (.int ch)]) rfl kq)
              have K424 : Go p e below T396 (mkF m 4 #[.val (.ref a), .val (.int (0 : Int32)), .val (.int ((0 : Int32) + (1 : Int32))), .val (.int ch)] []) G := fun tq kq => K423 tq (XS.goto X396.here hx rfl (pc0 := 61) (pc' := 4) rfl (hb hby d_prog_5_method_7_61) (by decide) (by decide) kq)
              have hgo : own_go (ch :: r) (0 : Int32) = own_go r (0 : Int32) := by rw [own_go, if_neg (fun q => q.elim hc401 hc406)]; simp [hc401, hc406, hc412, hc416]
              rw [hgo]
              exact loop r (pre ++ [ch]) (0 : Int32) _ ch T396 _ (by rw [hcs]; simp) (by rw [hi, own_succ _ (by omega)]; exact congrArg Int32.ofNat (by simp)) X396 E396q N396 K424
          · skip
            have K425 : Go p e below T396 (mkF m 39 #[.val (.ref a), .val (.int (0 : Int32)), .val (.int (0 : Int32)), .val (.int ch)] []) G := fun tq kq => K411 tq (XS.icmpNo X396.here hx rfl (hb hby d_prog_5_method_7_36) rfl ((flt hc412).1) kq)
            have K426 : Go p e below T396 (mkF m 40 #[.val (.ref a), .val (.int (0 : Int32)), .val (.int (0 : Int32)), .val (.int ch)] [(.int ch)]) G := fun tq kq => K425 tq (XS.iloadN X396.here hx rfl (hb hby d_prog_5_method_7_39) rfl kq)
            have K427 : Go p e below T396 (mkF m 42 #[.val (.ref a), .val (.int (0 : Int32)), .val (.int (0 : Int32)), .val (.int ch)] [(.int (57 : Int32)), (.int ch)]) G := fun tq kq => K426 tq (XS.bipush X396.here hx rfl (hb hby d_prog_5_method_7_40) kq)
            by_cases hc428 : (57 : Int32) < ch
            · skip
              have K429 : Go p e below T396 (mkF m 45 #[.val (.ref a), .val (.int (0 : Int32)), .val (.int (0 : Int32)), .val (.int ch)] []) G := fun tq kq => K427 tq (XS.icmpNo X396.here hx rfl (hb hby d_prog_5_method_7_42) rfl ((tlt hc428).2.2.2) kq)
              have K430 : Go p e below T396 (mkF m 46 #[.val (.ref a), .val (.int (0 : Int32)), .val (.int (0 : Int32)), .val (.int ch)] [(.int ch)]) G := fun tq kq => K429 tq (XS.iloadN X396.here hx rfl (hb hby d_prog_5_method_7_45) rfl kq)
              have K431 : Go p e below T396 (mkF m 48 #[.val (.ref a), .val (.int (0 : Int32)), .val (.int (0 : Int32)), .val (.int ch)] [(.int (48 : Int32)), (.int ch)]) G := fun tq kq => K430 tq (XS.bipush X396.here hx rfl (hb hby d_prog_5_method_7_46) kq)
              by_cases hc432 : ch = (48 : Int32)
              · skip
                have K433 : Go p e below T396 (mkF m 51 #[.val (.ref a), .val (.int (0 : Int32)), .val (.int (0 : Int32)), .val (.int ch)] []) G := fun tq kq => K431 tq (XS.icmpNo X396.here hx rfl (hb hby d_prog_5_method_7_48) rfl ((teq hc432).2) kq)
                have K434 : Go p e below T396 (mkF m 52 #[.val (.ref a), .val (.int (0 : Int32)), .val (.int (0 : Int32)), .val (.int ch)] [(.int (0 : Int32))]) G := fun tq kq => K433 tq (XS.iloadN X396.here hx rfl (hb hby d_prog_5_method_7_51) rfl kq)
                have K435 : Go p e below T396 (mkF m 58 #[.val (.ref a), .val (.int (0 : Int32)), .val (.int (0 : Int32)), .val (.int ch)] []) G := fun tq kq => K434 tq (XS.ifYes X396.here hx rfl (pc0 := 52) (pc' := 58) rfl (hb hby d_prog_5_method_7_52) rfl ((if0 _ _).trans (flt (by decide : ¬ ((0 : Int32) < (0 : Int32)))).2.2.2) (by decide) (by decide) kq)
                have K436 : Go p e below T396 (mkF m 61 #[.val (.ref a), .val (.int (0 : Int32)), .val (.int ((0 : Int32) + (1 : Int32))), .val (.int ch)] []) G := fun tq kq => K435 tq (XS.iinc X396.here hx rfl (hb hby d_prog_5_method_7_58) rfl (l' := #[.val (.ref a), .val (.int (0 : Int32)), .val (.int ((0 : Int32) + (1 : Int32))), .val (.int ch)]) rfl kq)
                have K437 : Go p e below T396 (mkF m 4 #[.val (.ref a), .val (.int (0 : Int32)), .val (.int ((0 : Int32) + (1 : Int32))), .val (.int ch)] []) G := fun tq kq => K436 tq (XS.goto X396.here hx rfl (pc0 := 61) (pc' := 4) rfl (hb hby d_prog_5_method_7_61) (by decide) (by decide) kq)
                have hgo : own_go (ch :: r) (0 : Int32) = own_go r (0 : Int32) := by rw [own_go, if_neg (fun q => q.elim hc401 hc406)]; simp [hc401, hc406, hc412, hc428, hc432]
                rw [hgo]
                exact loop r (pre ++ [ch]) (0 : Int32) _ ch T396 _ (by rw [hcs]; simp) (by rw [hi, own_succ _ (by omega)]; exact congrArg Int32.ofNat (by simp)) X396 E396q N396 K437
              · skip
                have K438 : Go p e below T396 (mkF m 58 #[.val (.ref a), .val (.int (0 : Int32)), .val (.int (0 : Int32)), .val (.int ch)] []) G := fun tq kq => K431 tq (XS.icmpYes X396.here hx rfl (pc0 := 48) (pc' := 58) rfl (hb hby d_prog_5_method_7_48) rfl ((feq hc432).2) (by decide) (by decide) kq)
                have K439 : Go p e below T396 (mkF m 61 #[.val (.ref a), .val (.int (0 : Int32)), .val (.int ((0 : Int32) + (1 : Int32))), .val (.int ch)] []) G := fun tq kq => K438 tq (XS.iinc X396.here hx rfl (hb hby d_prog_5_method_7_58) rfl (l' := #[.val (.ref a), .val (.int (0 : Int32)), .val (.int ((0 : Int32) + (1 : Int32))), .val (.int ch)]) rfl kq)
                have K440 : Go p e below T396 (mkF m 4 #[.val (.ref a), .val (.int (0 : Int32)), .val (.int ((0 : Int32) + (1 : Int32))), .val (.int ch)] []) G := fun tq kq => K439 tq (XS.goto X396.here hx rfl (pc0 := 61) (pc' := 4) rfl (hb hby d_prog_5_method_7_61) (by decide) (by decide) kq)
                have hgo : own_go (ch :: r) (0 : Int32) = own_go r (0 : Int32) := by rw [own_go, if_neg (fun q => q.elim hc401 hc406)]; simp [hc401, hc406, hc412, hc428, hc432]
                rw [hgo]
                exact loop r (pre ++ [ch]) (0 : Int32) _ ch T396 _ (by rw [hcs]; simp) (by rw [hi, own_succ _ (by omega)]; exact congrArg Int32.ofNat (by simp)) X396 E396q N396 K440
            · skip
              have K441 : Go p e below T396 (mkF m 55 #[.val (.ref a), .val (.int (0 : Int32)), .val (.int (0 : Int32)), .val (.int ch)] []) G := fun tq kq => K427 tq (XS.icmpYes X396.here hx rfl (pc0 := 42) (pc' := 55) rfl (hb hby d_prog_5_method_7_42) rfl ((flt hc428).2.2.2) (by decide) (by decide) kq)
              have K442 : Go p e below T396 (mkF m 58 #[.val (.ref a), .val (.int ((0 : Int32) + (1 : Int32))), .val (.int (0 : Int32)), .val (.int ch)] []) G := fun tq kq => K441 tq (XS.iinc X396.here hx rfl (hb hby d_prog_5_method_7_55) rfl (l' := #[.val (.ref a), .val (.int ((0 : Int32) + (1 : Int32))), .val (.int (0 : Int32)), .val (.int ch)]) rfl kq)
              have K443 : Go p e below T396 (mkF m 61 #[.val (.ref a), .val (.int ((0 : Int32) + (1 : Int32))), .val (.int ((0 : Int32) + (1 : Int32))), .val (.int ch)] []) G := fun tq kq => K442 tq (XS.iinc X396.here hx rfl (hb hby d_prog_5_method_7_58) rfl (l' := #[.val (.ref a), .val (.int ((0 : Int32) + (1 : Int32))), .val (.int ((0 : Int32) + (1 : Int32))), .val (.int ch)]) rfl kq)
              have K444 : Go p e below T396 (mkF m 4 #[.val (.ref a), .val (.int ((0 : Int32) + (1 : Int32))), .val (.int ((0 : Int32) + (1 : Int32))), .val (.int ch)] []) G := fun tq kq => K443 tq (XS.goto X396.here hx rfl (pc0 := 61) (pc' := 4) rfl (hb hby d_prog_5_method_7_61) (by decide) (by decide) kq)
              have hgo : own_go (ch :: r) (0 : Int32) = own_go r ((0 : Int32) + (1 : Int32)) := by rw [own_go, if_neg (fun q => q.elim hc401 hc406)]; simp [hc401, hc406, hc412, hc428]
              rw [hgo]
              exact loop r (pre ++ [ch]) ((0 : Int32) + (1 : Int32)) _ ch T396 _ (by rw [hcs]; simp) (by rw [hi, own_succ _ (by omega)]; exact congrArg Int32.ofNat (by simp)) X396 E396q N396 K444
  have K445 : Go p e below Tx (mkF m 65 #[.val (.ref a), .val (.int (own_go cs (0 : Int32))), .val (.int ix), sx] [(.int (own_go cs (0 : Int32)))]) G := fun tq kq => Kx tq (XS.iloadN Xx.here hx rfl (hb hby d_prog_5_method_7_64) rfl kq)
  obtain ⟨fs, hr, hrun, hended, hWW, hsame⟩ := Xx.leave (v := some (.int (own_go cs (0 : Int32)))) (fun h => by rw [Bd.returns] at h; cases h)
  refine ⟨_, _, hG _ (K445 _ (retOut Xx hx Bd.returns rfl (Or.inl ⟨rfl, Or.inl rfl, _, rfl⟩) (hb hby d_prog_5_method_7_65) hr)), hrun, hended, _, _, rfl, ?_, ⟨_, rfl⟩, hWW, hsame.mono (by decide) (by decide)⟩
  show QSG Z a t kb N2 vs cs cz fm h0 n0 _ Tx.heap _
  rw [ex]
  exact ⟨rfl, Nx, rfl⟩
def own_a0 (n c : Int32) : Int32 := if (0 : Int32) < n ∧ ¬ (c = (101 : Int32) ∨ c = (69 : Int32)) then 1 else 0
def own_a (k a n c : Int32) : Int32 := if ¬ (a = (0 : Int32)) ∧ k < n ∧ ¬ (c = (101 : Int32) ∨ c = (69 : Int32)) then 1 else 0
def own_d (a c : Int32) : Int32 := if ¬ (a = (0 : Int32)) ∧ (¬ (c < (48 : Int32)) ∧ ¬ ((57 : Int32) < c)) then 1 else 0
def own_s1 (a c : Int32) : Int32 := if ¬ (a = (0 : Int32)) ∧ (¬ (c < (49 : Int32)) ∧ ¬ ((57 : Int32) < c)) then 1 else 0
def own_s (z a c : Int32) : Int32 := if ¬ (z = (0 : Int32)) ∨ (¬ (a = (0 : Int32)) ∧ (¬ (c < (49 : Int32)) ∧ ¬ ((57 : Int32) < c))) then 1 else 0
def own_l0 (a c : Int32) : Int32 := if ¬ (a = (0 : Int32)) ∧ c = (48 : Int32) then 1 else 0
def own_l (a c z : Int32) : Int32 := if ¬ (a = (0 : Int32)) ∧ c = (48 : Int32) ∧ z = (0 : Int32) then 1 else 0
theorem own_class (c : Int32) : ∃ k : Fin 4, ((c = (101 : Int32) ∨ c = (69 : Int32)) ↔ k = 0) ∧ ((¬ (c < (48 : Int32)) ∧ ¬ ((57 : Int32) < c)) ↔ (k = 1 ∨ k = 2)) ∧ ((¬ (c < (49 : Int32)) ∧ ¬ ((57 : Int32) < c)) ↔ k = 2) ∧ (c = (48 : Int32) ↔ k = 1) := by
  have z1 : ¬ ((1 : Fin 4) = 0) := by decide
  have z2 : ¬ ((2 : Fin 4) = 0) := by decide
  have z3 : ¬ ((3 : Fin 4) = 0) := by decide
  have y0 : ¬ ((0 : Fin 4) = 1) := by decide
  have y2 : ¬ ((2 : Fin 4) = 1) := by decide
  have y3 : ¬ ((3 : Fin 4) = 1) := by decide
  have x0 : ¬ ((0 : Fin 4) = 2) := by decide
  have x1 : ¬ ((1 : Fin 4) = 2) := by decide
  have x3 : ¬ ((3 : Fin 4) = 2) := by decide
  have e1 : ∀ k : Int32, (c = k ↔ c.toInt = k.toInt) := fun k => Int32.toInt_inj.symm
  simp only [e1, Int32.lt_iff_toInt_lt, own_I48, own_I49, own_I57, own_I69, own_I101]
  by_cases h0 : c.toInt = 101 ∨ c.toInt = 69
  · refine ⟨0, ?_, ?_, ?_, ?_⟩ <;> simp only [y0, x0, or_self, true_iff, iff_false, eq_self, iff_true] <;> omega
  · by_cases h1 : c.toInt = 48
    · refine ⟨1, ?_, ?_, ?_, ?_⟩ <;> simp only [z1, x1, or_false, true_or, iff_false, eq_self, iff_true] <;> omega
    · by_cases h2 : ¬ c.toInt < 49 ∧ ¬ 57 < c.toInt
      · refine ⟨2, ?_, ?_, ?_, ?_⟩ <;> simp only [z2, y2, false_or, iff_false, eq_self, iff_true] <;> omega
      · refine ⟨3, ?_, ?_, ?_, ?_⟩ <;> simp only [z3, y3, x3, or_self, iff_false] <;> omega
set_option maxRecDepth 65536 in
set_option maxHeartbeats 4000000 in
theorem own_fin (n c0 c1 c2 c3 c4 : Int32) (hn : n = 0 ∨ n = 1 ∨ n = 2 ∨ n = 3 ∨ n = 4 ∨ n = 5) : own_go (own_tx n c0 c1 c2 c3 c4) (0 : Int32) = ((((((own_d (own_a0 n c0) c0) + (own_d (own_a (1 : Int32) (own_a0 n c0) n c1) c1)) + (own_d (own_a (2 : Int32) (own_a (1 : Int32) (own_a0 n c0) n c1) n c2) c2)) + (own_d (own_a (3 : Int32) (own_a (2 : Int32) (own_a (1 : Int32) (own_a0 n c0) n c1) n c2) n c3) c3)) + (own_d (own_a (4 : Int32) (own_a (3 : Int32) (own_a (2 : Int32) (own_a (1 : Int32) (own_a0 n c0) n c1) n c2) n c3) n c4) c4)) - (((((own_l0 (own_a0 n c0) c0) + (own_l (own_a (1 : Int32) (own_a0 n c0) n c1) c1 (own_s1 (own_a0 n c0) c0))) + (own_l (own_a (2 : Int32) (own_a (1 : Int32) (own_a0 n c0) n c1) n c2) c2 (own_s (own_s1 (own_a0 n c0) c0) (own_a (1 : Int32) (own_a0 n c0) n c1) c1))) + (own_l (own_a (3 : Int32) (own_a (2 : Int32) (own_a (1 : Int32) (own_a0 n c0) n c1) n c2) n c3) c3 (own_s (own_s (own_s1 (own_a0 n c0) c0) (own_a (1 : Int32) (own_a0 n c0) n c1) c1) (own_a (2 : Int32) (own_a (1 : Int32) (own_a0 n c0) n c1) n c2) c2))) + (own_l (own_a (4 : Int32) (own_a (3 : Int32) (own_a (2 : Int32) (own_a (1 : Int32) (own_a0 n c0) n c1) n c2) n c3) n c4) c4 (own_s (own_s (own_s (own_s1 (own_a0 n c0) c0) (own_a (1 : Int32) (own_a0 n c0) n c1) c1) (own_a (2 : Int32) (own_a (1 : Int32) (own_a0 n c0) n c1) n c2) c2) (own_a (3 : Int32) (own_a (2 : Int32) (own_a (1 : Int32) (own_a0 n c0) n c1) n c2) n c3) c3)))) := by
  obtain ⟨k0, hE0, hD0, hN0, hZ0⟩ := own_class c0
  obtain ⟨k1, hE1, hD1, hN1, hZ1⟩ := own_class c1
  obtain ⟨k2, hE2, hD2, hN2, hZ2⟩ := own_class c2
  obtain ⟨k3, hE3, hD3, hN3, hZ3⟩ := own_class c3
  obtain ⟨k4, hE4, hD4, hN4, hZ4⟩ := own_class c4
  unfold own_tx own_d own_l own_l0 own_s own_s1 own_a own_a0
  rcases hn with rfl | rfl | rfl | rfl | rfl | rfl
  · rw [if_pos rfl]
    simp only [own_go, hE0, hD0, hN0, hZ0, hE1, hD1, hN1, hZ1, hE2, hD2, hN2, hZ2, hE3, hD3, hN3, hZ3, hE4, hD4, hN4, hZ4]
    clear hE0 hD0 hN0 hZ0 hE1 hD1 hN1 hZ1 hE2 hD2 hN2 hZ2 hE3 hD3 hN3 hZ3 hE4 hD4 hN4 hZ4
    revert k0 k1 k2 k3 k4
    decide +kernel
  · rw [if_neg (by decide), if_pos rfl]
    simp only [own_go, hE0, hD0, hN0, hZ0, hE1, hD1, hN1, hZ1, hE2, hD2, hN2, hZ2, hE3, hD3, hN3, hZ3, hE4, hD4, hN4, hZ4]
    clear hE0 hD0 hN0 hZ0 hE1 hD1 hN1 hZ1 hE2 hD2 hN2 hZ2 hE3 hD3 hN3 hZ3 hE4 hD4 hN4 hZ4
    revert k0 k1 k2 k3 k4
    decide +kernel
  · rw [if_neg (by decide), if_neg (by decide), if_pos rfl]
    simp only [own_go, hE0, hD0, hN0, hZ0, hE1, hD1, hN1, hZ1, hE2, hD2, hN2, hZ2, hE3, hD3, hN3, hZ3, hE4, hD4, hN4, hZ4]
    clear hE0 hD0 hN0 hZ0 hE1 hD1 hN1 hZ1 hE2 hD2 hN2 hZ2 hE3 hD3 hN3 hZ3 hE4 hD4 hN4 hZ4
    revert k0 k1 k2 k3 k4
    decide +kernel
  · rw [if_neg (by decide), if_neg (by decide), if_neg (by decide), if_pos rfl]
    simp only [own_go, hE0, hD0, hN0, hZ0, hE1, hD1, hN1, hZ1, hE2, hD2, hN2, hZ2, hE3, hD3, hN3, hZ3, hE4, hD4, hN4, hZ4]
    clear hE0 hD0 hN0 hZ0 hE1 hD1 hN1 hZ1 hE2 hD2 hN2 hZ2 hE3 hD3 hN3 hZ3 hE4 hD4 hN4 hZ4
    revert k0 k1 k2 k3 k4
    decide +kernel
  · rw [if_neg (by decide), if_neg (by decide), if_neg (by decide), if_neg (by decide), if_pos rfl]
    simp only [own_go, hE0, hD0, hN0, hZ0, hE1, hD1, hN1, hZ1, hE2, hD2, hN2, hZ2, hE3, hD3, hN3, hZ3, hE4, hD4, hN4, hZ4]
    clear hE0 hD0 hN0 hZ0 hE1 hD1 hN1 hZ1 hE2 hD2 hN2 hZ2 hE3 hD3 hN3 hZ3 hE4 hD4 hN4 hZ4
    revert k0 k1 k2 k3 k4
    decide +kernel
  · rw [if_neg (by decide), if_neg (by decide), if_neg (by decide), if_neg (by decide), if_neg (by decide)]
    simp only [own_go, hE0, hD0, hN0, hZ0, hE1, hD1, hN1, hZ1, hE2, hD2, hN2, hZ2, hE3, hD3, hN3, hZ3, hE4, hD4, hN4, hZ4]
    clear hE0 hD0 hN0 hZ0 hE1 hD1 hN1 hZ1 hE2 hD2 hN2 hZ2 hE3 hD3 hN3 hZ3 hE4 hD4 hN4 hZ4
    revert k0 k1 k2 k3 k4
    decide +kernel
theorem own_n6 (q : Int32) : ((q &&& (2147483647 : Int32)) % (6 : Int32)) = 0 ∨ ((q &&& (2147483647 : Int32)) % (6 : Int32)) = 1 ∨ ((q &&& (2147483647 : Int32)) % (6 : Int32)) = 2 ∨ ((q &&& (2147483647 : Int32)) % (6 : Int32)) = 3 ∨ ((q &&& (2147483647 : Int32)) % (6 : Int32)) = 4 ∨ ((q &&& (2147483647 : Int32)) % (6 : Int32)) = 5 := by
  have h1 := c_and q (2147483647 : Int32) (by decide)
  have h2 := c_irem (q &&& (2147483647 : Int32)) (6 : Int32) 6 own_I6
  simp only [← Int32.toInt_inj, own_I0, own_I1, own_I2, own_I3, own_I4, own_I5]
  omega
theorem own_up {c : Int32} (h : ¬ c < 0 ∧ ¬ (255 : Int32) < c) : ¬ c < 0 ∧ ¬ (65535 : Int32) < c := by
  refine ⟨h.1, fun z => h.2 ?_⟩
  rw [Int32.lt_iff_toInt_lt, own_I65535] at z
  rw [Int32.lt_iff_toInt_lt, own_I255]
  omega
theorem own_txm {n c0 c1 c2 c3 c4 c : Int32} (h : c ∈ own_tx n c0 c1 c2 c3 c4) : c ∈ [c0, c1, c2, c3, c4] := by
  unfold own_tx at h
  simp only [List.mem_cons, List.not_mem_nil, or_false]
  repeat' split at h
  all_goals simp only [List.mem_cons, List.not_mem_nil, or_false] at h
  all_goals first | exact h.elim | (rcases h with rfl | rfl | rfl | rfl | rfl <;> simp) | (rcases h with rfl | rfl | rfl | rfl <;> simp) | (rcases h with rfl | rfl | rfl <;> simp) | (rcases h with rfl | rfl <;> simp) | (subst h; simp)
theorem own_txl (n c0 c1 c2 c3 c4 : Int32) : (own_tx n c0 c1 c2 c3 c4).length ≤ 4000 := by
  unfold own_tx
  repeat' split
  all_goals exact Nat.le_of_ble_eq_true rfl
theorem ef_code_IIIIII (m : MethodId) (x0 : Int32) (x1 : Int32) (x2 : Int32) (x3 : Int32) (x4 : Int32) (x5 : Int32) : entryFrame m #[(.int x0), (.int x1), (.int x2), (.int x3), (.int x4), (.int x5)] maxLocals = mkF m 0 #[.val (.int x0), .val (.int x1), .val (.int x2), .val (.int x3), .val (.int x4), .val (.int x5), .unset, .unset, .unset, .unset, .unset, .unset, .unset, .unset, .unset, .unset, .unset, .unset, .unset, .unset, .unset, .unset, .unset, .unset] [] := by first | (simp [entryFrame, mkF, argsToLocals, Value.category, maxLocals]; done) | rfl
theorem pd_273 : parseMethodDescriptor "(ICCCCC)Ljava/lang/String;" = some ⟨[.int, .char, .char, .char, .char, .char], some (.object "java/lang/String")⟩ := by decide +kernel
theorem pd_274 : parseMethodDescriptor "(C)Z" = some ⟨[.char], some .boolean⟩ := by decide +kernel
theorem pd_275 : parseMethodDescriptor "(Z)I" = some ⟨[.boolean], some .int⟩ := by decide +kernel
theorem pd_276 : parseMethodDescriptor "(Ljava/lang/String;)I" = some ⟨[(.object "java/lang/String")], some .int⟩ := by decide +kernel
def Q0 (Z : State) (q0 : Int32) (q1 : Int32) (q2 : Int32) (q3 : Int32) (q4 : Int32) (q5 : Int32) (cz : Int32) (fm : Value) (h0 : Heap) (n0 : Nat) (v : Option Value) (h : Heap) (L : List Loc) : Prop := v = some (.int 1) ∧ Fr n0 L
set_option maxRecDepth 65536 in
set_option maxHeartbeats 40000000 in
theorem rm0 (l : Launch) (Z : State) (a0 : Array Value) (hw : ∀ d ∈ tables_1, d.before a0 Z = true) (ws : List Jvm.Cond) (q0 : Int32) (q1 : Int32) (q2 : Int32) (q3 : Int32) (q4 : Int32) (q5 : Int32) (cz : Int32) (fm : Value) (h0 : Heap) (n0 : Nat) (Z0 : n0 ≤ h0.size) (O0 : Old Z n0 h0) (S_cs : Sta Z Z.heap "java/lang/String" "COMPACT_STRINGS" "Z" (.int cz)) (hcz : ¬ cz = 0) (S_fm : Sta Z Z.heap "jdk/internal/util/Preconditions" "SIOOBE_FORMATTER" "Ljava/util/function/BiFunction;" fm) (rfm : fm.isRef = true) :
    MetFree l x (head1 (Jvm.Cond.code x code maxLocals ret :: ws) room_1) (fun aa UU => aa = #[(.int q0), (.int q1), (.int q2), (.int q3), (.int q4), (.int q5)] ∧ Z.Warmed39 UU.vm ∧ UU.heap = h0 ∧ CHv Z own_EL UU.vm h0) (fun _ _ _ _ _ => True) (fun _ UU oo UU' => ∃ vv LL, oo = .returned vv ∧ Q0 Z q0 q1 q2 q3 q4 q5 cz fm h0 n0 vv UU'.heap LL ∧ CHr Z own_EL UU.vm UU.heap UU'.vm UU'.heap ∧ ReturnedEndW UU oo UU' LL 16 1152) := by
  refine MetFree.of_bodySF (plainFor_of_name pn_41) hisR ?_
  intro p e s m args below meth c s₁ Bd hml0 hP hK
  obtain ⟨rfl, hZ, hh, HC⟩ := hP
  have hx := Bd.exec
  have hby := Bd.bytes
  have hml : c.maxLocals = 24 := hml0
  have hown : s.vm.findClass "com/example/tallyrule/tallyrule/DecimalsSignificantDigitsPinLaw" = some m.cls := findClass_of_methodNamed Bd.named
  have hnm := (name_of_methodNamed Bd.named Bd.method).1
  have hW : ∀ (k : Nat) (d : Jvm.Cond), tables_1[k]? = some d → d.before a0 Z = true := fun k d h => hw d (List.mem_of_getElem? h)
  have X0 : Stand p l e room_1 (s.setVm s.vm) m #[(.int q0), (.int q1), (.int q2), (.int q3), (.int q4), (.int q5)] below meth c s₁ [] 0 0 := Stand.of_body Bd
  have e0 : s₁.heap = h0 := by rw [← hh, Bd.state]; rfl
  have N0 := Fr.nil n0
  obtain ⟨G, hG, K0⟩ : ∃ G : State → Prop, (∀ tq, G tq → Steps p.tables e below (s₁.setTop (entryFrame m #[(.int q0), (.int q1), (.int q2), (.int q3), (.int q4), (.int q5)] maxLocals)) tq) ∧ Go p e below s₁ (mkF m 0 #[.val (.int q0), .val (.int q1), .val (.int q2), .val (.int q3), .val (.int q4), .val (.int q5), .unset, .unset, .unset, .unset, .unset, .unset, .unset, .unset, .unset, .unset, .unset, .unset, .unset, .unset, .unset, .unset, .unset, .unset] []) G := ⟨fun tq => Steps p.tables e below (s₁.setTop (entryFrame m #[(.int q0), (.int q1), (.int q2), (.int q3), (.int q4), (.int q5)] maxLocals)) tq, fun _ h => h, fun tq kq => castTop (ef_code_IIIIII m q0 q1 q2 q3 q4 q5) kq⟩
  have hS0 := (State.WarmedH.refl s).since 0
  have hEL : EW Z a0 own_EL := own_EW hW
  have CR0 := CHr.refl HC
  have K446 : Go p e below s₁ (mkF m 1 #[.val (.int q0), .val (.int q1), .val (.int q2), .val (.int q3), .val (.int q4), .val (.int q5), .unset, .unset, .unset, .unset, .unset, .unset, .unset, .unset, .unset, .unset, .unset, .unset, .unset, .unset, .unset, .unset, .unset, .unset] [(.int q0)]) G := fun tq kq => K0 tq (XS.iloadN X0.here hx rfl (hb hby at_0) rfl kq)
  obtain ⟨v447, _, ⟨T447, L447, k447, n447⟩, -, X447, ⟨Lc447, hQ447, l447, y447, z447⟩, st447⟩ := Jvm.LawKit.callS X0 hx (y := (⟨"com/example/tallyrule/tallyrule/DecimalsSignificantDigitsPinLaw", "pick", "(I)C"⟩ : MethodName)) hown (mvT hZ (hW 0 _ rfl)) (mvT hZ (hW 1 _ rfl)) (mvT hZ (hW 2 _ rfl)) (mvT hZ (hW 3 _ rfl)) (by decide) (backOf (W := 0) (rmPK l Z a0 hw [] q0 h0 n0 Z0) hZ (hW 3 _ rfl) (hW 2 _ rfl) (by decide) (by decide)) (g := (mkF m 1 #[.val (.int q0), .val (.int q1), .val (.int q2), .val (.int q3), .val (.int q4), .val (.int q5), .unset, .unset, .unset, .unset, .unset, .unset, .unset, .unset, .unset, .unset, .unset, .unset, .unset, .unset, .unset, .unset, .unset, .unset] [(.int q0)])) rfl (by rw [hml]; rfl) (argsL := [(.int q0)]) (rest := []) (lenOf pd_236 rfl) rfl (by show 2 * 0 + _ ≤ _; exact Nat.le_of_eq rfl) (hb hby at_1) (fun _ _ => ⟨rfl, e0, (by decide : 0 + 0 ≤ _), (by decide : 0 + 0 ≤ _)⟩)
  dsimp only [Pt.U, Pt.locs, Pt.cells, Pt.slots] at X447 l447 y447 z447 st447 hQ447
  subst l447 y447 z447
  obtain ⟨c0, rfl, R0, N447q, E447q⟩ := hQ447
  have N447 := Fr.app N0 N447q
  have K448 : Go p e below T447 (mkF m 4 #[.val (.int q0), .val (.int q1), .val (.int q2), .val (.int q3), .val (.int q4), .val (.int q5), .unset, .unset, .unset, .unset, .unset, .unset, .unset, .unset, .unset, .unset, .unset, .unset, .unset, .unset, .unset, .unset, .unset, .unset] [(.int c0)]) G := fun tq kq => K446 tq (st447 tq kq)
  have K449 : Go p e below T447 (mkF m 6 #[.val (.int q0), .val (.int q1), .val (.int q2), .val (.int q3), .val (.int q4), .val (.int q5), .val (.int c0), .unset, .unset, .unset, .unset, .unset, .unset, .unset, .unset, .unset, .unset, .unset, .unset, .unset, .unset, .unset, .unset, .unset] []) G := fun tq kq => K448 tq (XS.istore X447.here hx rfl (hb hby at_4) rfl (l' := #[.val (.int q0), .val (.int q1), .val (.int q2), .val (.int q3), .val (.int q4), .val (.int q5), .val (.int c0), .unset, .unset, .unset, .unset, .unset, .unset, .unset, .unset, .unset, .unset, .unset, .unset, .unset, .unset, .unset, .unset, .unset]) rfl kq)
  have K450 : Go p e below T447 (mkF m 7 #[.val (.int q0), .val (.int q1), .val (.int q2), .val (.int q3), .val (.int q4), .val (.int q5), .val (.int c0), .unset, .unset, .unset, .unset, .unset, .unset, .unset, .unset, .unset, .unset, .unset, .unset, .unset, .unset, .unset, .unset, .unset] [(.int q1)]) G := fun tq kq => K449 tq (XS.iloadN X447.here hx rfl (hb hby at_6) rfl kq)
  obtain ⟨v451, _, ⟨T451, L451, k451, n451⟩, -, X451, ⟨Lc451, hQ451, l451, y451, z451⟩, st451⟩ := Jvm.LawKit.callS X447 hx (y := (⟨"com/example/tallyrule/tallyrule/DecimalsSignificantDigitsPinLaw", "pick", "(I)C"⟩ : MethodName)) hown (mvT hZ (hW 0 _ rfl)) (mvT hZ (hW 1 _ rfl)) (mvT hZ (hW 2 _ rfl)) (mvT hZ (hW 3 _ rfl)) (by decide) (backOf (W := 0) (rmPK l Z a0 hw [] q1 h0 n0 Z0) hZ (hW 3 _ rfl) (hW 2 _ rfl) (by decide) (by decide)) (g := (mkF m 7 #[.val (.int q0), .val (.int q1), .val (.int q2), .val (.int q3), .val (.int q4), .val (.int q5), .val (.int c0), .unset, .unset, .unset, .unset, .unset, .unset, .unset, .unset, .unset, .unset, .unset, .unset, .unset, .unset, .unset, .unset, .unset] [(.int q1)])) rfl (by rw [hml]; rfl) (argsL := [(.int q1)]) (rest := []) (lenOf pd_236 rfl) rfl (by show 2 * 0 + _ ≤ _; exact Nat.le_of_eq rfl) (hb hby at_7) (fun _ _ => ⟨rfl, E447q, (by decide : 0 + 0 ≤ _), (by decide : 0 + 0 ≤ _)⟩)
  dsimp only [Pt.U, Pt.locs, Pt.cells, Pt.slots] at X451 l451 y451 z451 st451 hQ451
  subst l451 y451 z451
  obtain ⟨c1, rfl, R1, N451q, E451q⟩ := hQ451
  have N451 := Fr.app N447 N451q
  have K452 : Go p e below T451 (mkF m 10 #[.val (.int q0), .val (.int q1), .val (.int q2), .val (.int q3), .val (.int q4), .val (.int q5), .val (.int c0), .unset, .unset, .unset, .unset, .unset, .unset, .unset, .unset, .unset, .unset, .unset, .unset, .unset, .unset, .unset, .unset, .unset] [(.int c1)]) G := fun tq kq => K450 tq (st451 tq kq)
  have K453 : Go p e below T451 (mkF m 12 #[.val (.int q0), .val (.int q1), .val (.int q2), .val (.int q3), .val (.int q4), .val (.int q5), .val (.int c0), .val (.int c1), .unset, .unset, .unset, .unset, .unset, .unset, .unset, .unset, .unset, .unset, .unset, .unset, .unset, .unset, .unset, .unset] []) G := fun tq kq => K452 tq (XS.istore X451.here hx rfl (hb hby at_10) rfl (l' := #[.val (.int q0), .val (.int q1), .val (.int q2), .val (.int q3), .val (.int q4), .val (.int q5), .val (.int c0), .val (.int c1), .unset, .unset, .unset, .unset, .unset, .unset, .unset, .unset, .unset, .unset, .unset, .unset, .unset, .unset, .unset, .unset]) rfl kq)
  have K454 : Go p e below T451 (mkF m 13 #[.val (.int q0), .val (.int q1), .val (.int q2), .val (.int q3), .val (.int q4), .val (.int q5), .val (.int c0), .val (.int c1), .unset, .unset, .unset, .unset, .unset, .unset, .unset, .unset, .unset, .unset, .unset, .unset, .unset, .unset, .unset, .unset] [(.int q2)]) G := fun tq kq => K453 tq (XS.iloadN X451.here hx rfl (hb hby at_12) rfl kq)
  obtain ⟨v455, _, ⟨T455, L455, k455, n455⟩, -, X455, ⟨Lc455, hQ455, l455, y455, z455⟩, st455⟩ := Jvm.LawKit.callS X451 hx (y := (⟨"com/example/tallyrule/tallyrule/DecimalsSignificantDigitsPinLaw", "pick", "(I)C"⟩ : MethodName)) hown (mvT hZ (hW 0 _ rfl)) (mvT hZ (hW 1 _ rfl)) (mvT hZ (hW 2 _ rfl)) (mvT hZ (hW 3 _ rfl)) (by decide) (backOf (W := 0) (rmPK l Z a0 hw [] q2 h0 n0 Z0) hZ (hW 3 _ rfl) (hW 2 _ rfl) (by decide) (by decide)) (g := (mkF m 13 #[.val (.int q0), .val (.int q1), .val (.int q2), .val (.int q3), .val (.int q4), .val (.int q5), .val (.int c0), .val (.int c1), .unset, .unset, .unset, .unset, .unset, .unset, .unset, .unset, .unset, .unset, .unset, .unset, .unset, .unset, .unset, .unset] [(.int q2)])) rfl (by rw [hml]; rfl) (argsL := [(.int q2)]) (rest := []) (lenOf pd_236 rfl) rfl (by show 2 * 0 + _ ≤ _; exact Nat.le_of_eq rfl) (hb hby at_13) (fun _ _ => ⟨rfl, E451q, (by decide : 0 + 0 ≤ _), (by decide : 0 + 0 ≤ _)⟩)
  dsimp only [Pt.U, Pt.locs, Pt.cells, Pt.slots] at X455 l455 y455 z455 st455 hQ455
  subst l455 y455 z455
  obtain ⟨c2, rfl, R2, N455q, E455q⟩ := hQ455
  have N455 := Fr.app N451 N455q
  have K456 : Go p e below T455 (mkF m 16 #[.val (.int q0), .val (.int q1), .val (.int q2), .val (.int q3), .val (.int q4), .val (.int q5), .val (.int c0), .val (.int c1), .unset, .unset, .unset, .unset, .unset, .unset, .unset, .unset, .unset, .unset, .unset, .unset, .unset, .unset, .unset, .unset] [(.int c2)]) G := fun tq kq => K454 tq (st455 tq kq)
  have K457 : Go p e below T455 (mkF m 18 #[.val (.int q0), .val (.int q1), .val (.int q2), .val (.int q3), .val (.int q4), .val (.int q5), .val (.int c0), .val (.int c1), .val (.int c2), .unset, .unset, .unset, .unset, .unset, .unset, .unset, .unset, .unset, .unset, .unset, .unset, .unset, .unset, .unset] []) G := fun tq kq => K456 tq (XS.istore X455.here hx rfl (hb hby at_16) rfl (l' := #[.val (.int q0), .val (.int q1), .val (.int q2), .val (.int q3), .val (.int q4), .val (.int q5), .val (.int c0), .val (.int c1), .val (.int c2), .unset, .unset, .unset, .unset, .unset, .unset, .unset, .unset, .unset, .unset, .unset, .unset, .unset, .unset, .unset]) rfl kq)
  have K458 : Go p e below T455 (mkF m 19 #[.val (.int q0), .val (.int q1), .val (.int q2), .val (.int q3), .val (.int q4), .val (.int q5), .val (.int c0), .val (.int c1), .val (.int c2), .unset, .unset, .unset, .unset, .unset, .unset, .unset, .unset, .unset, .unset, .unset, .unset, .unset, .unset, .unset] [(.int q3)]) G := fun tq kq => K457 tq (XS.iloadN X455.here hx rfl (hb hby at_18) rfl kq)
  obtain ⟨v459, _, ⟨T459, L459, k459, n459⟩, -, X459, ⟨Lc459, hQ459, l459, y459, z459⟩, st459⟩ := Jvm.LawKit.callS X455 hx (y := (⟨"com/example/tallyrule/tallyrule/DecimalsSignificantDigitsPinLaw", "pick", "(I)C"⟩ : MethodName)) hown (mvT hZ (hW 0 _ rfl)) (mvT hZ (hW 1 _ rfl)) (mvT hZ (hW 2 _ rfl)) (mvT hZ (hW 3 _ rfl)) (by decide) (backOf (W := 0) (rmPK l Z a0 hw [] q3 h0 n0 Z0) hZ (hW 3 _ rfl) (hW 2 _ rfl) (by decide) (by decide)) (g := (mkF m 19 #[.val (.int q0), .val (.int q1), .val (.int q2), .val (.int q3), .val (.int q4), .val (.int q5), .val (.int c0), .val (.int c1), .val (.int c2), .unset, .unset, .unset, .unset, .unset, .unset, .unset, .unset, .unset, .unset, .unset, .unset, .unset, .unset, .unset] [(.int q3)])) rfl (by rw [hml]; rfl) (argsL := [(.int q3)]) (rest := []) (lenOf pd_236 rfl) rfl (by show 2 * 0 + _ ≤ _; exact Nat.le_of_eq rfl) (hb hby at_19) (fun _ _ => ⟨rfl, E455q, (by decide : 0 + 0 ≤ _), (by decide : 0 + 0 ≤ _)⟩)
  dsimp only [Pt.U, Pt.locs, Pt.cells, Pt.slots] at X459 l459 y459 z459 st459 hQ459
  subst l459 y459 z459
  obtain ⟨c3, rfl, R3, N459q, E459q⟩ := hQ459
  have N459 := Fr.app N455 N459q
  have K460 : Go p e below T459 (mkF m 22 #[.val (.int q0), .val (.int q1), .val (.int q2), .val (.int q3), .val (.int q4), .val (.int q5), .val (.int c0), .val (.int c1), .val (.int c2), .unset, .unset, .unset, .unset, .unset, .unset, .unset, .unset, .unset, .unset, .unset, .unset, .unset, .unset, .unset] [(.int c3)]) G := fun tq kq => K458 tq (st459 tq kq)
  have K461 : Go p e below T459 (mkF m 24 #[.val (.int q0), .val (.int q1), .val (.int q2), .val (.int q3), .val (.int q4), .val (.int q5), .val (.int c0), .val (.int c1), .val (.int c2), .val (.int c3), .unset, .unset, .unset, .unset, .unset, .unset, .unset, .unset, .unset, .unset, .unset, .unset, .unset, .unset] []) G := fun tq kq => K460 tq (XS.istore X459.here hx rfl (hb hby at_22) rfl (l' := #[.val (.int q0), .val (.int q1), .val (.int q2), .val (.int q3), .val (.int q4), .val (.int q5), .val (.int c0), .val (.int c1), .val (.int c2), .val (.int c3), .unset, .unset, .unset, .unset, .unset, .unset, .unset, .unset, .unset, .unset, .unset, .unset, .unset, .unset]) rfl kq)
  have K462 : Go p e below T459 (mkF m 26 #[.val (.int q0), .val (.int q1), .val (.int q2), .val (.int q3), .val (.int q4), .val (.int q5), .val (.int c0), .val (.int c1), .val (.int c2), .val (.int c3), .unset, .unset, .unset, .unset, .unset, .unset, .unset, .unset, .unset, .unset, .unset, .unset, .unset, .unset] [(.int q4)]) G := fun tq kq => K461 tq (XS.iload X459.here hx rfl (hb hby at_24) rfl kq)
  obtain ⟨v463, _, ⟨T463, L463, k463, n463⟩, -, X463, ⟨Lc463, hQ463, l463, y463, z463⟩, st463⟩ := Jvm.LawKit.callS X459 hx (y := (⟨"com/example/tallyrule/tallyrule/DecimalsSignificantDigitsPinLaw", "pick", "(I)C"⟩ : MethodName)) hown (mvT hZ (hW 0 _ rfl)) (mvT hZ (hW 1 _ rfl)) (mvT hZ (hW 2 _ rfl)) (mvT hZ (hW 3 _ rfl)) (by decide) (backOf (W := 0) (rmPK l Z a0 hw [] q4 h0 n0 Z0) hZ (hW 3 _ rfl) (hW 2 _ rfl) (by decide) (by decide)) (g := (mkF m 26 #[.val (.int q0), .val (.int q1), .val (.int q2), .val (.int q3), .val (.int q4), .val (.int q5), .val (.int c0), .val (.int c1), .val (.int c2), .val (.int c3), .unset, .unset, .unset, .unset, .unset, .unset, .unset, .unset, .unset, .unset, .unset, .unset, .unset, .unset] [(.int q4)])) rfl (by rw [hml]; rfl) (argsL := [(.int q4)]) (rest := []) (lenOf pd_236 rfl) rfl (by show 2 * 0 + _ ≤ _; exact Nat.le_of_eq rfl) (hb hby at_26) (fun _ _ => ⟨rfl, E459q, (by decide : 0 + 0 ≤ _), (by decide : 0 + 0 ≤ _)⟩)
  dsimp only [Pt.U, Pt.locs, Pt.cells, Pt.slots] at X463 l463 y463 z463 st463 hQ463
  subst l463 y463 z463
  obtain ⟨c4, rfl, R4, N463q, E463q⟩ := hQ463
  have N463 := Fr.app N459 N463q
  have K464 : Go p e below T463 (mkF m 29 #[.val (.int q0), .val (.int q1), .val (.int q2), .val (.int q3), .val (.int q4), .val (.int q5), .val (.int c0), .val (.int c1), .val (.int c2), .val (.int c3), .unset, .unset, .unset, .unset, .unset, .unset, .unset, .unset, .unset, .unset, .unset, .unset, .unset, .unset] [(.int c4)]) G := fun tq kq => K462 tq (st463 tq kq)
  have K465 : Go p e below T463 (mkF m 31 #[.val (.int q0), .val (.int q1), .val (.int q2), .val (.int q3), .val (.int q4), .val (.int q5), .val (.int c0), .val (.int c1), .val (.int c2), .val (.int c3), .val (.int c4), .unset, .unset, .unset, .unset, .unset, .unset, .unset, .unset, .unset, .unset, .unset, .unset, .unset] []) G := fun tq kq => K464 tq (XS.istore X463.here hx rfl (hb hby at_29) rfl (l' := #[.val (.int q0), .val (.int q1), .val (.int q2), .val (.int q3), .val (.int q4), .val (.int q5), .val (.int c0), .val (.int c1), .val (.int c2), .val (.int c3), .val (.int c4), .unset, .unset, .unset, .unset, .unset, .unset, .unset, .unset, .unset, .unset, .unset, .unset, .unset]) rfl kq)
  have K466 : Go p e below T463 (mkF m 33 #[.val (.int q0), .val (.int q1), .val (.int q2), .val (.int q3), .val (.int q4), .val (.int q5), .val (.int c0), .val (.int c1), .val (.int c2), .val (.int c3), .val (.int c4), .unset, .unset, .unset, .unset, .unset, .unset, .unset, .unset, .unset, .unset, .unset, .unset, .unset] [(.int q5)]) G := fun tq kq => K465 tq (XS.iload X463.here hx rfl (hb hby at_31) rfl kq)
  have K467 : Go p e below T463 (mkF m 35 #[.val (.int q0), .val (.int q1), .val (.int q2), .val (.int q3), .val (.int q4), .val (.int q5), .val (.int c0), .val (.int c1), .val (.int c2), .val (.int c3), .val (.int c4), .unset, .unset, .unset, .unset, .unset, .unset, .unset, .unset, .unset, .unset, .unset, .unset, .unset] [(.int (2147483647 : Int32)), (.int q5)]) G := fun tq kq => K466 tq (X463.ldcInt hx hown (mvT hZ (hW 4 _ rfl)) (g := (mkF m 33 #[.val (.int q0), .val (.int q1), .val (.int q2), .val (.int q3), .val (.int q4), .val (.int q5), .val (.int c0), .val (.int c1), .val (.int c2), .val (.int c3), .val (.int c4), .unset, .unset, .unset, .unset, .unset, .unset, .unset, .unset, .unset, .unset, .unset, .unset, .unset] [(.int q5)])) rfl (hb hby at_33) _ kq)
  have K468 : Go p e below T463 (mkF m 36 #[.val (.int q0), .val (.int q1), .val (.int q2), .val (.int q3), .val (.int q4), .val (.int q5), .val (.int c0), .val (.int c1), .val (.int c2), .val (.int c3), .val (.int c4), .unset, .unset, .unset, .unset, .unset, .unset, .unset, .unset, .unset, .unset, .unset, .unset, .unset] [(.int (q5 &&& (2147483647 : Int32)))]) G := fun tq kq => K467 tq (XS.iand X463.here hx rfl (hb hby at_35) rfl kq)
  have K469 : Go p e below T463 (mkF m 38 #[.val (.int q0), .val (.int q1), .val (.int q2), .val (.int q3), .val (.int q4), .val (.int q5), .val (.int c0), .val (.int c1), .val (.int c2), .val (.int c3), .val (.int c4), .unset, .unset, .unset, .unset, .unset, .unset, .unset, .unset, .unset, .unset, .unset, .unset, .unset] [(.int (6 : Int32)), (.int (q5 &&& (2147483647 : Int32)))]) G := fun tq kq => K468 tq (XS.bipush X463.here hx rfl (hb hby at_36) kq)
  have K470 : Go p e below T463 (mkF m 39 #[.val (.int q0), .val (.int q1), .val (.int q2), .val (.int q3), .val (.int q4), .val (.int q5), .val (.int c0), .val (.int c1), .val (.int c2), .val (.int c3), .val (.int c4), .unset, .unset, .unset, .unset, .unset, .unset, .unset, .unset, .unset, .unset, .unset, .unset, .unset] [(.int ((q5 &&& (2147483647 : Int32)) % (6 : Int32)))]) G := fun tq kq => K469 tq (iremM X463 hx rfl (hb hby at_38) rfl (by decide) kq)
  have K471 : Go p e below T463 (mkF m 41 #[.val (.int q0), .val (.int q1), .val (.int q2), .val (.int q3), .val (.int q4), .val (.int q5), .val (.int c0), .val (.int c1), .val (.int c2), .val (.int c3), .val (.int c4), .val (.int ((q5 &&& (2147483647 : Int32)) % (6 : Int32))), .unset, .unset, .unset, .unset, .unset, .unset, .unset, .unset, .unset, .unset, .unset, .unset] []) G := fun tq kq => K470 tq (XS.istore X463.here hx rfl (hb hby at_39) rfl (l' := #[.val (.int q0), .val (.int q1), .val (.int q2), .val (.int q3), .val (.int q4), .val (.int q5), .val (.int c0), .val (.int c1), .val (.int c2), .val (.int c3), .val (.int c4), .val (.int ((q5 &&& (2147483647 : Int32)) % (6 : Int32))), .unset, .unset, .unset, .unset, .unset, .unset, .unset, .unset, .unset, .unset, .unset, .unset]) rfl kq)
  obtain ⟨nn, h_nn⟩ : ∃ z, z = ((q5 &&& (2147483647 : Int32)) % (6 : Int32)) := ⟨_, rfl⟩
  have K472 : Go p e below T463 (mkF m 41 #[.val (.int q0), .val (.int q1), .val (.int q2), .val (.int q3), .val (.int q4), .val (.int q5), .val (.int c0), .val (.int c1), .val (.int c2), .val (.int c3), .val (.int c4), .val (.int nn), .unset, .unset, .unset, .unset, .unset, .unset, .unset, .unset, .unset, .unset, .unset, .unset] []) G := by rw [h_nn]; exact K471
  have hnn : nn = 0 ∨ nn = 1 ∨ nn = 2 ∨ nn = 3 ∨ nn = 4 ∨ nn = 5 := by rw [h_nn]; exact own_n6 q5
  have hup : ∀ c ∈ own_tx nn c0 c1 c2 c3 c4, ¬ c < 0 ∧ ¬ (65535 : Int32) < c := by
    intro c hc
    have q := own_txm hc
    simp only [List.mem_cons, List.not_mem_nil, or_false] at q
    rcases q with rfl | rfl | rfl | rfl | rfl
    · exact own_up R0.1
    · exact own_up R1.1
    · exact own_up R2.1
    · exact own_up R3.1
    · exact own_up R4.1
  have K473 : Go p e below T463 (mkF m 43 #[.val (.int q0), .val (.int q1), .val (.int q2), .val (.int q3), .val (.int q4), .val (.int q5), .val (.int c0), .val (.int c1), .val (.int c2), .val (.int c3), .val (.int c4), .val (.int nn), .unset, .unset, .unset, .unset, .unset, .unset, .unset, .unset, .unset, .unset, .unset, .unset] [(.int nn)]) G := fun tq kq => K472 tq (XS.iload X463.here hx rfl (hb hby at_41) rfl kq)
  have K474 : Go p e below T463 (mkF m 45 #[.val (.int q0), .val (.int q1), .val (.int q2), .val (.int q3), .val (.int q4), .val (.int q5), .val (.int c0), .val (.int c1), .val (.int c2), .val (.int c3), .val (.int c4), .val (.int nn), .unset, .unset, .unset, .unset, .unset, .unset, .unset, .unset, .unset, .unset, .unset, .unset] [(.int c0), (.int nn)]) G := fun tq kq => K473 tq (XS.iload X463.here hx rfl (hb hby at_43) rfl kq)
  have K475 : Go p e below T463 (mkF m 47 #[.val (.int q0), .val (.int q1), .val (.int q2), .val (.int q3), .val (.int q4), .val (.int q5), .val (.int c0), .val (.int c1), .val (.int c2), .val (.int c3), .val (.int c4), .val (.int nn), .unset, .unset, .unset, .unset, .unset, .unset, .unset, .unset, .unset, .unset, .unset, .unset] [(.int c1), (.int c0), (.int nn)]) G := fun tq kq => K474 tq (XS.iload X463.here hx rfl (hb hby at_45) rfl kq)
  have K476 : Go p e below T463 (mkF m 49 #[.val (.int q0), .val (.int q1), .val (.int q2), .val (.int q3), .val (.int q4), .val (.int q5), .val (.int c0), .val (.int c1), .val (.int c2), .val (.int c3), .val (.int c4), .val (.int nn), .unset, .unset, .unset, .unset, .unset, .unset, .unset, .unset, .unset, .unset, .unset, .unset] [(.int c2), (.int c1), (.int c0), (.int nn)]) G := fun tq kq => K475 tq (XS.iload X463.here hx rfl (hb hby at_47) rfl kq)
  have K477 : Go p e below T463 (mkF m 51 #[.val (.int q0), .val (.int q1), .val (.int q2), .val (.int q3), .val (.int q4), .val (.int q5), .val (.int c0), .val (.int c1), .val (.int c2), .val (.int c3), .val (.int c4), .val (.int nn), .unset, .unset, .unset, .unset, .unset, .unset, .unset, .unset, .unset, .unset, .unset, .unset] [(.int c3), (.int c2), (.int c1), (.int c0), (.int nn)]) G := fun tq kq => K476 tq (XS.iload X463.here hx rfl (hb hby at_49) rfl kq)
  have K478 : Go p e below T463 (mkF m 53 #[.val (.int q0), .val (.int q1), .val (.int q2), .val (.int q3), .val (.int q4), .val (.int q5), .val (.int c0), .val (.int c1), .val (.int c2), .val (.int c3), .val (.int c4), .val (.int nn), .unset, .unset, .unset, .unset, .unset, .unset, .unset, .unset, .unset, .unset, .unset, .unset] [(.int c4), (.int c3), (.int c2), (.int c1), (.int c0), (.int nn)]) G := fun tq kq => K477 tq (XS.iload X463.here hx rfl (hb hby at_51) rfl kq)
  obtain ⟨v479, _, ⟨T479, L479, k479, n479⟩, -, X479, hSa479, hgr479, ⟨Lc479, hQ479, l479, y479, z479, hCR479⟩, st479⟩ := callSS X463 hx (y := (⟨"com/example/tallyrule/tallyrule/DecimalsSignificantDigitsPinLaw", "text", "(ICCCCC)Ljava/lang/String;"⟩ : MethodName)) hown (mvT hZ (hW 5 _ rfl)) (mvT hZ (hW 6 _ rfl)) (mvT hZ (hW 2 _ rfl)) (mvT hZ (hW 7 _ rfl)) (by decide) (backOfSH (W := 0) (rmTX l Z a0 hw [] nn c0 c1 c2 c3 c4 cz h0 n0 Z0 O0 S_cs hcz R0 R1 R2 R3 R4) hZ (hW 7 _ rfl) (hW 2 _ rfl) (by decide) (by decide) hEL CR0.1) (g := (mkF m 53 #[.val (.int q0), .val (.int q1), .val (.int q2), .val (.int q3), .val (.int q4), .val (.int q5), .val (.int c0), .val (.int c1), .val (.int c2), .val (.int c3), .val (.int c4), .val (.int nn), .unset, .unset, .unset, .unset, .unset, .unset, .unset, .unset, .unset, .unset, .unset, .unset] [(.int c4), (.int c3), (.int c2), (.int c1), (.int c0), (.int nn)])) rfl (by rw [hml]; rfl) (argsL := [(.int nn), (.int c0), (.int c1), (.int c2), (.int c3), (.int c4)]) (rest := []) (lenOf pd_273 rfl) rfl (by show 2 * 0 + _ ≤ _; exact Nat.le_of_eq rfl) (hb hby at_53) (fun _ _ => ⟨rfl, E463q, (by decide : 0 + 4 ≤ _), (by decide : 0 + 14 ≤ _)⟩)
  dsimp only [Pt.U, Pt.locs, Pt.cells, Pt.slots] at X479 l479 y479 z479 st479 hQ479 hSa479 hgr479 hCR479
  subst l479 y479 z479
  obtain ⟨X479, hSb479, hZ, hown⟩ := rebS hS0 (by first | exact (Nat.zero_le _) | (rw [E463q]; exact (Nat.zero_le _))) X479 hSa479 hgr479 hZ hown
  have CR480 := CR0.trans (hCR479)
  obtain ⟨r, t, kb, N2, vs, rfl, N479q, K479q, Er, Fv, Fc, Vt, Cd⟩ := hQ479
  have N479 := Fr.app N463 N479q
  have K481 : Go p e below T479 (mkF m 56 #[.val (.int q0), .val (.int q1), .val (.int q2), .val (.int q3), .val (.int q4), .val (.int q5), .val (.int c0), .val (.int c1), .val (.int c2), .val (.int c3), .val (.int c4), .val (.int nn), .unset, .unset, .unset, .unset, .unset, .unset, .unset, .unset, .unset, .unset, .unset, .unset] [(.ref r)]) G := fun tq kq => K478 tq (st479.trans kq)
  have K482 : Go p e below T479 (mkF m 58 #[.val (.int q0), .val (.int q1), .val (.int q2), .val (.int q3), .val (.int q4), .val (.int q5), .val (.int c0), .val (.int c1), .val (.int c2), .val (.int c3), .val (.int c4), .val (.int nn), .val (.ref r), .unset, .unset, .unset, .unset, .unset, .unset, .unset, .unset, .unset, .unset, .unset] []) G := fun tq kq => K481 tq (XS.astore X479.here hx rfl (hb hby at_56) rfl rfl (l' := #[.val (.int q0), .val (.int q1), .val (.int q2), .val (.int q3), .val (.int q4), .val (.int q5), .val (.int c0), .val (.int c1), .val (.int c2), .val (.int c3), .val (.int c4), .val (.int nn), .val (.ref r), .unset, .unset, .unset, .unset, .unset, .unset, .unset, .unset, .unset, .unset, .unset]) rfl kq)
  obtain ⟨Tj483, Lj483, av0, Xj483, ej483, Nj483, hj483, Kj483⟩ : ∃ (Tj : State) (Lj : List Loc) (av0 : Int32), Stand p l e room_1 (s.setVm T479.vm) m #[(.int q0), (.int q1), (.int q2), (.int q3), (.int q4), (.int q5)] below meth c Tj Lj 4 14 ∧ Tj.heap = T479.heap ∧ Fr n0 Lj ∧ (av0 = own_a0 nn c0) ∧ Go p e below Tj (mkF m 76 #[.val (.int q0), .val (.int q1), .val (.int q2), .val (.int q3), .val (.int q4), .val (.int q5), .val (.int c0), .val (.int c1), .val (.int c2), .val (.int c3), .val (.int c4), .val (.int nn), .val (.ref r), .unset, .unset, .unset, .unset, .unset, .unset, .unset, .unset, .unset, .unset, .unset] [(.int av0)]) G := by
    have K484 : Go p e below T479 (mkF m 60 #[.val (.int q0), .val (.int q1), .val (.int q2), .val (.int q3), .val (.int q4), .val (.int q5), .val (.int c0), .val (.int c1), .val (.int c2), .val (.int c3), .val (.int c4), .val (.int nn), .val (.ref r), .unset, .unset, .unset, .unset, .unset, .unset, .unset, .unset, .unset, .unset, .unset] [(.int nn)]) G := fun tq kq => K482 tq (XS.iload X479.here hx rfl (hb hby at_58) rfl kq)
    by_cases hc485 : (0 : Int32) < nn
    · skip
      have K486 : Go p e below T479 (mkF m 63 #[.val (.int q0), .val (.int q1), .val (.int q2), .val (.int q3), .val (.int q4), .val (.int q5), .val (.int c0), .val (.int c1), .val (.int c2), .val (.int c3), .val (.int c4), .val (.int nn), .val (.ref r), .unset, .unset, .unset, .unset, .unset, .unset, .unset, .unset, .unset, .unset, .unset] []) G := fun tq kq => K484 tq (XS.ifNo X479.here hx rfl (hb hby at_60) rfl ((if0 _ _).trans (tlt hc485).2.2.2) kq)
      have K487 : Go p e below T479 (mkF m 65 #[.val (.int q0), .val (.int q1), .val (.int q2), .val (.int q3), .val (.int q4), .val (.int q5), .val (.int c0), .val (.int c1), .val (.int c2), .val (.int c3), .val (.int c4), .val (.int nn), .val (.ref r), .unset, .unset, .unset, .unset, .unset, .unset, .unset, .unset, .unset, .unset, .unset] [(.int c0)]) G := fun tq kq => K486 tq (XS.iload X479.here hx rfl (hb hby at_63) rfl kq)
      obtain ⟨v488, _, ⟨T488, L488, k488, n488⟩, -, X488, ⟨Lc488, hQ488, l488, y488, z488⟩, st488⟩ := Jvm.LawKit.callS X479 hx (y := (⟨"com/example/tallyrule/tallyrule/DecimalsSignificantDigitsPinLaw", "isE", "(C)Z"⟩ : MethodName)) hown (mvT hZ (hW 38 _ rfl)) (mvT hZ (hW 39 _ rfl)) (mvT hZ (hW 2 _ rfl)) (mvT hZ (hW 40 _ rfl)) (by decide) (backOf (W := 0) (rmIE l Z a0 hw [] c0 T479.heap n0 (Nat.le_trans Z0 K479q.1)) hZ (hW 40 _ rfl) (hW 2 _ rfl) (by decide) (by decide)) (g := (mkF m 65 #[.val (.int q0), .val (.int q1), .val (.int q2), .val (.int q3), .val (.int q4), .val (.int q5), .val (.int c0), .val (.int c1), .val (.int c2), .val (.int c3), .val (.int c4), .val (.int nn), .val (.ref r), .unset, .unset, .unset, .unset, .unset, .unset, .unset, .unset, .unset, .unset, .unset] [(.int c0)])) rfl (by rw [hml]; rfl) (argsL := [(.int c0)]) (rest := []) (lenOf pd_274 rfl) rfl (by show 2 * 0 + _ ≤ _; exact Nat.le_of_eq rfl) (hb hby at_65) (fun _ _ => ⟨rfl, rfl, (by decide : 4 + 0 ≤ _), (by decide : 14 + 0 ≤ _)⟩)
      dsimp only [Pt.U, Pt.locs, Pt.cells, Pt.slots] at X488 l488 y488 z488 st488 hQ488
      subst l488 y488 z488
      by_cases hc489 : c0 = (101 : Int32) ∨ c0 = (69 : Int32)
      · skip
        rw [QIE, if_pos hc489] at hQ488
        obtain ⟨rfl, N488q, E488q⟩ := hQ488
        have N488 := Fr.app N479 N488q
        have K490 : Go p e below T488 (mkF m 68 #[.val (.int q0), .val (.int q1), .val (.int q2), .val (.int q3), .val (.int q4), .val (.int q5), .val (.int c0), .val (.int c1), .val (.int c2), .val (.int c3), .val (.int c4), .val (.int nn), .val (.ref r), .unset, .unset, .unset, .unset, .unset, .unset, .unset, .unset, .unset, .unset, .unset] [(.int (1 : Int32))]) G := fun tq kq => K487 tq (st488 tq kq)
        have K491 : Go p e below T488 (mkF m 75 #[.val (.int q0), .val (.int q1), .val (.int q2), .val (.int q3), .val (.int q4), .val (.int q5), .val (.int c0), .val (.int c1), .val (.int c2), .val (.int c3), .val (.int c4), .val (.int nn), .val (.ref r), .unset, .unset, .unset, .unset, .unset, .unset, .unset, .unset, .unset, .unset, .unset] []) G := fun tq kq => K490 tq (XS.ifYes X488.here hx rfl (pc0 := 68) (pc' := 75) rfl (hb hby at_68) rfl ((if0 _ _).trans (feq (by decide : ¬ ((1 : Int32) = (0 : Int32)))).2) (by decide) (by decide) kq)
        have K492 : Go p e below T488 (mkF m 76 #[.val (.int q0), .val (.int q1), .val (.int q2), .val (.int q3), .val (.int q4), .val (.int q5), .val (.int c0), .val (.int c1), .val (.int c2), .val (.int c3), .val (.int c4), .val (.int nn), .val (.ref r), .unset, .unset, .unset, .unset, .unset, .unset, .unset, .unset, .unset, .unset, .unset] [(.int (0 : Int32))]) G := fun tq kq => K491 tq (XS.iconst X488.here hx rfl (hb hby at_75) kq)
        refine ⟨T488, _, (0 : Int32), X488, E488q, N488, ?_, K492⟩
        exact (if_neg (fun z => z.2 hc489)).symm
      · skip
        rw [QIE, if_neg hc489] at hQ488
        obtain ⟨rfl, N488q, E488q⟩ := hQ488
        have N488 := Fr.app N479 N488q
        have K493 : Go p e below T488 (mkF m 68 #[.val (.int q0), .val (.int q1), .val (.int q2), .val (.int q3), .val (.int q4), .val (.int q5), .val (.int c0), .val (.int c1), .val (.int c2), .val (.int c3), .val (.int c4), .val (.int nn), .val (.ref r), .unset, .unset, .unset, .unset, .unset, .unset, .unset, .unset, .unset, .unset, .unset] [(.int (0 : Int32))]) G := fun tq kq => K487 tq (st488 tq kq)
        have K494 : Go p e below T488 (mkF m 71 #[.val (.int q0), .val (.int q1), .val (.int q2), .val (.int q3), .val (.int q4), .val (.int q5), .val (.int c0), .val (.int c1), .val (.int c2), .val (.int c3), .val (.int c4), .val (.int nn), .val (.ref r), .unset, .unset, .unset, .unset, .unset, .unset, .unset, .unset, .unset, .unset, .unset] []) G := fun tq kq => K493 tq (XS.ifNo X488.here hx rfl (hb hby at_68) rfl ((if0 _ _).trans (teq (by decide : (0 : Int32) = (0 : Int32))).2) kq)
        have K495 : Go p e below T488 (mkF m 72 #[.val (.int q0), .val (.int q1), .val (.int q2), .val (.int q3), .val (.int q4), .val (.int q5), .val (.int c0), .val (.int c1), .val (.int c2), .val (.int c3), .val (.int c4), .val (.int nn), .val (.ref r), .unset, .unset, .unset, .unset, .unset, .unset, .unset, .unset, .unset, .unset, .unset] [(.int (1 : Int32))]) G := fun tq kq => K494 tq (XS.iconst X488.here hx rfl (hb hby at_71) kq)
        have K496 : Go p e below T488 (mkF m 76 #[.val (.int q0), .val (.int q1), .val (.int q2), .val (.int q3), .val (.int q4), .val (.int q5), .val (.int c0), .val (.int c1), .val (.int c2), .val (.int c3), .val (.int c4), .val (.int nn), .val (.ref r), .unset, .unset, .unset, .unset, .unset, .unset, .unset, .unset, .unset, .unset, .unset] [(.int (1 : Int32))]) G := fun tq kq => K495 tq (XS.goto X488.here hx rfl (pc0 := 72) (pc' := 76) rfl (hb hby at_72) (by decide) (by decide) kq)
        refine ⟨T488, _, (1 : Int32), X488, E488q, N488, ?_, K496⟩
        exact (if_pos ⟨hc485, hc489⟩).symm
    · skip
      have K497 : Go p e below T479 (mkF m 75 #[.val (.int q0), .val (.int q1), .val (.int q2), .val (.int q3), .val (.int q4), .val (.int q5), .val (.int c0), .val (.int c1), .val (.int c2), .val (.int c3), .val (.int c4), .val (.int nn), .val (.ref r), .unset, .unset, .unset, .unset, .unset, .unset, .unset, .unset, .unset, .unset, .unset] []) G := fun tq kq => K484 tq (XS.ifYes X479.here hx rfl (pc0 := 60) (pc' := 75) rfl (hb hby at_60) rfl ((if0 _ _).trans (flt hc485).2.2.2) (by decide) (by decide) kq)
      have K498 : Go p e below T479 (mkF m 76 #[.val (.int q0), .val (.int q1), .val (.int q2), .val (.int q3), .val (.int q4), .val (.int q5), .val (.int c0), .val (.int c1), .val (.int c2), .val (.int c3), .val (.int c4), .val (.int nn), .val (.ref r), .unset, .unset, .unset, .unset, .unset, .unset, .unset, .unset, .unset, .unset, .unset] [(.int (0 : Int32))]) G := fun tq kq => K497 tq (XS.iconst X479.here hx rfl (hb hby at_75) kq)
      refine ⟨T479, _, (0 : Int32), X479, rfl, N479, ?_, K498⟩
      exact (if_neg (fun z => hc485 (z.1))).symm
  have h_av0 := hj483
  have K499 : Go p e below Tj483 (mkF m 78 #[.val (.int q0), .val (.int q1), .val (.int q2), .val (.int q3), .val (.int q4), .val (.int q5), .val (.int c0), .val (.int c1), .val (.int c2), .val (.int c3), .val (.int c4), .val (.int nn), .val (.ref r), .val (.int av0), .unset, .unset, .unset, .unset, .unset, .unset, .unset, .unset, .unset, .unset] []) G := fun tq kq => Kj483 tq (XS.istore Xj483.here hx rfl (hb hby at_76) rfl (l' := #[.val (.int q0), .val (.int q1), .val (.int q2), .val (.int q3), .val (.int q4), .val (.int q5), .val (.int c0), .val (.int c1), .val (.int c2), .val (.int c3), .val (.int c4), .val (.int nn), .val (.ref r), .val (.int av0), .unset, .unset, .unset, .unset, .unset, .unset, .unset, .unset, .unset, .unset]) rfl kq)
  obtain ⟨Tj500, Lj500, av1, Xj500, ej500, Nj500, hj500, Kj500⟩ : ∃ (Tj : State) (Lj : List Loc) (av1 : Int32), Stand p l e room_1 (s.setVm T479.vm) m #[(.int q0), (.int q1), (.int q2), (.int q3), (.int q4), (.int q5)] below meth c Tj Lj 4 14 ∧ Tj.heap = T479.heap ∧ Fr n0 Lj ∧ (av1 = own_a (1 : Int32) av0 nn c1) ∧ Go p e below Tj (mkF m 102 #[.val (.int q0), .val (.int q1), .val (.int q2), .val (.int q3), .val (.int q4), .val (.int q5), .val (.int c0), .val (.int c1), .val (.int c2), .val (.int c3), .val (.int c4), .val (.int nn), .val (.ref r), .val (.int av0), .unset, .unset, .unset, .unset, .unset, .unset, .unset, .unset, .unset, .unset] [(.int av1)]) G := by
    have K501 : Go p e below Tj483 (mkF m 80 #[.val (.int q0), .val (.int q1), .val (.int q2), .val (.int q3), .val (.int q4), .val (.int q5), .val (.int c0), .val (.int c1), .val (.int c2), .val (.int c3), .val (.int c4), .val (.int nn), .val (.ref r), .val (.int av0), .unset, .unset, .unset, .unset, .unset, .unset, .unset, .unset, .unset, .unset] [(.int av0)]) G := fun tq kq => K499 tq (XS.iload Xj483.here hx rfl (hb hby at_78) rfl kq)
    by_cases hc502 : av0 = (0 : Int32)
    · skip
      have K503 : Go p e below Tj483 (mkF m 101 #[.val (.int q0), .val (.int q1), .val (.int q2), .val (.int q3), .val (.int q4), .val (.int q5), .val (.int c0), .val (.int c1), .val (.int c2), .val (.int c3), .val (.int c4), .val (.int nn), .val (.ref r), .val (.int av0), .unset, .unset, .unset, .unset, .unset, .unset, .unset, .unset, .unset, .unset] []) G := fun tq kq => K501 tq (XS.ifYes Xj483.here hx rfl (pc0 := 80) (pc' := 101) rfl (hb hby at_80) rfl ((if0 _ _).trans (teq hc502).1) (by decide) (by decide) kq)
      have K504 : Go p e below Tj483 (mkF m 102 #[.val (.int q0), .val (.int q1), .val (.int q2), .val (.int q3), .val (.int q4), .val (.int q5), .val (.int c0), .val (.int c1), .val (.int c2), .val (.int c3), .val (.int c4), .val (.int nn), .val (.ref r), .val (.int av0), .unset, .unset, .unset, .unset, .unset, .unset, .unset, .unset, .unset, .unset] [(.int (0 : Int32))]) G := fun tq kq => K503 tq (XS.iconst Xj483.here hx rfl (hb hby at_101) kq)
      refine ⟨Tj483, _, (0 : Int32), Xj483, ej483, Nj483, ?_, K504⟩
      exact (if_neg (fun z => z.1 hc502)).symm
    · skip
      have K505 : Go p e below Tj483 (mkF m 83 #[.val (.int q0), .val (.int q1), .val (.int q2), .val (.int q3), .val (.int q4), .val (.int q5), .val (.int c0), .val (.int c1), .val (.int c2), .val (.int c3), .val (.int c4), .val (.int nn), .val (.ref r), .val (.int av0), .unset, .unset, .unset, .unset, .unset, .unset, .unset, .unset, .unset, .unset] []) G := fun tq kq => K501 tq (XS.ifNo Xj483.here hx rfl (hb hby at_80) rfl ((if0 _ _).trans (feq hc502).1) kq)
      have K506 : Go p e below Tj483 (mkF m 85 #[.val (.int q0), .val (.int q1), .val (.int q2), .val (.int q3), .val (.int q4), .val (.int q5), .val (.int c0), .val (.int c1), .val (.int c2), .val (.int c3), .val (.int c4), .val (.int nn), .val (.ref r), .val (.int av0), .unset, .unset, .unset, .unset, .unset, .unset, .unset, .unset, .unset, .unset] [(.int nn)]) G := fun tq kq => K505 tq (XS.iload Xj483.here hx rfl (hb hby at_83) rfl kq)
      have K507 : Go p e below Tj483 (mkF m 86 #[.val (.int q0), .val (.int q1), .val (.int q2), .val (.int q3), .val (.int q4), .val (.int q5), .val (.int c0), .val (.int c1), .val (.int c2), .val (.int c3), .val (.int c4), .val (.int nn), .val (.ref r), .val (.int av0), .unset, .unset, .unset, .unset, .unset, .unset, .unset, .unset, .unset, .unset] [(.int (1 : Int32)), (.int nn)]) G := fun tq kq => K506 tq (XS.iconst Xj483.here hx rfl (hb hby at_85) kq)
      by_cases hc508 : (1 : Int32) < nn
      · skip
        have K509 : Go p e below Tj483 (mkF m 89 #[.val (.int q0), .val (.int q1), .val (.int q2), .val (.int q3), .val (.int q4), .val (.int q5), .val (.int c0), .val (.int c1), .val (.int c2), .val (.int c3), .val (.int c4), .val (.int nn), .val (.ref r), .val (.int av0), .unset, .unset, .unset, .unset, .unset, .unset, .unset, .unset, .unset, .unset] []) G := fun tq kq => K507 tq (XS.icmpNo Xj483.here hx rfl (hb hby at_86) rfl ((tlt hc508).2.2.2) kq)
        have K510 : Go p e below Tj483 (mkF m 91 #[.val (.int q0), .val (.int q1), .val (.int q2), .val (.int q3), .val (.int q4), .val (.int q5), .val (.int c0), .val (.int c1), .val (.int c2), .val (.int c3), .val (.int c4), .val (.int nn), .val (.ref r), .val (.int av0), .unset, .unset, .unset, .unset, .unset, .unset, .unset, .unset, .unset, .unset] [(.int c1)]) G := fun tq kq => K509 tq (XS.iload Xj483.here hx rfl (hb hby at_89) rfl kq)
        obtain ⟨v511, _, ⟨T511, L511, k511, n511⟩, -, X511, ⟨Lc511, hQ511, l511, y511, z511⟩, st511⟩ := Jvm.LawKit.callS Xj483 hx (y := (⟨"com/example/tallyrule/tallyrule/DecimalsSignificantDigitsPinLaw", "isE", "(C)Z"⟩ : MethodName)) hown (mvT hZ (hW 38 _ rfl)) (mvT hZ (hW 39 _ rfl)) (mvT hZ (hW 2 _ rfl)) (mvT hZ (hW 40 _ rfl)) (by decide) (backOf (W := 0) (rmIE l Z a0 hw [] c1 T479.heap n0 (Nat.le_trans Z0 K479q.1)) hZ (hW 40 _ rfl) (hW 2 _ rfl) (by decide) (by decide)) (g := (mkF m 91 #[.val (.int q0), .val (.int q1), .val (.int q2), .val (.int q3), .val (.int q4), .val (.int q5), .val (.int c0), .val (.int c1), .val (.int c2), .val (.int c3), .val (.int c4), .val (.int nn), .val (.ref r), .val (.int av0), .unset, .unset, .unset, .unset, .unset, .unset, .unset, .unset, .unset, .unset] [(.int c1)])) rfl (by rw [hml]; rfl) (argsL := [(.int c1)]) (rest := []) (lenOf pd_274 rfl) rfl (by show 2 * 0 + _ ≤ _; exact Nat.le_of_eq rfl) (hb hby at_91) (fun _ _ => ⟨rfl, ej483, (by decide : 4 + 0 ≤ _), (by decide : 14 + 0 ≤ _)⟩)
        dsimp only [Pt.U, Pt.locs, Pt.cells, Pt.slots] at X511 l511 y511 z511 st511 hQ511
        subst l511 y511 z511
        by_cases hc512 : c1 = (101 : Int32) ∨ c1 = (69 : Int32)
        · skip
          rw [QIE, if_pos hc512] at hQ511
          obtain ⟨rfl, N511q, E511q⟩ := hQ511
          have N511 := Fr.app Nj483 N511q
          have K513 : Go p e below T511 (mkF m 94 #[.val (.int q0), .val (.int q1), .val (.int q2), .val (.int q3), .val (.int q4), .val (.int q5), .val (.int c0), .val (.int c1), .val (.int c2), .val (.int c3), .val (.int c4), .val (.int nn), .val (.ref r), .val (.int av0), .unset, .unset, .unset, .unset, .unset, .unset, .unset, .unset, .unset, .unset] [(.int (1 : Int32))]) G := fun tq kq => K510 tq (st511 tq kq)
          have K514 : Go p e below T511 (mkF m 101 #[.val (.int q0), .val (.int q1), .val (.int q2), .val (.int q3), .val (.int q4), .val (.int q5), .val (.int c0), .val (.int c1), .val (.int c2), .val (.int c3), .val (.int c4), .val (.int nn), .val (.ref r), .val (.int av0), .unset, .unset, .unset, .unset, .unset, .unset, .unset, .unset, .unset, .unset] []) G := fun tq kq => K513 tq (XS.ifYes X511.here hx rfl (pc0 := 94) (pc' := 101) rfl (hb hby at_94) rfl ((if0 _ _).trans (feq (by decide : ¬ ((1 : Int32) = (0 : Int32)))).2) (by decide) (by decide) kq)
          have K515 : Go p e below T511 (mkF m 102 #[.val (.int q0), .val (.int q1), .val (.int q2), .val (.int q3), .val (.int q4), .val (.int q5), .val (.int c0), .val (.int c1), .val (.int c2), .val (.int c3), .val (.int c4), .val (.int nn), .val (.ref r), .val (.int av0), .unset, .unset, .unset, .unset, .unset, .unset, .unset, .unset, .unset, .unset] [(.int (0 : Int32))]) G := fun tq kq => K514 tq (XS.iconst X511.here hx rfl (hb hby at_101) kq)
          refine ⟨T511, _, (0 : Int32), X511, E511q, N511, ?_, K515⟩
          exact (if_neg (fun z => z.2.2 hc512)).symm
        · skip
          rw [QIE, if_neg hc512] at hQ511
          obtain ⟨rfl, N511q, E511q⟩ := hQ511
          have N511 := Fr.app Nj483 N511q
          have K516 : Go p e below T511 (mkF m 94 #[.val (.int q0), .val (.int q1), .val (.int q2), .val (.int q3), .val (.int q4), .val (.int q5), .val (.int c0), .val (.int c1), .val (.int c2), .val (.int c3), .val (.int c4), .val (.int nn), .val (.ref r), .val (.int av0), .unset, .unset, .unset, .unset, .unset, .unset, .unset, .unset, .unset, .unset] [(.int (0 : Int32))]) G := fun tq kq => K510 tq (st511 tq kq)
          have K517 : Go p e below T511 (mkF m 97 #[.val (.int q0), .val (.int q1), .val (.int q2), .val (.int q3), .val (.int q4), .val (.int q5), .val (.int c0), .val (.int c1), .val (.int c2), .val (.int c3), .val (.int c4), .val (.int nn), .val (.ref r), .val (.int av0), .unset, .unset, .unset, .unset, .unset, .unset, .unset, .unset, .unset, .unset] []) G := fun tq kq => K516 tq (XS.ifNo X511.here hx rfl (hb hby at_94) rfl ((if0 _ _).trans (teq (by decide : (0 : Int32) = (0 : Int32))).2) kq)
          have K518 : Go p e below T511 (mkF m 98 #[.val (.int q0), .val (.int q1), .val (.int q2), .val (.int q3), .val (.int q4), .val (.int q5), .val (.int c0), .val (.int c1), .val (.int c2), .val (.int c3), .val (.int c4), .val (.int nn), .val (.ref r), .val (.int av0), .unset, .unset, .unset, .unset, .unset, .unset, .unset, .unset, .unset, .unset] [(.int (1 : Int32))]) G := fun tq kq => K517 tq (XS.iconst X511.here hx rfl (hb hby at_97) kq)
          have K519 : Go p e below T511 (mkF m 102 #[.val (.int q0), .val (.int q1), .val (.int q2), .val (.int q3), .val (.int q4), .val (.int q5), .val (.int c0), .val (.int c1), .val (.int c2), .val (.int c3), .val (.int c4), .val (.int nn), .val (.ref r), .val (.int av0), .unset, .unset, .unset, .unset, .unset, .unset, .unset, .unset, .unset, .unset] [(.int (1 : Int32))]) G := fun tq kq => K518 tq (XS.goto X511.here hx rfl (pc0 := 98) (pc' := 102) rfl (hb hby at_98) (by decide) (by decide) kq)
          refine ⟨T511, _, (1 : Int32), X511, E511q, N511, ?_, K519⟩
          exact (if_pos ⟨hc502, hc508, hc512⟩).symm
      · skip
        have K520 : Go p e below Tj483 (mkF m 101 #[.val (.int q0), .val (.int q1), .val (.int q2), .val (.int q3), .val (.int q4), .val (.int q5), .val (.int c0), .val (.int c1), .val (.int c2), .val (.int c3), .val (.int c4), .val (.int nn), .val (.ref r), .val (.int av0), .unset, .unset, .unset, .unset, .unset, .unset, .unset, .unset, .unset, .unset] []) G := fun tq kq => K507 tq (XS.icmpYes Xj483.here hx rfl (pc0 := 86) (pc' := 101) rfl (hb hby at_86) rfl ((flt hc508).2.2.2) (by decide) (by decide) kq)
        have K521 : Go p e below Tj483 (mkF m 102 #[.val (.int q0), .val (.int q1), .val (.int q2), .val (.int q3), .val (.int q4), .val (.int q5), .val (.int c0), .val (.int c1), .val (.int c2), .val (.int c3), .val (.int c4), .val (.int nn), .val (.ref r), .val (.int av0), .unset, .unset, .unset, .unset, .unset, .unset, .unset, .unset, .unset, .unset] [(.int (0 : Int32))]) G := fun tq kq => K520 tq (XS.iconst Xj483.here hx rfl (hb hby at_101) kq)
        refine ⟨Tj483, _, (0 : Int32), Xj483, ej483, Nj483, ?_, K521⟩
        exact (if_neg (fun z => hc508 (z.2.1))).symm
  have h_av1 := hj500
  have K522 : Go p e below Tj500 (mkF m 104 #[.val (.int q0), .val (.int q1), .val (.int q2), .val (.int q3), .val (.int q4), .val (.int q5), .val (.int c0), .val (.int c1), .val (.int c2), .val (.int c3), .val (.int c4), .val (.int nn), .val (.ref r), .val (.int av0), .val (.int av1), .unset, .unset, .unset, .unset, .unset, .unset, .unset, .unset, .unset] []) G := fun tq kq => Kj500 tq (XS.istore Xj500.here hx rfl (hb hby at_102) rfl (l' := #[.val (.int q0), .val (.int q1), .val (.int q2), .val (.int q3), .val (.int q4), .val (.int q5), .val (.int c0), .val (.int c1), .val (.int c2), .val (.int c3), .val (.int c4), .val (.int nn), .val (.ref r), .val (.int av0), .val (.int av1), .unset, .unset, .unset, .unset, .unset, .unset, .unset, .unset, .unset]) rfl kq)
  obtain ⟨Tj523, Lj523, av2, Xj523, ej523, Nj523, hj523, Kj523⟩ : ∃ (Tj : State) (Lj : List Loc) (av2 : Int32), Stand p l e room_1 (s.setVm T479.vm) m #[(.int q0), (.int q1), (.int q2), (.int q3), (.int q4), (.int q5)] below meth c Tj Lj 4 14 ∧ Tj.heap = T479.heap ∧ Fr n0 Lj ∧ (av2 = own_a (2 : Int32) av1 nn c2) ∧ Go p e below Tj (mkF m 128 #[.val (.int q0), .val (.int q1), .val (.int q2), .val (.int q3), .val (.int q4), .val (.int q5), .val (.int c0), .val (.int c1), .val (.int c2), .val (.int c3), .val (.int c4), .val (.int nn), .val (.ref r), .val (.int av0), .val (.int av1), .unset, .unset, .unset, .unset, .unset, .unset, .unset, .unset, .unset] [(.int av2)]) G := by
    have K524 : Go p e below Tj500 (mkF m 106 #[.val (.int q0), .val (.int q1), .val (.int q2), .val (.int q3), .val (.int q4), .val (.int q5), .val (.int c0), .val (.int c1), .val (.int c2), .val (.int c3), .val (.int c4), .val (.int nn), .val (.ref r), .val (.int av0), .val (.int av1), .unset, .unset, .unset, .unset, .unset, .unset, .unset, .unset, .unset] [(.int av1)]) G := fun tq kq => K522 tq (XS.iload Xj500.here hx rfl (hb hby at_104) rfl kq)
    by_cases hc525 : av1 = (0 : Int32)
    · skip
      have K526 : Go p e below Tj500 (mkF m 127 #[.val (.int q0), .val (.int q1), .val (.int q2), .val (.int q3), .val (.int q4), .val (.int q5), .val (.int c0), .val (.int c1), .val (.int c2), .val (.int c3), .val (.int c4), .val (.int nn), .val (.ref r), .val (.int av0), .val (.int av1), .unset, .unset, .unset, .unset, .unset, .unset, .unset, .unset, .unset] []) G := fun tq kq => K524 tq (XS.ifYes Xj500.here hx rfl (pc0 := 106) (pc' := 127) rfl (hb hby at_106) rfl ((if0 _ _).trans (teq hc525).1) (by decide) (by decide) kq)
      have K527 : Go p e below Tj500 (mkF m 128 #[.val (.int q0), .val (.int q1), .val (.int q2), .val (.int q3), .val (.int q4), .val (.int q5), .val (.int c0), .val (.int c1), .val (.int c2), .val (.int c3), .val (.int c4), .val (.int nn), .val (.ref r), .val (.int av0), .val (.int av1), .unset, .unset, .unset, .unset, .unset, .unset, .unset, .unset, .unset] [(.int (0 : Int32))]) G := fun tq kq => K526 tq (XS.iconst Xj500.here hx rfl (hb hby at_127) kq)
      refine ⟨Tj500, _, (0 : Int32), Xj500, ej500, Nj500, ?_, K527⟩
      exact (if_neg (fun z => z.1 hc525)).symm
    · skip
      have K528 : Go p e below Tj500 (mkF m 109 #[.val (.int q0), .val (.int q1), .val (.int q2), .val (.int q3), .val (.int q4), .val (.int q5), .val (.int c0), .val (.int c1), .val (.int c2), .val (.int c3), .val (.int c4), .val (.int nn), .val (.ref r), .val (.int av0), .val (.int av1), .unset, .unset, .unset, .unset, .unset, .unset, .unset, .unset, .unset] []) G := fun tq kq => K524 tq (XS.ifNo Xj500.here hx rfl (hb hby at_106) rfl ((if0 _ _).trans (feq hc525).1) kq)
      have K529 : Go p e below Tj500 (mkF m 111 #[.val (.int q0), .val (.int q1), .val (.int q2), .val (.int q3), .val (.int q4), .val (.int q5), .val (.int c0), .val (.int c1), .val (.int c2), .val (.int c3), .val (.int c4), .val (.int nn), .val (.ref r), .val (.int av0), .val (.int av1), .unset, .unset, .unset, .unset, .unset, .unset, .unset, .unset, .unset] [(.int nn)]) G := fun tq kq => K528 tq (XS.iload Xj500.here hx rfl (hb hby at_109) rfl kq)
      have K530 : Go p e below Tj500 (mkF m 112 #[.val (.int q0), .val (.int q1), .val (.int q2), .val (.int q3), .val (.int q4), .val (.int q5), .val (.int c0), .val (.int c1), .val (.int c2), .val (.int c3), .val (.int c4), .val (.int nn), .val (.ref r), .val (.int av0), .val (.int av1), .unset, .unset, .unset, .unset, .unset, .unset, .unset, .unset, .unset] [(.int (2 : Int32)), (.int nn)]) G := fun tq kq => K529 tq (XS.iconst Xj500.here hx rfl (hb hby at_111) kq)
      by_cases hc531 : (2 : Int32) < nn
      · skip
        have K532 : Go p e below Tj500 (mkF m 115 #[.val (.int q0), .val (.int q1), .val (.int q2), .val (.int q3), .val (.int q4), .val (.int q5), .val (.int c0), .val (.int c1), .val (.int c2), .val (.int c3), .val (.int c4), .val (.int nn), .val (.ref r), .val (.int av0), .val (.int av1), .unset, .unset, .unset, .unset, .unset, .unset, .unset, .unset, .unset] []) G := fun tq kq => K530 tq (XS.icmpNo Xj500.here hx rfl (hb hby at_112) rfl ((tlt hc531).2.2.2) kq)
        have K533 : Go p e below Tj500 (mkF m 117 #[.val (.int q0), .val (.int q1), .val (.int q2), .val (.int q3), .val (.int q4), .val (.int q5), .val (.int c0), .val (.int c1), .val (.int c2), .val (.int c3), .val (.int c4), .val (.int nn), .val (.ref r), .val (.int av0), .val (.int av1), .unset, .unset, .unset, .unset, .unset, .unset, .unset, .unset, .unset] [(.int c2)]) G := fun tq kq => K532 tq (XS.iload Xj500.here hx rfl (hb hby at_115) rfl kq)
        obtain ⟨v534, _, ⟨T534, L534, k534, n534⟩, -, X534, ⟨Lc534, hQ534, l534, y534, z534⟩, st534⟩ := Jvm.LawKit.callS Xj500 hx (y := (⟨"com/example/tallyrule/tallyrule/DecimalsSignificantDigitsPinLaw", "isE", "(C)Z"⟩ : MethodName)) hown (mvT hZ (hW 38 _ rfl)) (mvT hZ (hW 39 _ rfl)) (mvT hZ (hW 2 _ rfl)) (mvT hZ (hW 40 _ rfl)) (by decide) (backOf (W := 0) (rmIE l Z a0 hw [] c2 T479.heap n0 (Nat.le_trans Z0 K479q.1)) hZ (hW 40 _ rfl) (hW 2 _ rfl) (by decide) (by decide)) (g := (mkF m 117 #[.val (.int q0), .val (.int q1), .val (.int q2), .val (.int q3), .val (.int q4), .val (.int q5), .val (.int c0), .val (.int c1), .val (.int c2), .val (.int c3), .val (.int c4), .val (.int nn), .val (.ref r), .val (.int av0), .val (.int av1), .unset, .unset, .unset, .unset, .unset, .unset, .unset, .unset, .unset] [(.int c2)])) rfl (by rw [hml]; rfl) (argsL := [(.int c2)]) (rest := []) (lenOf pd_274 rfl) rfl (by show 2 * 0 + _ ≤ _; exact Nat.le_of_eq rfl) (hb hby at_117) (fun _ _ => ⟨rfl, ej500, (by decide : 4 + 0 ≤ _), (by decide : 14 + 0 ≤ _)⟩)
        dsimp only [Pt.U, Pt.locs, Pt.cells, Pt.slots] at X534 l534 y534 z534 st534 hQ534
        subst l534 y534 z534
        by_cases hc535 : c2 = (101 : Int32) ∨ c2 = (69 : Int32)
        · skip
          rw [QIE, if_pos hc535] at hQ534
          obtain ⟨rfl, N534q, E534q⟩ := hQ534
          have N534 := Fr.app Nj500 N534q
          have K536 : Go p e below T534 (mkF m 120 #[.val (.int q0), .val (.int q1), .val (.int q2), .val (.int q3), .val (.int q4), .val (.int q5), .val (.int c0), .val (.int c1), .val (.int c2), .val (.int c3), .val (.int c4), .val (.int nn), .val (.ref r), .val (.int av0), .val (.int av1), .unset, .unset, .unset, .unset, .unset, .unset, .unset, .unset, .unset] [(.int (1 : Int32))]) G := fun tq kq => K533 tq (st534 tq kq)
          have K537 : Go p e below T534 (mkF m 127 #[.val (.int q0), .val (.int q1), .val (.int q2), .val (.int q3), .val (.int q4), .val (.int q5), .val (.int c0), .val (.int c1), .val (.int c2), .val (.int c3), .val (.int c4), .val (.int nn), .val (.ref r), .val (.int av0), .val (.int av1), .unset, .unset, .unset, .unset, .unset, .unset, .unset, .unset, .unset] []) G := fun tq kq => K536 tq (XS.ifYes X534.here hx rfl (pc0 := 120) (pc' := 127) rfl (hb hby at_120) rfl ((if0 _ _).trans (feq (by decide : ¬ ((1 : Int32) = (0 : Int32)))).2) (by decide) (by decide) kq)
          have K538 : Go p e below T534 (mkF m 128 #[.val (.int q0), .val (.int q1), .val (.int q2), .val (.int q3), .val (.int q4), .val (.int q5), .val (.int c0), .val (.int c1), .val (.int c2), .val (.int c3), .val (.int c4), .val (.int nn), .val (.ref r), .val (.int av0), .val (.int av1), .unset, .unset, .unset, .unset, .unset, .unset, .unset, .unset, .unset] [(.int (0 : Int32))]) G := fun tq kq => K537 tq (XS.iconst X534.here hx rfl (hb hby at_127) kq)
          refine ⟨T534, _, (0 : Int32), X534, E534q, N534, ?_, K538⟩
          exact (if_neg (fun z => z.2.2 hc535)).symm
        · skip
          rw [QIE, if_neg hc535] at hQ534
          obtain ⟨rfl, N534q, E534q⟩ := hQ534
          have N534 := Fr.app Nj500 N534q
          have K539 : Go p e below T534 (mkF m 120 #[.val (.int q0), .val (.int q1), .val (.int q2), .val (.int q3), .val (.int q4), .val (.int q5), .val (.int c0), .val (.int c1), .val (.int c2), .val (.int c3), .val (.int c4), .val (.int nn), .val (.ref r), .val (.int av0), .val (.int av1), .unset, .unset, .unset, .unset, .unset, .unset, .unset, .unset, .unset] [(.int (0 : Int32))]) G := fun tq kq => K533 tq (st534 tq kq)
          have K540 : Go p e below T534 (mkF m 123 #[.val (.int q0), .val (.int q1), .val (.int q2), .val (.int q3), .val (.int q4), .val (.int q5), .val (.int c0), .val (.int c1), .val (.int c2), .val (.int c3), .val (.int c4), .val (.int nn), .val (.ref r), .val (.int av0), .val (.int av1), .unset, .unset, .unset, .unset, .unset, .unset, .unset, .unset, .unset] []) G := fun tq kq => K539 tq (XS.ifNo X534.here hx rfl (hb hby at_120) rfl ((if0 _ _).trans (teq (by decide : (0 : Int32) = (0 : Int32))).2) kq)
          have K541 : Go p e below T534 (mkF m 124 #[.val (.int q0), .val (.int q1), .val (.int q2), .val (.int q3), .val (.int q4), .val (.int q5), .val (.int c0), .val (.int c1), .val (.int c2), .val (.int c3), .val (.int c4), .val (.int nn), .val (.ref r), .val (.int av0), .val (.int av1), .unset, .unset, .unset, .unset, .unset, .unset, .unset, .unset, .unset] [(.int (1 : Int32))]) G := fun tq kq => K540 tq (XS.iconst X534.here hx rfl (hb hby at_123) kq)
          have K542 : Go p e below T534 (mkF m 128 #[.val (.int q0), .val (.int q1), .val (.int q2), .val (.int q3), .val (.int q4), .val (.int q5), .val (.int c0), .val (.int c1), .val (.int c2), .val (.int c3), .val (.int c4), .val (.int nn), .val (.ref r), .val (.int av0), .val (.int av1), .unset, .unset, .unset, .unset, .unset, .unset, .unset, .unset, .unset] [(.int (1 : Int32))]) G := fun tq kq => K541 tq (XS.goto X534.here hx rfl (pc0 := 124) (pc' := 128) rfl (hb hby at_124) (by decide) (by decide) kq)
          refine ⟨T534, _, (1 : Int32), X534, E534q, N534, ?_, K542⟩
          exact (if_pos ⟨hc525, hc531, hc535⟩).symm
      · skip
        have K543 : Go p e below Tj500 (mkF m 127 #[.val (.int q0), .val (.int q1), .val (.int q2), .val (.int q3), .val (.int q4), .val (.int q5), .val (.int c0), .val (.int c1), .val (.int c2), .val (.int c3), .val (.int c4), .val (.int nn), .val (.ref r), .val (.int av0), .val (.int av1), .unset, .unset, .unset, .unset, .unset, .unset, .unset, .unset, .unset] []) G := fun tq kq => K530 tq (XS.icmpYes Xj500.here hx rfl (pc0 := 112) (pc' := 127) rfl (hb hby at_112) rfl ((flt hc531).2.2.2) (by decide) (by decide) kq)
        have K544 : Go p e below Tj500 (mkF m 128 #[.val (.int q0), .val (.int q1), .val (.int q2), .val (.int q3), .val (.int q4), .val (.int q5), .val (.int c0), .val (.int c1), .val (.int c2), .val (.int c3), .val (.int c4), .val (.int nn), .val (.ref r), .val (.int av0), .val (.int av1), .unset, .unset, .unset, .unset, .unset, .unset, .unset, .unset, .unset] [(.int (0 : Int32))]) G := fun tq kq => K543 tq (XS.iconst Xj500.here hx rfl (hb hby at_127) kq)
        refine ⟨Tj500, _, (0 : Int32), Xj500, ej500, Nj500, ?_, K544⟩
        exact (if_neg (fun z => hc531 (z.2.1))).symm
  have h_av2 := hj523
  have K545 : Go p e below Tj523 (mkF m 130 #[.val (.int q0), .val (.int q1), .val (.int q2), .val (.int q3), .val (.int q4), .val (.int q5), .val (.int c0), .val (.int c1), .val (.int c2), .val (.int c3), .val (.int c4), .val (.int nn), .val (.ref r), .val (.int av0), .val (.int av1), .val (.int av2), .unset, .unset, .unset, .unset, .unset, .unset, .unset, .unset] []) G := fun tq kq => Kj523 tq (XS.istore Xj523.here hx rfl (hb hby at_128) rfl (l' := #[.val (.int q0), .val (.int q1), .val (.int q2), .val (.int q3), .val (.int q4), .val (.int q5), .val (.int c0), .val (.int c1), .val (.int c2), .val (.int c3), .val (.int c4), .val (.int nn), .val (.ref r), .val (.int av0), .val (.int av1), .val (.int av2), .unset, .unset, .unset, .unset, .unset, .unset, .unset, .unset]) rfl kq)
  obtain ⟨Tj546, Lj546, av3, Xj546, ej546, Nj546, hj546, Kj546⟩ : ∃ (Tj : State) (Lj : List Loc) (av3 : Int32), Stand p l e room_1 (s.setVm T479.vm) m #[(.int q0), (.int q1), (.int q2), (.int q3), (.int q4), (.int q5)] below meth c Tj Lj 4 14 ∧ Tj.heap = T479.heap ∧ Fr n0 Lj ∧ (av3 = own_a (3 : Int32) av2 nn c3) ∧ Go p e below Tj (mkF m 154 #[.val (.int q0), .val (.int q1), .val (.int q2), .val (.int q3), .val (.int q4), .val (.int q5), .val (.int c0), .val (.int c1), .val (.int c2), .val (.int c3), .val (.int c4), .val (.int nn), .val (.ref r), .val (.int av0), .val (.int av1), .val (.int av2), .unset, .unset, .unset, .unset, .unset, .unset, .unset, .unset] [(.int av3)]) G := by
    have K547 : Go p e below Tj523 (mkF m 132 #[.val (.int q0), .val (.int q1), .val (.int q2), .val (.int q3), .val (.int q4), .val (.int q5), .val (.int c0), .val (.int c1), .val (.int c2), .val (.int c3), .val (.int c4), .val (.int nn), .val (.ref r), .val (.int av0), .val (.int av1), .val (.int av2), .unset, .unset, .unset, .unset, .unset, .unset, .unset, .unset] [(.int av2)]) G := fun tq kq => K545 tq (XS.iload Xj523.here hx rfl (hb hby at_130) rfl kq)
    by_cases hc548 : av2 = (0 : Int32)
    · skip
      have K549 : Go p e below Tj523 (mkF m 153 #[.val (.int q0), .val (.int q1), .val (.int q2), .val (.int q3), .val (.int q4), .val (.int q5), .val (.int c0), .val (.int c1), .val (.int c2), .val (.int c3), .val (.int c4), .val (.int nn), .val (.ref r), .val (.int av0), .val (.int av1), .val (.int av2), .unset, .unset, .unset, .unset, .unset, .unset, .unset, .unset] []) G := fun tq kq => K547 tq (XS.ifYes Xj523.here hx rfl (pc0 := 132) (pc' := 153) rfl (hb hby at_132) rfl ((if0 _ _).trans (teq hc548).1) (by decide) (by decide) kq)
      have K550 : Go p e below Tj523 (mkF m 154 #[.val (.int q0), .val (.int q1), .val (.int q2), .val (.int q3), .val (.int q4), .val (.int q5), .val (.int c0), .val (.int c1), .val (.int c2), .val (.int c3), .val (.int c4), .val (.int nn), .val (.ref r), .val (.int av0), .val (.int av1), .val (.int av2), .unset, .unset, .unset, .unset, .unset, .unset, .unset, .unset] [(.int (0 : Int32))]) G := fun tq kq => K549 tq (XS.iconst Xj523.here hx rfl (hb hby at_153) kq)
      refine ⟨Tj523, _, (0 : Int32), Xj523, ej523, Nj523, ?_, K550⟩
      exact (if_neg (fun z => z.1 hc548)).symm
    · skip
      have K551 : Go p e below Tj523 (mkF m 135 #[.val (.int q0), .val (.int q1), .val (.int q2), .val (.int q3), .val (.int q4), .val (.int q5), .val (.int c0), .val (.int c1), .val (.int c2), .val (.int c3), .val (.int c4), .val (.int nn), .val (.ref r), .val (.int av0), .val (.int av1), .val (.int av2), .unset, .unset, .unset, .unset, .unset, .unset, .unset, .unset] []) G := fun tq kq => K547 tq (XS.ifNo Xj523.here hx rfl (hb hby at_132) rfl ((if0 _ _).trans (feq hc548).1) kq)
      have K552 : Go p e below Tj523 (mkF m 137 #[.val (.int q0), .val (.int q1), .val (.int q2), .val (.int q3), .val (.int q4), .val (.int q5), .val (.int c0), .val (.int c1), .val (.int c2), .val (.int c3), .val (.int c4), .val (.int nn), .val (.ref r), .val (.int av0), .val (.int av1), .val (.int av2), .unset, .unset, .unset, .unset, .unset, .unset, .unset, .unset] [(.int nn)]) G := fun tq kq => K551 tq (XS.iload Xj523.here hx rfl (hb hby at_135) rfl kq)
      have K553 : Go p e below Tj523 (mkF m 138 #[.val (.int q0), .val (.int q1), .val (.int q2), .val (.int q3), .val (.int q4), .val (.int q5), .val (.int c0), .val (.int c1), .val (.int c2), .val (.int c3), .val (.int c4), .val (.int nn), .val (.ref r), .val (.int av0), .val (.int av1), .val (.int av2), .unset, .unset, .unset, .unset, .unset, .unset, .unset, .unset] [(.int (3 : Int32)), (.int nn)]) G := fun tq kq => K552 tq (XS.iconst Xj523.here hx rfl (hb hby at_137) kq)
      by_cases hc554 : (3 : Int32) < nn
      · skip
        have K555 : Go p e below Tj523 (mkF m 141 #[.val (.int q0), .val (.int q1), .val (.int q2), .val (.int q3), .val (.int q4), .val (.int q5), .val (.int c0), .val (.int c1), .val (.int c2), .val (.int c3), .val (.int c4), .val (.int nn), .val (.ref r), .val (.int av0), .val (.int av1), .val (.int av2), .unset, .unset, .unset, .unset, .unset, .unset, .unset, .unset] []) G := fun tq kq => K553 tq (XS.icmpNo Xj523.here hx rfl (hb hby at_138) rfl ((tlt hc554).2.2.2) kq)
        have K556 : Go p e below Tj523 (mkF m 143 #[.val (.int q0), .val (.int q1), .val (.int q2), .val (.int q3), .val (.int q4), .val (.int q5), .val (.int c0), .val (.int c1), .val (.int c2), .val (.int c3), .val (.int c4), .val (.int nn), .val (.ref r), .val (.int av0), .val (.int av1), .val (.int av2), .unset, .unset, .unset, .unset, .unset, .unset, .unset, .unset] [(.int c3)]) G := fun tq kq => K555 tq (XS.iload Xj523.here hx rfl (hb hby at_141) rfl kq)
        obtain ⟨v557, _, ⟨T557, L557, k557, n557⟩, -, X557, ⟨Lc557, hQ557, l557, y557, z557⟩, st557⟩ := Jvm.LawKit.callS Xj523 hx (y := (⟨"com/example/tallyrule/tallyrule/DecimalsSignificantDigitsPinLaw", "isE", "(C)Z"⟩ : MethodName)) hown (mvT hZ (hW 38 _ rfl)) (mvT hZ (hW 39 _ rfl)) (mvT hZ (hW 2 _ rfl)) (mvT hZ (hW 40 _ rfl)) (by decide) (backOf (W := 0) (rmIE l Z a0 hw [] c3 T479.heap n0 (Nat.le_trans Z0 K479q.1)) hZ (hW 40 _ rfl) (hW 2 _ rfl) (by decide) (by decide)) (g := (mkF m 143 #[.val (.int q0), .val (.int q1), .val (.int q2), .val (.int q3), .val (.int q4), .val (.int q5), .val (.int c0), .val (.int c1), .val (.int c2), .val (.int c3), .val (.int c4), .val (.int nn), .val (.ref r), .val (.int av0), .val (.int av1), .val (.int av2), .unset, .unset, .unset, .unset, .unset, .unset, .unset, .unset] [(.int c3)])) rfl (by rw [hml]; rfl) (argsL := [(.int c3)]) (rest := []) (lenOf pd_274 rfl) rfl (by show 2 * 0 + _ ≤ _; exact Nat.le_of_eq rfl) (hb hby at_143) (fun _ _ => ⟨rfl, ej523, (by decide : 4 + 0 ≤ _), (by decide : 14 + 0 ≤ _)⟩)
        dsimp only [Pt.U, Pt.locs, Pt.cells, Pt.slots] at X557 l557 y557 z557 st557 hQ557
        subst l557 y557 z557
        by_cases hc558 : c3 = (101 : Int32) ∨ c3 = (69 : Int32)
        · skip
          rw [QIE, if_pos hc558] at hQ557
          obtain ⟨rfl, N557q, E557q⟩ := hQ557
          have N557 := Fr.app Nj523 N557q
          have K559 : Go p e below T557 (mkF m 146 #[.val (.int q0), .val (.int q1), .val (.int q2), .val (.int q3), .val (.int q4), .val (.int q5), .val (.int c0), .val (.int c1), .val (.int c2), .val (.int c3), .val (.int c4), .val (.int nn), .val (.ref r), .val (.int av0), .val (.int av1), .val (.int av2), .unset, .unset, .unset, .unset, .unset, .unset, .unset, .unset] [(.int (1 : Int32))]) G := fun tq kq => K556 tq (st557 tq kq)
          have K560 : Go p e below T557 (mkF m 153 #[.val (.int q0), .val (.int q1), .val (.int q2), .val (.int q3), .val (.int q4), .val (.int q5), .val (.int c0), .val (.int c1), .val (.int c2), .val (.int c3), .val (.int c4), .val (.int nn), .val (.ref r), .val (.int av0), .val (.int av1), .val (.int av2), .unset, .unset, .unset, .unset, .unset, .unset, .unset, .unset] []) G := fun tq kq => K559 tq (XS.ifYes X557.here hx rfl (pc0 := 146) (pc' := 153) rfl (hb hby at_146) rfl ((if0 _ _).trans (feq (by decide : ¬ ((1 : Int32) = (0 : Int32)))).2) (by decide) (by decide) kq)
          have K561 : Go p e below T557 (mkF m 154 #[.val (.int q0), .val (.int q1), .val (.int q2), .val (.int q3), .val (.int q4), .val (.int q5), .val (.int c0), .val (.int c1), .val (.int c2), .val (.int c3), .val (.int c4), .val (.int nn), .val (.ref r), .val (.int av0), .val (.int av1), .val (.int av2), .unset, .unset, .unset, .unset, .unset, .unset, .unset, .unset] [(.int (0 : Int32))]) G := fun tq kq => K560 tq (XS.iconst X557.here hx rfl (hb hby at_153) kq)
          refine ⟨T557, _, (0 : Int32), X557, E557q, N557, ?_, K561⟩
          exact (if_neg (fun z => z.2.2 hc558)).symm
        · skip
          rw [QIE, if_neg hc558] at hQ557
          obtain ⟨rfl, N557q, E557q⟩ := hQ557
          have N557 := Fr.app Nj523 N557q
          have K562 : Go p e below T557 (mkF m 146 #[.val (.int q0), .val (.int q1), .val (.int q2), .val (.int q3), .val (.int q4), .val (.int q5), .val (.int c0), .val (.int c1), .val (.int c2), .val (.int c3), .val (.int c4), .val (.int nn), .val (.ref r), .val (.int av0), .val (.int av1), .val (.int av2), .unset, .unset, .unset, .unset, .unset, .unset, .unset, .unset] [(.int (0 : Int32))]) G := fun tq kq => K556 tq (st557 tq kq)
          have K563 : Go p e below T557 (mkF m 149 #[.val (.int q0), .val (.int q1), .val (.int q2), .val (.int q3), .val (.int q4), .val (.int q5), .val (.int c0), .val (.int c1), .val (.int c2), .val (.int c3), .val (.int c4), .val (.int nn), .val (.ref r), .val (.int av0), .val (.int av1), .val (.int av2), .unset, .unset, .unset, .unset, .unset, .unset, .unset, .unset] []) G := fun tq kq => K562 tq (XS.ifNo X557.here hx rfl (hb hby at_146) rfl ((if0 _ _).trans (teq (by decide : (0 : Int32) = (0 : Int32))).2) kq)
          have K564 : Go p e below T557 (mkF m 150 #[.val (.int q0), .val (.int q1), .val (.int q2), .val (.int q3), .val (.int q4), .val (.int q5), .val (.int c0), .val (.int c1), .val (.int c2), .val (.int c3), .val (.int c4), .val (.int nn), .val (.ref r), .val (.int av0), .val (.int av1), .val (.int av2), .unset, .unset, .unset, .unset, .unset, .unset, .unset, .unset] [(.int (1 : Int32))]) G := fun tq kq => K563 tq (XS.iconst X557.here hx rfl (hb hby at_149) kq)
          have K565 : Go p e below T557 (mkF m 154 #[.val (.int q0), .val (.int q1), .val (.int q2), .val (.int q3), .val (.int q4), .val (.int q5), .val (.int c0), .val (.int c1), .val (.int c2), .val (.int c3), .val (.int c4), .val (.int nn), .val (.ref r), .val (.int av0), .val (.int av1), .val (.int av2), .unset, .unset, .unset, .unset, .unset, .unset, .unset, .unset] [(.int (1 : Int32))]) G := fun tq kq => K564 tq (XS.goto X557.here hx rfl (pc0 := 150) (pc' := 154) rfl (hb hby at_150) (by decide) (by decide) kq)
          refine ⟨T557, _, (1 : Int32), X557, E557q, N557, ?_, K565⟩
          exact (if_pos ⟨hc548, hc554, hc558⟩).symm
      · skip
        have K566 : Go p e below Tj523 (mkF m 153 #[.val (.int q0), .val (.int q1), .val (.int q2), .val (.int q3), .val (.int q4), .val (.int q5), .val (.int c0), .val (.int c1), .val (.int c2), .val (.int c3), .val (.int c4), .val (.int nn), .val (.ref r), .val (.int av0), .val (.int av1), .val (.int av2), .unset, .unset, .unset, .unset, .unset, .unset, .unset, .unset] []) G := fun tq kq => K553 tq (XS.icmpYes Xj523.here hx rfl (pc0 := 138) (pc' := 153) rfl (hb hby at_138) rfl ((flt hc554).2.2.2) (by decide) (by decide) kq)
        have K567 : Go p e below Tj523 (mkF m 154 #[.val (.int q0), .val (.int q1), .val (.int q2), .val (.int q3), .val (.int q4), .val (.int q5), .val (.int c0), .val (.int c1), .val (.int c2), .val (.int c3), .val (.int c4), .val (.int nn), .val (.ref r), .val (.int av0), .val (.int av1), .val (.int av2), .unset, .unset, .unset, .unset, .unset, .unset, .unset, .unset] [(.int (0 : Int32))]) G := fun tq kq => K566 tq (XS.iconst Xj523.here hx rfl (hb hby at_153) kq)
        refine ⟨Tj523, _, (0 : Int32), Xj523, ej523, Nj523, ?_, K567⟩
        exact (if_neg (fun z => hc554 (z.2.1))).symm
  have h_av3 := hj546
  have K568 : Go p e below Tj546 (mkF m 156 #[.val (.int q0), .val (.int q1), .val (.int q2), .val (.int q3), .val (.int q4), .val (.int q5), .val (.int c0), .val (.int c1), .val (.int c2), .val (.int c3), .val (.int c4), .val (.int nn), .val (.ref r), .val (.int av0), .val (.int av1), .val (.int av2), .val (.int av3), .unset, .unset, .unset, .unset, .unset, .unset, .unset] []) G := fun tq kq => Kj546 tq (XS.istore Xj546.here hx rfl (hb hby at_154) rfl (l' := #[.val (.int q0), .val (.int q1), .val (.int q2), .val (.int q3), .val (.int q4), .val (.int q5), .val (.int c0), .val (.int c1), .val (.int c2), .val (.int c3), .val (.int c4), .val (.int nn), .val (.ref r), .val (.int av0), .val (.int av1), .val (.int av2), .val (.int av3), .unset, .unset, .unset, .unset, .unset, .unset, .unset]) rfl kq)
  obtain ⟨Tj569, Lj569, av4, Xj569, ej569, Nj569, hj569, Kj569⟩ : ∃ (Tj : State) (Lj : List Loc) (av4 : Int32), Stand p l e room_1 (s.setVm T479.vm) m #[(.int q0), (.int q1), (.int q2), (.int q3), (.int q4), (.int q5)] below meth c Tj Lj 4 14 ∧ Tj.heap = T479.heap ∧ Fr n0 Lj ∧ (av4 = own_a (4 : Int32) av3 nn c4) ∧ Go p e below Tj (mkF m 180 #[.val (.int q0), .val (.int q1), .val (.int q2), .val (.int q3), .val (.int q4), .val (.int q5), .val (.int c0), .val (.int c1), .val (.int c2), .val (.int c3), .val (.int c4), .val (.int nn), .val (.ref r), .val (.int av0), .val (.int av1), .val (.int av2), .val (.int av3), .unset, .unset, .unset, .unset, .unset, .unset, .unset] [(.int av4)]) G := by
    have K570 : Go p e below Tj546 (mkF m 158 #[.val (.int q0), .val (.int q1), .val (.int q2), .val (.int q3), .val (.int q4), .val (.int q5), .val (.int c0), .val (.int c1), .val (.int c2), .val (.int c3), .val (.int c4), .val (.int nn), .val (.ref r), .val (.int av0), .val (.int av1), .val (.int av2), .val (.int av3), .unset, .unset, .unset, .unset, .unset, .unset, .unset] [(.int av3)]) G := fun tq kq => K568 tq (XS.iload Xj546.here hx rfl (hb hby at_156) rfl kq)
    by_cases hc571 : av3 = (0 : Int32)
    · skip
      have K572 : Go p e below Tj546 (mkF m 179 #[.val (.int q0), .val (.int q1), .val (.int q2), .val (.int q3), .val (.int q4), .val (.int q5), .val (.int c0), .val (.int c1), .val (.int c2), .val (.int c3), .val (.int c4), .val (.int nn), .val (.ref r), .val (.int av0), .val (.int av1), .val (.int av2), .val (.int av3), .unset, .unset, .unset, .unset, .unset, .unset, .unset] []) G := fun tq kq => K570 tq (XS.ifYes Xj546.here hx rfl (pc0 := 158) (pc' := 179) rfl (hb hby at_158) rfl ((if0 _ _).trans (teq hc571).1) (by decide) (by decide) kq)
      have K573 : Go p e below Tj546 (mkF m 180 #[.val (.int q0), .val (.int q1), .val (.int q2), .val (.int q3), .val (.int q4), .val (.int q5), .val (.int c0), .val (.int c1), .val (.int c2), .val (.int c3), .val (.int c4), .val (.int nn), .val (.ref r), .val (.int av0), .val (.int av1), .val (.int av2), .val (.int av3), .unset, .unset, .unset, .unset, .unset, .unset, .unset] [(.int (0 : Int32))]) G := fun tq kq => K572 tq (XS.iconst Xj546.here hx rfl (hb hby at_179) kq)
      refine ⟨Tj546, _, (0 : Int32), Xj546, ej546, Nj546, ?_, K573⟩
      exact (if_neg (fun z => z.1 hc571)).symm
    · skip
      have K574 : Go p e below Tj546 (mkF m 161 #[.val (.int q0), .val (.int q1), .val (.int q2), .val (.int q3), .val (.int q4), .val (.int q5), .val (.int c0), .val (.int c1), .val (.int c2), .val (.int c3), .val (.int c4), .val (.int nn), .val (.ref r), .val (.int av0), .val (.int av1), .val (.int av2), .val (.int av3), .unset, .unset, .unset, .unset, .unset, .unset, .unset] []) G := fun tq kq => K570 tq (XS.ifNo Xj546.here hx rfl (hb hby at_158) rfl ((if0 _ _).trans (feq hc571).1) kq)
      have K575 : Go p e below Tj546 (mkF m 163 #[.val (.int q0), .val (.int q1), .val (.int q2), .val (.int q3), .val (.int q4), .val (.int q5), .val (.int c0), .val (.int c1), .val (.int c2), .val (.int c3), .val (.int c4), .val (.int nn), .val (.ref r), .val (.int av0), .val (.int av1), .val (.int av2), .val (.int av3), .unset, .unset, .unset, .unset, .unset, .unset, .unset] [(.int nn)]) G := fun tq kq => K574 tq (XS.iload Xj546.here hx rfl (hb hby at_161) rfl kq)
      have K576 : Go p e below Tj546 (mkF m 164 #[.val (.int q0), .val (.int q1), .val (.int q2), .val (.int q3), .val (.int q4), .val (.int q5), .val (.int c0), .val (.int c1), .val (.int c2), .val (.int c3), .val (.int c4), .val (.int nn), .val (.ref r), .val (.int av0), .val (.int av1), .val (.int av2), .val (.int av3), .unset, .unset, .unset, .unset, .unset, .unset, .unset] [(.int (4 : Int32)), (.int nn)]) G := fun tq kq => K575 tq (XS.iconst Xj546.here hx rfl (hb hby at_163) kq)
      by_cases hc577 : (4 : Int32) < nn
      · skip
        have K578 : Go p e below Tj546 (mkF m 167 #[.val (.int q0), .val (.int q1), .val (.int q2), .val (.int q3), .val (.int q4), .val (.int q5), .val (.int c0), .val (.int c1), .val (.int c2), .val (.int c3), .val (.int c4), .val (.int nn), .val (.ref r), .val (.int av0), .val (.int av1), .val (.int av2), .val (.int av3), .unset, .unset, .unset, .unset, .unset, .unset, .unset] []) G := fun tq kq => K576 tq (XS.icmpNo Xj546.here hx rfl (hb hby at_164) rfl ((tlt hc577).2.2.2) kq)
        have K579 : Go p e below Tj546 (mkF m 169 #[.val (.int q0), .val (.int q1), .val (.int q2), .val (.int q3), .val (.int q4), .val (.int q5), .val (.int c0), .val (.int c1), .val (.int c2), .val (.int c3), .val (.int c4), .val (.int nn), .val (.ref r), .val (.int av0), .val (.int av1), .val (.int av2), .val (.int av3), .unset, .unset, .unset, .unset, .unset, .unset, .unset] [(.int c4)]) G := fun tq kq => K578 tq (XS.iload Xj546.here hx rfl (hb hby at_167) rfl kq)
        obtain ⟨v580, _, ⟨T580, L580, k580, n580⟩, -, X580, ⟨Lc580, hQ580, l580, y580, z580⟩, st580⟩ := Jvm.LawKit.callS Xj546 hx (y := (⟨"com/example/tallyrule/tallyrule/DecimalsSignificantDigitsPinLaw", "isE", "(C)Z"⟩ : MethodName)) hown (mvT hZ (hW 38 _ rfl)) (mvT hZ (hW 39 _ rfl)) (mvT hZ (hW 2 _ rfl)) (mvT hZ (hW 40 _ rfl)) (by decide) (backOf (W := 0) (rmIE l Z a0 hw [] c4 T479.heap n0 (Nat.le_trans Z0 K479q.1)) hZ (hW 40 _ rfl) (hW 2 _ rfl) (by decide) (by decide)) (g := (mkF m 169 #[.val (.int q0), .val (.int q1), .val (.int q2), .val (.int q3), .val (.int q4), .val (.int q5), .val (.int c0), .val (.int c1), .val (.int c2), .val (.int c3), .val (.int c4), .val (.int nn), .val (.ref r), .val (.int av0), .val (.int av1), .val (.int av2), .val (.int av3), .unset, .unset, .unset, .unset, .unset, .unset, .unset] [(.int c4)])) rfl (by rw [hml]; rfl) (argsL := [(.int c4)]) (rest := []) (lenOf pd_274 rfl) rfl (by show 2 * 0 + _ ≤ _; exact Nat.le_of_eq rfl) (hb hby at_169) (fun _ _ => ⟨rfl, ej546, (by decide : 4 + 0 ≤ _), (by decide : 14 + 0 ≤ _)⟩)
        dsimp only [Pt.U, Pt.locs, Pt.cells, Pt.slots] at X580 l580 y580 z580 st580 hQ580
        subst l580 y580 z580
        by_cases hc581 : c4 = (101 : Int32) ∨ c4 = (69 : Int32)
        · skip
          rw [QIE, if_pos hc581] at hQ580
          obtain ⟨rfl, N580q, E580q⟩ := hQ580
          have N580 := Fr.app Nj546 N580q
          have K582 : Go p e below T580 (mkF m 172 #[.val (.int q0), .val (.int q1), .val (.int q2), .val (.int q3), .val (.int q4), .val (.int q5), .val (.int c0), .val (.int c1), .val (.int c2), .val (.int c3), .val (.int c4), .val (.int nn), .val (.ref r), .val (.int av0), .val (.int av1), .val (.int av2), .val (.int av3), .unset, .unset, .unset, .unset, .unset, .unset, .unset] [(.int (1 : Int32))]) G := fun tq kq => K579 tq (st580 tq kq)
          have K583 : Go p e below T580 (mkF m 179 #[.val (.int q0), .val (.int q1), .val (.int q2), .val (.int q3), .val (.int q4), .val (.int q5), .val (.int c0), .val (.int c1), .val (.int c2), .val (.int c3), .val (.int c4), .val (.int nn), .val (.ref r), .val (.int av0), .val (.int av1), .val (.int av2), .val (.int av3), .unset, .unset, .unset, .unset, .unset, .unset, .unset] []) G := fun tq kq => K582 tq (XS.ifYes X580.here hx rfl (pc0 := 172) (pc' := 179) rfl (hb hby at_172) rfl ((if0 _ _).trans (feq (by decide : ¬ ((1 : Int32) = (0 : Int32)))).2) (by decide) (by decide) kq)
          have K584 : Go p e below T580 (mkF m 180 #[.val (.int q0), .val (.int q1), .val (.int q2), .val (.int q3), .val (.int q4), .val (.int q5), .val (.int c0), .val (.int c1), .val (.int c2), .val (.int c3), .val (.int c4), .val (.int nn), .val (.ref r), .val (.int av0), .val (.int av1), .val (.int av2), .val (.int av3), .unset, .unset, .unset, .unset, .unset, .unset, .unset] [(.int (0 : Int32))]) G := fun tq kq => K583 tq (XS.iconst X580.here hx rfl (hb hby at_179) kq)
          refine ⟨T580, _, (0 : Int32), X580, E580q, N580, ?_, K584⟩
          exact (if_neg (fun z => z.2.2 hc581)).symm
        · skip
          rw [QIE, if_neg hc581] at hQ580
          obtain ⟨rfl, N580q, E580q⟩ := hQ580
          have N580 := Fr.app Nj546 N580q
          have K585 : Go p e below T580 (mkF m 172 #[.val (.int q0), .val (.int q1), .val (.int q2), .val (.int q3), .val (.int q4), .val (.int q5), .val (.int c0), .val (.int c1), .val (.int c2), .val (.int c3), .val (.int c4), .val (.int nn), .val (.ref r), .val (.int av0), .val (.int av1), .val (.int av2), .val (.int av3), .unset, .unset, .unset, .unset, .unset, .unset, .unset] [(.int (0 : Int32))]) G := fun tq kq => K579 tq (st580 tq kq)
          have K586 : Go p e below T580 (mkF m 175 #[.val (.int q0), .val (.int q1), .val (.int q2), .val (.int q3), .val (.int q4), .val (.int q5), .val (.int c0), .val (.int c1), .val (.int c2), .val (.int c3), .val (.int c4), .val (.int nn), .val (.ref r), .val (.int av0), .val (.int av1), .val (.int av2), .val (.int av3), .unset, .unset, .unset, .unset, .unset, .unset, .unset] []) G := fun tq kq => K585 tq (XS.ifNo X580.here hx rfl (hb hby at_172) rfl ((if0 _ _).trans (teq (by decide : (0 : Int32) = (0 : Int32))).2) kq)
          have K587 : Go p e below T580 (mkF m 176 #[.val (.int q0), .val (.int q1), .val (.int q2), .val (.int q3), .val (.int q4), .val (.int q5), .val (.int c0), .val (.int c1), .val (.int c2), .val (.int c3), .val (.int c4), .val (.int nn), .val (.ref r), .val (.int av0), .val (.int av1), .val (.int av2), .val (.int av3), .unset, .unset, .unset, .unset, .unset, .unset, .unset] [(.int (1 : Int32))]) G := fun tq kq => K586 tq (XS.iconst X580.here hx rfl (hb hby at_175) kq)
          have K588 : Go p e below T580 (mkF m 180 #[.val (.int q0), .val (.int q1), .val (.int q2), .val (.int q3), .val (.int q4), .val (.int q5), .val (.int c0), .val (.int c1), .val (.int c2), .val (.int c3), .val (.int c4), .val (.int nn), .val (.ref r), .val (.int av0), .val (.int av1), .val (.int av2), .val (.int av3), .unset, .unset, .unset, .unset, .unset, .unset, .unset] [(.int (1 : Int32))]) G := fun tq kq => K587 tq (XS.goto X580.here hx rfl (pc0 := 176) (pc' := 180) rfl (hb hby at_176) (by decide) (by decide) kq)
          refine ⟨T580, _, (1 : Int32), X580, E580q, N580, ?_, K588⟩
          exact (if_pos ⟨hc571, hc577, hc581⟩).symm
      · skip
        have K589 : Go p e below Tj546 (mkF m 179 #[.val (.int q0), .val (.int q1), .val (.int q2), .val (.int q3), .val (.int q4), .val (.int q5), .val (.int c0), .val (.int c1), .val (.int c2), .val (.int c3), .val (.int c4), .val (.int nn), .val (.ref r), .val (.int av0), .val (.int av1), .val (.int av2), .val (.int av3), .unset, .unset, .unset, .unset, .unset, .unset, .unset] []) G := fun tq kq => K576 tq (XS.icmpYes Xj546.here hx rfl (pc0 := 164) (pc' := 179) rfl (hb hby at_164) rfl ((flt hc577).2.2.2) (by decide) (by decide) kq)
        have K590 : Go p e below Tj546 (mkF m 180 #[.val (.int q0), .val (.int q1), .val (.int q2), .val (.int q3), .val (.int q4), .val (.int q5), .val (.int c0), .val (.int c1), .val (.int c2), .val (.int c3), .val (.int c4), .val (.int nn), .val (.ref r), .val (.int av0), .val (.int av1), .val (.int av2), .val (.int av3), .unset, .unset, .unset, .unset, .unset, .unset, .unset] [(.int (0 : Int32))]) G := fun tq kq => K589 tq (XS.iconst Xj546.here hx rfl (hb hby at_179) kq)
        refine ⟨Tj546, _, (0 : Int32), Xj546, ej546, Nj546, ?_, K590⟩
        exact (if_neg (fun z => hc577 (z.2.1))).symm
  have h_av4 := hj569
  have K591 : Go p e below Tj569 (mkF m 182 #[.val (.int q0), .val (.int q1), .val (.int q2), .val (.int q3), .val (.int q4), .val (.int q5), .val (.int c0), .val (.int c1), .val (.int c2), .val (.int c3), .val (.int c4), .val (.int nn), .val (.ref r), .val (.int av0), .val (.int av1), .val (.int av2), .val (.int av3), .val (.int av4), .unset, .unset, .unset, .unset, .unset, .unset] []) G := fun tq kq => Kj569 tq (XS.istore Xj569.here hx rfl (hb hby at_180) rfl (l' := #[.val (.int q0), .val (.int q1), .val (.int q2), .val (.int q3), .val (.int q4), .val (.int q5), .val (.int c0), .val (.int c1), .val (.int c2), .val (.int c3), .val (.int c4), .val (.int nn), .val (.ref r), .val (.int av0), .val (.int av1), .val (.int av2), .val (.int av3), .val (.int av4), .unset, .unset, .unset, .unset, .unset, .unset]) rfl kq)
  obtain ⟨Tj592, Lj592, dv0, Xj592, ej592, Nj592, hj592, Kj592⟩ : ∃ (Tj : State) (Lj : List Loc) (dv0 : Int32), Stand p l e room_1 (s.setVm T479.vm) m #[(.int q0), (.int q1), (.int q2), (.int q3), (.int q4), (.int q5)] below meth c Tj Lj 4 14 ∧ Tj.heap = T479.heap ∧ Fr n0 Lj ∧ (dv0 = own_d av0 c0) ∧ Go p e below Tj (mkF m 203 #[.val (.int q0), .val (.int q1), .val (.int q2), .val (.int q3), .val (.int q4), .val (.int q5), .val (.int c0), .val (.int c1), .val (.int c2), .val (.int c3), .val (.int c4), .val (.int nn), .val (.ref r), .val (.int av0), .val (.int av1), .val (.int av2), .val (.int av3), .val (.int av4), .unset, .unset, .unset, .unset, .unset, .unset] [(.int dv0)]) G := by
    have K593 : Go p e below Tj569 (mkF m 184 #[.val (.int q0), .val (.int q1), .val (.int q2), .val (.int q3), .val (.int q4), .val (.int q5), .val (.int c0), .val (.int c1), .val (.int c2), .val (.int c3), .val (.int c4), .val (.int nn), .val (.ref r), .val (.int av0), .val (.int av1), .val (.int av2), .val (.int av3), .val (.int av4), .unset, .unset, .unset, .unset, .unset, .unset] [(.int av0)]) G := fun tq kq => K591 tq (XS.iload Xj569.here hx rfl (hb hby at_182) rfl kq)
    by_cases hc594 : av0 = (0 : Int32)
    · skip
      have K595 : Go p e below Tj569 (mkF m 199 #[.val (.int q0), .val (.int q1), .val (.int q2), .val (.int q3), .val (.int q4), .val (.int q5), .val (.int c0), .val (.int c1), .val (.int c2), .val (.int c3), .val (.int c4), .val (.int nn), .val (.ref r), .val (.int av0), .val (.int av1), .val (.int av2), .val (.int av3), .val (.int av4), .unset, .unset, .unset, .unset, .unset, .unset] []) G := fun tq kq => K593 tq (XS.ifYes Xj569.here hx rfl (pc0 := 184) (pc' := 199) rfl (hb hby at_184) rfl ((if0 _ _).trans (teq hc594).1) (by decide) (by decide) kq)
      have K596 : Go p e below Tj569 (mkF m 200 #[.val (.int q0), .val (.int q1), .val (.int q2), .val (.int q3), .val (.int q4), .val (.int q5), .val (.int c0), .val (.int c1), .val (.int c2), .val (.int c3), .val (.int c4), .val (.int nn), .val (.ref r), .val (.int av0), .val (.int av1), .val (.int av2), .val (.int av3), .val (.int av4), .unset, .unset, .unset, .unset, .unset, .unset] [(.int (0 : Int32))]) G := fun tq kq => K595 tq (XS.iconst Xj569.here hx rfl (hb hby at_199) kq)
      obtain ⟨v597, _, ⟨T597, L597, k597, n597⟩, -, X597, ⟨Lc597, hQ597, l597, y597, z597⟩, st597⟩ := Jvm.LawKit.callS Xj569 hx (y := (⟨"com/example/tallyrule/tallyrule/DecimalsSignificantDigitsPinLaw", "one", "(Z)I"⟩ : MethodName)) hown (mvT hZ (hW 44 _ rfl)) (mvT hZ (hW 45 _ rfl)) (mvT hZ (hW 2 _ rfl)) (mvT hZ (hW 46 _ rfl)) (by decide) (backOf (W := 0) (rmONE l Z a0 hw [] (0 : Int32) T479.heap n0 (Nat.le_trans Z0 K479q.1)) hZ (hW 46 _ rfl) (hW 2 _ rfl) (by decide) (by decide)) (g := (mkF m 200 #[.val (.int q0), .val (.int q1), .val (.int q2), .val (.int q3), .val (.int q4), .val (.int q5), .val (.int c0), .val (.int c1), .val (.int c2), .val (.int c3), .val (.int c4), .val (.int nn), .val (.ref r), .val (.int av0), .val (.int av1), .val (.int av2), .val (.int av3), .val (.int av4), .unset, .unset, .unset, .unset, .unset, .unset] [(.int (0 : Int32))])) rfl (by rw [hml]; rfl) (argsL := [(.int (0 : Int32))]) (rest := []) (lenOf pd_275 rfl) rfl (by show 2 * 0 + _ ≤ _; exact Nat.le_of_eq rfl) (hb hby at_200) (fun _ _ => ⟨rfl, ej569, (by decide : 4 + 0 ≤ _), (by decide : 14 + 0 ≤ _)⟩)
      dsimp only [Pt.U, Pt.locs, Pt.cells, Pt.slots] at X597 l597 y597 z597 st597 hQ597
      subst l597 y597 z597
      rw [QONE, if_pos (rfl : (0 : Int32) = 0)] at hQ597
      obtain ⟨rfl, N597q, E597q⟩ := hQ597
      have N597 := Fr.app Nj569 N597q
      have K598 : Go p e below T597 (mkF m 203 #[.val (.int q0), .val (.int q1), .val (.int q2), .val (.int q3), .val (.int q4), .val (.int q5), .val (.int c0), .val (.int c1), .val (.int c2), .val (.int c3), .val (.int c4), .val (.int nn), .val (.ref r), .val (.int av0), .val (.int av1), .val (.int av2), .val (.int av3), .val (.int av4), .unset, .unset, .unset, .unset, .unset, .unset] [(.int (0 : Int32))]) G := fun tq kq => K596 tq (st597 tq kq)
      refine ⟨T597, _, (0 : Int32), X597, E597q, N597, ?_, K598⟩
      exact (if_neg (fun z => z.1 hc594)).symm
    · skip
      have K599 : Go p e below Tj569 (mkF m 187 #[.val (.int q0), .val (.int q1), .val (.int q2), .val (.int q3), .val (.int q4), .val (.int q5), .val (.int c0), .val (.int c1), .val (.int c2), .val (.int c3), .val (.int c4), .val (.int nn), .val (.ref r), .val (.int av0), .val (.int av1), .val (.int av2), .val (.int av3), .val (.int av4), .unset, .unset, .unset, .unset, .unset, .unset] []) G := fun tq kq => K593 tq (XS.ifNo Xj569.here hx rfl (hb hby at_184) rfl ((if0 _ _).trans (feq hc594).1) kq)
      have K600 : Go p e below Tj569 (mkF m 189 #[.val (.int q0), .val (.int q1), .val (.int q2), .val (.int q3), .val (.int q4), .val (.int q5), .val (.int c0), .val (.int c1), .val (.int c2), .val (.int c3), .val (.int c4), .val (.int nn), .val (.ref r), .val (.int av0), .val (.int av1), .val (.int av2), .val (.int av3), .val (.int av4), .unset, .unset, .unset, .unset, .unset, .unset] [(.int c0)]) G := fun tq kq => K599 tq (XS.iload Xj569.here hx rfl (hb hby at_187) rfl kq)
      obtain ⟨v601, _, ⟨T601, L601, k601, n601⟩, -, X601, ⟨Lc601, hQ601, l601, y601, z601⟩, st601⟩ := Jvm.LawKit.callS Xj569 hx (y := (⟨"com/example/tallyrule/tallyrule/DecimalsSignificantDigitsPinLaw", "isDigit", "(C)Z"⟩ : MethodName)) hown (mvT hZ (hW 41 _ rfl)) (mvT hZ (hW 42 _ rfl)) (mvT hZ (hW 2 _ rfl)) (mvT hZ (hW 43 _ rfl)) (by decide) (backOf (W := 0) (rmID l Z a0 hw [] c0 T479.heap n0 (Nat.le_trans Z0 K479q.1)) hZ (hW 43 _ rfl) (hW 2 _ rfl) (by decide) (by decide)) (g := (mkF m 189 #[.val (.int q0), .val (.int q1), .val (.int q2), .val (.int q3), .val (.int q4), .val (.int q5), .val (.int c0), .val (.int c1), .val (.int c2), .val (.int c3), .val (.int c4), .val (.int nn), .val (.ref r), .val (.int av0), .val (.int av1), .val (.int av2), .val (.int av3), .val (.int av4), .unset, .unset, .unset, .unset, .unset, .unset] [(.int c0)])) rfl (by rw [hml]; rfl) (argsL := [(.int c0)]) (rest := []) (lenOf pd_274 rfl) rfl (by show 2 * 0 + _ ≤ _; exact Nat.le_of_eq rfl) (hb hby at_189) (fun _ _ => ⟨rfl, ej569, (by decide : 4 + 0 ≤ _), (by decide : 14 + 0 ≤ _)⟩)
      dsimp only [Pt.U, Pt.locs, Pt.cells, Pt.slots] at X601 l601 y601 z601 st601 hQ601
      subst l601 y601 z601
      by_cases hc602 : ¬ (c0 < (48 : Int32)) ∧ ¬ ((57 : Int32) < c0)
      · skip
        rw [QID, if_pos hc602] at hQ601
        obtain ⟨rfl, N601q, E601q⟩ := hQ601
        have N601 := Fr.app Nj569 N601q
        have K603 : Go p e below T601 (mkF m 192 #[.val (.int q0), .val (.int q1), .val (.int q2), .val (.int q3), .val (.int q4), .val (.int q5), .val (.int c0), .val (.int c1), .val (.int c2), .val (.int c3), .val (.int c4), .val (.int nn), .val (.ref r), .val (.int av0), .val (.int av1), .val (.int av2), .val (.int av3), .val (.int av4), .unset, .unset, .unset, .unset, .unset, .unset] [(.int (1 : Int32))]) G := fun tq kq => K600 tq (st601 tq kq)
        have K604 : Go p e below T601 (mkF m 195 #[.val (.int q0), .val (.int q1), .val (.int q2), .val (.int q3), .val (.int q4), .val (.int q5), .val (.int c0), .val (.int c1), .val (.int c2), .val (.int c3), .val (.int c4), .val (.int nn), .val (.ref r), .val (.int av0), .val (.int av1), .val (.int av2), .val (.int av3), .val (.int av4), .unset, .unset, .unset, .unset, .unset, .unset] []) G := fun tq kq => K603 tq (XS.ifNo X601.here hx rfl (hb hby at_192) rfl ((if0 _ _).trans (feq (by decide : ¬ ((1 : Int32) = (0 : Int32)))).1) kq)
        have K605 : Go p e below T601 (mkF m 196 #[.val (.int q0), .val (.int q1), .val (.int q2), .val (.int q3), .val (.int q4), .val (.int q5), .val (.int c0), .val (.int c1), .val (.int c2), .val (.int c3), .val (.int c4), .val (.int nn), .val (.ref r), .val (.int av0), .val (.int av1), .val (.int av2), .val (.int av3), .val (.int av4), .unset, .unset, .unset, .unset, .unset, .unset] [(.int (1 : Int32))]) G := fun tq kq => K604 tq (XS.iconst X601.here hx rfl (hb hby at_195) kq)
        have K606 : Go p e below T601 (mkF m 200 #[.val (.int q0), .val (.int q1), .val (.int q2), .val (.int q3), .val (.int q4), .val (.int q5), .val (.int c0), .val (.int c1), .val (.int c2), .val (.int c3), .val (.int c4), .val (.int nn), .val (.ref r), .val (.int av0), .val (.int av1), .val (.int av2), .val (.int av3), .val (.int av4), .unset, .unset, .unset, .unset, .unset, .unset] [(.int (1 : Int32))]) G := fun tq kq => K605 tq (XS.goto X601.here hx rfl (pc0 := 196) (pc' := 200) rfl (hb hby at_196) (by decide) (by decide) kq)
        obtain ⟨v607, _, ⟨T607, L607, k607, n607⟩, -, X607, ⟨Lc607, hQ607, l607, y607, z607⟩, st607⟩ := Jvm.LawKit.callS X601 hx (y := (⟨"com/example/tallyrule/tallyrule/DecimalsSignificantDigitsPinLaw", "one", "(Z)I"⟩ : MethodName)) hown (mvT hZ (hW 44 _ rfl)) (mvT hZ (hW 45 _ rfl)) (mvT hZ (hW 2 _ rfl)) (mvT hZ (hW 46 _ rfl)) (by decide) (backOf (W := 0) (rmONE l Z a0 hw [] (1 : Int32) T479.heap n0 (Nat.le_trans Z0 K479q.1)) hZ (hW 46 _ rfl) (hW 2 _ rfl) (by decide) (by decide)) (g := (mkF m 200 #[.val (.int q0), .val (.int q1), .val (.int q2), .val (.int q3), .val (.int q4), .val (.int q5), .val (.int c0), .val (.int c1), .val (.int c2), .val (.int c3), .val (.int c4), .val (.int nn), .val (.ref r), .val (.int av0), .val (.int av1), .val (.int av2), .val (.int av3), .val (.int av4), .unset, .unset, .unset, .unset, .unset, .unset] [(.int (1 : Int32))])) rfl (by rw [hml]; rfl) (argsL := [(.int (1 : Int32))]) (rest := []) (lenOf pd_275 rfl) rfl (by show 2 * 0 + _ ≤ _; exact Nat.le_of_eq rfl) (hb hby at_200) (fun _ _ => ⟨rfl, E601q, (by decide : 4 + 0 ≤ _), (by decide : 14 + 0 ≤ _)⟩)
        dsimp only [Pt.U, Pt.locs, Pt.cells, Pt.slots] at X607 l607 y607 z607 st607 hQ607
        subst l607 y607 z607
        rw [QONE, if_neg (by decide : ¬ ((1 : Int32) = 0))] at hQ607
        obtain ⟨rfl, N607q, E607q⟩ := hQ607
        have N607 := Fr.app N601 N607q
        have K608 : Go p e below T607 (mkF m 203 #[.val (.int q0), .val (.int q1), .val (.int q2), .val (.int q3), .val (.int q4), .val (.int q5), .val (.int c0), .val (.int c1), .val (.int c2), .val (.int c3), .val (.int c4), .val (.int nn), .val (.ref r), .val (.int av0), .val (.int av1), .val (.int av2), .val (.int av3), .val (.int av4), .unset, .unset, .unset, .unset, .unset, .unset] [(.int (1 : Int32))]) G := fun tq kq => K606 tq (st607 tq kq)
        refine ⟨T607, _, (1 : Int32), X607, E607q, N607, ?_, K608⟩
        exact (if_pos ⟨hc594, hc602⟩).symm
      · skip
        rw [QID, if_neg hc602] at hQ601
        obtain ⟨rfl, N601q, E601q⟩ := hQ601
        have N601 := Fr.app Nj569 N601q
        have K609 : Go p e below T601 (mkF m 192 #[.val (.int q0), .val (.int q1), .val (.int q2), .val (.int q3), .val (.int q4), .val (.int q5), .val (.int c0), .val (.int c1), .val (.int c2), .val (.int c3), .val (.int c4), .val (.int nn), .val (.ref r), .val (.int av0), .val (.int av1), .val (.int av2), .val (.int av3), .val (.int av4), .unset, .unset, .unset, .unset, .unset, .unset] [(.int (0 : Int32))]) G := fun tq kq => K600 tq (st601 tq kq)
        have K610 : Go p e below T601 (mkF m 199 #[.val (.int q0), .val (.int q1), .val (.int q2), .val (.int q3), .val (.int q4), .val (.int q5), .val (.int c0), .val (.int c1), .val (.int c2), .val (.int c3), .val (.int c4), .val (.int nn), .val (.ref r), .val (.int av0), .val (.int av1), .val (.int av2), .val (.int av3), .val (.int av4), .unset, .unset, .unset, .unset, .unset, .unset] []) G := fun tq kq => K609 tq (XS.ifYes X601.here hx rfl (pc0 := 192) (pc' := 199) rfl (hb hby at_192) rfl ((if0 _ _).trans (teq (by decide : (0 : Int32) = (0 : Int32))).1) (by decide) (by decide) kq)
        have K611 : Go p e below T601 (mkF m 200 #[.val (.int q0), .val (.int q1), .val (.int q2), .val (.int q3), .val (.int q4), .val (.int q5), .val (.int c0), .val (.int c1), .val (.int c2), .val (.int c3), .val (.int c4), .val (.int nn), .val (.ref r), .val (.int av0), .val (.int av1), .val (.int av2), .val (.int av3), .val (.int av4), .unset, .unset, .unset, .unset, .unset, .unset] [(.int (0 : Int32))]) G := fun tq kq => K610 tq (XS.iconst X601.here hx rfl (hb hby at_199) kq)
        obtain ⟨v612, _, ⟨T612, L612, k612, n612⟩, -, X612, ⟨Lc612, hQ612, l612, y612, z612⟩, st612⟩ := Jvm.LawKit.callS X601 hx (y := (⟨"com/example/tallyrule/tallyrule/DecimalsSignificantDigitsPinLaw", "one", "(Z)I"⟩ : MethodName)) hown (mvT hZ (hW 44 _ rfl)) (mvT hZ (hW 45 _ rfl)) (mvT hZ (hW 2 _ rfl)) (mvT hZ (hW 46 _ rfl)) (by decide) (backOf (W := 0) (rmONE l Z a0 hw [] (0 : Int32) T479.heap n0 (Nat.le_trans Z0 K479q.1)) hZ (hW 46 _ rfl) (hW 2 _ rfl) (by decide) (by decide)) (g := (mkF m 200 #[.val (.int q0), .val (.int q1), .val (.int q2), .val (.int q3), .val (.int q4), .val (.int q5), .val (.int c0), .val (.int c1), .val (.int c2), .val (.int c3), .val (.int c4), .val (.int nn), .val (.ref r), .val (.int av0), .val (.int av1), .val (.int av2), .val (.int av3), .val (.int av4), .unset, .unset, .unset, .unset, .unset, .unset] [(.int (0 : Int32))])) rfl (by rw [hml]; rfl) (argsL := [(.int (0 : Int32))]) (rest := []) (lenOf pd_275 rfl) rfl (by show 2 * 0 + _ ≤ _; exact Nat.le_of_eq rfl) (hb hby at_200) (fun _ _ => ⟨rfl, E601q, (by decide : 4 + 0 ≤ _), (by decide : 14 + 0 ≤ _)⟩)
        dsimp only [Pt.U, Pt.locs, Pt.cells, Pt.slots] at X612 l612 y612 z612 st612 hQ612
        subst l612 y612 z612
        rw [QONE, if_pos (rfl : (0 : Int32) = 0)] at hQ612
        obtain ⟨rfl, N612q, E612q⟩ := hQ612
        have N612 := Fr.app N601 N612q
        have K613 : Go p e below T612 (mkF m 203 #[.val (.int q0), .val (.int q1), .val (.int q2), .val (.int q3), .val (.int q4), .val (.int q5), .val (.int c0), .val (.int c1), .val (.int c2), .val (.int c3), .val (.int c4), .val (.int nn), .val (.ref r), .val (.int av0), .val (.int av1), .val (.int av2), .val (.int av3), .val (.int av4), .unset, .unset, .unset, .unset, .unset, .unset] [(.int (0 : Int32))]) G := fun tq kq => K611 tq (st612 tq kq)
        refine ⟨T612, _, (0 : Int32), X612, E612q, N612, ?_, K613⟩
        exact (if_neg (fun z => hc602 (z.2))).symm
  have h_dv0 := hj592
  obtain ⟨Tj614, Lj614, dv1, Xj614, ej614, Nj614, hj614, Kj614⟩ : ∃ (Tj : State) (Lj : List Loc) (dv1 : Int32), Stand p l e room_1 (s.setVm T479.vm) m #[(.int q0), (.int q1), (.int q2), (.int q3), (.int q4), (.int q5)] below meth c Tj Lj 4 14 ∧ Tj.heap = T479.heap ∧ Fr n0 Lj ∧ (dv1 = own_d av1 c1) ∧ Go p e below Tj (mkF m 224 #[.val (.int q0), .val (.int q1), .val (.int q2), .val (.int q3), .val (.int q4), .val (.int q5), .val (.int c0), .val (.int c1), .val (.int c2), .val (.int c3), .val (.int c4), .val (.int nn), .val (.ref r), .val (.int av0), .val (.int av1), .val (.int av2), .val (.int av3), .val (.int av4), .unset, .unset, .unset, .unset, .unset, .unset] [(.int dv1), (.int dv0)]) G := by
    have K615 : Go p e below Tj592 (mkF m 205 #[.val (.int q0), .val (.int q1), .val (.int q2), .val (.int q3), .val (.int q4), .val (.int q5), .val (.int c0), .val (.int c1), .val (.int c2), .val (.int c3), .val (.int c4), .val (.int nn), .val (.ref r), .val (.int av0), .val (.int av1), .val (.int av2), .val (.int av3), .val (.int av4), .unset, .unset, .unset, .unset, .unset, .unset] [(.int av1), (.int dv0)]) G := fun tq kq => Kj592 tq (XS.iload Xj592.here hx rfl (hb hby at_203) rfl kq)
    by_cases hc616 : av1 = (0 : Int32)
    · skip
      have K617 : Go p e below Tj592 (mkF m 220 #[.val (.int q0), .val (.int q1), .val (.int q2), .val (.int q3), .val (.int q4), .val (.int q5), .val (.int c0), .val (.int c1), .val (.int c2), .val (.int c3), .val (.int c4), .val (.int nn), .val (.ref r), .val (.int av0), .val (.int av1), .val (.int av2), .val (.int av3), .val (.int av4), .unset, .unset, .unset, .unset, .unset, .unset] [(.int dv0)]) G := fun tq kq => K615 tq (XS.ifYes Xj592.here hx rfl (pc0 := 205) (pc' := 220) rfl (hb hby at_205) rfl ((if0 _ _).trans (teq hc616).1) (by decide) (by decide) kq)
      have K618 : Go p e below Tj592 (mkF m 221 #[.val (.int q0), .val (.int q1), .val (.int q2), .val (.int q3), .val (.int q4), .val (.int q5), .val (.int c0), .val (.int c1), .val (.int c2), .val (.int c3), .val (.int c4), .val (.int nn), .val (.ref r), .val (.int av0), .val (.int av1), .val (.int av2), .val (.int av3), .val (.int av4), .unset, .unset, .unset, .unset, .unset, .unset] [(.int (0 : Int32)), (.int dv0)]) G := fun tq kq => K617 tq (XS.iconst Xj592.here hx rfl (hb hby at_220) kq)
      obtain ⟨v619, _, ⟨T619, L619, k619, n619⟩, -, X619, ⟨Lc619, hQ619, l619, y619, z619⟩, st619⟩ := Jvm.LawKit.callS Xj592 hx (y := (⟨"com/example/tallyrule/tallyrule/DecimalsSignificantDigitsPinLaw", "one", "(Z)I"⟩ : MethodName)) hown (mvT hZ (hW 44 _ rfl)) (mvT hZ (hW 45 _ rfl)) (mvT hZ (hW 2 _ rfl)) (mvT hZ (hW 46 _ rfl)) (by decide) (backOf (W := 1) (rmONE l Z a0 hw [] (0 : Int32) T479.heap n0 (Nat.le_trans Z0 K479q.1)) hZ (hW 46 _ rfl) (hW 2 _ rfl) (by decide) (by decide)) (g := (mkF m 221 #[.val (.int q0), .val (.int q1), .val (.int q2), .val (.int q3), .val (.int q4), .val (.int q5), .val (.int c0), .val (.int c1), .val (.int c2), .val (.int c3), .val (.int c4), .val (.int nn), .val (.ref r), .val (.int av0), .val (.int av1), .val (.int av2), .val (.int av3), .val (.int av4), .unset, .unset, .unset, .unset, .unset, .unset] [(.int (0 : Int32)), (.int dv0)])) rfl (by rw [hml]; rfl) (argsL := [(.int (0 : Int32))]) (rest := [(.int dv0)]) (lenOf pd_275 rfl) rfl (by show 2 * 0 + _ ≤ _; exact Nat.le_of_eq rfl) (hb hby at_221) (fun _ _ => ⟨rfl, ej592, (by decide : 4 + 0 ≤ _), (by decide : 14 + 0 ≤ _)⟩)
      dsimp only [Pt.U, Pt.locs, Pt.cells, Pt.slots] at X619 l619 y619 z619 st619 hQ619
      subst l619 y619 z619
      rw [QONE, if_pos (rfl : (0 : Int32) = 0)] at hQ619
      obtain ⟨rfl, N619q, E619q⟩ := hQ619
      have N619 := Fr.app Nj592 N619q
      have K620 : Go p e below T619 (mkF m 224 #[.val (.int q0), .val (.int q1), .val (.int q2), .val (.int q3), .val (.int q4), .val (.int q5), .val (.int c0), .val (.int c1), .val (.int c2), .val (.int c3), .val (.int c4), .val (.int nn), .val (.ref r), .val (.int av0), .val (.int av1), .val (.int av2), .val (.int av3), .val (.int av4), .unset, .unset, .unset, .unset, .unset, .unset] [(.int (0 : Int32)), (.int dv0)]) G := fun tq kq => K618 tq (st619 tq kq)
      refine ⟨T619, _, (0 : Int32), X619, E619q, N619, ?_, K620⟩
      exact (if_neg (fun z => z.1 hc616)).symm
    · skip
      have K621 : Go p e below Tj592 (mkF m 208 #[.val (.int q0), .val (.int q1), .val (.int q2), .val (.int q3), .val (.int q4), .val (.int q5), .val (.int c0), .val (.int c1), .val (.int c2), .val (.int c3), .val (.int c4), .val (.int nn), .val (.ref r), .val (.int av0), .val (.int av1), .val (.int av2), .val (.int av3), .val (.int av4), .unset, .unset, .unset, .unset, .unset, .unset] [(.int dv0)]) G := fun tq kq => K615 tq (XS.ifNo Xj592.here hx rfl (hb hby at_205) rfl ((if0 _ _).trans (feq hc616).1) kq)
      have K622 : Go p e below Tj592 (mkF m 210 #[.val (.int q0), .val (.int q1), .val (.int q2), .val (.int q3), .val (.int q4), .val (.int q5), .val (.int c0), .val (.int c1), .val (.int c2), .val (.int c3), .val (.int c4), .val (.int nn), .val (.ref r), .val (.int av0), .val (.int av1), .val (.int av2), .val (.int av3), .val (.int av4), .unset, .unset, .unset, .unset, .unset, .unset] [(.int c1), (.int dv0)]) G := fun tq kq => K621 tq (XS.iload Xj592.here hx rfl (hb hby at_208) rfl kq)
      obtain ⟨v623, _, ⟨T623, L623, k623, n623⟩, -, X623, ⟨Lc623, hQ623, l623, y623, z623⟩, st623⟩ := Jvm.LawKit.callS Xj592 hx (y := (⟨"com/example/tallyrule/tallyrule/DecimalsSignificantDigitsPinLaw", "isDigit", "(C)Z"⟩ : MethodName)) hown (mvT hZ (hW 41 _ rfl)) (mvT hZ (hW 42 _ rfl)) (mvT hZ (hW 2 _ rfl)) (mvT hZ (hW 43 _ rfl)) (by decide) (backOf (W := 1) (rmID l Z a0 hw [] c1 T479.heap n0 (Nat.le_trans Z0 K479q.1)) hZ (hW 43 _ rfl) (hW 2 _ rfl) (by decide) (by decide)) (g := (mkF m 210 #[.val (.int q0), .val (.int q1), .val (.int q2), .val (.int q3), .val (.int q4), .val (.int q5), .val (.int c0), .val (.int c1), .val (.int c2), .val (.int c3), .val (.int c4), .val (.int nn), .val (.ref r), .val (.int av0), .val (.int av1), .val (.int av2), .val (.int av3), .val (.int av4), .unset, .unset, .unset, .unset, .unset, .unset] [(.int c1), (.int dv0)])) rfl (by rw [hml]; rfl) (argsL := [(.int c1)]) (rest := [(.int dv0)]) (lenOf pd_274 rfl) rfl (by show 2 * 0 + _ ≤ _; exact Nat.le_of_eq rfl) (hb hby at_210) (fun _ _ => ⟨rfl, ej592, (by decide : 4 + 0 ≤ _), (by decide : 14 + 0 ≤ _)⟩)
      dsimp only [Pt.U, Pt.locs, Pt.cells, Pt.slots] at X623 l623 y623 z623 st623 hQ623
      subst l623 y623 z623
      by_cases hc624 : ¬ (c1 < (48 : Int32)) ∧ ¬ ((57 : Int32) < c1)
      · skip
        rw [QID, if_pos hc624] at hQ623
        obtain ⟨rfl, N623q, E623q⟩ := hQ623
        have N623 := Fr.app Nj592 N623q
        have K625 : Go p e below T623 (mkF m 213 #[.val (.int q0), .val (.int q1), .val (.int q2), .val (.int q3), .val (.int q4), .val (.int q5), .val (.int c0), .val (.int c1), .val (.int c2), .val (.int c3), .val (.int c4), .val (.int nn), .val (.ref r), .val (.int av0), .val (.int av1), .val (.int av2), .val (.int av3), .val (.int av4), .unset, .unset, .unset, .unset, .unset, .unset] [(.int (1 : Int32)), (.int dv0)]) G := fun tq kq => K622 tq (st623 tq kq)
        have K626 : Go p e below T623 (mkF m 216 #[.val (.int q0), .val (.int q1), .val (.int q2), .val (.int q3), .val (.int q4), .val (.int q5), .val (.int c0), .val (.int c1), .val (.int c2), .val (.int c3), .val (.int c4), .val (.int nn), .val (.ref r), .val (.int av0), .val (.int av1), .val (.int av2), .val (.int av3), .val (.int av4), .unset, .unset, .unset, .unset, .unset, .unset] [(.int dv0)]) G := fun tq kq => K625 tq (XS.ifNo X623.here hx rfl (hb hby at_213) rfl ((if0 _ _).trans (feq (by decide : ¬ ((1 : Int32) = (0 : Int32)))).1) kq)
        have K627 : Go p e below T623 (mkF m 217 #[.val (.int q0), .val (.int q1), .val (.int q2), .val (.int q3), .val (.int q4), .val (.int q5), .val (.int c0), .val (.int c1), .val (.int c2), .val (.int c3), .val (.int c4), .val (.int nn), .val (.ref r), .val (.int av0), .val (.int av1), .val (.int av2), .val (.int av3), .val (.int av4), .unset, .unset, .unset, .unset, .unset, .unset] [(.int (1 : Int32)), (.int dv0)]) G := fun tq kq => K626 tq (XS.iconst X623.here hx rfl (hb hby at_216) kq)
        have K628 : Go p e below T623 (mkF m 221 #[.val (.int q0), .val (.int q1), .val (.int q2), .val (.int q3), .val (.int q4), .val (.int q5), .val (.int c0), .val (.int c1), .val (.int c2), .val (.int c3), .val (.int c4), .val (.int nn), .val (.ref r), .val (.int av0), .val (.int av1), .val (.int av2), .val (.int av3), .val (.int av4), .unset, .unset, .unset, .unset, .unset, .unset] [(.int (1 : Int32)), (.int dv0)]) G := fun tq kq => K627 tq (XS.goto X623.here hx rfl (pc0 := 217) (pc' := 221) rfl (hb hby at_217) (by decide) (by decide) kq)
        obtain ⟨v629, _, ⟨T629, L629, k629, n629⟩, -, X629, ⟨Lc629, hQ629, l629, y629, z629⟩, st629⟩ := Jvm.LawKit.callS X623 hx (y := (⟨"com/example/tallyrule/tallyrule/DecimalsSignificantDigitsPinLaw", "one", "(Z)I"⟩ : MethodName)) hown (mvT hZ (hW 44 _ rfl)) (mvT hZ (hW 45 _ rfl)) (mvT hZ (hW 2 _ rfl)) (mvT hZ (hW 46 _ rfl)) (by decide) (backOf (W := 1) (rmONE l Z a0 hw [] (1 : Int32) T479.heap n0 (Nat.le_trans Z0 K479q.1)) hZ (hW 46 _ rfl) (hW 2 _ rfl) (by decide) (by decide)) (g := (mkF m 221 #[.val (.int q0), .val (.int q1), .val (.int q2), .val (.int q3), .val (.int q4), .val (.int q5), .val (.int c0), .val (.int c1), .val (.int c2), .val (.int c3), .val (.int c4), .val (.int nn), .val (.ref r), .val (.int av0), .val (.int av1), .val (.int av2), .val (.int av3), .val (.int av4), .unset, .unset, .unset, .unset, .unset, .unset] [(.int (1 : Int32)), (.int dv0)])) rfl (by rw [hml]; rfl) (argsL := [(.int (1 : Int32))]) (rest := [(.int dv0)]) (lenOf pd_275 rfl) rfl (by show 2 * 0 + _ ≤ _; exact Nat.le_of_eq rfl) (hb hby at_221) (fun _ _ => ⟨rfl, E623q, (by decide : 4 + 0 ≤ _), (by decide : 14 + 0 ≤ _)⟩)
        dsimp only [Pt.U, Pt.locs, Pt.cells, Pt.slots] at X629 l629 y629 z629 st629 hQ629
        subst l629 y629 z629
        rw [QONE, if_neg (by decide : ¬ ((1 : Int32) = 0))] at hQ629
        obtain ⟨rfl, N629q, E629q⟩ := hQ629
        have N629 := Fr.app N623 N629q
        have K630 : Go p e below T629 (mkF m 224 #[.val (.int q0), .val (.int q1), .val (.int q2), .val (.int q3), .val (.int q4), .val (.int q5), .val (.int c0), .val (.int c1), .val (.int c2), .val (.int c3), .val (.int c4), .val (.int nn), .val (.ref r), .val (.int av0), .val (.int av1), .val (.int av2), .val (.int av3), .val (.int av4), .unset, .unset, .unset, .unset, .unset, .unset] [(.int (1 : Int32)), (.int dv0)]) G := fun tq kq => K628 tq (st629 tq kq)
        refine ⟨T629, _, (1 : Int32), X629, E629q, N629, ?_, K630⟩
        exact (if_pos ⟨hc616, hc624⟩).symm
      · skip
        rw [QID, if_neg hc624] at hQ623
        obtain ⟨rfl, N623q, E623q⟩ := hQ623
        have N623 := Fr.app Nj592 N623q
        have K631 : Go p e below T623 (mkF m 213 #[.val (.int q0), .val (.int q1), .val (.int q2), .val (.int q3), .val (.int q4), .val (.int q5), .val (.int c0), .val (.int c1), .val (.int c2), .val (.int c3), .val (.int c4), .val (.int nn), .val (.ref r), .val (.int av0), .val (.int av1), .val (.int av2), .val (.int av3), .val (.int av4), .unset, .unset, .unset, .unset, .unset, .unset] [(.int (0 : Int32)), (.int dv0)]) G := fun tq kq => K622 tq (st623 tq kq)
        have K632 : Go p e below T623 (mkF m 220 #[.val (.int q0), .val (.int q1), .val (.int q2), .val (.int q3), .val (.int q4), .val (.int q5), .val (.int c0), .val (.int c1), .val (.int c2), .val (.int c3), .val (.int c4), .val (.int nn), .val (.ref r), .val (.int av0), .val (.int av1), .val (.int av2), .val (.int av3), .val (.int av4), .unset, .unset, .unset, .unset, .unset, .unset] [(.int dv0)]) G := fun tq kq => K631 tq (XS.ifYes X623.here hx rfl (pc0 := 213) (pc' := 220) rfl (hb hby at_213) rfl ((if0 _ _).trans (teq (by decide : (0 : Int32) = (0 : Int32))).1) (by decide) (by decide) kq)
        have K633 : Go p e below T623 (mkF m 221 #[.val (.int q0), .val (.int q1), .val (.int q2), .val (.int q3), .val (.int q4), .val (.int q5), .val (.int c0), .val (.int c1), .val (.int c2), .val (.int c3), .val (.int c4), .val (.int nn), .val (.ref r), .val (.int av0), .val (.int av1), .val (.int av2), .val (.int av3), .val (.int av4), .unset, .unset, .unset, .unset, .unset, .unset] [(.int (0 : Int32)), (.int dv0)]) G := fun tq kq => K632 tq (XS.iconst X623.here hx rfl (hb hby at_220) kq)
        obtain ⟨v634, _, ⟨T634, L634, k634, n634⟩, -, X634, ⟨Lc634, hQ634, l634, y634, z634⟩, st634⟩ := Jvm.LawKit.callS X623 hx (y := (⟨"com/example/tallyrule/tallyrule/DecimalsSignificantDigitsPinLaw", "one", "(Z)I"⟩ : MethodName)) hown (mvT hZ (hW 44 _ rfl)) (mvT hZ (hW 45 _ rfl)) (mvT hZ (hW 2 _ rfl)) (mvT hZ (hW 46 _ rfl)) (by decide) (backOf (W := 1) (rmONE l Z a0 hw [] (0 : Int32) T479.heap n0 (Nat.le_trans Z0 K479q.1)) hZ (hW 46 _ rfl) (hW 2 _ rfl) (by decide) (by decide)) (g := (mkF m 221 #[.val (.int q0), .val (.int q1), .val (.int q2), .val (.int q3), .val (.int q4), .val (.int q5), .val (.int c0), .val (.int c1), .val (.int c2), .val (.int c3), .val (.int c4), .val (.int nn), .val (.ref r), .val (.int av0), .val (.int av1), .val (.int av2), .val (.int av3), .val (.int av4), .unset, .unset, .unset, .unset, .unset, .unset] [(.int (0 : Int32)), (.int dv0)])) rfl (by rw [hml]; rfl) (argsL := [(.int (0 : Int32))]) (rest := [(.int dv0)]) (lenOf pd_275 rfl) rfl (by show 2 * 0 + _ ≤ _; exact Nat.le_of_eq rfl) (hb hby at_221) (fun _ _ => ⟨rfl, E623q, (by decide : 4 + 0 ≤ _), (by decide : 14 + 0 ≤ _)⟩)
        dsimp only [Pt.U, Pt.locs, Pt.cells, Pt.slots] at X634 l634 y634 z634 st634 hQ634
        subst l634 y634 z634
        rw [QONE, if_pos (rfl : (0 : Int32) = 0)] at hQ634
        obtain ⟨rfl, N634q, E634q⟩ := hQ634
        have N634 := Fr.app N623 N634q
        have K635 : Go p e below T634 (mkF m 224 #[.val (.int q0), .val (.int q1), .val (.int q2), .val (.int q3), .val (.int q4), .val (.int q5), .val (.int c0), .val (.int c1), .val (.int c2), .val (.int c3), .val (.int c4), .val (.int nn), .val (.ref r), .val (.int av0), .val (.int av1), .val (.int av2), .val (.int av3), .val (.int av4), .unset, .unset, .unset, .unset, .unset, .unset] [(.int (0 : Int32)), (.int dv0)]) G := fun tq kq => K633 tq (st634 tq kq)
        refine ⟨T634, _, (0 : Int32), X634, E634q, N634, ?_, K635⟩
        exact (if_neg (fun z => hc624 (z.2))).symm
  have h_dv1 := hj614
  have K636 : Go p e below Tj614 (mkF m 225 #[.val (.int q0), .val (.int q1), .val (.int q2), .val (.int q3), .val (.int q4), .val (.int q5), .val (.int c0), .val (.int c1), .val (.int c2), .val (.int c3), .val (.int c4), .val (.int nn), .val (.ref r), .val (.int av0), .val (.int av1), .val (.int av2), .val (.int av3), .val (.int av4), .unset, .unset, .unset, .unset, .unset, .unset] [(.int (dv0 + dv1))]) G := fun tq kq => Kj614 tq (XS.iadd Xj614.here hx rfl (hb hby at_224) rfl kq)
  obtain ⟨Tj637, Lj637, dv2, Xj637, ej637, Nj637, hj637, Kj637⟩ : ∃ (Tj : State) (Lj : List Loc) (dv2 : Int32), Stand p l e room_1 (s.setVm T479.vm) m #[(.int q0), (.int q1), (.int q2), (.int q3), (.int q4), (.int q5)] below meth c Tj Lj 4 14 ∧ Tj.heap = T479.heap ∧ Fr n0 Lj ∧ (dv2 = own_d av2 c2) ∧ Go p e below Tj (mkF m 246 #[.val (.int q0), .val (.int q1), .val (.int q2), .val (.int q3), .val (.int q4), .val (.int q5), .val (.int c0), .val (.int c1), .val (.int c2), .val (.int c3), .val (.int c4), .val (.int nn), .val (.ref r), .val (.int av0), .val (.int av1), .val (.int av2), .val (.int av3), .val (.int av4), .unset, .unset, .unset, .unset, .unset, .unset] [(.int dv2), (.int (dv0 + dv1))]) G := by
    have K638 : Go p e below Tj614 (mkF m 227 #[.val (.int q0), .val (.int q1), .val (.int q2), .val (.int q3), .val (.int q4), .val (.int q5), .val (.int c0), .val (.int c1), .val (.int c2), .val (.int c3), .val (.int c4), .val (.int nn), .val (.ref r), .val (.int av0), .val (.int av1), .val (.int av2), .val (.int av3), .val (.int av4), .unset, .unset, .unset, .unset, .unset, .unset] [(.int av2), (.int (dv0 + dv1))]) G := fun tq kq => K636 tq (XS.iload Xj614.here hx rfl (hb hby at_225) rfl kq)
    by_cases hc639 : av2 = (0 : Int32)
    · skip
      have K640 : Go p e below Tj614 (mkF m 242 #[.val (.int q0), .val (.int q1), .val (.int q2), .val (.int q3), .val (.int q4), .val (.int q5), .val (.int c0), .val (.int c1), .val (.int c2), .val (.int c3), .val (.int c4), .val (.int nn), .val (.ref r), .val (.int av0), .val (.int av1), .val (.int av2), .val (.int av3), .val (.int av4), .unset, .unset, .unset, .unset, .unset, .unset] [(.int (dv0 + dv1))]) G := fun tq kq => K638 tq (XS.ifYes Xj614.here hx rfl (pc0 := 227) (pc' := 242) rfl (hb hby at_227) rfl ((if0 _ _).trans (teq hc639).1) (by decide) (by decide) kq)
      have K641 : Go p e below Tj614 (mkF m 243 #[.val (.int q0), .val (.int q1), .val (.int q2), .val (.int q3), .val (.int q4), .val (.int q5), .val (.int c0), .val (.int c1), .val (.int c2), .val (.int c3), .val (.int c4), .val (.int nn), .val (.ref r), .val (.int av0), .val (.int av1), .val (.int av2), .val (.int av3), .val (.int av4), .unset, .unset, .unset, .unset, .unset, .unset] [(.int (0 : Int32)), (.int (dv0 + dv1))]) G := fun tq kq => K640 tq (XS.iconst Xj614.here hx rfl (hb hby at_242) kq)
      obtain ⟨v642, _, ⟨T642, L642, k642, n642⟩, -, X642, ⟨Lc642, hQ642, l642, y642, z642⟩, st642⟩ := Jvm.LawKit.callS Xj614 hx (y := (⟨"com/example/tallyrule/tallyrule/DecimalsSignificantDigitsPinLaw", "one", "(Z)I"⟩ : MethodName)) hown (mvT hZ (hW 44 _ rfl)) (mvT hZ (hW 45 _ rfl)) (mvT hZ (hW 2 _ rfl)) (mvT hZ (hW 46 _ rfl)) (by decide) (backOf (W := 1) (rmONE l Z a0 hw [] (0 : Int32) T479.heap n0 (Nat.le_trans Z0 K479q.1)) hZ (hW 46 _ rfl) (hW 2 _ rfl) (by decide) (by decide)) (g := (mkF m 243 #[.val (.int q0), .val (.int q1), .val (.int q2), .val (.int q3), .val (.int q4), .val (.int q5), .val (.int c0), .val (.int c1), .val (.int c2), .val (.int c3), .val (.int c4), .val (.int nn), .val (.ref r), .val (.int av0), .val (.int av1), .val (.int av2), .val (.int av3), .val (.int av4), .unset, .unset, .unset, .unset, .unset, .unset] [(.int (0 : Int32)), (.int (dv0 + dv1))])) rfl (by rw [hml]; rfl) (argsL := [(.int (0 : Int32))]) (rest := [(.int (dv0 + dv1))]) (lenOf pd_275 rfl) rfl (by show 2 * 0 + _ ≤ _; exact Nat.le_of_eq rfl) (hb hby at_243) (fun _ _ => ⟨rfl, ej614, (by decide : 4 + 0 ≤ _), (by decide : 14 + 0 ≤ _)⟩)
      dsimp only [Pt.U, Pt.locs, Pt.cells, Pt.slots] at X642 l642 y642 z642 st642 hQ642
      subst l642 y642 z642
      rw [QONE, if_pos (rfl : (0 : Int32) = 0)] at hQ642
      obtain ⟨rfl, N642q, E642q⟩ := hQ642
      have N642 := Fr.app Nj614 N642q
      have K643 : Go p e below T642 (mkF m 246 #[.val (.int q0), .val (.int q1), .val (.int q2), .val (.int q3), .val (.int q4), .val (.int q5), .val (.int c0), .val (.int c1), .val (.int c2), .val (.int c3), .val (.int c4), .val (.int nn), .val (.ref r), .val (.int av0), .val (.int av1), .val (.int av2), .val (.int av3), .val (.int av4), .unset, .unset, .unset, .unset, .unset, .unset] [(.int (0 : Int32)), (.int (dv0 + dv1))]) G := fun tq kq => K641 tq (st642 tq kq)
      refine ⟨T642, _, (0 : Int32), X642, E642q, N642, ?_, K643⟩
      exact (if_neg (fun z => z.1 hc639)).symm
    · skip
      have K644 : Go p e below Tj614 (mkF m 230 #[.val (.int q0), .val (.int q1), .val (.int q2), .val (.int q3), .val (.int q4), .val (.int q5), .val (.int c0), .val (.int c1), .val (.int c2), .val (.int c3), .val (.int c4), .val (.int nn), .val (.ref r), .val (.int av0), .val (.int av1), .val (.int av2), .val (.int av3), .val (.int av4), .unset, .unset, .unset, .unset, .unset, .unset] [(.int (dv0 + dv1))]) G := fun tq kq => K638 tq (XS.ifNo Xj614.here hx rfl (hb hby at_227) rfl ((if0 _ _).trans (feq hc639).1) kq)
      have K645 : Go p e below Tj614 (mkF m 232 #[.val (.int q0), .val (.int q1), .val (.int q2), .val (.int q3), .val (.int q4), .val (.int q5), .val (.int c0), .val (.int c1), .val (.int c2), .val (.int c3), .val (.int c4), .val (.int nn), .val (.ref r), .val (.int av0), .val (.int av1), .val (.int av2), .val (.int av3), .val (.int av4), .unset, .unset, .unset, .unset, .unset, .unset] [(.int c2), (.int (dv0 + dv1))]) G := fun tq kq => K644 tq (XS.iload Xj614.here hx rfl (hb hby at_230) rfl kq)
      obtain ⟨v646, _, ⟨T646, L646, k646, n646⟩, -, X646, ⟨Lc646, hQ646, l646, y646, z646⟩, st646⟩ := Jvm.LawKit.callS Xj614 hx (y := (⟨"com/example/tallyrule/tallyrule/DecimalsSignificantDigitsPinLaw", "isDigit", "(C)Z"⟩ : MethodName)) hown (mvT hZ (hW 41 _ rfl)) (mvT hZ (hW 42 _ rfl)) (mvT hZ (hW 2 _ rfl)) (mvT hZ (hW 43 _ rfl)) (by decide) (backOf (W := 1) (rmID l Z a0 hw [] c2 T479.heap n0 (Nat.le_trans Z0 K479q.1)) hZ (hW 43 _ rfl) (hW 2 _ rfl) (by decide) (by decide)) (g := (mkF m 232 #[.val (.int q0), .val (.int q1), .val (.int q2), .val (.int q3), .val (.int q4), .val (.int q5), .val (.int c0), .val (.int c1), .val (.int c2), .val (.int c3), .val (.int c4), .val (.int nn), .val (.ref r), .val (.int av0), .val (.int av1), .val (.int av2), .val (.int av3), .val (.int av4), .unset, .unset, .unset, .unset, .unset, .unset] [(.int c2), (.int (dv0 + dv1))])) rfl (by rw [hml]; rfl) (argsL := [(.int c2)]) (rest := [(.int (dv0 + dv1))]) (lenOf pd_274 rfl) rfl (by show 2 * 0 + _ ≤ _; exact Nat.le_of_eq rfl) (hb hby at_232) (fun _ _ => ⟨rfl, ej614, (by decide : 4 + 0 ≤ _), (by decide : 14 + 0 ≤ _)⟩)
      dsimp only [Pt.U, Pt.locs, Pt.cells, Pt.slots] at X646 l646 y646 z646 st646 hQ646
      subst l646 y646 z646
      by_cases hc647 : ¬ (c2 < (48 : Int32)) ∧ ¬ ((57 : Int32) < c2)
      · skip
        rw [QID, if_pos hc647] at hQ646
        obtain ⟨rfl, N646q, E646q⟩ := hQ646
        have N646 := Fr.app Nj614 N646q
        have K648 : Go p e below T646 (mkF m 235 #[.val (.int q0), .val (.int q1), .val (.int q2), .val (.int q3), .val (.int q4), .val (.int q5), .val (.int c0), .val (.int c1), .val (.int c2), .val (.int c3), .val (.int c4), .val (.int nn), .val (.ref r), .val (.int av0), .val (.int av1), .val (.int av2), .val (.int av3), .val (.int av4), .unset, .unset, .unset, .unset, .unset, .unset] [(.int (1 : Int32)), (.int (dv0 + dv1))]) G := fun tq kq => K645 tq (st646 tq kq)
        have K649 : Go p e below T646 (mkF m 238 #[.val (.int q0), .val (.int q1), .val (.int q2), .val (.int q3), .val (.int q4), .val (.int q5), .val (.int c0), .val (.int c1), .val (.int c2), .val (.int c3), .val (.int c4), .val (.int nn), .val (.ref r), .val (.int av0), .val (.int av1), .val (.int av2), .val (.int av3), .val (.int av4), .unset, .unset, .unset, .unset, .unset, .unset] [(.int (dv0 + dv1))]) G := fun tq kq => K648 tq (XS.ifNo X646.here hx rfl (hb hby at_235) rfl ((if0 _ _).trans (feq (by decide : ¬ ((1 : Int32) = (0 : Int32)))).1) kq)
        have K650 : Go p e below T646 (mkF m 239 #[.val (.int q0), .val (.int q1), .val (.int q2), .val (.int q3), .val (.int q4), .val (.int q5), .val (.int c0), .val (.int c1), .val (.int c2), .val (.int c3), .val (.int c4), .val (.int nn), .val (.ref r), .val (.int av0), .val (.int av1), .val (.int av2), .val (.int av3), .val (.int av4), .unset, .unset, .unset, .unset, .unset, .unset] [(.int (1 : Int32)), (.int (dv0 + dv1))]) G := fun tq kq => K649 tq (XS.iconst X646.here hx rfl (hb hby at_238) kq)
        have K651 : Go p e below T646 (mkF m 243 #[.val (.int q0), .val (.int q1), .val (.int q2), .val (.int q3), .val (.int q4), .val (.int q5), .val (.int c0), .val (.int c1), .val (.int c2), .val (.int c3), .val (.int c4), .val (.int nn), .val (.ref r), .val (.int av0), .val (.int av1), .val (.int av2), .val (.int av3), .val (.int av4), .unset, .unset, .unset, .unset, .unset, .unset] [(.int (1 : Int32)), (.int (dv0 + dv1))]) G := fun tq kq => K650 tq (XS.goto X646.here hx rfl (pc0 := 239) (pc' := 243) rfl (hb hby at_239) (by decide) (by decide) kq)
        obtain ⟨v652, _, ⟨T652, L652, k652, n652⟩, -, X652, ⟨Lc652, hQ652, l652, y652, z652⟩, st652⟩ := Jvm.LawKit.callS X646 hx (y := (⟨"com/example/tallyrule/tallyrule/DecimalsSignificantDigitsPinLaw", "one", "(Z)I"⟩ : MethodName)) hown (mvT hZ (hW 44 _ rfl)) (mvT hZ (hW 45 _ rfl)) (mvT hZ (hW 2 _ rfl)) (mvT hZ (hW 46 _ rfl)) (by decide) (backOf (W := 1) (rmONE l Z a0 hw [] (1 : Int32) T479.heap n0 (Nat.le_trans Z0 K479q.1)) hZ (hW 46 _ rfl) (hW 2 _ rfl) (by decide) (by decide)) (g := (mkF m 243 #[.val (.int q0), .val (.int q1), .val (.int q2), .val (.int q3), .val (.int q4), .val (.int q5), .val (.int c0), .val (.int c1), .val (.int c2), .val (.int c3), .val (.int c4), .val (.int nn), .val (.ref r), .val (.int av0), .val (.int av1), .val (.int av2), .val (.int av3), .val (.int av4), .unset, .unset, .unset, .unset, .unset, .unset] [(.int (1 : Int32)), (.int (dv0 + dv1))])) rfl (by rw [hml]; rfl) (argsL := [(.int (1 : Int32))]) (rest := [(.int (dv0 + dv1))]) (lenOf pd_275 rfl) rfl (by show 2 * 0 + _ ≤ _; exact Nat.le_of_eq rfl) (hb hby at_243) (fun _ _ => ⟨rfl, E646q, (by decide : 4 + 0 ≤ _), (by decide : 14 + 0 ≤ _)⟩)
        dsimp only [Pt.U, Pt.locs, Pt.cells, Pt.slots] at X652 l652 y652 z652 st652 hQ652
        subst l652 y652 z652
        rw [QONE, if_neg (by decide : ¬ ((1 : Int32) = 0))] at hQ652
        obtain ⟨rfl, N652q, E652q⟩ := hQ652
        have N652 := Fr.app N646 N652q
        have K653 : Go p e below T652 (mkF m 246 #[.val (.int q0), .val (.int q1), .val (.int q2), .val (.int q3), .val (.int q4), .val (.int q5), .val (.int c0), .val (.int c1), .val (.int c2), .val (.int c3), .val (.int c4), .val (.int nn), .val (.ref r), .val (.int av0), .val (.int av1), .val (.int av2), .val (.int av3), .val (.int av4), .unset, .unset, .unset, .unset, .unset, .unset] [(.int (1 : Int32)), (.int (dv0 + dv1))]) G := fun tq kq => K651 tq (st652 tq kq)
        refine ⟨T652, _, (1 : Int32), X652, E652q, N652, ?_, K653⟩
        exact (if_pos ⟨hc639, hc647⟩).symm
      · skip
        rw [QID, if_neg hc647] at hQ646
        obtain ⟨rfl, N646q, E646q⟩ := hQ646
        have N646 := Fr.app Nj614 N646q
        have K654 : Go p e below T646 (mkF m 235 #[.val (.int q0), .val (.int q1), .val (.int q2), .val (.int q3), .val (.int q4), .val (.int q5), .val (.int c0), .val (.int c1), .val (.int c2), .val (.int c3), .val (.int c4), .val (.int nn), .val (.ref r), .val (.int av0), .val (.int av1), .val (.int av2), .val (.int av3), .val (.int av4), .unset, .unset, .unset, .unset, .unset, .unset] [(.int (0 : Int32)), (.int (dv0 + dv1))]) G := fun tq kq => K645 tq (st646 tq kq)
        have K655 : Go p e below T646 (mkF m 242 #[.val (.int q0), .val (.int q1), .val (.int q2), .val (.int q3), .val (.int q4), .val (.int q5), .val (.int c0), .val (.int c1), .val (.int c2), .val (.int c3), .val (.int c4), .val (.int nn), .val (.ref r), .val (.int av0), .val (.int av1), .val (.int av2), .val (.int av3), .val (.int av4), .unset, .unset, .unset, .unset, .unset, .unset] [(.int (dv0 + dv1))]) G := fun tq kq => K654 tq (XS.ifYes X646.here hx rfl (pc0 := 235) (pc' := 242) rfl (hb hby at_235) rfl ((if0 _ _).trans (teq (by decide : (0 : Int32) = (0 : Int32))).1) (by decide) (by decide) kq)
        have K656 : Go p e below T646 (mkF m 243 #[.val (.int q0), .val (.int q1), .val (.int q2), .val (.int q3), .val (.int q4), .val (.int q5), .val (.int c0), .val (.int c1), .val (.int c2), .val (.int c3), .val (.int c4), .val (.int nn), .val (.ref r), .val (.int av0), .val (.int av1), .val (.int av2), .val (.int av3), .val (.int av4), .unset, .unset, .unset, .unset, .unset, .unset] [(.int (0 : Int32)), (.int (dv0 + dv1))]) G := fun tq kq => K655 tq (XS.iconst X646.here hx rfl (hb hby at_242) kq)
        obtain ⟨v657, _, ⟨T657, L657, k657, n657⟩, -, X657, ⟨Lc657, hQ657, l657, y657, z657⟩, st657⟩ := Jvm.LawKit.callS X646 hx (y := (⟨"com/example/tallyrule/tallyrule/DecimalsSignificantDigitsPinLaw", "one", "(Z)I"⟩ : MethodName)) hown (mvT hZ (hW 44 _ rfl)) (mvT hZ (hW 45 _ rfl)) (mvT hZ (hW 2 _ rfl)) (mvT hZ (hW 46 _ rfl)) (by decide) (backOf (W := 1) (rmONE l Z a0 hw [] (0 : Int32) T479.heap n0 (Nat.le_trans Z0 K479q.1)) hZ (hW 46 _ rfl) (hW 2 _ rfl) (by decide) (by decide)) (g := (mkF m 243 #[.val (.int q0), .val (.int q1), .val (.int q2), .val (.int q3), .val (.int q4), .val (.int q5), .val (.int c0), .val (.int c1), .val (.int c2), .val (.int c3), .val (.int c4), .val (.int nn), .val (.ref r), .val (.int av0), .val (.int av1), .val (.int av2), .val (.int av3), .val (.int av4), .unset, .unset, .unset, .unset, .unset, .unset] [(.int (0 : Int32)), (.int (dv0 + dv1))])) rfl (by rw [hml]; rfl) (argsL := [(.int (0 : Int32))]) (rest := [(.int (dv0 + dv1))]) (lenOf pd_275 rfl) rfl (by show 2 * 0 + _ ≤ _; exact Nat.le_of_eq rfl) (hb hby at_243) (fun _ _ => ⟨rfl, E646q, (by decide : 4 + 0 ≤ _), (by decide : 14 + 0 ≤ _)⟩)
        dsimp only [Pt.U, Pt.locs, Pt.cells, Pt.slots] at X657 l657 y657 z657 st657 hQ657
        subst l657 y657 z657
        rw [QONE, if_pos (rfl : (0 : Int32) = 0)] at hQ657
        obtain ⟨rfl, N657q, E657q⟩ := hQ657
        have N657 := Fr.app N646 N657q
        have K658 : Go p e below T657 (mkF m 246 #[.val (.int q0), .val (.int q1), .val (.int q2), .val (.int q3), .val (.int q4), .val (.int q5), .val (.int c0), .val (.int c1), .val (.int c2), .val (.int c3), .val (.int c4), .val (.int nn), .val (.ref r), .val (.int av0), .val (.int av1), .val (.int av2), .val (.int av3), .val (.int av4), .unset, .unset, .unset, .unset, .unset, .unset] [(.int (0 : Int32)), (.int (dv0 + dv1))]) G := fun tq kq => K656 tq (st657 tq kq)
        refine ⟨T657, _, (0 : Int32), X657, E657q, N657, ?_, K658⟩
        exact (if_neg (fun z => hc647 (z.2))).symm
  have h_dv2 := hj637
  have K659 : Go p e below Tj637 (mkF m 247 #[.val (.int q0), .val (.int q1), .val (.int q2), .val (.int q3), .val (.int q4), .val (.int q5), .val (.int c0), .val (.int c1), .val (.int c2), .val (.int c3), .val (.int c4), .val (.int nn), .val (.ref r), .val (.int av0), .val (.int av1), .val (.int av2), .val (.int av3), .val (.int av4), .unset, .unset, .unset, .unset, .unset, .unset] [(.int ((dv0 + dv1) + dv2))]) G := fun tq kq => Kj637 tq (XS.iadd Xj637.here hx rfl (hb hby at_246) rfl kq)
  obtain ⟨Tj660, Lj660, dv3, Xj660, ej660, Nj660, hj660, Kj660⟩ : ∃ (Tj : State) (Lj : List Loc) (dv3 : Int32), Stand p l e room_1 (s.setVm T479.vm) m #[(.int q0), (.int q1), (.int q2), (.int q3), (.int q4), (.int q5)] below meth c Tj Lj 4 14 ∧ Tj.heap = T479.heap ∧ Fr n0 Lj ∧ (dv3 = own_d av3 c3) ∧ Go p e below Tj (mkF m 268 #[.val (.int q0), .val (.int q1), .val (.int q2), .val (.int q3), .val (.int q4), .val (.int q5), .val (.int c0), .val (.int c1), .val (.int c2), .val (.int c3), .val (.int c4), .val (.int nn), .val (.ref r), .val (.int av0), .val (.int av1), .val (.int av2), .val (.int av3), .val (.int av4), .unset, .unset, .unset, .unset, .unset, .unset] [(.int dv3), (.int ((dv0 + dv1) + dv2))]) G := by
    have K661 : Go p e below Tj637 (mkF m 249 #[.val (.int q0), .val (.int q1), .val (.int q2), .val (.int q3), .val (.int q4), .val (.int q5), .val (.int c0), .val (.int c1), .val (.int c2), .val (.int c3), .val (.int c4), .val (.int nn), .val (.ref r), .val (.int av0), .val (.int av1), .val (.int av2), .val (.int av3), .val (.int av4), .unset, .unset, .unset, .unset, .unset, .unset] [(.int av3), (.int ((dv0 + dv1) + dv2))]) G := fun tq kq => K659 tq (XS.iload Xj637.here hx rfl (hb hby at_247) rfl kq)
    by_cases hc662 : av3 = (0 : Int32)
    · skip
      have K663 : Go p e below Tj637 (mkF m 264 #[.val (.int q0), .val (.int q1), .val (.int q2), .val (.int q3), .val (.int q4), .val (.int q5), .val (.int c0), .val (.int c1), .val (.int c2), .val (.int c3), .val (.int c4), .val (.int nn), .val (.ref r), .val (.int av0), .val (.int av1), .val (.int av2), .val (.int av3), .val (.int av4), .unset, .unset, .unset, .unset, .unset, .unset] [(.int ((dv0 + dv1) + dv2))]) G := fun tq kq => K661 tq (XS.ifYes Xj637.here hx rfl (pc0 := 249) (pc' := 264) rfl (hb hby at_249) rfl ((if0 _ _).trans (teq hc662).1) (by decide) (by decide) kq)
      have K664 : Go p e below Tj637 (mkF m 265 #[.val (.int q0), .val (.int q1), .val (.int q2), .val (.int q3), .val (.int q4), .val (.int q5), .val (.int c0), .val (.int c1), .val (.int c2), .val (.int c3), .val (.int c4), .val (.int nn), .val (.ref r), .val (.int av0), .val (.int av1), .val (.int av2), .val (.int av3), .val (.int av4), .unset, .unset, .unset, .unset, .unset, .unset] [(.int (0 : Int32)), (.int ((dv0 + dv1) + dv2))]) G := fun tq kq => K663 tq (XS.iconst Xj637.here hx rfl (hb hby at_264) kq)
      obtain ⟨v665, _, ⟨T665, L665, k665, n665⟩, -, X665, ⟨Lc665, hQ665, l665, y665, z665⟩, st665⟩ := Jvm.LawKit.callS Xj637 hx (y := (⟨"com/example/tallyrule/tallyrule/DecimalsSignificantDigitsPinLaw", "one", "(Z)I"⟩ : MethodName)) hown (mvT hZ (hW 44 _ rfl)) (mvT hZ (hW 45 _ rfl)) (mvT hZ (hW 2 _ rfl)) (mvT hZ (hW 46 _ rfl)) (by decide) (backOf (W := 1) (rmONE l Z a0 hw [] (0 : Int32) T479.heap n0 (Nat.le_trans Z0 K479q.1)) hZ (hW 46 _ rfl) (hW 2 _ rfl) (by decide) (by decide)) (g := (mkF m 265 #[.val (.int q0), .val (.int q1), .val (.int q2), .val (.int q3), .val (.int q4), .val (.int q5), .val (.int c0), .val (.int c1), .val (.int c2), .val (.int c3), .val (.int c4), .val (.int nn), .val (.ref r), .val (.int av0), .val (.int av1), .val (.int av2), .val (.int av3), .val (.int av4), .unset, .unset, .unset, .unset, .unset, .unset] [(.int (0 : Int32)), (.int ((dv0 + dv1) + dv2))])) rfl (by rw [hml]; rfl) (argsL := [(.int (0 : Int32))]) (rest := [(.int ((dv0 + dv1) + dv2))]) (lenOf pd_275 rfl) rfl (by show 2 * 0 + _ ≤ _; exact Nat.le_of_eq rfl) (hb hby at_265) (fun _ _ => ⟨rfl, ej637, (by decide : 4 + 0 ≤ _), (by decide : 14 + 0 ≤ _)⟩)
      dsimp only [Pt.U, Pt.locs, Pt.cells, Pt.slots] at X665 l665 y665 z665 st665 hQ665
      subst l665 y665 z665
      rw [QONE, if_pos (rfl : (0 : Int32) = 0)] at hQ665
      obtain ⟨rfl, N665q, E665q⟩ := hQ665
      have N665 := Fr.app Nj637 N665q
      have K666 : Go p e below T665 (mkF m 268 #[.val (.int q0), .val (.int q1), .val (.int q2), .val (.int q3), .val (.int q4), .val (.int q5), .val (.int c0), .val (.int c1), .val (.int c2), .val (.int c3), .val (.int c4), .val (.int nn), .val (.ref r), .val (.int av0), .val (.int av1), .val (.int av2), .val (.int av3), .val (.int av4), .unset, .unset, .unset, .unset, .unset, .unset] [(.int (0 : Int32)), (.int ((dv0 + dv1) + dv2))]) G := fun tq kq => K664 tq (st665 tq kq)
      refine ⟨T665, _, (0 : Int32), X665, E665q, N665, ?_, K666⟩
      exact (if_neg (fun z => z.1 hc662)).symm
    · skip
      have K667 : Go p e below Tj637 (mkF m 252 #[.val (.int q0), .val (.int q1), .val (.int q2), .val (.int q3), .val (.int q4), .val (.int q5), .val (.int c0), .val (.int c1), .val (.int c2), .val (.int c3), .val (.int c4), .val (.int nn), .val (.ref r), .val (.int av0), .val (.int av1), .val (.int av2), .val (.int av3), .val (.int av4), .unset, .unset, .unset, .unset, .unset, .unset] [(.int ((dv0 + dv1) + dv2))]) G := fun tq kq => K661 tq (XS.ifNo Xj637.here hx rfl (hb hby at_249) rfl ((if0 _ _).trans (feq hc662).1) kq)
      have K668 : Go p e below Tj637 (mkF m 254 #[.val (.int q0), .val (.int q1), .val (.int q2), .val (.int q3), .val (.int q4), .val (.int q5), .val (.int c0), .val (.int c1), .val (.int c2), .val (.int c3), .val (.int c4), .val (.int nn), .val (.ref r), .val (.int av0), .val (.int av1), .val (.int av2), .val (.int av3), .val (.int av4), .unset, .unset, .unset, .unset, .unset, .unset] [(.int c3), (.int ((dv0 + dv1) + dv2))]) G := fun tq kq => K667 tq (XS.iload Xj637.here hx rfl (hb hby at_252) rfl kq)
      obtain ⟨v669, _, ⟨T669, L669, k669, n669⟩, -, X669, ⟨Lc669, hQ669, l669, y669, z669⟩, st669⟩ := Jvm.LawKit.callS Xj637 hx (y := (⟨"com/example/tallyrule/tallyrule/DecimalsSignificantDigitsPinLaw", "isDigit", "(C)Z"⟩ : MethodName)) hown (mvT hZ (hW 41 _ rfl)) (mvT hZ (hW 42 _ rfl)) (mvT hZ (hW 2 _ rfl)) (mvT hZ (hW 43 _ rfl)) (by decide) (backOf (W := 1) (rmID l Z a0 hw [] c3 T479.heap n0 (Nat.le_trans Z0 K479q.1)) hZ (hW 43 _ rfl) (hW 2 _ rfl) (by decide) (by decide)) (g := (mkF m 254 #[.val (.int q0), .val (.int q1), .val (.int q2), .val (.int q3), .val (.int q4), .val (.int q5), .val (.int c0), .val (.int c1), .val (.int c2), .val (.int c3), .val (.int c4), .val (.int nn), .val (.ref r), .val (.int av0), .val (.int av1), .val (.int av2), .val (.int av3), .val (.int av4), .unset, .unset, .unset, .unset, .unset, .unset] [(.int c3), (.int ((dv0 + dv1) + dv2))])) rfl (by rw [hml]; rfl) (argsL := [(.int c3)]) (rest := [(.int ((dv0 + dv1) + dv2))]) (lenOf pd_274 rfl) rfl (by show 2 * 0 + _ ≤ _; exact Nat.le_of_eq rfl) (hb hby at_254) (fun _ _ => ⟨rfl, ej637, (by decide : 4 + 0 ≤ _), (by decide : 14 + 0 ≤ _)⟩)
      dsimp only [Pt.U, Pt.locs, Pt.cells, Pt.slots] at X669 l669 y669 z669 st669 hQ669
      subst l669 y669 z669
      by_cases hc670 : ¬ (c3 < (48 : Int32)) ∧ ¬ ((57 : Int32) < c3)
      · skip
        rw [QID, if_pos hc670] at hQ669
        obtain ⟨rfl, N669q, E669q⟩ := hQ669
        have N669 := Fr.app Nj637 N669q
        have K671 : Go p e below T669 (mkF m 257 #[.val (.int q0), .val (.int q1), .val (.int q2), .val (.int q3), .val (.int q4), .val (.int q5), .val (.int c0), .val (.int c1), .val (.int c2), .val (.int c3), .val (.int c4), .val (.int nn), .val (.ref r), .val (.int av0), .val (.int av1), .val (.int av2), .val (.int av3), .val (.int av4), .unset, .unset, .unset, .unset, .unset, .unset] [(.int (1 : Int32)), (.int ((dv0 + dv1) + dv2))]) G := fun tq kq => K668 tq (st669 tq kq)
        have K672 : Go p e below T669 (mkF m 260 #[.val (.int q0), .val (.int q1), .val (.int q2), .val (.int q3), .val (.int q4), .val (.int q5), .val (.int c0), .val (.int c1), .val (.int c2), .val (.int c3), .val (.int c4), .val (.int nn), .val (.ref r), .val (.int av0), .val (.int av1), .val (.int av2), .val (.int av3), .val (.int av4), .unset, .unset, .unset, .unset, .unset, .unset] [(.int ((dv0 + dv1) + dv2))]) G := fun tq kq => K671 tq (XS.ifNo X669.here hx rfl (hb hby at_257) rfl ((if0 _ _).trans (feq (by decide : ¬ ((1 : Int32) = (0 : Int32)))).1) kq)
        have K673 : Go p e below T669 (mkF m 261 #[.val (.int q0), .val (.int q1), .val (.int q2), .val (.int q3), .val (.int q4), .val (.int q5), .val (.int c0), .val (.int c1), .val (.int c2), .val (.int c3), .val (.int c4), .val (.int nn), .val (.ref r), .val (.int av0), .val (.int av1), .val (.int av2), .val (.int av3), .val (.int av4), .unset, .unset, .unset, .unset, .unset, .unset] [(.int (1 : Int32)), (.int ((dv0 + dv1) + dv2))]) G := fun tq kq => K672 tq (XS.iconst X669.here hx rfl (hb hby at_260) kq)
        have K674 : Go p e below T669 (mkF m 265 #[.val (.int q0), .val (.int q1), .val (.int q2), .val (.int q3), .val (.int q4), .val (.int q5), .val (.int c0), .val (.int c1), .val (.int c2), .val (.int c3), .val (.int c4), .val (.int nn), .val (.ref r), .val (.int av0), .val (.int av1), .val (.int av2), .val (.int av3), .val (.int av4), .unset, .unset, .unset, .unset, .unset, .unset] [(.int (1 : Int32)), (.int ((dv0 + dv1) + dv2))]) G := fun tq kq => K673 tq (XS.goto X669.here hx rfl (pc0 := 261) (pc' := 265) rfl (hb hby at_261) (by decide) (by decide) kq)
        obtain ⟨v675, _, ⟨T675, L675, k675, n675⟩, -, X675, ⟨Lc675, hQ675, l675, y675, z675⟩, st675⟩ := Jvm.LawKit.callS X669 hx (y := (⟨"com/example/tallyrule/tallyrule/DecimalsSignificantDigitsPinLaw", "one", "(Z)I"⟩ : MethodName)) hown (mvT hZ (hW 44 _ rfl)) (mvT hZ (hW 45 _ rfl)) (mvT hZ (hW 2 _ rfl)) (mvT hZ (hW 46 _ rfl)) (by decide) (backOf (W := 1) (rmONE l Z a0 hw [] (1 : Int32) T479.heap n0 (Nat.le_trans Z0 K479q.1)) hZ (hW 46 _ rfl) (hW 2 _ rfl) (by decide) (by decide)) (g := (mkF m 265 #[.val (.int q0), .val (.int q1), .val (.int q2), .val (.int q3), .val (.int q4), .val (.int q5), .val (.int c0), .val (.int c1), .val (.int c2), .val (.int c3), .val (.int c4), .val (.int nn), .val (.ref r), .val (.int av0), .val (.int av1), .val (.int av2), .val (.int av3), .val (.int av4), .unset, .unset, .unset, .unset, .unset, .unset] [(.int (1 : Int32)), (.int ((dv0 + dv1) + dv2))])) rfl (by rw [hml]; rfl) (argsL := [(.int (1 : Int32))]) (rest := [(.int ((dv0 + dv1) + dv2))]) (lenOf pd_275 rfl) rfl (by show 2 * 0 + _ ≤ _; exact Nat.le_of_eq rfl) (hb hby at_265) (fun _ _ => ⟨rfl, E669q, (by decide : 4 + 0 ≤ _), (by decide : 14 + 0 ≤ _)⟩)
        dsimp only [Pt.U, Pt.locs, Pt.cells, Pt.slots] at X675 l675 y675 z675 st675 hQ675
        subst l675 y675 z675
        rw [QONE, if_neg (by decide : ¬ ((1 : Int32) = 0))] at hQ675
        obtain ⟨rfl, N675q, E675q⟩ := hQ675
        have N675 := Fr.app N669 N675q
        have K676 : Go p e below T675 (mkF m 268 #[.val (.int q0), .val (.int q1), .val (.int q2), .val (.int q3), .val (.int q4), .val (.int q5), .val (.int c0), .val (.int c1), .val (.int c2), .val (.int c3), .val (.int c4), .val (.int nn), .val (.ref r), .val (.int av0), .val (.int av1), .val (.int av2), .val (.int av3), .val (.int av4), .unset, .unset, .unset, .unset, .unset, .unset] [(.int (1 : Int32)), (.int ((dv0 + dv1) + dv2))]) G := fun tq kq => K674 tq (st675 tq kq)
        refine ⟨T675, _, (1 : Int32), X675, E675q, N675, ?_, K676⟩
        exact (if_pos ⟨hc662, hc670⟩).symm
      · skip
        rw [QID, if_neg hc670] at hQ669
        obtain ⟨rfl, N669q, E669q⟩ := hQ669
        have N669 := Fr.app Nj637 N669q
        have K677 : Go p e below T669 (mkF m 257 #[.val (.int q0), .val (.int q1), .val (.int q2), .val (.int q3), .val (.int q4), .val (.int q5), .val (.int c0), .val (.int c1), .val (.int c2), .val (.int c3), .val (.int c4), .val (.int nn), .val (.ref r), .val (.int av0), .val (.int av1), .val (.int av2), .val (.int av3), .val (.int av4), .unset, .unset, .unset, .unset, .unset, .unset] [(.int (0 : Int32)), (.int ((dv0 + dv1) + dv2))]) G := fun tq kq => K668 tq (st669 tq kq)
        have K678 : Go p e below T669 (mkF m 264 #[.val (.int q0), .val (.int q1), .val (.int q2), .val (.int q3), .val (.int q4), .val (.int q5), .val (.int c0), .val (.int c1), .val (.int c2), .val (.int c3), .val (.int c4), .val (.int nn), .val (.ref r), .val (.int av0), .val (.int av1), .val (.int av2), .val (.int av3), .val (.int av4), .unset, .unset, .unset, .unset, .unset, .unset] [(.int ((dv0 + dv1) + dv2))]) G := fun tq kq => K677 tq (XS.ifYes X669.here hx rfl (pc0 := 257) (pc' := 264) rfl (hb hby at_257) rfl ((if0 _ _).trans (teq (by decide : (0 : Int32) = (0 : Int32))).1) (by decide) (by decide) kq)
        have K679 : Go p e below T669 (mkF m 265 #[.val (.int q0), .val (.int q1), .val (.int q2), .val (.int q3), .val (.int q4), .val (.int q5), .val (.int c0), .val (.int c1), .val (.int c2), .val (.int c3), .val (.int c4), .val (.int nn), .val (.ref r), .val (.int av0), .val (.int av1), .val (.int av2), .val (.int av3), .val (.int av4), .unset, .unset, .unset, .unset, .unset, .unset] [(.int (0 : Int32)), (.int ((dv0 + dv1) + dv2))]) G := fun tq kq => K678 tq (XS.iconst X669.here hx rfl (hb hby at_264) kq)
        obtain ⟨v680, _, ⟨T680, L680, k680, n680⟩, -, X680, ⟨Lc680, hQ680, l680, y680, z680⟩, st680⟩ := Jvm.LawKit.callS X669 hx (y := (⟨"com/example/tallyrule/tallyrule/DecimalsSignificantDigitsPinLaw", "one", "(Z)I"⟩ : MethodName)) hown (mvT hZ (hW 44 _ rfl)) (mvT hZ (hW 45 _ rfl)) (mvT hZ (hW 2 _ rfl)) (mvT hZ (hW 46 _ rfl)) (by decide) (backOf (W := 1) (rmONE l Z a0 hw [] (0 : Int32) T479.heap n0 (Nat.le_trans Z0 K479q.1)) hZ (hW 46 _ rfl) (hW 2 _ rfl) (by decide) (by decide)) (g := (mkF m 265 #[.val (.int q0), .val (.int q1), .val (.int q2), .val (.int q3), .val (.int q4), .val (.int q5), .val (.int c0), .val (.int c1), .val (.int c2), .val (.int c3), .val (.int c4), .val (.int nn), .val (.ref r), .val (.int av0), .val (.int av1), .val (.int av2), .val (.int av3), .val (.int av4), .unset, .unset, .unset, .unset, .unset, .unset] [(.int (0 : Int32)), (.int ((dv0 + dv1) + dv2))])) rfl (by rw [hml]; rfl) (argsL := [(.int (0 : Int32))]) (rest := [(.int ((dv0 + dv1) + dv2))]) (lenOf pd_275 rfl) rfl (by show 2 * 0 + _ ≤ _; exact Nat.le_of_eq rfl) (hb hby at_265) (fun _ _ => ⟨rfl, E669q, (by decide : 4 + 0 ≤ _), (by decide : 14 + 0 ≤ _)⟩)
        dsimp only [Pt.U, Pt.locs, Pt.cells, Pt.slots] at X680 l680 y680 z680 st680 hQ680
        subst l680 y680 z680
        rw [QONE, if_pos (rfl : (0 : Int32) = 0)] at hQ680
        obtain ⟨rfl, N680q, E680q⟩ := hQ680
        have N680 := Fr.app N669 N680q
        have K681 : Go p e below T680 (mkF m 268 #[.val (.int q0), .val (.int q1), .val (.int q2), .val (.int q3), .val (.int q4), .val (.int q5), .val (.int c0), .val (.int c1), .val (.int c2), .val (.int c3), .val (.int c4), .val (.int nn), .val (.ref r), .val (.int av0), .val (.int av1), .val (.int av2), .val (.int av3), .val (.int av4), .unset, .unset, .unset, .unset, .unset, .unset] [(.int (0 : Int32)), (.int ((dv0 + dv1) + dv2))]) G := fun tq kq => K679 tq (st680 tq kq)
        refine ⟨T680, _, (0 : Int32), X680, E680q, N680, ?_, K681⟩
        exact (if_neg (fun z => hc670 (z.2))).symm
  have h_dv3 := hj660
  have K682 : Go p e below Tj660 (mkF m 269 #[.val (.int q0), .val (.int q1), .val (.int q2), .val (.int q3), .val (.int q4), .val (.int q5), .val (.int c0), .val (.int c1), .val (.int c2), .val (.int c3), .val (.int c4), .val (.int nn), .val (.ref r), .val (.int av0), .val (.int av1), .val (.int av2), .val (.int av3), .val (.int av4), .unset, .unset, .unset, .unset, .unset, .unset] [(.int (((dv0 + dv1) + dv2) + dv3))]) G := fun tq kq => Kj660 tq (XS.iadd Xj660.here hx rfl (hb hby at_268) rfl kq)
  obtain ⟨Tj683, Lj683, dv4, Xj683, ej683, Nj683, hj683, Kj683⟩ : ∃ (Tj : State) (Lj : List Loc) (dv4 : Int32), Stand p l e room_1 (s.setVm T479.vm) m #[(.int q0), (.int q1), (.int q2), (.int q3), (.int q4), (.int q5)] below meth c Tj Lj 4 14 ∧ Tj.heap = T479.heap ∧ Fr n0 Lj ∧ (dv4 = own_d av4 c4) ∧ Go p e below Tj (mkF m 290 #[.val (.int q0), .val (.int q1), .val (.int q2), .val (.int q3), .val (.int q4), .val (.int q5), .val (.int c0), .val (.int c1), .val (.int c2), .val (.int c3), .val (.int c4), .val (.int nn), .val (.ref r), .val (.int av0), .val (.int av1), .val (.int av2), .val (.int av3), .val (.int av4), .unset, .unset, .unset, .unset, .unset, .unset] [(.int dv4), (.int (((dv0 + dv1) + dv2) + dv3))]) G := by
    have K684 : Go p e below Tj660 (mkF m 271 #[.val (.int q0), .val (.int q1), .val (.int q2), .val (.int q3), .val (.int q4), .val (.int q5), .val (.int c0), .val (.int c1), .val (.int c2), .val (.int c3), .val (.int c4), .val (.int nn), .val (.ref r), .val (.int av0), .val (.int av1), .val (.int av2), .val (.int av3), .val (.int av4), .unset, .unset, .unset, .unset, .unset, .unset] [(.int av4), (.int (((dv0 + dv1) + dv2) + dv3))]) G := fun tq kq => K682 tq (XS.iload Xj660.here hx rfl (hb hby at_269) rfl kq)
    by_cases hc685 : av4 = (0 : Int32)
    · skip
      have K686 : Go p e below Tj660 (mkF m 286 #[.val (.int q0), .val (.int q1), .val (.int q2), .val (.int q3), .val (.int q4), .val (.int q5), .val (.int c0), .val (.int c1), .val (.int c2), .val (.int c3), .val (.int c4), .val (.int nn), .val (.ref r), .val (.int av0), .val (.int av1), .val (.int av2), .val (.int av3), .val (.int av4), .unset, .unset, .unset, .unset, .unset, .unset] [(.int (((dv0 + dv1) + dv2) + dv3))]) G := fun tq kq => K684 tq (XS.ifYes Xj660.here hx rfl (pc0 := 271) (pc' := 286) rfl (hb hby at_271) rfl ((if0 _ _).trans (teq hc685).1) (by decide) (by decide) kq)
      have K687 : Go p e below Tj660 (mkF m 287 #[.val (.int q0), .val (.int q1), .val (.int q2), .val (.int q3), .val (.int q4), .val (.int q5), .val (.int c0), .val (.int c1), .val (.int c2), .val (.int c3), .val (.int c4), .val (.int nn), .val (.ref r), .val (.int av0), .val (.int av1), .val (.int av2), .val (.int av3), .val (.int av4), .unset, .unset, .unset, .unset, .unset, .unset] [(.int (0 : Int32)), (.int (((dv0 + dv1) + dv2) + dv3))]) G := fun tq kq => K686 tq (XS.iconst Xj660.here hx rfl (hb hby at_286) kq)
      obtain ⟨v688, _, ⟨T688, L688, k688, n688⟩, -, X688, ⟨Lc688, hQ688, l688, y688, z688⟩, st688⟩ := Jvm.LawKit.callS Xj660 hx (y := (⟨"com/example/tallyrule/tallyrule/DecimalsSignificantDigitsPinLaw", "one", "(Z)I"⟩ : MethodName)) hown (mvT hZ (hW 44 _ rfl)) (mvT hZ (hW 45 _ rfl)) (mvT hZ (hW 2 _ rfl)) (mvT hZ (hW 46 _ rfl)) (by decide) (backOf (W := 1) (rmONE l Z a0 hw [] (0 : Int32) T479.heap n0 (Nat.le_trans Z0 K479q.1)) hZ (hW 46 _ rfl) (hW 2 _ rfl) (by decide) (by decide)) (g := (mkF m 287 #[.val (.int q0), .val (.int q1), .val (.int q2), .val (.int q3), .val (.int q4), .val (.int q5), .val (.int c0), .val (.int c1), .val (.int c2), .val (.int c3), .val (.int c4), .val (.int nn), .val (.ref r), .val (.int av0), .val (.int av1), .val (.int av2), .val (.int av3), .val (.int av4), .unset, .unset, .unset, .unset, .unset, .unset] [(.int (0 : Int32)), (.int (((dv0 + dv1) + dv2) + dv3))])) rfl (by rw [hml]; rfl) (argsL := [(.int (0 : Int32))]) (rest := [(.int (((dv0 + dv1) + dv2) + dv3))]) (lenOf pd_275 rfl) rfl (by show 2 * 0 + _ ≤ _; exact Nat.le_of_eq rfl) (hb hby at_287) (fun _ _ => ⟨rfl, ej660, (by decide : 4 + 0 ≤ _), (by decide : 14 + 0 ≤ _)⟩)
      dsimp only [Pt.U, Pt.locs, Pt.cells, Pt.slots] at X688 l688 y688 z688 st688 hQ688
      subst l688 y688 z688
      rw [QONE, if_pos (rfl : (0 : Int32) = 0)] at hQ688
      obtain ⟨rfl, N688q, E688q⟩ := hQ688
      have N688 := Fr.app Nj660 N688q
      have K689 : Go p e below T688 (mkF m 290 #[.val (.int q0), .val (.int q1), .val (.int q2), .val (.int q3), .val (.int q4), .val (.int q5), .val (.int c0), .val (.int c1), .val (.int c2), .val (.int c3), .val (.int c4), .val (.int nn), .val (.ref r), .val (.int av0), .val (.int av1), .val (.int av2), .val (.int av3), .val (.int av4), .unset, .unset, .unset, .unset, .unset, .unset] [(.int (0 : Int32)), (.int (((dv0 + dv1) + dv2) + dv3))]) G := fun tq kq => K687 tq (st688 tq kq)
      refine ⟨T688, _, (0 : Int32), X688, E688q, N688, ?_, K689⟩
      exact (if_neg (fun z => z.1 hc685)).symm
    · skip
      have K690 : Go p e below Tj660 (mkF m 274 #[.val (.int q0), .val (.int q1), .val (.int q2), .val (.int q3), .val (.int q4), .val (.int q5), .val (.int c0), .val (.int c1), .val (.int c2), .val (.int c3), .val (.int c4), .val (.int nn), .val (.ref r), .val (.int av0), .val (.int av1), .val (.int av2), .val (.int av3), .val (.int av4), .unset, .unset, .unset, .unset, .unset, .unset] [(.int (((dv0 + dv1) + dv2) + dv3))]) G := fun tq kq => K684 tq (XS.ifNo Xj660.here hx rfl (hb hby at_271) rfl ((if0 _ _).trans (feq hc685).1) kq)
      have K691 : Go p e below Tj660 (mkF m 276 #[.val (.int q0), .val (.int q1), .val (.int q2), .val (.int q3), .val (.int q4), .val (.int q5), .val (.int c0), .val (.int c1), .val (.int c2), .val (.int c3), .val (.int c4), .val (.int nn), .val (.ref r), .val (.int av0), .val (.int av1), .val (.int av2), .val (.int av3), .val (.int av4), .unset, .unset, .unset, .unset, .unset, .unset] [(.int c4), (.int (((dv0 + dv1) + dv2) + dv3))]) G := fun tq kq => K690 tq (XS.iload Xj660.here hx rfl (hb hby at_274) rfl kq)
      obtain ⟨v692, _, ⟨T692, L692, k692, n692⟩, -, X692, ⟨Lc692, hQ692, l692, y692, z692⟩, st692⟩ := Jvm.LawKit.callS Xj660 hx (y := (⟨"com/example/tallyrule/tallyrule/DecimalsSignificantDigitsPinLaw", "isDigit", "(C)Z"⟩ : MethodName)) hown (mvT hZ (hW 41 _ rfl)) (mvT hZ (hW 42 _ rfl)) (mvT hZ (hW 2 _ rfl)) (mvT hZ (hW 43 _ rfl)) (by decide) (backOf (W := 1) (rmID l Z a0 hw [] c4 T479.heap n0 (Nat.le_trans Z0 K479q.1)) hZ (hW 43 _ rfl) (hW 2 _ rfl) (by decide) (by decide)) (g := (mkF m 276 #[.val (.int q0), .val (.int q1), .val (.int q2), .val (.int q3), .val (.int q4), .val (.int q5), .val (.int c0), .val (.int c1), .val (.int c2), .val (.int c3), .val (.int c4), .val (.int nn), .val (.ref r), .val (.int av0), .val (.int av1), .val (.int av2), .val (.int av3), .val (.int av4), .unset, .unset, .unset, .unset, .unset, .unset] [(.int c4), (.int (((dv0 + dv1) + dv2) + dv3))])) rfl (by rw [hml]; rfl) (argsL := [(.int c4)]) (rest := [(.int (((dv0 + dv1) + dv2) + dv3))]) (lenOf pd_274 rfl) rfl (by show 2 * 0 + _ ≤ _; exact Nat.le_of_eq rfl) (hb hby at_276) (fun _ _ => ⟨rfl, ej660, (by decide : 4 + 0 ≤ _), (by decide : 14 + 0 ≤ _)⟩)
      dsimp only [Pt.U, Pt.locs, Pt.cells, Pt.slots] at X692 l692 y692 z692 st692 hQ692
      subst l692 y692 z692
      by_cases hc693 : ¬ (c4 < (48 : Int32)) ∧ ¬ ((57 : Int32) < c4)
      · skip
        rw [QID, if_pos hc693] at hQ692
        obtain ⟨rfl, N692q, E692q⟩ := hQ692
        have N692 := Fr.app Nj660 N692q
        have K694 : Go p e below T692 (mkF m 279 #[.val (.int q0), .val (.int q1), .val (.int q2), .val (.int q3), .val (.int q4), .val (.int q5), .val (.int c0), .val (.int c1), .val (.int c2), .val (.int c3), .val (.int c4), .val (.int nn), .val (.ref r), .val (.int av0), .val (.int av1), .val (.int av2), .val (.int av3), .val (.int av4), .unset, .unset, .unset, .unset, .unset, .unset] [(.int (1 : Int32)), (.int (((dv0 + dv1) + dv2) + dv3))]) G := fun tq kq => K691 tq (st692 tq kq)
        have K695 : Go p e below T692 (mkF m 282 #[.val (.int q0), .val (.int q1), .val (.int q2), .val (.int q3), .val (.int q4), .val (.int q5), .val (.int c0), .val (.int c1), .val (.int c2), .val (.int c3), .val (.int c4), .val (.int nn), .val (.ref r), .val (.int av0), .val (.int av1), .val (.int av2), .val (.int av3), .val (.int av4), .unset, .unset, .unset, .unset, .unset, .unset] [(.int (((dv0 + dv1) + dv2) + dv3))]) G := fun tq kq => K694 tq (XS.ifNo X692.here hx rfl (hb hby at_279) rfl ((if0 _ _).trans (feq (by decide : ¬ ((1 : Int32) = (0 : Int32)))).1) kq)
        have K696 : Go p e below T692 (mkF m 283 #[.val (.int q0), .val (.int q1), .val (.int q2), .val (.int q3), .val (.int q4), .val (.int q5), .val (.int c0), .val (.int c1), .val (.int c2), .val (.int c3), .val (.int c4), .val (.int nn), .val (.ref r), .val (.int av0), .val (.int av1), .val (.int av2), .val (.int av3), .val (.int av4), .unset, .unset, .unset, .unset, .unset, .unset] [(.int (1 : Int32)), (.int (((dv0 + dv1) + dv2) + dv3))]) G := fun tq kq => K695 tq (XS.iconst X692.here hx rfl (hb hby at_282) kq)
        have K697 : Go p e below T692 (mkF m 287 #[.val (.int q0), .val (.int q1), .val (.int q2), .val (.int q3), .val (.int q4), .val (.int q5), .val (.int c0), .val (.int c1), .val (.int c2), .val (.int c3), .val (.int c4), .val (.int nn), .val (.ref r), .val (.int av0), .val (.int av1), .val (.int av2), .val (.int av3), .val (.int av4), .unset, .unset, .unset, .unset, .unset, .unset] [(.int (1 : Int32)), (.int (((dv0 + dv1) + dv2) + dv3))]) G := fun tq kq => K696 tq (XS.goto X692.here hx rfl (pc0 := 283) (pc' := 287) rfl (hb hby at_283) (by decide) (by decide) kq)
        obtain ⟨v698, _, ⟨T698, L698, k698, n698⟩, -, X698, ⟨Lc698, hQ698, l698, y698, z698⟩, st698⟩ := Jvm.LawKit.callS X692 hx (y := (⟨"com/example/tallyrule/tallyrule/DecimalsSignificantDigitsPinLaw", "one", "(Z)I"⟩ : MethodName)) hown (mvT hZ (hW 44 _ rfl)) (mvT hZ (hW 45 _ rfl)) (mvT hZ (hW 2 _ rfl)) (mvT hZ (hW 46 _ rfl)) (by decide) (backOf (W := 1) (rmONE l Z a0 hw [] (1 : Int32) T479.heap n0 (Nat.le_trans Z0 K479q.1)) hZ (hW 46 _ rfl) (hW 2 _ rfl) (by decide) (by decide)) (g := (mkF m 287 #[.val (.int q0), .val (.int q1), .val (.int q2), .val (.int q3), .val (.int q4), .val (.int q5), .val (.int c0), .val (.int c1), .val (.int c2), .val (.int c3), .val (.int c4), .val (.int nn), .val (.ref r), .val (.int av0), .val (.int av1), .val (.int av2), .val (.int av3), .val (.int av4), .unset, .unset, .unset, .unset, .unset, .unset] [(.int (1 : Int32)), (.int (((dv0 + dv1) + dv2) + dv3))])) rfl (by rw [hml]; rfl) (argsL := [(.int (1 : Int32))]) (rest := [(.int (((dv0 + dv1) + dv2) + dv3))]) (lenOf pd_275 rfl) rfl (by show 2 * 0 + _ ≤ _; exact Nat.le_of_eq rfl) (hb hby at_287) (fun _ _ => ⟨rfl, E692q, (by decide : 4 + 0 ≤ _), (by decide : 14 + 0 ≤ _)⟩)
        dsimp only [Pt.U, Pt.locs, Pt.cells, Pt.slots] at X698 l698 y698 z698 st698 hQ698
        subst l698 y698 z698
        rw [QONE, if_neg (by decide : ¬ ((1 : Int32) = 0))] at hQ698
        obtain ⟨rfl, N698q, E698q⟩ := hQ698
        have N698 := Fr.app N692 N698q
        have K699 : Go p e below T698 (mkF m 290 #[.val (.int q0), .val (.int q1), .val (.int q2), .val (.int q3), .val (.int q4), .val (.int q5), .val (.int c0), .val (.int c1), .val (.int c2), .val (.int c3), .val (.int c4), .val (.int nn), .val (.ref r), .val (.int av0), .val (.int av1), .val (.int av2), .val (.int av3), .val (.int av4), .unset, .unset, .unset, .unset, .unset, .unset] [(.int (1 : Int32)), (.int (((dv0 + dv1) + dv2) + dv3))]) G := fun tq kq => K697 tq (st698 tq kq)
        refine ⟨T698, _, (1 : Int32), X698, E698q, N698, ?_, K699⟩
        exact (if_pos ⟨hc685, hc693⟩).symm
      · skip
        rw [QID, if_neg hc693] at hQ692
        obtain ⟨rfl, N692q, E692q⟩ := hQ692
        have N692 := Fr.app Nj660 N692q
        have K700 : Go p e below T692 (mkF m 279 #[.val (.int q0), .val (.int q1), .val (.int q2), .val (.int q3), .val (.int q4), .val (.int q5), .val (.int c0), .val (.int c1), .val (.int c2), .val (.int c3), .val (.int c4), .val (.int nn), .val (.ref r), .val (.int av0), .val (.int av1), .val (.int av2), .val (.int av3), .val (.int av4), .unset, .unset, .unset, .unset, .unset, .unset] [(.int (0 : Int32)), (.int (((dv0 + dv1) + dv2) + dv3))]) G := fun tq kq => K691 tq (st692 tq kq)
        have K701 : Go p e below T692 (mkF m 286 #[.val (.int q0), .val (.int q1), .val (.int q2), .val (.int q3), .val (.int q4), .val (.int q5), .val (.int c0), .val (.int c1), .val (.int c2), .val (.int c3), .val (.int c4), .val (.int nn), .val (.ref r), .val (.int av0), .val (.int av1), .val (.int av2), .val (.int av3), .val (.int av4), .unset, .unset, .unset, .unset, .unset, .unset] [(.int (((dv0 + dv1) + dv2) + dv3))]) G := fun tq kq => K700 tq (XS.ifYes X692.here hx rfl (pc0 := 279) (pc' := 286) rfl (hb hby at_279) rfl ((if0 _ _).trans (teq (by decide : (0 : Int32) = (0 : Int32))).1) (by decide) (by decide) kq)
        have K702 : Go p e below T692 (mkF m 287 #[.val (.int q0), .val (.int q1), .val (.int q2), .val (.int q3), .val (.int q4), .val (.int q5), .val (.int c0), .val (.int c1), .val (.int c2), .val (.int c3), .val (.int c4), .val (.int nn), .val (.ref r), .val (.int av0), .val (.int av1), .val (.int av2), .val (.int av3), .val (.int av4), .unset, .unset, .unset, .unset, .unset, .unset] [(.int (0 : Int32)), (.int (((dv0 + dv1) + dv2) + dv3))]) G := fun tq kq => K701 tq (XS.iconst X692.here hx rfl (hb hby at_286) kq)
        obtain ⟨v703, _, ⟨T703, L703, k703, n703⟩, -, X703, ⟨Lc703, hQ703, l703, y703, z703⟩, st703⟩ := Jvm.LawKit.callS X692 hx (y := (⟨"com/example/tallyrule/tallyrule/DecimalsSignificantDigitsPinLaw", "one", "(Z)I"⟩ : MethodName)) hown (mvT hZ (hW 44 _ rfl)) (mvT hZ (hW 45 _ rfl)) (mvT hZ (hW 2 _ rfl)) (mvT hZ (hW 46 _ rfl)) (by decide) (backOf (W := 1) (rmONE l Z a0 hw [] (0 : Int32) T479.heap n0 (Nat.le_trans Z0 K479q.1)) hZ (hW 46 _ rfl) (hW 2 _ rfl) (by decide) (by decide)) (g := (mkF m 287 #[.val (.int q0), .val (.int q1), .val (.int q2), .val (.int q3), .val (.int q4), .val (.int q5), .val (.int c0), .val (.int c1), .val (.int c2), .val (.int c3), .val (.int c4), .val (.int nn), .val (.ref r), .val (.int av0), .val (.int av1), .val (.int av2), .val (.int av3), .val (.int av4), .unset, .unset, .unset, .unset, .unset, .unset] [(.int (0 : Int32)), (.int (((dv0 + dv1) + dv2) + dv3))])) rfl (by rw [hml]; rfl) (argsL := [(.int (0 : Int32))]) (rest := [(.int (((dv0 + dv1) + dv2) + dv3))]) (lenOf pd_275 rfl) rfl (by show 2 * 0 + _ ≤ _; exact Nat.le_of_eq rfl) (hb hby at_287) (fun _ _ => ⟨rfl, E692q, (by decide : 4 + 0 ≤ _), (by decide : 14 + 0 ≤ _)⟩)
        dsimp only [Pt.U, Pt.locs, Pt.cells, Pt.slots] at X703 l703 y703 z703 st703 hQ703
        subst l703 y703 z703
        rw [QONE, if_pos (rfl : (0 : Int32) = 0)] at hQ703
        obtain ⟨rfl, N703q, E703q⟩ := hQ703
        have N703 := Fr.app N692 N703q
        have K704 : Go p e below T703 (mkF m 290 #[.val (.int q0), .val (.int q1), .val (.int q2), .val (.int q3), .val (.int q4), .val (.int q5), .val (.int c0), .val (.int c1), .val (.int c2), .val (.int c3), .val (.int c4), .val (.int nn), .val (.ref r), .val (.int av0), .val (.int av1), .val (.int av2), .val (.int av3), .val (.int av4), .unset, .unset, .unset, .unset, .unset, .unset] [(.int (0 : Int32)), (.int (((dv0 + dv1) + dv2) + dv3))]) G := fun tq kq => K702 tq (st703 tq kq)
        refine ⟨T703, _, (0 : Int32), X703, E703q, N703, ?_, K704⟩
        exact (if_neg (fun z => hc693 (z.2))).symm
  have h_dv4 := hj683
  have K705 : Go p e below Tj683 (mkF m 291 #[.val (.int q0), .val (.int q1), .val (.int q2), .val (.int q3), .val (.int q4), .val (.int q5), .val (.int c0), .val (.int c1), .val (.int c2), .val (.int c3), .val (.int c4), .val (.int nn), .val (.ref r), .val (.int av0), .val (.int av1), .val (.int av2), .val (.int av3), .val (.int av4), .unset, .unset, .unset, .unset, .unset, .unset] [(.int ((((dv0 + dv1) + dv2) + dv3) + dv4))]) G := fun tq kq => Kj683 tq (XS.iadd Xj683.here hx rfl (hb hby at_290) rfl kq)
  have K706 : Go p e below Tj683 (mkF m 293 #[.val (.int q0), .val (.int q1), .val (.int q2), .val (.int q3), .val (.int q4), .val (.int q5), .val (.int c0), .val (.int c1), .val (.int c2), .val (.int c3), .val (.int c4), .val (.int nn), .val (.ref r), .val (.int av0), .val (.int av1), .val (.int av2), .val (.int av3), .val (.int av4), .val (.int ((((dv0 + dv1) + dv2) + dv3) + dv4)), .unset, .unset, .unset, .unset, .unset] []) G := fun tq kq => K705 tq (XS.istore Xj683.here hx rfl (hb hby at_291) rfl (l' := #[.val (.int q0), .val (.int q1), .val (.int q2), .val (.int q3), .val (.int q4), .val (.int q5), .val (.int c0), .val (.int c1), .val (.int c2), .val (.int c3), .val (.int c4), .val (.int nn), .val (.ref r), .val (.int av0), .val (.int av1), .val (.int av2), .val (.int av3), .val (.int av4), .val (.int ((((dv0 + dv1) + dv2) + dv3) + dv4)), .unset, .unset, .unset, .unset, .unset]) rfl kq)
  obtain ⟨Tj707, Lj707, sv1, Xj707, ej707, Nj707, hj707, Kj707⟩ : ∃ (Tj : State) (Lj : List Loc) (sv1 : Int32), Stand p l e room_1 (s.setVm T479.vm) m #[(.int q0), (.int q1), (.int q2), (.int q3), (.int q4), (.int q5)] below meth c Tj Lj 4 14 ∧ Tj.heap = T479.heap ∧ Fr n0 Lj ∧ (sv1 = own_s1 av0 c0) ∧ Go p e below Tj (mkF m 311 #[.val (.int q0), .val (.int q1), .val (.int q2), .val (.int q3), .val (.int q4), .val (.int q5), .val (.int c0), .val (.int c1), .val (.int c2), .val (.int c3), .val (.int c4), .val (.int nn), .val (.ref r), .val (.int av0), .val (.int av1), .val (.int av2), .val (.int av3), .val (.int av4), .val (.int ((((dv0 + dv1) + dv2) + dv3) + dv4)), .unset, .unset, .unset, .unset, .unset] [(.int sv1)]) G := by
    have K708 : Go p e below Tj683 (mkF m 295 #[.val (.int q0), .val (.int q1), .val (.int q2), .val (.int q3), .val (.int q4), .val (.int q5), .val (.int c0), .val (.int c1), .val (.int c2), .val (.int c3), .val (.int c4), .val (.int nn), .val (.ref r), .val (.int av0), .val (.int av1), .val (.int av2), .val (.int av3), .val (.int av4), .val (.int ((((dv0 + dv1) + dv2) + dv3) + dv4)), .unset, .unset, .unset, .unset, .unset] [(.int av0)]) G := fun tq kq => K706 tq (XS.iload Xj683.here hx rfl (hb hby at_293) rfl kq)
    by_cases hc709 : av0 = (0 : Int32)
    · skip
      have K710 : Go p e below Tj683 (mkF m 310 #[.val (.int q0), .val (.int q1), .val (.int q2), .val (.int q3), .val (.int q4), .val (.int q5), .val (.int c0), .val (.int c1), .val (.int c2), .val (.int c3), .val (.int c4), .val (.int nn), .val (.ref r), .val (.int av0), .val (.int av1), .val (.int av2), .val (.int av3), .val (.int av4), .val (.int ((((dv0 + dv1) + dv2) + dv3) + dv4)), .unset, .unset, .unset, .unset, .unset] []) G := fun tq kq => K708 tq (XS.ifYes Xj683.here hx rfl (pc0 := 295) (pc' := 310) rfl (hb hby at_295) rfl ((if0 _ _).trans (teq hc709).1) (by decide) (by decide) kq)
      have K711 : Go p e below Tj683 (mkF m 311 #[.val (.int q0), .val (.int q1), .val (.int q2), .val (.int q3), .val (.int q4), .val (.int q5), .val (.int c0), .val (.int c1), .val (.int c2), .val (.int c3), .val (.int c4), .val (.int nn), .val (.ref r), .val (.int av0), .val (.int av1), .val (.int av2), .val (.int av3), .val (.int av4), .val (.int ((((dv0 + dv1) + dv2) + dv3) + dv4)), .unset, .unset, .unset, .unset, .unset] [(.int (0 : Int32))]) G := fun tq kq => K710 tq (XS.iconst Xj683.here hx rfl (hb hby at_310) kq)
      refine ⟨Tj683, _, (0 : Int32), Xj683, ej683, Nj683, ?_, K711⟩
      exact (if_neg (fun z => z.1 hc709)).symm
    · skip
      have K712 : Go p e below Tj683 (mkF m 298 #[.val (.int q0), .val (.int q1), .val (.int q2), .val (.int q3), .val (.int q4), .val (.int q5), .val (.int c0), .val (.int c1), .val (.int c2), .val (.int c3), .val (.int c4), .val (.int nn), .val (.ref r), .val (.int av0), .val (.int av1), .val (.int av2), .val (.int av3), .val (.int av4), .val (.int ((((dv0 + dv1) + dv2) + dv3) + dv4)), .unset, .unset, .unset, .unset, .unset] []) G := fun tq kq => K708 tq (XS.ifNo Xj683.here hx rfl (hb hby at_295) rfl ((if0 _ _).trans (feq hc709).1) kq)
      have K713 : Go p e below Tj683 (mkF m 300 #[.val (.int q0), .val (.int q1), .val (.int q2), .val (.int q3), .val (.int q4), .val (.int q5), .val (.int c0), .val (.int c1), .val (.int c2), .val (.int c3), .val (.int c4), .val (.int nn), .val (.ref r), .val (.int av0), .val (.int av1), .val (.int av2), .val (.int av3), .val (.int av4), .val (.int ((((dv0 + dv1) + dv2) + dv3) + dv4)), .unset, .unset, .unset, .unset, .unset] [(.int c0)]) G := fun tq kq => K712 tq (XS.iload Xj683.here hx rfl (hb hby at_298) rfl kq)
      obtain ⟨v714, _, ⟨T714, L714, k714, n714⟩, -, X714, ⟨Lc714, hQ714, l714, y714, z714⟩, st714⟩ := Jvm.LawKit.callS Xj683 hx (y := (⟨"com/example/tallyrule/tallyrule/DecimalsSignificantDigitsPinLaw", "isNz", "(C)Z"⟩ : MethodName)) hown (mvT hZ (hW 47 _ rfl)) (mvT hZ (hW 48 _ rfl)) (mvT hZ (hW 2 _ rfl)) (mvT hZ (hW 49 _ rfl)) (by decide) (backOf (W := 0) (rmNZ l Z a0 hw [] c0 T479.heap n0 (Nat.le_trans Z0 K479q.1)) hZ (hW 49 _ rfl) (hW 2 _ rfl) (by decide) (by decide)) (g := (mkF m 300 #[.val (.int q0), .val (.int q1), .val (.int q2), .val (.int q3), .val (.int q4), .val (.int q5), .val (.int c0), .val (.int c1), .val (.int c2), .val (.int c3), .val (.int c4), .val (.int nn), .val (.ref r), .val (.int av0), .val (.int av1), .val (.int av2), .val (.int av3), .val (.int av4), .val (.int ((((dv0 + dv1) + dv2) + dv3) + dv4)), .unset, .unset, .unset, .unset, .unset] [(.int c0)])) rfl (by rw [hml]; rfl) (argsL := [(.int c0)]) (rest := []) (lenOf pd_274 rfl) rfl (by show 2 * 0 + _ ≤ _; exact Nat.le_of_eq rfl) (hb hby at_300) (fun _ _ => ⟨rfl, ej683, (by decide : 4 + 0 ≤ _), (by decide : 14 + 0 ≤ _)⟩)
      dsimp only [Pt.U, Pt.locs, Pt.cells, Pt.slots] at X714 l714 y714 z714 st714 hQ714
      subst l714 y714 z714
      by_cases hc715 : ¬ (c0 < (49 : Int32)) ∧ ¬ ((57 : Int32) < c0)
      · skip
        rw [QNZ, if_pos hc715] at hQ714
        obtain ⟨rfl, N714q, E714q⟩ := hQ714
        have N714 := Fr.app Nj683 N714q
        have K716 : Go p e below T714 (mkF m 303 #[.val (.int q0), .val (.int q1), .val (.int q2), .val (.int q3), .val (.int q4), .val (.int q5), .val (.int c0), .val (.int c1), .val (.int c2), .val (.int c3), .val (.int c4), .val (.int nn), .val (.ref r), .val (.int av0), .val (.int av1), .val (.int av2), .val (.int av3), .val (.int av4), .val (.int ((((dv0 + dv1) + dv2) + dv3) + dv4)), .unset, .unset, .unset, .unset, .unset] [(.int (1 : Int32))]) G := fun tq kq => K713 tq (st714 tq kq)
        have K717 : Go p e below T714 (mkF m 306 #[.val (.int q0), .val (.int q1), .val (.int q2), .val (.int q3), .val (.int q4), .val (.int q5), .val (.int c0), .val (.int c1), .val (.int c2), .val (.int c3), .val (.int c4), .val (.int nn), .val (.ref r), .val (.int av0), .val (.int av1), .val (.int av2), .val (.int av3), .val (.int av4), .val (.int ((((dv0 + dv1) + dv2) + dv3) + dv4)), .unset, .unset, .unset, .unset, .unset] []) G := fun tq kq => K716 tq (XS.ifNo X714.here hx rfl (hb hby at_303) rfl ((if0 _ _).trans (feq (by decide : ¬ ((1 : Int32) = (0 : Int32)))).1) kq)
        have K718 : Go p e below T714 (mkF m 307 #[.val (.int q0), .val (.int q1), .val (.int q2), .val (.int q3), .val (.int q4), .val (.int q5), .val (.int c0), .val (.int c1), .val (.int c2), .val (.int c3), .val (.int c4), .val (.int nn), .val (.ref r), .val (.int av0), .val (.int av1), .val (.int av2), .val (.int av3), .val (.int av4), .val (.int ((((dv0 + dv1) + dv2) + dv3) + dv4)), .unset, .unset, .unset, .unset, .unset] [(.int (1 : Int32))]) G := fun tq kq => K717 tq (XS.iconst X714.here hx rfl (hb hby at_306) kq)
        have K719 : Go p e below T714 (mkF m 311 #[.val (.int q0), .val (.int q1), .val (.int q2), .val (.int q3), .val (.int q4), .val (.int q5), .val (.int c0), .val (.int c1), .val (.int c2), .val (.int c3), .val (.int c4), .val (.int nn), .val (.ref r), .val (.int av0), .val (.int av1), .val (.int av2), .val (.int av3), .val (.int av4), .val (.int ((((dv0 + dv1) + dv2) + dv3) + dv4)), .unset, .unset, .unset, .unset, .unset] [(.int (1 : Int32))]) G := fun tq kq => K718 tq (XS.goto X714.here hx rfl (pc0 := 307) (pc' := 311) rfl (hb hby at_307) (by decide) (by decide) kq)
        refine ⟨T714, _, (1 : Int32), X714, E714q, N714, ?_, K719⟩
        exact (if_pos ⟨hc709, hc715⟩).symm
      · skip
        rw [QNZ, if_neg hc715] at hQ714
        obtain ⟨rfl, N714q, E714q⟩ := hQ714
        have N714 := Fr.app Nj683 N714q
        have K720 : Go p e below T714 (mkF m 303 #[.val (.int q0), .val (.int q1), .val (.int q2), .val (.int q3), .val (.int q4), .val (.int q5), .val (.int c0), .val (.int c1), .val (.int c2), .val (.int c3), .val (.int c4), .val (.int nn), .val (.ref r), .val (.int av0), .val (.int av1), .val (.int av2), .val (.int av3), .val (.int av4), .val (.int ((((dv0 + dv1) + dv2) + dv3) + dv4)), .unset, .unset, .unset, .unset, .unset] [(.int (0 : Int32))]) G := fun tq kq => K713 tq (st714 tq kq)
        have K721 : Go p e below T714 (mkF m 310 #[.val (.int q0), .val (.int q1), .val (.int q2), .val (.int q3), .val (.int q4), .val (.int q5), .val (.int c0), .val (.int c1), .val (.int c2), .val (.int c3), .val (.int c4), .val (.int nn), .val (.ref r), .val (.int av0), .val (.int av1), .val (.int av2), .val (.int av3), .val (.int av4), .val (.int ((((dv0 + dv1) + dv2) + dv3) + dv4)), .unset, .unset, .unset, .unset, .unset] []) G := fun tq kq => K720 tq (XS.ifYes X714.here hx rfl (pc0 := 303) (pc' := 310) rfl (hb hby at_303) rfl ((if0 _ _).trans (teq (by decide : (0 : Int32) = (0 : Int32))).1) (by decide) (by decide) kq)
        have K722 : Go p e below T714 (mkF m 311 #[.val (.int q0), .val (.int q1), .val (.int q2), .val (.int q3), .val (.int q4), .val (.int q5), .val (.int c0), .val (.int c1), .val (.int c2), .val (.int c3), .val (.int c4), .val (.int nn), .val (.ref r), .val (.int av0), .val (.int av1), .val (.int av2), .val (.int av3), .val (.int av4), .val (.int ((((dv0 + dv1) + dv2) + dv3) + dv4)), .unset, .unset, .unset, .unset, .unset] [(.int (0 : Int32))]) G := fun tq kq => K721 tq (XS.iconst X714.here hx rfl (hb hby at_310) kq)
        refine ⟨T714, _, (0 : Int32), X714, E714q, N714, ?_, K722⟩
        exact (if_neg (fun z => hc715 (z.2))).symm
  have h_sv1 := hj707
  have K723 : Go p e below Tj707 (mkF m 313 #[.val (.int q0), .val (.int q1), .val (.int q2), .val (.int q3), .val (.int q4), .val (.int q5), .val (.int c0), .val (.int c1), .val (.int c2), .val (.int c3), .val (.int c4), .val (.int nn), .val (.ref r), .val (.int av0), .val (.int av1), .val (.int av2), .val (.int av3), .val (.int av4), .val (.int ((((dv0 + dv1) + dv2) + dv3) + dv4)), .val (.int sv1), .unset, .unset, .unset, .unset] []) G := fun tq kq => Kj707 tq (XS.istore Xj707.here hx rfl (hb hby at_311) rfl (l' := #[.val (.int q0), .val (.int q1), .val (.int q2), .val (.int q3), .val (.int q4), .val (.int q5), .val (.int c0), .val (.int c1), .val (.int c2), .val (.int c3), .val (.int c4), .val (.int nn), .val (.ref r), .val (.int av0), .val (.int av1), .val (.int av2), .val (.int av3), .val (.int av4), .val (.int ((((dv0 + dv1) + dv2) + dv3) + dv4)), .val (.int sv1), .unset, .unset, .unset, .unset]) rfl kq)
  obtain ⟨Tj724, Lj724, sv2, Xj724, ej724, Nj724, hj724, Kj724⟩ : ∃ (Tj : State) (Lj : List Loc) (sv2 : Int32), Stand p l e room_1 (s.setVm T479.vm) m #[(.int q0), (.int q1), (.int q2), (.int q3), (.int q4), (.int q5)] below meth c Tj Lj 4 14 ∧ Tj.heap = T479.heap ∧ Fr n0 Lj ∧ (sv2 = own_s sv1 av1 c1) ∧ Go p e below Tj (mkF m 336 #[.val (.int q0), .val (.int q1), .val (.int q2), .val (.int q3), .val (.int q4), .val (.int q5), .val (.int c0), .val (.int c1), .val (.int c2), .val (.int c3), .val (.int c4), .val (.int nn), .val (.ref r), .val (.int av0), .val (.int av1), .val (.int av2), .val (.int av3), .val (.int av4), .val (.int ((((dv0 + dv1) + dv2) + dv3) + dv4)), .val (.int sv1), .unset, .unset, .unset, .unset] [(.int sv2)]) G := by
    have K725 : Go p e below Tj707 (mkF m 315 #[.val (.int q0), .val (.int q1), .val (.int q2), .val (.int q3), .val (.int q4), .val (.int q5), .val (.int c0), .val (.int c1), .val (.int c2), .val (.int c3), .val (.int c4), .val (.int nn), .val (.ref r), .val (.int av0), .val (.int av1), .val (.int av2), .val (.int av3), .val (.int av4), .val (.int ((((dv0 + dv1) + dv2) + dv3) + dv4)), .val (.int sv1), .unset, .unset, .unset, .unset] [(.int sv1)]) G := fun tq kq => K723 tq (XS.iload Xj707.here hx rfl (hb hby at_313) rfl kq)
    by_cases hc726 : sv1 = (0 : Int32)
    · skip
      have K727 : Go p e below Tj707 (mkF m 318 #[.val (.int q0), .val (.int q1), .val (.int q2), .val (.int q3), .val (.int q4), .val (.int q5), .val (.int c0), .val (.int c1), .val (.int c2), .val (.int c3), .val (.int c4), .val (.int nn), .val (.ref r), .val (.int av0), .val (.int av1), .val (.int av2), .val (.int av3), .val (.int av4), .val (.int ((((dv0 + dv1) + dv2) + dv3) + dv4)), .val (.int sv1), .unset, .unset, .unset, .unset] []) G := fun tq kq => K725 tq (XS.ifNo Xj707.here hx rfl (hb hby at_315) rfl ((if0 _ _).trans (teq hc726).2) kq)
      have K728 : Go p e below Tj707 (mkF m 320 #[.val (.int q0), .val (.int q1), .val (.int q2), .val (.int q3), .val (.int q4), .val (.int q5), .val (.int c0), .val (.int c1), .val (.int c2), .val (.int c3), .val (.int c4), .val (.int nn), .val (.ref r), .val (.int av0), .val (.int av1), .val (.int av2), .val (.int av3), .val (.int av4), .val (.int ((((dv0 + dv1) + dv2) + dv3) + dv4)), .val (.int sv1), .unset, .unset, .unset, .unset] [(.int av1)]) G := fun tq kq => K727 tq (XS.iload Xj707.here hx rfl (hb hby at_318) rfl kq)
      by_cases hc729 : av1 = (0 : Int32)
      · skip
        have K730 : Go p e below Tj707 (mkF m 335 #[.val (.int q0), .val (.int q1), .val (.int q2), .val (.int q3), .val (.int q4), .val (.int q5), .val (.int c0), .val (.int c1), .val (.int c2), .val (.int c3), .val (.int c4), .val (.int nn), .val (.ref r), .val (.int av0), .val (.int av1), .val (.int av2), .val (.int av3), .val (.int av4), .val (.int ((((dv0 + dv1) + dv2) + dv3) + dv4)), .val (.int sv1), .unset, .unset, .unset, .unset] []) G := fun tq kq => K728 tq (XS.ifYes Xj707.here hx rfl (pc0 := 320) (pc' := 335) rfl (hb hby at_320) rfl ((if0 _ _).trans (teq hc729).1) (by decide) (by decide) kq)
        have K731 : Go p e below Tj707 (mkF m 336 #[.val (.int q0), .val (.int q1), .val (.int q2), .val (.int q3), .val (.int q4), .val (.int q5), .val (.int c0), .val (.int c1), .val (.int c2), .val (.int c3), .val (.int c4), .val (.int nn), .val (.ref r), .val (.int av0), .val (.int av1), .val (.int av2), .val (.int av3), .val (.int av4), .val (.int ((((dv0 + dv1) + dv2) + dv3) + dv4)), .val (.int sv1), .unset, .unset, .unset, .unset] [(.int (0 : Int32))]) G := fun tq kq => K730 tq (XS.iconst Xj707.here hx rfl (hb hby at_335) kq)
        refine ⟨Tj707, _, (0 : Int32), Xj707, ej707, Nj707, ?_, K731⟩
        exact (if_neg (fun w => w.elim (fun q => q hc726) (fun z => z.1 hc729))).symm
      · skip
        have K732 : Go p e below Tj707 (mkF m 323 #[.val (.int q0), .val (.int q1), .val (.int q2), .val (.int q3), .val (.int q4), .val (.int q5), .val (.int c0), .val (.int c1), .val (.int c2), .val (.int c3), .val (.int c4), .val (.int nn), .val (.ref r), .val (.int av0), .val (.int av1), .val (.int av2), .val (.int av3), .val (.int av4), .val (.int ((((dv0 + dv1) + dv2) + dv3) + dv4)), .val (.int sv1), .unset, .unset, .unset, .unset] []) G := fun tq kq => K728 tq (XS.ifNo Xj707.here hx rfl (hb hby at_320) rfl ((if0 _ _).trans (feq hc729).1) kq)
        have K733 : Go p e below Tj707 (mkF m 325 #[.val (.int q0), .val (.int q1), .val (.int q2), .val (.int q3), .val (.int q4), .val (.int q5), .val (.int c0), .val (.int c1), .val (.int c2), .val (.int c3), .val (.int c4), .val (.int nn), .val (.ref r), .val (.int av0), .val (.int av1), .val (.int av2), .val (.int av3), .val (.int av4), .val (.int ((((dv0 + dv1) + dv2) + dv3) + dv4)), .val (.int sv1), .unset, .unset, .unset, .unset] [(.int c1)]) G := fun tq kq => K732 tq (XS.iload Xj707.here hx rfl (hb hby at_323) rfl kq)
        obtain ⟨v734, _, ⟨T734, L734, k734, n734⟩, -, X734, ⟨Lc734, hQ734, l734, y734, z734⟩, st734⟩ := Jvm.LawKit.callS Xj707 hx (y := (⟨"com/example/tallyrule/tallyrule/DecimalsSignificantDigitsPinLaw", "isNz", "(C)Z"⟩ : MethodName)) hown (mvT hZ (hW 47 _ rfl)) (mvT hZ (hW 48 _ rfl)) (mvT hZ (hW 2 _ rfl)) (mvT hZ (hW 49 _ rfl)) (by decide) (backOf (W := 0) (rmNZ l Z a0 hw [] c1 T479.heap n0 (Nat.le_trans Z0 K479q.1)) hZ (hW 49 _ rfl) (hW 2 _ rfl) (by decide) (by decide)) (g := (mkF m 325 #[.val (.int q0), .val (.int q1), .val (.int q2), .val (.int q3), .val (.int q4), .val (.int q5), .val (.int c0), .val (.int c1), .val (.int c2), .val (.int c3), .val (.int c4), .val (.int nn), .val (.ref r), .val (.int av0), .val (.int av1), .val (.int av2), .val (.int av3), .val (.int av4), .val (.int ((((dv0 + dv1) + dv2) + dv3) + dv4)), .val (.int sv1), .unset, .unset, .unset, .unset] [(.int c1)])) rfl (by rw [hml]; rfl) (argsL := [(.int c1)]) (rest := []) (lenOf pd_274 rfl) rfl (by show 2 * 0 + _ ≤ _; exact Nat.le_of_eq rfl) (hb hby at_325) (fun _ _ => ⟨rfl, ej707, (by decide : 4 + 0 ≤ _), (by decide : 14 + 0 ≤ _)⟩)
        dsimp only [Pt.U, Pt.locs, Pt.cells, Pt.slots] at X734 l734 y734 z734 st734 hQ734
        subst l734 y734 z734
        by_cases hc735 : ¬ (c1 < (49 : Int32)) ∧ ¬ ((57 : Int32) < c1)
        · skip
          rw [QNZ, if_pos hc735] at hQ734
          obtain ⟨rfl, N734q, E734q⟩ := hQ734
          have N734 := Fr.app Nj707 N734q
          have K736 : Go p e below T734 (mkF m 328 #[.val (.int q0), .val (.int q1), .val (.int q2), .val (.int q3), .val (.int q4), .val (.int q5), .val (.int c0), .val (.int c1), .val (.int c2), .val (.int c3), .val (.int c4), .val (.int nn), .val (.ref r), .val (.int av0), .val (.int av1), .val (.int av2), .val (.int av3), .val (.int av4), .val (.int ((((dv0 + dv1) + dv2) + dv3) + dv4)), .val (.int sv1), .unset, .unset, .unset, .unset] [(.int (1 : Int32))]) G := fun tq kq => K733 tq (st734 tq kq)
          have K737 : Go p e below T734 (mkF m 331 #[.val (.int q0), .val (.int q1), .val (.int q2), .val (.int q3), .val (.int q4), .val (.int q5), .val (.int c0), .val (.int c1), .val (.int c2), .val (.int c3), .val (.int c4), .val (.int nn), .val (.ref r), .val (.int av0), .val (.int av1), .val (.int av2), .val (.int av3), .val (.int av4), .val (.int ((((dv0 + dv1) + dv2) + dv3) + dv4)), .val (.int sv1), .unset, .unset, .unset, .unset] []) G := fun tq kq => K736 tq (XS.ifNo X734.here hx rfl (hb hby at_328) rfl ((if0 _ _).trans (feq (by decide : ¬ ((1 : Int32) = (0 : Int32)))).1) kq)
          have K738 : Go p e below T734 (mkF m 332 #[.val (.int q0), .val (.int q1), .val (.int q2), .val (.int q3), .val (.int q4), .val (.int q5), .val (.int c0), .val (.int c1), .val (.int c2), .val (.int c3), .val (.int c4), .val (.int nn), .val (.ref r), .val (.int av0), .val (.int av1), .val (.int av2), .val (.int av3), .val (.int av4), .val (.int ((((dv0 + dv1) + dv2) + dv3) + dv4)), .val (.int sv1), .unset, .unset, .unset, .unset] [(.int (1 : Int32))]) G := fun tq kq => K737 tq (XS.iconst X734.here hx rfl (hb hby at_331) kq)
          have K739 : Go p e below T734 (mkF m 336 #[.val (.int q0), .val (.int q1), .val (.int q2), .val (.int q3), .val (.int q4), .val (.int q5), .val (.int c0), .val (.int c1), .val (.int c2), .val (.int c3), .val (.int c4), .val (.int nn), .val (.ref r), .val (.int av0), .val (.int av1), .val (.int av2), .val (.int av3), .val (.int av4), .val (.int ((((dv0 + dv1) + dv2) + dv3) + dv4)), .val (.int sv1), .unset, .unset, .unset, .unset] [(.int (1 : Int32))]) G := fun tq kq => K738 tq (XS.goto X734.here hx rfl (pc0 := 332) (pc' := 336) rfl (hb hby at_332) (by decide) (by decide) kq)
          refine ⟨T734, _, (1 : Int32), X734, E734q, N734, ?_, K739⟩
          exact (if_pos (Or.inr ⟨hc729, hc735⟩)).symm
        · skip
          rw [QNZ, if_neg hc735] at hQ734
          obtain ⟨rfl, N734q, E734q⟩ := hQ734
          have N734 := Fr.app Nj707 N734q
          have K740 : Go p e below T734 (mkF m 328 #[.val (.int q0), .val (.int q1), .val (.int q2), .val (.int q3), .val (.int q4), .val (.int q5), .val (.int c0), .val (.int c1), .val (.int c2), .val (.int c3), .val (.int c4), .val (.int nn), .val (.ref r), .val (.int av0), .val (.int av1), .val (.int av2), .val (.int av3), .val (.int av4), .val (.int ((((dv0 + dv1) + dv2) + dv3) + dv4)), .val (.int sv1), .unset, .unset, .unset, .unset] [(.int (0 : Int32))]) G := fun tq kq => K733 tq (st734 tq kq)
          have K741 : Go p e below T734 (mkF m 335 #[.val (.int q0), .val (.int q1), .val (.int q2), .val (.int q3), .val (.int q4), .val (.int q5), .val (.int c0), .val (.int c1), .val (.int c2), .val (.int c3), .val (.int c4), .val (.int nn), .val (.ref r), .val (.int av0), .val (.int av1), .val (.int av2), .val (.int av3), .val (.int av4), .val (.int ((((dv0 + dv1) + dv2) + dv3) + dv4)), .val (.int sv1), .unset, .unset, .unset, .unset] []) G := fun tq kq => K740 tq (XS.ifYes X734.here hx rfl (pc0 := 328) (pc' := 335) rfl (hb hby at_328) rfl ((if0 _ _).trans (teq (by decide : (0 : Int32) = (0 : Int32))).1) (by decide) (by decide) kq)
          have K742 : Go p e below T734 (mkF m 336 #[.val (.int q0), .val (.int q1), .val (.int q2), .val (.int q3), .val (.int q4), .val (.int q5), .val (.int c0), .val (.int c1), .val (.int c2), .val (.int c3), .val (.int c4), .val (.int nn), .val (.ref r), .val (.int av0), .val (.int av1), .val (.int av2), .val (.int av3), .val (.int av4), .val (.int ((((dv0 + dv1) + dv2) + dv3) + dv4)), .val (.int sv1), .unset, .unset, .unset, .unset] [(.int (0 : Int32))]) G := fun tq kq => K741 tq (XS.iconst X734.here hx rfl (hb hby at_335) kq)
          refine ⟨T734, _, (0 : Int32), X734, E734q, N734, ?_, K742⟩
          exact (if_neg (fun w => w.elim (fun q => q hc726) (fun z => hc735 (z.2)))).symm
    · skip
      have K743 : Go p e below Tj707 (mkF m 331 #[.val (.int q0), .val (.int q1), .val (.int q2), .val (.int q3), .val (.int q4), .val (.int q5), .val (.int c0), .val (.int c1), .val (.int c2), .val (.int c3), .val (.int c4), .val (.int nn), .val (.ref r), .val (.int av0), .val (.int av1), .val (.int av2), .val (.int av3), .val (.int av4), .val (.int ((((dv0 + dv1) + dv2) + dv3) + dv4)), .val (.int sv1), .unset, .unset, .unset, .unset] []) G := fun tq kq => K725 tq (XS.ifYes Xj707.here hx rfl (pc0 := 315) (pc' := 331) rfl (hb hby at_315) rfl ((if0 _ _).trans (feq hc726).2) (by decide) (by decide) kq)
      have K744 : Go p e below Tj707 (mkF m 332 #[.val (.int q0), .val (.int q1), .val (.int q2), .val (.int q3), .val (.int q4), .val (.int q5), .val (.int c0), .val (.int c1), .val (.int c2), .val (.int c3), .val (.int c4), .val (.int nn), .val (.ref r), .val (.int av0), .val (.int av1), .val (.int av2), .val (.int av3), .val (.int av4), .val (.int ((((dv0 + dv1) + dv2) + dv3) + dv4)), .val (.int sv1), .unset, .unset, .unset, .unset] [(.int (1 : Int32))]) G := fun tq kq => K743 tq (XS.iconst Xj707.here hx rfl (hb hby at_331) kq)
      have K745 : Go p e below Tj707 (mkF m 336 #[.val (.int q0), .val (.int q1), .val (.int q2), .val (.int q3), .val (.int q4), .val (.int q5), .val (.int c0), .val (.int c1), .val (.int c2), .val (.int c3), .val (.int c4), .val (.int nn), .val (.ref r), .val (.int av0), .val (.int av1), .val (.int av2), .val (.int av3), .val (.int av4), .val (.int ((((dv0 + dv1) + dv2) + dv3) + dv4)), .val (.int sv1), .unset, .unset, .unset, .unset] [(.int (1 : Int32))]) G := fun tq kq => K744 tq (XS.goto Xj707.here hx rfl (pc0 := 332) (pc' := 336) rfl (hb hby at_332) (by decide) (by decide) kq)
      refine ⟨Tj707, _, (1 : Int32), Xj707, ej707, Nj707, ?_, K745⟩
      exact (if_pos (Or.inl hc726)).symm
  have h_sv2 := hj724
  have K746 : Go p e below Tj724 (mkF m 338 #[.val (.int q0), .val (.int q1), .val (.int q2), .val (.int q3), .val (.int q4), .val (.int q5), .val (.int c0), .val (.int c1), .val (.int c2), .val (.int c3), .val (.int c4), .val (.int nn), .val (.ref r), .val (.int av0), .val (.int av1), .val (.int av2), .val (.int av3), .val (.int av4), .val (.int ((((dv0 + dv1) + dv2) + dv3) + dv4)), .val (.int sv1), .val (.int sv2), .unset, .unset, .unset] []) G := fun tq kq => Kj724 tq (XS.istore Xj724.here hx rfl (hb hby at_336) rfl (l' := #[.val (.int q0), .val (.int q1), .val (.int q2), .val (.int q3), .val (.int q4), .val (.int q5), .val (.int c0), .val (.int c1), .val (.int c2), .val (.int c3), .val (.int c4), .val (.int nn), .val (.ref r), .val (.int av0), .val (.int av1), .val (.int av2), .val (.int av3), .val (.int av4), .val (.int ((((dv0 + dv1) + dv2) + dv3) + dv4)), .val (.int sv1), .val (.int sv2), .unset, .unset, .unset]) rfl kq)
  obtain ⟨Tj747, Lj747, sv3, Xj747, ej747, Nj747, hj747, Kj747⟩ : ∃ (Tj : State) (Lj : List Loc) (sv3 : Int32), Stand p l e room_1 (s.setVm T479.vm) m #[(.int q0), (.int q1), (.int q2), (.int q3), (.int q4), (.int q5)] below meth c Tj Lj 4 14 ∧ Tj.heap = T479.heap ∧ Fr n0 Lj ∧ (sv3 = own_s sv2 av2 c2) ∧ Go p e below Tj (mkF m 361 #[.val (.int q0), .val (.int q1), .val (.int q2), .val (.int q3), .val (.int q4), .val (.int q5), .val (.int c0), .val (.int c1), .val (.int c2), .val (.int c3), .val (.int c4), .val (.int nn), .val (.ref r), .val (.int av0), .val (.int av1), .val (.int av2), .val (.int av3), .val (.int av4), .val (.int ((((dv0 + dv1) + dv2) + dv3) + dv4)), .val (.int sv1), .val (.int sv2), .unset, .unset, .unset] [(.int sv3)]) G := by
    have K748 : Go p e below Tj724 (mkF m 340 #[.val (.int q0), .val (.int q1), .val (.int q2), .val (.int q3), .val (.int q4), .val (.int q5), .val (.int c0), .val (.int c1), .val (.int c2), .val (.int c3), .val (.int c4), .val (.int nn), .val (.ref r), .val (.int av0), .val (.int av1), .val (.int av2), .val (.int av3), .val (.int av4), .val (.int ((((dv0 + dv1) + dv2) + dv3) + dv4)), .val (.int sv1), .val (.int sv2), .unset, .unset, .unset] [(.int sv2)]) G := fun tq kq => K746 tq (XS.iload Xj724.here hx rfl (hb hby at_338) rfl kq)
    by_cases hc749 : sv2 = (0 : Int32)
    · skip
      have K750 : Go p e below Tj724 (mkF m 343 #[.val (.int q0), .val (.int q1), .val (.int q2), .val (.int q3), .val (.int q4), .val (.int q5), .val (.int c0), .val (.int c1), .val (.int c2), .val (.int c3), .val (.int c4), .val (.int nn), .val (.ref r), .val (.int av0), .val (.int av1), .val (.int av2), .val (.int av3), .val (.int av4), .val (.int ((((dv0 + dv1) + dv2) + dv3) + dv4)), .val (.int sv1), .val (.int sv2), .unset, .unset, .unset] []) G := fun tq kq => K748 tq (XS.ifNo Xj724.here hx rfl (hb hby at_340) rfl ((if0 _ _).trans (teq hc749).2) kq)
      have K751 : Go p e below Tj724 (mkF m 345 #[.val (.int q0), .val (.int q1), .val (.int q2), .val (.int q3), .val (.int q4), .val (.int q5), .val (.int c0), .val (.int c1), .val (.int c2), .val (.int c3), .val (.int c4), .val (.int nn), .val (.ref r), .val (.int av0), .val (.int av1), .val (.int av2), .val (.int av3), .val (.int av4), .val (.int ((((dv0 + dv1) + dv2) + dv3) + dv4)), .val (.int sv1), .val (.int sv2), .unset, .unset, .unset] [(.int av2)]) G := fun tq kq => K750 tq (XS.iload Xj724.here hx rfl (hb hby at_343) rfl kq)
      by_cases hc752 : av2 = (0 : Int32)
      · skip
        have K753 : Go p e below Tj724 (mkF m 360 #[.val (.int q0), .val (.int q1), .val (.int q2), .val (.int q3), .val (.int q4), .val (.int q5), .val (.int c0), .val (.int c1), .val (.int c2), .val (.int c3), .val (.int c4), .val (.int nn), .val (.ref r), .val (.int av0), .val (.int av1), .val (.int av2), .val (.int av3), .val (.int av4), .val (.int ((((dv0 + dv1) + dv2) + dv3) + dv4)), .val (.int sv1), .val (.int sv2), .unset, .unset, .unset] []) G := fun tq kq => K751 tq (XS.ifYes Xj724.here hx rfl (pc0 := 345) (pc' := 360) rfl (hb hby at_345) rfl ((if0 _ _).trans (teq hc752).1) (by decide) (by decide) kq)
        have K754 : Go p e below Tj724 (mkF m 361 #[.val (.int q0), .val (.int q1), .val (.int q2), .val (.int q3), .val (.int q4), .val (.int q5), .val (.int c0), .val (.int c1), .val (.int c2), .val (.int c3), .val (.int c4), .val (.int nn), .val (.ref r), .val (.int av0), .val (.int av1), .val (.int av2), .val (.int av3), .val (.int av4), .val (.int ((((dv0 + dv1) + dv2) + dv3) + dv4)), .val (.int sv1), .val (.int sv2), .unset, .unset, .unset] [(.int (0 : Int32))]) G := fun tq kq => K753 tq (XS.iconst Xj724.here hx rfl (hb hby at_360) kq)
        refine ⟨Tj724, _, (0 : Int32), Xj724, ej724, Nj724, ?_, K754⟩
        exact (if_neg (fun w => w.elim (fun q => q hc749) (fun z => z.1 hc752))).symm
      · skip
        have K755 : Go p e below Tj724 (mkF m 348 #[.val (.int q0), .val (.int q1), .val (.int q2), .val (.int q3), .val (.int q4), .val (.int q5), .val (.int c0), .val (.int c1), .val (.int c2), .val (.int c3), .val (.int c4), .val (.int nn), .val (.ref r), .val (.int av0), .val (.int av1), .val (.int av2), .val (.int av3), .val (.int av4), .val (.int ((((dv0 + dv1) + dv2) + dv3) + dv4)), .val (.int sv1), .val (.int sv2), .unset, .unset, .unset] []) G := fun tq kq => K751 tq (XS.ifNo Xj724.here hx rfl (hb hby at_345) rfl ((if0 _ _).trans (feq hc752).1) kq)
        have K756 : Go p e below Tj724 (mkF m 350 #[.val (.int q0), .val (.int q1), .val (.int q2), .val (.int q3), .val (.int q4), .val (.int q5), .val (.int c0), .val (.int c1), .val (.int c2), .val (.int c3), .val (.int c4), .val (.int nn), .val (.ref r), .val (.int av0), .val (.int av1), .val (.int av2), .val (.int av3), .val (.int av4), .val (.int ((((dv0 + dv1) + dv2) + dv3) + dv4)), .val (.int sv1), .val (.int sv2), .unset, .unset, .unset] [(.int c2)]) G := fun tq kq => K755 tq (XS.iload Xj724.here hx rfl (hb hby at_348) rfl kq)
        obtain ⟨v757, _, ⟨T757, L757, k757, n757⟩, -, X757, ⟨Lc757, hQ757, l757, y757, z757⟩, st757⟩ := Jvm.LawKit.callS Xj724 hx (y := (⟨"com/example/tallyrule/tallyrule/DecimalsSignificantDigitsPinLaw", "isNz", "(C)Z"⟩ : MethodName)) hown (mvT hZ (hW 47 _ rfl)) (mvT hZ (hW 48 _ rfl)) (mvT hZ (hW 2 _ rfl)) (mvT hZ (hW 49 _ rfl)) (by decide) (backOf (W := 0) (rmNZ l Z a0 hw [] c2 T479.heap n0 (Nat.le_trans Z0 K479q.1)) hZ (hW 49 _ rfl) (hW 2 _ rfl) (by decide) (by decide)) (g := (mkF m 350 #[.val (.int q0), .val (.int q1), .val (.int q2), .val (.int q3), .val (.int q4), .val (.int q5), .val (.int c0), .val (.int c1), .val (.int c2), .val (.int c3), .val (.int c4), .val (.int nn), .val (.ref r), .val (.int av0), .val (.int av1), .val (.int av2), .val (.int av3), .val (.int av4), .val (.int ((((dv0 + dv1) + dv2) + dv3) + dv4)), .val (.int sv1), .val (.int sv2), .unset, .unset, .unset] [(.int c2)])) rfl (by rw [hml]; rfl) (argsL := [(.int c2)]) (rest := []) (lenOf pd_274 rfl) rfl (by show 2 * 0 + _ ≤ _; exact Nat.le_of_eq rfl) (hb hby at_350) (fun _ _ => ⟨rfl, ej724, (by decide : 4 + 0 ≤ _), (by decide : 14 + 0 ≤ _)⟩)
        dsimp only [Pt.U, Pt.locs, Pt.cells, Pt.slots] at X757 l757 y757 z757 st757 hQ757
        subst l757 y757 z757
        by_cases hc758 : ¬ (c2 < (49 : Int32)) ∧ ¬ ((57 : Int32) < c2)
        · skip
          rw [QNZ, if_pos hc758] at hQ757
          obtain ⟨rfl, N757q, E757q⟩ := hQ757
          have N757 := Fr.app Nj724 N757q
          have K759 : Go p e below T757 (mkF m 353 #[.val (.int q0), .val (.int q1), .val (.int q2), .val (.int q3), .val (.int q4), .val (.int q5), .val (.int c0), .val (.int c1), .val (.int c2), .val (.int c3), .val (.int c4), .val (.int nn), .val (.ref r), .val (.int av0), .val (.int av1), .val (.int av2), .val (.int av3), .val (.int av4), .val (.int ((((dv0 + dv1) + dv2) + dv3) + dv4)), .val (.int sv1), .val (.int sv2), .unset, .unset, .unset] [(.int (1 : Int32))]) G := fun tq kq => K756 tq (st757 tq kq)
          have K760 : Go p e below T757 (mkF m 356 #[.val (.int q0), .val (.int q1), .val (.int q2), .val (.int q3), .val (.int q4), .val (.int q5), .val (.int c0), .val (.int c1), .val (.int c2), .val (.int c3), .val (.int c4), .val (.int nn), .val (.ref r), .val (.int av0), .val (.int av1), .val (.int av2), .val (.int av3), .val (.int av4), .val (.int ((((dv0 + dv1) + dv2) + dv3) + dv4)), .val (.int sv1), .val (.int sv2), .unset, .unset, .unset] []) G := fun tq kq => K759 tq (XS.ifNo X757.here hx rfl (hb hby at_353) rfl ((if0 _ _).trans (feq (by decide : ¬ ((1 : Int32) = (0 : Int32)))).1) kq)
          have K761 : Go p e below T757 (mkF m 357 #[.val (.int q0), .val (.int q1), .val (.int q2), .val (.int q3), .val (.int q4), .val (.int q5), .val (.int c0), .val (.int c1), .val (.int c2), .val (.int c3), .val (.int c4), .val (.int nn), .val (.ref r), .val (.int av0), .val (.int av1), .val (.int av2), .val (.int av3), .val (.int av4), .val (.int ((((dv0 + dv1) + dv2) + dv3) + dv4)), .val (.int sv1), .val (.int sv2), .unset, .unset, .unset] [(.int (1 : Int32))]) G := fun tq kq => K760 tq (XS.iconst X757.here hx rfl (hb hby at_356) kq)
          have K762 : Go p e below T757 (mkF m 361 #[.val (.int q0), .val (.int q1), .val (.int q2), .val (.int q3), .val (.int q4), .val (.int q5), .val (.int c0), .val (.int c1), .val (.int c2), .val (.int c3), .val (.int c4), .val (.int nn), .val (.ref r), .val (.int av0), .val (.int av1), .val (.int av2), .val (.int av3), .val (.int av4), .val (.int ((((dv0 + dv1) + dv2) + dv3) + dv4)), .val (.int sv1), .val (.int sv2), .unset, .unset, .unset] [(.int (1 : Int32))]) G := fun tq kq => K761 tq (XS.goto X757.here hx rfl (pc0 := 357) (pc' := 361) rfl (hb hby at_357) (by decide) (by decide) kq)
          refine ⟨T757, _, (1 : Int32), X757, E757q, N757, ?_, K762⟩
          exact (if_pos (Or.inr ⟨hc752, hc758⟩)).symm
        · skip
          rw [QNZ, if_neg hc758] at hQ757
          obtain ⟨rfl, N757q, E757q⟩ := hQ757
          have N757 := Fr.app Nj724 N757q
          have K763 : Go p e below T757 (mkF m 353 #[.val (.int q0), .val (.int q1), .val (.int q2), .val (.int q3), .val (.int q4), .val (.int q5), .val (.int c0), .val (.int c1), .val (.int c2), .val (.int c3), .val (.int c4), .val (.int nn), .val (.ref r), .val (.int av0), .val (.int av1), .val (.int av2), .val (.int av3), .val (.int av4), .val (.int ((((dv0 + dv1) + dv2) + dv3) + dv4)), .val (.int sv1), .val (.int sv2), .unset, .unset, .unset] [(.int (0 : Int32))]) G := fun tq kq => K756 tq (st757 tq kq)
          have K764 : Go p e below T757 (mkF m 360 #[.val (.int q0), .val (.int q1), .val (.int q2), .val (.int q3), .val (.int q4), .val (.int q5), .val (.int c0), .val (.int c1), .val (.int c2), .val (.int c3), .val (.int c4), .val (.int nn), .val (.ref r), .val (.int av0), .val (.int av1), .val (.int av2), .val (.int av3), .val (.int av4), .val (.int ((((dv0 + dv1) + dv2) + dv3) + dv4)), .val (.int sv1), .val (.int sv2), .unset, .unset, .unset] []) G := fun tq kq => K763 tq (XS.ifYes X757.here hx rfl (pc0 := 353) (pc' := 360) rfl (hb hby at_353) rfl ((if0 _ _).trans (teq (by decide : (0 : Int32) = (0 : Int32))).1) (by decide) (by decide) kq)
          have K765 : Go p e below T757 (mkF m 361 #[.val (.int q0), .val (.int q1), .val (.int q2), .val (.int q3), .val (.int q4), .val (.int q5), .val (.int c0), .val (.int c1), .val (.int c2), .val (.int c3), .val (.int c4), .val (.int nn), .val (.ref r), .val (.int av0), .val (.int av1), .val (.int av2), .val (.int av3), .val (.int av4), .val (.int ((((dv0 + dv1) + dv2) + dv3) + dv4)), .val (.int sv1), .val (.int sv2), .unset, .unset, .unset] [(.int (0 : Int32))]) G := fun tq kq => K764 tq (XS.iconst X757.here hx rfl (hb hby at_360) kq)
          refine ⟨T757, _, (0 : Int32), X757, E757q, N757, ?_, K765⟩
          exact (if_neg (fun w => w.elim (fun q => q hc749) (fun z => hc758 (z.2)))).symm
    · skip
      have K766 : Go p e below Tj724 (mkF m 356 #[.val (.int q0), .val (.int q1), .val (.int q2), .val (.int q3), .val (.int q4), .val (.int q5), .val (.int c0), .val (.int c1), .val (.int c2), .val (.int c3), .val (.int c4), .val (.int nn), .val (.ref r), .val (.int av0), .val (.int av1), .val (.int av2), .val (.int av3), .val (.int av4), .val (.int ((((dv0 + dv1) + dv2) + dv3) + dv4)), .val (.int sv1), .val (.int sv2), .unset, .unset, .unset] []) G := fun tq kq => K748 tq (XS.ifYes Xj724.here hx rfl (pc0 := 340) (pc' := 356) rfl (hb hby at_340) rfl ((if0 _ _).trans (feq hc749).2) (by decide) (by decide) kq)
      have K767 : Go p e below Tj724 (mkF m 357 #[.val (.int q0), .val (.int q1), .val (.int q2), .val (.int q3), .val (.int q4), .val (.int q5), .val (.int c0), .val (.int c1), .val (.int c2), .val (.int c3), .val (.int c4), .val (.int nn), .val (.ref r), .val (.int av0), .val (.int av1), .val (.int av2), .val (.int av3), .val (.int av4), .val (.int ((((dv0 + dv1) + dv2) + dv3) + dv4)), .val (.int sv1), .val (.int sv2), .unset, .unset, .unset] [(.int (1 : Int32))]) G := fun tq kq => K766 tq (XS.iconst Xj724.here hx rfl (hb hby at_356) kq)
      have K768 : Go p e below Tj724 (mkF m 361 #[.val (.int q0), .val (.int q1), .val (.int q2), .val (.int q3), .val (.int q4), .val (.int q5), .val (.int c0), .val (.int c1), .val (.int c2), .val (.int c3), .val (.int c4), .val (.int nn), .val (.ref r), .val (.int av0), .val (.int av1), .val (.int av2), .val (.int av3), .val (.int av4), .val (.int ((((dv0 + dv1) + dv2) + dv3) + dv4)), .val (.int sv1), .val (.int sv2), .unset, .unset, .unset] [(.int (1 : Int32))]) G := fun tq kq => K767 tq (XS.goto Xj724.here hx rfl (pc0 := 357) (pc' := 361) rfl (hb hby at_357) (by decide) (by decide) kq)
      refine ⟨Tj724, _, (1 : Int32), Xj724, ej724, Nj724, ?_, K768⟩
      exact (if_pos (Or.inl hc749)).symm
  have h_sv3 := hj747
  have K769 : Go p e below Tj747 (mkF m 363 #[.val (.int q0), .val (.int q1), .val (.int q2), .val (.int q3), .val (.int q4), .val (.int q5), .val (.int c0), .val (.int c1), .val (.int c2), .val (.int c3), .val (.int c4), .val (.int nn), .val (.ref r), .val (.int av0), .val (.int av1), .val (.int av2), .val (.int av3), .val (.int av4), .val (.int ((((dv0 + dv1) + dv2) + dv3) + dv4)), .val (.int sv1), .val (.int sv2), .val (.int sv3), .unset, .unset] []) G := fun tq kq => Kj747 tq (XS.istore Xj747.here hx rfl (hb hby at_361) rfl (l' := #[.val (.int q0), .val (.int q1), .val (.int q2), .val (.int q3), .val (.int q4), .val (.int q5), .val (.int c0), .val (.int c1), .val (.int c2), .val (.int c3), .val (.int c4), .val (.int nn), .val (.ref r), .val (.int av0), .val (.int av1), .val (.int av2), .val (.int av3), .val (.int av4), .val (.int ((((dv0 + dv1) + dv2) + dv3) + dv4)), .val (.int sv1), .val (.int sv2), .val (.int sv3), .unset, .unset]) rfl kq)
  obtain ⟨Tj770, Lj770, sv4, Xj770, ej770, Nj770, hj770, Kj770⟩ : ∃ (Tj : State) (Lj : List Loc) (sv4 : Int32), Stand p l e room_1 (s.setVm T479.vm) m #[(.int q0), (.int q1), (.int q2), (.int q3), (.int q4), (.int q5)] below meth c Tj Lj 4 14 ∧ Tj.heap = T479.heap ∧ Fr n0 Lj ∧ (sv4 = own_s sv3 av3 c3) ∧ Go p e below Tj (mkF m 386 #[.val (.int q0), .val (.int q1), .val (.int q2), .val (.int q3), .val (.int q4), .val (.int q5), .val (.int c0), .val (.int c1), .val (.int c2), .val (.int c3), .val (.int c4), .val (.int nn), .val (.ref r), .val (.int av0), .val (.int av1), .val (.int av2), .val (.int av3), .val (.int av4), .val (.int ((((dv0 + dv1) + dv2) + dv3) + dv4)), .val (.int sv1), .val (.int sv2), .val (.int sv3), .unset, .unset] [(.int sv4)]) G := by
    have K771 : Go p e below Tj747 (mkF m 365 #[.val (.int q0), .val (.int q1), .val (.int q2), .val (.int q3), .val (.int q4), .val (.int q5), .val (.int c0), .val (.int c1), .val (.int c2), .val (.int c3), .val (.int c4), .val (.int nn), .val (.ref r), .val (.int av0), .val (.int av1), .val (.int av2), .val (.int av3), .val (.int av4), .val (.int ((((dv0 + dv1) + dv2) + dv3) + dv4)), .val (.int sv1), .val (.int sv2), .val (.int sv3), .unset, .unset] [(.int sv3)]) G := fun tq kq => K769 tq (XS.iload Xj747.here hx rfl (hb hby at_363) rfl kq)
    by_cases hc772 : sv3 = (0 : Int32)
    · skip
      have K773 : Go p e below Tj747 (mkF m 368 #[.val (.int q0), .val (.int q1), .val (.int q2), .val (.int q3), .val (.int q4), .val (.int q5), .val (.int c0), .val (.int c1), .val (.int c2), .val (.int c3), .val (.int c4), .val (.int nn), .val (.ref r), .val (.int av0), .val (.int av1), .val (.int av2), .val (.int av3), .val (.int av4), .val (.int ((((dv0 + dv1) + dv2) + dv3) + dv4)), .val (.int sv1), .val (.int sv2), .val (.int sv3), .unset, .unset] []) G := fun tq kq => K771 tq (XS.ifNo Xj747.here hx rfl (hb hby at_365) rfl ((if0 _ _).trans (teq hc772).2) kq)
      have K774 : Go p e below Tj747 (mkF m 370 #[.val (.int q0), .val (.int q1), .val (.int q2), .val (.int q3), .val (.int q4), .val (.int q5), .val (.int c0), .val (.int c1), .val (.int c2), .val (.int c3), .val (.int c4), .val (.int nn), .val (.ref r), .val (.int av0), .val (.int av1), .val (.int av2), .val (.int av3), .val (.int av4), .val (.int ((((dv0 + dv1) + dv2) + dv3) + dv4)), .val (.int sv1), .val (.int sv2), .val (.int sv3), .unset, .unset] [(.int av3)]) G := fun tq kq => K773 tq (XS.iload Xj747.here hx rfl (hb hby at_368) rfl kq)
      by_cases hc775 : av3 = (0 : Int32)
      · skip
        have K776 : Go p e below Tj747 (mkF m 385 #[.val (.int q0), .val (.int q1), .val (.int q2), .val (.int q3), .val (.int q4), .val (.int q5), .val (.int c0), .val (.int c1), .val (.int c2), .val (.int c3), .val (.int c4), .val (.int nn), .val (.ref r), .val (.int av0), .val (.int av1), .val (.int av2), .val (.int av3), .val (.int av4), .val (.int ((((dv0 + dv1) + dv2) + dv3) + dv4)), .val (.int sv1), .val (.int sv2), .val (.int sv3), .unset, .unset] []) G := fun tq kq => K774 tq (XS.ifYes Xj747.here hx rfl (pc0 := 370) (pc' := 385) rfl (hb hby at_370) rfl ((if0 _ _).trans (teq hc775).1) (by decide) (by decide) kq)
        have K777 : Go p e below Tj747 (mkF m 386 #[.val (.int q0), .val (.int q1), .val (.int q2), .val (.int q3), .val (.int q4), .val (.int q5), .val (.int c0), .val (.int c1), .val (.int c2), .val (.int c3), .val (.int c4), .val (.int nn), .val (.ref r), .val (.int av0), .val (.int av1), .val (.int av2), .val (.int av3), .val (.int av4), .val (.int ((((dv0 + dv1) + dv2) + dv3) + dv4)), .val (.int sv1), .val (.int sv2), .val (.int sv3), .unset, .unset] [(.int (0 : Int32))]) G := fun tq kq => K776 tq (XS.iconst Xj747.here hx rfl (hb hby at_385) kq)
        refine ⟨Tj747, _, (0 : Int32), Xj747, ej747, Nj747, ?_, K777⟩
        exact (if_neg (fun w => w.elim (fun q => q hc772) (fun z => z.1 hc775))).symm
      · skip
        have K778 : Go p e below Tj747 (mkF m 373 #[.val (.int q0), .val (.int q1), .val (.int q2), .val (.int q3), .val (.int q4), .val (.int q5), .val (.int c0), .val (.int c1), .val (.int c2), .val (.int c3), .val (.int c4), .val (.int nn), .val (.ref r), .val (.int av0), .val (.int av1), .val (.int av2), .val (.int av3), .val (.int av4), .val (.int ((((dv0 + dv1) + dv2) + dv3) + dv4)), .val (.int sv1), .val (.int sv2), .val (.int sv3), .unset, .unset] []) G := fun tq kq => K774 tq (XS.ifNo Xj747.here hx rfl (hb hby at_370) rfl ((if0 _ _).trans (feq hc775).1) kq)
        have K779 : Go p e below Tj747 (mkF m 375 #[.val (.int q0), .val (.int q1), .val (.int q2), .val (.int q3), .val (.int q4), .val (.int q5), .val (.int c0), .val (.int c1), .val (.int c2), .val (.int c3), .val (.int c4), .val (.int nn), .val (.ref r), .val (.int av0), .val (.int av1), .val (.int av2), .val (.int av3), .val (.int av4), .val (.int ((((dv0 + dv1) + dv2) + dv3) + dv4)), .val (.int sv1), .val (.int sv2), .val (.int sv3), .unset, .unset] [(.int c3)]) G := fun tq kq => K778 tq (XS.iload Xj747.here hx rfl (hb hby at_373) rfl kq)
        obtain ⟨v780, _, ⟨T780, L780, k780, n780⟩, -, X780, ⟨Lc780, hQ780, l780, y780, z780⟩, st780⟩ := Jvm.LawKit.callS Xj747 hx (y := (⟨"com/example/tallyrule/tallyrule/DecimalsSignificantDigitsPinLaw", "isNz", "(C)Z"⟩ : MethodName)) hown (mvT hZ (hW 47 _ rfl)) (mvT hZ (hW 48 _ rfl)) (mvT hZ (hW 2 _ rfl)) (mvT hZ (hW 49 _ rfl)) (by decide) (backOf (W := 0) (rmNZ l Z a0 hw [] c3 T479.heap n0 (Nat.le_trans Z0 K479q.1)) hZ (hW 49 _ rfl) (hW 2 _ rfl) (by decide) (by decide)) (g := (mkF m 375 #[.val (.int q0), .val (.int q1), .val (.int q2), .val (.int q3), .val (.int q4), .val (.int q5), .val (.int c0), .val (.int c1), .val (.int c2), .val (.int c3), .val (.int c4), .val (.int nn), .val (.ref r), .val (.int av0), .val (.int av1), .val (.int av2), .val (.int av3), .val (.int av4), .val (.int ((((dv0 + dv1) + dv2) + dv3) + dv4)), .val (.int sv1), .val (.int sv2), .val (.int sv3), .unset, .unset] [(.int c3)])) rfl (by rw [hml]; rfl) (argsL := [(.int c3)]) (rest := []) (lenOf pd_274 rfl) rfl (by show 2 * 0 + _ ≤ _; exact Nat.le_of_eq rfl) (hb hby at_375) (fun _ _ => ⟨rfl, ej747, (by decide : 4 + 0 ≤ _), (by decide : 14 + 0 ≤ _)⟩)
        dsimp only [Pt.U, Pt.locs, Pt.cells, Pt.slots] at X780 l780 y780 z780 st780 hQ780
        subst l780 y780 z780
        by_cases hc781 : ¬ (c3 < (49 : Int32)) ∧ ¬ ((57 : Int32) < c3)
        · skip
          rw [QNZ, if_pos hc781] at hQ780
          obtain ⟨rfl, N780q, E780q⟩ := hQ780
          have N780 := Fr.app Nj747 N780q
          have K782 : Go p e below T780 (mkF m 378 #[.val (.int q0), .val (.int q1), .val (.int q2), .val (.int q3), .val (.int q4), .val (.int q5), .val (.int c0), .val (.int c1), .val (.int c2), .val (.int c3), .val (.int c4), .val (.int nn), .val (.ref r), .val (.int av0), .val (.int av1), .val (.int av2), .val (.int av3), .val (.int av4), .val (.int ((((dv0 + dv1) + dv2) + dv3) + dv4)), .val (.int sv1), .val (.int sv2), .val (.int sv3), .unset, .unset] [(.int (1 : Int32))]) G := fun tq kq => K779 tq (st780 tq kq)
          have K783 : Go p e below T780 (mkF m 381 #[.val (.int q0), .val (.int q1), .val (.int q2), .val (.int q3), .val (.int q4), .val (.int q5), .val (.int c0), .val (.int c1), .val (.int c2), .val (.int c3), .val (.int c4), .val (.int nn), .val (.ref r), .val (.int av0), .val (.int av1), .val (.int av2), .val (.int av3), .val (.int av4), .val (.int ((((dv0 + dv1) + dv2) + dv3) + dv4)), .val (.int sv1), .val (.int sv2), .val (.int sv3), .unset, .unset] []) G := fun tq kq => K782 tq (XS.ifNo X780.here hx rfl (hb hby at_378) rfl ((if0 _ _).trans (feq (by decide : ¬ ((1 : Int32) = (0 : Int32)))).1) kq)
          have K784 : Go p e below T780 (mkF m 382 #[.val (.int q0), .val (.int q1), .val (.int q2), .val (.int q3), .val (.int q4), .val (.int q5), .val (.int c0), .val (.int c1), .val (.int c2), .val (.int c3), .val (.int c4), .val (.int nn), .val (.ref r), .val (.int av0), .val (.int av1), .val (.int av2), .val (.int av3), .val (.int av4), .val (.int ((((dv0 + dv1) + dv2) + dv3) + dv4)), .val (.int sv1), .val (.int sv2), .val (.int sv3), .unset, .unset] [(.int (1 : Int32))]) G := fun tq kq => K783 tq (XS.iconst X780.here hx rfl (hb hby at_381) kq)
          have K785 : Go p e below T780 (mkF m 386 #[.val (.int q0), .val (.int q1), .val (.int q2), .val (.int q3), .val (.int q4), .val (.int q5), .val (.int c0), .val (.int c1), .val (.int c2), .val (.int c3), .val (.int c4), .val (.int nn), .val (.ref r), .val (.int av0), .val (.int av1), .val (.int av2), .val (.int av3), .val (.int av4), .val (.int ((((dv0 + dv1) + dv2) + dv3) + dv4)), .val (.int sv1), .val (.int sv2), .val (.int sv3), .unset, .unset] [(.int (1 : Int32))]) G := fun tq kq => K784 tq (XS.goto X780.here hx rfl (pc0 := 382) (pc' := 386) rfl (hb hby at_382) (by decide) (by decide) kq)
          refine ⟨T780, _, (1 : Int32), X780, E780q, N780, ?_, K785⟩
          exact (if_pos (Or.inr ⟨hc775, hc781⟩)).symm
        · skip
          rw [QNZ, if_neg hc781] at hQ780
          obtain ⟨rfl, N780q, E780q⟩ := hQ780
          have N780 := Fr.app Nj747 N780q
          have K786 : Go p e below T780 (mkF m 378 #[.val (.int q0), .val (.int q1), .val (.int q2), .val (.int q3), .val (.int q4), .val (.int q5), .val (.int c0), .val (.int c1), .val (.int c2), .val (.int c3), .val (.int c4), .val (.int nn), .val (.ref r), .val (.int av0), .val (.int av1), .val (.int av2), .val (.int av3), .val (.int av4), .val (.int ((((dv0 + dv1) + dv2) + dv3) + dv4)), .val (.int sv1), .val (.int sv2), .val (.int sv3), .unset, .unset] [(.int (0 : Int32))]) G := fun tq kq => K779 tq (st780 tq kq)
          have K787 : Go p e below T780 (mkF m 385 #[.val (.int q0), .val (.int q1), .val (.int q2), .val (.int q3), .val (.int q4), .val (.int q5), .val (.int c0), .val (.int c1), .val (.int c2), .val (.int c3), .val (.int c4), .val (.int nn), .val (.ref r), .val (.int av0), .val (.int av1), .val (.int av2), .val (.int av3), .val (.int av4), .val (.int ((((dv0 + dv1) + dv2) + dv3) + dv4)), .val (.int sv1), .val (.int sv2), .val (.int sv3), .unset, .unset] []) G := fun tq kq => K786 tq (XS.ifYes X780.here hx rfl (pc0 := 378) (pc' := 385) rfl (hb hby at_378) rfl ((if0 _ _).trans (teq (by decide : (0 : Int32) = (0 : Int32))).1) (by decide) (by decide) kq)
          have K788 : Go p e below T780 (mkF m 386 #[.val (.int q0), .val (.int q1), .val (.int q2), .val (.int q3), .val (.int q4), .val (.int q5), .val (.int c0), .val (.int c1), .val (.int c2), .val (.int c3), .val (.int c4), .val (.int nn), .val (.ref r), .val (.int av0), .val (.int av1), .val (.int av2), .val (.int av3), .val (.int av4), .val (.int ((((dv0 + dv1) + dv2) + dv3) + dv4)), .val (.int sv1), .val (.int sv2), .val (.int sv3), .unset, .unset] [(.int (0 : Int32))]) G := fun tq kq => K787 tq (XS.iconst X780.here hx rfl (hb hby at_385) kq)
          refine ⟨T780, _, (0 : Int32), X780, E780q, N780, ?_, K788⟩
          exact (if_neg (fun w => w.elim (fun q => q hc772) (fun z => hc781 (z.2)))).symm
    · skip
      have K789 : Go p e below Tj747 (mkF m 381 #[.val (.int q0), .val (.int q1), .val (.int q2), .val (.int q3), .val (.int q4), .val (.int q5), .val (.int c0), .val (.int c1), .val (.int c2), .val (.int c3), .val (.int c4), .val (.int nn), .val (.ref r), .val (.int av0), .val (.int av1), .val (.int av2), .val (.int av3), .val (.int av4), .val (.int ((((dv0 + dv1) + dv2) + dv3) + dv4)), .val (.int sv1), .val (.int sv2), .val (.int sv3), .unset, .unset] []) G := fun tq kq => K771 tq (XS.ifYes Xj747.here hx rfl (pc0 := 365) (pc' := 381) rfl (hb hby at_365) rfl ((if0 _ _).trans (feq hc772).2) (by decide) (by decide) kq)
      have K790 : Go p e below Tj747 (mkF m 382 #[.val (.int q0), .val (.int q1), .val (.int q2), .val (.int q3), .val (.int q4), .val (.int q5), .val (.int c0), .val (.int c1), .val (.int c2), .val (.int c3), .val (.int c4), .val (.int nn), .val (.ref r), .val (.int av0), .val (.int av1), .val (.int av2), .val (.int av3), .val (.int av4), .val (.int ((((dv0 + dv1) + dv2) + dv3) + dv4)), .val (.int sv1), .val (.int sv2), .val (.int sv3), .unset, .unset] [(.int (1 : Int32))]) G := fun tq kq => K789 tq (XS.iconst Xj747.here hx rfl (hb hby at_381) kq)
      have K791 : Go p e below Tj747 (mkF m 386 #[.val (.int q0), .val (.int q1), .val (.int q2), .val (.int q3), .val (.int q4), .val (.int q5), .val (.int c0), .val (.int c1), .val (.int c2), .val (.int c3), .val (.int c4), .val (.int nn), .val (.ref r), .val (.int av0), .val (.int av1), .val (.int av2), .val (.int av3), .val (.int av4), .val (.int ((((dv0 + dv1) + dv2) + dv3) + dv4)), .val (.int sv1), .val (.int sv2), .val (.int sv3), .unset, .unset] [(.int (1 : Int32))]) G := fun tq kq => K790 tq (XS.goto Xj747.here hx rfl (pc0 := 382) (pc' := 386) rfl (hb hby at_382) (by decide) (by decide) kq)
      refine ⟨Tj747, _, (1 : Int32), Xj747, ej747, Nj747, ?_, K791⟩
      exact (if_pos (Or.inl hc772)).symm
  have h_sv4 := hj770
  have K792 : Go p e below Tj770 (mkF m 388 #[.val (.int q0), .val (.int q1), .val (.int q2), .val (.int q3), .val (.int q4), .val (.int q5), .val (.int c0), .val (.int c1), .val (.int c2), .val (.int c3), .val (.int c4), .val (.int nn), .val (.ref r), .val (.int av0), .val (.int av1), .val (.int av2), .val (.int av3), .val (.int av4), .val (.int ((((dv0 + dv1) + dv2) + dv3) + dv4)), .val (.int sv1), .val (.int sv2), .val (.int sv3), .val (.int sv4), .unset] []) G := fun tq kq => Kj770 tq (XS.istore Xj770.here hx rfl (hb hby at_386) rfl (l' := #[.val (.int q0), .val (.int q1), .val (.int q2), .val (.int q3), .val (.int q4), .val (.int q5), .val (.int c0), .val (.int c1), .val (.int c2), .val (.int c3), .val (.int c4), .val (.int nn), .val (.ref r), .val (.int av0), .val (.int av1), .val (.int av2), .val (.int av3), .val (.int av4), .val (.int ((((dv0 + dv1) + dv2) + dv3) + dv4)), .val (.int sv1), .val (.int sv2), .val (.int sv3), .val (.int sv4), .unset]) rfl kq)
  obtain ⟨Tj793, Lj793, lv0, Xj793, ej793, Nj793, hj793, Kj793⟩ : ∃ (Tj : State) (Lj : List Loc) (lv0 : Int32), Stand p l e room_1 (s.setVm T479.vm) m #[(.int q0), (.int q1), (.int q2), (.int q3), (.int q4), (.int q5)] below meth c Tj Lj 4 14 ∧ Tj.heap = T479.heap ∧ Fr n0 Lj ∧ (lv0 = own_l0 av0 c0) ∧ Go p e below Tj (mkF m 408 #[.val (.int q0), .val (.int q1), .val (.int q2), .val (.int q3), .val (.int q4), .val (.int q5), .val (.int c0), .val (.int c1), .val (.int c2), .val (.int c3), .val (.int c4), .val (.int nn), .val (.ref r), .val (.int av0), .val (.int av1), .val (.int av2), .val (.int av3), .val (.int av4), .val (.int ((((dv0 + dv1) + dv2) + dv3) + dv4)), .val (.int sv1), .val (.int sv2), .val (.int sv3), .val (.int sv4), .unset] [(.int lv0)]) G := by
    have K794 : Go p e below Tj770 (mkF m 390 #[.val (.int q0), .val (.int q1), .val (.int q2), .val (.int q3), .val (.int q4), .val (.int q5), .val (.int c0), .val (.int c1), .val (.int c2), .val (.int c3), .val (.int c4), .val (.int nn), .val (.ref r), .val (.int av0), .val (.int av1), .val (.int av2), .val (.int av3), .val (.int av4), .val (.int ((((dv0 + dv1) + dv2) + dv3) + dv4)), .val (.int sv1), .val (.int sv2), .val (.int sv3), .val (.int sv4), .unset] [(.int av0)]) G := fun tq kq => K792 tq (XS.iload Xj770.here hx rfl (hb hby at_388) rfl kq)
    by_cases hc795 : av0 = (0 : Int32)
    · skip
      have K796 : Go p e below Tj770 (mkF m 404 #[.val (.int q0), .val (.int q1), .val (.int q2), .val (.int q3), .val (.int q4), .val (.int q5), .val (.int c0), .val (.int c1), .val (.int c2), .val (.int c3), .val (.int c4), .val (.int nn), .val (.ref r), .val (.int av0), .val (.int av1), .val (.int av2), .val (.int av3), .val (.int av4), .val (.int ((((dv0 + dv1) + dv2) + dv3) + dv4)), .val (.int sv1), .val (.int sv2), .val (.int sv3), .val (.int sv4), .unset] []) G := fun tq kq => K794 tq (XS.ifYes Xj770.here hx rfl (pc0 := 390) (pc' := 404) rfl (hb hby at_390) rfl ((if0 _ _).trans (teq hc795).1) (by decide) (by decide) kq)
      have K797 : Go p e below Tj770 (mkF m 405 #[.val (.int q0), .val (.int q1), .val (.int q2), .val (.int q3), .val (.int q4), .val (.int q5), .val (.int c0), .val (.int c1), .val (.int c2), .val (.int c3), .val (.int c4), .val (.int nn), .val (.ref r), .val (.int av0), .val (.int av1), .val (.int av2), .val (.int av3), .val (.int av4), .val (.int ((((dv0 + dv1) + dv2) + dv3) + dv4)), .val (.int sv1), .val (.int sv2), .val (.int sv3), .val (.int sv4), .unset] [(.int (0 : Int32))]) G := fun tq kq => K796 tq (XS.iconst Xj770.here hx rfl (hb hby at_404) kq)
      obtain ⟨v798, _, ⟨T798, L798, k798, n798⟩, -, X798, ⟨Lc798, hQ798, l798, y798, z798⟩, st798⟩ := Jvm.LawKit.callS Xj770 hx (y := (⟨"com/example/tallyrule/tallyrule/DecimalsSignificantDigitsPinLaw", "one", "(Z)I"⟩ : MethodName)) hown (mvT hZ (hW 44 _ rfl)) (mvT hZ (hW 45 _ rfl)) (mvT hZ (hW 2 _ rfl)) (mvT hZ (hW 46 _ rfl)) (by decide) (backOf (W := 0) (rmONE l Z a0 hw [] (0 : Int32) T479.heap n0 (Nat.le_trans Z0 K479q.1)) hZ (hW 46 _ rfl) (hW 2 _ rfl) (by decide) (by decide)) (g := (mkF m 405 #[.val (.int q0), .val (.int q1), .val (.int q2), .val (.int q3), .val (.int q4), .val (.int q5), .val (.int c0), .val (.int c1), .val (.int c2), .val (.int c3), .val (.int c4), .val (.int nn), .val (.ref r), .val (.int av0), .val (.int av1), .val (.int av2), .val (.int av3), .val (.int av4), .val (.int ((((dv0 + dv1) + dv2) + dv3) + dv4)), .val (.int sv1), .val (.int sv2), .val (.int sv3), .val (.int sv4), .unset] [(.int (0 : Int32))])) rfl (by rw [hml]; rfl) (argsL := [(.int (0 : Int32))]) (rest := []) (lenOf pd_275 rfl) rfl (by show 2 * 0 + _ ≤ _; exact Nat.le_of_eq rfl) (hb hby at_405) (fun _ _ => ⟨rfl, ej770, (by decide : 4 + 0 ≤ _), (by decide : 14 + 0 ≤ _)⟩)
      dsimp only [Pt.U, Pt.locs, Pt.cells, Pt.slots] at X798 l798 y798 z798 st798 hQ798
      subst l798 y798 z798
      rw [QONE, if_pos (rfl : (0 : Int32) = 0)] at hQ798
      obtain ⟨rfl, N798q, E798q⟩ := hQ798
      have N798 := Fr.app Nj770 N798q
      have K799 : Go p e below T798 (mkF m 408 #[.val (.int q0), .val (.int q1), .val (.int q2), .val (.int q3), .val (.int q4), .val (.int q5), .val (.int c0), .val (.int c1), .val (.int c2), .val (.int c3), .val (.int c4), .val (.int nn), .val (.ref r), .val (.int av0), .val (.int av1), .val (.int av2), .val (.int av3), .val (.int av4), .val (.int ((((dv0 + dv1) + dv2) + dv3) + dv4)), .val (.int sv1), .val (.int sv2), .val (.int sv3), .val (.int sv4), .unset] [(.int (0 : Int32))]) G := fun tq kq => K797 tq (st798 tq kq)
      refine ⟨T798, _, (0 : Int32), X798, E798q, N798, ?_, K799⟩
      exact (if_neg (fun z => z.1 hc795)).symm
    · skip
      have K800 : Go p e below Tj770 (mkF m 393 #[.val (.int q0), .val (.int q1), .val (.int q2), .val (.int q3), .val (.int q4), .val (.int q5), .val (.int c0), .val (.int c1), .val (.int c2), .val (.int c3), .val (.int c4), .val (.int nn), .val (.ref r), .val (.int av0), .val (.int av1), .val (.int av2), .val (.int av3), .val (.int av4), .val (.int ((((dv0 + dv1) + dv2) + dv3) + dv4)), .val (.int sv1), .val (.int sv2), .val (.int sv3), .val (.int sv4), .unset] []) G := fun tq kq => K794 tq (XS.ifNo Xj770.here hx rfl (hb hby at_390) rfl ((if0 _ _).trans (feq hc795).1) kq)
      have K801 : Go p e below Tj770 (mkF m 395 #[.val (.int q0), .val (.int q1), .val (.int q2), .val (.int q3), .val (.int q4), .val (.int q5), .val (.int c0), .val (.int c1), .val (.int c2), .val (.int c3), .val (.int c4), .val (.int nn), .val (.ref r), .val (.int av0), .val (.int av1), .val (.int av2), .val (.int av3), .val (.int av4), .val (.int ((((dv0 + dv1) + dv2) + dv3) + dv4)), .val (.int sv1), .val (.int sv2), .val (.int sv3), .val (.int sv4), .unset] [(.int c0)]) G := fun tq kq => K800 tq (XS.iload Xj770.here hx rfl (hb hby at_393) rfl kq)
      have K802 : Go p e below Tj770 (mkF m 397 #[.val (.int q0), .val (.int q1), .val (.int q2), .val (.int q3), .val (.int q4), .val (.int q5), .val (.int c0), .val (.int c1), .val (.int c2), .val (.int c3), .val (.int c4), .val (.int nn), .val (.ref r), .val (.int av0), .val (.int av1), .val (.int av2), .val (.int av3), .val (.int av4), .val (.int ((((dv0 + dv1) + dv2) + dv3) + dv4)), .val (.int sv1), .val (.int sv2), .val (.int sv3), .val (.int sv4), .unset] [(.int (48 : Int32)), (.int c0)]) G := fun tq kq => K801 tq (XS.bipush Xj770.here hx rfl (hb hby at_395) kq)
      by_cases hc803 : c0 = (48 : Int32)
      · skip
        have K804 : Go p e below Tj770 (mkF m 400 #[.val (.int q0), .val (.int q1), .val (.int q2), .val (.int q3), .val (.int q4), .val (.int q5), .val (.int c0), .val (.int c1), .val (.int c2), .val (.int c3), .val (.int c4), .val (.int nn), .val (.ref r), .val (.int av0), .val (.int av1), .val (.int av2), .val (.int av3), .val (.int av4), .val (.int ((((dv0 + dv1) + dv2) + dv3) + dv4)), .val (.int sv1), .val (.int sv2), .val (.int sv3), .val (.int sv4), .unset] []) G := fun tq kq => K802 tq (XS.icmpNo Xj770.here hx rfl (hb hby at_397) rfl ((teq hc803).2) kq)
        have K805 : Go p e below Tj770 (mkF m 401 #[.val (.int q0), .val (.int q1), .val (.int q2), .val (.int q3), .val (.int q4), .val (.int q5), .val (.int c0), .val (.int c1), .val (.int c2), .val (.int c3), .val (.int c4), .val (.int nn), .val (.ref r), .val (.int av0), .val (.int av1), .val (.int av2), .val (.int av3), .val (.int av4), .val (.int ((((dv0 + dv1) + dv2) + dv3) + dv4)), .val (.int sv1), .val (.int sv2), .val (.int sv3), .val (.int sv4), .unset] [(.int (1 : Int32))]) G := fun tq kq => K804 tq (XS.iconst Xj770.here hx rfl (hb hby at_400) kq)
        have K806 : Go p e below Tj770 (mkF m 405 #[.val (.int q0), .val (.int q1), .val (.int q2), .val (.int q3), .val (.int q4), .val (.int q5), .val (.int c0), .val (.int c1), .val (.int c2), .val (.int c3), .val (.int c4), .val (.int nn), .val (.ref r), .val (.int av0), .val (.int av1), .val (.int av2), .val (.int av3), .val (.int av4), .val (.int ((((dv0 + dv1) + dv2) + dv3) + dv4)), .val (.int sv1), .val (.int sv2), .val (.int sv3), .val (.int sv4), .unset] [(.int (1 : Int32))]) G := fun tq kq => K805 tq (XS.goto Xj770.here hx rfl (pc0 := 401) (pc' := 405) rfl (hb hby at_401) (by decide) (by decide) kq)
        obtain ⟨v807, _, ⟨T807, L807, k807, n807⟩, -, X807, ⟨Lc807, hQ807, l807, y807, z807⟩, st807⟩ := Jvm.LawKit.callS Xj770 hx (y := (⟨"com/example/tallyrule/tallyrule/DecimalsSignificantDigitsPinLaw", "one", "(Z)I"⟩ : MethodName)) hown (mvT hZ (hW 44 _ rfl)) (mvT hZ (hW 45 _ rfl)) (mvT hZ (hW 2 _ rfl)) (mvT hZ (hW 46 _ rfl)) (by decide) (backOf (W := 0) (rmONE l Z a0 hw [] (1 : Int32) T479.heap n0 (Nat.le_trans Z0 K479q.1)) hZ (hW 46 _ rfl) (hW 2 _ rfl) (by decide) (by decide)) (g := (mkF m 405 #[.val (.int q0), .val (.int q1), .val (.int q2), .val (.int q3), .val (.int q4), .val (.int q5), .val (.int c0), .val (.int c1), .val (.int c2), .val (.int c3), .val (.int c4), .val (.int nn), .val (.ref r), .val (.int av0), .val (.int av1), .val (.int av2), .val (.int av3), .val (.int av4), .val (.int ((((dv0 + dv1) + dv2) + dv3) + dv4)), .val (.int sv1), .val (.int sv2), .val (.int sv3), .val (.int sv4), .unset] [(.int (1 : Int32))])) rfl (by rw [hml]; rfl) (argsL := [(.int (1 : Int32))]) (rest := []) (lenOf pd_275 rfl) rfl (by show 2 * 0 + _ ≤ _; exact Nat.le_of_eq rfl) (hb hby at_405) (fun _ _ => ⟨rfl, ej770, (by decide : 4 + 0 ≤ _), (by decide : 14 + 0 ≤ _)⟩)
        dsimp only [Pt.U, Pt.locs, Pt.cells, Pt.slots] at X807 l807 y807 z807 st807 hQ807
        subst l807 y807 z807
        rw [QONE, if_neg (by decide : ¬ ((1 : Int32) = 0))] at hQ807
        obtain ⟨rfl, N807q, E807q⟩ := hQ807
        have N807 := Fr.app Nj770 N807q
        have K808 : Go p e below T807 (mkF m 408 #[.val (.int q0), .val (.int q1), .val (.int q2), .val (.int q3), .val (.int q4), .val (.int q5), .val (.int c0), .val (.int c1), .val (.int c2), .val (.int c3), .val (.int c4), .val (.int nn), .val (.ref r), .val (.int av0), .val (.int av1), .val (.int av2), .val (.int av3), .val (.int av4), .val (.int ((((dv0 + dv1) + dv2) + dv3) + dv4)), .val (.int sv1), .val (.int sv2), .val (.int sv3), .val (.int sv4), .unset] [(.int (1 : Int32))]) G := fun tq kq => K806 tq (st807 tq kq)
        refine ⟨T807, _, (1 : Int32), X807, E807q, N807, ?_, K808⟩
        exact (if_pos ⟨hc795, hc803⟩).symm
      · skip
        have K809 : Go p e below Tj770 (mkF m 404 #[.val (.int q0), .val (.int q1), .val (.int q2), .val (.int q3), .val (.int q4), .val (.int q5), .val (.int c0), .val (.int c1), .val (.int c2), .val (.int c3), .val (.int c4), .val (.int nn), .val (.ref r), .val (.int av0), .val (.int av1), .val (.int av2), .val (.int av3), .val (.int av4), .val (.int ((((dv0 + dv1) + dv2) + dv3) + dv4)), .val (.int sv1), .val (.int sv2), .val (.int sv3), .val (.int sv4), .unset] []) G := fun tq kq => K802 tq (XS.icmpYes Xj770.here hx rfl (pc0 := 397) (pc' := 404) rfl (hb hby at_397) rfl ((feq hc803).2) (by decide) (by decide) kq)
        have K810 : Go p e below Tj770 (mkF m 405 #[.val (.int q0), .val (.int q1), .val (.int q2), .val (.int q3), .val (.int q4), .val (.int q5), .val (.int c0), .val (.int c1), .val (.int c2), .val (.int c3), .val (.int c4), .val (.int nn), .val (.ref r), .val (.int av0), .val (.int av1), .val (.int av2), .val (.int av3), .val (.int av4), .val (.int ((((dv0 + dv1) + dv2) + dv3) + dv4)), .val (.int sv1), .val (.int sv2), .val (.int sv3), .val (.int sv4), .unset] [(.int (0 : Int32))]) G := fun tq kq => K809 tq (XS.iconst Xj770.here hx rfl (hb hby at_404) kq)
        obtain ⟨v811, _, ⟨T811, L811, k811, n811⟩, -, X811, ⟨Lc811, hQ811, l811, y811, z811⟩, st811⟩ := Jvm.LawKit.callS Xj770 hx (y := (⟨"com/example/tallyrule/tallyrule/DecimalsSignificantDigitsPinLaw", "one", "(Z)I"⟩ : MethodName)) hown (mvT hZ (hW 44 _ rfl)) (mvT hZ (hW 45 _ rfl)) (mvT hZ (hW 2 _ rfl)) (mvT hZ (hW 46 _ rfl)) (by decide) (backOf (W := 0) (rmONE l Z a0 hw [] (0 : Int32) T479.heap n0 (Nat.le_trans Z0 K479q.1)) hZ (hW 46 _ rfl) (hW 2 _ rfl) (by decide) (by decide)) (g := (mkF m 405 #[.val (.int q0), .val (.int q1), .val (.int q2), .val (.int q3), .val (.int q4), .val (.int q5), .val (.int c0), .val (.int c1), .val (.int c2), .val (.int c3), .val (.int c4), .val (.int nn), .val (.ref r), .val (.int av0), .val (.int av1), .val (.int av2), .val (.int av3), .val (.int av4), .val (.int ((((dv0 + dv1) + dv2) + dv3) + dv4)), .val (.int sv1), .val (.int sv2), .val (.int sv3), .val (.int sv4), .unset] [(.int (0 : Int32))])) rfl (by rw [hml]; rfl) (argsL := [(.int (0 : Int32))]) (rest := []) (lenOf pd_275 rfl) rfl (by show 2 * 0 + _ ≤ _; exact Nat.le_of_eq rfl) (hb hby at_405) (fun _ _ => ⟨rfl, ej770, (by decide : 4 + 0 ≤ _), (by decide : 14 + 0 ≤ _)⟩)
        dsimp only [Pt.U, Pt.locs, Pt.cells, Pt.slots] at X811 l811 y811 z811 st811 hQ811
        subst l811 y811 z811
        rw [QONE, if_pos (rfl : (0 : Int32) = 0)] at hQ811
        obtain ⟨rfl, N811q, E811q⟩ := hQ811
        have N811 := Fr.app Nj770 N811q
        have K812 : Go p e below T811 (mkF m 408 #[.val (.int q0), .val (.int q1), .val (.int q2), .val (.int q3), .val (.int q4), .val (.int q5), .val (.int c0), .val (.int c1), .val (.int c2), .val (.int c3), .val (.int c4), .val (.int nn), .val (.ref r), .val (.int av0), .val (.int av1), .val (.int av2), .val (.int av3), .val (.int av4), .val (.int ((((dv0 + dv1) + dv2) + dv3) + dv4)), .val (.int sv1), .val (.int sv2), .val (.int sv3), .val (.int sv4), .unset] [(.int (0 : Int32))]) G := fun tq kq => K810 tq (st811 tq kq)
        refine ⟨T811, _, (0 : Int32), X811, E811q, N811, ?_, K812⟩
        exact (if_neg (fun z => hc803 (z.2))).symm
  have h_lv0 := hj793
  obtain ⟨Tj813, Lj813, lv1, Xj813, ej813, Nj813, hj813, Kj813⟩ : ∃ (Tj : State) (Lj : List Loc) (lv1 : Int32), Stand p l e room_1 (s.setVm T479.vm) m #[(.int q0), (.int q1), (.int q2), (.int q3), (.int q4), (.int q5)] below meth c Tj Lj 4 14 ∧ Tj.heap = T479.heap ∧ Fr n0 Lj ∧ (lv1 = own_l av1 c1 sv1) ∧ Go p e below Tj (mkF m 433 #[.val (.int q0), .val (.int q1), .val (.int q2), .val (.int q3), .val (.int q4), .val (.int q5), .val (.int c0), .val (.int c1), .val (.int c2), .val (.int c3), .val (.int c4), .val (.int nn), .val (.ref r), .val (.int av0), .val (.int av1), .val (.int av2), .val (.int av3), .val (.int av4), .val (.int ((((dv0 + dv1) + dv2) + dv3) + dv4)), .val (.int sv1), .val (.int sv2), .val (.int sv3), .val (.int sv4), .unset] [(.int lv1), (.int lv0)]) G := by
    have K814 : Go p e below Tj793 (mkF m 410 #[.val (.int q0), .val (.int q1), .val (.int q2), .val (.int q3), .val (.int q4), .val (.int q5), .val (.int c0), .val (.int c1), .val (.int c2), .val (.int c3), .val (.int c4), .val (.int nn), .val (.ref r), .val (.int av0), .val (.int av1), .val (.int av2), .val (.int av3), .val (.int av4), .val (.int ((((dv0 + dv1) + dv2) + dv3) + dv4)), .val (.int sv1), .val (.int sv2), .val (.int sv3), .val (.int sv4), .unset] [(.int av1), (.int lv0)]) G := fun tq kq => Kj793 tq (XS.iload Xj793.here hx rfl (hb hby at_408) rfl kq)
    by_cases hc815 : av1 = (0 : Int32)
    · skip
      have K816 : Go p e below Tj793 (mkF m 429 #[.val (.int q0), .val (.int q1), .val (.int q2), .val (.int q3), .val (.int q4), .val (.int q5), .val (.int c0), .val (.int c1), .val (.int c2), .val (.int c3), .val (.int c4), .val (.int nn), .val (.ref r), .val (.int av0), .val (.int av1), .val (.int av2), .val (.int av3), .val (.int av4), .val (.int ((((dv0 + dv1) + dv2) + dv3) + dv4)), .val (.int sv1), .val (.int sv2), .val (.int sv3), .val (.int sv4), .unset] [(.int lv0)]) G := fun tq kq => K814 tq (XS.ifYes Xj793.here hx rfl (pc0 := 410) (pc' := 429) rfl (hb hby at_410) rfl ((if0 _ _).trans (teq hc815).1) (by decide) (by decide) kq)
      have K817 : Go p e below Tj793 (mkF m 430 #[.val (.int q0), .val (.int q1), .val (.int q2), .val (.int q3), .val (.int q4), .val (.int q5), .val (.int c0), .val (.int c1), .val (.int c2), .val (.int c3), .val (.int c4), .val (.int nn), .val (.ref r), .val (.int av0), .val (.int av1), .val (.int av2), .val (.int av3), .val (.int av4), .val (.int ((((dv0 + dv1) + dv2) + dv3) + dv4)), .val (.int sv1), .val (.int sv2), .val (.int sv3), .val (.int sv4), .unset] [(.int (0 : Int32)), (.int lv0)]) G := fun tq kq => K816 tq (XS.iconst Xj793.here hx rfl (hb hby at_429) kq)
      obtain ⟨v818, _, ⟨T818, L818, k818, n818⟩, -, X818, ⟨Lc818, hQ818, l818, y818, z818⟩, st818⟩ := Jvm.LawKit.callS Xj793 hx (y := (⟨"com/example/tallyrule/tallyrule/DecimalsSignificantDigitsPinLaw", "one", "(Z)I"⟩ : MethodName)) hown (mvT hZ (hW 44 _ rfl)) (mvT hZ (hW 45 _ rfl)) (mvT hZ (hW 2 _ rfl)) (mvT hZ (hW 46 _ rfl)) (by decide) (backOf (W := 1) (rmONE l Z a0 hw [] (0 : Int32) T479.heap n0 (Nat.le_trans Z0 K479q.1)) hZ (hW 46 _ rfl) (hW 2 _ rfl) (by decide) (by decide)) (g := (mkF m 430 #[.val (.int q0), .val (.int q1), .val (.int q2), .val (.int q3), .val (.int q4), .val (.int q5), .val (.int c0), .val (.int c1), .val (.int c2), .val (.int c3), .val (.int c4), .val (.int nn), .val (.ref r), .val (.int av0), .val (.int av1), .val (.int av2), .val (.int av3), .val (.int av4), .val (.int ((((dv0 + dv1) + dv2) + dv3) + dv4)), .val (.int sv1), .val (.int sv2), .val (.int sv3), .val (.int sv4), .unset] [(.int (0 : Int32)), (.int lv0)])) rfl (by rw [hml]; rfl) (argsL := [(.int (0 : Int32))]) (rest := [(.int lv0)]) (lenOf pd_275 rfl) rfl (by show 2 * 0 + _ ≤ _; exact Nat.le_of_eq rfl) (hb hby at_430) (fun _ _ => ⟨rfl, ej793, (by decide : 4 + 0 ≤ _), (by decide : 14 + 0 ≤ _)⟩)
      dsimp only [Pt.U, Pt.locs, Pt.cells, Pt.slots] at X818 l818 y818 z818 st818 hQ818
      subst l818 y818 z818
      rw [QONE, if_pos (rfl : (0 : Int32) = 0)] at hQ818
      obtain ⟨rfl, N818q, E818q⟩ := hQ818
      have N818 := Fr.app Nj793 N818q
      have K819 : Go p e below T818 (mkF m 433 #[.val (.int q0), .val (.int q1), .val (.int q2), .val (.int q3), .val (.int q4), .val (.int q5), .val (.int c0), .val (.int c1), .val (.int c2), .val (.int c3), .val (.int c4), .val (.int nn), .val (.ref r), .val (.int av0), .val (.int av1), .val (.int av2), .val (.int av3), .val (.int av4), .val (.int ((((dv0 + dv1) + dv2) + dv3) + dv4)), .val (.int sv1), .val (.int sv2), .val (.int sv3), .val (.int sv4), .unset] [(.int (0 : Int32)), (.int lv0)]) G := fun tq kq => K817 tq (st818 tq kq)
      refine ⟨T818, _, (0 : Int32), X818, E818q, N818, ?_, K819⟩
      exact (if_neg (fun z => z.1 hc815)).symm
    · skip
      have K820 : Go p e below Tj793 (mkF m 413 #[.val (.int q0), .val (.int q1), .val (.int q2), .val (.int q3), .val (.int q4), .val (.int q5), .val (.int c0), .val (.int c1), .val (.int c2), .val (.int c3), .val (.int c4), .val (.int nn), .val (.ref r), .val (.int av0), .val (.int av1), .val (.int av2), .val (.int av3), .val (.int av4), .val (.int ((((dv0 + dv1) + dv2) + dv3) + dv4)), .val (.int sv1), .val (.int sv2), .val (.int sv3), .val (.int sv4), .unset] [(.int lv0)]) G := fun tq kq => K814 tq (XS.ifNo Xj793.here hx rfl (hb hby at_410) rfl ((if0 _ _).trans (feq hc815).1) kq)
      have K821 : Go p e below Tj793 (mkF m 415 #[.val (.int q0), .val (.int q1), .val (.int q2), .val (.int q3), .val (.int q4), .val (.int q5), .val (.int c0), .val (.int c1), .val (.int c2), .val (.int c3), .val (.int c4), .val (.int nn), .val (.ref r), .val (.int av0), .val (.int av1), .val (.int av2), .val (.int av3), .val (.int av4), .val (.int ((((dv0 + dv1) + dv2) + dv3) + dv4)), .val (.int sv1), .val (.int sv2), .val (.int sv3), .val (.int sv4), .unset] [(.int c1), (.int lv0)]) G := fun tq kq => K820 tq (XS.iload Xj793.here hx rfl (hb hby at_413) rfl kq)
      have K822 : Go p e below Tj793 (mkF m 417 #[.val (.int q0), .val (.int q1), .val (.int q2), .val (.int q3), .val (.int q4), .val (.int q5), .val (.int c0), .val (.int c1), .val (.int c2), .val (.int c3), .val (.int c4), .val (.int nn), .val (.ref r), .val (.int av0), .val (.int av1), .val (.int av2), .val (.int av3), .val (.int av4), .val (.int ((((dv0 + dv1) + dv2) + dv3) + dv4)), .val (.int sv1), .val (.int sv2), .val (.int sv3), .val (.int sv4), .unset] [(.int (48 : Int32)), (.int c1), (.int lv0)]) G := fun tq kq => K821 tq (XS.bipush Xj793.here hx rfl (hb hby at_415) kq)
      by_cases hc823 : c1 = (48 : Int32)
      · skip
        have K824 : Go p e below Tj793 (mkF m 420 #[.val (.int q0), .val (.int q1), .val (.int q2), .val (.int q3), .val (.int q4), .val (.int q5), .val (.int c0), .val (.int c1), .val (.int c2), .val (.int c3), .val (.int c4), .val (.int nn), .val (.ref r), .val (.int av0), .val (.int av1), .val (.int av2), .val (.int av3), .val (.int av4), .val (.int ((((dv0 + dv1) + dv2) + dv3) + dv4)), .val (.int sv1), .val (.int sv2), .val (.int sv3), .val (.int sv4), .unset] [(.int lv0)]) G := fun tq kq => K822 tq (XS.icmpNo Xj793.here hx rfl (hb hby at_417) rfl ((teq hc823).2) kq)
        have K825 : Go p e below Tj793 (mkF m 422 #[.val (.int q0), .val (.int q1), .val (.int q2), .val (.int q3), .val (.int q4), .val (.int q5), .val (.int c0), .val (.int c1), .val (.int c2), .val (.int c3), .val (.int c4), .val (.int nn), .val (.ref r), .val (.int av0), .val (.int av1), .val (.int av2), .val (.int av3), .val (.int av4), .val (.int ((((dv0 + dv1) + dv2) + dv3) + dv4)), .val (.int sv1), .val (.int sv2), .val (.int sv3), .val (.int sv4), .unset] [(.int sv1), (.int lv0)]) G := fun tq kq => K824 tq (XS.iload Xj793.here hx rfl (hb hby at_420) rfl kq)
        by_cases hc826 : sv1 = (0 : Int32)
        · skip
          have K827 : Go p e below Tj793 (mkF m 425 #[.val (.int q0), .val (.int q1), .val (.int q2), .val (.int q3), .val (.int q4), .val (.int q5), .val (.int c0), .val (.int c1), .val (.int c2), .val (.int c3), .val (.int c4), .val (.int nn), .val (.ref r), .val (.int av0), .val (.int av1), .val (.int av2), .val (.int av3), .val (.int av4), .val (.int ((((dv0 + dv1) + dv2) + dv3) + dv4)), .val (.int sv1), .val (.int sv2), .val (.int sv3), .val (.int sv4), .unset] [(.int lv0)]) G := fun tq kq => K825 tq (XS.ifNo Xj793.here hx rfl (hb hby at_422) rfl ((if0 _ _).trans (teq hc826).2) kq)
          have K828 : Go p e below Tj793 (mkF m 426 #[.val (.int q0), .val (.int q1), .val (.int q2), .val (.int q3), .val (.int q4), .val (.int q5), .val (.int c0), .val (.int c1), .val (.int c2), .val (.int c3), .val (.int c4), .val (.int nn), .val (.ref r), .val (.int av0), .val (.int av1), .val (.int av2), .val (.int av3), .val (.int av4), .val (.int ((((dv0 + dv1) + dv2) + dv3) + dv4)), .val (.int sv1), .val (.int sv2), .val (.int sv3), .val (.int sv4), .unset] [(.int (1 : Int32)), (.int lv0)]) G := fun tq kq => K827 tq (XS.iconst Xj793.here hx rfl (hb hby at_425) kq)
          have K829 : Go p e below Tj793 (mkF m 430 #[.val (.int q0), .val (.int q1), .val (.int q2), .val (.int q3), .val (.int q4), .val (.int q5), .val (.int c0), .val (.int c1), .val (.int c2), .val (.int c3), .val (.int c4), .val (.int nn), .val (.ref r), .val (.int av0), .val (.int av1), .val (.int av2), .val (.int av3), .val (.int av4), .val (.int ((((dv0 + dv1) + dv2) + dv3) + dv4)), .val (.int sv1), .val (.int sv2), .val (.int sv3), .val (.int sv4), .unset] [(.int (1 : Int32)), (.int lv0)]) G := fun tq kq => K828 tq (XS.goto Xj793.here hx rfl (pc0 := 426) (pc' := 430) rfl (hb hby at_426) (by decide) (by decide) kq)
          obtain ⟨v830, _, ⟨T830, L830, k830, n830⟩, -, X830, ⟨Lc830, hQ830, l830, y830, z830⟩, st830⟩ := Jvm.LawKit.callS Xj793 hx (y := (⟨"com/example/tallyrule/tallyrule/DecimalsSignificantDigitsPinLaw", "one", "(Z)I"⟩ : MethodName)) hown (mvT hZ (hW 44 _ rfl)) (mvT hZ (hW 45 _ rfl)) (mvT hZ (hW 2 _ rfl)) (mvT hZ (hW 46 _ rfl)) (by decide) (backOf (W := 1) (rmONE l Z a0 hw [] (1 : Int32) T479.heap n0 (Nat.le_trans Z0 K479q.1)) hZ (hW 46 _ rfl) (hW 2 _ rfl) (by decide) (by decide)) (g := (mkF m 430 #[.val (.int q0), .val (.int q1), .val (.int q2), .val (.int q3), .val (.int q4), .val (.int q5), .val (.int c0), .val (.int c1), .val (.int c2), .val (.int c3), .val (.int c4), .val (.int nn), .val (.ref r), .val (.int av0), .val (.int av1), .val (.int av2), .val (.int av3), .val (.int av4), .val (.int ((((dv0 + dv1) + dv2) + dv3) + dv4)), .val (.int sv1), .val (.int sv2), .val (.int sv3), .val (.int sv4), .unset] [(.int (1 : Int32)), (.int lv0)])) rfl (by rw [hml]; rfl) (argsL := [(.int (1 : Int32))]) (rest := [(.int lv0)]) (lenOf pd_275 rfl) rfl (by show 2 * 0 + _ ≤ _; exact Nat.le_of_eq rfl) (hb hby at_430) (fun _ _ => ⟨rfl, ej793, (by decide : 4 + 0 ≤ _), (by decide : 14 + 0 ≤ _)⟩)
          dsimp only [Pt.U, Pt.locs, Pt.cells, Pt.slots] at X830 l830 y830 z830 st830 hQ830
          subst l830 y830 z830
          rw [QONE, if_neg (by decide : ¬ ((1 : Int32) = 0))] at hQ830
          obtain ⟨rfl, N830q, E830q⟩ := hQ830
          have N830 := Fr.app Nj793 N830q
          have K831 : Go p e below T830 (mkF m 433 #[.val (.int q0), .val (.int q1), .val (.int q2), .val (.int q3), .val (.int q4), .val (.int q5), .val (.int c0), .val (.int c1), .val (.int c2), .val (.int c3), .val (.int c4), .val (.int nn), .val (.ref r), .val (.int av0), .val (.int av1), .val (.int av2), .val (.int av3), .val (.int av4), .val (.int ((((dv0 + dv1) + dv2) + dv3) + dv4)), .val (.int sv1), .val (.int sv2), .val (.int sv3), .val (.int sv4), .unset] [(.int (1 : Int32)), (.int lv0)]) G := fun tq kq => K829 tq (st830 tq kq)
          refine ⟨T830, _, (1 : Int32), X830, E830q, N830, ?_, K831⟩
          exact (if_pos ⟨hc815, hc823, hc826⟩).symm
        · skip
          have K832 : Go p e below Tj793 (mkF m 429 #[.val (.int q0), .val (.int q1), .val (.int q2), .val (.int q3), .val (.int q4), .val (.int q5), .val (.int c0), .val (.int c1), .val (.int c2), .val (.int c3), .val (.int c4), .val (.int nn), .val (.ref r), .val (.int av0), .val (.int av1), .val (.int av2), .val (.int av3), .val (.int av4), .val (.int ((((dv0 + dv1) + dv2) + dv3) + dv4)), .val (.int sv1), .val (.int sv2), .val (.int sv3), .val (.int sv4), .unset] [(.int lv0)]) G := fun tq kq => K825 tq (XS.ifYes Xj793.here hx rfl (pc0 := 422) (pc' := 429) rfl (hb hby at_422) rfl ((if0 _ _).trans (feq hc826).2) (by decide) (by decide) kq)
          have K833 : Go p e below Tj793 (mkF m 430 #[.val (.int q0), .val (.int q1), .val (.int q2), .val (.int q3), .val (.int q4), .val (.int q5), .val (.int c0), .val (.int c1), .val (.int c2), .val (.int c3), .val (.int c4), .val (.int nn), .val (.ref r), .val (.int av0), .val (.int av1), .val (.int av2), .val (.int av3), .val (.int av4), .val (.int ((((dv0 + dv1) + dv2) + dv3) + dv4)), .val (.int sv1), .val (.int sv2), .val (.int sv3), .val (.int sv4), .unset] [(.int (0 : Int32)), (.int lv0)]) G := fun tq kq => K832 tq (XS.iconst Xj793.here hx rfl (hb hby at_429) kq)
          obtain ⟨v834, _, ⟨T834, L834, k834, n834⟩, -, X834, ⟨Lc834, hQ834, l834, y834, z834⟩, st834⟩ := Jvm.LawKit.callS Xj793 hx (y := (⟨"com/example/tallyrule/tallyrule/DecimalsSignificantDigitsPinLaw", "one", "(Z)I"⟩ : MethodName)) hown (mvT hZ (hW 44 _ rfl)) (mvT hZ (hW 45 _ rfl)) (mvT hZ (hW 2 _ rfl)) (mvT hZ (hW 46 _ rfl)) (by decide) (backOf (W := 1) (rmONE l Z a0 hw [] (0 : Int32) T479.heap n0 (Nat.le_trans Z0 K479q.1)) hZ (hW 46 _ rfl) (hW 2 _ rfl) (by decide) (by decide)) (g := (mkF m 430 #[.val (.int q0), .val (.int q1), .val (.int q2), .val (.int q3), .val (.int q4), .val (.int q5), .val (.int c0), .val (.int c1), .val (.int c2), .val (.int c3), .val (.int c4), .val (.int nn), .val (.ref r), .val (.int av0), .val (.int av1), .val (.int av2), .val (.int av3), .val (.int av4), .val (.int ((((dv0 + dv1) + dv2) + dv3) + dv4)), .val (.int sv1), .val (.int sv2), .val (.int sv3), .val (.int sv4), .unset] [(.int (0 : Int32)), (.int lv0)])) rfl (by rw [hml]; rfl) (argsL := [(.int (0 : Int32))]) (rest := [(.int lv0)]) (lenOf pd_275 rfl) rfl (by show 2 * 0 + _ ≤ _; exact Nat.le_of_eq rfl) (hb hby at_430) (fun _ _ => ⟨rfl, ej793, (by decide : 4 + 0 ≤ _), (by decide : 14 + 0 ≤ _)⟩)
          dsimp only [Pt.U, Pt.locs, Pt.cells, Pt.slots] at X834 l834 y834 z834 st834 hQ834
          subst l834 y834 z834
          rw [QONE, if_pos (rfl : (0 : Int32) = 0)] at hQ834
          obtain ⟨rfl, N834q, E834q⟩ := hQ834
          have N834 := Fr.app Nj793 N834q
          have K835 : Go p e below T834 (mkF m 433 #[.val (.int q0), .val (.int q1), .val (.int q2), .val (.int q3), .val (.int q4), .val (.int q5), .val (.int c0), .val (.int c1), .val (.int c2), .val (.int c3), .val (.int c4), .val (.int nn), .val (.ref r), .val (.int av0), .val (.int av1), .val (.int av2), .val (.int av3), .val (.int av4), .val (.int ((((dv0 + dv1) + dv2) + dv3) + dv4)), .val (.int sv1), .val (.int sv2), .val (.int sv3), .val (.int sv4), .unset] [(.int (0 : Int32)), (.int lv0)]) G := fun tq kq => K833 tq (st834 tq kq)
          refine ⟨T834, _, (0 : Int32), X834, E834q, N834, ?_, K835⟩
          exact (if_neg (fun z => hc826 (z.2.2))).symm
      · skip
        have K836 : Go p e below Tj793 (mkF m 429 #[.val (.int q0), .val (.int q1), .val (.int q2), .val (.int q3), .val (.int q4), .val (.int q5), .val (.int c0), .val (.int c1), .val (.int c2), .val (.int c3), .val (.int c4), .val (.int nn), .val (.ref r), .val (.int av0), .val (.int av1), .val (.int av2), .val (.int av3), .val (.int av4), .val (.int ((((dv0 + dv1) + dv2) + dv3) + dv4)), .val (.int sv1), .val (.int sv2), .val (.int sv3), .val (.int sv4), .unset] [(.int lv0)]) G := fun tq kq => K822 tq (XS.icmpYes Xj793.here hx rfl (pc0 := 417) (pc' := 429) rfl (hb hby at_417) rfl ((feq hc823).2) (by decide) (by decide) kq)
        have K837 : Go p e below Tj793 (mkF m 430 #[.val (.int q0), .val (.int q1), .val (.int q2), .val (.int q3), .val (.int q4), .val (.int q5), .val (.int c0), .val (.int c1), .val (.int c2), .val (.int c3), .val (.int c4), .val (.int nn), .val (.ref r), .val (.int av0), .val (.int av1), .val (.int av2), .val (.int av3), .val (.int av4), .val (.int ((((dv0 + dv1) + dv2) + dv3) + dv4)), .val (.int sv1), .val (.int sv2), .val (.int sv3), .val (.int sv4), .unset] [(.int (0 : Int32)), (.int lv0)]) G := fun tq kq => K836 tq (XS.iconst Xj793.here hx rfl (hb hby at_429) kq)
        obtain ⟨v838, _, ⟨T838, L838, k838, n838⟩, -, X838, ⟨Lc838, hQ838, l838, y838, z838⟩, st838⟩ := Jvm.LawKit.callS Xj793 hx (y := (⟨"com/example/tallyrule/tallyrule/DecimalsSignificantDigitsPinLaw", "one", "(Z)I"⟩ : MethodName)) hown (mvT hZ (hW 44 _ rfl)) (mvT hZ (hW 45 _ rfl)) (mvT hZ (hW 2 _ rfl)) (mvT hZ (hW 46 _ rfl)) (by decide) (backOf (W := 1) (rmONE l Z a0 hw [] (0 : Int32) T479.heap n0 (Nat.le_trans Z0 K479q.1)) hZ (hW 46 _ rfl) (hW 2 _ rfl) (by decide) (by decide)) (g := (mkF m 430 #[.val (.int q0), .val (.int q1), .val (.int q2), .val (.int q3), .val (.int q4), .val (.int q5), .val (.int c0), .val (.int c1), .val (.int c2), .val (.int c3), .val (.int c4), .val (.int nn), .val (.ref r), .val (.int av0), .val (.int av1), .val (.int av2), .val (.int av3), .val (.int av4), .val (.int ((((dv0 + dv1) + dv2) + dv3) + dv4)), .val (.int sv1), .val (.int sv2), .val (.int sv3), .val (.int sv4), .unset] [(.int (0 : Int32)), (.int lv0)])) rfl (by rw [hml]; rfl) (argsL := [(.int (0 : Int32))]) (rest := [(.int lv0)]) (lenOf pd_275 rfl) rfl (by show 2 * 0 + _ ≤ _; exact Nat.le_of_eq rfl) (hb hby at_430) (fun _ _ => ⟨rfl, ej793, (by decide : 4 + 0 ≤ _), (by decide : 14 + 0 ≤ _)⟩)
        dsimp only [Pt.U, Pt.locs, Pt.cells, Pt.slots] at X838 l838 y838 z838 st838 hQ838
        subst l838 y838 z838
        rw [QONE, if_pos (rfl : (0 : Int32) = 0)] at hQ838
        obtain ⟨rfl, N838q, E838q⟩ := hQ838
        have N838 := Fr.app Nj793 N838q
        have K839 : Go p e below T838 (mkF m 433 #[.val (.int q0), .val (.int q1), .val (.int q2), .val (.int q3), .val (.int q4), .val (.int q5), .val (.int c0), .val (.int c1), .val (.int c2), .val (.int c3), .val (.int c4), .val (.int nn), .val (.ref r), .val (.int av0), .val (.int av1), .val (.int av2), .val (.int av3), .val (.int av4), .val (.int ((((dv0 + dv1) + dv2) + dv3) + dv4)), .val (.int sv1), .val (.int sv2), .val (.int sv3), .val (.int sv4), .unset] [(.int (0 : Int32)), (.int lv0)]) G := fun tq kq => K837 tq (st838 tq kq)
        refine ⟨T838, _, (0 : Int32), X838, E838q, N838, ?_, K839⟩
        exact (if_neg (fun z => hc823 (z.2.1))).symm
  have h_lv1 := hj813
  have K840 : Go p e below Tj813 (mkF m 434 #[.val (.int q0), .val (.int q1), .val (.int q2), .val (.int q3), .val (.int q4), .val (.int q5), .val (.int c0), .val (.int c1), .val (.int c2), .val (.int c3), .val (.int c4), .val (.int nn), .val (.ref r), .val (.int av0), .val (.int av1), .val (.int av2), .val (.int av3), .val (.int av4), .val (.int ((((dv0 + dv1) + dv2) + dv3) + dv4)), .val (.int sv1), .val (.int sv2), .val (.int sv3), .val (.int sv4), .unset] [(.int (lv0 + lv1))]) G := fun tq kq => Kj813 tq (XS.iadd Xj813.here hx rfl (hb hby at_433) rfl kq)
  obtain ⟨Tj841, Lj841, lv2, Xj841, ej841, Nj841, hj841, Kj841⟩ : ∃ (Tj : State) (Lj : List Loc) (lv2 : Int32), Stand p l e room_1 (s.setVm T479.vm) m #[(.int q0), (.int q1), (.int q2), (.int q3), (.int q4), (.int q5)] below meth c Tj Lj 4 14 ∧ Tj.heap = T479.heap ∧ Fr n0 Lj ∧ (lv2 = own_l av2 c2 sv2) ∧ Go p e below Tj (mkF m 459 #[.val (.int q0), .val (.int q1), .val (.int q2), .val (.int q3), .val (.int q4), .val (.int q5), .val (.int c0), .val (.int c1), .val (.int c2), .val (.int c3), .val (.int c4), .val (.int nn), .val (.ref r), .val (.int av0), .val (.int av1), .val (.int av2), .val (.int av3), .val (.int av4), .val (.int ((((dv0 + dv1) + dv2) + dv3) + dv4)), .val (.int sv1), .val (.int sv2), .val (.int sv3), .val (.int sv4), .unset] [(.int lv2), (.int (lv0 + lv1))]) G := by
    have K842 : Go p e below Tj813 (mkF m 436 #[.val (.int q0), .val (.int q1), .val (.int q2), .val (.int q3), .val (.int q4), .val (.int q5), .val (.int c0), .val (.int c1), .val (.int c2), .val (.int c3), .val (.int c4), .val (.int nn), .val (.ref r), .val (.int av0), .val (.int av1), .val (.int av2), .val (.int av3), .val (.int av4), .val (.int ((((dv0 + dv1) + dv2) + dv3) + dv4)), .val (.int sv1), .val (.int sv2), .val (.int sv3), .val (.int sv4), .unset] [(.int av2), (.int (lv0 + lv1))]) G := fun tq kq => K840 tq (XS.iload Xj813.here hx rfl (hb hby at_434) rfl kq)
    by_cases hc843 : av2 = (0 : Int32)
    · skip
      have K844 : Go p e below Tj813 (mkF m 455 #[.val (.int q0), .val (.int q1), .val (.int q2), .val (.int q3), .val (.int q4), .val (.int q5), .val (.int c0), .val (.int c1), .val (.int c2), .val (.int c3), .val (.int c4), .val (.int nn), .val (.ref r), .val (.int av0), .val (.int av1), .val (.int av2), .val (.int av3), .val (.int av4), .val (.int ((((dv0 + dv1) + dv2) + dv3) + dv4)), .val (.int sv1), .val (.int sv2), .val (.int sv3), .val (.int sv4), .unset] [(.int (lv0 + lv1))]) G := fun tq kq => K842 tq (XS.ifYes Xj813.here hx rfl (pc0 := 436) (pc' := 455) rfl (hb hby at_436) rfl ((if0 _ _).trans (teq hc843).1) (by decide) (by decide) kq)
      have K845 : Go p e below Tj813 (mkF m 456 #[.val (.int q0), .val (.int q1), .val (.int q2), .val (.int q3), .val (.int q4), .val (.int q5), .val (.int c0), .val (.int c1), .val (.int c2), .val (.int c3), .val (.int c4), .val (.int nn), .val (.ref r), .val (.int av0), .val (.int av1), .val (.int av2), .val (.int av3), .val (.int av4), .val (.int ((((dv0 + dv1) + dv2) + dv3) + dv4)), .val (.int sv1), .val (.int sv2), .val (.int sv3), .val (.int sv4), .unset] [(.int (0 : Int32)), (.int (lv0 + lv1))]) G := fun tq kq => K844 tq (XS.iconst Xj813.here hx rfl (hb hby at_455) kq)
      obtain ⟨v846, _, ⟨T846, L846, k846, n846⟩, -, X846, ⟨Lc846, hQ846, l846, y846, z846⟩, st846⟩ := Jvm.LawKit.callS Xj813 hx (y := (⟨"com/example/tallyrule/tallyrule/DecimalsSignificantDigitsPinLaw", "one", "(Z)I"⟩ : MethodName)) hown (mvT hZ (hW 44 _ rfl)) (mvT hZ (hW 45 _ rfl)) (mvT hZ (hW 2 _ rfl)) (mvT hZ (hW 46 _ rfl)) (by decide) (backOf (W := 1) (rmONE l Z a0 hw [] (0 : Int32) T479.heap n0 (Nat.le_trans Z0 K479q.1)) hZ (hW 46 _ rfl) (hW 2 _ rfl) (by decide) (by decide)) (g := (mkF m 456 #[.val (.int q0), .val (.int q1), .val (.int q2), .val (.int q3), .val (.int q4), .val (.int q5), .val (.int c0), .val (.int c1), .val (.int c2), .val (.int c3), .val (.int c4), .val (.int nn), .val (.ref r), .val (.int av0), .val (.int av1), .val (.int av2), .val (.int av3), .val (.int av4), .val (.int ((((dv0 + dv1) + dv2) + dv3) + dv4)), .val (.int sv1), .val (.int sv2), .val (.int sv3), .val (.int sv4), .unset] [(.int (0 : Int32)), (.int (lv0 + lv1))])) rfl (by rw [hml]; rfl) (argsL := [(.int (0 : Int32))]) (rest := [(.int (lv0 + lv1))]) (lenOf pd_275 rfl) rfl (by show 2 * 0 + _ ≤ _; exact Nat.le_of_eq rfl) (hb hby at_456) (fun _ _ => ⟨rfl, ej813, (by decide : 4 + 0 ≤ _), (by decide : 14 + 0 ≤ _)⟩)
      dsimp only [Pt.U, Pt.locs, Pt.cells, Pt.slots] at X846 l846 y846 z846 st846 hQ846
      subst l846 y846 z846
      rw [QONE, if_pos (rfl : (0 : Int32) = 0)] at hQ846
      obtain ⟨rfl, N846q, E846q⟩ := hQ846
      have N846 := Fr.app Nj813 N846q
      have K847 : Go p e below T846 (mkF m 459 #[.val (.int q0), .val (.int q1), .val (.int q2), .val (.int q3), .val (.int q4), .val (.int q5), .val (.int c0), .val (.int c1), .val (.int c2), .val (.int c3), .val (.int c4), .val (.int nn), .val (.ref r), .val (.int av0), .val (.int av1), .val (.int av2), .val (.int av3), .val (.int av4), .val (.int ((((dv0 + dv1) + dv2) + dv3) + dv4)), .val (.int sv1), .val (.int sv2), .val (.int sv3), .val (.int sv4), .unset] [(.int (0 : Int32)), (.int (lv0 + lv1))]) G := fun tq kq => K845 tq (st846 tq kq)
      refine ⟨T846, _, (0 : Int32), X846, E846q, N846, ?_, K847⟩
      exact (if_neg (fun z => z.1 hc843)).symm
    · skip
      have K848 : Go p e below Tj813 (mkF m 439 #[.val (.int q0), .val (.int q1), .val (.int q2), .val (.int q3), .val (.int q4), .val (.int q5), .val (.int c0), .val (.int c1), .val (.int c2), .val (.int c3), .val (.int c4), .val (.int nn), .val (.ref r), .val (.int av0), .val (.int av1), .val (.int av2), .val (.int av3), .val (.int av4), .val (.int ((((dv0 + dv1) + dv2) + dv3) + dv4)), .val (.int sv1), .val (.int sv2), .val (.int sv3), .val (.int sv4), .unset] [(.int (lv0 + lv1))]) G := fun tq kq => K842 tq (XS.ifNo Xj813.here hx rfl (hb hby at_436) rfl ((if0 _ _).trans (feq hc843).1) kq)
      have K849 : Go p e below Tj813 (mkF m 441 #[.val (.int q0), .val (.int q1), .val (.int q2), .val (.int q3), .val (.int q4), .val (.int q5), .val (.int c0), .val (.int c1), .val (.int c2), .val (.int c3), .val (.int c4), .val (.int nn), .val (.ref r), .val (.int av0), .val (.int av1), .val (.int av2), .val (.int av3), .val (.int av4), .val (.int ((((dv0 + dv1) + dv2) + dv3) + dv4)), .val (.int sv1), .val (.int sv2), .val (.int sv3), .val (.int sv4), .unset] [(.int c2), (.int (lv0 + lv1))]) G := fun tq kq => K848 tq (XS.iload Xj813.here hx rfl (hb hby at_439) rfl kq)
      have K850 : Go p e below Tj813 (mkF m 443 #[.val (.int q0), .val (.int q1), .val (.int q2), .val (.int q3), .val (.int q4), .val (.int q5), .val (.int c0), .val (.int c1), .val (.int c2), .val (.int c3), .val (.int c4), .val (.int nn), .val (.ref r), .val (.int av0), .val (.int av1), .val (.int av2), .val (.int av3), .val (.int av4), .val (.int ((((dv0 + dv1) + dv2) + dv3) + dv4)), .val (.int sv1), .val (.int sv2), .val (.int sv3), .val (.int sv4), .unset] [(.int (48 : Int32)), (.int c2), (.int (lv0 + lv1))]) G := fun tq kq => K849 tq (XS.bipush Xj813.here hx rfl (hb hby at_441) kq)
      by_cases hc851 : c2 = (48 : Int32)
      · skip
        have K852 : Go p e below Tj813 (mkF m 446 #[.val (.int q0), .val (.int q1), .val (.int q2), .val (.int q3), .val (.int q4), .val (.int q5), .val (.int c0), .val (.int c1), .val (.int c2), .val (.int c3), .val (.int c4), .val (.int nn), .val (.ref r), .val (.int av0), .val (.int av1), .val (.int av2), .val (.int av3), .val (.int av4), .val (.int ((((dv0 + dv1) + dv2) + dv3) + dv4)), .val (.int sv1), .val (.int sv2), .val (.int sv3), .val (.int sv4), .unset] [(.int (lv0 + lv1))]) G := fun tq kq => K850 tq (XS.icmpNo Xj813.here hx rfl (hb hby at_443) rfl ((teq hc851).2) kq)
        have K853 : Go p e below Tj813 (mkF m 448 #[.val (.int q0), .val (.int q1), .val (.int q2), .val (.int q3), .val (.int q4), .val (.int q5), .val (.int c0), .val (.int c1), .val (.int c2), .val (.int c3), .val (.int c4), .val (.int nn), .val (.ref r), .val (.int av0), .val (.int av1), .val (.int av2), .val (.int av3), .val (.int av4), .val (.int ((((dv0 + dv1) + dv2) + dv3) + dv4)), .val (.int sv1), .val (.int sv2), .val (.int sv3), .val (.int sv4), .unset] [(.int sv2), (.int (lv0 + lv1))]) G := fun tq kq => K852 tq (XS.iload Xj813.here hx rfl (hb hby at_446) rfl kq)
        by_cases hc854 : sv2 = (0 : Int32)
        · skip
          have K855 : Go p e below Tj813 (mkF m 451 #[.val (.int q0), .val (.int q1), .val (.int q2), .val (.int q3), .val (.int q4), .val (.int q5), .val (.int c0), .val (.int c1), .val (.int c2), .val (.int c3), .val (.int c4), .val (.int nn), .val (.ref r), .val (.int av0), .val (.int av1), .val (.int av2), .val (.int av3), .val (.int av4), .val (.int ((((dv0 + dv1) + dv2) + dv3) + dv4)), .val (.int sv1), .val (.int sv2), .val (.int sv3), .val (.int sv4), .unset] [(.int (lv0 + lv1))]) G := fun tq kq => K853 tq (XS.ifNo Xj813.here hx rfl (hb hby at_448) rfl ((if0 _ _).trans (teq hc854).2) kq)
          have K856 : Go p e below Tj813 (mkF m 452 #[.val (.int q0), .val (.int q1), .val (.int q2), .val (.int q3), .val (.int q4), .val (.int q5), .val (.int c0), .val (.int c1), .val (.int c2), .val (.int c3), .val (.int c4), .val (.int nn), .val (.ref r), .val (.int av0), .val (.int av1), .val (.int av2), .val (.int av3), .val (.int av4), .val (.int ((((dv0 + dv1) + dv2) + dv3) + dv4)), .val (.int sv1), .val (.int sv2), .val (.int sv3), .val (.int sv4), .unset] [(.int (1 : Int32)), (.int (lv0 + lv1))]) G := fun tq kq => K855 tq (XS.iconst Xj813.here hx rfl (hb hby at_451) kq)
          have K857 : Go p e below Tj813 (mkF m 456 #[.val (.int q0), .val (.int q1), .val (.int q2), .val (.int q3), .val (.int q4), .val (.int q5), .val (.int c0), .val (.int c1), .val (.int c2), .val (.int c3), .val (.int c4), .val (.int nn), .val (.ref r), .val (.int av0), .val (.int av1), .val (.int av2), .val (.int av3), .val (.int av4), .val (.int ((((dv0 + dv1) + dv2) + dv3) + dv4)), .val (.int sv1), .val (.int sv2), .val (.int sv3), .val (.int sv4), .unset] [(.int (1 : Int32)), (.int (lv0 + lv1))]) G := fun tq kq => K856 tq (XS.goto Xj813.here hx rfl (pc0 := 452) (pc' := 456) rfl (hb hby at_452) (by decide) (by decide) kq)
          obtain ⟨v858, _, ⟨T858, L858, k858, n858⟩, -, X858, ⟨Lc858, hQ858, l858, y858, z858⟩, st858⟩ := Jvm.LawKit.callS Xj813 hx (y := (⟨"com/example/tallyrule/tallyrule/DecimalsSignificantDigitsPinLaw", "one", "(Z)I"⟩ : MethodName)) hown (mvT hZ (hW 44 _ rfl)) (mvT hZ (hW 45 _ rfl)) (mvT hZ (hW 2 _ rfl)) (mvT hZ (hW 46 _ rfl)) (by decide) (backOf (W := 1) (rmONE l Z a0 hw [] (1 : Int32) T479.heap n0 (Nat.le_trans Z0 K479q.1)) hZ (hW 46 _ rfl) (hW 2 _ rfl) (by decide) (by decide)) (g := (mkF m 456 #[.val (.int q0), .val (.int q1), .val (.int q2), .val (.int q3), .val (.int q4), .val (.int q5), .val (.int c0), .val (.int c1), .val (.int c2), .val (.int c3), .val (.int c4), .val (.int nn), .val (.ref r), .val (.int av0), .val (.int av1), .val (.int av2), .val (.int av3), .val (.int av4), .val (.int ((((dv0 + dv1) + dv2) + dv3) + dv4)), .val (.int sv1), .val (.int sv2), .val (.int sv3), .val (.int sv4), .unset] [(.int (1 : Int32)), (.int (lv0 + lv1))])) rfl (by rw [hml]; rfl) (argsL := [(.int (1 : Int32))]) (rest := [(.int (lv0 + lv1))]) (lenOf pd_275 rfl) rfl (by show 2 * 0 + _ ≤ _; exact Nat.le_of_eq rfl) (hb hby at_456) (fun _ _ => ⟨rfl, ej813, (by decide : 4 + 0 ≤ _), (by decide : 14 + 0 ≤ _)⟩)
          dsimp only [Pt.U, Pt.locs, Pt.cells, Pt.slots] at X858 l858 y858 z858 st858 hQ858
          subst l858 y858 z858
          rw [QONE, if_neg (by decide : ¬ ((1 : Int32) = 0))] at hQ858
          obtain ⟨rfl, N858q, E858q⟩ := hQ858
          have N858 := Fr.app Nj813 N858q
          have K859 : Go p e below T858 (mkF m 459 #[.val (.int q0), .val (.int q1), .val (.int q2), .val (.int q3), .val (.int q4), .val (.int q5), .val (.int c0), .val (.int c1), .val (.int c2), .val (.int c3), .val (.int c4), .val (.int nn), .val (.ref r), .val (.int av0), .val (.int av1), .val (.int av2), .val (.int av3), .val (.int av4), .val (.int ((((dv0 + dv1) + dv2) + dv3) + dv4)), .val (.int sv1), .val (.int sv2), .val (.int sv3), .val (.int sv4), .unset] [(.int (1 : Int32)), (.int (lv0 + lv1))]) G := fun tq kq => K857 tq (st858 tq kq)
          refine ⟨T858, _, (1 : Int32), X858, E858q, N858, ?_, K859⟩
          exact (if_pos ⟨hc843, hc851, hc854⟩).symm
        · skip
          have K860 : Go p e below Tj813 (mkF m 455 #[.val (.int q0), .val (.int q1), .val (.int q2), .val (.int q3), .val (.int q4), .val (.int q5), .val (.int c0), .val (.int c1), .val (.int c2), .val (.int c3), .val (.int c4), .val (.int nn), .val (.ref r), .val (.int av0), .val (.int av1), .val (.int av2), .val (.int av3), .val (.int av4), .val (.int ((((dv0 + dv1) + dv2) + dv3) + dv4)), .val (.int sv1), .val (.int sv2), .val (.int sv3), .val (.int sv4), .unset] [(.int (lv0 + lv1))]) G := fun tq kq => K853 tq (XS.ifYes Xj813.here hx rfl (pc0 := 448) (pc' := 455) rfl (hb hby at_448) rfl ((if0 _ _).trans (feq hc854).2) (by decide) (by decide) kq)
          have K861 : Go p e below Tj813 (mkF m 456 #[.val (.int q0), .val (.int q1), .val (.int q2), .val (.int q3), .val (.int q4), .val (.int q5), .val (.int c0), .val (.int c1), .val (.int c2), .val (.int c3), .val (.int c4), .val (.int nn), .val (.ref r), .val (.int av0), .val (.int av1), .val (.int av2), .val (.int av3), .val (.int av4), .val (.int ((((dv0 + dv1) + dv2) + dv3) + dv4)), .val (.int sv1), .val (.int sv2), .val (.int sv3), .val (.int sv4), .unset] [(.int (0 : Int32)), (.int (lv0 + lv1))]) G := fun tq kq => K860 tq (XS.iconst Xj813.here hx rfl (hb hby at_455) kq)
          obtain ⟨v862, _, ⟨T862, L862, k862, n862⟩, -, X862, ⟨Lc862, hQ862, l862, y862, z862⟩, st862⟩ := Jvm.LawKit.callS Xj813 hx (y := (⟨"com/example/tallyrule/tallyrule/DecimalsSignificantDigitsPinLaw", "one", "(Z)I"⟩ : MethodName)) hown (mvT hZ (hW 44 _ rfl)) (mvT hZ (hW 45 _ rfl)) (mvT hZ (hW 2 _ rfl)) (mvT hZ (hW 46 _ rfl)) (by decide) (backOf (W := 1) (rmONE l Z a0 hw [] (0 : Int32) T479.heap n0 (Nat.le_trans Z0 K479q.1)) hZ (hW 46 _ rfl) (hW 2 _ rfl) (by decide) (by decide)) (g := (mkF m 456 #[.val (.int q0), .val (.int q1), .val (.int q2), .val (.int q3), .val (.int q4), .val (.int q5), .val (.int c0), .val (.int c1), .val (.int c2), .val (.int c3), .val (.int c4), .val (.int nn), .val (.ref r), .val (.int av0), .val (.int av1), .val (.int av2), .val (.int av3), .val (.int av4), .val (.int ((((dv0 + dv1) + dv2) + dv3) + dv4)), .val (.int sv1), .val (.int sv2), .val (.int sv3), .val (.int sv4), .unset] [(.int (0 : Int32)), (.int (lv0 + lv1))])) rfl (by rw [hml]; rfl) (argsL := [(.int (0 : Int32))]) (rest := [(.int (lv0 + lv1))]) (lenOf pd_275 rfl) rfl (by show 2 * 0 + _ ≤ _; exact Nat.le_of_eq rfl) (hb hby at_456) (fun _ _ => ⟨rfl, ej813, (by decide : 4 + 0 ≤ _), (by decide : 14 + 0 ≤ _)⟩)
          dsimp only [Pt.U, Pt.locs, Pt.cells, Pt.slots] at X862 l862 y862 z862 st862 hQ862
          subst l862 y862 z862
          rw [QONE, if_pos (rfl : (0 : Int32) = 0)] at hQ862
          obtain ⟨rfl, N862q, E862q⟩ := hQ862
          have N862 := Fr.app Nj813 N862q
          have K863 : Go p e below T862 (mkF m 459 #[.val (.int q0), .val (.int q1), .val (.int q2), .val (.int q3), .val (.int q4), .val (.int q5), .val (.int c0), .val (.int c1), .val (.int c2), .val (.int c3), .val (.int c4), .val (.int nn), .val (.ref r), .val (.int av0), .val (.int av1), .val (.int av2), .val (.int av3), .val (.int av4), .val (.int ((((dv0 + dv1) + dv2) + dv3) + dv4)), .val (.int sv1), .val (.int sv2), .val (.int sv3), .val (.int sv4), .unset] [(.int (0 : Int32)), (.int (lv0 + lv1))]) G := fun tq kq => K861 tq (st862 tq kq)
          refine ⟨T862, _, (0 : Int32), X862, E862q, N862, ?_, K863⟩
          exact (if_neg (fun z => hc854 (z.2.2))).symm
      · skip
        have K864 : Go p e below Tj813 (mkF m 455 #[.val (.int q0), .val (.int q1), .val (.int q2), .val (.int q3), .val (.int q4), .val (.int q5), .val (.int c0), .val (.int c1), .val (.int c2), .val (.int c3), .val (.int c4), .val (.int nn), .val (.ref r), .val (.int av0), .val (.int av1), .val (.int av2), .val (.int av3), .val (.int av4), .val (.int ((((dv0 + dv1) + dv2) + dv3) + dv4)), .val (.int sv1), .val (.int sv2), .val (.int sv3), .val (.int sv4), .unset] [(.int (lv0 + lv1))]) G := fun tq kq => K850 tq (XS.icmpYes Xj813.here hx rfl (pc0 := 443) (pc' := 455) rfl (hb hby at_443) rfl ((feq hc851).2) (by decide) (by decide) kq)
        have K865 : Go p e below Tj813 (mkF m 456 #[.val (.int q0), .val (.int q1), .val (.int q2), .val (.int q3), .val (.int q4), .val (.int q5), .val (.int c0), .val (.int c1), .val (.int c2), .val (.int c3), .val (.int c4), .val (.int nn), .val (.ref r), .val (.int av0), .val (.int av1), .val (.int av2), .val (.int av3), .val (.int av4), .val (.int ((((dv0 + dv1) + dv2) + dv3) + dv4)), .val (.int sv1), .val (.int sv2), .val (.int sv3), .val (.int sv4), .unset] [(.int (0 : Int32)), (.int (lv0 + lv1))]) G := fun tq kq => K864 tq (XS.iconst Xj813.here hx rfl (hb hby at_455) kq)
        obtain ⟨v866, _, ⟨T866, L866, k866, n866⟩, -, X866, ⟨Lc866, hQ866, l866, y866, z866⟩, st866⟩ := Jvm.LawKit.callS Xj813 hx (y := (⟨"com/example/tallyrule/tallyrule/DecimalsSignificantDigitsPinLaw", "one", "(Z)I"⟩ : MethodName)) hown (mvT hZ (hW 44 _ rfl)) (mvT hZ (hW 45 _ rfl)) (mvT hZ (hW 2 _ rfl)) (mvT hZ (hW 46 _ rfl)) (by decide) (backOf (W := 1) (rmONE l Z a0 hw [] (0 : Int32) T479.heap n0 (Nat.le_trans Z0 K479q.1)) hZ (hW 46 _ rfl) (hW 2 _ rfl) (by decide) (by decide)) (g := (mkF m 456 #[.val (.int q0), .val (.int q1), .val (.int q2), .val (.int q3), .val (.int q4), .val (.int q5), .val (.int c0), .val (.int c1), .val (.int c2), .val (.int c3), .val (.int c4), .val (.int nn), .val (.ref r), .val (.int av0), .val (.int av1), .val (.int av2), .val (.int av3), .val (.int av4), .val (.int ((((dv0 + dv1) + dv2) + dv3) + dv4)), .val (.int sv1), .val (.int sv2), .val (.int sv3), .val (.int sv4), .unset] [(.int (0 : Int32)), (.int (lv0 + lv1))])) rfl (by rw [hml]; rfl) (argsL := [(.int (0 : Int32))]) (rest := [(.int (lv0 + lv1))]) (lenOf pd_275 rfl) rfl (by show 2 * 0 + _ ≤ _; exact Nat.le_of_eq rfl) (hb hby at_456) (fun _ _ => ⟨rfl, ej813, (by decide : 4 + 0 ≤ _), (by decide : 14 + 0 ≤ _)⟩)
        dsimp only [Pt.U, Pt.locs, Pt.cells, Pt.slots] at X866 l866 y866 z866 st866 hQ866
        subst l866 y866 z866
        rw [QONE, if_pos (rfl : (0 : Int32) = 0)] at hQ866
        obtain ⟨rfl, N866q, E866q⟩ := hQ866
        have N866 := Fr.app Nj813 N866q
        have K867 : Go p e below T866 (mkF m 459 #[.val (.int q0), .val (.int q1), .val (.int q2), .val (.int q3), .val (.int q4), .val (.int q5), .val (.int c0), .val (.int c1), .val (.int c2), .val (.int c3), .val (.int c4), .val (.int nn), .val (.ref r), .val (.int av0), .val (.int av1), .val (.int av2), .val (.int av3), .val (.int av4), .val (.int ((((dv0 + dv1) + dv2) + dv3) + dv4)), .val (.int sv1), .val (.int sv2), .val (.int sv3), .val (.int sv4), .unset] [(.int (0 : Int32)), (.int (lv0 + lv1))]) G := fun tq kq => K865 tq (st866 tq kq)
        refine ⟨T866, _, (0 : Int32), X866, E866q, N866, ?_, K867⟩
        exact (if_neg (fun z => hc851 (z.2.1))).symm
  have h_lv2 := hj841
  have K868 : Go p e below Tj841 (mkF m 460 #[.val (.int q0), .val (.int q1), .val (.int q2), .val (.int q3), .val (.int q4), .val (.int q5), .val (.int c0), .val (.int c1), .val (.int c2), .val (.int c3), .val (.int c4), .val (.int nn), .val (.ref r), .val (.int av0), .val (.int av1), .val (.int av2), .val (.int av3), .val (.int av4), .val (.int ((((dv0 + dv1) + dv2) + dv3) + dv4)), .val (.int sv1), .val (.int sv2), .val (.int sv3), .val (.int sv4), .unset] [(.int ((lv0 + lv1) + lv2))]) G := fun tq kq => Kj841 tq (XS.iadd Xj841.here hx rfl (hb hby at_459) rfl kq)
  obtain ⟨Tj869, Lj869, lv3, Xj869, ej869, Nj869, hj869, Kj869⟩ : ∃ (Tj : State) (Lj : List Loc) (lv3 : Int32), Stand p l e room_1 (s.setVm T479.vm) m #[(.int q0), (.int q1), (.int q2), (.int q3), (.int q4), (.int q5)] below meth c Tj Lj 4 14 ∧ Tj.heap = T479.heap ∧ Fr n0 Lj ∧ (lv3 = own_l av3 c3 sv3) ∧ Go p e below Tj (mkF m 485 #[.val (.int q0), .val (.int q1), .val (.int q2), .val (.int q3), .val (.int q4), .val (.int q5), .val (.int c0), .val (.int c1), .val (.int c2), .val (.int c3), .val (.int c4), .val (.int nn), .val (.ref r), .val (.int av0), .val (.int av1), .val (.int av2), .val (.int av3), .val (.int av4), .val (.int ((((dv0 + dv1) + dv2) + dv3) + dv4)), .val (.int sv1), .val (.int sv2), .val (.int sv3), .val (.int sv4), .unset] [(.int lv3), (.int ((lv0 + lv1) + lv2))]) G := by
    have K870 : Go p e below Tj841 (mkF m 462 #[.val (.int q0), .val (.int q1), .val (.int q2), .val (.int q3), .val (.int q4), .val (.int q5), .val (.int c0), .val (.int c1), .val (.int c2), .val (.int c3), .val (.int c4), .val (.int nn), .val (.ref r), .val (.int av0), .val (.int av1), .val (.int av2), .val (.int av3), .val (.int av4), .val (.int ((((dv0 + dv1) + dv2) + dv3) + dv4)), .val (.int sv1), .val (.int sv2), .val (.int sv3), .val (.int sv4), .unset] [(.int av3), (.int ((lv0 + lv1) + lv2))]) G := fun tq kq => K868 tq (XS.iload Xj841.here hx rfl (hb hby at_460) rfl kq)
    by_cases hc871 : av3 = (0 : Int32)
    · skip
      have K872 : Go p e below Tj841 (mkF m 481 #[.val (.int q0), .val (.int q1), .val (.int q2), .val (.int q3), .val (.int q4), .val (.int q5), .val (.int c0), .val (.int c1), .val (.int c2), .val (.int c3), .val (.int c4), .val (.int nn), .val (.ref r), .val (.int av0), .val (.int av1), .val (.int av2), .val (.int av3), .val (.int av4), .val (.int ((((dv0 + dv1) + dv2) + dv3) + dv4)), .val (.int sv1), .val (.int sv2), .val (.int sv3), .val (.int sv4), .unset] [(.int ((lv0 + lv1) + lv2))]) G := fun tq kq => K870 tq (XS.ifYes Xj841.here hx rfl (pc0 := 462) (pc' := 481) rfl (hb hby at_462) rfl ((if0 _ _).trans (teq hc871).1) (by decide) (by decide) kq)
      have K873 : Go p e below Tj841 (mkF m 482 #[.val (.int q0), .val (.int q1), .val (.int q2), .val (.int q3), .val (.int q4), .val (.int q5), .val (.int c0), .val (.int c1), .val (.int c2), .val (.int c3), .val (.int c4), .val (.int nn), .val (.ref r), .val (.int av0), .val (.int av1), .val (.int av2), .val (.int av3), .val (.int av4), .val (.int ((((dv0 + dv1) + dv2) + dv3) + dv4)), .val (.int sv1), .val (.int sv2), .val (.int sv3), .val (.int sv4), .unset] [(.int (0 : Int32)), (.int ((lv0 + lv1) + lv2))]) G := fun tq kq => K872 tq (XS.iconst Xj841.here hx rfl (hb hby at_481) kq)
      obtain ⟨v874, _, ⟨T874, L874, k874, n874⟩, -, X874, ⟨Lc874, hQ874, l874, y874, z874⟩, st874⟩ := Jvm.LawKit.callS Xj841 hx (y := (⟨"com/example/tallyrule/tallyrule/DecimalsSignificantDigitsPinLaw", "one", "(Z)I"⟩ : MethodName)) hown (mvT hZ (hW 44 _ rfl)) (mvT hZ (hW 45 _ rfl)) (mvT hZ (hW 2 _ rfl)) (mvT hZ (hW 46 _ rfl)) (by decide) (backOf (W := 1) (rmONE l Z a0 hw [] (0 : Int32) T479.heap n0 (Nat.le_trans Z0 K479q.1)) hZ (hW 46 _ rfl) (hW 2 _ rfl) (by decide) (by decide)) (g := (mkF m 482 #[.val (.int q0), .val (.int q1), .val (.int q2), .val (.int q3), .val (.int q4), .val (.int q5), .val (.int c0), .val (.int c1), .val (.int c2), .val (.int c3), .val (.int c4), .val (.int nn), .val (.ref r), .val (.int av0), .val (.int av1), .val (.int av2), .val (.int av3), .val (.int av4), .val (.int ((((dv0 + dv1) + dv2) + dv3) + dv4)), .val (.int sv1), .val (.int sv2), .val (.int sv3), .val (.int sv4), .unset] [(.int (0 : Int32)), (.int ((lv0 + lv1) + lv2))])) rfl (by rw [hml]; rfl) (argsL := [(.int (0 : Int32))]) (rest := [(.int ((lv0 + lv1) + lv2))]) (lenOf pd_275 rfl) rfl (by show 2 * 0 + _ ≤ _; exact Nat.le_of_eq rfl) (hb hby at_482) (fun _ _ => ⟨rfl, ej841, (by decide : 4 + 0 ≤ _), (by decide : 14 + 0 ≤ _)⟩)
      dsimp only [Pt.U, Pt.locs, Pt.cells, Pt.slots] at X874 l874 y874 z874 st874 hQ874
      subst l874 y874 z874
      rw [QONE, if_pos (rfl : (0 : Int32) = 0)] at hQ874
      obtain ⟨rfl, N874q, E874q⟩ := hQ874
      have N874 := Fr.app Nj841 N874q
      have K875 : Go p e below T874 (mkF m 485 #[.val (.int q0), .val (.int q1), .val (.int q2), .val (.int q3), .val (.int q4), .val (.int q5), .val (.int c0), .val (.int c1), .val (.int c2), .val (.int c3), .val (.int c4), .val (.int nn), .val (.ref r), .val (.int av0), .val (.int av1), .val (.int av2), .val (.int av3), .val (.int av4), .val (.int ((((dv0 + dv1) + dv2) + dv3) + dv4)), .val (.int sv1), .val (.int sv2), .val (.int sv3), .val (.int sv4), .unset] [(.int (0 : Int32)), (.int ((lv0 + lv1) + lv2))]) G := fun tq kq => K873 tq (st874 tq kq)
      refine ⟨T874, _, (0 : Int32), X874, E874q, N874, ?_, K875⟩
      exact (if_neg (fun z => z.1 hc871)).symm
    · skip
      have K876 : Go p e below Tj841 (mkF m 465 #[.val (.int q0), .val (.int q1), .val (.int q2), .val (.int q3), .val (.int q4), .val (.int q5), .val (.int c0), .val (.int c1), .val (.int c2), .val (.int c3), .val (.int c4), .val (.int nn), .val (.ref r), .val (.int av0), .val (.int av1), .val (.int av2), .val (.int av3), .val (.int av4), .val (.int ((((dv0 + dv1) + dv2) + dv3) + dv4)), .val (.int sv1), .val (.int sv2), .val (.int sv3), .val (.int sv4), .unset] [(.int ((lv0 + lv1) + lv2))]) G := fun tq kq => K870 tq (XS.ifNo Xj841.here hx rfl (hb hby at_462) rfl ((if0 _ _).trans (feq hc871).1) kq)
      have K877 : Go p e below Tj841 (mkF m 467 #[.val (.int q0), .val (.int q1), .val (.int q2), .val (.int q3), .val (.int q4), .val (.int q5), .val (.int c0), .val (.int c1), .val (.int c2), .val (.int c3), .val (.int c4), .val (.int nn), .val (.ref r), .val (.int av0), .val (.int av1), .val (.int av2), .val (.int av3), .val (.int av4), .val (.int ((((dv0 + dv1) + dv2) + dv3) + dv4)), .val (.int sv1), .val (.int sv2), .val (.int sv3), .val (.int sv4), .unset] [(.int c3), (.int ((lv0 + lv1) + lv2))]) G := fun tq kq => K876 tq (XS.iload Xj841.here hx rfl (hb hby at_465) rfl kq)
      have K878 : Go p e below Tj841 (mkF m 469 #[.val (.int q0), .val (.int q1), .val (.int q2), .val (.int q3), .val (.int q4), .val (.int q5), .val (.int c0), .val (.int c1), .val (.int c2), .val (.int c3), .val (.int c4), .val (.int nn), .val (.ref r), .val (.int av0), .val (.int av1), .val (.int av2), .val (.int av3), .val (.int av4), .val (.int ((((dv0 + dv1) + dv2) + dv3) + dv4)), .val (.int sv1), .val (.int sv2), .val (.int sv3), .val (.int sv4), .unset] [(.int (48 : Int32)), (.int c3), (.int ((lv0 + lv1) + lv2))]) G := fun tq kq => K877 tq (XS.bipush Xj841.here hx rfl (hb hby at_467) kq)
      by_cases hc879 : c3 = (48 : Int32)
      · skip
        have K880 : Go p e below Tj841 (mkF m 472 #[.val (.int q0), .val (.int q1), .val (.int q2), .val (.int q3), .val (.int q4), .val (.int q5), .val (.int c0), .val (.int c1), .val (.int c2), .val (.int c3), .val (.int c4), .val (.int nn), .val (.ref r), .val (.int av0), .val (.int av1), .val (.int av2), .val (.int av3), .val (.int av4), .val (.int ((((dv0 + dv1) + dv2) + dv3) + dv4)), .val (.int sv1), .val (.int sv2), .val (.int sv3), .val (.int sv4), .unset] [(.int ((lv0 + lv1) + lv2))]) G := fun tq kq => K878 tq (XS.icmpNo Xj841.here hx rfl (hb hby at_469) rfl ((teq hc879).2) kq)
        have K881 : Go p e below Tj841 (mkF m 474 #[.val (.int q0), .val (.int q1), .val (.int q2), .val (.int q3), .val (.int q4), .val (.int q5), .val (.int c0), .val (.int c1), .val (.int c2), .val (.int c3), .val (.int c4), .val (.int nn), .val (.ref r), .val (.int av0), .val (.int av1), .val (.int av2), .val (.int av3), .val (.int av4), .val (.int ((((dv0 + dv1) + dv2) + dv3) + dv4)), .val (.int sv1), .val (.int sv2), .val (.int sv3), .val (.int sv4), .unset] [(.int sv3), (.int ((lv0 + lv1) + lv2))]) G := fun tq kq => K880 tq (XS.iload Xj841.here hx rfl (hb hby at_472) rfl kq)
        by_cases hc882 : sv3 = (0 : Int32)
        · skip
          have K883 : Go p e below Tj841 (mkF m 477 #[.val (.int q0), .val (.int q1), .val (.int q2), .val (.int q3), .val (.int q4), .val (.int q5), .val (.int c0), .val (.int c1), .val (.int c2), .val (.int c3), .val (.int c4), .val (.int nn), .val (.ref r), .val (.int av0), .val (.int av1), .val (.int av2), .val (.int av3), .val (.int av4), .val (.int ((((dv0 + dv1) + dv2) + dv3) + dv4)), .val (.int sv1), .val (.int sv2), .val (.int sv3), .val (.int sv4), .unset] [(.int ((lv0 + lv1) + lv2))]) G := fun tq kq => K881 tq (XS.ifNo Xj841.here hx rfl (hb hby at_474) rfl ((if0 _ _).trans (teq hc882).2) kq)
          have K884 : Go p e below Tj841 (mkF m 478 #[.val (.int q0), .val (.int q1), .val (.int q2), .val (.int q3), .val (.int q4), .val (.int q5), .val (.int c0), .val (.int c1), .val (.int c2), .val (.int c3), .val (.int c4), .val (.int nn), .val (.ref r), .val (.int av0), .val (.int av1), .val (.int av2), .val (.int av3), .val (.int av4), .val (.int ((((dv0 + dv1) + dv2) + dv3) + dv4)), .val (.int sv1), .val (.int sv2), .val (.int sv3), .val (.int sv4), .unset] [(.int (1 : Int32)), (.int ((lv0 + lv1) + lv2))]) G := fun tq kq => K883 tq (XS.iconst Xj841.here hx rfl (hb hby at_477) kq)
          have K885 : Go p e below Tj841 (mkF m 482 #[.val (.int q0), .val (.int q1), .val (.int q2), .val (.int q3), .val (.int q4), .val (.int q5), .val (.int c0), .val (.int c1), .val (.int c2), .val (.int c3), .val (.int c4), .val (.int nn), .val (.ref r), .val (.int av0), .val (.int av1), .val (.int av2), .val (.int av3), .val (.int av4), .val (.int ((((dv0 + dv1) + dv2) + dv3) + dv4)), .val (.int sv1), .val (.int sv2), .val (.int sv3), .val (.int sv4), .unset] [(.int (1 : Int32)), (.int ((lv0 + lv1) + lv2))]) G := fun tq kq => K884 tq (XS.goto Xj841.here hx rfl (pc0 := 478) (pc' := 482) rfl (hb hby at_478) (by decide) (by decide) kq)
          obtain ⟨v886, _, ⟨T886, L886, k886, n886⟩, -, X886, ⟨Lc886, hQ886, l886, y886, z886⟩, st886⟩ := Jvm.LawKit.callS Xj841 hx (y := (⟨"com/example/tallyrule/tallyrule/DecimalsSignificantDigitsPinLaw", "one", "(Z)I"⟩ : MethodName)) hown (mvT hZ (hW 44 _ rfl)) (mvT hZ (hW 45 _ rfl)) (mvT hZ (hW 2 _ rfl)) (mvT hZ (hW 46 _ rfl)) (by decide) (backOf (W := 1) (rmONE l Z a0 hw [] (1 : Int32) T479.heap n0 (Nat.le_trans Z0 K479q.1)) hZ (hW 46 _ rfl) (hW 2 _ rfl) (by decide) (by decide)) (g := (mkF m 482 #[.val (.int q0), .val (.int q1), .val (.int q2), .val (.int q3), .val (.int q4), .val (.int q5), .val (.int c0), .val (.int c1), .val (.int c2), .val (.int c3), .val (.int c4), .val (.int nn), .val (.ref r), .val (.int av0), .val (.int av1), .val (.int av2), .val (.int av3), .val (.int av4), .val (.int ((((dv0 + dv1) + dv2) + dv3) + dv4)), .val (.int sv1), .val (.int sv2), .val (.int sv3), .val (.int sv4), .unset] [(.int (1 : Int32)), (.int ((lv0 + lv1) + lv2))])) rfl (by rw [hml]; rfl) (argsL := [(.int (1 : Int32))]) (rest := [(.int ((lv0 + lv1) + lv2))]) (lenOf pd_275 rfl) rfl (by show 2 * 0 + _ ≤ _; exact Nat.le_of_eq rfl) (hb hby at_482) (fun _ _ => ⟨rfl, ej841, (by decide : 4 + 0 ≤ _), (by decide : 14 + 0 ≤ _)⟩)
          dsimp only [Pt.U, Pt.locs, Pt.cells, Pt.slots] at X886 l886 y886 z886 st886 hQ886
          subst l886 y886 z886
          rw [QONE, if_neg (by decide : ¬ ((1 : Int32) = 0))] at hQ886
          obtain ⟨rfl, N886q, E886q⟩ := hQ886
          have N886 := Fr.app Nj841 N886q
          have K887 : Go p e below T886 (mkF m 485 #[.val (.int q0), .val (.int q1), .val (.int q2), .val (.int q3), .val (.int q4), .val (.int q5), .val (.int c0), .val (.int c1), .val (.int c2), .val (.int c3), .val (.int c4), .val (.int nn), .val (.ref r), .val (.int av0), .val (.int av1), .val (.int av2), .val (.int av3), .val (.int av4), .val (.int ((((dv0 + dv1) + dv2) + dv3) + dv4)), .val (.int sv1), .val (.int sv2), .val (.int sv3), .val (.int sv4), .unset] [(.int (1 : Int32)), (.int ((lv0 + lv1) + lv2))]) G := fun tq kq => K885 tq (st886 tq kq)
          refine ⟨T886, _, (1 : Int32), X886, E886q, N886, ?_, K887⟩
          exact (if_pos ⟨hc871, hc879, hc882⟩).symm
        · skip
          have K888 : Go p e below Tj841 (mkF m 481 #[.val (.int q0), .val (.int q1), .val (.int q2), .val (.int q3), .val (.int q4), .val (.int q5), .val (.int c0), .val (.int c1), .val (.int c2), .val (.int c3), .val (.int c4), .val (.int nn), .val (.ref r), .val (.int av0), .val (.int av1), .val (.int av2), .val (.int av3), .val (.int av4), .val (.int ((((dv0 + dv1) + dv2) + dv3) + dv4)), .val (.int sv1), .val (.int sv2), .val (.int sv3), .val (.int sv4), .unset] [(.int ((lv0 + lv1) + lv2))]) G := fun tq kq => K881 tq (XS.ifYes Xj841.here hx rfl (pc0 := 474) (pc' := 481) rfl (hb hby at_474) rfl ((if0 _ _).trans (feq hc882).2) (by decide) (by decide) kq)
          have K889 : Go p e below Tj841 (mkF m 482 #[.val (.int q0), .val (.int q1), .val (.int q2), .val (.int q3), .val (.int q4), .val (.int q5), .val (.int c0), .val (.int c1), .val (.int c2), .val (.int c3), .val (.int c4), .val (.int nn), .val (.ref r), .val (.int av0), .val (.int av1), .val (.int av2), .val (.int av3), .val (.int av4), .val (.int ((((dv0 + dv1) + dv2) + dv3) + dv4)), .val (.int sv1), .val (.int sv2), .val (.int sv3), .val (.int sv4), .unset] [(.int (0 : Int32)), (.int ((lv0 + lv1) + lv2))]) G := fun tq kq => K888 tq (XS.iconst Xj841.here hx rfl (hb hby at_481) kq)
          obtain ⟨v890, _, ⟨T890, L890, k890, n890⟩, -, X890, ⟨Lc890, hQ890, l890, y890, z890⟩, st890⟩ := Jvm.LawKit.callS Xj841 hx (y := (⟨"com/example/tallyrule/tallyrule/DecimalsSignificantDigitsPinLaw", "one", "(Z)I"⟩ : MethodName)) hown (mvT hZ (hW 44 _ rfl)) (mvT hZ (hW 45 _ rfl)) (mvT hZ (hW 2 _ rfl)) (mvT hZ (hW 46 _ rfl)) (by decide) (backOf (W := 1) (rmONE l Z a0 hw [] (0 : Int32) T479.heap n0 (Nat.le_trans Z0 K479q.1)) hZ (hW 46 _ rfl) (hW 2 _ rfl) (by decide) (by decide)) (g := (mkF m 482 #[.val (.int q0), .val (.int q1), .val (.int q2), .val (.int q3), .val (.int q4), .val (.int q5), .val (.int c0), .val (.int c1), .val (.int c2), .val (.int c3), .val (.int c4), .val (.int nn), .val (.ref r), .val (.int av0), .val (.int av1), .val (.int av2), .val (.int av3), .val (.int av4), .val (.int ((((dv0 + dv1) + dv2) + dv3) + dv4)), .val (.int sv1), .val (.int sv2), .val (.int sv3), .val (.int sv4), .unset] [(.int (0 : Int32)), (.int ((lv0 + lv1) + lv2))])) rfl (by rw [hml]; rfl) (argsL := [(.int (0 : Int32))]) (rest := [(.int ((lv0 + lv1) + lv2))]) (lenOf pd_275 rfl) rfl (by show 2 * 0 + _ ≤ _; exact Nat.le_of_eq rfl) (hb hby at_482) (fun _ _ => ⟨rfl, ej841, (by decide : 4 + 0 ≤ _), (by decide : 14 + 0 ≤ _)⟩)
          dsimp only [Pt.U, Pt.locs, Pt.cells, Pt.slots] at X890 l890 y890 z890 st890 hQ890
          subst l890 y890 z890
          rw [QONE, if_pos (rfl : (0 : Int32) = 0)] at hQ890
          obtain ⟨rfl, N890q, E890q⟩ := hQ890
          have N890 := Fr.app Nj841 N890q
          have K891 : Go p e below T890 (mkF m 485 #[.val (.int q0), .val (.int q1), .val (.int q2), .val (.int q3), .val (.int q4), .val (.int q5), .val (.int c0), .val (.int c1), .val (.int c2), .val (.int c3), .val (.int c4), .val (.int nn), .val (.ref r), .val (.int av0), .val (.int av1), .val (.int av2), .val (.int av3), .val (.int av4), .val (.int ((((dv0 + dv1) + dv2) + dv3) + dv4)), .val (.int sv1), .val (.int sv2), .val (.int sv3), .val (.int sv4), .unset] [(.int (0 : Int32)), (.int ((lv0 + lv1) + lv2))]) G := fun tq kq => K889 tq (st890 tq kq)
          refine ⟨T890, _, (0 : Int32), X890, E890q, N890, ?_, K891⟩
          exact (if_neg (fun z => hc882 (z.2.2))).symm
      · skip
        have K892 : Go p e below Tj841 (mkF m 481 #[.val (.int q0), .val (.int q1), .val (.int q2), .val (.int q3), .val (.int q4), .val (.int q5), .val (.int c0), .val (.int c1), .val (.int c2), .val (.int c3), .val (.int c4), .val (.int nn), .val (.ref r), .val (.int av0), .val (.int av1), .val (.int av2), .val (.int av3), .val (.int av4), .val (.int ((((dv0 + dv1) + dv2) + dv3) + dv4)), .val (.int sv1), .val (.int sv2), .val (.int sv3), .val (.int sv4), .unset] [(.int ((lv0 + lv1) + lv2))]) G := fun tq kq => K878 tq (XS.icmpYes Xj841.here hx rfl (pc0 := 469) (pc' := 481) rfl (hb hby at_469) rfl ((feq hc879).2) (by decide) (by decide) kq)
        have K893 : Go p e below Tj841 (mkF m 482 #[.val (.int q0), .val (.int q1), .val (.int q2), .val (.int q3), .val (.int q4), .val (.int q5), .val (.int c0), .val (.int c1), .val (.int c2), .val (.int c3), .val (.int c4), .val (.int nn), .val (.ref r), .val (.int av0), .val (.int av1), .val (.int av2), .val (.int av3), .val (.int av4), .val (.int ((((dv0 + dv1) + dv2) + dv3) + dv4)), .val (.int sv1), .val (.int sv2), .val (.int sv3), .val (.int sv4), .unset] [(.int (0 : Int32)), (.int ((lv0 + lv1) + lv2))]) G := fun tq kq => K892 tq (XS.iconst Xj841.here hx rfl (hb hby at_481) kq)
        obtain ⟨v894, _, ⟨T894, L894, k894, n894⟩, -, X894, ⟨Lc894, hQ894, l894, y894, z894⟩, st894⟩ := Jvm.LawKit.callS Xj841 hx (y := (⟨"com/example/tallyrule/tallyrule/DecimalsSignificantDigitsPinLaw", "one", "(Z)I"⟩ : MethodName)) hown (mvT hZ (hW 44 _ rfl)) (mvT hZ (hW 45 _ rfl)) (mvT hZ (hW 2 _ rfl)) (mvT hZ (hW 46 _ rfl)) (by decide) (backOf (W := 1) (rmONE l Z a0 hw [] (0 : Int32) T479.heap n0 (Nat.le_trans Z0 K479q.1)) hZ (hW 46 _ rfl) (hW 2 _ rfl) (by decide) (by decide)) (g := (mkF m 482 #[.val (.int q0), .val (.int q1), .val (.int q2), .val (.int q3), .val (.int q4), .val (.int q5), .val (.int c0), .val (.int c1), .val (.int c2), .val (.int c3), .val (.int c4), .val (.int nn), .val (.ref r), .val (.int av0), .val (.int av1), .val (.int av2), .val (.int av3), .val (.int av4), .val (.int ((((dv0 + dv1) + dv2) + dv3) + dv4)), .val (.int sv1), .val (.int sv2), .val (.int sv3), .val (.int sv4), .unset] [(.int (0 : Int32)), (.int ((lv0 + lv1) + lv2))])) rfl (by rw [hml]; rfl) (argsL := [(.int (0 : Int32))]) (rest := [(.int ((lv0 + lv1) + lv2))]) (lenOf pd_275 rfl) rfl (by show 2 * 0 + _ ≤ _; exact Nat.le_of_eq rfl) (hb hby at_482) (fun _ _ => ⟨rfl, ej841, (by decide : 4 + 0 ≤ _), (by decide : 14 + 0 ≤ _)⟩)
        dsimp only [Pt.U, Pt.locs, Pt.cells, Pt.slots] at X894 l894 y894 z894 st894 hQ894
        subst l894 y894 z894
        rw [QONE, if_pos (rfl : (0 : Int32) = 0)] at hQ894
        obtain ⟨rfl, N894q, E894q⟩ := hQ894
        have N894 := Fr.app Nj841 N894q
        have K895 : Go p e below T894 (mkF m 485 #[.val (.int q0), .val (.int q1), .val (.int q2), .val (.int q3), .val (.int q4), .val (.int q5), .val (.int c0), .val (.int c1), .val (.int c2), .val (.int c3), .val (.int c4), .val (.int nn), .val (.ref r), .val (.int av0), .val (.int av1), .val (.int av2), .val (.int av3), .val (.int av4), .val (.int ((((dv0 + dv1) + dv2) + dv3) + dv4)), .val (.int sv1), .val (.int sv2), .val (.int sv3), .val (.int sv4), .unset] [(.int (0 : Int32)), (.int ((lv0 + lv1) + lv2))]) G := fun tq kq => K893 tq (st894 tq kq)
        refine ⟨T894, _, (0 : Int32), X894, E894q, N894, ?_, K895⟩
        exact (if_neg (fun z => hc879 (z.2.1))).symm
  have h_lv3 := hj869
  have K896 : Go p e below Tj869 (mkF m 486 #[.val (.int q0), .val (.int q1), .val (.int q2), .val (.int q3), .val (.int q4), .val (.int q5), .val (.int c0), .val (.int c1), .val (.int c2), .val (.int c3), .val (.int c4), .val (.int nn), .val (.ref r), .val (.int av0), .val (.int av1), .val (.int av2), .val (.int av3), .val (.int av4), .val (.int ((((dv0 + dv1) + dv2) + dv3) + dv4)), .val (.int sv1), .val (.int sv2), .val (.int sv3), .val (.int sv4), .unset] [(.int (((lv0 + lv1) + lv2) + lv3))]) G := fun tq kq => Kj869 tq (XS.iadd Xj869.here hx rfl (hb hby at_485) rfl kq)
  obtain ⟨Tj897, Lj897, lv4, Xj897, ej897, Nj897, hj897, Kj897⟩ : ∃ (Tj : State) (Lj : List Loc) (lv4 : Int32), Stand p l e room_1 (s.setVm T479.vm) m #[(.int q0), (.int q1), (.int q2), (.int q3), (.int q4), (.int q5)] below meth c Tj Lj 4 14 ∧ Tj.heap = T479.heap ∧ Fr n0 Lj ∧ (lv4 = own_l av4 c4 sv4) ∧ Go p e below Tj (mkF m 511 #[.val (.int q0), .val (.int q1), .val (.int q2), .val (.int q3), .val (.int q4), .val (.int q5), .val (.int c0), .val (.int c1), .val (.int c2), .val (.int c3), .val (.int c4), .val (.int nn), .val (.ref r), .val (.int av0), .val (.int av1), .val (.int av2), .val (.int av3), .val (.int av4), .val (.int ((((dv0 + dv1) + dv2) + dv3) + dv4)), .val (.int sv1), .val (.int sv2), .val (.int sv3), .val (.int sv4), .unset] [(.int lv4), (.int (((lv0 + lv1) + lv2) + lv3))]) G := by
    have K898 : Go p e below Tj869 (mkF m 488 #[.val (.int q0), .val (.int q1), .val (.int q2), .val (.int q3), .val (.int q4), .val (.int q5), .val (.int c0), .val (.int c1), .val (.int c2), .val (.int c3), .val (.int c4), .val (.int nn), .val (.ref r), .val (.int av0), .val (.int av1), .val (.int av2), .val (.int av3), .val (.int av4), .val (.int ((((dv0 + dv1) + dv2) + dv3) + dv4)), .val (.int sv1), .val (.int sv2), .val (.int sv3), .val (.int sv4), .unset] [(.int av4), (.int (((lv0 + lv1) + lv2) + lv3))]) G := fun tq kq => K896 tq (XS.iload Xj869.here hx rfl (hb hby at_486) rfl kq)
    by_cases hc899 : av4 = (0 : Int32)
    · skip
      have K900 : Go p e below Tj869 (mkF m 507 #[.val (.int q0), .val (.int q1), .val (.int q2), .val (.int q3), .val (.int q4), .val (.int q5), .val (.int c0), .val (.int c1), .val (.int c2), .val (.int c3), .val (.int c4), .val (.int nn), .val (.ref r), .val (.int av0), .val (.int av1), .val (.int av2), .val (.int av3), .val (.int av4), .val (.int ((((dv0 + dv1) + dv2) + dv3) + dv4)), .val (.int sv1), .val (.int sv2), .val (.int sv3), .val (.int sv4), .unset] [(.int (((lv0 + lv1) + lv2) + lv3))]) G := fun tq kq => K898 tq (XS.ifYes Xj869.here hx rfl (pc0 := 488) (pc' := 507) rfl (hb hby at_488) rfl ((if0 _ _).trans (teq hc899).1) (by decide) (by decide) kq)
      have K901 : Go p e below Tj869 (mkF m 508 #[.val (.int q0), .val (.int q1), .val (.int q2), .val (.int q3), .val (.int q4), .val (.int q5), .val (.int c0), .val (.int c1), .val (.int c2), .val (.int c3), .val (.int c4), .val (.int nn), .val (.ref r), .val (.int av0), .val (.int av1), .val (.int av2), .val (.int av3), .val (.int av4), .val (.int ((((dv0 + dv1) + dv2) + dv3) + dv4)), .val (.int sv1), .val (.int sv2), .val (.int sv3), .val (.int sv4), .unset] [(.int (0 : Int32)), (.int (((lv0 + lv1) + lv2) + lv3))]) G := fun tq kq => K900 tq (XS.iconst Xj869.here hx rfl (hb hby at_507) kq)
      obtain ⟨v902, _, ⟨T902, L902, k902, n902⟩, -, X902, ⟨Lc902, hQ902, l902, y902, z902⟩, st902⟩ := Jvm.LawKit.callS Xj869 hx (y := (⟨"com/example/tallyrule/tallyrule/DecimalsSignificantDigitsPinLaw", "one", "(Z)I"⟩ : MethodName)) hown (mvT hZ (hW 44 _ rfl)) (mvT hZ (hW 45 _ rfl)) (mvT hZ (hW 2 _ rfl)) (mvT hZ (hW 46 _ rfl)) (by decide) (backOf (W := 1) (rmONE l Z a0 hw [] (0 : Int32) T479.heap n0 (Nat.le_trans Z0 K479q.1)) hZ (hW 46 _ rfl) (hW 2 _ rfl) (by decide) (by decide)) (g := (mkF m 508 #[.val (.int q0), .val (.int q1), .val (.int q2), .val (.int q3), .val (.int q4), .val (.int q5), .val (.int c0), .val (.int c1), .val (.int c2), .val (.int c3), .val (.int c4), .val (.int nn), .val (.ref r), .val (.int av0), .val (.int av1), .val (.int av2), .val (.int av3), .val (.int av4), .val (.int ((((dv0 + dv1) + dv2) + dv3) + dv4)), .val (.int sv1), .val (.int sv2), .val (.int sv3), .val (.int sv4), .unset] [(.int (0 : Int32)), (.int (((lv0 + lv1) + lv2) + lv3))])) rfl (by rw [hml]; rfl) (argsL := [(.int (0 : Int32))]) (rest := [(.int (((lv0 + lv1) + lv2) + lv3))]) (lenOf pd_275 rfl) rfl (by show 2 * 0 + _ ≤ _; exact Nat.le_of_eq rfl) (hb hby at_508) (fun _ _ => ⟨rfl, ej869, (by decide : 4 + 0 ≤ _), (by decide : 14 + 0 ≤ _)⟩)
      dsimp only [Pt.U, Pt.locs, Pt.cells, Pt.slots] at X902 l902 y902 z902 st902 hQ902
      subst l902 y902 z902
      rw [QONE, if_pos (rfl : (0 : Int32) = 0)] at hQ902
      obtain ⟨rfl, N902q, E902q⟩ := hQ902
      have N902 := Fr.app Nj869 N902q
      have K903 : Go p e below T902 (mkF m 511 #[.val (.int q0), .val (.int q1), .val (.int q2), .val (.int q3), .val (.int q4), .val (.int q5), .val (.int c0), .val (.int c1), .val (.int c2), .val (.int c3), .val (.int c4), .val (.int nn), .val (.ref r), .val (.int av0), .val (.int av1), .val (.int av2), .val (.int av3), .val (.int av4), .val (.int ((((dv0 + dv1) + dv2) + dv3) + dv4)), .val (.int sv1), .val (.int sv2), .val (.int sv3), .val (.int sv4), .unset] [(.int (0 : Int32)), (.int (((lv0 + lv1) + lv2) + lv3))]) G := fun tq kq => K901 tq (st902 tq kq)
      refine ⟨T902, _, (0 : Int32), X902, E902q, N902, ?_, K903⟩
      exact (if_neg (fun z => z.1 hc899)).symm
    · skip
      have K904 : Go p e below Tj869 (mkF m 491 #[.val (.int q0), .val (.int q1), .val (.int q2), .val (.int q3), .val (.int q4), .val (.int q5), .val (.int c0), .val (.int c1), .val (.int c2), .val (.int c3), .val (.int c4), .val (.int nn), .val (.ref r), .val (.int av0), .val (.int av1), .val (.int av2), .val (.int av3), .val (.int av4), .val (.int ((((dv0 + dv1) + dv2) + dv3) + dv4)), .val (.int sv1), .val (.int sv2), .val (.int sv3), .val (.int sv4), .unset] [(.int (((lv0 + lv1) + lv2) + lv3))]) G := fun tq kq => K898 tq (XS.ifNo Xj869.here hx rfl (hb hby at_488) rfl ((if0 _ _).trans (feq hc899).1) kq)
      have K905 : Go p e below Tj869 (mkF m 493 #[.val (.int q0), .val (.int q1), .val (.int q2), .val (.int q3), .val (.int q4), .val (.int q5), .val (.int c0), .val (.int c1), .val (.int c2), .val (.int c3), .val (.int c4), .val (.int nn), .val (.ref r), .val (.int av0), .val (.int av1), .val (.int av2), .val (.int av3), .val (.int av4), .val (.int ((((dv0 + dv1) + dv2) + dv3) + dv4)), .val (.int sv1), .val (.int sv2), .val (.int sv3), .val (.int sv4), .unset] [(.int c4), (.int (((lv0 + lv1) + lv2) + lv3))]) G := fun tq kq => K904 tq (XS.iload Xj869.here hx rfl (hb hby at_491) rfl kq)
      have K906 : Go p e below Tj869 (mkF m 495 #[.val (.int q0), .val (.int q1), .val (.int q2), .val (.int q3), .val (.int q4), .val (.int q5), .val (.int c0), .val (.int c1), .val (.int c2), .val (.int c3), .val (.int c4), .val (.int nn), .val (.ref r), .val (.int av0), .val (.int av1), .val (.int av2), .val (.int av3), .val (.int av4), .val (.int ((((dv0 + dv1) + dv2) + dv3) + dv4)), .val (.int sv1), .val (.int sv2), .val (.int sv3), .val (.int sv4), .unset] [(.int (48 : Int32)), (.int c4), (.int (((lv0 + lv1) + lv2) + lv3))]) G := fun tq kq => K905 tq (XS.bipush Xj869.here hx rfl (hb hby at_493) kq)
      by_cases hc907 : c4 = (48 : Int32)
      · skip
        have K908 : Go p e below Tj869 (mkF m 498 #[.val (.int q0), .val (.int q1), .val (.int q2), .val (.int q3), .val (.int q4), .val (.int q5), .val (.int c0), .val (.int c1), .val (.int c2), .val (.int c3), .val (.int c4), .val (.int nn), .val (.ref r), .val (.int av0), .val (.int av1), .val (.int av2), .val (.int av3), .val (.int av4), .val (.int ((((dv0 + dv1) + dv2) + dv3) + dv4)), .val (.int sv1), .val (.int sv2), .val (.int sv3), .val (.int sv4), .unset] [(.int (((lv0 + lv1) + lv2) + lv3))]) G := fun tq kq => K906 tq (XS.icmpNo Xj869.here hx rfl (hb hby at_495) rfl ((teq hc907).2) kq)
        have K909 : Go p e below Tj869 (mkF m 500 #[.val (.int q0), .val (.int q1), .val (.int q2), .val (.int q3), .val (.int q4), .val (.int q5), .val (.int c0), .val (.int c1), .val (.int c2), .val (.int c3), .val (.int c4), .val (.int nn), .val (.ref r), .val (.int av0), .val (.int av1), .val (.int av2), .val (.int av3), .val (.int av4), .val (.int ((((dv0 + dv1) + dv2) + dv3) + dv4)), .val (.int sv1), .val (.int sv2), .val (.int sv3), .val (.int sv4), .unset] [(.int sv4), (.int (((lv0 + lv1) + lv2) + lv3))]) G := fun tq kq => K908 tq (XS.iload Xj869.here hx rfl (hb hby at_498) rfl kq)
        by_cases hc910 : sv4 = (0 : Int32)
        · skip
          have K911 : Go p e below Tj869 (mkF m 503 #[.val (.int q0), .val (.int q1), .val (.int q2), .val (.int q3), .val (.int q4), .val (.int q5), .val (.int c0), .val (.int c1), .val (.int c2), .val (.int c3), .val (.int c4), .val (.int nn), .val (.ref r), .val (.int av0), .val (.int av1), .val (.int av2), .val (.int av3), .val (.int av4), .val (.int ((((dv0 + dv1) + dv2) + dv3) + dv4)), .val (.int sv1), .val (.int sv2), .val (.int sv3), .val (.int sv4), .unset] [(.int (((lv0 + lv1) + lv2) + lv3))]) G := fun tq kq => K909 tq (XS.ifNo Xj869.here hx rfl (hb hby at_500) rfl ((if0 _ _).trans (teq hc910).2) kq)
          have K912 : Go p e below Tj869 (mkF m 504 #[.val (.int q0), .val (.int q1), .val (.int q2), .val (.int q3), .val (.int q4), .val (.int q5), .val (.int c0), .val (.int c1), .val (.int c2), .val (.int c3), .val (.int c4), .val (.int nn), .val (.ref r), .val (.int av0), .val (.int av1), .val (.int av2), .val (.int av3), .val (.int av4), .val (.int ((((dv0 + dv1) + dv2) + dv3) + dv4)), .val (.int sv1), .val (.int sv2), .val (.int sv3), .val (.int sv4), .unset] [(.int (1 : Int32)), (.int (((lv0 + lv1) + lv2) + lv3))]) G := fun tq kq => K911 tq (XS.iconst Xj869.here hx rfl (hb hby at_503) kq)
          have K913 : Go p e below Tj869 (mkF m 508 #[.val (.int q0), .val (.int q1), .val (.int q2), .val (.int q3), .val (.int q4), .val (.int q5), .val (.int c0), .val (.int c1), .val (.int c2), .val (.int c3), .val (.int c4), .val (.int nn), .val (.ref r), .val (.int av0), .val (.int av1), .val (.int av2), .val (.int av3), .val (.int av4), .val (.int ((((dv0 + dv1) + dv2) + dv3) + dv4)), .val (.int sv1), .val (.int sv2), .val (.int sv3), .val (.int sv4), .unset] [(.int (1 : Int32)), (.int (((lv0 + lv1) + lv2) + lv3))]) G := fun tq kq => K912 tq (XS.goto Xj869.here hx rfl (pc0 := 504) (pc' := 508) rfl (hb hby at_504) (by decide) (by decide) kq)
          obtain ⟨v914, _, ⟨T914, L914, k914, n914⟩, -, X914, ⟨Lc914, hQ914, l914, y914, z914⟩, st914⟩ := Jvm.LawKit.callS Xj869 hx (y := (⟨"com/example/tallyrule/tallyrule/DecimalsSignificantDigitsPinLaw", "one", "(Z)I"⟩ : MethodName)) hown (mvT hZ (hW 44 _ rfl)) (mvT hZ (hW 45 _ rfl)) (mvT hZ (hW 2 _ rfl)) (mvT hZ (hW 46 _ rfl)) (by decide) (backOf (W := 1) (rmONE l Z a0 hw [] (1 : Int32) T479.heap n0 (Nat.le_trans Z0 K479q.1)) hZ (hW 46 _ rfl) (hW 2 _ rfl) (by decide) (by decide)) (g := (mkF m 508 #[.val (.int q0), .val (.int q1), .val (.int q2), .val (.int q3), .val (.int q4), .val (.int q5), .val (.int c0), .val (.int c1), .val (.int c2), .val (.int c3), .val (.int c4), .val (.int nn), .val (.ref r), .val (.int av0), .val (.int av1), .val (.int av2), .val (.int av3), .val (.int av4), .val (.int ((((dv0 + dv1) + dv2) + dv3) + dv4)), .val (.int sv1), .val (.int sv2), .val (.int sv3), .val (.int sv4), .unset] [(.int (1 : Int32)), (.int (((lv0 + lv1) + lv2) + lv3))])) rfl (by rw [hml]; rfl) (argsL := [(.int (1 : Int32))]) (rest := [(.int (((lv0 + lv1) + lv2) + lv3))]) (lenOf pd_275 rfl) rfl (by show 2 * 0 + _ ≤ _; exact Nat.le_of_eq rfl) (hb hby at_508) (fun _ _ => ⟨rfl, ej869, (by decide : 4 + 0 ≤ _), (by decide : 14 + 0 ≤ _)⟩)
          dsimp only [Pt.U, Pt.locs, Pt.cells, Pt.slots] at X914 l914 y914 z914 st914 hQ914
          subst l914 y914 z914
          rw [QONE, if_neg (by decide : ¬ ((1 : Int32) = 0))] at hQ914
          obtain ⟨rfl, N914q, E914q⟩ := hQ914
          have N914 := Fr.app Nj869 N914q
          have K915 : Go p e below T914 (mkF m 511 #[.val (.int q0), .val (.int q1), .val (.int q2), .val (.int q3), .val (.int q4), .val (.int q5), .val (.int c0), .val (.int c1), .val (.int c2), .val (.int c3), .val (.int c4), .val (.int nn), .val (.ref r), .val (.int av0), .val (.int av1), .val (.int av2), .val (.int av3), .val (.int av4), .val (.int ((((dv0 + dv1) + dv2) + dv3) + dv4)), .val (.int sv1), .val (.int sv2), .val (.int sv3), .val (.int sv4), .unset] [(.int (1 : Int32)), (.int (((lv0 + lv1) + lv2) + lv3))]) G := fun tq kq => K913 tq (st914 tq kq)
          refine ⟨T914, _, (1 : Int32), X914, E914q, N914, ?_, K915⟩
          exact (if_pos ⟨hc899, hc907, hc910⟩).symm
        · skip
          have K916 : Go p e below Tj869 (mkF m 507 #[.val (.int q0), .val (.int q1), .val (.int q2), .val (.int q3), .val (.int q4), .val (.int q5), .val (.int c0), .val (.int c1), .val (.int c2), .val (.int c3), .val (.int c4), .val (.int nn), .val (.ref r), .val (.int av0), .val (.int av1), .val (.int av2), .val (.int av3), .val (.int av4), .val (.int ((((dv0 + dv1) + dv2) + dv3) + dv4)), .val (.int sv1), .val (.int sv2), .val (.int sv3), .val (.int sv4), .unset] [(.int (((lv0 + lv1) + lv2) + lv3))]) G := fun tq kq => K909 tq (XS.ifYes Xj869.here hx rfl (pc0 := 500) (pc' := 507) rfl (hb hby at_500) rfl ((if0 _ _).trans (feq hc910).2) (by decide) (by decide) kq)
          have K917 : Go p e below Tj869 (mkF m 508 #[.val (.int q0), .val (.int q1), .val (.int q2), .val (.int q3), .val (.int q4), .val (.int q5), .val (.int c0), .val (.int c1), .val (.int c2), .val (.int c3), .val (.int c4), .val (.int nn), .val (.ref r), .val (.int av0), .val (.int av1), .val (.int av2), .val (.int av3), .val (.int av4), .val (.int ((((dv0 + dv1) + dv2) + dv3) + dv4)), .val (.int sv1), .val (.int sv2), .val (.int sv3), .val (.int sv4), .unset] [(.int (0 : Int32)), (.int (((lv0 + lv1) + lv2) + lv3))]) G := fun tq kq => K916 tq (XS.iconst Xj869.here hx rfl (hb hby at_507) kq)
          obtain ⟨v918, _, ⟨T918, L918, k918, n918⟩, -, X918, ⟨Lc918, hQ918, l918, y918, z918⟩, st918⟩ := Jvm.LawKit.callS Xj869 hx (y := (⟨"com/example/tallyrule/tallyrule/DecimalsSignificantDigitsPinLaw", "one", "(Z)I"⟩ : MethodName)) hown (mvT hZ (hW 44 _ rfl)) (mvT hZ (hW 45 _ rfl)) (mvT hZ (hW 2 _ rfl)) (mvT hZ (hW 46 _ rfl)) (by decide) (backOf (W := 1) (rmONE l Z a0 hw [] (0 : Int32) T479.heap n0 (Nat.le_trans Z0 K479q.1)) hZ (hW 46 _ rfl) (hW 2 _ rfl) (by decide) (by decide)) (g := (mkF m 508 #[.val (.int q0), .val (.int q1), .val (.int q2), .val (.int q3), .val (.int q4), .val (.int q5), .val (.int c0), .val (.int c1), .val (.int c2), .val (.int c3), .val (.int c4), .val (.int nn), .val (.ref r), .val (.int av0), .val (.int av1), .val (.int av2), .val (.int av3), .val (.int av4), .val (.int ((((dv0 + dv1) + dv2) + dv3) + dv4)), .val (.int sv1), .val (.int sv2), .val (.int sv3), .val (.int sv4), .unset] [(.int (0 : Int32)), (.int (((lv0 + lv1) + lv2) + lv3))])) rfl (by rw [hml]; rfl) (argsL := [(.int (0 : Int32))]) (rest := [(.int (((lv0 + lv1) + lv2) + lv3))]) (lenOf pd_275 rfl) rfl (by show 2 * 0 + _ ≤ _; exact Nat.le_of_eq rfl) (hb hby at_508) (fun _ _ => ⟨rfl, ej869, (by decide : 4 + 0 ≤ _), (by decide : 14 + 0 ≤ _)⟩)
          dsimp only [Pt.U, Pt.locs, Pt.cells, Pt.slots] at X918 l918 y918 z918 st918 hQ918
          subst l918 y918 z918
          rw [QONE, if_pos (rfl : (0 : Int32) = 0)] at hQ918
          obtain ⟨rfl, N918q, E918q⟩ := hQ918
          have N918 := Fr.app Nj869 N918q
          have K919 : Go p e below T918 (mkF m 511 #[.val (.int q0), .val (.int q1), .val (.int q2), .val (.int q3), .val (.int q4), .val (.int q5), .val (.int c0), .val (.int c1), .val (.int c2), .val (.int c3), .val (.int c4), .val (.int nn), .val (.ref r), .val (.int av0), .val (.int av1), .val (.int av2), .val (.int av3), .val (.int av4), .val (.int ((((dv0 + dv1) + dv2) + dv3) + dv4)), .val (.int sv1), .val (.int sv2), .val (.int sv3), .val (.int sv4), .unset] [(.int (0 : Int32)), (.int (((lv0 + lv1) + lv2) + lv3))]) G := fun tq kq => K917 tq (st918 tq kq)
          refine ⟨T918, _, (0 : Int32), X918, E918q, N918, ?_, K919⟩
          exact (if_neg (fun z => hc910 (z.2.2))).symm
      · skip
        have K920 : Go p e below Tj869 (mkF m 507 #[.val (.int q0), .val (.int q1), .val (.int q2), .val (.int q3), .val (.int q4), .val (.int q5), .val (.int c0), .val (.int c1), .val (.int c2), .val (.int c3), .val (.int c4), .val (.int nn), .val (.ref r), .val (.int av0), .val (.int av1), .val (.int av2), .val (.int av3), .val (.int av4), .val (.int ((((dv0 + dv1) + dv2) + dv3) + dv4)), .val (.int sv1), .val (.int sv2), .val (.int sv3), .val (.int sv4), .unset] [(.int (((lv0 + lv1) + lv2) + lv3))]) G := fun tq kq => K906 tq (XS.icmpYes Xj869.here hx rfl (pc0 := 495) (pc' := 507) rfl (hb hby at_495) rfl ((feq hc907).2) (by decide) (by decide) kq)
        have K921 : Go p e below Tj869 (mkF m 508 #[.val (.int q0), .val (.int q1), .val (.int q2), .val (.int q3), .val (.int q4), .val (.int q5), .val (.int c0), .val (.int c1), .val (.int c2), .val (.int c3), .val (.int c4), .val (.int nn), .val (.ref r), .val (.int av0), .val (.int av1), .val (.int av2), .val (.int av3), .val (.int av4), .val (.int ((((dv0 + dv1) + dv2) + dv3) + dv4)), .val (.int sv1), .val (.int sv2), .val (.int sv3), .val (.int sv4), .unset] [(.int (0 : Int32)), (.int (((lv0 + lv1) + lv2) + lv3))]) G := fun tq kq => K920 tq (XS.iconst Xj869.here hx rfl (hb hby at_507) kq)
        obtain ⟨v922, _, ⟨T922, L922, k922, n922⟩, -, X922, ⟨Lc922, hQ922, l922, y922, z922⟩, st922⟩ := Jvm.LawKit.callS Xj869 hx (y := (⟨"com/example/tallyrule/tallyrule/DecimalsSignificantDigitsPinLaw", "one", "(Z)I"⟩ : MethodName)) hown (mvT hZ (hW 44 _ rfl)) (mvT hZ (hW 45 _ rfl)) (mvT hZ (hW 2 _ rfl)) (mvT hZ (hW 46 _ rfl)) (by decide) (backOf (W := 1) (rmONE l Z a0 hw [] (0 : Int32) T479.heap n0 (Nat.le_trans Z0 K479q.1)) hZ (hW 46 _ rfl) (hW 2 _ rfl) (by decide) (by decide)) (g := (mkF m 508 #[.val (.int q0), .val (.int q1), .val (.int q2), .val (.int q3), .val (.int q4), .val (.int q5), .val (.int c0), .val (.int c1), .val (.int c2), .val (.int c3), .val (.int c4), .val (.int nn), .val (.ref r), .val (.int av0), .val (.int av1), .val (.int av2), .val (.int av3), .val (.int av4), .val (.int ((((dv0 + dv1) + dv2) + dv3) + dv4)), .val (.int sv1), .val (.int sv2), .val (.int sv3), .val (.int sv4), .unset] [(.int (0 : Int32)), (.int (((lv0 + lv1) + lv2) + lv3))])) rfl (by rw [hml]; rfl) (argsL := [(.int (0 : Int32))]) (rest := [(.int (((lv0 + lv1) + lv2) + lv3))]) (lenOf pd_275 rfl) rfl (by show 2 * 0 + _ ≤ _; exact Nat.le_of_eq rfl) (hb hby at_508) (fun _ _ => ⟨rfl, ej869, (by decide : 4 + 0 ≤ _), (by decide : 14 + 0 ≤ _)⟩)
        dsimp only [Pt.U, Pt.locs, Pt.cells, Pt.slots] at X922 l922 y922 z922 st922 hQ922
        subst l922 y922 z922
        rw [QONE, if_pos (rfl : (0 : Int32) = 0)] at hQ922
        obtain ⟨rfl, N922q, E922q⟩ := hQ922
        have N922 := Fr.app Nj869 N922q
        have K923 : Go p e below T922 (mkF m 511 #[.val (.int q0), .val (.int q1), .val (.int q2), .val (.int q3), .val (.int q4), .val (.int q5), .val (.int c0), .val (.int c1), .val (.int c2), .val (.int c3), .val (.int c4), .val (.int nn), .val (.ref r), .val (.int av0), .val (.int av1), .val (.int av2), .val (.int av3), .val (.int av4), .val (.int ((((dv0 + dv1) + dv2) + dv3) + dv4)), .val (.int sv1), .val (.int sv2), .val (.int sv3), .val (.int sv4), .unset] [(.int (0 : Int32)), (.int (((lv0 + lv1) + lv2) + lv3))]) G := fun tq kq => K921 tq (st922 tq kq)
        refine ⟨T922, _, (0 : Int32), X922, E922q, N922, ?_, K923⟩
        exact (if_neg (fun z => hc907 (z.2.1))).symm
  have h_lv4 := hj897
  have K924 : Go p e below Tj897 (mkF m 512 #[.val (.int q0), .val (.int q1), .val (.int q2), .val (.int q3), .val (.int q4), .val (.int q5), .val (.int c0), .val (.int c1), .val (.int c2), .val (.int c3), .val (.int c4), .val (.int nn), .val (.ref r), .val (.int av0), .val (.int av1), .val (.int av2), .val (.int av3), .val (.int av4), .val (.int ((((dv0 + dv1) + dv2) + dv3) + dv4)), .val (.int sv1), .val (.int sv2), .val (.int sv3), .val (.int sv4), .unset] [(.int ((((lv0 + lv1) + lv2) + lv3) + lv4))]) G := fun tq kq => Kj897 tq (XS.iadd Xj897.here hx rfl (hb hby at_511) rfl kq)
  have K925 : Go p e below Tj897 (mkF m 514 #[.val (.int q0), .val (.int q1), .val (.int q2), .val (.int q3), .val (.int q4), .val (.int q5), .val (.int c0), .val (.int c1), .val (.int c2), .val (.int c3), .val (.int c4), .val (.int nn), .val (.ref r), .val (.int av0), .val (.int av1), .val (.int av2), .val (.int av3), .val (.int av4), .val (.int ((((dv0 + dv1) + dv2) + dv3) + dv4)), .val (.int sv1), .val (.int sv2), .val (.int sv3), .val (.int sv4), .val (.int ((((lv0 + lv1) + lv2) + lv3) + lv4))] []) G := fun tq kq => K924 tq (XS.istore Xj897.here hx rfl (hb hby at_512) rfl (l' := #[.val (.int q0), .val (.int q1), .val (.int q2), .val (.int q3), .val (.int q4), .val (.int q5), .val (.int c0), .val (.int c1), .val (.int c2), .val (.int c3), .val (.int c4), .val (.int nn), .val (.ref r), .val (.int av0), .val (.int av1), .val (.int av2), .val (.int av3), .val (.int av4), .val (.int ((((dv0 + dv1) + dv2) + dv3) + dv4)), .val (.int sv1), .val (.int sv2), .val (.int sv3), .val (.int sv4), .val (.int ((((lv0 + lv1) + lv2) + lv3) + lv4))]) rfl kq)
  have K926 : Go p e below Tj897 (mkF m 516 #[.val (.int q0), .val (.int q1), .val (.int q2), .val (.int q3), .val (.int q4), .val (.int q5), .val (.int c0), .val (.int c1), .val (.int c2), .val (.int c3), .val (.int c4), .val (.int nn), .val (.ref r), .val (.int av0), .val (.int av1), .val (.int av2), .val (.int av3), .val (.int av4), .val (.int ((((dv0 + dv1) + dv2) + dv3) + dv4)), .val (.int sv1), .val (.int sv2), .val (.int sv3), .val (.int sv4), .val (.int ((((lv0 + lv1) + lv2) + lv3) + lv4))] [(.ref r)]) G := fun tq kq => K925 tq (XS.aload Xj897.here hx rfl (hb hby at_514) rfl rfl kq)
  obtain ⟨v927, _, ⟨T927, L927, k927, n927⟩, -, X927, ⟨Lc927, hQ927, l927, y927, z927⟩, st927⟩ := Jvm.LawKit.callS Xj897 hx (y := (⟨"com/example/tallyrule/tallyrule/Decimals", "significantDigits", "(Ljava/lang/String;)I"⟩ : MethodName)) hown (mvT hZ (hW 50 _ rfl)) (mvT hZ (hW 51 _ rfl)) (mvT hZ (hW 52 _ rfl)) (mvT hZ (hW 53 _ rfl)) (by decide) (backOf (W := 0) (rmSG l Z a0 hw [] r t kb N2 vs (own_tx nn c0 c1 c2 c3 c4) cz fm T479.heap n0 (Nat.le_trans Z0 K479q.1) (O0.keep K479q all0) S_cs hcz Er S_fm rfm Fv Fc Vt Cd hup (own_txl _ _ _ _ _ _)) hZ (hW 53 _ rfl) (hW 52 _ rfl) (by decide) (by decide)) (g := (mkF m 516 #[.val (.int q0), .val (.int q1), .val (.int q2), .val (.int q3), .val (.int q4), .val (.int q5), .val (.int c0), .val (.int c1), .val (.int c2), .val (.int c3), .val (.int c4), .val (.int nn), .val (.ref r), .val (.int av0), .val (.int av1), .val (.int av2), .val (.int av3), .val (.int av4), .val (.int ((((dv0 + dv1) + dv2) + dv3) + dv4)), .val (.int sv1), .val (.int sv2), .val (.int sv3), .val (.int sv4), .val (.int ((((lv0 + lv1) + lv2) + lv3) + lv4))] [(.ref r)])) rfl (by rw [hml]; rfl) (argsL := [(.ref r)]) (rest := []) (lenOf pd_276 rfl) rfl (by show 2 * 0 + _ ≤ _; exact Nat.le_of_eq rfl) (hb hby at_516) (fun _ _ => ⟨rfl, ej897, (by decide : 4 + 0 ≤ _), (by decide : 14 + 0 ≤ _)⟩)
  dsimp only [Pt.U, Pt.locs, Pt.cells, Pt.slots] at X927 l927 y927 z927 st927 hQ927
  subst l927 y927 z927
  obtain ⟨rfl, N927q, E927q⟩ := hQ927
  have N927 := Fr.app Nj897 N927q
  have K928 : Go p e below T927 (mkF m 519 #[.val (.int q0), .val (.int q1), .val (.int q2), .val (.int q3), .val (.int q4), .val (.int q5), .val (.int c0), .val (.int c1), .val (.int c2), .val (.int c3), .val (.int c4), .val (.int nn), .val (.ref r), .val (.int av0), .val (.int av1), .val (.int av2), .val (.int av3), .val (.int av4), .val (.int ((((dv0 + dv1) + dv2) + dv3) + dv4)), .val (.int sv1), .val (.int sv2), .val (.int sv3), .val (.int sv4), .val (.int ((((lv0 + lv1) + lv2) + lv3) + lv4))] [(.int (own_go (own_tx nn c0 c1 c2 c3 c4) (0 : Int32)))]) G := fun tq kq => K926 tq (st927 tq kq)
  have K929 : Go p e below T927 (mkF m 521 #[.val (.int q0), .val (.int q1), .val (.int q2), .val (.int q3), .val (.int q4), .val (.int q5), .val (.int c0), .val (.int c1), .val (.int c2), .val (.int c3), .val (.int c4), .val (.int nn), .val (.ref r), .val (.int av0), .val (.int av1), .val (.int av2), .val (.int av3), .val (.int av4), .val (.int ((((dv0 + dv1) + dv2) + dv3) + dv4)), .val (.int sv1), .val (.int sv2), .val (.int sv3), .val (.int sv4), .val (.int ((((lv0 + lv1) + lv2) + lv3) + lv4))] [(.int ((((dv0 + dv1) + dv2) + dv3) + dv4)), (.int (own_go (own_tx nn c0 c1 c2 c3 c4) (0 : Int32)))]) G := fun tq kq => K928 tq (XS.iload X927.here hx rfl (hb hby at_519) rfl kq)
  have K930 : Go p e below T927 (mkF m 523 #[.val (.int q0), .val (.int q1), .val (.int q2), .val (.int q3), .val (.int q4), .val (.int q5), .val (.int c0), .val (.int c1), .val (.int c2), .val (.int c3), .val (.int c4), .val (.int nn), .val (.ref r), .val (.int av0), .val (.int av1), .val (.int av2), .val (.int av3), .val (.int av4), .val (.int ((((dv0 + dv1) + dv2) + dv3) + dv4)), .val (.int sv1), .val (.int sv2), .val (.int sv3), .val (.int sv4), .val (.int ((((lv0 + lv1) + lv2) + lv3) + lv4))] [(.int ((((lv0 + lv1) + lv2) + lv3) + lv4)), (.int ((((dv0 + dv1) + dv2) + dv3) + dv4)), (.int (own_go (own_tx nn c0 c1 c2 c3 c4) (0 : Int32)))]) G := fun tq kq => K929 tq (XS.iload X927.here hx rfl (hb hby at_521) rfl kq)
  have K931 : Go p e below T927 (mkF m 524 #[.val (.int q0), .val (.int q1), .val (.int q2), .val (.int q3), .val (.int q4), .val (.int q5), .val (.int c0), .val (.int c1), .val (.int c2), .val (.int c3), .val (.int c4), .val (.int nn), .val (.ref r), .val (.int av0), .val (.int av1), .val (.int av2), .val (.int av3), .val (.int av4), .val (.int ((((dv0 + dv1) + dv2) + dv3) + dv4)), .val (.int sv1), .val (.int sv2), .val (.int sv3), .val (.int sv4), .val (.int ((((lv0 + lv1) + lv2) + lv3) + lv4))] [(.int (((((dv0 + dv1) + dv2) + dv3) + dv4) - ((((lv0 + lv1) + lv2) + lv3) + lv4))), (.int (own_go (own_tx nn c0 c1 c2 c3 c4) (0 : Int32)))]) G := fun tq kq => K930 tq (XS.isub X927.here hx rfl (hb hby at_523) rfl kq)
  have hfin : (own_go (own_tx nn c0 c1 c2 c3 c4) (0 : Int32)) = (((((dv0 + dv1) + dv2) + dv3) + dv4) - ((((lv0 + lv1) + lv2) + lv3) + lv4)) := by
    rw [h_lv4, h_lv3, h_lv2, h_lv1, h_lv0, h_sv4, h_sv3, h_sv2, h_sv1, h_dv4, h_dv3, h_dv2, h_dv1, h_dv0, h_av4, h_av3, h_av2, h_av1, h_av0]
    exact own_fin nn c0 c1 c2 c3 c4 hnn
  have K932 : Go p e below T927 (mkF m 527 #[.val (.int q0), .val (.int q1), .val (.int q2), .val (.int q3), .val (.int q4), .val (.int q5), .val (.int c0), .val (.int c1), .val (.int c2), .val (.int c3), .val (.int c4), .val (.int nn), .val (.ref r), .val (.int av0), .val (.int av1), .val (.int av2), .val (.int av3), .val (.int av4), .val (.int ((((dv0 + dv1) + dv2) + dv3) + dv4)), .val (.int sv1), .val (.int sv2), .val (.int sv3), .val (.int sv4), .val (.int ((((lv0 + lv1) + lv2) + lv3) + lv4))] []) G := fun tq kq => K931 tq (XS.icmpNo X927.here hx rfl (hb hby at_524) rfl ((teq hfin).2) kq)
  have K933 : Go p e below T927 (mkF m 528 #[.val (.int q0), .val (.int q1), .val (.int q2), .val (.int q3), .val (.int q4), .val (.int q5), .val (.int c0), .val (.int c1), .val (.int c2), .val (.int c3), .val (.int c4), .val (.int nn), .val (.ref r), .val (.int av0), .val (.int av1), .val (.int av2), .val (.int av3), .val (.int av4), .val (.int ((((dv0 + dv1) + dv2) + dv3) + dv4)), .val (.int sv1), .val (.int sv2), .val (.int sv3), .val (.int sv4), .val (.int ((((lv0 + lv1) + lv2) + lv3) + lv4))] [(.int (1 : Int32))]) G := fun tq kq => K932 tq (XS.iconst X927.here hx rfl (hb hby at_527) kq)
  have K934 : Go p e below T927 (mkF m 532 #[.val (.int q0), .val (.int q1), .val (.int q2), .val (.int q3), .val (.int q4), .val (.int q5), .val (.int c0), .val (.int c1), .val (.int c2), .val (.int c3), .val (.int c4), .val (.int nn), .val (.ref r), .val (.int av0), .val (.int av1), .val (.int av2), .val (.int av3), .val (.int av4), .val (.int ((((dv0 + dv1) + dv2) + dv3) + dv4)), .val (.int sv1), .val (.int sv2), .val (.int sv3), .val (.int sv4), .val (.int ((((lv0 + lv1) + lv2) + lv3) + lv4))] [(.int (1 : Int32))]) G := fun tq kq => K933 tq (XS.goto X927.here hx rfl (pc0 := 528) (pc' := 532) rfl (hb hby at_528) (by decide) (by decide) kq)
  obtain ⟨fs, hr, hrun, hended, hRE⟩ := X927.leaveW (s := s) hSb479 (by first | exact (Nat.le_refl _) | (rw [E927q]; exact (Nat.le_refl _))) (v := some (.int (1 : Int32))) (fun h => by rw [Bd.returns] at h; cases h)
  have CRe := CR480.trans (CHv.at X927 hZ hEL CR480.1)
  refine ⟨_, _, hG _ (K934 _ (retN X927 hx (t := .boolean) Bd.returns (by simp) (hb hby at_532) hr)), hrun, hended, _, _, rfl, ?_, (by show CHr Z own_EL s.vm s.heap T927.vm T927.heap; rw [hh, E927q]; exact CRe), hRE.1, hRE.2.1, hRE.2.2.1, hRE.2.2.2.mono (by decide) (by decide)⟩
  show Q0 Z q0 q1 q2 q3 q4 q5 cz fm h0 n0 _ T927.heap _
  rw [E927q]
  exact ⟨rfl, N927⟩
set_option maxRecDepth 65536 in
set_option maxHeartbeats 40000000 in
theorem comes_1 {Post : Tables → Env → Array Value → State → Outcome → State → Prop} (hpost : ∀ tb e args s v u, (limb_1_1.after args s (.returned v) u = true ∧ limb_1_2.after args s (.returned v) u = true ∧ True) → ReturnedEndW s (.returned v) u (Jvm.fieldLocs frame_1_writes args s ++ Jvm.arrayLocs frame_1_arrays args s ++ Jvm.staticLocs frame_1_statics s) 16 1152 → Post tb e args s (.returned v) u) :
    ArmFor flags0 classFile x code maxLocals ret World_1 tables_1 room_1 Calls_1 rest_1 Pre_1 Post := by
  intro l hfl _ _ p e ha hc hk s m args below hf hA hF happ hP
  obtain ⟨hcalls, hrest, hpre⟩ := hP
  obtain ⟨-, -, -, hnamed, -, -, -, hat⟩ := (Spec.applies_iff hf).mp happ
  obtain ⟨hg, hn⟩ := and_e (Cond.before_iff.mp (show (Jvm.Cond.and given_1 narrow_1).before args s = true from hpre))
  obtain ⟨gg1, gg2⟩ := and_e hg
  obtain ⟨gg3, gg4⟩ := and_e gg2
  obtain ⟨gg5, gg6⟩ := and_e gg4
  obtain ⟨gg7, gg8⟩ := and_e gg6
  obtain ⟨gg9, gg10⟩ := and_e gg8
  obtain ⟨gg11, gg12⟩ := and_e gg10
  obtain ⟨w0, w1, w2, w3, w4, w5, rfl⟩ : ∃ w0 w1 w2 w3 w4 w5 : Value, args = #[w0, w1, w2, w3, w4, w5] := by
    have hs : args.size = 6 := by simpa [Cond.value, given_1] using gg1
    obtain ⟨L⟩ := args
    match L, hs with
    | [w0, w1, w2, w3, w4, w5], _ => exact ⟨w0, w1, w2, w3, w4, w5, rfl⟩
  have hw := fun d (hd : d ∈ tables_1) => atoms_spec (ws := Jvm.Cond.code x code maxLocals ret :: tables_1) hat d (List.mem_cons_of_mem _ hd)
  have hW : ∀ (k : Nat) (d : Jvm.Cond), tables_1[k]? = some d → d.before _ s = true := fun k d h => hw d (List.mem_of_getElem? h)
  have hfit : Fit s := fun {y c} hc i hi => by
    obtain ⟨ha, rfl⟩ := Array.getElem?_eq_some_iff.mp hc
    have q := List.all_eq_true.mp ((Array.all_eq_true_iff_forall_mem.mp hF) _ (Array.getElem_mem ha)) i (List.mem_range.mpr hi)
    simpa [Array.getElem?_eq_getElem hi] using q
  obtain ⟨hsets, hown0⟩ := atoms_of _ (rest_1_c_eq ▸ (show rest_1_c.before _ s = true from hrest))
  have hr0 := Cond.before_iff.mp hown0
  obtain ⟨i0, ei0⟩ := is_v gg3
  obtain rfl : w0 = (.int i0) := Option.some.inj ei0
  obtain ⟨i1, ei1⟩ := is_v gg5
  obtain rfl : w1 = (.int i1) := Option.some.inj ei1
  obtain ⟨i2, ei2⟩ := is_v gg7
  obtain rfl : w2 = (.int i2) := Option.some.inj ei2
  obtain ⟨i3, ei3⟩ := is_v gg9
  obtain rfl : w3 = (.int i3) := Option.some.inj ei3
  obtain ⟨i4, ei4⟩ := is_v gg11
  obtain rfl : w4 = (.int i4) := Option.some.inj ei4
  obtain ⟨i5, ei5⟩ := is_v gg12
  obtain rfl : w5 = (.int i5) := Option.some.inj ei5
  have hS : ∀ (k : Nat) (d : Jvm.Cond), jdkStatics_1[k]? = some d → d.before _ s = true := fun k d h => hsets d (List.mem_of_getElem? h)
  obtain ⟨cz, ecz⟩ := is_v (Cond.before_iff.mp (hS 1 _ rfl))
  have S_cs : Sta s s.heap "java/lang/String" "COMPACT_STRINGS" "Z" (.int cz) := Sta.start ecz (Or.inl (hS 0 _ rfl))
  have hcz : ¬ (cz = (0 : Int32)) := gotF (Cond.eq_ints ecz (Term.int_eval (0))) (not_v (Cond.before_iff.mp (hS 2 _ rfl)))
  obtain ⟨fm, efm, rfm⟩ := isR_v (Cond.before_iff.mp (hS 8 _ rfl))
  have S_fm : Sta s s.heap "jdk/internal/util/Preconditions" "SIOOBE_FORMATTER" "Ljava/util/function/BiFunction;" fm := Sta.start efm (Or.inl (hS 7 _ rfl))
  have HC : CHv s own_EL s.vm s.heap := CHv.start (own_EW hW) (fun p hp => hcalls.1 p hp) (hS 2 _ rfl) (hW 27 _ rfl) (hW 9 _ rfl)
  obtain ⟨n, o, h1, h2, h3, _, L, rfl, ⟨rfl, N⟩, -, hq⟩ := rm0 l s _ hw tables_1 i0 i1 i2 i3 i4 i5 cz fm s.heap s.heap.size (Nat.le_refl _) (Old.start s) S_cs hcz S_fm rfm p e ha hc hk s m _ below hf ((Spec.applies_iff_loose hf).mp happ).1 ⟨rfl, State.Warmed39.refl s, rfl, HC⟩ trivial
  refine ⟨n, _, h1, h2, h3, hpost _ _ _ _ _ _ ⟨Cond.after_iff.mpr rfl, Cond.after_iff.mpr (eq_i res_at (Term.int_eval (1)) rfl), trivial⟩ ⟨hq.1, hq.2.1, hq.2.2.1, (hq.2.2.2.sift fun y hy => Or.inr (N y hy)).mono (by decide) (by decide)⟩⟩
theorem main_1_1 : Claimed_1_1 := comes_1 fun _ _ _ _ _ _ h hF => ⟨h.1, hF⟩
theorem main_1_2 : Claimed_1_2 := comes_1 fun _ _ _ _ _ _ h hF => ⟨h.2.1, hF⟩
end Jvm.Pilot.@@N@@
namespace Jvm.Pilot.@@N@@
open Jvm Jvm.ClassFile Sem Op Lib Jvm.Free Jvm.Stand Jvm.Pilot.@@N@@.Jvm.D
/-! MADE BY PROGRAM (witnessworld.py) out of the Statement's table words and the real class files: 20 classes; the members and pool entries that the words name. The judged class is class 1, her method 7. -/
namespace start1
open Jvm.ClassFile
def u (s : String) : CpInfo := .utf8 (stringToUtf16 s)
/-- a pool by its gaps: so many unusable entries, then the entry; so many at the end -/
def gap : Nat → List CpInfo → List CpInfo
  | 0, r => r
  | n + 1, r => .unusable :: gap n r
def poolList (es : List (Nat × CpInfo)) (last : Nat) : List CpInfo := es.foldr (fun e r => gap e.1 (e.2 :: r)) (gap last [])
def pool (es : List (Nat × CpInfo)) (last : Nat) : Array CpInfo := ⟨poolList es last⟩
def fileOf (pool : Array CpInfo) (this : Nat) (attrs : Array Attribute := #[]) (ms : Array MethodInfo := #[]) (fl : Nat := 33) (sup : Nat := 0) (ifs : Array Nat := #[]) (fds : Array FieldInfo := #[]) : ClassFile where
  minorVersion := 0
  majorVersion := 65
  constantPool := pool
  accessFlags := fl
  thisClass := this
  superClass := sup
  interfaces := ifs
  fields := fds
  methods := ms
  attributes := attrs
def plain (name : String) (sup : Option ClassId) : Class where
  name := name
  kind := .ordinary
  loader := none
  accessFlags := 33
  super := sup
  interfaces := #[]
  cf := none
  fields := #[]
  methods := #[]
  instanceTypes := #[]
  staticTypes := #[]
  resolved := #[]
  callSites := []
  init := .initialized
  statics := none
  mirror := none

def pool0 : Array CpInfo := pool [(5, u "<init>"), (0, u "()V"), (1, .class_ 10), (1, u "java/lang/Object")] 113

def k0c0 : Code := { maxStack := 0, maxLocals := 1, code := object_method_1_code, exceptionTable := #[], attributes := #[] }
def k0m0 : Method := { name := "<init>", desc := "()V", sig := { parameters := [], returnType := none }, accessFlags := 1, code := some k0c0 }
/-- java/lang/Object -/
def k0 : Class := { plain "java/lang/Object" none with
  accessFlags := 33
  interfaces := #[]
  cf := some (fileOf pool0 8 #[] #[{ accessFlags := 1, nameIndex := 5, descriptorIndex := 6, attributes := #[] }] 33 0 #[] #[])
  fields := #[]
  methods := #[k0m0]
  instanceTypes := #[]
  staticTypes := #[]
  resolved := Array.replicate 124 none
  statics := none }

def pool1 : Array CpInfo := pool [(2, .class_ 4), (1, u "java/lang/Object"), (0, u "<init>"), (0, u "()V"), (0, .class_ 8), (0, u "java/lang/String"), (0, .methodref 7 10), (0, .nameAndType 5 11), (0, u "([C)V"), (0, .methodref 13 14), (0, .class_ 15), (0, .nameAndType 16 17), (0, u "com/example/tallyrule/tallyrule/DecimalsSignificantDigitsPinLaw"), (0, u "pick"), (0, u "(I)C"), (0, .integer 2147483647), (0, .methodref 13 20), (0, .nameAndType 21 22), (0, u "text"), (0, u "(ICCCCC)Ljava/lang/String;"), (0, .methodref 13 24), (0, .nameAndType 25 26), (0, u "isE"), (0, u "(C)Z"), (0, .methodref 13 28), (0, .nameAndType 29 26), (0, u "isDigit"), (0, .methodref 13 31), (0, .nameAndType 32 33), (0, u "one"), (0, u "(Z)I"), (0, .methodref 13 35), (0, .nameAndType 36 26), (0, u "isNz"), (0, .methodref 38 39), (0, .class_ 40), (0, .nameAndType 41 42), (0, u "com/example/tallyrule/tallyrule/Decimals"), (0, u "significantDigits"), (0, u "(Ljava/lang/String;)I"), (3, u "law"), (0, u "(IIIIII)Z")] 2

def k1m0 : Method := { name := "<init>", desc := "()V", sig := { parameters := [], returnType := none }, accessFlags := 2, code := none }
def k1c1 : Code := { maxStack := 3, maxLocals := 3, code := method_2_code, exceptionTable := #[], attributes := #[] }
def k1m1 : Method := { name := "pick", desc := "(I)C", sig := { parameters := [.int], returnType := some .char }, accessFlags := 10, code := some k1c1 }
def k1c2 : Code := { maxStack := 2, maxLocals := 1, code := method_3_code, exceptionTable := #[], attributes := #[] }
def k1m2 : Method := { name := "isE", desc := "(C)Z", sig := { parameters := [.char], returnType := some .boolean }, accessFlags := 10, code := some k1c2 }
def k1c3 : Code := { maxStack := 2, maxLocals := 1, code := method_4_code, exceptionTable := #[], attributes := #[] }
def k1m3 : Method := { name := "isDigit", desc := "(C)Z", sig := { parameters := [.char], returnType := some .boolean }, accessFlags := 10, code := some k1c3 }
def k1c4 : Code := { maxStack := 2, maxLocals := 1, code := method_5_code, exceptionTable := #[], attributes := #[] }
def k1m4 : Method := { name := "isNz", desc := "(C)Z", sig := { parameters := [.char], returnType := some .boolean }, accessFlags := 10, code := some k1c4 }
def k1c5 : Code := { maxStack := 1, maxLocals := 1, code := method_6_code, exceptionTable := #[], attributes := #[] }
def k1m5 : Method := { name := "one", desc := "(Z)I", sig := { parameters := [.boolean], returnType := some .int }, accessFlags := 10, code := some k1c5 }
def k1c6 : Code := { maxStack := 6, maxLocals := 6, code := method_7_code, exceptionTable := #[], attributes := #[] }
def k1m6 : Method := { name := "text", desc := "(ICCCCC)Ljava/lang/String;", sig := { parameters := [.int, .char, .char, .char, .char, .char], returnType := some (.object "java/lang/String") }, accessFlags := 10, code := some k1c6 }
def k1c7 : Code := { maxStack := 6, maxLocals := 24, code := code, exceptionTable := #[], attributes := #[] }
def k1m7 : Method := { name := "law", desc := "(IIIIII)Z", sig := { parameters := [.int, .int, .int, .int, .int, .int], returnType := some .boolean }, accessFlags := 9, code := some k1c7 }
/-- com/example/tallyrule/tallyrule/DecimalsSignificantDigitsPinLaw -/
def k1 : Class := { plain "com/example/tallyrule/tallyrule/DecimalsSignificantDigitsPinLaw" (some 0) with
  accessFlags := 49
  interfaces := #[]
  cf := some (fileOf pool1 13 #[] #[{ accessFlags := 2, nameIndex := 5, descriptorIndex := 6, attributes := #[] }, { accessFlags := 10, nameIndex := 16, descriptorIndex := 17, attributes := #[] }, { accessFlags := 10, nameIndex := 25, descriptorIndex := 26, attributes := #[] }, { accessFlags := 10, nameIndex := 29, descriptorIndex := 26, attributes := #[] }, { accessFlags := 10, nameIndex := 36, descriptorIndex := 26, attributes := #[] }, { accessFlags := 10, nameIndex := 32, descriptorIndex := 33, attributes := #[] }, { accessFlags := 10, nameIndex := 21, descriptorIndex := 22, attributes := #[] }, { accessFlags := 9, nameIndex := 46, descriptorIndex := 47, attributes := #[] }] 49 2 #[] #[])
  fields := #[]
  methods := #[k1m0, k1m1, k1m2, k1m3, k1m4, k1m5, k1m6, k1m7]
  instanceTypes := #[]
  staticTypes := #[]
  resolved := Array.replicate 50 none
  statics := none }

def pool2 : Array CpInfo := pool [(1, .class_ 2), (0, u "java/io/Serializable"), (0, .class_ 4), (0, u "java/lang/Object")] 2

/-- java/io/Serializable -/
def k2 : Class := { plain "java/io/Serializable" (some 0) with
  accessFlags := 1537
  interfaces := #[]
  cf := some (fileOf pool2 1 #[] #[] 1537 3 #[] #[])
  fields := #[]
  methods := #[]
  instanceTypes := #[]
  staticTypes := #[]
  resolved := Array.replicate 7 none
  statics := none }

def pool3 : Array CpInfo := pool [(1, .class_ 2), (0, u "java/lang/Comparable"), (0, .class_ 4), (0, u "java/lang/Object")] 7

/-- java/lang/Comparable -/
def k3 : Class := { plain "java/lang/Comparable" (some 0) with
  accessFlags := 1537
  interfaces := #[]
  cf := some (fileOf pool3 1 #[] #[] 1537 3 #[] #[])
  fields := #[]
  methods := #[]
  instanceTypes := #[]
  staticTypes := #[]
  resolved := Array.replicate 12 none
  statics := none }

def pool4 : Array CpInfo := pool [(2, .class_ 4), (1, u "java/lang/CharSequence"), (42, .class_ 48), (0, u "java/lang/CharSequence$1CodePointIterator"), (10, .class_ 60), (0, u "java/lang/CharSequence$1CharIterator"), (5, .class_ 67), (0, u "java/lang/Object")] 63

/-- java/lang/CharSequence -/
def k4 : Class := { plain "java/lang/CharSequence" (some 0) with
  accessFlags := 1537
  interfaces := #[]
  cf := some (fileOf pool4 2 #[.nestMembers #[47, 59]] #[] 1537 66 #[] #[])
  fields := #[]
  methods := #[]
  instanceTypes := #[]
  staticTypes := #[]
  resolved := Array.replicate 131 none
  statics := none }

def pool5 : Array CpInfo := pool [(1, .class_ 2), (0, u "java/lang/constant/Constable"), (0, .class_ 4), (0, u "java/lang/Object")] 6

/-- java/lang/constant/Constable -/
def k5 : Class := { plain "java/lang/constant/Constable" (some 0) with
  accessFlags := 1537
  interfaces := #[]
  cf := some (fileOf pool5 1 #[] #[] 1537 3 #[] #[])
  fields := #[]
  methods := #[]
  instanceTypes := #[]
  staticTypes := #[]
  resolved := Array.replicate 11 none
  statics := none }

def pool6 : Array CpInfo := pool [(1, .class_ 2), (0, u "java/lang/constant/ConstantDesc"), (0, .class_ 4), (0, u "java/lang/Object")] 32

/-- java/lang/constant/ConstantDesc -/
def k6 : Class := { plain "java/lang/constant/ConstantDesc" (some 0) with
  accessFlags := 1537
  interfaces := #[]
  cf := some (fileOf pool6 1 #[] #[] 1537 3 #[] #[])
  fields := #[]
  methods := #[]
  instanceTypes := #[]
  staticTypes := #[]
  resolved := Array.replicate 37 none
  statics := none }

def pool7 : Array CpInfo := pool [(1, .methodref 2 3), (0, .class_ 4), (0, .nameAndType 5 6), (0, u "java/lang/Object"), (0, u "<init>"), (0, u "()V"), (0, .string 8), (0, u ""), (0, .fieldref 10 11), (0, .class_ 12), (0, .nameAndType 13 14), (0, u "java/lang/String"), (0, u "value"), (0, u "[B"), (0, .fieldref 10 16), (0, .nameAndType 17 18), (0, u "coder"), (0, u "B"), (2, u "hash"), (0, u "I"), (2, u "hashIsZero"), (0, u "Z"), (0, .methodref 10 28), (0, .nameAndType 5 29), (0, u "([CIILjava/lang/Void;)V"), (8, .fieldref 10 39), (0, .nameAndType 40 26), (0, u "COMPACT_STRINGS"), (1, .class_ 44), (1, u "java/lang/StringUTF16"), (0, u "compress"), (1, .methodref 42 48), (0, .nameAndType 49 50), (0, u "coderFromArrayLen"), (0, u "([BI)B"), (56, .class_ 109), (1, u "java/lang/StringLatin1"), (32, u "()Z"), (34, .methodref 42 178), (0, .nameAndType 45 179), (0, u "([CII)[B"), (154, u "()I"), (0, .methodref 10 336), (0, .nameAndType 17 337), (0, u "()B"), (25, u "([BI)C"), (27, u "(II)V"), (35, u "(I)C"), (64, .methodref 10 493), (0, .nameAndType 494 142), (0, u "isLatin1"), (0, .methodref 107 496), (0, .nameAndType 497 363), (0, u "charAt"), (3, u "checkIndex"), (5, u "length"), (67, .class_ 576), (0, u "java/lang/CharSequence"), (22, u "CASE_INSENSITIVE_ORDER"), (0, u "Ljava/util/Comparator;"), (409, u "([C)V"), (42, .fieldref 1054 1055), (0, .class_ 1056), (0, .nameAndType 1057 1058), (0, u "jdk/internal/util/Preconditions"), (0, u "SIOOBE_FORMATTER"), (0, u "Ljava/util/function/BiFunction;"), (0, .methodref 1054 1060), (0, .nameAndType 501 1061), (0, u "(IILjava/util/function/BiFunction;)I"), (39, u "serialPersistentFields"), (0, u "[Ljava/io/ObjectStreamField;"), (0, .class_ 1104), (0, u "java/lang/String$CaseInsensitiveComparator"), (1, .class_ 1107), (0, u "java/io/Serializable"), (0, .class_ 1109), (0, u "java/lang/Comparable"), (0, .class_ 1111), (0, u "java/lang/constant/Constable"), (0, .class_ 1113), (0, u "java/lang/constant/ConstantDesc"), (2, u "serialVersionUID"), (0, u "J"), (3, u "REPL"), (0, u "C"), (2, u "LATIN1"), (1, u "UTF16")] 323

def k7m0 : Method := { name := "<init>", desc := "()V", sig := { parameters := [], returnType := none }, accessFlags := 1, code := none }
def k7c1 : Code := { maxStack := 5, maxLocals := 2, code := jdk_42_method_3_code, exceptionTable := #[], attributes := #[] }
def k7m1 : Method := { name := "<init>", desc := "([C)V", sig := { parameters := [(.array .char)], returnType := none }, accessFlags := 1, code := some k7c1 }
def k7c2 : Code := { maxStack := 2, maxLocals := 1, code := jdk_42_method_54_code, exceptionTable := #[], attributes := #[] }
def k7m2 : Method := { name := "length", desc := "()I", sig := { parameters := [], returnType := some .int }, accessFlags := 1, code := some k7c2 }
def k7c3 : Code := { maxStack := 2, maxLocals := 2, code := jdk_42_method_56_code, exceptionTable := #[], attributes := #[] }
def k7m3 : Method := { name := "charAt", desc := "(I)C", sig := { parameters := [.int], returnType := some .char }, accessFlags := 1, code := some k7c3 }
def k7c4 : Code := { maxStack := 4, maxLocals := 6, code := jdk_42_method_149_code, exceptionTable := #[], attributes := #[] }
def k7m4 : Method := { name := "<init>", desc := "([CIILjava/lang/Void;)V", sig := { parameters := [(.array .char), .int, .int, (.object "java/lang/Void")], returnType := none }, accessFlags := 2, code := some k7c4 }
def k7c5 : Code := { maxStack := 1, maxLocals := 1, code := jdk_42_method_152_code, exceptionTable := #[], attributes := #[] }
def k7m5 : Method := { name := "coder", desc := "()B", sig := { parameters := [], returnType := some .byte }, accessFlags := 0, code := some k7c5 }
def k7c6 : Code := { maxStack := 1, maxLocals := 1, code := jdk_42_method_154_code, exceptionTable := #[], attributes := #[] }
def k7m6 : Method := { name := "isLatin1", desc := "()Z", sig := { parameters := [], returnType := some .boolean }, accessFlags := 0, code := some k7c6 }
def k7c7 : Code := { maxStack := 3, maxLocals := 2, code := jdk_42_method_155_code, exceptionTable := #[], attributes := #[] }
def k7m7 : Method := { name := "checkIndex", desc := "(II)V", sig := { parameters := [.int, .int], returnType := none }, accessFlags := 8, code := some k7c7 }
/-- java/lang/String -/
def k7 : Class := { plain "java/lang/String" (some 0) with
  accessFlags := 49
  interfaces := #[2, 3, 4, 5, 6]
  cf := some (fileOf pool7 10 #[.nestMembers #[1103]] #[{ accessFlags := 1, nameIndex := 5, descriptorIndex := 6, attributes := #[] }, { accessFlags := 1, nameIndex := 5, descriptorIndex := 1010, attributes := #[] }, { accessFlags := 1, nameIndex := 507, descriptorIndex := 334, attributes := #[] }, { accessFlags := 1, nameIndex := 497, descriptorIndex := 427, attributes := #[] }, { accessFlags := 2, nameIndex := 5, descriptorIndex := 29, attributes := #[] }, { accessFlags := 0, nameIndex := 17, descriptorIndex := 337, attributes := #[] }, { accessFlags := 0, nameIndex := 494, descriptorIndex := 142, attributes := #[] }, { accessFlags := 8, nameIndex := 501, descriptorIndex := 391, attributes := #[] }] 49 2 #[1106, 1108, 575, 1110, 1112] #[{ accessFlags := 18, nameIndex := 13, descriptorIndex := 14, attributes := #[] }, { accessFlags := 18, nameIndex := 17, descriptorIndex := 18, attributes := #[] }, { accessFlags := 2, nameIndex := 21, descriptorIndex := 22, attributes := #[] }, { accessFlags := 2, nameIndex := 25, descriptorIndex := 26, attributes := #[] }, { accessFlags := 26, nameIndex := 1116, descriptorIndex := 1117, attributes := #[] }, { accessFlags := 24, nameIndex := 40, descriptorIndex := 26, attributes := #[] }, { accessFlags := 26, nameIndex := 1101, descriptorIndex := 1102, attributes := #[] }, { accessFlags := 26, nameIndex := 1121, descriptorIndex := 1122, attributes := #[] }, { accessFlags := 25, nameIndex := 599, descriptorIndex := 600, attributes := #[] }, { accessFlags := 24, nameIndex := 1125, descriptorIndex := 18, attributes := #[] }, { accessFlags := 24, nameIndex := 1127, descriptorIndex := 18, attributes := #[] }])
  fields := #[{ name := "value", type := (.array .byte), accessFlags := 18, slot := 0, constantValue := 0 }, { name := "coder", type := .byte, accessFlags := 18, slot := 1, constantValue := 0 }, { name := "hash", type := .int, accessFlags := 2, slot := 2, constantValue := 0 }, { name := "hashIsZero", type := .boolean, accessFlags := 2, slot := 3, constantValue := 0 }, { name := "serialVersionUID", type := .long, accessFlags := 26, slot := 0, constantValue := 0 }, { name := "COMPACT_STRINGS", type := .boolean, accessFlags := 24, slot := 1, constantValue := 0 }, { name := "serialPersistentFields", type := (.array (.object "java/io/ObjectStreamField")), accessFlags := 26, slot := 2, constantValue := 0 }, { name := "REPL", type := .char, accessFlags := 26, slot := 3, constantValue := 0 }, { name := "CASE_INSENSITIVE_ORDER", type := (.object "java/util/Comparator"), accessFlags := 25, slot := 4, constantValue := 0 }, { name := "LATIN1", type := .byte, accessFlags := 24, slot := 5, constantValue := 0 }, { name := "UTF16", type := .byte, accessFlags := 24, slot := 6, constantValue := 0 }]
  methods := #[k7m0, k7m1, k7m2, k7m3, k7m4, k7m5, k7m6, k7m7]
  instanceTypes := #[(.array .byte), .byte, .int, .boolean]
  staticTypes := #[.long, .boolean, (.array (.object "java/io/ObjectStreamField")), .char, (.object "java/util/Comparator"), .byte, .byte]
  resolved := Array.replicate 1451 none
  statics := some 0 }

def pool8 : Array CpInfo := pool [(6, .class_ 8), (1, u "java/lang/Object"), (0, u "<init>"), (0, u "()V"), (1, .class_ 14), (1, u "java/lang/StringUTF16"), (31, u "$assertionsDisabled"), (0, u "Z"), (13, u "HI_BYTE_SHIFT"), (0, u "I"), (2, u "LO_BYTE_SHIFT"), (49, .methodref 12 116), (0, .nameAndType 117 118), (0, u "compress"), (0, u "([CI[BII)I"), (3, u "([CII)[B"), (138, u "coderFromArrayLen"), (0, u "([BI)B"), (106, .class_ 371), (1, u "java/lang/StringUTF16$LinesSpliterator"), (58, u "MAX_LENGTH"), (196, .class_ 628), (0, u "java/lang/StringUTF16$CodePointsSpliterator"), (0, .class_ 630), (0, u "java/lang/StringUTF16$CharsSpliterator")] 4

def k8m0 : Method := { name := "<init>", desc := "()V", sig := { parameters := [], returnType := none }, accessFlags := 0, code := none }
def k8c1 : Code := { maxStack := 2, maxLocals := 2, code := jdk_52_method_15_code, exceptionTable := #[], attributes := #[] }
def k8m1 : Method := { name := "coderFromArrayLen", desc := "([BI)B", sig := { parameters := [(.array .byte), .int], returnType := some .byte }, accessFlags := 8, code := some k8c1 }
def k8c2 : Code := { maxStack := 5, maxLocals := 6, code := jdk_52_method_16_code, exceptionTable := #[], attributes := #[] }
def k8m2 : Method := { name := "compress", desc := "([CII)[B", sig := { parameters := [(.array .char), .int, .int], returnType := some (.array .byte) }, accessFlags := 9, code := some k8c2 }
def k8c3 : Code := { maxStack := 3, maxLocals := 7, code := jdk_52_method_21_code, exceptionTable := #[], attributes := #[] }
def k8m3 : Method := { name := "compress", desc := "([CI[BII)I", sig := { parameters := [(.array .char), .int, (.array .byte), .int, .int], returnType := some .int }, accessFlags := 9, code := some k8c3 }
/-- java/lang/StringUTF16 -/
def k8 : Class := { plain "java/lang/StringUTF16" (some 0) with
  accessFlags := 48
  interfaces := #[]
  cf := some (fileOf pool8 12 #[.nestMembers #[627, 629, 369]] #[{ accessFlags := 0, nameIndex := 9, descriptorIndex := 10, attributes := #[] }, { accessFlags := 8, nameIndex := 261, descriptorIndex := 262, attributes := #[] }, { accessFlags := 9, nameIndex := 117, descriptorIndex := 122, attributes := #[] }, { accessFlags := 9, nameIndex := 117, descriptorIndex := 118, attributes := #[] }] 48 6 #[] #[{ accessFlags := 26, nameIndex := 61, descriptorIndex := 62, attributes := #[] }, { accessFlags := 26, nameIndex := 65, descriptorIndex := 62, attributes := #[] }, { accessFlags := 24, nameIndex := 430, descriptorIndex := 62, attributes := #[] }, { accessFlags := 4120, nameIndex := 46, descriptorIndex := 47, attributes := #[] }])
  fields := #[{ name := "HI_BYTE_SHIFT", type := .int, accessFlags := 26, slot := 0, constantValue := 0 }, { name := "LO_BYTE_SHIFT", type := .int, accessFlags := 26, slot := 1, constantValue := 0 }, { name := "MAX_LENGTH", type := .int, accessFlags := 24, slot := 2, constantValue := 0 }, { name := "$assertionsDisabled", type := .boolean, accessFlags := 4120, slot := 3, constantValue := 0 }]
  methods := #[k8m0, k8m1, k8m2, k8m3]
  instanceTypes := #[]
  staticTypes := #[.int, .int, .int, .boolean]
  resolved := Array.replicate 635 none
  statics := none }

def pool9 : Array CpInfo := pool [(1, .class_ 2), (0, u "com/example/tallyrule/tallyrule/Decimals"), (1, .class_ 6), (1, u "java/lang/Object"), (0, u "<init>"), (0, u "()V"), (3, .class_ 14), (1, u "java/lang/String"), (6, .methodref 12 22), (0, .nameAndType 23 24), (0, u "length"), (0, u "()I"), (0, .methodref 12 26), (0, .nameAndType 27 28), (0, u "charAt"), (0, u "(I)C"), (2, u "significantDigits"), (0, u "(Ljava/lang/String;)I"), (27, u "MAX_DIGITS"), (0, u "I"), (2, u "MAX_PLACES"), (1, u "LONG_DIGITS"), (1, u "TOO_LONG"), (0, u "Ljava/lang/String;")] 9

def k9m0 : Method := { name := "<init>", desc := "()V", sig := { parameters := [], returnType := none }, accessFlags := 2, code := none }
def k9c1 : Code := { maxStack := 2, maxLocals := 4, code := prog_5_method_7_code, exceptionTable := #[], attributes := #[] }
def k9m1 : Method := { name := "significantDigits", desc := "(Ljava/lang/String;)I", sig := { parameters := [(.object "java/lang/String")], returnType := some .int }, accessFlags := 8, code := some k9c1 }
/-- com/example/tallyrule/tallyrule/Decimals -/
def k9 : Class := { plain "com/example/tallyrule/tallyrule/Decimals" (some 0) with
  accessFlags := 33
  interfaces := #[]
  cf := some (fileOf pool9 1 #[] #[{ accessFlags := 2, nameIndex := 7, descriptorIndex := 8, attributes := #[] }, { accessFlags := 8, nameIndex := 31, descriptorIndex := 32, attributes := #[] }] 33 4 #[] #[{ accessFlags := 24, nameIndex := 60, descriptorIndex := 61, attributes := #[] }, { accessFlags := 24, nameIndex := 64, descriptorIndex := 61, attributes := #[] }, { accessFlags := 24, nameIndex := 66, descriptorIndex := 61, attributes := #[] }, { accessFlags := 24, nameIndex := 68, descriptorIndex := 69, attributes := #[] }])
  fields := #[{ name := "MAX_DIGITS", type := .int, accessFlags := 24, slot := 0, constantValue := 0 }, { name := "MAX_PLACES", type := .int, accessFlags := 24, slot := 1, constantValue := 0 }, { name := "LONG_DIGITS", type := .int, accessFlags := 24, slot := 2, constantValue := 0 }, { name := "TOO_LONG", type := (.object "java/lang/String"), accessFlags := 24, slot := 3, constantValue := 0 }]
  methods := #[k9m0, k9m1]
  instanceTypes := #[]
  staticTypes := #[.int, .int, .int, (.object "java/lang/String")]
  resolved := Array.replicate 79 none
  statics := none }

def pool10 : Array CpInfo := pool [(1, .class_ 2), (0, u "java/lang/String"), (1, .class_ 6), (1, u "java/lang/Object"), (0, u "<init>"), (0, u "()V"), (0, .methodref 1 10), (0, .nameAndType 11 12), (0, u "checkIndex"), (0, u "(II)V"), (1, .class_ 16), (1, u "java/lang/StringLatin1"), (36, u "([BI)C"), (67, u "$assertionsDisabled"), (0, u "Z"), (98, .class_ 223), (1, u "java/lang/StringLatin1$LinesSpliterator"), (28, u "charAt"), (137, .class_ 391), (0, u "java/lang/StringLatin1$CharsSpliterator")] 3

def k10m0 : Method := { name := "<init>", desc := "()V", sig := { parameters := [], returnType := none }, accessFlags := 0, code := none }
def k10c1 : Code := { maxStack := 2, maxLocals := 2, code := jdk_43_method_2_code, exceptionTable := #[], attributes := #[] }
def k10m1 : Method := { name := "charAt", desc := "([BI)C", sig := { parameters := [(.array .byte), .int], returnType := some .char }, accessFlags := 9, code := some k10c1 }
/-- java/lang/StringLatin1 -/
def k10 : Class := { plain "java/lang/StringLatin1" (some 0) with
  accessFlags := 48
  interfaces := #[]
  cf := some (fileOf pool10 14 #[.nestMembers #[390, 221]] #[{ accessFlags := 0, nameIndex := 7, descriptorIndex := 8, attributes := #[] }, { accessFlags := 9, nameIndex := 252, descriptorIndex := 53, attributes := #[] }] 48 4 #[] #[{ accessFlags := 4120, nameIndex := 121, descriptorIndex := 122, attributes := #[] }])
  fields := #[{ name := "$assertionsDisabled", type := .boolean, accessFlags := 4120, slot := 0, constantValue := 0 }]
  methods := #[k10m0, k10m1]
  instanceTypes := #[]
  staticTypes := #[.boolean]
  resolved := Array.replicate 395 none
  statics := none }

def pool11 : Array CpInfo := pool [(2, .class_ 4), (1, u "java/lang/Object"), (0, u "<init>"), (0, u "()V"), (17, .class_ 26), (1, u "jdk/internal/util/Preconditions"), (6, u "checkIndex"), (21, .class_ 56), (0, u "jdk/internal/util/Preconditions$4"), (57, .class_ 115), (0, u "jdk/internal/util/Preconditions$1"), (7, u "SIOOBE_FORMATTER"), (0, u "Ljava/util/function/BiFunction;"), (0, .class_ 126), (0, u "jdk/internal/util/Preconditions$2"), (3, u "AIOOBE_FORMATTER"), (0, .class_ 132), (0, u "jdk/internal/util/Preconditions$3"), (3, u "IOOBE_FORMATTER"), (41, u "(IILjava/util/function/BiFunction;)I")] 15

def k11m0 : Method := { name := "<init>", desc := "()V", sig := { parameters := [], returnType := none }, accessFlags := 1, code := none }
def k11c1 : Code := { maxStack := 3, maxLocals := 3, code := jdk_41_method_11_code, exceptionTable := #[], attributes := #[] }
def k11m1 : Method := { name := "checkIndex", desc := "(IILjava/util/function/BiFunction;)I", sig := { parameters := [.int, .int, (.object "java/util/function/BiFunction")], returnType := some .int }, accessFlags := 9, code := some k11c1 }
/-- jdk/internal/util/Preconditions -/
def k11 : Class := { plain "jdk/internal/util/Preconditions" (some 0) with
  accessFlags := 33
  interfaces := #[]
  cf := some (fileOf pool11 24 #[.nestMembers #[55, 131, 125, 114]] #[{ accessFlags := 1, nameIndex := 5, descriptorIndex := 6, attributes := #[] }, { accessFlags := 9, nameIndex := 33, descriptorIndex := 178, attributes := #[] }] 33 2 #[] #[{ accessFlags := 25, nameIndex := 123, descriptorIndex := 124, attributes := #[] }, { accessFlags := 25, nameIndex := 130, descriptorIndex := 124, attributes := #[] }, { accessFlags := 25, nameIndex := 136, descriptorIndex := 124, attributes := #[] }])
  fields := #[{ name := "SIOOBE_FORMATTER", type := (.object "java/util/function/BiFunction"), accessFlags := 25, slot := 0, constantValue := 0 }, { name := "AIOOBE_FORMATTER", type := (.object "java/util/function/BiFunction"), accessFlags := 25, slot := 1, constantValue := 0 }, { name := "IOOBE_FORMATTER", type := (.object "java/util/function/BiFunction"), accessFlags := 25, slot := 2, constantValue := 0 }]
  methods := #[k11m0, k11m1]
  instanceTypes := #[]
  staticTypes := #[(.object "java/util/function/BiFunction"), (.object "java/util/function/BiFunction"), (.object "java/util/function/BiFunction")]
  resolved := Array.replicate 194 none
  statics := some 1 }

def pool12 : Array CpInfo := pool [(9, u "<init>"), (6, .class_ 18), (1, u "java/lang/Object"), (0, u "()V"), (1, .class_ 23), (1, u "jdk/internal/util/ArraysSupport"), (0, u "LOG2_ARRAY_LONG_INDEX_SCALE"), (0, u "I"), (2, u "U"), (0, u "Ljdk/internal/misc/Unsafe;"), (8, u "BIG_ENDIAN"), (0, u "Z"), (8, u "LOG2_BYTE_BIT_SIZE"), (4, u "LOG2_ARRAY_INT_INDEX_SCALE"), (54, u "JLA"), (0, u "Ljdk/internal/access/JavaLangAccess;"), (11, u "LOG2_ARRAY_BOOLEAN_INDEX_SCALE"), (9, u "LOG2_ARRAY_BYTE_INDEX_SCALE"), (5, u "LOG2_ARRAY_CHAR_INDEX_SCALE"), (5, u "LOG2_ARRAY_SHORT_INDEX_SCALE"), (18, u "LOG2_ARRAY_FLOAT_INDEX_SCALE"), (24, u "LOG2_ARRAY_DOUBLE_INDEX_SCALE"), (89, u "T_BOOLEAN"), (2, u "T_CHAR"), (1, u "T_FLOAT"), (1, u "T_DOUBLE"), (1, u "T_BYTE"), (1, u "T_SHORT"), (1, u "T_INT"), (1, u "T_LONG"), (1, u "SOFT_MAX_ARRAY_LENGTH")] 83

def k12m0 : Method := { name := "<init>", desc := "()V", sig := { parameters := [], returnType := none }, accessFlags := 2, code := none }
/-- jdk/internal/util/ArraysSupport -/
def k12 : Class := { plain "jdk/internal/util/ArraysSupport" (some 0) with
  accessFlags := 33
  interfaces := #[]
  cf := some (fileOf pool12 21 #[] #[{ accessFlags := 2, nameIndex := 9, descriptorIndex := 19, attributes := #[] }] 33 16 #[] #[{ accessFlags := 24, nameIndex := 28, descriptorIndex := 29, attributes := #[] }, { accessFlags := 26, nameIndex := 38, descriptorIndex := 39, attributes := #[] }, { accessFlags := 25, nameIndex := 121, descriptorIndex := 25, attributes := #[] }, { accessFlags := 25, nameIndex := 131, descriptorIndex := 25, attributes := #[] }, { accessFlags := 25, nameIndex := 137, descriptorIndex := 25, attributes := #[] }, { accessFlags := 25, nameIndex := 143, descriptorIndex := 25, attributes := #[] }, { accessFlags := 25, nameIndex := 53, descriptorIndex := 25, attributes := #[] }, { accessFlags := 25, nameIndex := 24, descriptorIndex := 25, attributes := #[] }, { accessFlags := 25, nameIndex := 162, descriptorIndex := 25, attributes := #[] }, { accessFlags := 25, nameIndex := 187, descriptorIndex := 25, attributes := #[] }, { accessFlags := 26, nameIndex := 48, descriptorIndex := 25, attributes := #[] }, { accessFlags := 25, nameIndex := 277, descriptorIndex := 25, attributes := #[] }, { accessFlags := 25, nameIndex := 280, descriptorIndex := 25, attributes := #[] }, { accessFlags := 25, nameIndex := 282, descriptorIndex := 25, attributes := #[] }, { accessFlags := 25, nameIndex := 284, descriptorIndex := 25, attributes := #[] }, { accessFlags := 25, nameIndex := 286, descriptorIndex := 25, attributes := #[] }, { accessFlags := 25, nameIndex := 288, descriptorIndex := 25, attributes := #[] }, { accessFlags := 25, nameIndex := 290, descriptorIndex := 25, attributes := #[] }, { accessFlags := 25, nameIndex := 292, descriptorIndex := 25, attributes := #[] }, { accessFlags := 26, nameIndex := 108, descriptorIndex := 109, attributes := #[] }, { accessFlags := 25, nameIndex := 294, descriptorIndex := 25, attributes := #[] }])
  fields := #[{ name := "U", type := (.object "jdk/internal/misc/Unsafe"), accessFlags := 24, slot := 0, constantValue := 0 }, { name := "BIG_ENDIAN", type := .boolean, accessFlags := 26, slot := 1, constantValue := 0 }, { name := "LOG2_ARRAY_BOOLEAN_INDEX_SCALE", type := .int, accessFlags := 25, slot := 2, constantValue := 0 }, { name := "LOG2_ARRAY_BYTE_INDEX_SCALE", type := .int, accessFlags := 25, slot := 3, constantValue := 0 }, { name := "LOG2_ARRAY_CHAR_INDEX_SCALE", type := .int, accessFlags := 25, slot := 4, constantValue := 0 }, { name := "LOG2_ARRAY_SHORT_INDEX_SCALE", type := .int, accessFlags := 25, slot := 5, constantValue := 0 }, { name := "LOG2_ARRAY_INT_INDEX_SCALE", type := .int, accessFlags := 25, slot := 6, constantValue := 0 }, { name := "LOG2_ARRAY_LONG_INDEX_SCALE", type := .int, accessFlags := 25, slot := 7, constantValue := 0 }, { name := "LOG2_ARRAY_FLOAT_INDEX_SCALE", type := .int, accessFlags := 25, slot := 8, constantValue := 0 }, { name := "LOG2_ARRAY_DOUBLE_INDEX_SCALE", type := .int, accessFlags := 25, slot := 9, constantValue := 0 }, { name := "LOG2_BYTE_BIT_SIZE", type := .int, accessFlags := 26, slot := 10, constantValue := 0 }, { name := "T_BOOLEAN", type := .int, accessFlags := 25, slot := 11, constantValue := 0 }, { name := "T_CHAR", type := .int, accessFlags := 25, slot := 12, constantValue := 0 }, { name := "T_FLOAT", type := .int, accessFlags := 25, slot := 13, constantValue := 0 }, { name := "T_DOUBLE", type := .int, accessFlags := 25, slot := 14, constantValue := 0 }, { name := "T_BYTE", type := .int, accessFlags := 25, slot := 15, constantValue := 0 }, { name := "T_SHORT", type := .int, accessFlags := 25, slot := 16, constantValue := 0 }, { name := "T_INT", type := .int, accessFlags := 25, slot := 17, constantValue := 0 }, { name := "T_LONG", type := .int, accessFlags := 25, slot := 18, constantValue := 0 }, { name := "JLA", type := (.object "jdk/internal/access/JavaLangAccess"), accessFlags := 26, slot := 19, constantValue := 0 }, { name := "SOFT_MAX_ARRAY_LENGTH", type := .int, accessFlags := 25, slot := 20, constantValue := 0 }]
  methods := #[k12m0]
  instanceTypes := #[]
  staticTypes := #[(.object "jdk/internal/misc/Unsafe"), .boolean, .int, .int, .int, .int, .int, .int, .int, .int, .int, .int, .int, .int, .int, .int, .int, .int, .int, (.object "jdk/internal/access/JavaLangAccess"), .int]
  resolved := Array.replicate 378 none
  statics := none }

def pool13 : Array CpInfo := pool [(1, u "java/lang/Cloneable"), (0, .class_ 1), (0, u "java/lang/Object"), (0, .class_ 3)] 3

/-- java/lang/Cloneable -/
def k13 : Class := { plain "java/lang/Cloneable" (some 0) with
  accessFlags := 1537
  interfaces := #[]
  cf := some (fileOf pool13 2 #[] #[] 1537 4 #[] #[])
  fields := #[]
  methods := #[]
  instanceTypes := #[]
  staticTypes := #[]
  resolved := Array.replicate 8 none
  statics := none }

/-- the primitive byte -/
def k14 : Class := { plain "byte" none with kind := .primitive 'B', accessFlags := 0x411 }
/-- [B -/
def k15 : Class := { plain "[B" (some 0) with kind := .array 14 .byte, interfaces := #[13, 2], accessFlags := 1041 }

/-- the primitive char -/
def k16 : Class := { plain "char" none with kind := .primitive 'C', accessFlags := 0x411 }
/-- [C -/
def k17 : Class := { plain "[C" (some 0) with kind := .array 16 .char, interfaces := #[13, 2], accessFlags := 1041 }

/-- the primitive int -/
def k18 : Class := { plain "int" none with kind := .primitive 'I', accessFlags := 0x411 }
/-- [I -/
def k19 : Class := { plain "[I" (some 0) with kind := .array 18 .int, interfaces := #[13, 2], accessFlags := 1041 }

def heap : Heap := #[{ cls := 7, slots := #[.long 0, .int 1, .null, .int 0, .null, .int 0, .int 0], vm := .statics 7 },
  { cls := 11, slots := #[.null, .null, .null], vm := .statics 11 }]
def classes : Array Class := #[k0, k1, k2, k3, k4, k5, k6, k7, k8, k9, k10, k11, k12, k13, k14, k15, k16, k17, k18, k19]
def interned : List (Array UInt16 × Addr) := []
def slotsUsed : Nat := 10
def theMethod : MethodId := ⟨1, 7⟩
def args0 : Array Value := #[.int 5, .int 3, .int 4, .int 1, .int 7, .int 3]
def aboutOver (below : List Frame) : State where
  vm := { classes := classes, interned := interned.toArray }
  heap := heap
  slotsUsed := slotsUsed
  threads := #[{ frames := .invoking theMethod args0 :: below }]
def below0 : List Frame := [.native { method := ⟨0, 0⟩, args := #[] }]
def about1 : State := aboutOver below0
def p0 : Program := .bare "" "" ""
def e0 : Env := launch0.env 0 0 0
theorem w_frames : about1.frames = Frame.invoking theMethod args0 :: below0 := rfl
set_option maxRecDepth 65536 in
theorem w_args : argsFit about1.vm theMethod args0 = true := by decide +kernel
set_option maxRecDepth 65536 in
theorem w_heap : heapFits about1 = true := by decide +kernel
set_option maxRecDepth 65536 in
theorem w_runnable : about1.curStatus? = some .runnable := by decide +kernel
set_option maxRecDepth 65536 in
theorem w_alone : about1.alone = true := by decide +kernel
set_option maxRecDepth 65536 in
theorem w_named : about1.methodNamed? x = some theMethod := by decide +kernel
set_option maxRecDepth 65536 in
theorem w_hears : about1.hears theMethod below0 = true := by decide +kernel
set_option maxRecDepth 65536 in
theorem w_ripe : about1.ripe theMethod args0 below0 = true := by decide +kernel
theorem w_running : about1.status = .running := rfl
set_option maxRecDepth 65536 in
theorem w_room : about1.hasRoom e0.platform room_1 = true :=
  launch0.hasRoom_least _ room_1 (by decide +kernel) (by decide +kernel) (by decide +kernel) (by decide +kernel) (by decide +kernel) (by decide +kernel)
theorem allAtoms_all (ts : List Jvm.Cond) (a : Array Jvm.Value) (st : Jvm.State) : (allAtoms ts).before a st = ts.all (fun c => c.before a st) := by
  induction ts with
  | nil => rfl
  | cons c t ih =>
    show (Jvm.Cond.and c (allAtoms t)).before a st = _
    rw [Jvm.Cond.before_and, ih, List.all_cons]
def words1 : List Jvm.Cond := Jvm.Cond.code x code maxLocals ret :: tables_1
/-- a 'code' word, met by the world's own term for the bytes: nothing is compared byte by byte -/
theorem code_word {y : MethodName} {bytes : ByteArray} {mx : Nat} {rt : Option FieldType} {a : Array Value} {s : State} {m : MethodId} {meth : Method} {c : Code} (h1 : s.methodNamed? y = some m) (h2 : s.vm.method? m = some meth) (h3 : meth.code = some c) (h4 : c.code = bytes)
    (h5 : (c.maxLocals == mx && c.exceptionTable.isEmpty && decide (c.maxStack ≤ mostOperands) && decide (meth.sig.returnType = rt) && !meth.locks && decide (parseMethodDescriptor y.desc = some meth.sig)) = true) : (Jvm.Cond.code y bytes mx rt).before a s = true := by
  simp only [Bool.and_eq_true, beq_iff_eq, Bool.not_eq_true', decide_eq_true_eq] at h5
  obtain ⟨⟨⟨⟨⟨g1, g2⟩, g3⟩, g4⟩, g5⟩, g6⟩ := h5
  simp [Cond.before, Cond.holds, Cond.value, h1, h2, h3, h4, g1, g2, g3, g4, g5, g6]
def isCode : Jvm.Cond → Bool
  | .code _ _ _ _ => true
  | _ => false
theorem all_split {L : List Jvm.Cond} {P : Jvm.Cond → Bool} (h1 : L.all (fun c => isCode c || P c) = true) (h2 : ∀ c ∈ L.filter isCode, P c = true) : L.all P = true := by
  refine List.all_eq_true.mpr fun c hc => ?_
  have h := List.all_eq_true.mp h1 c hc
  rcases Bool.eq_false_or_eq_true (isCode c) with hi | hi
  · exact h2 c (List.mem_filter.mpr ⟨hc, hi⟩)
  · simpa [hi] using h
set_option maxRecDepth 65536 in
theorem w_c0 : (Jvm.Cond.code x code maxLocals ret).before args0 about1 = true := code_word (m := ⟨1, 7⟩) (meth := k1m7) (c := k1c7) (by decide +kernel) rfl rfl rfl (by decide +kernel)
set_option maxRecDepth 65536 in
theorem w_c1 : (Jvm.Cond.code ({ cls := "com/example/tallyrule/tallyrule/DecimalsSignificantDigitsPinLaw", name := "pick", desc := "(I)C" } : Jvm.MethodName) method_2_code (3 : Nat) (Option.some Jvm.ClassFile.FieldType.char)).before args0 about1 = true := code_word (m := ⟨1, 1⟩) (meth := k1m1) (c := k1c1) (by decide +kernel) rfl rfl rfl (by decide +kernel)
set_option maxRecDepth 65536 in
theorem w_c2 : (Jvm.Cond.code ({ cls := "com/example/tallyrule/tallyrule/DecimalsSignificantDigitsPinLaw", name := "text", desc := "(ICCCCC)Ljava/lang/String;" } : Jvm.MethodName) method_7_code (6 : Nat) (Option.some (Jvm.ClassFile.FieldType.object "java/lang/String"))).before args0 about1 = true := code_word (m := ⟨1, 6⟩) (meth := k1m6) (c := k1c6) (by decide +kernel) rfl rfl rfl (by decide +kernel)
set_option maxRecDepth 65536 in
theorem w_c3 : (Jvm.Cond.code ({ cls := "java/lang/String", name := "<init>", desc := "([C)V" } : Jvm.MethodName) jdk_42_method_3_code (2 : Nat) (Option.none : Option Jvm.ClassFile.FieldType)).before args0 about1 = true := code_word (m := ⟨7, 1⟩) (meth := k7m1) (c := k7c1) (by decide +kernel) rfl rfl rfl (by decide +kernel)
set_option maxRecDepth 65536 in
theorem w_c4 : (Jvm.Cond.code ({ cls := "java/lang/String", name := "<init>", desc := "([CIILjava/lang/Void;)V" } : Jvm.MethodName) jdk_42_method_149_code (6 : Nat) (Option.none : Option Jvm.ClassFile.FieldType)).before args0 about1 = true := code_word (m := ⟨7, 4⟩) (meth := k7m4) (c := k7c4) (by decide +kernel) rfl rfl rfl (by decide +kernel)
set_option maxRecDepth 65536 in
theorem w_c5 : (Jvm.Cond.code ({ cls := "java/lang/Object", name := "<init>", desc := "()V" } : Jvm.MethodName) object_method_1_code (1 : Nat) (Option.none : Option Jvm.ClassFile.FieldType)).before args0 about1 = true := code_word (m := ⟨0, 0⟩) (meth := k0m0) (c := k0c0) (by decide +kernel) rfl rfl rfl (by decide +kernel)
set_option maxRecDepth 65536 in
theorem w_c6 : (Jvm.Cond.code ({ cls := "java/lang/StringUTF16", name := "compress", desc := "([CII)[B" } : Jvm.MethodName) jdk_52_method_16_code (6 : Nat) (Option.some (Jvm.ClassFile.FieldType.array Jvm.ClassFile.FieldType.byte))).before args0 about1 = true := code_word (m := ⟨8, 2⟩) (meth := k8m2) (c := k8c2) (by decide +kernel) rfl rfl rfl (by decide +kernel)
set_option maxRecDepth 65536 in
theorem w_c7 : (Jvm.Cond.code ({ cls := "java/lang/StringUTF16", name := "compress", desc := "([CI[BII)I" } : Jvm.MethodName) jdk_52_method_21_code (7 : Nat) (Option.some Jvm.ClassFile.FieldType.int)).before args0 about1 = true := code_word (m := ⟨8, 3⟩) (meth := k8m3) (c := k8c3) (by decide +kernel) rfl rfl rfl (by decide +kernel)
set_option maxRecDepth 65536 in
theorem w_c8 : (Jvm.Cond.code ({ cls := "java/lang/StringUTF16", name := "coderFromArrayLen", desc := "([BI)B" } : Jvm.MethodName) jdk_52_method_15_code (2 : Nat) (Option.some Jvm.ClassFile.FieldType.byte)).before args0 about1 = true := code_word (m := ⟨8, 1⟩) (meth := k8m1) (c := k8c1) (by decide +kernel) rfl rfl rfl (by decide +kernel)
set_option maxRecDepth 65536 in
theorem w_c9 : (Jvm.Cond.code ({ cls := "com/example/tallyrule/tallyrule/DecimalsSignificantDigitsPinLaw", name := "isE", desc := "(C)Z" } : Jvm.MethodName) method_3_code (1 : Nat) (Option.some Jvm.ClassFile.FieldType.boolean)).before args0 about1 = true := code_word (m := ⟨1, 2⟩) (meth := k1m2) (c := k1c2) (by decide +kernel) rfl rfl rfl (by decide +kernel)
set_option maxRecDepth 65536 in
theorem w_c10 : (Jvm.Cond.code ({ cls := "com/example/tallyrule/tallyrule/DecimalsSignificantDigitsPinLaw", name := "isDigit", desc := "(C)Z" } : Jvm.MethodName) method_4_code (1 : Nat) (Option.some Jvm.ClassFile.FieldType.boolean)).before args0 about1 = true := code_word (m := ⟨1, 3⟩) (meth := k1m3) (c := k1c3) (by decide +kernel) rfl rfl rfl (by decide +kernel)
set_option maxRecDepth 65536 in
theorem w_c11 : (Jvm.Cond.code ({ cls := "com/example/tallyrule/tallyrule/DecimalsSignificantDigitsPinLaw", name := "one", desc := "(Z)I" } : Jvm.MethodName) method_6_code (1 : Nat) (Option.some Jvm.ClassFile.FieldType.int)).before args0 about1 = true := code_word (m := ⟨1, 5⟩) (meth := k1m5) (c := k1c5) (by decide +kernel) rfl rfl rfl (by decide +kernel)
set_option maxRecDepth 65536 in
theorem w_c12 : (Jvm.Cond.code ({ cls := "com/example/tallyrule/tallyrule/DecimalsSignificantDigitsPinLaw", name := "isNz", desc := "(C)Z" } : Jvm.MethodName) method_5_code (1 : Nat) (Option.some Jvm.ClassFile.FieldType.boolean)).before args0 about1 = true := code_word (m := ⟨1, 4⟩) (meth := k1m4) (c := k1c4) (by decide +kernel) rfl rfl rfl (by decide +kernel)
set_option maxRecDepth 65536 in
theorem w_c13 : (Jvm.Cond.code ({ cls := "com/example/tallyrule/tallyrule/Decimals", name := "significantDigits", desc := "(Ljava/lang/String;)I" } : Jvm.MethodName) prog_5_method_7_code (4 : Nat) (Option.some Jvm.ClassFile.FieldType.int)).before args0 about1 = true := code_word (m := ⟨9, 1⟩) (meth := k9m1) (c := k9c1) (by decide +kernel) rfl rfl rfl (by decide +kernel)
set_option maxRecDepth 65536 in
theorem w_c14 : (Jvm.Cond.code ({ cls := "java/lang/String", name := "length", desc := "()I" } : Jvm.MethodName) jdk_42_method_54_code (1 : Nat) (Option.some Jvm.ClassFile.FieldType.int)).before args0 about1 = true := code_word (m := ⟨7, 2⟩) (meth := k7m2) (c := k7c2) (by decide +kernel) rfl rfl rfl (by decide +kernel)
set_option maxRecDepth 65536 in
theorem w_c15 : (Jvm.Cond.code ({ cls := "java/lang/String", name := "coder", desc := "()B" } : Jvm.MethodName) jdk_42_method_152_code (1 : Nat) (Option.some Jvm.ClassFile.FieldType.byte)).before args0 about1 = true := code_word (m := ⟨7, 5⟩) (meth := k7m5) (c := k7c5) (by decide +kernel) rfl rfl rfl (by decide +kernel)
set_option maxRecDepth 65536 in
theorem w_c16 : (Jvm.Cond.code ({ cls := "java/lang/String", name := "charAt", desc := "(I)C" } : Jvm.MethodName) jdk_42_method_56_code (2 : Nat) (Option.some Jvm.ClassFile.FieldType.char)).before args0 about1 = true := code_word (m := ⟨7, 3⟩) (meth := k7m3) (c := k7c3) (by decide +kernel) rfl rfl rfl (by decide +kernel)
set_option maxRecDepth 65536 in
theorem w_c17 : (Jvm.Cond.code ({ cls := "java/lang/String", name := "isLatin1", desc := "()Z" } : Jvm.MethodName) jdk_42_method_154_code (1 : Nat) (Option.some Jvm.ClassFile.FieldType.boolean)).before args0 about1 = true := code_word (m := ⟨7, 6⟩) (meth := k7m6) (c := k7c6) (by decide +kernel) rfl rfl rfl (by decide +kernel)
set_option maxRecDepth 65536 in
theorem w_c18 : (Jvm.Cond.code ({ cls := "java/lang/StringLatin1", name := "charAt", desc := "([BI)C" } : Jvm.MethodName) jdk_43_method_2_code (2 : Nat) (Option.some Jvm.ClassFile.FieldType.char)).before args0 about1 = true := code_word (m := ⟨10, 1⟩) (meth := k10m1) (c := k10c1) (by decide +kernel) rfl rfl rfl (by decide +kernel)
set_option maxRecDepth 65536 in
theorem w_c19 : (Jvm.Cond.code ({ cls := "java/lang/String", name := "checkIndex", desc := "(II)V" } : Jvm.MethodName) jdk_42_method_155_code (2 : Nat) (Option.none : Option Jvm.ClassFile.FieldType)).before args0 about1 = true := code_word (m := ⟨7, 7⟩) (meth := k7m7) (c := k7c7) (by decide +kernel) rfl rfl rfl (by decide +kernel)
set_option maxRecDepth 65536 in
theorem w_c20 : (Jvm.Cond.code ({ cls := "jdk/internal/util/Preconditions", name := "checkIndex", desc := "(IILjava/util/function/BiFunction;)I" } : Jvm.MethodName) jdk_41_method_11_code (3 : Nat) (Option.some Jvm.ClassFile.FieldType.int)).before args0 about1 = true := code_word (m := ⟨11, 1⟩) (meth := k11m1) (c := k11c1) (by decide +kernel) rfl rfl rfl (by decide +kernel)
def codes1 : List Jvm.Cond := [Jvm.Cond.code x code maxLocals ret, Jvm.Cond.code ({ cls := "com/example/tallyrule/tallyrule/DecimalsSignificantDigitsPinLaw", name := "pick", desc := "(I)C" } : Jvm.MethodName) method_2_code (3 : Nat) (Option.some Jvm.ClassFile.FieldType.char), Jvm.Cond.code ({ cls := "com/example/tallyrule/tallyrule/DecimalsSignificantDigitsPinLaw", name := "text", desc := "(ICCCCC)Ljava/lang/String;" } : Jvm.MethodName) method_7_code (6 : Nat) (Option.some (Jvm.ClassFile.FieldType.object "java/lang/String")), Jvm.Cond.code ({ cls := "java/lang/String", name := "<init>", desc := "([C)V" } : Jvm.MethodName) jdk_42_method_3_code (2 : Nat) (Option.none : Option Jvm.ClassFile.FieldType), Jvm.Cond.code ({ cls := "java/lang/String", name := "<init>", desc := "([CIILjava/lang/Void;)V" } : Jvm.MethodName) jdk_42_method_149_code (6 : Nat) (Option.none : Option Jvm.ClassFile.FieldType), Jvm.Cond.code ({ cls := "java/lang/Object", name := "<init>", desc := "()V" } : Jvm.MethodName) object_method_1_code (1 : Nat) (Option.none : Option Jvm.ClassFile.FieldType), Jvm.Cond.code ({ cls := "java/lang/StringUTF16", name := "compress", desc := "([CII)[B" } : Jvm.MethodName) jdk_52_method_16_code (6 : Nat) (Option.some (Jvm.ClassFile.FieldType.array Jvm.ClassFile.FieldType.byte)), Jvm.Cond.code ({ cls := "java/lang/StringUTF16", name := "compress", desc := "([CI[BII)I" } : Jvm.MethodName) jdk_52_method_21_code (7 : Nat) (Option.some Jvm.ClassFile.FieldType.int), Jvm.Cond.code ({ cls := "java/lang/StringUTF16", name := "coderFromArrayLen", desc := "([BI)B" } : Jvm.MethodName) jdk_52_method_15_code (2 : Nat) (Option.some Jvm.ClassFile.FieldType.byte), Jvm.Cond.code ({ cls := "com/example/tallyrule/tallyrule/DecimalsSignificantDigitsPinLaw", name := "isE", desc := "(C)Z" } : Jvm.MethodName) method_3_code (1 : Nat) (Option.some Jvm.ClassFile.FieldType.boolean), Jvm.Cond.code ({ cls := "com/example/tallyrule/tallyrule/DecimalsSignificantDigitsPinLaw", name := "isDigit", desc := "(C)Z" } : Jvm.MethodName) method_4_code (1 : Nat) (Option.some Jvm.ClassFile.FieldType.boolean), Jvm.Cond.code ({ cls := "com/example/tallyrule/tallyrule/DecimalsSignificantDigitsPinLaw", name := "one", desc := "(Z)I" } : Jvm.MethodName) method_6_code (1 : Nat) (Option.some Jvm.ClassFile.FieldType.int), Jvm.Cond.code ({ cls := "com/example/tallyrule/tallyrule/DecimalsSignificantDigitsPinLaw", name := "isNz", desc := "(C)Z" } : Jvm.MethodName) method_5_code (1 : Nat) (Option.some Jvm.ClassFile.FieldType.boolean), Jvm.Cond.code ({ cls := "com/example/tallyrule/tallyrule/Decimals", name := "significantDigits", desc := "(Ljava/lang/String;)I" } : Jvm.MethodName) prog_5_method_7_code (4 : Nat) (Option.some Jvm.ClassFile.FieldType.int), Jvm.Cond.code ({ cls := "java/lang/String", name := "length", desc := "()I" } : Jvm.MethodName) jdk_42_method_54_code (1 : Nat) (Option.some Jvm.ClassFile.FieldType.int), Jvm.Cond.code ({ cls := "java/lang/String", name := "coder", desc := "()B" } : Jvm.MethodName) jdk_42_method_152_code (1 : Nat) (Option.some Jvm.ClassFile.FieldType.byte), Jvm.Cond.code ({ cls := "java/lang/String", name := "charAt", desc := "(I)C" } : Jvm.MethodName) jdk_42_method_56_code (2 : Nat) (Option.some Jvm.ClassFile.FieldType.char), Jvm.Cond.code ({ cls := "java/lang/String", name := "isLatin1", desc := "()Z" } : Jvm.MethodName) jdk_42_method_154_code (1 : Nat) (Option.some Jvm.ClassFile.FieldType.boolean), Jvm.Cond.code ({ cls := "java/lang/StringLatin1", name := "charAt", desc := "([BI)C" } : Jvm.MethodName) jdk_43_method_2_code (2 : Nat) (Option.some Jvm.ClassFile.FieldType.char), Jvm.Cond.code ({ cls := "java/lang/String", name := "checkIndex", desc := "(II)V" } : Jvm.MethodName) jdk_42_method_155_code (2 : Nat) (Option.none : Option Jvm.ClassFile.FieldType), Jvm.Cond.code ({ cls := "jdk/internal/util/Preconditions", name := "checkIndex", desc := "(IILjava/util/function/BiFunction;)I" } : Jvm.MethodName) jdk_41_method_11_code (3 : Nat) (Option.some Jvm.ClassFile.FieldType.int)]
set_option maxRecDepth 65536 in
theorem codes_eq : words1.filter isCode = codes1 := rfl
theorem w_codes : ∀ c ∈ words1.filter isCode, c.before args0 about1 = true := by
  rw [codes_eq]
  intro c hc
  simp only [codes1, List.mem_cons, List.not_mem_nil, or_false] at hc
  rcases hc with rfl | rfl | rfl | rfl | rfl | rfl | rfl | rfl | rfl | rfl | rfl | rfl | rfl | rfl | rfl | rfl | rfl | rfl | rfl | rfl | rfl
  · exact w_c0
  · exact w_c1
  · exact w_c2
  · exact w_c3
  · exact w_c4
  · exact w_c5
  · exact w_c6
  · exact w_c7
  · exact w_c8
  · exact w_c9
  · exact w_c10
  · exact w_c11
  · exact w_c12
  · exact w_c13
  · exact w_c14
  · exact w_c15
  · exact w_c16
  · exact w_c17
  · exact w_c18
  · exact w_c19
  · exact w_c20
set_option maxRecDepth 65536 in
theorem w_t1 : (words1.take 24).all (fun c => isCode c || c.before args0 about1) = true := by decide +kernel
set_option maxRecDepth 65536 in
theorem w_t2 : ((words1.drop 24).take 24).all (fun c => isCode c || c.before args0 about1) = true := by decide +kernel
set_option maxRecDepth 65536 in
theorem w_t3 : (((words1.drop 24).drop 24).take 24).all (fun c => isCode c || c.before args0 about1) = true := by decide +kernel
set_option maxRecDepth 65536 in
theorem w_t4 : (((words1.drop 24).drop 24).drop 24).all (fun c => isCode c || c.before args0 about1) = true := by decide +kernel
theorem w_tables : (allAtoms (Jvm.Cond.code x code maxLocals ret :: tables_1)).before args0 about1 = true := by
  rw [allAtoms_all]
  show words1.all (fun c => c.before args0 about1) = true
  refine all_split ?_ w_codes
  rw [← List.take_append_drop 24 words1, List.all_append, w_t1, ← List.take_append_drop 24 (words1.drop 24), List.all_append, w_t2, ← List.take_append_drop 24 ((words1.drop 24).drop 24), List.all_append, w_t3, w_t4]
  rfl
set_option maxRecDepth 65536 in
theorem w_rest : rest_1_c.before args0 about1 = true := by decide +kernel
set_option maxRecDepth 65536 in
theorem w_case : (Jvm.Cond.and given_1 narrow_1).before args0 about1 = true := by decide +kernel
set_option maxRecDepth 65536 in
theorem w_consts : constsHeld consts_1 about1 := Jvm.Lit.constsHeldB_iff.mp (by decide +kernel)
theorem w_applies : (headSpec (Jvm.Cond.code x code maxLocals ret :: tables_1) room_1).applies x e0.platform about1 = true :=
  (Spec.applies_iff w_frames).mpr ⟨w_running, w_runnable, w_alone, w_named, w_hears, w_ripe, w_room, w_tables⟩
theorem atStart : AtStart classFile x code maxLocals ret World_1 tables_1 room_1 Calls_1 rest_1 Pre_1 launch0 p0 e0 about1 theMethod args0 below0 :=
  ⟨lists_1, trivial, launch0.admits_env _ _ _, launch0.least_env, fairChoices_fair.cas, fairChoices_fair.clock, w_frames, w_args, w_heap, w_applies, ⟨w_consts, trivial⟩, w_rest, w_case⟩
end start1
theorem witness_1 : WitnessClaimed_1 := ⟨start1.p0, start1.e0, start1.about1, start1.theMethod, start1.args0, start1.below0, start1.atStart⟩
end Jvm.Pilot.@@N@@
