import JvmDerived
import JvmDerived.Pilot.@@N@@Statement
import JvmDerived.Pilot.@@N@@Code
set_option linter.unusedVariables false
set_option linter.unusedSimpArgs false
/- laws to paste: Road.backV, Road.lenW, Road.chN, Road.codOf (cut by pick.py; bodies as the Statement names them) -/
namespace Jvm.Pilot.@@N@@
namespace StrChars
open Jvm Sem ClassFile Op Lib Jvm.Stand Jvm.Free.XT Jvm.Free.ALB Jvm.Free.JM Jvm.Free
open Jvm.Lib.Cold (StaticIs)
/-- a char array whose places are chars -/
def Ch (a : Addr) (A : Cell) (U : State) : Prop := Arr .char a A U ∧ Typed .char A
theorem Ch.mv {a : Addr} {A : Cell} {U U' : State} (h : Ch a A U) (hal : U.vm.Alike U'.vm) (hh : U'.heap = U.heap) : Ch a A U' := ⟨h.1.mv hal hh, h.2⟩
theorem Ch.keep {a : Addr} {A : Cell} {U U' : State} (h : Ch a A U) (hal : U.vm.Alike U'.vm) (hk : U'.heap[a]? = some A) : Ch a A U' := ⟨h.1.keep hal hk, h.2⟩
/-- what place i of a char[]'s cell holds -/
def cv (A : Cell) (i : Nat) : Int32 := match A.slots[i]? with | some (.int x) => x | _ => 0
theorem Ch.get {a : Addr} {A : Cell} {U : State} (h : Ch a A U) {i : Nat} (hi : i < A.slots.size) : A.slots[i]? = some (.int (cv A i)) := by
  have e := Array.getElem?_eq_getElem hi
  have f := h.2 i _ e
  unfold cv; rw [e]
  generalize A.slots[i] = v at f
  cases v <;> simp [fits] at f ⊢
/-- the byte that i2b leaves of a char -/
def lo8 (x : Int32) : Int32 := x.toInt8.toInt32
theorem fits_lo8 (y : Int32) : fits .byte (.int (lo8 y)) = true := by
  have h1 := y.toInt8.le_toInt
  have h2 := y.toInt8.toInt_lt
  simp only [lo8, fits, Bool.and_eq_true, decide_eq_true_eq, Int32.le_iff_toInt_le, Int8.toInt_toInt32, show (-128 : Int32).toInt = -128 from by decide, show (127 : Int32).toInt = 127 from by decide]
  omega
/-- A' is A but that each place j of lo .. hi - 1 holds f j -/
def Laid (A A' : Cell) (lo hi : Nat) (f : Nat → Value) : Prop := A'.cls = A.cls ∧ A'.vm = A.vm ∧ A'.slots.size = A.slots.size ∧ ∀ i, A'.slots[i]? = if lo ≤ i ∧ i < hi then some (f i) else A.slots[i]?
theorem Laid.zero (A : Cell) (lo : Nat) (f : Nat → Value) : Laid A A lo (lo + 0) f := ⟨rfl, rfl, rfl, fun i => by rw [if_neg (by omega)]⟩
theorem Laid.step {A Ak : Cell} {lo k : Nat} {f : Nat → Value} {v : Value} (h : Laid A Ak lo k f) (hlo : lo ≤ k) (hk : k < Ak.slots.size) (hv : v = f k) : Laid A (Ak.setSlot k v) lo (k + 1) f := by
  refine ⟨h.1, h.2.1, by simpa [Cell.setSlot] using h.2.2.1, fun i => ?_⟩
  by_cases e : k = i
  · subst e; rw [Cell.slots_setSlot_self v hk, if_pos (by omega), hv]
  · rw [Cell.slots_setSlot_ne v e, h.2.2.2 i]
    by_cases q : lo ≤ i ∧ i < k
    · rw [if_pos q, if_pos (by omega)]
    · rw [if_neg q, if_neg (by omega)]
def U16 : String := "java/lang/StringUTF16"
namespace Cmp5
def yN : MethodName := ⟨"java/lang/StringUTF16", "compress", "([CI[BII)I"⟩
abbrev yB : ByteArray := jdk_52_method_21_code
theorem d0 : decode yB 0 = .ok (.iconst 0, 1) := by decide +kernel
theorem d1 : decode yB 1 = .ok (.istore 5, 2) := by decide +kernel
theorem d3 : decode yB 3 = .ok (.iload 5, 2) := by decide +kernel
theorem d5 : decode yB 5 = .ok (.iload 4, 2) := by decide +kernel
theorem d7 : decode yB 7 = .ok (.if_icmp (.ge) 37, 3) := by decide +kernel
theorem d10 : decode yB 10 = .ok (.aload_n 0, 1) := by decide +kernel
theorem d11 : decode yB 11 = .ok (.iload_n 1, 1) := by decide +kernel
theorem d12 : decode yB 12 = .ok (.caload, 1) := by decide +kernel
theorem d13 : decode yB 13 = .ok (.istore 6, 2) := by decide +kernel
theorem d15 : decode yB 15 = .ok (.iload 6, 2) := by decide +kernel
theorem d17 : decode yB 17 = .ok (.sipush 255, 3) := by decide +kernel
theorem d20 : decode yB 20 = .ok (.if_icmp (.le) 6, 3) := by decide +kernel
theorem d26 : decode yB 26 = .ok (.aload_n 2, 1) := by decide +kernel
theorem d27 : decode yB 27 = .ok (.iload_n 3, 1) := by decide +kernel
theorem d28 : decode yB 28 = .ok (.iload 6, 2) := by decide +kernel
theorem d30 : decode yB 30 = .ok (.i2b, 1) := by decide +kernel
theorem d31 : decode yB 31 = .ok (.bastore, 1) := by decide +kernel
theorem d32 : decode yB 32 = .ok (.iinc 1 1, 3) := by decide +kernel
theorem d35 : decode yB 35 = .ok (.iinc 3 1, 3) := by decide +kernel
theorem d38 : decode yB 38 = .ok (.iinc 5 1, 3) := by decide +kernel
theorem d41 : decode yB 41 = .ok (.goto (-38), 3) := by decide +kernel
theorem d44 : decode yB 44 = .ok (.iload 4, 2) := by decide +kernel
theorem d46 : decode yB 46 = .ok (.ireturn, 1) := by decide +kernel
def site : List Cond := []
def tab : Cond := tabOf yN yB 7 (some .int) site
def P (b : Addr) (A : Cell) (d : Addr) (B : Cell) (o q len : Nat) (args : Array Value) (s : State) : Prop := args = #[.ref b, .int (Int32.ofNat o), .ref d, .int (Int32.ofNat q), .int (Int32.ofNat len)] ∧ Ch b A s ∧ Arr .byte d B s ∧ b ≠ d ∧ o + len ≤ A.slots.size ∧ q + len ≤ B.slots.size ∧ ∀ i, i < len → ¬ 255 < cv A (o + i)
def E (b : Addr) (A : Cell) (d : Addr) (B : Cell) (o q len : Nat) (r : Option Value) (s u : State) : Prop := r = some (.int (Int32.ofNat len)) ∧ ∃ B', Put d B' s u ∧ Laid B B' q (q + len) (fun j => Value.int (lo8 (cv A (o + (j - q)))))
/-- no char of the range above 255: len; the places written hold each char's low byte -/
theorem law (l : Launch) (b : Addr) (A : Cell) (d : Addr) (B : Cell) (o q len : Nat) : Law l yN 5 5 0 0 yB 7 (some .int) site (P b A d B o q len) (E b A d B o q len) (copyLocs d q len) 0 0 := by
  refine Law.of_walk (plainFor_of_name (by decide +kernel)) (by decide +kernel) (by decide +kernel) (by decide) (fun _ _ h => by rw [h.1]; rfl) (fun _ U U' hal hh h => ⟨h.1, h.2.1.mv hal hh, h.2.2.1.mv hal hh, h.2.2.2⟩) (fun r U U' V V' h1 hal h2 h => ⟨h.1, h.2.elim fun B' q => ⟨B', q.1.mv h1 h2, q.2⟩⟩) ?_
  intro p e s m args below meth c s₁ X0 hexec hbytes hml hret hlk hnm hown hh0 W hP
  obtain ⟨rfl, hA, hB, hne, l1, l2, hp⟩ := hP
  have c1 : Steps p.tables e below (s₁.setTop (entryFrame m #[.ref b, .int (Int32.ofNat o), .ref d, .int (Int32.ofNat q), .int (Int32.ofNat len)] 7)) (s₁.setTop (mkF m 0 #[.val (.ref b), .val (.int (Int32.ofNat o)), .val (.ref d), .val (.int (Int32.ofNat q)), .val (.int (Int32.ofNat len)), .unset, .unset] [])) := entry rfl
  have hA0 := hA.1.mv X0.warmed.alike hh0
  have hB0 := hB.mv X0.warmed.alike hh0
  have a31 := hA.1.2.2.2
  have c2 : Steps p.tables e below (s₁.setTop (entryFrame m #[.ref b, .int (Int32.ofNat o), .ref d, .int (Int32.ofNat q), .int (Int32.ofNat len)] 7)) (s₁.setTop (mkF m 3 #[.val (.ref b), .val (.int (Int32.ofNat o)), .val (.ref d), .val (.int (Int32.ofNat q)), .val (.int (Int32.ofNat len)), .val (.int 0), .unset] [])) := c1.trans (by
    refine iconstV X0.here hexec rfl 0 (hb hbytes d0) (by decide) ?_
    refine XS.istore X0.here hexec rfl (hb hbytes d1) rfl rfl ?_
    exact Steps.refl _)
  have loop : ∀ (r i : Nat), i + r = len → ∀ (z : Slot), (z = .unset ∨ ∃ w, z = .val w ∧ w.category = 1) → ∀ (Tl : State) (Bk : Cell), Stand p l e { frames := 0, locals := 0, cells := 0, slots := 0 } s m #[.ref b, .int (Int32.ofNat o), .ref d, .int (Int32.ofNat q), .int (Int32.ofNat len)] below meth c Tl ([] ++ copyLocs d q i) 0 0 → Put d Bk s₁ Tl → Laid B Bk q (q + i) (fun j => Value.int (lo8 (cv A (o + (j - q))))) →
      Steps p.tables e below (s₁.setTop (entryFrame m #[.ref b, .int (Int32.ofNat o), .ref d, .int (Int32.ofNat q), .int (Int32.ofNat len)] 7)) (Tl.setTop (mkF m 3 #[.val (.ref b), .val (.int (Int32.ofNat (o + i))), .val (.ref d), .val (.int (Int32.ofNat (q + i))), .val (.int (Int32.ofNat len)), .val (.int (Int32.ofNat i)), z] [])) → ∃ (T' : State) (B' : Cell) (z' : Slot), Stand p l e { frames := 0, locals := 0, cells := 0, slots := 0 } s m #[.ref b, .int (Int32.ofNat o), .ref d, .int (Int32.ofNat q), .int (Int32.ofNat len)] below meth c T' ([] ++ copyLocs d q len) 0 0 ∧ Put d B' s₁ T' ∧ Laid B B' q (q + len) (fun j => Value.int (lo8 (cv A (o + (j - q))))) ∧
      Steps p.tables e below (s₁.setTop (entryFrame m #[.ref b, .int (Int32.ofNat o), .ref d, .int (Int32.ofNat q), .int (Int32.ofNat len)] 7)) (T'.setTop (mkF m 3 #[.val (.ref b), .val (.int (Int32.ofNat (o + len))), .val (.ref d), .val (.int (Int32.ofNat (q + len))), .val (.int (Int32.ofNat len)), .val (.int (Int32.ofNat len)), z'] [])) := by
    intro r
    induction r with
    | zero =>
      intro i hi z hz Tl Bk Xl pl fl cl
      have hil : i = len := by omega
      rw [hil] at Xl fl cl
      exact ⟨Tl, Bk, z, Xl, pl, fl, cl⟩
    | succ r ih =>
      intro i hi z hz Tl Bk Xl pl fl cl
      have all := X0.warmed.alike.symm.trans Xl.warmed.alike
      have hAl := hA0.keep all (pl.other hne hA0.1)
      have hBk := hB0.like all pl.1 fl.1 fl.2.1 fl.2.2.1
      have hlt : q + i < Bk.slots.size := by rw [fl.2.2.1]; omega
      have c3 : Steps p.tables e below (s₁.setTop (entryFrame m #[.ref b, .int (Int32.ofNat o), .ref d, .int (Int32.ofNat q), .int (Int32.ofNat len)] 7)) (Tl.setTop (mkF m 12 #[.val (.ref b), .val (.int (Int32.ofNat (o + i))), .val (.ref d), .val (.int (Int32.ofNat (q + i))), .val (.int (Int32.ofNat len)), .val (.int (Int32.ofNat i)), z] [.int (Int32.ofNat (o + i)), .ref b])) := cl.trans (by
        refine XS.iload Xl.here hexec rfl (hb hbytes d3) rfl ?_
        refine XS.iload Xl.here hexec rfl (hb hbytes d5) rfl ?_
        refine XS.icmpNo Xl.here hexec rfl (hb hbytes d7) rfl (ii_ge_f (lt32 (by omega) (by omega))) ?_
        refine XS.aloadN Xl.here hexec rfl (hb hbytes d10) rfl rfl ?_
        refine XS.iloadN Xl.here hexec rfl (hb hbytes d11) rfl ?_
        exact Steps.refl _)
      have c4 : Steps p.tables e below (s₁.setTop (entryFrame m #[.ref b, .int (Int32.ofNat o), .ref d, .int (Int32.ofNat q), .int (Int32.ofNat len)] 7)) (Tl.setTop (mkF m 13 #[.val (.ref b), .val (.int (Int32.ofNat (o + i))), .val (.ref d), .val (.int (Int32.ofNat (q + i))), .val (.int (Int32.ofNat len)), .val (.int (Int32.ofNat i)), z] [.int (cv A (o + i))])) := c3.trans (by
        refine Xl.aget hexec hAl rfl (hA.get (i := o + i) (by omega)) rfl rfl (hb hbytes d12) ?_
        exact Steps.refl _)
      have c5 : Steps p.tables e below (s₁.setTop (entryFrame m #[.ref b, .int (Int32.ofNat o), .ref d, .int (Int32.ofNat q), .int (Int32.ofNat len)] 7)) (Tl.setTop (mkF m 15 #[.val (.ref b), .val (.int (Int32.ofNat (o + i))), .val (.ref d), .val (.int (Int32.ofNat (q + i))), .val (.int (Int32.ofNat len)), .val (.int (Int32.ofNat i)), .val (.int (cv A (o + i)))] [])) := c4.trans (by
        refine XS.istoreS Xl.here hexec rfl (hb hbytes d13) rfl rfl hz ?_
        exact Steps.refl _)
      have c6 : Steps p.tables e below (s₁.setTop (entryFrame m #[.ref b, .int (Int32.ofNat o), .ref d, .int (Int32.ofNat q), .int (Int32.ofNat len)] 7)) (Tl.setTop (mkF m 31 #[.val (.ref b), .val (.int (Int32.ofNat (o + i))), .val (.ref d), .val (.int (Int32.ofNat (q + i))), .val (.int (Int32.ofNat len)), .val (.int (Int32.ofNat i)), .val (.int (cv A (o + i)))] [.int (lo8 (cv A (o + i))), .int (Int32.ofNat (q + i)), .ref d])) := c5.trans (by
        refine XS.iload Xl.here hexec rfl (hb hbytes d15) rfl ?_
        refine sipushV Xl.here hexec rfl 255 (hb hbytes d17) (by decide) ?_
        refine XS.icmpYes Xl.here hexec rfl (pc0 := 20) rfl (hb hbytes d20) rfl (ii_le_t (hp i (by omega))) (by decide) rfl ?_
        refine XS.aloadN Xl.here hexec rfl (hb hbytes d26) rfl rfl ?_
        refine XS.iloadN Xl.here hexec rfl (hb hbytes d27) rfl ?_
        refine XS.iload Xl.here hexec rfl (hb hbytes d28) rfl ?_
        refine i2b Xl.here hexec rfl (hb hbytes d30) rfl ?_
        exact Steps.refl _)
      obtain ⟨T7, X7, p7, st7⟩ := Xl.aput hexec hBk rfl hlt rfl (fits_lo8 (cv A (o + i))) (g := (mkF m 31 #[.val (.ref b), .val (.int (Int32.ofNat (o + i))), .val (.ref d), .val (.int (Int32.ofNat (q + i))), .val (.int (Int32.ofNat len)), .val (.int (Int32.ofNat i)), .val (.int (cv A (o + i)))] [.int (lo8 (cv A (o + i))), .int (Int32.ofNat (q + i)), .ref d])) rfl (rest := []) rfl (hb hbytes d31)
      have c8 : Steps p.tables e below (s₁.setTop (entryFrame m #[.ref b, .int (Int32.ofNat o), .ref d, .int (Int32.ofNat q), .int (Int32.ofNat len)] 7)) (T7.setTop (mkF m 32 #[.val (.ref b), .val (.int (Int32.ofNat (o + i))), .val (.ref d), .val (.int (Int32.ofNat (q + i))), .val (.int (Int32.ofNat len)), .val (.int (Int32.ofNat i)), .val (.int (cv A (o + i)))] [])) := c6.trans (st7 _ (Steps.refl _))
      have c9 : Steps p.tables e below (s₁.setTop (entryFrame m #[.ref b, .int (Int32.ofNat o), .ref d, .int (Int32.ofNat q), .int (Int32.ofNat len)] 7)) (T7.setTop (mkF m 3 #[.val (.ref b), .val (.int (Int32.ofNat (o + i) + 1)), .val (.ref d), .val (.int (Int32.ofNat (q + i) + 1)), .val (.int (Int32.ofNat len)), .val (.int (Int32.ofNat i + 1)), .val (.int (cv A (o + i)))] [])) := c8.trans (by
        refine iincV X7.here hexec rfl 1 (hb hbytes d32) (by decide) rfl rfl ?_
        refine iincV X7.here hexec rfl 1 (hb hbytes d35) (by decide) rfl rfl ?_
        refine iincV X7.here hexec rfl 1 (hb hbytes d38) (by decide) rfl rfl ?_
        refine XS.goto X7.here hexec rfl (pc0 := 41) rfl (hb hbytes d41) (by decide) rfl ?_
        exact Steps.refl _)
      have c10 : Steps p.tables e below (s₁.setTop (entryFrame m #[.ref b, .int (Int32.ofNat o), .ref d, .int (Int32.ofNat q), .int (Int32.ofNat len)] 7)) (T7.setTop (mkF m 3 #[.val (.ref b), .val (.int (Int32.ofNat (o + (i + 1)))), .val (.ref d), .val (.int (Int32.ofNat (q + (i + 1)))), .val (.int (Int32.ofNat len)), .val (.int (Int32.ofNat (i + 1))), .val (.int (cv A (o + i)))] [])) := by
        have := c9
        rw [succ32, succ32, succ32] at this
        exact this
      exact ih (i + 1) (by omega) _ (Or.inr ⟨_, rfl, rfl⟩) T7 _ (by rw [copyLocs_step, ← List.append_assoc]; exact X7) (pl.trans p7) (fl.step (by omega) hlt (by simp)) c10
  obtain ⟨T9, B9, z9, X9, p9, f9, g9⟩ := loop len 0 (by omega) .unset (Or.inl rfl) s₁ B (by simpa [copyLocs] using X0) ⟨hB0.1, fun _ _ => rfl, rfl⟩ (Laid.zero _ _ _) c2
  have c11 : Steps p.tables e below (s₁.setTop (entryFrame m #[.ref b, .int (Int32.ofNat o), .ref d, .int (Int32.ofNat q), .int (Int32.ofNat len)] 7)) (T9.setTop (mkF m 46 #[.val (.ref b), .val (.int (Int32.ofNat (o + len))), .val (.ref d), .val (.int (Int32.ofNat (q + len))), .val (.int (Int32.ofNat len)), .val (.int (Int32.ofNat len)), z9] [.int (Int32.ofNat len)])) := g9.trans (by
    refine XS.iload X9.here hexec rfl (hb hbytes d3) rfl ?_
    refine XS.iload X9.here hexec rfl (hb hbytes d5) rfl ?_
    refine XS.icmpYes X9.here hexec rfl (pc0 := 7) rfl (hb hbytes d7) rfl (ii_ge_t (nlt32 (by omega) (Nat.le_refl _))) (by decide) rfl ?_
    refine XS.iload X9.here hexec rfl (hb hbytes d44) rfl ?_
    exact Steps.refl _)
  exact ⟨T9, some (.int (Int32.ofNat len)), _, _, _, X9, by simp, rfl, rfl, (fun h => by cases h), ⟨rfl, B9, p9.from hh0, f9⟩, fun fs hl => c11.trans (X9.ireturnOut hexec hret rfl (Or.inl rfl) (hb hbytes d46) hl)⟩
end Cmp5
namespace Cmp3
def yN : MethodName := ⟨"java/lang/StringUTF16", "compress", "([CII)[B"⟩
abbrev yB : ByteArray := jdk_52_method_16_code
theorem d0 : decode yB 0 = .ok (.iload_n 2, 1) := by decide +kernel
theorem d1 : decode yB 1 = .ok (.newarray .byte, 2) := by decide +kernel
theorem d3 : decode yB 3 = .ok (.astore_n 3, 1) := by decide +kernel
theorem d4 : decode yB 4 = .ok (.aload_n 0, 1) := by decide +kernel
theorem d5 : decode yB 5 = .ok (.iload_n 1, 1) := by decide +kernel
theorem d6 : decode yB 6 = .ok (.aload_n 3, 1) := by decide +kernel
theorem d7 : decode yB 7 = .ok (.iconst 0, 1) := by decide +kernel
theorem d8 : decode yB 8 = .ok (.iload_n 2, 1) := by decide +kernel
theorem d9 : decode yB 9 = .ok (.invokestatic 115, 3) := by decide +kernel
theorem d12 : decode yB 12 = .ok (.istore 4, 2) := by decide +kernel
theorem d14 : decode yB 14 = .ok (.iload 4, 2) := by decide +kernel
theorem d16 : decode yB 16 = .ok (.iload_n 2, 1) := by decide +kernel
theorem d17 : decode yB 17 = .ok (.if_icmp (.eq) 40, 3) := by decide +kernel
theorem d57 : decode yB 57 = .ok (.aload_n 3, 1) := by decide +kernel
theorem d58 : decode yB 58 = .ok (.areturn, 1) := by decide +kernel
def site : List Cond := [.arrayClass .byte, Cmp5.tab] ++ staticW U16 115 Cmp5.yN
def tab : Cond := tabOf yN yB 6 (some (.array .byte)) site
def P (b : Addr) (A : Cell) (o len : Nat) (args : Array Value) (s : State) : Prop := args = #[.ref b, .int (Int32.ofNat o), .int (Int32.ofNat len)] ∧ Ch b A s ∧ o + len ≤ A.slots.size ∧ len ≤ 536870912 ∧ ∀ i, i < len → ¬ 255 < cv A (o + i)
def E (b : Addr) (A : Cell) (o len : Nat) (r : Option Value) (s u : State) : Prop := NewArr .byte "[B" len (fun j => .int (lo8 (cv A (o + j)))) r s u ∧ u.heap.size = s.heap.size + 1
/-- no char of the range above 255: a new byte[] of their low bytes -/
theorem law (l : Launch) (b : Addr) (A : Cell) (o len : Nat) : Law l yN 3 3 1 18 yB 6 (some (.array .byte)) site (P b A o len) (E b A o len) [] 1 len := by
  refine Law.of_walk (plainFor_of_name (by decide +kernel)) (by decide +kernel) (by decide +kernel) (by decide) (fun _ _ h => by rw [h.1]; rfl) (fun _ U U' hal hh h => ⟨h.1, h.2.1.mv hal hh, h.2.2⟩) (fun r U U' V V' h1 hal h2 h => ⟨NewArr.mv r U U' V V' h1 hal h2 h.1, by rw [h1, h2]; exact h.2⟩) ?_
  intro p e s m args below meth c s₁ X0 hexec hbytes hml hret hlk hnm hown hh0 W hP
  obtain ⟨rfl, hA, l1, l2, hp⟩ := hP
  have a31 := hA.1.2.2.2
  have c1 : Steps p.tables e below (s₁.setTop (entryFrame m #[.ref b, .int (Int32.ofNat o), .int (Int32.ofNat len)] 6)) (s₁.setTop (mkF m 0 #[.val (.ref b), .val (.int (Int32.ofNat o)), .val (.int (Int32.ofNat len)), .unset, .unset, .unset] [])) := entry rfl
  have c2 : Steps p.tables e below (s₁.setTop (entryFrame m #[.ref b, .int (Int32.ofNat o), .int (Int32.ofNat len)] 6)) (s₁.setTop (mkF m 1 #[.val (.ref b), .val (.int (Int32.ofNat o)), .val (.int (Int32.ofNat len)), .unset, .unset, .unset] [.int (Int32.ofNat len)])) := c1.trans (by
    refine XS.iloadN X0.here hexec rfl (hb hbytes d0) rfl ?_
    exact Steps.refl _)
  obtain ⟨T3, B3, X3, ba3, bs3, bv3, bh3, bf3, st3⟩ := X0.anew hexec (atype := .byte) (wk W (.arrayClass .byte)) rfl (by show len * 1 ≤ _; omega) (by omega) (g := (mkF m 1 #[.val (.ref b), .val (.int (Int32.ofNat o)), .val (.int (Int32.ofNat len)), .unset, .unset, .unset] [.int (Int32.ofNat len)])) rfl (hb hbytes d1) (rest := []) rfl (Nat.le_refl _) (by show 0 + len ≤ len; omega)
  rw [hh0] at ba3 st3
  have kp3 : XT.Kept s T3 := (XT.Kept.of_eq hh0).push bh3
  have hA3 := hA.keep X3.warmed.alike (kp3 _ _ hA.1.1)
  have hne : b ≠ s.heap.size := hA.1.ne
  have c4 : Steps p.tables e below (s₁.setTop (entryFrame m #[.ref b, .int (Int32.ofNat o), .int (Int32.ofNat len)] 6)) (T3.setTop (mkF m 3 #[.val (.ref b), .val (.int (Int32.ofNat o)), .val (.int (Int32.ofNat len)), .unset, .unset, .unset] [.ref s.heap.size])) := c2.trans (st3 _ (Steps.refl _))
  have c5 : Steps p.tables e below (s₁.setTop (entryFrame m #[.ref b, .int (Int32.ofNat o), .int (Int32.ofNat len)] 6)) (T3.setTop (mkF m 9 #[.val (.ref b), .val (.int (Int32.ofNat o)), .val (.int (Int32.ofNat len)), .val (.ref s.heap.size), .unset, .unset] [.int (Int32.ofNat len), .int 0, .ref s.heap.size, .int (Int32.ofNat o), .ref b])) := c4.trans (by
    refine XS.astoreN X3.here hexec rfl (hb hbytes d3) rfl rfl rfl ?_
    refine XS.aloadN X3.here hexec rfl (hb hbytes d4) rfl rfl ?_
    refine XS.iloadN X3.here hexec rfl (hb hbytes d5) rfl ?_
    refine XS.aloadN X3.here hexec rfl (hb hbytes d6) rfl rfl ?_
    refine iconstV X3.here hexec rfl 0 (hb hbytes d7) (by decide) ?_
    refine XS.iloadN X3.here hexec rfl (hb hbytes d8) rfl ?_
    exact Steps.refl _)
  obtain ⟨v6, T6, X6, E6, g6⟩ := X3.callS hexec (Cmp5.law l b A s.heap.size B3 o 0 len) hown (wks W (staticW U16 115 Cmp5.yN)) (wk W Cmp5.tab) (W := 0) (Nat.le_of_ble_eq_true rfl) (Nat.le_of_ble_eq_true rfl) (Nat.le_refl _) (by show 0 + len + 0 ≤ len; omega) (g := (mkF m 9 #[.val (.ref b), .val (.int (Int32.ofNat o)), .val (.int (Int32.ofNat len)), .val (.ref s.heap.size), .unset, .unset] [.int (Int32.ofNat len), .int (Int32.ofNat 0), .ref s.heap.size, .int (Int32.ofNat o), .ref b])) rfl (by rw [hml]; rfl) c5 (argsL := [.ref b, .int (Int32.ofNat o), .ref s.heap.size, .int (Int32.ofNat 0), .int (Int32.ofNat len)]) (rest := []) rfl rfl (by show 2 * 0 + 0 ≤ _; decide) (hb hbytes d9) (⟨rfl, hA3, ba3, hne, l1, by rw [bs3]; simp, hp⟩)
  obtain ⟨rfl, B6, p6, f6⟩ := E6
  have c7 : Steps p.tables e below (s₁.setTop (entryFrame m #[.ref b, .int (Int32.ofNat o), .int (Int32.ofNat len)] 6)) (T6.setTop (mkF m 12 #[.val (.ref b), .val (.int (Int32.ofNat o)), .val (.int (Int32.ofNat len)), .val (.ref s.heap.size), .unset, .unset] [.int (Int32.ofNat len)])) := g6
  have c8 : Steps p.tables e below (s₁.setTop (entryFrame m #[.ref b, .int (Int32.ofNat o), .int (Int32.ofNat len)] 6)) (T6.setTop (mkF m 58 #[.val (.ref b), .val (.int (Int32.ofNat o)), .val (.int (Int32.ofNat len)), .val (.ref s.heap.size), .val (.int (Int32.ofNat len)), .unset] [.ref s.heap.size])) := c7.trans (by
    refine XS.istore X6.here hexec rfl (hb hbytes d12) rfl rfl ?_
    refine XS.iload X6.here hexec rfl (hb hbytes d14) rfl ?_
    refine XS.iloadN X6.here hexec rfl (hb hbytes d16) rfl ?_
    refine XS.icmpYes X6.here hexec rfl (pc0 := 17) rfl (hb hbytes d17) rfl (ii_eq_t rfl) (by decide) rfl ?_
    refine XS.aloadN X6.here hexec rfl (hb hbytes d57) rfl rfl ?_
    exact Steps.refl _)
  have X8 := X6.wide (L' := []) (cells' := 1) (slots' := len) (fun x hx hlt => by
    simp only [List.nil_append, copyLocs, List.mem_map, List.mem_range] at hx
    obtain ⟨i, -, rfl⟩ := hx
    exact absurd hlt (Nat.lt_irrefl _)) (Nat.le_refl _) (by omega)
  exact ⟨T6, some (.ref s.heap.size), _, _, _, X8, rfl, rfl, rfl, (fun h => by cases h), ⟨⟨rfl, B6, ba3.like (X3.warmed.alike.symm.trans X6.warmed.alike) p6.1 f6.1 f6.2.1 f6.2.2.1, f6.2.1.trans bv3, by rw [X6.warmed.alike.findClass, f6.1]; exact bf3, by rw [f6.2.2.1, bs3]; simp, fun j hj => by rw [f6.2.2.2 j, if_pos (by omega)]; rfl, kp3.put p6 (Nat.le_refl _)⟩, by rw [p6.2.2, bh3, hh0]; simp⟩, fun fs hl => c8.trans (X8.areturnOut hexec rfl hret rfl (hb hbytes d58) hl)⟩
end Cmp3
namespace CodL
def yN : MethodName := ⟨"java/lang/StringUTF16", "coderFromArrayLen", "([BI)B"⟩
abbrev yB : ByteArray := jdk_52_method_15_code
theorem d0 : decode yB 0 = .ok (.iload_n 1, 1) := by decide +kernel
theorem d1 : decode yB 1 = .ok (.aload_n 0, 1) := by decide +kernel
theorem d2 : decode yB 2 = .ok (.arraylength, 1) := by decide +kernel
theorem d3 : decode yB 3 = .ok (.isub, 1) := by decide +kernel
theorem d4 : decode yB 4 = .ok (.bipush 31, 2) := by decide +kernel
theorem d6 : decode yB 6 = .ok (.iushr, 1) := by decide +kernel
theorem d7 : decode yB 7 = .ok (.i2b, 1) := by decide +kernel
theorem d8 : decode yB 8 = .ok (.ireturn, 1) := by decide +kernel
def site : List Cond := []
def tab : Cond := tabOf yN yB 2 (some .byte) site
def P (d : Addr) (B : Cell) (args : Array Value) (s : State) : Prop := args = #[.ref d, .int (Int32.ofNat B.slots.size)] ∧ Arr .byte d B s
def E (r : Option Value) (s u : State) : Prop := XT.PureE (some (.int 0)) r s u
/-- an array as long as the number of chars: LATIN1 -/
theorem law (l : Launch) (d : Addr) (B : Cell) : Law l yN 2 2 0 0 yB 2 (some .byte) site (P d B) E [] 0 0 := by
  refine Law.of_walk (plainFor_of_name (by decide +kernel)) (by decide +kernel) (by decide +kernel) (by decide) (fun _ _ h => by rw [h.1]; rfl) (fun _ U U' hal hh h => ⟨h.1, h.2.mv hal hh⟩) (fun r U U' V V' h1 hal h2 h => XT.PureE.mv r U U' V V' h1 hal h2 h) ?_
  intro p e s m args below meth c s₁ X0 hexec hbytes hml hret hlk hnm hown hh0 W hP
  obtain ⟨rfl, hB⟩ := hP
  have hB0 := hB.mv X0.warmed.alike hh0
  have c1 : Steps p.tables e below (s₁.setTop (entryFrame m #[.ref d, .int (Int32.ofNat B.slots.size)] 2)) (s₁.setTop (mkF m 0 #[.val (.ref d), .val (.int (Int32.ofNat B.slots.size))] [])) := entry rfl
  have c2 : Steps p.tables e below (s₁.setTop (entryFrame m #[.ref d, .int (Int32.ofNat B.slots.size)] 2)) (s₁.setTop (mkF m 2 #[.val (.ref d), .val (.int (Int32.ofNat B.slots.size))] [.ref d, .int (Int32.ofNat B.slots.size)])) := c1.trans (by
    refine XS.iloadN X0.here hexec rfl (hb hbytes d0) rfl ?_
    refine XS.aloadN X0.here hexec rfl (hb hbytes d1) rfl rfl ?_
    exact Steps.refl _)
  have c3 : Steps p.tables e below (s₁.setTop (entryFrame m #[.ref d, .int (Int32.ofNat B.slots.size)] 2)) (s₁.setTop (mkF m 8 #[.val (.ref d), .val (.int (Int32.ofNat B.slots.size))] [.int (lo8 (ushr (Int32.ofNat B.slots.size - Int32.ofNat B.slots.size) 31))])) := c2.trans (by
    refine X0.alen hexec hB0 rfl rfl (hb hbytes d2) ?_
    refine XS.isub X0.here hexec rfl (hb hbytes d3) rfl ?_
    refine bipushV X0.here hexec rfl 31 (hb hbytes d4) (by decide) ?_
    refine iushr X0.here hexec rfl (hb hbytes d6) rfl ?_
    refine i2b X0.here hexec rfl (hb hbytes d7) rfl ?_
    exact Steps.refl _)
  have e0 : lo8 (ushr (Int32.ofNat B.slots.size - Int32.ofNat B.slots.size) 31) = 0 := by rw [Int32.sub_self]; decide
  rw [e0] at c3
  exact ⟨s₁, some (.int 0), _, _, _, X0, rfl, rfl, rfl, (fun h => by cases h), ⟨rfl, hh0⟩, fun fs hl => c3.trans (X0.ireturnOut hexec hret rfl (Or.inr (Or.inr (Or.inl rfl))) (hb hbytes d8) hl)⟩
end CodL
/-- the String at a is Latin-1 over a new byte[] (the heap's one new cell): the low bytes of the len chars of A from o on; every cell but a is kept -/
def Got (a : Addr) (D : Cell) (fV fC : Field) (A : Cell) (o len : Nat) (r : Option Value) (s u : State) : Prop := r = none ∧ ∃ D' V : Cell, Blank "java/lang/String" a D' u ∧ Same D D' [fV.slot, fC.slot] ∧ D'.slots[fV.slot]? = some (.ref s.heap.size) ∧ D'.slots[fC.slot]? = some (.int 0) ∧ Arr .byte s.heap.size V u ∧ V.vm = .none ∧ u.vm.findClass "[B" = some V.cls ∧ V.slots.size = len ∧ (∀ j, j < len → V.slots[j]? = some (.int (lo8 (cv A (o + j))))) ∧ (∀ (y : Addr) (c : Cell), y ≠ a → s.heap[y]? = some c → u.heap[y]? = some c) ∧ u.heap.size = s.heap.size + 1
theorem Got.mv {a : Addr} {D A : Cell} {fV fC : Field} {o len : Nat} : ∀ r (U U' V V' : State), U'.heap = U.heap → V.vm.Alike V'.vm → V'.heap = V.heap → Got a D fV fC A o len r U V → Got a D fV fC A o len r U' V' :=
  fun r U U' V V' h1 hal h2 ⟨e0, D', X, a1, a2, a3, a4, a5, a6, a7, a8, a9, a10, a11⟩ => ⟨e0, D', X, a1.mv hal h2, a2, by rw [h1]; exact a3, a4, by rw [h1]; exact a5.mv hal h2, a6, by rw [hal.findClass]; exact a7, a8, a9, by rw [h1, h2]; exact a10, by rw [h1, h2]; exact a11⟩
namespace New4
def yN : MethodName := ⟨"java/lang/String", "<init>", "([CIILjava/lang/Void;)V"⟩
abbrev yB : ByteArray := jdk_42_method_149_code
theorem d0 : decode yB 0 = .ok (.aload_n 0, 1) := by decide +kernel
theorem d1 : decode yB 1 = .ok (.invokespecial 1, 3) := by decide +kernel
theorem d4 : decode yB 4 = .ok (.iload_n 3, 1) := by decide +kernel
theorem d5 : decode yB 5 = .ok (.ifCond (.ne) 22, 3) := by decide +kernel
theorem d27 : decode yB 27 = .ok (.getstatic 38, 3) := by decide +kernel
theorem d30 : decode yB 30 = .ok (.ifCond (.eq) 28, 3) := by decide +kernel
theorem d33 : decode yB 33 = .ok (.aload_n 1, 1) := by decide +kernel
theorem d34 : decode yB 34 = .ok (.iload_n 2, 1) := by decide +kernel
theorem d35 : decode yB 35 = .ok (.iload_n 3, 1) := by decide +kernel
theorem d36 : decode yB 36 = .ok (.invokestatic 177, 3) := by decide +kernel
theorem d39 : decode yB 39 = .ok (.astore 5, 2) := by decide +kernel
theorem d41 : decode yB 41 = .ok (.aload_n 0, 1) := by decide +kernel
theorem d42 : decode yB 42 = .ok (.aload 5, 2) := by decide +kernel
theorem d44 : decode yB 44 = .ok (.iload_n 3, 1) := by decide +kernel
theorem d45 : decode yB 45 = .ok (.invokestatic 47, 3) := by decide +kernel
theorem d48 : decode yB 48 = .ok (.putfield 15, 3) := by decide +kernel
theorem d51 : decode yB 51 = .ok (.aload_n 0, 1) := by decide +kernel
theorem d52 : decode yB 52 = .ok (.aload 5, 2) := by decide +kernel
theorem d54 : decode yB 54 = .ok (.putfield 9, 3) := by decide +kernel
theorem d57 : decode yB 57 = .ok (.return_, 1) := by decide +kernel
def site : List Cond := [.fieldLink "java/lang/String" 38 "java/lang/String" "COMPACT_STRINGS" "Z", Cmp3.tab, CodL.tab, .laysFinal "java/lang/String" "java/lang/String" "value" "[B", .fieldLink "java/lang/String" 9 "java/lang/String" "value" "[B", .laysFinal "java/lang/String" "java/lang/String" "coder" "B", .fieldLink "java/lang/String" 15 "java/lang/String" "coder" "B"] ++ objW "java/lang/String" 1 ++ staticW "java/lang/String" 177 Cmp3.yN ++ staticW "java/lang/String" 47 CodL.yN
def tab : Cond := tabOf yN yB 6 none site
def P (a : Addr) (D : Cell) (fV fC : Field) (b : Addr) (A : Cell) (z : Int32) (o len : Nat) (args : Array Value) (s : State) : Prop := args = #[.ref a, .ref b, .int (Int32.ofNat o), .int (Int32.ofNat len), .null] ∧ Blank "java/lang/String" a D s ∧ Found "java/lang/String" "value" "[B" fV s ∧ Found "java/lang/String" "coder" "B" fC s ∧ Ch b A s ∧ StaticIs s "java/lang/String" "COMPACT_STRINGS" "Z" (.int z) ∧ ¬ z = 0 ∧ 0 < len ∧ o + len ≤ A.slots.size ∧ len ≤ 536870912 ∧ ∀ i, i < len → ¬ 255 < cv A (o + i)
def E (a : Addr) (D : Cell) (fV fC : Field) (A : Cell) (o len : Nat) (r : Option Value) (s u : State) : Prop := Got a D fV fC A o len r s u
/-- len > 0, no char of the range above 255: a Latin-1 String of their low bytes -/
theorem law (l : Launch) (a : Addr) (D : Cell) (fV fC : Field) (b : Addr) (A : Cell) (z : Int32) (o len : Nat) : Law l yN 5 4 2 35 yB 6 none site (P a D fV fC b A z o len) (E a D fV fC A o len) [⟨a, fC.slot⟩, ⟨a, fV.slot⟩] 1 len := by
  refine Law.of_walk (plainFor_of_name (by decide +kernel)) (by decide +kernel) (by decide +kernel) (by decide) (fun _ _ h => by rw [h.1]; rfl) (fun _ U U' hal hh h => ⟨h.1, h.2.1.mv hal hh, h.2.2.1.al hal, h.2.2.2.1.al hal, h.2.2.2.2.1.mv hal hh, h.2.2.2.2.2.1.there hal hh, h.2.2.2.2.2.2⟩) (fun r U U' V V' h1 hal h2 h => Got.mv r U U' V V' h1 hal h2 h) ?_
  intro p e s m args below meth c s₁ X0 hexec hbytes hml hret hlk hnm hown hh0 W hP
  obtain ⟨rfl, hB, f1, f2, hA, s1, hz, l0, l1, l2, hp⟩ := hP
  have a31 := hA.1.2.2.2
  have c1 : Steps p.tables e below (s₁.setTop (entryFrame m #[.ref a, .ref b, .int (Int32.ofNat o), .int (Int32.ofNat len), .null] 6)) (s₁.setTop (mkF m 0 #[.val (.ref a), .val (.ref b), .val (.int (Int32.ofNat o)), .val (.int (Int32.ofNat len)), .val .null, .unset] [])) := entry rfl
  have c2 : Steps p.tables e below (s₁.setTop (entryFrame m #[.ref a, .ref b, .int (Int32.ofNat o), .int (Int32.ofNat len), .null] 6)) (s₁.setTop (mkF m 1 #[.val (.ref a), .val (.ref b), .val (.int (Int32.ofNat o)), .val (.int (Int32.ofNat len)), .val .null, .unset] [.ref a])) := c1.trans (by
    refine XS.aloadN X0.here hexec rfl (hb hbytes d0) rfl rfl ?_
    exact Steps.refl _)
  obtain ⟨T3, X3, q3, st3⟩ := X0.oinit hexec hown (wks W (objW "java/lang/String" 1)) (g := (mkF m 1 #[.val (.ref a), .val (.ref b), .val (.int (Int32.ofNat o)), .val (.int (Int32.ofNat len)), .val .null, .unset] [.ref a])) rfl (by rw [hml]; rfl) (rest := []) rfl (hb hbytes d1) (W := 0) (by show 2 * 0 + 0 ≤ _; decide) (Nat.le_of_ble_eq_true rfl) (Nat.le_of_ble_eq_true rfl)
  have hh3 := q3.trans hh0
  have c4 : Steps p.tables e below (s₁.setTop (entryFrame m #[.ref a, .ref b, .int (Int32.ofNat o), .int (Int32.ofNat len), .null] 6)) (T3.setTop (mkF m 27 #[.val (.ref a), .val (.ref b), .val (.int (Int32.ofNat o)), .val (.int (Int32.ofNat len)), .val .null, .unset] [])) := (c2.trans (st3 _ (Steps.refl _))).trans (by
    refine XS.iloadN X3.here hexec rfl (hb hbytes d4) rfl ?_
    refine XS.ifYes X3.here hexec rfl (pc0 := 5) rfl (hb hbytes d5) rfl (i0_ne_t (nz32 (by omega) l0)) (by decide) rfl ?_
    exact Steps.refl _)
  obtain ⟨T5, X5, q5, st5⟩ := X3.sget hexec hown (wk W (.fieldLink "java/lang/String" 38 "java/lang/String" "COMPACT_STRINGS" "Z")) s1 (fun _ _ h => by rw [hh3]; exact h) (g := (mkF m 27 #[.val (.ref a), .val (.ref b), .val (.int (Int32.ofNat o)), .val (.int (Int32.ofNat len)), .val .null, .unset] [])) rfl (hb hbytes d27)
  have hh5 := q5.trans hh3
  have c6 : Steps p.tables e below (s₁.setTop (entryFrame m #[.ref a, .ref b, .int (Int32.ofNat o), .int (Int32.ofNat len), .null] 6)) (T5.setTop (mkF m 30 #[.val (.ref a), .val (.ref b), .val (.int (Int32.ofNat o)), .val (.int (Int32.ofNat len)), .val .null, .unset] [.int z])) := c4.trans (st5 _ (Steps.refl _))
  have c7 : Steps p.tables e below (s₁.setTop (entryFrame m #[.ref a, .ref b, .int (Int32.ofNat o), .int (Int32.ofNat len), .null] 6)) (T5.setTop (mkF m 36 #[.val (.ref a), .val (.ref b), .val (.int (Int32.ofNat o)), .val (.int (Int32.ofNat len)), .val .null, .unset] [.int (Int32.ofNat len), .int (Int32.ofNat o), .ref b])) := c6.trans (by
    refine XS.ifNo X5.here hexec rfl (hb hbytes d30) rfl (i0_eq_f hz) ?_
    refine XS.aloadN X5.here hexec rfl (hb hbytes d33) rfl rfl ?_
    refine XS.iloadN X5.here hexec rfl (hb hbytes d34) rfl ?_
    refine XS.iloadN X5.here hexec rfl (hb hbytes d35) rfl ?_
    exact Steps.refl _)
  obtain ⟨v8, T8, X8, E8, g8⟩ := X5.callS hexec (Cmp3.law l b A o len) hown (wks W (staticW "java/lang/String" 177 Cmp3.yN)) (wk W Cmp3.tab) (W := 0) (Nat.le_of_ble_eq_true rfl) (Nat.le_of_ble_eq_true rfl) (Nat.le_refl _) (by show 0 + len ≤ len; omega) (g := (mkF m 36 #[.val (.ref a), .val (.ref b), .val (.int (Int32.ofNat o)), .val (.int (Int32.ofNat len)), .val .null, .unset] [.int (Int32.ofNat len), .int (Int32.ofNat o), .ref b])) rfl (by rw [hml]; rfl) c7 (argsL := [.ref b, .int (Int32.ofNat o), .int (Int32.ofNat len)]) (rest := []) rfl rfl (by show 2 * 0 + 0 ≤ _; decide) (hb hbytes d36) (⟨rfl, hA.mv X5.warmed.alike hh5, l1, l2, hp⟩)
  obtain ⟨e8, z8⟩ := E8
  obtain ⟨rfl, N, n1, n2, n3, n4, n5, n6⟩ := NewArr.mv _ T5 s _ _ hh5.symm (Vm.Alike.refl _) rfl e8
  rw [hh5] at z8
  have hB1 := hB.keep X8.warmed.alike (n6 _ _ hB.1)
  have hne : s.heap.size ≠ a := (Nat.ne_of_lt (Array.getElem?_eq_some_iff.mp hB.1).1).symm
  have c9 : Steps p.tables e below (s₁.setTop (entryFrame m #[.ref a, .ref b, .int (Int32.ofNat o), .int (Int32.ofNat len), .null] 6)) (T8.setTop (mkF m 39 #[.val (.ref a), .val (.ref b), .val (.int (Int32.ofNat o)), .val (.int (Int32.ofNat len)), .val .null, .unset] [.ref s.heap.size])) := g8
  have c10 : Steps p.tables e below (s₁.setTop (entryFrame m #[.ref a, .ref b, .int (Int32.ofNat o), .int (Int32.ofNat len), .null] 6)) (T8.setTop (mkF m 45 #[.val (.ref a), .val (.ref b), .val (.int (Int32.ofNat o)), .val (.int (Int32.ofNat len)), .val .null, .val (.ref s.heap.size)] [.int (Int32.ofNat N.slots.size), .ref s.heap.size, .ref a])) := by
    have hc : Steps p.tables e below (s₁.setTop (entryFrame m #[.ref a, .ref b, .int (Int32.ofNat o), .int (Int32.ofNat len), .null] 6)) (T8.setTop (mkF m 45 #[.val (.ref a), .val (.ref b), .val (.int (Int32.ofNat o)), .val (.int (Int32.ofNat len)), .val .null, .val (.ref s.heap.size)] [.int (Int32.ofNat len), .ref s.heap.size, .ref a])) := c9.trans (by
      refine XS.astore X8.here hexec rfl (hb hbytes d39) rfl rfl rfl ?_
      refine XS.aloadN X8.here hexec rfl (hb hbytes d41) rfl rfl ?_
      refine XS.aload X8.here hexec rfl (hb hbytes d42) rfl rfl ?_
      refine XS.iloadN X8.here hexec rfl (hb hbytes d44) rfl ?_
      exact Steps.refl _)
    rw [n4]; exact hc
  obtain ⟨v11, T11, X11, E11, g11⟩ := X8.callS hexec (CodL.law l s.heap.size N) hown (wks W (staticW "java/lang/String" 47 CodL.yN)) (wk W CodL.tab) (W := 1) (Nat.le_of_ble_eq_true rfl) (Nat.le_of_ble_eq_true rfl) (Nat.le_refl _) (by show 0 + len + 0 ≤ len; omega) (g := (mkF m 45 #[.val (.ref a), .val (.ref b), .val (.int (Int32.ofNat o)), .val (.int (Int32.ofNat len)), .val .null, .val (.ref s.heap.size)] [.int (Int32.ofNat N.slots.size), .ref s.heap.size, .ref a])) rfl (by rw [hml]; rfl) c10 (argsL := [.ref s.heap.size, .int (Int32.ofNat N.slots.size)]) (rest := [.ref a]) rfl rfl (by show 2 * 0 + (1 + 0) ≤ _; decide) (hb hbytes d45) (⟨rfl, n1⟩)
  obtain ⟨rfl, q11⟩ := E11
  have hB11 := hB1.mv (X8.warmed.alike.symm.trans X11.warmed.alike) q11
  have c12 : Steps p.tables e below (s₁.setTop (entryFrame m #[.ref a, .ref b, .int (Int32.ofNat o), .int (Int32.ofNat len), .null] 6)) (T11.setTop (mkF m 48 #[.val (.ref a), .val (.ref b), .val (.int (Int32.ofNat o)), .val (.int (Int32.ofNat len)), .val .null, .val (.ref s.heap.size)] [.int 0, .ref a])) := g11
  obtain ⟨T13, X13, p13, bl13, sl13, st13⟩ := X11.finit hexec hown (wk W (.fieldLink "java/lang/String" 15 "java/lang/String" "coder" "B")) (Or.inr ⟨_, (wk W (.laysFinal "java/lang/String" "java/lang/String" "coder" "B"))⟩) (Or.inl ⟨rfl, hnm⟩) f2 (Or.inl rfl) hB11 (t := .byte) (by decide +kernel) rfl (g := (mkF m 48 #[.val (.ref a), .val (.ref b), .val (.int (Int32.ofNat o)), .val (.int (Int32.ofNat len)), .val .null, .val (.ref s.heap.size)] [.int 0, .ref a])) rfl (rest := []) rfl (hb hbytes d48)
  have c14 : Steps p.tables e below (s₁.setTop (entryFrame m #[.ref a, .ref b, .int (Int32.ofNat o), .int (Int32.ofNat len), .null] 6)) (T13.setTop (mkF m 54 #[.val (.ref a), .val (.ref b), .val (.int (Int32.ofNat o)), .val (.int (Int32.ofNat len)), .val .null, .val (.ref s.heap.size)] [.ref s.heap.size, .ref a])) := (c12.trans (st13 _ (Steps.refl _))).trans (by
    refine XS.aloadN X13.here hexec rfl (hb hbytes d51) rfl rfl ?_
    refine XS.aload X13.here hexec rfl (hb hbytes d52) rfl rfl ?_
    exact Steps.refl _)
  obtain ⟨T15, X15, p15, bl15, sl15, st15⟩ := X13.finit hexec hown (wk W (.fieldLink "java/lang/String" 9 "java/lang/String" "value" "[B")) (Or.inr ⟨_, (wk W (.laysFinal "java/lang/String" "java/lang/String" "value" "[B"))⟩) (Or.inl ⟨rfl, hnm⟩) f1 (Or.inl rfl) bl13 (t := (.array .byte)) (by decide +kernel) rfl (g := (mkF m 54 #[.val (.ref a), .val (.ref b), .val (.int (Int32.ofNat o)), .val (.int (Int32.ofNat len)), .val .null, .val (.ref s.heap.size)] [.ref s.heap.size, .ref a])) rfl (rest := []) rfl (hb hbytes d54)
  have c16 : Steps p.tables e below (s₁.setTop (entryFrame m #[.ref a, .ref b, .int (Int32.ofNat o), .int (Int32.ofNat len), .null] 6)) (T15.setTop (mkF m 57 #[.val (.ref a), .val (.ref b), .val (.int (Int32.ofNat o)), .val (.int (Int32.ofNat len)), .val .null, .val (.ref s.heap.size)] [])) := c14.trans (st15 _ (Steps.refl _))
  have ap := apart (Or.inr ⟨_, (wk W (.laysFinal "java/lang/String" "java/lang/String" "value" "[B"))⟩) (Or.inr ⟨_, (wk W (.laysFinal "java/lang/String" "java/lang/String" "coder" "B"))⟩) f1 f2 (t₁ := .array .byte) (t₂ := .byte) (by decide +kernel) (by decide +kernel) (by decide)
  have al := X8.warmed.alike.symm.trans X15.warmed.alike
  have n7 : T11.heap[s.heap.size]? = some N := by rw [q11]; exact n1.1
  exact ⟨T15, none, _, _, _, X15, by simp, rfl, by omega, (fun _ => rfl), ⟨rfl, _, N, bl15, ((Same.refl D _).set _ (by simp)).set _ (by simp), sl15, (Cell.slots_setSlot_ne _ ap).trans sl13, n1.keep al (p15.other hne (p13.other hne n7)), n2, by rw [al.findClass]; exact n3, n4, n5, fun y c h1 h2 => p15.other h1 (p13.other h1 (by rw [q11]; exact n6 y c h2)), by rw [p15.2.2, p13.2.2, q11]; exact z8⟩, fun fs hl => c16.trans (X15.returnOut hexec hret (hb hbytes d57) hl)⟩
end New4
namespace New1
def yN : MethodName := ⟨"java/lang/String", "<init>", "([C)V"⟩
abbrev yB : ByteArray := jdk_42_method_3_code
theorem d0 : decode yB 0 = .ok (.aload_n 0, 1) := by decide +kernel
theorem d1 : decode yB 1 = .ok (.aload_n 1, 1) := by decide +kernel
theorem d2 : decode yB 2 = .ok (.iconst 0, 1) := by decide +kernel
theorem d3 : decode yB 3 = .ok (.aload_n 1, 1) := by decide +kernel
theorem d4 : decode yB 4 = .ok (.arraylength, 1) := by decide +kernel
theorem d5 : decode yB 5 = .ok (.aconst_null, 1) := by decide +kernel
theorem d6 : decode yB 6 = .ok (.invokespecial 27, 3) := by decide +kernel
theorem d9 : decode yB 9 = .ok (.return_, 1) := by decide +kernel
def site : List Cond := [New4.tab] ++ initW "java/lang/String" 27 New4.yN
def tab : Cond := tabOf yN yB 2 none site
def P (a : Addr) (D : Cell) (fV fC : Field) (b : Addr) (A : Cell) (z : Int32) (args : Array Value) (s : State) : Prop := args = #[.ref a, .ref b] ∧ Blank "java/lang/String" a D s ∧ Found "java/lang/String" "value" "[B" fV s ∧ Found "java/lang/String" "coder" "B" fC s ∧ Ch b A s ∧ StaticIs s "java/lang/String" "COMPACT_STRINGS" "Z" (.int z) ∧ ¬ z = 0 ∧ 0 < A.slots.size ∧ A.slots.size ≤ 536870912 ∧ ∀ i, i < A.slots.size → ¬ 255 < cv A i
def E (a : Addr) (D : Cell) (fV fC : Field) (A : Cell) (r : Option Value) (s u : State) : Prop := Got a D fV fC A 0 A.slots.size r s u
/-- new String(chars), not empty, no char above 255: a Latin-1 String of their low bytes -/
theorem law (l : Launch) (a : Addr) (D : Cell) (fV fC : Field) (b : Addr) (A : Cell) (z : Int32) : Law l yN 2 1 3 52 yB 2 none site (P a D fV fC b A z) (E a D fV fC A) [⟨a, fC.slot⟩, ⟨a, fV.slot⟩] 1 A.slots.size := by
  refine Law.of_walk (plainFor_of_name (by decide +kernel)) (by decide +kernel) (by decide +kernel) (by decide) (fun _ _ h => by rw [h.1]; rfl) (fun _ U U' hal hh h => ⟨h.1, h.2.1.mv hal hh, h.2.2.1.al hal, h.2.2.2.1.al hal, h.2.2.2.2.1.mv hal hh, h.2.2.2.2.2.1.there hal hh, h.2.2.2.2.2.2⟩) (fun r U U' V V' h1 hal h2 h => Got.mv r U U' V V' h1 hal h2 h) ?_
  intro p e s m args below meth c s₁ X0 hexec hbytes hml hret hlk hnm hown hh0 W hP
  obtain ⟨rfl, hB, f1, f2, hA, s1, hz, l0, l2, hp⟩ := hP
  have c1 : Steps p.tables e below (s₁.setTop (entryFrame m #[.ref a, .ref b] 2)) (s₁.setTop (mkF m 0 #[.val (.ref a), .val (.ref b)] [])) := entry rfl
  have c2 : Steps p.tables e below (s₁.setTop (entryFrame m #[.ref a, .ref b] 2)) (s₁.setTop (mkF m 6 #[.val (.ref a), .val (.ref b)] [.null, .int (Int32.ofNat A.slots.size), .int 0, .ref b, .ref a])) := c1.trans (by
    refine XS.aloadN X0.here hexec rfl (hb hbytes d0) rfl rfl ?_
    refine XS.aloadN X0.here hexec rfl (hb hbytes d1) rfl rfl ?_
    refine iconstV X0.here hexec rfl 0 (hb hbytes d2) (by decide) ?_
    refine XS.aloadN X0.here hexec rfl (hb hbytes d3) rfl rfl ?_
    refine X0.alen hexec (hA.1.mv X0.warmed.alike hh0) rfl rfl (hb hbytes d4) ?_
    refine XS.aconstNull X0.here hexec rfl (hb hbytes d5) ?_
    exact Steps.refl _)
  obtain ⟨v3, T3, X3, E3, g3⟩ := X0.callN hexec (New4.law l a D fV fC b A z 0 A.slots.size) rfl hown (wks W (initW "java/lang/String" 27 New4.yN)) (W New4.tab (by simp only [site, List.mem_cons, List.mem_append, true_or, or_true])) (W := 0) (Nat.le_of_ble_eq_true rfl) (Nat.le_of_ble_eq_true rfl) (Nat.le_refl _) (by show 0 + A.slots.size ≤ A.slots.size; omega) (g := (mkF m 6 #[.val (.ref a), .val (.ref b)] [.null, .int (Int32.ofNat A.slots.size), .int (Int32.ofNat 0), .ref b, .ref a])) rfl (by rw [hml]; rfl) c2 (argsL := [.ref b, .int (Int32.ofNat 0), .int (Int32.ofNat A.slots.size), .null]) (rest := []) rfl rfl (by show 2 * 0 + 0 ≤ _; decide) (hb hbytes d6) (⟨rfl, hB.mv X0.warmed.alike hh0, f1.al X0.warmed.alike, f2.al X0.warmed.alike, hA.mv X0.warmed.alike hh0, s1.there X0.warmed.alike hh0, hz, l0, by omega, l2, fun i hi => by rw [Nat.zero_add]; exact hp i hi⟩)
  have e0 := Got.mv _ s₁ s _ _ hh0.symm (Vm.Alike.refl _) rfl E3
  obtain rfl := e0.1
  have c4 : Steps p.tables e below (s₁.setTop (entryFrame m #[.ref a, .ref b] 2)) (T3.setTop (mkF m 9 #[.val (.ref a), .val (.ref b)] [])) := g3
  exact ⟨T3, none, _, _, _, X3, by simp, rfl, by omega, (fun _ => rfl), e0, fun fs hl => c4.trans (X3.returnOut hexec hret (hb hbytes d9) hl)⟩
theorem pays {l : Launch} {R : Room} {p : Program} {e : Env} {below : List Frame} {s : State} {sargs : Array Value} {len W : Nat} (a : Addr) (D : Cell) (fV fC : Field) (b : Addr) (A : Cell) (z : Int32) (htab : tab.before sargs s = true) (hfr : 4 ≤ R.frames) (hlo : W + 65 ≤ R.locals) :
    Back l R p e below s sargs yN len W (fun A₁ a₁ => A₁.cells + 1 ≤ R.cells ∧ A₁.slots + A.slots.size ≤ R.slots ∧ P a D fV fC b A z a₁ A₁.U) (fun A₁ _ v₁ B₁ => E a D fV fC A v₁ A₁.U B₁.U ∧ B₁.locs = A₁.locs ++ [⟨a, fC.slot⟩, ⟨a, fV.slot⟩] ∧ B₁.cells = A₁.cells + 1 ∧ B₁.slots = A₁.slots + A.slots.size) :=
  (law l a D fV fC b A z).pays htab hfr (by omega)
end New1
/-- the byte, read back as charAt reads it, is the char -/
theorem lo8_mask {x : Int32} (h0 : ¬ x < 0) (h1 : ¬ 255 < x) : lo8 x &&& 255 = x := by
  have t : ∀ k : Fin 256, lo8 (Int32.ofNat k.val) &&& 255 = Int32.ofNat k.val := by decide +kernel
  rw [Int32.lt_iff_toInt_lt] at h0 h1
  have e0 : (0 : Int32).toInt = 0 := rfl
  have e1 : (255 : Int32).toInt = 255 := rfl
  obtain ⟨k, hk⟩ : ∃ k : Nat, x.toInt = k := ⟨x.toInt.toNat, by omega⟩
  have hx : x = Int32.ofNat k := Int32.toInt_inj.mp (by rw [hk, Int32.toInt_ofNat_small (by omega)])
  rw [hx]
  exact t ⟨k, by omega⟩
end StrChars
namespace StrChars.Road
open Jvm Sem ClassFile Op Lib Jvm.Stand Jvm.Free Jvm.Free.XT
open Jvm.Lib.Cold (StaticIs)
abbrev ST : String := "java/lang/String"
/-- every table word that New1's law asks, flat -/
abbrev words : List Jvm.Cond := [.code New1.yN New1.yB 2 none, .initialized ST, .methodLink ST 27 New4.yN, .instanceMethod New4.yN,
  .code New4.yN New4.yB 6 none, .fieldLink ST 38 ST "COMPACT_STRINGS" "Z", .laysFinal ST ST "value" "[B", .fieldLink ST 9 ST "value" "[B", .laysFinal ST ST "coder" "B", .fieldLink ST 15 ST "coder" "B",
  .methodLink ST 1 Lib.objectInit, .instanceMethod Lib.objectInit, .code Lib.objectInit ⟨#[0xb1]⟩ 1 none, .methodLink ST 177 Cmp3.yN, .static Cmp3.yN, .methodLink ST 47 CodL.yN, .static CodL.yN,
  .code Cmp3.yN Cmp3.yB 6 (some (.array .byte)), .initialized U16, .arrayClass .byte, .methodLink U16 115 Cmp5.yN, .static Cmp5.yN, .code Cmp5.yN Cmp5.yB 7 (some .int), .code CodL.yN CodL.yB 2 (some .byte)]
theorem tab_of {a : Array Value} {s : State} (h : ∀ w ∈ words, w.before a s = true) : New1.tab.before a s = true := by
  have h5 : Cmp5.tab.before a s = true := unparts (wk h (.code Cmp5.yN Cmp5.yB 7 (some .int))) (wks h (.initialized Cmp5.yN.cls :: Cmp5.site))
  have hc : CodL.tab.before a s = true := unparts (wk h (.code CodL.yN CodL.yB 2 (some .byte))) (wks h (.initialized CodL.yN.cls :: CodL.site))
  have q5 : ∀ w ∈ Cmp5.tab :: words, w.before a s = true := fun w hw => (List.mem_cons.mp hw).elim (fun e => e ▸ h5) (h w)
  have h3 : Cmp3.tab.before a s = true := unparts (wk q5 (.code Cmp3.yN Cmp3.yB 6 (some (.array .byte)))) (wks q5 (.initialized Cmp3.yN.cls :: Cmp3.site))
  have q3 : ∀ w ∈ Cmp3.tab :: CodL.tab :: words, w.before a s = true := fun w hw => (List.mem_cons.mp hw).elim (fun e => e ▸ h3) fun hw => (List.mem_cons.mp hw).elim (fun e => e ▸ hc) (h w)
  have h4 : New4.tab.before a s = true := unparts (wk q3 (.code New4.yN New4.yB 6 none)) (wks q3 (.initialized New4.yN.cls :: New4.site))
  have q4 : ∀ w ∈ New4.tab :: words, w.before a s = true := fun w hw => (List.mem_cons.mp hw).elim (fun e => e ▸ h4) (h w)
  exact unparts (wk q4 (.code New1.yN New1.yB 2 none)) (wks q4 (.initialized New1.yN.cls :: New1.site))
/-- the words ride from the start Z to the walk's own state -/
theorem moved {Z s : State} {a0 args : Array Value} (hZ : Z.Warmed39 s.vm) (hw : ∀ d ∈ words, d.before a0 Z = true) : ∀ d ∈ words, d.before args s = true := fun d hd => by
  have q := hw d hd
  have t : ∀ d ∈ words, d = .arrayClass .byte ∨ (d.onTables && d.keepsFace) = true := by decide +kernel
  rcases t d hd with rfl | t
  · exact RoadKit.mvA hZ q
  · exact RoadKit.mv hZ q t
/-- WHAT COMES BACK, over the tables of the start Z: h the heap at the call, h' behind it -/
def Q (Z : State) (x : Addr) (A : Cell) (h : Heap) (v : Option Value) (h' : Heap) (L : List Loc) : Prop := v = none ∧ (∀ y ∈ L, y.base = x) ∧ RoadKit.Keep h h' [x] ∧ h'.size = h.size + 1 ∧ RoadKit.Exa Z h' x ST ∧ RoadKit.Fld Z h' x ST "value" "[B" (.ref h.size) ∧ RoadKit.Fld Z h' x ST "coder" "B" (.int 0) ∧
  (∃ V : Cell, RoadKit.Arr Z h' h.size V .byte ∧ V.vm = .none ∧ Z.vm.findClass "[B" = some V.cls ∧ V.slots.size = A.slots.size ∧ ∀ j, j < A.slots.size → V.slots[j]? = some (.int (lo8 (cv A j)))) ∧
  ∀ (O n d : String) (w : Value), RoadKit.Fld Z h x O n d w → RoadKit.slotOf Z O n d ≠ RoadKit.slotOf Z ST "value" "[B" → RoadKit.slotOf Z O n d ≠ RoadKit.slotOf Z ST "coder" "B" → RoadKit.Fld Z h' x O n d w
/-- **new String(chars) AT A CALL, IN THE ROAD'S FORM**: for specialBack behind newO: x the fresh String, b the char[] with the cell A -/
theorem back {p : Program} {l : Launch} {e : Env} {R : Room} {s : State} {args : Array Value} {below : List Frame} {len W : Nat} {Z : State} {a0 : Array Value} {h : Heap} (hZ : Z.Warmed39 s.vm) (hw : ∀ d ∈ words, d.before a0 Z = true) {kI : Nat} (wi : (Jvm.Cond.instantiable ST kI).before a0 Z = true)
    {x b : Addr} {A : Cell} {z : Int32} {v0 c0 : Value} (E : RoadKit.Exa Z h x ST) (V : RoadKit.Fld Z h x ST "value" "[B" v0) (C : RoadKit.Fld Z h x ST "coder" "B" c0) (K : RoadKit.Arr Z h b A .char) (hty : Typed .char A) (S : RoadKit.Sta Z h ST "COMPACT_STRINGS" "Z" (.int z)) (hz : ¬ z = 0)
    (l0 : 0 < A.slots.size) (l2 : A.slots.size ≤ 536870912) (hp : ∀ i, i < A.slots.size → ¬ 255 < cv A i) (hfr : 4 ≤ R.frames) (hlo : W + 65 ≤ R.locals) :
    Back l R p e below s args New1.yN len W (fun P a => a = #[.ref x, .ref b] ∧ P.U.heap = h ∧ P.cells + 1 ≤ R.cells ∧ P.slots + A.slots.size ≤ R.slots)
      (fun P _ v B => ∃ L, Q Z x A h v B.U.heap L ∧ B.locs = P.locs ++ L ∧ B.cells = P.cells + 1 ∧ B.slots = P.slots + A.slots.size) := by
  intro m meth c P g ig mk a X hg hsize hdg hW hn hp'
  obtain ⟨rfl, rfl, r1, r2⟩ := hp'
  have al : Z.vm.Alike P.U.vm := hZ.alike.trans X.warmed.alike
  obtain ⟨D, cfV, kV, iV, fV, hD, gV, stV, knV, obV, asV, slV⟩ := id V
  obtain ⟨D', cfC, kC, iC, fC, hD', gC, stC, -, -, asC, slC⟩ := id C
  cases hD.symm.trans hD'
  obtain ⟨D2, kD, e1, e2, e3, e4, e5⟩ := id E
  cases hD.symm.trans e1
  obtain ⟨c2, k2, i1, i2, i3, -⟩ := Cond.instantiable_spec wi
  cases e2.symm.trans i1
  cases e3.symm.trans i2
  obtain ⟨kU, u1, u2⟩ := al.2.2 _ _ e3
  have hB : Blank ST x D P.U := ⟨hD, ⟨knV, fun q hq => by rw [hq] at obV; cases obV⟩, by rw [al.findClass]; exact e2, kU, u1, by rw [u2]; exact i3, by rw [u2]; exact e5 i3⟩
  have F1 : Found ST "value" "[B" fV P.U := ⟨SBG.found_only al ⟨cfV, kV, iV, gV⟩, stV⟩
  have F2 : Found ST "coder" "B" fC P.U := ⟨SBG.found_only al ⟨cfC, kC, iC, gC⟩, stC⟩
  have hA : Ch b A P.U := ⟨⟨K.1, State.isArrayOf_alike al K.2.1, K.2.2, by omega⟩, hty⟩
  have hS : StaticIs P.U ST "COMPACT_STRINGS" "Z" (.int z) := by
    obtain ⟨cfS, iS, kS, fS, st, cS, t1, t2, t3, t4, t5, t6, t7⟩ := S
    exact StaticIs.there (s := { Z with heap := P.U.heap }) ⟨cfS, iS, kS, fS, st, cS, t1, t2, t3, t4, t5, (fun q => by rw [q] at t6; cases t6), t7⟩ al rfl
  obtain ⟨v, B, X', ⟨⟨hv, E', V', q1, q2, q3, q4, q5, q6, q7, q8, q9, q10, q11⟩, hl, hc, hs⟩, st⟩ := New1.pays x D fV fC b A z (tab_of (moved hZ hw)) hfr hlo m meth c P g ig mk _ X hg hsize hdg hW hn ⟨r1, r2, rfl, hB, F1, F2, hA, hS, hz, l0, l2, hp⟩
  have al' : Z.vm.Alike B.U.vm := hZ.alike.trans X'.warmed.alike
  have hsz : E'.slots.size = D.slots.size := by
    obtain ⟨-, -, -, kB, w1, w2, w3⟩ := q1
    obtain ⟨kB', y1, y2⟩ := al'.2.2 _ _ e3
    rw [q2.2.1] at w1
    cases w1.symm.trans y1
    rw [w3, e5 i3, y2]
  refine ⟨v, B, X', ⟨_, ⟨hv, ?_, ⟨by omega, fun y cy hy hn' => q10 y cy (by simpa using hn') hy, fun y cy hy => ?_⟩, q11, ⟨E', _, q1.1, by rw [q2.2.1]; exact e2, by rw [q2.2.1]; exact e3, by rw [q2.1]; exact obV, fun _ => by rw [hsz]; exact e5 i3⟩,
    ⟨E', cfV, kV, iV, fV, q1.1, gV, stV, by rw [q2.1]; exact knV, by rw [q2.1]; exact obV, by rw [q2.2.1]; exact asV, q3⟩, ⟨E', cfC, kC, iC, fC, q1.1, gC, stC, by rw [q2.1]; exact knV, by rw [q2.1]; exact obV, by rw [q2.2.1]; exact asC, q4⟩,
    ⟨V', ⟨q5.1, State.isArrayOf_alike al'.symm q5.2.1, q5.2.2.1⟩, q6, by rw [← al'.findClass]; exact q7, q8, fun j hj => by have := q9 j hj; rwa [Nat.zero_add] at this⟩, fun O n d w F n1 n2 => ?_⟩, hl, hc, hs⟩, st⟩
  · intro y hy
    simp only [List.mem_cons, List.not_mem_nil, or_false] at hy
    rcases hy with rfl | rfl <;> rfl
  · by_cases q : y = x
    · subst q
      cases hD.symm.trans hy
      exact ⟨E', q1.1, q2.2.1, q2.1, hsz⟩
    · exact ⟨cy, q10 y cy q hy, rfl, rfl, rfl⟩
  · obtain ⟨D3, cf, k, i, f, g1, g2, g3, g4, g5, g6, g7⟩ := F
    cases hD.symm.trans g1
    simp only [RoadKit.slotOf, g2, gV, gC, Option.map_some, Option.getD_some] at n1 n2
    exact ⟨E', cf, k, i, f, q1.1, g2, g3, by rw [q2.1]; exact g4, by rw [q2.1]; exact g5, by rw [q2.2.1]; exact g6, by rw [q2.2.2 f.slot (by simp [n1, n2])]; exact g7⟩
end StrChars.Road
namespace StrChars.Road
open Jvm Sem ClassFile Op Lib Jvm.Stand Jvm.Free Jvm.Free.XT
/-- WHAT COMES BACK, the byte[] as a list of values -/
def QA (Z : State) (x : Addr) (zn : Int32) (cs : List Int32) (h : Heap) (v : Option Value) (h' : Heap) (L : List Loc) : Prop := v = none ∧ (∀ y ∈ L, y.base = x) ∧ RoadKit.Keep h h' [x] ∧ h'.size = h.size + 1 ∧ RoadKit.Exa Z h' x ST ∧ RoadKit.Fld Z h' x ST "value" "[B" (.ref h.size) ∧ RoadKit.Fld Z h' x ST "coder" "B" (.int 0) ∧
  (∃ kb, Z.vm.findClass "[B" = some kb ∧ RoadKit.Arv Z h' h.size kb .byte zn (cs.map fun c => .int (lo8 c)) (.int 0)) ∧
  ∀ (O n d : String) (w : Value), RoadKit.Fld Z h x O n d w → RoadKit.slotOf Z O n d ≠ RoadKit.slotOf Z ST "value" "[B" → RoadKit.slotOf Z O n d ≠ RoadKit.slotOf Z ST "coder" "B" → RoadKit.Fld Z h' x O n d w
/-- **new String(chars) AT A CALL, THE ARRAYS AS LISTS**: the char[] at b holds cs, not empty, no char above 255 -/
theorem backArv {p : Program} {l : Launch} {e : Env} {R : Room} {s : State} {args : Array Value} {below : List Frame} {len W : Nat} {Z : State} {a0 : Array Value} {h : Heap} (hZ : Z.Warmed39 s.vm) (hw : ∀ d ∈ words, d.before a0 Z = true) {kI : Nat} (wi : (Jvm.Cond.instantiable ST kI).before a0 Z = true)
    {x b : Addr} {k : ClassId} {zn z : Int32} {cs : List Int32} {dv v0 c0 : Value} (E : RoadKit.Exa Z h x ST) (V : RoadKit.Fld Z h x ST "value" "[B" v0) (C : RoadKit.Fld Z h x ST "coder" "B" c0) (K : RoadKit.Arv Z h b k .char zn (cs.map Value.int) dv) (S : RoadKit.Sta Z h ST "COMPACT_STRINGS" "Z" (.int z)) (hz : ¬ z = 0)
    (hlen : zn.toNatClampNeg = cs.length) (h0 : 0 < cs.length) (hbig : cs.length ≤ 536870912) (hall : ∀ c ∈ cs, ¬ 255 < c) (hfr : 4 ≤ R.frames) (hlo : W + 65 ≤ R.locals) :
    Back l R p e below s args New1.yN len W (fun P a => a = #[.ref x, .ref b] ∧ P.U.heap = h ∧ P.cells + 1 ≤ R.cells ∧ P.slots + cs.length ≤ R.slots)
      (fun P _ v B => ∃ L, QA Z x zn cs h v B.U.heap L ∧ B.locs = P.locs ++ L ∧ B.cells = P.cells + 1 ∧ B.slots = P.slots + cs.length) := by
  obtain ⟨A, K1, K2, K3, K4, K5, K6⟩ := K
  have e : A.slots.size = cs.length := K3.trans hlen
  have hat : ∀ (i : Nat) (hi : i < cs.length), A.slots[i]? = some (.int cs[i]) := fun i hi => by rw [K5 i (by omega)]; simp [List.getD_eq_getElem?_getD, hi]
  have hcv : ∀ (i : Nat) (hi : i < cs.length), cv A i = cs[i] := fun i hi => by unfold cv; rw [hat i hi]
  have hty : Typed .char A := fun i v hv => by
    have hi : i < A.slots.size := (Array.getElem?_eq_some_iff.mp hv).1
    have q := K5 i hi
    rw [hv] at q
    rw [Option.some.inj q]
    exact K6 i hi
  refine Back.mono (back hZ hw wi E V C K1 hty S hz (by omega) (by omega) (fun i hi => by rw [hcv i (by omega)]; exact hall _ (List.getElem_mem _)) hfr hlo) (fun P a hp => ⟨hp.1, hp.2.1, hp.2.2.1, by rw [e]; exact hp.2.2.2⟩) (fun P a v B hp hq => ?_)
  obtain ⟨L, ⟨q1, q2, q3, q4, q5, q6, q7, ⟨V', v1, v2, v3, v4, v5⟩, q9⟩, hl, hc, hs⟩ := hq
  refine ⟨L, ⟨q1, q2, q3, q4, q5, q6, q7, ⟨V'.cls, v3, V', v1, rfl, by rw [v4, e, hlen], K4, fun i hi => ?_, fun i hi => ?_⟩, q9⟩, hl, hc, by rw [hs, e]⟩
  · have hi' : i < cs.length := by omega
    rw [v5 i (by omega), hcv i hi']; simp [List.getD_eq_getElem?_getD, hi']
  · have hi' : i < cs.length := by omega
    simp only [List.getD_eq_getElem?_getD, List.getElem?_map, List.getElem?_eq_getElem hi', Option.map_some, Option.getD_some]
    exact fits_lo8 _
end StrChars.Road
namespace StrChars.Road
open Jvm Sem ClassFile Op Lib Jvm.Stand Jvm.Free Jvm.Free.XT
/-- WHAT COMES BACK, in the writer's own shape -/
def QV (Z : State) (x : Addr) (N : Int32) (bs : List Int32) (h : Heap) (n0 : Nat) (v : Option Value) (h' : Heap) (L : List Loc) : Prop := v = none ∧ RoadKit.Fr n0 L ∧ RoadKit.Keep h h' [x] ∧ RoadKit.Exa Z h' x ST ∧ RoadKit.Fld Z h' x ST "coder" "B" (.int 0) ∧
  ∃ (t : Addr) (kb : ClassId), n0 ≤ t ∧ h.size ≤ t ∧ ¬ t = x ∧ RoadKit.Fld Z h' x ST "value" "[B" (.ref t) ∧ RoadKit.Arv Z h' t kb .byte N (bs.map Value.int) (.int 0)
/-- **new String(chars) AT A CALL, FOR THE WRITER**: a char[] of n known ints, each 0 to 255 -/
theorem backV {p : Program} {l : Launch} {e : Env} {R : Room} {s : State} {args : Array Value} {below : List Frame} {len W : Nat} {Z : State} {a0 : Array Value} {h : Heap} (hZ : Z.Warmed39 s.vm) (hw : ∀ d ∈ words, d.before a0 Z = true) {kI : Nat} (wi : (Jvm.Cond.instantiable ST kI).before a0 Z = true)
    {x b : Addr} {kC : ClassId} {cs bs : List Int32} {d v0 c0 : Value} {z N : Int32} {n n0 : Nat} (hx0 : n0 ≤ x) (hh0 : n0 ≤ h.size) (E : RoadKit.Exa Z h x ST) (V : RoadKit.Fld Z h x ST "value" "[B" v0) (C : RoadKit.Fld Z h x ST "coder" "B" c0) (K : RoadKit.Arv Z h b kC .char N (cs.map Value.int) d) (S : RoadKit.Sta Z h ST "COMPACT_STRINGS" "Z" (.int z)) (hz : ¬ z = 0)
    (hn : cs.length = n) (hN : N = Int32.ofNat n) (l0 : 0 < n) (l2 : n ≤ 4000) (hp : ∀ c ∈ cs, ¬ c < 0 ∧ ¬ (255 : Int32) < c) (hb : bs = cs.map (fun c => c.toInt8.toInt32)) (hfr : 4 ≤ R.frames) (hlo : W + 65 ≤ R.locals) :
    Back l R p e below s args (⟨"java/lang/String", "<init>", "([C)V"⟩ : MethodName) len W (fun P a => a = #[.ref x, .ref b] ∧ P.U.heap = h ∧ P.cells + 1 ≤ R.cells ∧ P.slots + n ≤ R.slots)
      (fun P _ v B => ∃ L, QV Z x N bs h n0 v B.U.heap L ∧ B.locs = P.locs ++ L ∧ B.cells = P.cells + 1 ∧ B.slots = P.slots + n) := by
  subst hn hN hb
  refine Back.mono (backArv hZ hw wi E V C K S hz (n32 (by omega)) l0 (by omega) (fun c hc => (hp c hc).2) hfr hlo) (fun P a hp => hp) (fun P a v B hp hq => ?_)
  obtain ⟨L, ⟨q1, q2, q3, q4, q5, q6, q7, ⟨kb, v1, v2⟩, q9⟩, hl, hc, hs⟩ := hq
  exact ⟨L, ⟨q1, fun y hy => by rw [q2 y hy]; exact hx0, q3, q5, q7, h.size, kb, hh0, Nat.le_refl _, Nat.ne_of_gt E.lt, q6, by rw [List.map_map]; exact v2⟩, hl, hc, hs⟩
end StrChars.Road
namespace StrChars
open Jvm Sem ClassFile Op Lib Jvm.Stand Jvm.Free.XT Jvm.Free.ALB Jvm.Free.JM Jvm.Free
open Jvm.Lib.Cold (StaticIs)
def hi8 (x : Int32) : Int32 := lo8 (x >>> ((8 : Int32) &&& 31))
/-- what StringUTF16.getChar makes of two bytes -/
def pairCh (u v : Int32) : Int32 := (((u &&& 255) <<< ((0 : Int32) &&& 31)) ||| ((v &&& 255) <<< ((8 : Int32) &&& 31))).toUInt32.toUInt16.toUInt32.toInt32
theorem shr0 (c : Int32) : c >>> ((0 : Int32) &&& 31) = c := by
  have e : ((0 : Int32) &&& 31) = 0 := by decide
  rw [e]
  apply Int32.toBitVec_inj.mp
  rw [Int32.toBitVec_shiftRight]
  have e1 : ((0 : Int32).toBitVec.smod 32) = 0#32 := by decide
  rw [e1, BitVec.sshiftRight_eq']
  exact BitVec.sshiftRight_zero
theorem lo8_and (x : Int32) : (lo8 x &&& 255).toBitVec.toNat = x.toBitVec.toNat % 256 := by
  have h : (lo8 x).toBitVec = (x.toBitVec.signExtend 8).signExtend 32 := by rw [lo8, Int8.toBitVec_toInt32, Int32.toBitVec_toInt8]
  rw [Int32.toBitVec_and, BitVec.toNat_and, h]
  have e : ((x.toBitVec.signExtend 8).signExtend 32).toNat % 256 = x.toBitVec.toNat % 256 := by
    rw [BitVec.toNat_signExtend]
    have hlt := x.toBitVec.isLt
    simp only [BitVec.toNat_setWidth, BitVec.toNat_signExtend]
    split <;> split <;> omega
  rw [← e]
  exact Nat.and_two_pow_sub_one_eq_mod _ 8
theorem pair_says {c : Int32} (h0 : ¬ c < 0) (h1 : ¬ 65535 < c) : pairCh (lo8 c) (hi8 c) = c := by
  rw [Int32.lt_iff_toInt_lt] at h0 h1
  have e0 : (0 : Int32).toInt = 0 := rfl
  have e1 : (65535 : Int32).toInt = 65535 := rfl
  have hc : c.toInt = c.toBitVec.toNat := by
    have := c.toBitVec.isLt
    have e : c.toInt = c.toBitVec.toInt := rfl
    rw [e] at h0 h1
    rw [e]
    rw [BitVec.toInt_eq_toNat_cond] at h0 h1 ⊢
    split at h0 <;> split <;> omega
  have hn : c.toBitVec.toNat < 65536 := by omega
  have a1 := lo8_and c
  have a2 : (hi8 c &&& 255).toBitVec.toNat = c.toBitVec.toNat / 256 := by
    rw [hi8, lo8_and]
    have e : ((8 : Int32) &&& 31) = 8 := by decide
    rw [e, Int32.toBitVec_shiftRight]
    have e2 : ((8 : Int32).toBitVec.smod 32) = 8#32 := by decide
    rw [e2, BitVec.sshiftRight_eq', BitVec.toNat_sshiftRight_of_msb_false (by rw [BitVec.msb_eq_false_iff_two_mul_lt]; omega)]
    show c.toBitVec.toNat >>> 8 % 256 = _
    rw [Nat.shiftRight_eq_div_pow]
    omega
  unfold pairCh
  apply Int32.toBitVec_inj.mp
  apply BitVec.eq_of_toNat_eq
  have f0 : ((0 : Int32) &&& 31) = 0 := by decide
  have f8 : ((8 : Int32) &&& 31) = 8 := by decide
  rw [f0, f8]
  have g : (((lo8 c &&& 255) <<< (0 : Int32)) ||| ((hi8 c &&& 255) <<< (8 : Int32))).toBitVec.toNat = c.toBitVec.toNat := by
    rw [Int32.toBitVec_or, Int32.toBitVec_shiftLeft, Int32.toBitVec_shiftLeft]
    have s0 : ((0 : Int32).toBitVec.smod 32) = 0#32 := by decide
    have s8 : ((8 : Int32).toBitVec.smod 32) = 8#32 := by decide
    rw [s0, s8, BitVec.toNat_or]
    simp only [BitVec.shiftLeft_eq', BitVec.toNat_shiftLeft, a1, a2]
    show (c.toBitVec.toNat % 256) <<< 0 % 2 ^ 32 ||| (c.toBitVec.toNat / 256) <<< 8 % 2 ^ 32 = _
    rw [Nat.shiftLeft_zero, Nat.mod_eq_of_lt (show c.toBitVec.toNat % 256 < 2 ^ 32 by omega), Nat.mod_eq_of_lt (show (c.toBitVec.toNat / 256) <<< 8 < 2 ^ 32 by rw [Nat.shiftLeft_eq]; omega), Nat.or_comm, ← Nat.shiftLeft_add_eq_or_of_lt (by omega), Nat.shiftLeft_eq]
    omega
  show BitVec.toNat (((((lo8 c &&& 255) <<< (0 : Int32)) ||| ((hi8 c &&& 255) <<< (8 : Int32))).toBitVec.setWidth 16).setWidth 32) = _
  rw [BitVec.toNat_setWidth, BitVec.toNat_setWidth, g]
  omega
end StrChars
namespace StrChars
open Jvm Sem ClassFile Op Lib Jvm.Stand Jvm.Free.XT Jvm.Free.ALB Jvm.Free.JM Jvm.Free
open Jvm.Lib.Cold (StaticIs)
theorem shr1 {n : Nat} (h : 2 * n < 2 ^ 31) : Int32.ofNat (2 * n) >>> ((1 : Int32) &&& 31) = Int32.ofNat n := by
  have e : ((1 : Int32) &&& 31) = 1 := by decide
  rw [e]
  apply Int32.toBitVec_inj.mp
  rw [Int32.toBitVec_shiftRight]
  have e1 : ((1 : Int32).toBitVec.smod 32) = 1#32 := by decide
  have hm : (BitVec.ofNat 32 (2 * n)).toNat = 2 * n := by rw [BitVec.toNat_ofNat, Nat.mod_eq_of_lt (by omega)]
  rw [e1, BitVec.sshiftRight_eq']
  apply BitVec.eq_of_toNat_eq
  show ((BitVec.ofNat 32 (2 * n)).sshiftRight 1).toNat = (BitVec.ofNat 32 n).toNat
  rw [BitVec.toNat_sshiftRight_of_msb_false (by rw [BitVec.msb_eq_false_iff_two_mul_lt, hm]; omega), hm, BitVec.toNat_ofNat, Nat.shiftRight_eq_div_pow]
  omega
/-- charAt's cast of a byte read back -/
def chr8 (u : Int32) : Int32 := (u &&& 255).toUInt32.toUInt16.toUInt32.toInt32
theorem chr8_lo8 {c : Int32} (h0 : ¬ c < 0) (h1 : ¬ 255 < c) : chr8 (lo8 c) = c := by
  have t : ∀ k : Fin 256, (Int32.ofNat k.val).toUInt32.toUInt16.toUInt32.toInt32 = Int32.ofNat k.val := by decide +kernel
  unfold chr8
  rw [lo8_mask h0 h1]
  rw [Int32.lt_iff_toInt_lt] at h0 h1
  have e0 : (0 : Int32).toInt = 0 := rfl
  have e1 : (255 : Int32).toInt = 255 := rfl
  obtain ⟨k, hk⟩ : ∃ k : Nat, c.toInt = k := ⟨c.toInt.toNat, by omega⟩
  have hx : c = Int32.ofNat k := Int32.toInt_inj.mp (by rw [hk, Int32.toInt_ofNat_small (by omega)])
  rw [hx]
  exact t ⟨k, by omega⟩
theorem narrow_ch {c : Int32} (h0 : ¬ c < 0) (h1 : ¬ 65535 < c) : narrow .char (.int c) = .int c := by
  have q : narrow .char (.int (pairCh (lo8 c) (hi8 c))) = .int (pairCh (lo8 c) (hi8 c)) := narrow_c _
  rwa [pair_says h0 h1] at q
/-- the array's cell V codes the n chars f 0 .. f (n - 1) by the coder cd, as the JDK does: coder 1 just where some char is above 255 -/
def Cod (cd : Int32) (n : Nat) (f : Nat → Int32) (V : Cell) : Prop := (cd = 0 ∧ V.slots.size = n ∧ ∀ j, j < n → V.slots[j]? = some (.int (lo8 (f j))) ∧ ¬ 255 < f j) ∨ (cd = 1 ∧ V.slots.size = 2 * n ∧ (∀ j, j < n → V.slots[2 * j]? = some (.int (lo8 (f j))) ∧ V.slots[2 * j + 1]? = some (.int (hi8 (f j)))) ∧ ∃ j, j < n ∧ 255 < f j)
theorem Cod.cd {cd : Int32} {n : Nat} {f : Nat → Int32} {V : Cell} (h : Cod cd n f V) : cd = 0 ∨ cd = 1 := h.imp (fun q => q.1) fun q => q.1
theorem Cod.len {cd : Int32} {n : Nat} {f : Nat → Int32} {V : Cell} (h : Cod cd n f V) (hs : V.slots.size < 2 ^ 31) : Int32.ofNat V.slots.size >>> (cd &&& 31) = Int32.ofNat n := by
  rcases h with ⟨rfl, h, -⟩ | ⟨rfl, h, -⟩
  · rw [shr0, h]
  · rw [h, shr1 (by omega)]
/-- **x is a String of the n chars f 0 .. f (n - 1)**, Latin-1 or UTF-16; its array at t has the cell V -/
def Txt (x t : Addr) (V : Cell) (cd : Int32) (n : Nat) (f : Nat → Int32) (U : State) : Prop := Exact "java/lang/String" x U ∧ Has x "java/lang/String" "value" "[B" (.ref t) U ∧ Has x "java/lang/String" "coder" "B" (.int cd) U ∧ XT.Arr .byte t V U ∧ Cod cd n f V ∧ ∀ j, j < n → ¬ f j < 0 ∧ ¬ 65535 < f j
theorem Txt.mv {x t : Addr} {V : Cell} {cd : Int32} {n : Nat} {f : Nat → Int32} {U U' : State} (h : Txt x t V cd n f U) (hal : U.vm.Alike U'.vm) (hh : U'.heap = U.heap) : Txt x t V cd n f U' := ⟨h.1.mv hal hh, h.2.1.mv hal hh, h.2.2.1.mv hal hh, h.2.2.2.1.mv hal hh, h.2.2.2.2⟩
namespace Cdr
def yN : MethodName := ⟨"java/lang/String", "coder", "()B"⟩
abbrev yB : ByteArray := jdk_42_method_152_code
theorem d0 : decode yB 0 = .ok (.getstatic 38, 3) := by decide +kernel
theorem d3 : decode yB 3 = .ok (.ifCond (.eq) 10, 3) := by decide +kernel
theorem d6 : decode yB 6 = .ok (.aload_n 0, 1) := by decide +kernel
theorem d7 : decode yB 7 = .ok (.getfield 15, 3) := by decide +kernel
theorem d10 : decode yB 10 = .ok (.goto 4, 3) := by decide +kernel
theorem d14 : decode yB 14 = .ok (.ireturn, 1) := by decide +kernel
def site : List Cond := [.fieldLink "java/lang/String" 38 "java/lang/String" "COMPACT_STRINGS" "Z", .fieldLink "java/lang/String" 15 "java/lang/String" "coder" "B"]
def tab : Cond := tabOf yN yB 1 (some .byte) site
def P (x : Addr) (cd z : Int32) (args : Array Value) (s : State) : Prop := args = #[.ref x] ∧ Has x "java/lang/String" "coder" "B" (.int cd) s ∧ (cd = 0 ∨ cd = 1) ∧ StaticIs s "java/lang/String" "COMPACT_STRINGS" "Z" (.int z) ∧ ¬ z = 0
def E (cd : Int32) (r : Option Value) (s u : State) : Prop := XT.PureE (some (.int cd)) r s u
theorem law (l : Launch) (x : Addr) (cd z : Int32) : Law l yN 1 0 0 0 yB 1 (some .byte) site (P x cd z) (E cd) [] 0 0 := by
  refine Law.of_walk (plainFor_of_name (by decide +kernel)) (by decide +kernel) (by decide +kernel) (by decide) (fun _ _ h => by rw [h.1]; rfl) (fun _ U U' hal hh h => ⟨h.1, h.2.1.mv hal hh, h.2.2.1, h.2.2.2.1.there hal hh, h.2.2.2.2⟩) (fun r U U' V V' h1 hal h2 h => XT.PureE.mv r U U' V V' h1 hal h2 h) ?_
  intro p e s m args below meth c s₁ X0 hexec hbytes hml hret hlk hnm hown hh0 W hP
  obtain ⟨rfl, hx, hc, s1, hz⟩ := hP
  have c1 : Steps p.tables e below (s₁.setTop (entryFrame m #[.ref x] 1)) (s₁.setTop (mkF m 0 #[.val (.ref x)] [])) := entry rfl
  obtain ⟨T2, X2, q2, st2⟩ := X0.sget hexec hown (wk W (.fieldLink "java/lang/String" 38 "java/lang/String" "COMPACT_STRINGS" "Z")) s1 (fun _ _ h => by rw [hh0]; exact h) (g := (mkF m 0 #[.val (.ref x)] [])) rfl (hb hbytes d0)
  have hh2 := q2.trans hh0
  have c3 : Steps p.tables e below (s₁.setTop (entryFrame m #[.ref x] 1)) (T2.setTop (mkF m 7 #[.val (.ref x)] [.ref x])) := (c1.trans (st2 _ (Steps.refl _))).trans (by
    refine XS.ifNo X2.here hexec rfl (hb hbytes d3) rfl (i0_eq_f hz) ?_
    refine XS.aloadN X2.here hexec rfl (hb hbytes d6) rfl rfl ?_
    exact Steps.refl _)
  obtain ⟨T4, X4, q4, st4⟩ := X2.hget hexec hown (wk W (.fieldLink "java/lang/String" 15 "java/lang/String" "coder" "B")) (hx.mv X2.warmed.alike hh2) (g := (mkF m 7 #[.val (.ref x)] [.ref x])) rfl (rest := []) rfl (hb hbytes d7)
  have c5 : Steps p.tables e below (s₁.setTop (entryFrame m #[.ref x] 1)) (T4.setTop (mkF m 14 #[.val (.ref x)] [.int cd])) := (c3.trans (st4 _ (Steps.refl _))).trans (by
    refine XS.goto X4.here hexec rfl (pc0 := 10) rfl (hb hbytes d10) (by decide) rfl ?_
    exact Steps.refl _)
  exact ⟨T4, some (.int cd), _, _, _, X4, rfl, rfl, rfl, (fun h => by cases h), ⟨rfl, q4.trans hh2⟩, fun fs hl => c5.trans (X4.ireturnOut hexec hret (by rcases hc with rfl | rfl <;> rfl) (Or.inr (Or.inr (Or.inl rfl))) (hb hbytes d14) hl)⟩
end Cdr
namespace Len
def yN : MethodName := ⟨"java/lang/String", "length", "()I"⟩
abbrev yB : ByteArray := jdk_42_method_54_code
theorem d0 : decode yB 0 = .ok (.aload_n 0, 1) := by decide +kernel
theorem d1 : decode yB 1 = .ok (.getfield 9, 3) := by decide +kernel
theorem d4 : decode yB 4 = .ok (.arraylength, 1) := by decide +kernel
theorem d5 : decode yB 5 = .ok (.aload_n 0, 1) := by decide +kernel
theorem d6 : decode yB 6 = .ok (.invokevirtual 335, 3) := by decide +kernel
theorem d9 : decode yB 9 = .ok (.ishr, 1) := by decide +kernel
theorem d10 : decode yB 10 = .ok (.ireturn, 1) := by decide +kernel
def site : List Cond := [.fieldLink "java/lang/String" 9 "java/lang/String" "value" "[B", Cdr.tab] ++ virtW "java/lang/String" 335 "java/lang/String" Cdr.yN Cdr.yN
def tab : Cond := tabOf yN yB 1 (some .int) site
def P (x t : Addr) (V : Cell) (cd : Int32) (n : Nat) (f : Nat → Int32) (z : Int32) (args : Array Value) (s : State) : Prop := args = #[.ref x] ∧ Txt x t V cd n f s ∧ StaticIs s "java/lang/String" "COMPACT_STRINGS" "Z" (.int z) ∧ ¬ z = 0
def E (n : Nat) (r : Option Value) (s u : State) : Prop := XT.PureE (some (.int (Int32.ofNat n))) r s u
/-- length() of a String of n chars, in either coding -/
theorem law (l : Launch) (x t : Addr) (V : Cell) (cd : Int32) (n : Nat) (f : Nat → Int32) (z : Int32) : Law l yN 1 0 1 13 yB 1 (some .int) site (P x t V cd n f z) (E n) [] 0 0 := by
  refine Law.of_walk (plainFor_of_name (by decide +kernel)) (by decide +kernel) (by decide +kernel) (by decide) (fun _ _ h => by rw [h.1]; rfl) (fun _ U U' hal hh h => ⟨h.1, h.2.1.mv hal hh, h.2.2.1.there hal hh, h.2.2.2⟩) (fun r U U' V V' h1 hal h2 h => XT.PureE.mv r U U' V V' h1 hal h2 h) ?_
  intro p e s m args below meth c s₁ X0 hexec hbytes hml hret hlk hnm hown hh0 W hP
  obtain ⟨rfl, hx, s1, hz⟩ := hP
  have v31 := hx.2.2.2.1.2.2.2
  have c1 : Steps p.tables e below (s₁.setTop (entryFrame m #[.ref x] 1)) (s₁.setTop (mkF m 1 #[.val (.ref x)] [.ref x])) := Steps.trans (entry rfl) (by
    show Steps p.tables e below (s₁.setTop (mkF m 0 #[.val (.ref x)] [])) _
    refine XS.aloadN X0.here hexec rfl (hb hbytes d0) rfl rfl ?_
    exact Steps.refl _)
  obtain ⟨T2, X2, q2, st2⟩ := X0.hget hexec hown (wk W (.fieldLink "java/lang/String" 9 "java/lang/String" "value" "[B")) (hx.mv X0.warmed.alike hh0).2.1 (g := (mkF m 1 #[.val (.ref x)] [.ref x])) rfl (rest := []) rfl (hb hbytes d1)
  have hh2 := q2.trans hh0
  have hx2 := hx.mv X2.warmed.alike hh2
  have c3 : Steps p.tables e below (s₁.setTop (entryFrame m #[.ref x] 1)) (T2.setTop (mkF m 6 #[.val (.ref x)] [.ref x, .int (Int32.ofNat V.slots.size)])) := (c1.trans (st2 _ (Steps.refl _))).trans (by
    refine X2.alen hexec hx2.2.2.2.1 rfl rfl (hb hbytes d4) ?_
    refine XS.aloadN X2.here hexec rfl (hb hbytes d5) rfl rfl ?_
    exact Steps.refl _)
  obtain ⟨v4, T4, X4, E4, g4⟩ := X2.callV hexec (Cdr.law l x cd z) hown (wks W (virtW "java/lang/String" 335 "java/lang/String" Cdr.yN Cdr.yN)) rfl (by decide) (wk W Cdr.tab) (W := 1) (Nat.le_of_ble_eq_true rfl) (Nat.le_of_ble_eq_true rfl) (Nat.le_refl _) (Nat.le_refl _) (hx2.1.fc X2.warmed.alike) hx2.1.is (g := (mkF m 6 #[.val (.ref x)] [.ref x, .int (Int32.ofNat V.slots.size)])) rfl (by rw [hml]; rfl) c3 (argsL := []) (rest := [.int (Int32.ofNat V.slots.size)]) rfl rfl (by show 2 * 0 + (1 + 0) ≤ _; decide) (hb hbytes d6) (⟨rfl, hx2.2.2.1, hx.2.2.2.2.1.cd, s1.there X2.warmed.alike hh2, hz⟩)
  obtain ⟨rfl, q4⟩ := E4
  have c5 : Steps p.tables e below (s₁.setTop (entryFrame m #[.ref x] 1)) (T4.setTop (mkF m 10 #[.val (.ref x)] [.int (Int32.ofNat V.slots.size >>> (cd &&& 31))])) := Steps.trans g4 (by
    refine ishr X4.here hexec rfl (hb hbytes d9) rfl ?_
    exact Steps.refl _)
  rw [hx.2.2.2.2.1.len v31] at c5
  exact ⟨T4, some (.int (Int32.ofNat n)), _, _, _, X4, rfl, rfl, rfl, (fun h => by cases h), ⟨rfl, q4.trans hh2⟩, fun fs hl => c5.trans (X4.ireturnOut hexec hret rfl (Or.inl rfl) (hb hbytes d10) hl)⟩
theorem pays {l : Launch} {R : Room} {p : Program} {e : Env} {below : List Frame} {s : State} {sargs : Array Value} {len W : Nat} (x t : Addr) (V : Cell) (cd : Int32) (n : Nat) (f : Nat → Int32) (z : Int32) (htab : tab.before sargs s = true) (hfr : 2 ≤ R.frames) (hlo : W + 25 ≤ R.locals) :
    Back l R p e below s sargs yN len W (fun A₁ a₁ => A₁.cells + 0 ≤ R.cells ∧ A₁.slots + 0 ≤ R.slots ∧ P x t V cd n f z a₁ A₁.U) (fun A₁ _ v₁ B₁ => E n v₁ A₁.U B₁.U ∧ B₁.locs = A₁.locs ++ [] ∧ B₁.cells = A₁.cells + 0 ∧ B₁.slots = A₁.slots + 0) :=
  (law l x t V cd n f z).pays htab hfr (by omega)
end Len
namespace IsL
def yN : MethodName := ⟨"java/lang/String", "isLatin1", "()Z"⟩
abbrev yB : ByteArray := jdk_42_method_154_code
theorem d0 : decode yB 0 = .ok (.getstatic 38, 3) := by decide +kernel
theorem d3 : decode yB 3 = .ok (.ifCond (.eq) 14, 3) := by decide +kernel
theorem d6 : decode yB 6 = .ok (.aload_n 0, 1) := by decide +kernel
theorem d7 : decode yB 7 = .ok (.getfield 15, 3) := by decide +kernel
theorem d10 : decode yB 10 = .ok (.ifCond (.ne) 7, 3) := by decide +kernel
theorem d13 : decode yB 13 = .ok (.iconst 1, 1) := by decide +kernel
theorem d14 : decode yB 14 = .ok (.goto 4, 3) := by decide +kernel
theorem d17 : decode yB 17 = .ok (.iconst 0, 1) := by decide +kernel
theorem d18 : decode yB 18 = .ok (.ireturn, 1) := by decide +kernel
def site : List Cond := [.fieldLink "java/lang/String" 38 "java/lang/String" "COMPACT_STRINGS" "Z", .fieldLink "java/lang/String" 15 "java/lang/String" "coder" "B"]
def tab : Cond := tabOf yN yB 1 (some .boolean) site
def P (x : Addr) (cd z : Int32) (args : Array Value) (s : State) : Prop := args = #[.ref x] ∧ Has x "java/lang/String" "coder" "B" (.int cd) s ∧ (cd = 0 ∨ cd = 1) ∧ StaticIs s "java/lang/String" "COMPACT_STRINGS" "Z" (.int z) ∧ ¬ z = 0
def E (cd : Int32) (r : Option Value) (s u : State) : Prop := XT.PureE (some (.int (1 - cd))) r s u
theorem law (l : Launch) (x : Addr) (cd z : Int32) : Law l yN 1 0 0 0 yB 1 (some .boolean) site (P x cd z) (E cd) [] 0 0 := by
  refine Law.of_walk (plainFor_of_name (by decide +kernel)) (by decide +kernel) (by decide +kernel) (by decide) (fun _ _ h => by rw [h.1]; rfl) (fun _ U U' hal hh h => ⟨h.1, h.2.1.mv hal hh, h.2.2.1, h.2.2.2.1.there hal hh, h.2.2.2.2⟩) (fun r U U' V V' h1 hal h2 h => XT.PureE.mv r U U' V V' h1 hal h2 h) ?_
  intro p e s m args below meth c s₁ X0 hexec hbytes hml hret hlk hnm hown hh0 W hP
  obtain ⟨rfl, hx, hc, s1, hz⟩ := hP
  have c1 : Steps p.tables e below (s₁.setTop (entryFrame m #[.ref x] 1)) (s₁.setTop (mkF m 0 #[.val (.ref x)] [])) := entry rfl
  obtain ⟨T2, X2, q2, st2⟩ := X0.sget hexec hown (wk W (.fieldLink "java/lang/String" 38 "java/lang/String" "COMPACT_STRINGS" "Z")) s1 (fun _ _ h => by rw [hh0]; exact h) (g := (mkF m 0 #[.val (.ref x)] [])) rfl (hb hbytes d0)
  have hh2 := q2.trans hh0
  have c3 : Steps p.tables e below (s₁.setTop (entryFrame m #[.ref x] 1)) (T2.setTop (mkF m 7 #[.val (.ref x)] [.ref x])) := (c1.trans (st2 _ (Steps.refl _))).trans (by
    refine XS.ifNo X2.here hexec rfl (hb hbytes d3) rfl (i0_eq_f hz) ?_
    refine XS.aloadN X2.here hexec rfl (hb hbytes d6) rfl rfl ?_
    exact Steps.refl _)
  obtain ⟨T4, X4, q4, st4⟩ := X2.hget hexec hown (wk W (.fieldLink "java/lang/String" 15 "java/lang/String" "coder" "B")) (hx.mv X2.warmed.alike hh2) (g := (mkF m 7 #[.val (.ref x)] [.ref x])) rfl (rest := []) rfl (hb hbytes d7)
  have c5 : Steps p.tables e below (s₁.setTop (entryFrame m #[.ref x] 1)) (T4.setTop (mkF m 10 #[.val (.ref x)] [.int cd])) := c3.trans (st4 _ (Steps.refl _))
  have c6 : Steps p.tables e below (s₁.setTop (entryFrame m #[.ref x] 1)) (T4.setTop (mkF m 18 #[.val (.ref x)] [.int (1 - cd)])) := by
    rcases hc with rfl | rfl
    · exact c5.trans (by
        refine XS.ifNo X4.here hexec rfl (hb hbytes d10) rfl (i0_ne_f rfl) ?_
        refine iconstV X4.here hexec rfl 1 (hb hbytes d13) (by decide) ?_
        refine XS.goto X4.here hexec rfl (pc0 := 14) rfl (hb hbytes d14) (by decide) rfl ?_
        exact Steps.refl _)
    · exact c5.trans (by
        refine XS.ifYes X4.here hexec rfl (pc0 := 10) rfl (hb hbytes d10) rfl (i0_ne_t (by decide)) (by decide) rfl ?_
        refine iconstV X4.here hexec rfl 0 (hb hbytes d17) (by decide) ?_
        exact Steps.refl _)
  exact ⟨T4, some (.int (1 - cd)), _, _, _, X4, rfl, rfl, rfl, (fun h => by cases h), ⟨rfl, q4.trans hh2⟩, fun fs hl => c6.trans (X4.ireturnOut hexec hret (by rcases hc with rfl | rfl <;> rfl) (Or.inr (Or.inl rfl)) (hb hbytes d18) hl)⟩
end IsL
namespace LChA
def yN : MethodName := ⟨"java/lang/StringLatin1", "charAt", "([BI)C"⟩
abbrev yB : ByteArray := jdk_43_method_2_code
theorem d0 : decode yB 0 = .ok (.iload_n 1, 1) := by decide +kernel
theorem d1 : decode yB 1 = .ok (.aload_n 0, 1) := by decide +kernel
theorem d2 : decode yB 2 = .ok (.arraylength, 1) := by decide +kernel
theorem d3 : decode yB 3 = .ok (.invokestatic 9, 3) := by decide +kernel
theorem d6 : decode yB 6 = .ok (.aload_n 0, 1) := by decide +kernel
theorem d7 : decode yB 7 = .ok (.iload_n 1, 1) := by decide +kernel
theorem d8 : decode yB 8 = .ok (.baload, 1) := by decide +kernel
theorem d9 : decode yB 9 = .ok (.sipush 255, 3) := by decide +kernel
theorem d12 : decode yB 12 = .ok (.iand, 1) := by decide +kernel
theorem d13 : decode yB 13 = .ok (.i2c, 1) := by decide +kernel
theorem d14 : decode yB 14 = .ok (.ireturn, 1) := by decide +kernel
def site : List Cond := [JO.Str_checkIndex.tab] ++ staticW "java/lang/StringLatin1" 9 JO.Str_checkIndex.yN
def tab : Cond := tabOf yN yB 2 (some .char) site
def P (t : Addr) (V : Cell) (i : Nat) (u : Int32) (fm : Value) (args : Array Value) (s : State) : Prop := args = #[.ref t, .int (Int32.ofNat i)] ∧ XT.Arr .byte t V s ∧ V.slots[i]? = some (.int u) ∧ (StaticIs s "jdk/internal/util/Preconditions" "SIOOBE_FORMATTER" "Ljava/util/function/BiFunction;" fm ∧ fm.isRef = true)
def E (u : Int32) (r : Option Value) (s w : State) : Prop := XT.PureE (some (.int (chr8 u))) r s w
theorem law (l : Launch) (t : Addr) (V : Cell) (i : Nat) (u : Int32) (fm : Value) : Law l yN 2 2 2 27 yB 2 (some .char) site (P t V i u fm) (E u) [] 0 0 := by
  refine Law.of_walk (plainFor_of_name (by decide +kernel)) (by decide +kernel) (by decide +kernel) (by decide) (fun _ _ h => by rw [h.1]; rfl) (fun _ U U' hal hh h => ⟨h.1, h.2.1.mv hal hh, h.2.2.1, h.2.2.2.1.there hal hh, h.2.2.2.2⟩) (fun r U U' V V' h1 hal h2 h => XT.PureE.mv r U U' V V' h1 hal h2 h) ?_
  intro p e s m args below meth c s₁ X0 hexec hbytes hml hret hlk hnm hown hh0 W hP
  obtain ⟨rfl, hV, hu, s1, rf⟩ := hP
  have v31 := hV.2.2.2
  have hi : i < V.slots.size := (Array.getElem?_eq_some_iff.mp hu).1
  have c1 : Steps p.tables e below (s₁.setTop (entryFrame m #[.ref t, .int (Int32.ofNat i)] 2)) (s₁.setTop (mkF m 0 #[.val (.ref t), .val (.int (Int32.ofNat i))] [])) := entry rfl
  have c2 : Steps p.tables e below (s₁.setTop (entryFrame m #[.ref t, .int (Int32.ofNat i)] 2)) (s₁.setTop (mkF m 3 #[.val (.ref t), .val (.int (Int32.ofNat i))] [.int (Int32.ofNat V.slots.size), .int (Int32.ofNat i)])) := c1.trans (by
    refine XS.iloadN X0.here hexec rfl (hb hbytes d0) rfl ?_
    refine XS.aloadN X0.here hexec rfl (hb hbytes d1) rfl rfl ?_
    refine X0.alen hexec (hV.mv X0.warmed.alike hh0) rfl rfl (hb hbytes d2) ?_
    exact Steps.refl _)
  obtain ⟨v3, T3, X3, E3, g3⟩ := X0.callS hexec (JO.Str_checkIndex.law l (Int32.ofNat i) (Int32.ofNat V.slots.size) fm) hown (wks W (staticW "java/lang/StringLatin1" 9 JO.Str_checkIndex.yN)) (wk W JO.Str_checkIndex.tab) (W := 0) (Nat.le_of_ble_eq_true rfl) (Nat.le_of_ble_eq_true rfl) (Nat.le_refl _) (Nat.le_refl _) (g := (mkF m 3 #[.val (.ref t), .val (.int (Int32.ofNat i))] [.int (Int32.ofNat V.slots.size), .int (Int32.ofNat i)])) rfl (by rw [hml]; rfl) c2 (argsL := [.int (Int32.ofNat i), .int (Int32.ofNat V.slots.size)]) (rest := []) rfl rfl (by show 2 * 0 + 0 ≤ _; decide) (hb hbytes d3) (⟨rfl, rf, s1.there X0.warmed.alike hh0, Int32.ofNat_not_neg (by omega), lt32 v31 hi⟩)
  obtain ⟨rfl, q3⟩ := E3
  have hh3 := q3.trans hh0
  have c4 : Steps p.tables e below (s₁.setTop (entryFrame m #[.ref t, .int (Int32.ofNat i)] 2)) (T3.setTop (mkF m 14 #[.val (.ref t), .val (.int (Int32.ofNat i))] [.int (chr8 u)])) := Steps.trans g3 (by
    refine XS.aloadN X3.here hexec rfl (hb hbytes d6) rfl rfl ?_
    refine XS.iloadN X3.here hexec rfl (hb hbytes d7) rfl ?_
    refine X3.aget hexec (hV.mv X3.warmed.alike hh3) rfl hu rfl rfl (hb hbytes d8) ?_
    refine sipushV X3.here hexec rfl 255 (hb hbytes d9) (by decide) ?_
    refine XS.iand X3.here hexec rfl (hb hbytes d12) rfl ?_
    refine i2c X3.here hexec rfl (hb hbytes d13) rfl ?_
    exact Steps.refl _)
  exact ⟨T3, some (.int (chr8 u)), _, _, _, X3, rfl, rfl, rfl, (fun h => by cases h), ⟨rfl, hh3⟩, fun fs hl => c4.trans (X3.ireturnOut hexec hret (narrow_c _) (Or.inr (Or.inr (Or.inr (Or.inl rfl)))) (hb hbytes d14) hl)⟩
end LChA
end StrChars
namespace StrChars.Road
open Jvm Sem ClassFile Op Lib Jvm.Stand Jvm.Free Jvm.Free.XT
open Jvm.Lib.Cold (StaticIs)
theorem consq {a : Array Value} {s : State} {c : Jvm.Cond} {L : List Jvm.Cond} (h0 : c.before a s = true) (h : ∀ w ∈ L, w.before a s = true) : ∀ w ∈ c :: L, w.before a s = true := fun w hw => (List.mem_cons.mp hw).elim (fun e => e ▸ h0) (h w)
/-- the words of String.length(), either coding -/
abbrev wordsLen : List Jvm.Cond := [.code Len.yN Len.yB 1 (some .int), .initialized ST, .fieldLink ST 9 ST "value" "[B", .fieldLink ST 38 ST "COMPACT_STRINGS" "Z", .fieldLink ST 15 ST "coder" "B", .code Cdr.yN Cdr.yB 1 (some .byte), .methodLink ST 335 Cdr.yN, .declares Cdr.yN, .selects ST Cdr.yN Cdr.yN, .instanceMethod Cdr.yN]
theorem tabLen_of {a : Array Value} {s : State} (h : ∀ w ∈ wordsLen, w.before a s = true) : Len.tab.before a s = true := by
  have hc : Cdr.tab.before a s = true := unparts (wk h (.code Cdr.yN Cdr.yB 1 (some .byte))) (wks h (.initialized Cdr.yN.cls :: Cdr.site))
  have q := consq hc h
  exact unparts (wk q (.code Len.yN Len.yB 1 (some .int))) (wks q (.initialized Len.yN.cls :: Len.site))
theorem movedLen {Z s : State} {a0 args : Array Value} (hZ : Z.Warmed39 s.vm) (hw : ∀ d ∈ wordsLen, d.before a0 Z = true) : ∀ d ∈ wordsLen, d.before args s = true := fun d hd => by
  have q := hw d hd
  have t : ∀ d ∈ wordsLen, d = .arrayClass .byte ∨ (d.onTables && d.keepsFace) = true := by decide +kernel
  rcases t d hd with rfl | t
  · exact RoadKit.mvA hZ q
  · exact RoadKit.mv hZ q t
/-- the bytes of the chars cs, low before high -/
def wideBytes : List Int32 → List Value
  | [] => []
  | c :: cs => .int (lo8 c) :: .int (hi8 c) :: wideBytes cs
theorem wide_lo (d : Value) : ∀ (cs : List Int32) (j : Nat), j < cs.length → (wideBytes cs).getD (2 * j) d = .int (lo8 (cs.getD j 0))
  | [], j, h => absurd h (Nat.not_lt_zero j)
  | c :: cs, 0, _ => rfl
  | c :: cs, j + 1, h => by
    have q := wide_lo d cs j (by simpa using h)
    rw [show 2 * (j + 1) = 2 * j + 1 + 1 from by omega]
    simpa [wideBytes] using q
theorem wide_hi (d : Value) : ∀ (cs : List Int32) (j : Nat), j < cs.length → (wideBytes cs).getD (2 * j + 1) d = .int (hi8 (cs.getD j 0))
  | [], j, h => absurd h (Nat.not_lt_zero j)
  | c :: cs, 0, _ => rfl
  | c :: cs, j + 1, h => by
    have q := wide_hi d cs j (by simpa using h)
    rw [show 2 * (j + 1) + 1 = 2 * j + 1 + 1 + 1 from by omega]
    simpa [wideBytes] using q
theorem low_at (d : Value) (cs : List Int32) (j : Nat) (h : j < cs.length) : (cs.map fun c => Value.int (lo8 c)).getD j d = .int (lo8 (cs.getD j 0)) := by
  simp [List.getD_eq_getElem?_getD, h]
/-- an array of N2 bytes vs codes the chars cs by the coder cd -/
def CodA (cs : List Int32) (cd N2 : Int32) (vs : List Value) : Prop := (cd = 0 ∧ N2 = Int32.ofNat cs.length ∧ vs = (cs.map fun c => Value.int (lo8 c)) ∧ ∀ c ∈ cs, ¬ 255 < c) ∨ (cd = 1 ∧ N2 = Int32.ofNat (2 * cs.length) ∧ vs = wideBytes cs ∧ ∃ c ∈ cs, 255 < c)
theorem CodA.cod {cs : List Int32} {cd N2 : Int32} {vs : List Value} {V : Cell} (h : CodA cs cd N2 vs) (hn : 2 * cs.length < 2 ^ 31) (hs : V.slots.size = N2.toNatClampNeg) (hv : RoadKit.Has V vs (.int 0)) : Cod cd cs.length (fun j => cs.getD j 0) V := by
  rcases h with ⟨rfl, rfl, rfl, h⟩ | ⟨rfl, rfl, rfl, c, hc, hw⟩
  · rw [n32 (by omega)] at hs
    exact Or.inl ⟨rfl, hs, fun j hj => ⟨by rw [hv j (by omega), low_at _ _ _ hj], by
      have e : cs.getD j 0 = cs[j] := by simp [List.getD_eq_getElem?_getD, hj]
      show ¬ 255 < cs.getD j 0
      rw [e]; exact h _ (List.getElem_mem _)⟩⟩
  · rw [n32 (by omega)] at hs
    obtain ⟨j, hj, rfl⟩ := List.getElem_of_mem hc
    exact Or.inr ⟨rfl, hs, fun j hj => ⟨by rw [hv _ (by omega), wide_lo _ _ _ hj], by rw [hv _ (by omega), wide_hi _ _ _ hj]⟩, j, hj, by
      have e : cs.getD j 0 = cs[j] := by simp [List.getD_eq_getElem?_getD, hj]
      show 255 < cs.getD j 0
      rw [e]; exact hw⟩
/-- an object of exactly java/lang/String, its two fields found: as the laws ask it -/
theorem strObj {Z U : State} {a0 : Array Value} {kI : Nat} (wi : (Jvm.Cond.instantiable ST kI).before a0 Z = true) (al : Z.vm.Alike U.vm) {x : Addr} {v0 c0 : Value} (E : RoadKit.Exa Z U.heap x ST) (V : RoadKit.Fld Z U.heap x ST "value" "[B" v0) (C : RoadKit.Fld Z U.heap x ST "coder" "B" c0) :
    ∃ (D : Cell) (fV fC : Field), Blank ST x D U ∧ Found ST "value" "[B" fV U ∧ Found ST "coder" "B" fC U ∧ D.slots[fV.slot]? = some v0 ∧ D.slots[fC.slot]? = some c0 ∧ RoadKit.slotOf Z ST "value" "[B" = fV.slot ∧ RoadKit.slotOf Z ST "coder" "B" = fC.slot := by
  obtain ⟨D, cfV, kV, iV, fV, hD, gV, stV, knV, obV, asV, slV⟩ := V
  obtain ⟨D', cfC, kC, iC, fC, hD', gC, stC, -, -, asC, slC⟩ := C
  cases hD.symm.trans hD'
  obtain ⟨D2, kD, e1, e2, e3, e4, e5⟩ := E
  cases hD.symm.trans e1
  obtain ⟨c2, k2, i1, i2, i3, -⟩ := Cond.instantiable_spec wi
  cases e2.symm.trans i1
  cases e3.symm.trans i2
  obtain ⟨kU, u1, u2⟩ := al.2.2 _ _ e3
  exact ⟨D, fV, fC, ⟨hD, ⟨knV, fun q hq => by rw [hq] at obV; cases obV⟩, by rw [al.findClass]; exact e2, kU, u1, by rw [u2]; exact i3, by rw [u2]; exact e5 i3⟩, ⟨SBG.found_only al ⟨cfV, kV, iV, gV⟩, stV⟩, ⟨SBG.found_only al ⟨cfC, kC, iC, gC⟩, stC⟩, slV, slC, by simp [RoadKit.slotOf, gV], by simp [RoadKit.slotOf, gC]⟩
theorem sta_is {Z U : State} (al : Z.vm.Alike U.vm) {C n d : String} {v : Value} (S : RoadKit.Sta Z U.heap C n d v) : StaticIs U C n d v := by
  obtain ⟨cfS, iS, kS, fS, st, cS, t1, t2, t3, t4, t5, t6, t7⟩ := S
  exact StaticIs.there (s := { Z with heap := U.heap }) ⟨cfS, iS, kS, fS, st, cS, t1, t2, t3, t4, t5, (fun q => by rw [q] at t6; cases t6), t7⟩ al rfl
/-- **length() OF SUCH A STRING** -/
theorem lenW {p : Program} {l : Launch} {e : Env} {R : Room} {s : State} {args : Array Value} {below : List Frame} {len W : Nat} {Z : State} {a0 : Array Value} {h : Heap} (hZ : Z.Warmed39 s.vm) (hw : ∀ d ∈ wordsLen, d.before a0 Z = true) {kI : Nat} (wi : (Jvm.Cond.instantiable ST kI).before a0 Z = true)
    {x t : Addr} {kb : ClassId} {cs : List Int32} {cd N2 z : Int32} {vs : List Value} (E : RoadKit.Exa Z h x ST) (V : RoadKit.Fld Z h x ST "value" "[B" (.ref t)) (C : RoadKit.Fld Z h x ST "coder" "B" (.int cd)) (K : RoadKit.Arv Z h t kb .byte N2 vs (.int 0)) (hc : CodA cs cd N2 vs) (hb : ∀ c ∈ cs, ¬ c < 0 ∧ ¬ (65535 : Int32) < c)
    (S : RoadKit.Sta Z h ST "COMPACT_STRINGS" "Z" (.int z)) (hz : ¬ z = 0) (l2 : cs.length ≤ 4000) (hfr : 2 ≤ R.frames) (hlo : W + 25 ≤ R.locals) :
    Back l R p e below s args (⟨"java/lang/String", "length", "()I"⟩ : MethodName) len W (fun P a => a = #[.ref x] ∧ P.U.heap = h ∧ P.cells + 0 ≤ R.cells ∧ P.slots + 0 ≤ R.slots)
      (fun P _ v B => ∃ L, (v = some (.int (Int32.ofNat cs.length)) ∧ L = [] ∧ B.U.heap = h) ∧ B.locs = P.locs ++ L ∧ B.cells = P.cells + 0 ∧ B.slots = P.slots + 0) := by
  obtain ⟨A, K1, K2, K3, K4, K5, K6⟩ := K
  have hcod := hc.cod (by omega) K3 K5
  intro m meth c P g ig mk a X hg hsize hdg hW hn hp'
  obtain ⟨rfl, rfl, r1, r2⟩ := hp'
  have al : Z.vm.Alike P.U.vm := hZ.alike.trans X.warmed.alike
  obtain ⟨D, fV, fC, hB, F1, F2, g1, g2, -, -⟩ := strObj wi al E V C
  have hx : Txt x t A cd cs.length (fun j => cs.getD j 0) P.U := ⟨⟨_, hB.2.2.1, D, hB.1, rfl, by cases q : D.vm <;> first | rfl | exact absurd q (hB.2.1.2 _)⟩, Has.of hB F1 g1, Has.of hB F2 g2, ⟨K1.1, State.isArrayOf_alike al K1.2.1, K1.2.2, by rcases hcod with ⟨-, q, -⟩ | ⟨-, q, -⟩ <;> omega⟩, hcod, fun j hj => by
    have e : cs.getD j 0 = cs[j] := by simp [List.getD_eq_getElem?_getD, hj]
    show ¬ cs.getD j 0 < 0 ∧ ¬ 65535 < cs.getD j 0
    rw [e]; exact hb _ (List.getElem_mem _)⟩
  obtain ⟨v, B, X', ⟨⟨hv, hh⟩, hl, hk, hs⟩, st⟩ := Len.pays x t A cd cs.length (fun j => cs.getD j 0) z (tabLen_of (movedLen hZ hw)) hfr hlo m meth c P g ig mk _ X hg hsize hdg hW hn ⟨r1, r2, rfl, hx, sta_is al S, hz⟩
  exact ⟨v, B, X', ⟨[], ⟨hv, rfl, hh⟩, hl, hk, hs⟩, st⟩
end StrChars.Road
namespace StrChars.Road
open Jvm Sem ClassFile Op Lib Jvm.Stand Jvm.Free Jvm.Free.XT
open Jvm.Lib.Cold (StaticIs)
/-- the road's facts of a String, as the laws ask it -/
theorem txt_of {Z U : State} {a0 : Array Value} {kI : Nat} (wi : (Jvm.Cond.instantiable ST kI).before a0 Z = true) (al : Z.vm.Alike U.vm) {x t : Addr} {kb : ClassId} {cs : List Int32} {cd N2 : Int32} {vs : List Value} (E : RoadKit.Exa Z U.heap x ST) (V : RoadKit.Fld Z U.heap x ST "value" "[B" (.ref t)) (C : RoadKit.Fld Z U.heap x ST "coder" "B" (.int cd)) (K : RoadKit.Arv Z U.heap t kb .byte N2 vs (.int 0)) (hc : CodA cs cd N2 vs) (hb : ∀ c ∈ cs, ¬ c < 0 ∧ ¬ (65535 : Int32) < c) (l2 : cs.length ≤ 4000) :
    ∃ A, Txt x t A cd cs.length (fun j => cs.getD j 0) U := by
  obtain ⟨A, K1, K2, K3, K4, K5, K6⟩ := K
  have hcod := hc.cod (by omega) K3 K5
  obtain ⟨D, fV, fC, hB, F1, F2, g1, g2, -, -⟩ := strObj wi al E V C
  exact ⟨A, ⟨_, hB.2.2.1, D, hB.1, rfl, by cases q : D.vm <;> first | rfl | exact absurd q (hB.2.1.2 _)⟩, Has.of hB F1 g1, Has.of hB F2 g2, ⟨K1.1, State.isArrayOf_alike al K1.2.1, K1.2.2, by rcases hcod with ⟨-, q, -⟩ | ⟨-, q, -⟩ <;> omega⟩, hcod, fun j hj => by
    have e : cs.getD j 0 = cs[j] := by simp [List.getD_eq_getElem?_getD, hj]
    show ¬ cs.getD j 0 < 0 ∧ ¬ 65535 < cs.getD j 0
    rw [e]; exact hb _ (List.getElem_mem _)⟩
end StrChars.Road
namespace StrChars
open Jvm Sem ClassFile Op Lib Jvm.Stand Jvm.Free.XT Jvm.Free.ALB Jvm.Free.JM Jvm.Free
open Jvm.Lib.Cold (StaticIs)
namespace ChN
def yN : MethodName := ⟨"java/lang/String", "charAt", "(I)C"⟩
abbrev yB : ByteArray := jdk_42_method_56_code
theorem d0 : decode yB 0 = .ok (.aload_n 0, 1) := by decide +kernel
theorem d1 : decode yB 1 = .ok (.invokevirtual 492, 3) := by decide +kernel
theorem d4 : decode yB 4 = .ok (.ifCond (.eq) 12, 3) := by decide +kernel
theorem d7 : decode yB 7 = .ok (.aload_n 0, 1) := by decide +kernel
theorem d8 : decode yB 8 = .ok (.getfield 9, 3) := by decide +kernel
theorem d11 : decode yB 11 = .ok (.iload_n 1, 1) := by decide +kernel
theorem d12 : decode yB 12 = .ok (.invokestatic 495, 3) := by decide +kernel
theorem d15 : decode yB 15 = .ok (.ireturn, 1) := by decide +kernel
def site : List Cond := [.fieldLink "java/lang/String" 9 "java/lang/String" "value" "[B", IsL.tab, LChA.tab] ++ virtW "java/lang/String" 492 "java/lang/String" IsL.yN IsL.yN ++ staticW "java/lang/String" 495 LChA.yN
def tab : Cond := tabOf yN yB 2 (some .char) site
def P (x t : Addr) (V : Cell) (n : Nat) (f : Nat → Int32) (z : Int32) (fm : Value) (i : Nat) (args : Array Value) (s : State) : Prop := args = #[.ref x, .int (Int32.ofNat i)] ∧ Txt x t V 0 n f s ∧ i < n ∧ StaticIs s "java/lang/String" "COMPACT_STRINGS" "Z" (.int z) ∧ ¬ z = 0 ∧ StaticIs s "jdk/internal/util/Preconditions" "SIOOBE_FORMATTER" "Ljava/util/function/BiFunction;" fm ∧ fm.isRef = true
def E (f : Nat → Int32) (i : Nat) (r : Option Value) (s u : State) : Prop := XT.PureE (some (.int (f i))) r s u
/-- charAt(i) of a Latin-1 String of n chars, i < n: f i -/
theorem law (l : Launch) (x t : Addr) (V : Cell) (n : Nat) (f : Nat → Int32) (z : Int32) (fm : Value) (i : Nat) : Law l yN 2 1 3 40 yB 2 (some .char) site (P x t V n f z fm i) (E f i) [] 0 0 := by
  refine Law.of_walk (plainFor_of_name (by decide +kernel)) (by decide +kernel) (by decide +kernel) (by decide) (fun _ _ h => by rw [h.1]; rfl) (fun _ U U' hal hh h => ⟨h.1, h.2.1.mv hal hh, h.2.2.1, h.2.2.2.1.there hal hh, h.2.2.2.2.1, h.2.2.2.2.2.1.there hal hh, h.2.2.2.2.2.2⟩) (fun r U U' V V' h1 hal h2 h => XT.PureE.mv r U U' V V' h1 hal h2 h) ?_
  intro p e s m args below meth c s₁ X0 hexec hbytes hml hret hlk hnm hown hh0 W hP
  obtain ⟨rfl, hx, hi, s1, hz, s3, rf⟩ := hP
  have v31 := hx.2.2.2.1.2.2.2
  have hr := hx.2.2.2.2.2 i hi
  have hx0 := hx.mv X0.warmed.alike hh0
  have c1 : Steps p.tables e below (s₁.setTop (entryFrame m #[.ref x, .int (Int32.ofNat i)] 2)) (s₁.setTop (mkF m 1 #[.val (.ref x), .val (.int (Int32.ofNat i))] [.ref x])) := Steps.trans (entry rfl) (by
    show Steps p.tables e below (s₁.setTop (mkF m 0 #[.val (.ref x), .val (.int (Int32.ofNat i))] [])) _
    refine XS.aloadN X0.here hexec rfl (hb hbytes d0) rfl rfl ?_
    exact Steps.refl _)
  obtain ⟨v2, T2, X2, E2, g2⟩ := X0.callV hexec (IsL.law l x 0 z) hown (wks W (virtW "java/lang/String" 492 "java/lang/String" IsL.yN IsL.yN)) rfl (by decide) (wk W IsL.tab) (W := 0) (Nat.le_of_ble_eq_true rfl) (Nat.le_of_ble_eq_true rfl) (Nat.le_refl _) (Nat.le_refl _) (hx0.1.fc X0.warmed.alike) hx0.1.is (g := (mkF m 1 #[.val (.ref x), .val (.int (Int32.ofNat i))] [.ref x])) rfl (by rw [hml]; rfl) c1 (argsL := []) (rest := []) rfl rfl (by show 2 * 0 + 0 ≤ _; decide) (hb hbytes d1) (⟨rfl, hx0.2.2.1, hx.2.2.2.2.1.cd, s1.there X0.warmed.alike hh0, hz⟩)
  obtain ⟨rfl, q2⟩ := E2
  have hh2 := q2.trans hh0
  have hx2 := hx.mv X2.warmed.alike hh2
  obtain ⟨-, k1, k2⟩ | ⟨k0, -⟩ := hx.2.2.2.2.1
  · have c3 : Steps p.tables e below (s₁.setTop (entryFrame m #[.ref x, .int (Int32.ofNat i)] 2)) (T2.setTop (mkF m 8 #[.val (.ref x), .val (.int (Int32.ofNat i))] [.ref x])) := Steps.trans g2 (by
      refine XS.ifNo X2.here hexec rfl (hb hbytes d4) rfl (i0_eq_f (by decide)) ?_
      refine XS.aloadN X2.here hexec rfl (hb hbytes d7) rfl rfl ?_
      exact Steps.refl _)
    obtain ⟨T4, X4, q4, st4⟩ := X2.hget hexec hown (wk W (.fieldLink "java/lang/String" 9 "java/lang/String" "value" "[B")) hx2.2.1 (g := (mkF m 8 #[.val (.ref x), .val (.int (Int32.ofNat i))] [.ref x])) rfl (rest := []) rfl (hb hbytes d8)
    have hh4 := q4.trans hh2
    have c5 : Steps p.tables e below (s₁.setTop (entryFrame m #[.ref x, .int (Int32.ofNat i)] 2)) (T4.setTop (mkF m 12 #[.val (.ref x), .val (.int (Int32.ofNat i))] [.int (Int32.ofNat i), .ref t])) := (c3.trans (st4 _ (Steps.refl _))).trans (by
      refine XS.iloadN X4.here hexec rfl (hb hbytes d11) rfl ?_
      exact Steps.refl _)
    obtain ⟨v6, T6, X6, E6, g6⟩ := X4.callS hexec (LChA.law l t V i (lo8 (f i)) fm) hown (wks W (staticW "java/lang/String" 495 LChA.yN)) (wk W LChA.tab) (W := 0) (Nat.le_of_ble_eq_true rfl) (Nat.le_of_ble_eq_true rfl) (Nat.le_refl _) (Nat.le_refl _) (g := (mkF m 12 #[.val (.ref x), .val (.int (Int32.ofNat i))] [.int (Int32.ofNat i), .ref t])) rfl (by rw [hml]; rfl) c5 (argsL := [.ref t, .int (Int32.ofNat i)]) (rest := []) rfl rfl (by show 2 * 0 + 0 ≤ _; decide) (hb hbytes d12) (⟨rfl, hx.2.2.2.1.mv X4.warmed.alike hh4, (k2 i hi).1, s3.there X4.warmed.alike hh4, rf⟩)
    obtain ⟨rfl, q6⟩ := E6
    rw [chr8_lo8 hr.1 (k2 i hi).2] at g6
    exact ⟨T6, some (.int (f i)), _, _, _, X6, rfl, rfl, rfl, (fun h => by cases h), ⟨rfl, q6.trans hh4⟩, fun fs hl => Steps.trans g6 (X6.ireturnOut hexec hret (narrow_ch hr.1 hr.2) (Or.inr (Or.inr (Or.inr (Or.inl rfl)))) (hb hbytes d15) hl)⟩
  · exact absurd k0 (by decide)
theorem pays {l : Launch} {R : Room} {p : Program} {e : Env} {below : List Frame} {s : State} {sargs : Array Value} {len W : Nat} (x t : Addr) (V : Cell) (n : Nat) (f : Nat → Int32) (z : Int32) (fm : Value) (i : Nat) (htab : tab.before sargs s = true) (hfr : 4 ≤ R.frames) (hlo : W + 53 ≤ R.locals) :
    Back l R p e below s sargs yN len W (fun A₁ a₁ => A₁.cells + 0 ≤ R.cells ∧ A₁.slots + 0 ≤ R.slots ∧ P x t V n f z fm i a₁ A₁.U) (fun A₁ _ v₁ B₁ => E f i v₁ A₁.U B₁.U ∧ B₁.locs = A₁.locs ++ [] ∧ B₁.cells = A₁.cells + 0 ∧ B₁.slots = A₁.slots + 0) :=
  (law l x t V n f z fm i).pays htab hfr (by omega)
end ChN
end StrChars
namespace StrChars.Road
open Jvm Sem ClassFile Op Lib Jvm.Stand Jvm.Free Jvm.Free.XT
open Jvm.Lib.Cold (StaticIs)
/-- the words of String.charAt(int), the Latin-1 road alone -/
abbrev wordsChN : List Jvm.Cond := [.code ChN.yN ChN.yB 2 (some .char), .initialized ST, .fieldLink ST 9 ST "value" "[B", .fieldLink ST 38 ST "COMPACT_STRINGS" "Z", .fieldLink ST 15 ST "coder" "B", .code IsL.yN IsL.yB 1 (some .boolean), .methodLink ST 492 IsL.yN, .declares IsL.yN, .selects ST IsL.yN IsL.yN, .instanceMethod IsL.yN,
  .methodLink ST 495 LChA.yN, .static LChA.yN, .code LChA.yN LChA.yB 2 (some .char), .initialized "java/lang/StringLatin1", .methodLink "java/lang/StringLatin1" 9 JO.Str_checkIndex.yN, .static JO.Str_checkIndex.yN, .code JO.Str_checkIndex.yN JO.Str_checkIndex.yB 2 none,
  .fieldLink ST 1053 "jdk/internal/util/Preconditions" "SIOOBE_FORMATTER" "Ljava/util/function/BiFunction;", .methodLink ST 1059 JC.PreCheck.yN, .static JC.PreCheck.yN, .code JC.PreCheck.yN JC.PreCheck.yB 3 (some .int), .initialized "jdk/internal/util/Preconditions"]
theorem tabChN_of {a : Array Value} {s : State} (h : ∀ w ∈ wordsChN, w.before a s = true) : ChN.tab.before a s = true := by
  have hp : JC.PreCheck.tab.before a s = true := unparts (wk h (.code JC.PreCheck.yN JC.PreCheck.yB 3 (some .int))) (wks h (.initialized JC.PreCheck.yN.cls :: JC.PreCheck.site))
  have qk := consq hp h
  have hk : JO.Str_checkIndex.tab.before a s = true := unparts (wk qk (.code JO.Str_checkIndex.yN JO.Str_checkIndex.yB 2 none)) (wks qk (.initialized JO.Str_checkIndex.yN.cls :: JO.Str_checkIndex.site))
  have ql := consq hk h
  have hl : LChA.tab.before a s = true := unparts (wk ql (.code LChA.yN LChA.yB 2 (some .char))) (wks ql (.initialized LChA.yN.cls :: LChA.site))
  have hi : IsL.tab.before a s = true := unparts (wk h (.code IsL.yN IsL.yB 1 (some .boolean))) (wks h (.initialized IsL.yN.cls :: IsL.site))
  have q := consq hi (consq hl h)
  exact unparts (wk q (.code ChN.yN ChN.yB 2 (some .char))) (wks q (.initialized ChN.yN.cls :: ChN.site))
theorem movedChN {Z s : State} {a0 args : Array Value} (hZ : Z.Warmed39 s.vm) (hw : ∀ d ∈ wordsChN, d.before a0 Z = true) : ∀ d ∈ wordsChN, d.before args s = true := fun d hd => by
  have t : ∀ d ∈ wordsChN, (d.onTables && d.keepsFace) = true := by decide +kernel
  exact RoadKit.mv hZ (hw d hd) (t d hd)
/-- **charAt(i) OF A LATIN-1 STRING**, i < n: the char -/
theorem chN {p : Program} {l : Launch} {e : Env} {R : Room} {s : State} {args : Array Value} {below : List Frame} {len W : Nat} {Z : State} {a0 : Array Value} {h : Heap} (hZ : Z.Warmed39 s.vm) (hw : ∀ d ∈ wordsChN, d.before a0 Z = true) {kI : Nat} (wi : (Jvm.Cond.instantiable ST kI).before a0 Z = true)
    {x t : Addr} {kb : ClassId} {cs : List Int32} {N2 z : Int32} {vs : List Value} {fm : Value} {i : Nat} {j : Int32} (E : RoadKit.Exa Z h x ST) (V : RoadKit.Fld Z h x ST "value" "[B" (.ref t)) (C : RoadKit.Fld Z h x ST "coder" "B" (.int 0)) (K : RoadKit.Arv Z h t kb .byte N2 vs (.int 0)) (hc : CodA cs 0 N2 vs) (hb : ∀ c ∈ cs, ¬ c < 0 ∧ ¬ (65535 : Int32) < c)
    (S : RoadKit.Sta Z h ST "COMPACT_STRINGS" "Z" (.int z)) (hz : ¬ z = 0) (F : RoadKit.Sta Z h "jdk/internal/util/Preconditions" "SIOOBE_FORMATTER" "Ljava/util/function/BiFunction;" fm) (rf : fm.isRef = true) (l2 : cs.length ≤ 4000) (hi : i < cs.length) (hj : j = Int32.ofNat i) (hfr : 4 ≤ R.frames) (hlo : W + 53 ≤ R.locals) :
    Back l R p e below s args (⟨"java/lang/String", "charAt", "(I)C"⟩ : MethodName) len W (fun P a => a = #[.ref x, .int j] ∧ P.U.heap = h ∧ P.cells + 0 ≤ R.cells ∧ P.slots + 0 ≤ R.slots)
      (fun P _ v B => ∃ L, (v = some (.int (cs.getD i 0)) ∧ L = [] ∧ B.U.heap = h) ∧ B.locs = P.locs ++ L ∧ B.cells = P.cells + 0 ∧ B.slots = P.slots + 0) := by
  subst hj
  intro m meth c P g ig mk a X hg hsize hdg hW hn hp'
  obtain ⟨rfl, rfl, r1, r2⟩ := hp'
  have al : Z.vm.Alike P.U.vm := hZ.alike.trans X.warmed.alike
  obtain ⟨A, hx⟩ := txt_of wi al E V C K hc hb l2
  obtain ⟨v, B, X', ⟨⟨hv, hh⟩, hl, hk, hs⟩, st⟩ := ChN.pays x t A cs.length (fun j => cs.getD j 0) z fm i (tabChN_of (movedChN hZ hw)) hfr hlo m meth c P g ig mk _ X hg hsize hdg hW hn ⟨r1, r2, rfl, hx, hi, sta_is al S, hz, sta_is al F, rf⟩
  exact ⟨v, B, X', ⟨[], ⟨hv, rfl, hh⟩, hl, hk, hs⟩, st⟩
/-- what backV says of its String, as the contracts of this text ask it: cs's low bytes, coder 0 -/
theorem codOf {cs : List Int32} {n : Nat} (hn : cs.length = n) (hb : ∀ c ∈ cs, ¬ 255 < c) : CodA cs 0 (Int32.ofNat n) ((cs.map lo8).map Value.int) := Or.inl ⟨rfl, by rw [hn], by simp [List.map_map, Function.comp_def], hb⟩
end StrChars.Road
end Jvm.Pilot.@@N@@
namespace Jvm.Pilot.@@N@@
open Jvm Jvm.ClassFile Sem Op Lib Jvm.Free Jvm.Stand Jvm.LawKit Jvm.RoadKit Bundle Jvm.Pilot.@@N@@.Jvm.D
/-- every run that goes on from the frame g of T to t is one of G -/
abbrev Go (p : Program) (e : Env) (below : List Frame) (T : State) (g : JFrame) (G : State → Prop) : Prop := ∀ t, Steps p.tables e below (T.setTop g) t → G t
theorem own_i2c (y : Int32) (h0 : 0 ≤ y.toInt) (h1 : y.toInt ≤ 65535) : y.toUInt32.toUInt16.toUInt32.toInt32 = y := by
  rw [← Int32.toInt_inj]
  have h := c_i2c y
  omega
theorem own_and255 (x : Int32) : 0 ≤ (x &&& (255 : Int32)).toInt ∧ (x &&& (255 : Int32)).toInt ≤ 255 := by
  have h := c_and x (255 : Int32) (by decide)
  have e : (255 : Int32).toInt = 255 := by decide
  rw [e] at h
  exact h
theorem own_c255 (x : Int32) : nar .char ((x &&& (255 : Int32)).toUInt32.toUInt16.toUInt32.toInt32) = (x &&& (255 : Int32)) := by
  have h := own_and255 x
  have e := own_i2c (x &&& (255 : Int32)) h.1 (by omega)
  show ((x &&& (255 : Int32)).toUInt32.toUInt16.toUInt32.toInt32).toUInt32.toUInt16.toUInt32.toInt32 = _
  rw [e, e]
theorem own_p255 (x : Int32) : ¬ nar .char ((x &&& (255 : Int32)).toUInt32.toUInt16.toUInt32.toInt32) < 0 ∧ ¬ (255 : Int32) < nar .char ((x &&& (255 : Int32)).toUInt32.toUInt16.toUInt32.toInt32) := by
  have h := own_and255 x
  have e : (255 : Int32).toInt = 255 := by decide
  have e0 : (0 : Int32).toInt = 0 := by decide
  rw [own_c255, Int32.lt_iff_toInt_lt, Int32.lt_iff_toInt_lt, e, e0]
  omega
abbrev own_EL : List (String × Nat) := [("java/lang/String", 7)]
theorem own_EW {Z : State} {a0 : Array Value} (hW : ∀ (k : Nat) (d : Jvm.Cond), tables_1[k]? = some d → d.before a0 Z = true) : EW Z a0 own_EL := EW.cons (hW 22 _ rfl) (by decide) EW.nil
theorem own_safe {Z : State} {vm : Vm} {h : Heap} {x : Addr} (hal : Z.vm.Alike vm) (E : Exa Z h x "java/lang/String") (F : Fld Z h x "java/lang/String" "value" "[B" .null) : Safe Z own_EL vm h x := fun B => by
  obtain ⟨cell, cf, k, i, f, f1, f2, f3, f4, f5, f6, f7⟩ := F
  obtain ⟨cell', k', e1, e2, e3, -, -⟩ := E
  cases f1.symm.trans e1
  obtain ⟨p, -, u, a, -, q, -, S, rfl | rfl⟩ := B
  · cases (show h[q.sa]? = some q.sC from S.ha).symm.trans f1
    obtain ⟨cS, ⟨⟨-, -, -, ⟨c2, k2, i2, g1, -⟩, -, -, -, g2, -⟩, -, -⟩, -⟩ := S
    obtain ⟨k3, g3⟩ := ff_back (U := Wst Z vm h) hal g1
    cases g3.symm.trans f2
    rw [f7] at g2
    cases g2
  · cases (show h[q.sd]? = some q.SA from S.hd).symm.trans f1
    obtain ⟨cS, -, -, g, -⟩ := S
    have g' := (hal.findClass _ _).symm.trans g
    exact ids_ne g' e2 (by decide) rfl
theorem pn_0 : plainName "java/lang/String" = true := by first | (simp [plainName, overriddenIn]; done) | decide +kernel
theorem ef_jdk_42_method_149_RRIIN (m : MethodId) (x0 : Addr) (x1 : Addr) (x2 : Int32) (x3 : Int32) : entryFrame m #[(.ref x0), (.ref x1), (.int x2), (.int x3), .null] 6 = mkF m 0 #[.val (.ref x0), .val (.ref x1), .val (.int x2), .val (.int x3), .val .null, .unset] [] := by first | (simp [entryFrame, mkF, argsToLocals, Value.category]; done) | rfl
theorem d_jdk_42_method_149_0 : decode jdk_42_method_149_code 0 = .ok (.aload_n 0, 1) := by decide +kernel
theorem d_jdk_42_method_149_1 : decode jdk_42_method_149_code 1 = .ok (.invokespecial 1, 3) := by decide +kernel
theorem d_jdk_42_method_149_4 : decode jdk_42_method_149_code 4 = .ok (.iload_n 3, 1) := by decide +kernel
theorem d_jdk_42_method_149_5 : decode jdk_42_method_149_code 5 = .ok (.ifCond .ne 22, 3) := by decide +kernel
theorem d_jdk_42_method_149_8 : decode jdk_42_method_149_code 8 = .ok (.aload_n 0, 1) := by decide +kernel
theorem d_jdk_42_method_149_9 : decode jdk_42_method_149_code 9 = .ok (.ldc 7, 2) := by decide +kernel
theorem d_jdk_42_method_149_11 : decode jdk_42_method_149_code 11 = .ok (.getfield 9, 3) := by decide +kernel
theorem d_jdk_42_method_149_14 : decode jdk_42_method_149_code 14 = .ok (.putfield 9, 3) := by decide +kernel
theorem d_jdk_42_method_149_17 : decode jdk_42_method_149_code 17 = .ok (.aload_n 0, 1) := by decide +kernel
theorem d_jdk_42_method_149_18 : decode jdk_42_method_149_code 18 = .ok (.ldc 7, 2) := by decide +kernel
theorem d_jdk_42_method_149_20 : decode jdk_42_method_149_code 20 = .ok (.getfield 15, 3) := by decide +kernel
theorem d_jdk_42_method_149_23 : decode jdk_42_method_149_code 23 = .ok (.putfield 15, 3) := by decide +kernel
theorem d_jdk_42_method_149_26 : decode jdk_42_method_149_code 26 = .ok (.return_, 1) := by decide +kernel
def QN4 (Z : State) (a : Addr) (b : Addr) (h0 : Heap) (n0 : Nat) (v : Option Value) (h : Heap) (L : List Loc) : Prop := v = none ∧ Fr n0 L ∧ Keep h0 h [a] ∧ Exa Z h a "java/lang/String" ∧ Fld Z h a "java/lang/String" "coder" "B" (.int (0 : Int32)) ∧ ∃ (t : Addr) (kb : ClassId), t ≠ a ∧ Fld Z h a "java/lang/String" "value" "[B" (.ref t) ∧ Arv Z h t kb .byte (0 : Int32) [] (.int (0 : Int32))
set_option maxRecDepth 65536 in
set_option maxHeartbeats 40000000 in
theorem rmN4 (l : Launch) (Z : State) (a0 : Array Value) (hw : ∀ d ∈ tables_1, d.before a0 Z = true) (ws : List Jvm.Cond) (a : Addr) (b : Addr) (h0 : Heap) (n0 : Nat) (Z0 : n0 ≤ h0.size) (F_value_a : Fld Z h0 a "java/lang/String" "value" "[B" .null) (F_coder_a : Fld Z h0 a "java/lang/String" "coder" "B" (.int (0 : Int32))) (E_a : Exa Z h0 a "java/lang/String") (ge_a : n0 ≤ a) :
    MetFree l (⟨"java/lang/String", "<init>", "([CIILjava/lang/Void;)V"⟩ : MethodName) (head1 (Jvm.Cond.code (⟨"java/lang/String", "<init>", "([CIILjava/lang/Void;)V"⟩ : MethodName) jdk_42_method_149_code 6 none :: ws) ({ frames := 1, cells := 2, slots := 4, locals := 12 } : Room)) (fun aa UU => aa = #[(.ref a), (.ref b), (.int (0 : Int32)), (.int (0 : Int32)), .null] ∧ Z.Warmed39 UU.vm ∧ UU.heap = h0 ∧ CHv Z own_EL UU.vm h0) (fun _ _ _ _ _ => True) (fun _ UU oo UU' => ∃ vv LL, oo = .returned vv ∧ QN4 Z a b h0 n0 vv UU'.heap LL ∧ CHr Z own_EL UU.vm UU.heap UU'.vm UU'.heap ∧ ReturnedEndW UU oo UU' LL ({ frames := 1, cells := 2, slots := 4, locals := 12 } : Room).cells ({ frames := 1, cells := 2, slots := 4, locals := 12 } : Room).slots) := by
  refine MetFree.of_bodySF (plainFor_of_name pn_0) hisR ?_
  intro p e s m args below meth c s₁ Bd hml0 hP hK
  obtain ⟨rfl, hZ, hh, HC⟩ := hP
  have hx := Bd.exec
  have hby := Bd.bytes
  have hml : c.maxLocals = 6 := hml0
  have hown : s.vm.findClass "java/lang/String" = some m.cls := findClass_of_methodNamed Bd.named
  have hnm := (name_of_methodNamed Bd.named Bd.method).1
  have hW : ∀ (k : Nat) (d : Jvm.Cond), tables_1[k]? = some d → d.before a0 Z = true := fun k d h => hw d (List.mem_of_getElem? h)
  have X0 : Stand p l e ({ frames := 1, cells := 2, slots := 4, locals := 12 } : Room) (s.setVm s.vm) m #[(.ref a), (.ref b), (.int (0 : Int32)), (.int (0 : Int32)), .null] below meth c s₁ [] 0 0 := Stand.of_body Bd
  have e0 : s₁.heap = h0 := by rw [← hh, Bd.state]; rfl
  have N0 := Fr.nil n0
  obtain ⟨G, hG, K0⟩ : ∃ G : State → Prop, (∀ tq, G tq → Steps p.tables e below (s₁.setTop (entryFrame m #[(.ref a), (.ref b), (.int (0 : Int32)), (.int (0 : Int32)), .null] 6)) tq) ∧ Go p e below s₁ (mkF m 0 #[.val (.ref a), .val (.ref b), .val (.int (0 : Int32)), .val (.int (0 : Int32)), .val .null, .unset] []) G := ⟨fun tq => Steps p.tables e below (s₁.setTop (entryFrame m #[(.ref a), (.ref b), (.int (0 : Int32)), (.int (0 : Int32)), .null] 6)) tq, fun _ h => h, fun tq kq => castTop (ef_jdk_42_method_149_RRIIN m a b (0 : Int32) (0 : Int32)) kq⟩
  have hS0 := (State.WarmedH.refl s).since 0
  have hEL : EW Z a0 own_EL := own_EW hW
  have CR0 := CHr.refl HC
  have Sfa := own_safe hZ.alike E_a F_value_a
  have K1 : Go p e below s₁ (mkF m 1 #[.val (.ref a), .val (.ref b), .val (.int (0 : Int32)), .val (.int (0 : Int32)), .val .null, .unset] [(.ref a)]) G := fun tq kq => K0 tq (XS.aloadN X0.here hx rfl (hb hby d_jdk_42_method_149_0) rfl rfl kq)
  obtain ⟨T2, X2, e2, st2⟩ := initO X0 hx hZ hown (hW 19 _ rfl) (hW 20 _ rfl) (hW 21 _ rfl) e0 (g := (mkF m 1 #[.val (.ref a), .val (.ref b), .val (.int (0 : Int32)), .val (.int (0 : Int32)), .val .null, .unset] [(.ref a)])) rfl (by rw [hml]; rfl) rfl (hb hby d_jdk_42_method_149_1) (by decide) (W := 0) (by show 2 * 0 + _ ≤ _; exact Nat.le_of_eq rfl) (by decide)
  have K3 : Go p e below T2 (mkF m 4 #[.val (.ref a), .val (.ref b), .val (.int (0 : Int32)), .val (.int (0 : Int32)), .val .null, .unset] []) G := fun tq kq => K1 tq (st2 tq kq)
  have K4 : Go p e below T2 (mkF m 5 #[.val (.ref a), .val (.ref b), .val (.int (0 : Int32)), .val (.int (0 : Int32)), .val .null, .unset] [(.int (0 : Int32))]) G := fun tq kq => K3 tq (XS.iloadN X2.here hx rfl (hb hby d_jdk_42_method_149_4) rfl kq)
  have K5 : Go p e below T2 (mkF m 8 #[.val (.ref a), .val (.ref b), .val (.int (0 : Int32)), .val (.int (0 : Int32)), .val .null, .unset] []) G := fun tq kq => K4 tq (XS.ifNo X2.here hx rfl (hb hby d_jdk_42_method_149_5) rfl ((if0 _ _).trans (teq (by decide : (0 : Int32) = (0 : Int32))).2) kq)
  have K6 : Go p e below T2 (mkF m 9 #[.val (.ref a), .val (.ref b), .val (.int (0 : Int32)), .val (.int (0 : Int32)), .val .null, .unset] [(.ref a)]) G := fun tq kq => K5 tq (XS.aloadN X2.here hx rfl (hb hby d_jdk_42_method_149_8) rfl rfl kq)
  obtain ⟨a7, T7, h7, k7, bb7, kb7, X7, e7, E7, hS7, hk7, hZ, hown, EL7, FC7, FV7, VB7, la7, lb7, CH7, Lit7, ap7, st7⟩ := ldcCH (s := s) (vm0 := s.vm) X2 hx hZ hown (hW 22 _ rfl) (fun d hd => hw d ((by decide +kernel : ∀ d ∈ Bundle.stringAtoms, d ∈ tables_1) d hd)) e2 hS0 (Nat.zero_le _) hEL (by decide) CR0.1 (vs := []) (z := (0 : Int32)) ⟨by decide, rfl⟩ (by decide) rfl (g := (mkF m 9 #[.val (.ref a), .val (.ref b), .val (.int (0 : Int32)), .val (.int (0 : Int32)), .val .null, .unset] [(.ref a)])) rfl (hb hby d_jdk_42_method_149_9) (n := 0) (by decide) (by decide) (by decide) (by decide)
  have Sl7_a := CHr.safe CH7 E_a.lt Sfa
  have CRl7 := CR0.trans CH7
  have K8 : Go p e below T7 (mkF m 11 #[.val (.ref a), .val (.ref b), .val (.int (0 : Int32)), .val (.int (0 : Int32)), .val .null, .unset] [(.ref a7), (.ref a)]) G := fun tq kq => K6 tq (st7 tq kq)
  obtain ⟨T9, X9, e9, st9⟩ := getF X7 hx hZ hown (host := "") (Or.inl (hW 28 _ rfl)) Via.refl e7 FV7 (g := (mkF m 11 #[.val (.ref a), .val (.ref b), .val (.int (0 : Int32)), .val (.int (0 : Int32)), .val .null, .unset] [(.ref a7), (.ref a)])) rfl rfl (hb hby d_jdk_42_method_149_11)
  have K10 : Go p e below T9 (mkF m 14 #[.val (.ref a), .val (.ref b), .val (.int (0 : Int32)), .val (.int (0 : Int32)), .val .null, .unset] [(.ref bb7), (.ref a)]) G := fun tq kq => K8 tq (st9 tq kq)
  obtain ⟨T11, h11, X11, e11, W11, st11⟩ := putF X9 hx hZ hown (host := "") (Or.inl (hW 28 _ rfl)) Via.refl e9 (F_value_a.ext E7) (E_a.ext E7) (Or.inr ⟨(hW 24 _ rfl), rfl, hnm⟩) (hW 9 _ rfl) (ty := (.array .byte)) (by decide) rfl rfl (g := (mkF m 14 #[.val (.ref a), .val (.ref b), .val (.int (0 : Int32)), .val (.int (0 : Int32)), .val .null, .unset] [(.ref bb7), (.ref a)])) rfl rfl (hb hby d_jdk_42_method_149_14)
  have N11 := Fr.snoc X11 N0 ge_a
  have F11 := Fld.same W11 (F_value_a.ext E7)
  have CR12 := CRl7.trans (CHr.wr W11 Sl7_a CRl7.1)
  have Sf12_a := Safe.wr W11 Sl7_a CRl7.1 Sl7_a
  have K13 : Go p e below T11 (mkF m 17 #[.val (.ref a), .val (.ref b), .val (.int (0 : Int32)), .val (.int (0 : Int32)), .val .null, .unset] []) G := fun tq kq => K10 tq (st11 tq kq)
  have K14 : Go p e below T11 (mkF m 18 #[.val (.ref a), .val (.ref b), .val (.int (0 : Int32)), .val (.int (0 : Int32)), .val .null, .unset] [(.ref a)]) G := fun tq kq => K13 tq (XS.aloadN X11.here hx rfl (hb hby d_jdk_42_method_149_17) rfl rfl kq)
  have K16 : Go p e below T11 (mkF m 20 #[.val (.ref a), .val (.ref b), .val (.int (0 : Int32)), .val (.int (0 : Int32)), .val .null, .unset] [(.ref a7), (.ref a)]) G := fun tq kq => K14 tq (ldcAgain (s := s) X11 hx hZ hown (hW 22 _ rfl) Lit7 (g := (mkF m 18 #[.val (.ref a), .val (.ref b), .val (.int (0 : Int32)), .val (.int (0 : Int32)), .val .null, .unset] [(.ref a)])) rfl (hb hby d_jdk_42_method_149_18) tq kq)
  obtain ⟨T17, X17, e17, st17⟩ := getF X11 hx hZ hown (host := "") (Or.inl (hW 29 _ rfl)) Via.refl e11 (FC7.other W11 (Or.inl (Ne.symm (ap7 _ Sl7_a).1))) (g := (mkF m 20 #[.val (.ref a), .val (.ref b), .val (.int (0 : Int32)), .val (.int (0 : Int32)), .val .null, .unset] [(.ref a7), (.ref a)])) rfl rfl (hb hby d_jdk_42_method_149_20)
  have K18 : Go p e below T17 (mkF m 23 #[.val (.ref a), .val (.ref b), .val (.int (0 : Int32)), .val (.int (0 : Int32)), .val .null, .unset] [(.int (0 : Int32)), (.ref a)]) G := fun tq kq => K16 tq (st17 tq kq)
  obtain ⟨T19, h19, X19, e19, W19, st19⟩ := putFN X17 hx hZ hown (hW 29 _ rfl) Via.refl e17 ((F_coder_a.ext E7).other W11 (Or.inr (slot_ne (Or.inr (hW 25 _ rfl)) (Or.inr (hW 24 _ rfl)) (by decide) (t := .byte) (t' := (.array .byte)) (by decide) (by decide)))) ((E_a.ext E7).wr W11) (Or.inr ⟨(hW 25 _ rfl), rfl, hnm⟩) (hW 9 _ rfl) (ty := .byte) (v' := (.int (0 : Int32))) (by decide) rfl (by decide) (g := (mkF m 23 #[.val (.ref a), .val (.ref b), .val (.int (0 : Int32)), .val (.int (0 : Int32)), .val .null, .unset] [(.int (0 : Int32)), (.ref a)])) rfl rfl (hb hby d_jdk_42_method_149_23)
  have N19 := Fr.snoc X19 N11 ge_a
  have F19 := Fld.same W19 ((F_coder_a.ext E7).other W11 (Or.inr (slot_ne (Or.inr (hW 25 _ rfl)) (Or.inr (hW 24 _ rfl)) (by decide) (t := .byte) (t' := (.array .byte)) (by decide) (by decide))))
  have CR20 := CR12.trans (CHr.wr W19 Sf12_a CR12.1)
  have Sf20_a := Safe.wr W19 Sf12_a CR12.1 Sf12_a
  have K21 : Go p e below T19 (mkF m 26 #[.val (.ref a), .val (.ref b), .val (.int (0 : Int32)), .val (.int (0 : Int32)), .val .null, .unset] []) G := fun tq kq => K18 tq (st19 tq kq)
  obtain ⟨fs, hr, hrun, hended, hRE⟩ := X19.leaveW (s := s) hS7 (by first | exact (Nat.le_trans (Nat.le_trans hk7 (Keep.of_wr W11).1) (Keep.of_wr W19).1) | (rw [e19]; exact (Nat.le_trans (Nat.le_trans hk7 (Keep.of_wr W11).1) (Keep.of_wr W19).1))) (v := none) (fun _ => rfl)
  have CRe := CR20.trans (CHv.at X19 hZ hEL CR20.1)
  refine ⟨_, _, hG _ (K21 _ (X19.returnOut hx Bd.returns (hb hby d_jdk_42_method_149_26) hr)), hrun, hended, _, _, rfl, ?_, (by show CHr Z own_EL s.vm s.heap T19.vm T19.heap; rw [hh, e19]; exact CRe), hRE.1, hRE.2.1, hRE.2.2.1, hRE.2.2.2.mono (by decide) (by decide)⟩
  show QN4 Z a b h0 n0 _ T19.heap _
  rw [e19]
  exact ⟨rfl, N19, ((((Keep.refl h0 [a]).ext E7).wr W11 (Or.inl (List.mem_of_getElem? (i := 0) rfl))).wr W19 (Or.inl (List.mem_of_getElem? (i := 0) rfl))), (((E_a.ext E7).wr W11).wr W19), F19, bb7, _, Ne.symm (ap7 _ Sl7_a).2, (F11.other W19 (Or.inr (slot_ne (Or.inr (hW 24 _ rfl)) (Or.inr (hW 25 _ rfl)) (by decide) (t := (.array .byte)) (t' := .byte) (by decide) (by decide)))), ((VB7.other W11 (Ne.symm (ap7 _ Sl7_a).2)).other W19 (Ne.symm (ap7 _ Sl7_a).2))⟩
theorem ef_jdk_42_method_3_RR (m : MethodId) (x0 : Addr) (x1 : Addr) : entryFrame m #[(.ref x0), (.ref x1)] 2 = mkF m 0 #[.val (.ref x0), .val (.ref x1)] [] := by first | (simp [entryFrame, mkF, argsToLocals, Value.category]; done) | rfl
theorem pd_16 : parseMethodDescriptor "([CIILjava/lang/Void;)V" = some ⟨[(.array .char), .int, .int, (.object "java/lang/Void")], none⟩ := by decide +kernel
theorem d_jdk_42_method_3_0 : decode jdk_42_method_3_code 0 = .ok (.aload_n 0, 1) := by decide +kernel
theorem d_jdk_42_method_3_1 : decode jdk_42_method_3_code 1 = .ok (.aload_n 1, 1) := by decide +kernel
theorem d_jdk_42_method_3_2 : decode jdk_42_method_3_code 2 = .ok (.iconst 0, 1) := by decide +kernel
theorem d_jdk_42_method_3_3 : decode jdk_42_method_3_code 3 = .ok (.aload_n 1, 1) := by decide +kernel
theorem d_jdk_42_method_3_4 : decode jdk_42_method_3_code 4 = .ok (.arraylength, 1) := by decide +kernel
theorem d_jdk_42_method_3_5 : decode jdk_42_method_3_code 5 = .ok (.aconst_null, 1) := by decide +kernel
theorem d_jdk_42_method_3_6 : decode jdk_42_method_3_code 6 = .ok (.invokespecial 27, 3) := by decide +kernel
theorem d_jdk_42_method_3_9 : decode jdk_42_method_3_code 9 = .ok (.return_, 1) := by decide +kernel
def QN1 (Z : State) (a : Addr) (b : Addr) (kc : ClassId) (h0 : Heap) (n0 : Nat) (v : Option Value) (h : Heap) (L : List Loc) : Prop := v = none ∧ Fr n0 L ∧ Keep h0 h [a] ∧ Exa Z h a "java/lang/String" ∧ Fld Z h a "java/lang/String" "coder" "B" (.int (0 : Int32)) ∧ ∃ (t : Addr) (kb : ClassId), t ≠ a ∧ Fld Z h a "java/lang/String" "value" "[B" (.ref t) ∧ Arv Z h t kb .byte (0 : Int32) [] (.int (0 : Int32))
set_option maxRecDepth 65536 in
set_option maxHeartbeats 40000000 in
theorem rmN1 (l : Launch) (Z : State) (a0 : Array Value) (hw : ∀ d ∈ tables_1, d.before a0 Z = true) (ws : List Jvm.Cond) (a : Addr) (b : Addr) (kc : ClassId) (h0 : Heap) (n0 : Nat) (Z0 : n0 ≤ h0.size) (F_value_a : Fld Z h0 a "java/lang/String" "value" "[B" .null) (F_coder_a : Fld Z h0 a "java/lang/String" "coder" "B" (.int (0 : Int32))) (E_a : Exa Z h0 a "java/lang/String") (ge_a : n0 ≤ a) (V_b : Arv Z h0 b kc .char (0 : Int32) [] (.int (0 : Int32))) :
    MetFree l (⟨"java/lang/String", "<init>", "([C)V"⟩ : MethodName) (head1 (Jvm.Cond.code (⟨"java/lang/String", "<init>", "([C)V"⟩ : MethodName) jdk_42_method_3_code 2 none :: ws) ({ frames := 2, cells := 2, slots := 4, locals := 29 } : Room)) (fun aa UU => aa = #[(.ref a), (.ref b)] ∧ Z.Warmed39 UU.vm ∧ UU.heap = h0 ∧ CHv Z own_EL UU.vm h0) (fun _ _ _ _ _ => True) (fun _ UU oo UU' => ∃ vv LL, oo = .returned vv ∧ QN1 Z a b kc h0 n0 vv UU'.heap LL ∧ CHr Z own_EL UU.vm UU.heap UU'.vm UU'.heap ∧ ReturnedEndW UU oo UU' LL ({ frames := 2, cells := 2, slots := 4, locals := 29 } : Room).cells ({ frames := 2, cells := 2, slots := 4, locals := 29 } : Room).slots) := by
  refine MetFree.of_bodySF (plainFor_of_name pn_0) hisR ?_
  intro p e s m args below meth c s₁ Bd hml0 hP hK
  obtain ⟨rfl, hZ, hh, HC⟩ := hP
  have hx := Bd.exec
  have hby := Bd.bytes
  have hml : c.maxLocals = 2 := hml0
  have hown : s.vm.findClass "java/lang/String" = some m.cls := findClass_of_methodNamed Bd.named
  have hnm := (name_of_methodNamed Bd.named Bd.method).1
  have hW : ∀ (k : Nat) (d : Jvm.Cond), tables_1[k]? = some d → d.before a0 Z = true := fun k d h => hw d (List.mem_of_getElem? h)
  have X0 : Stand p l e ({ frames := 2, cells := 2, slots := 4, locals := 29 } : Room) (s.setVm s.vm) m #[(.ref a), (.ref b)] below meth c s₁ [] 0 0 := Stand.of_body Bd
  have e0 : s₁.heap = h0 := by rw [← hh, Bd.state]; rfl
  have N0 := Fr.nil n0
  obtain ⟨G, hG, K0⟩ : ∃ G : State → Prop, (∀ tq, G tq → Steps p.tables e below (s₁.setTop (entryFrame m #[(.ref a), (.ref b)] 2)) tq) ∧ Go p e below s₁ (mkF m 0 #[.val (.ref a), .val (.ref b)] []) G := ⟨fun tq => Steps p.tables e below (s₁.setTop (entryFrame m #[(.ref a), (.ref b)] 2)) tq, fun _ h => h, fun tq kq => castTop (ef_jdk_42_method_3_RR m a b) kq⟩
  have hS0 := (State.WarmedH.refl s).since 0
  have hEL : EW Z a0 own_EL := own_EW hW
  have CR0 := CHr.refl HC
  have K22 : Go p e below s₁ (mkF m 1 #[.val (.ref a), .val (.ref b)] [(.ref a)]) G := fun tq kq => K0 tq (XS.aloadN X0.here hx rfl (hb hby d_jdk_42_method_3_0) rfl rfl kq)
  have K23 : Go p e below s₁ (mkF m 2 #[.val (.ref a), .val (.ref b)] [(.ref b), (.ref a)]) G := fun tq kq => K22 tq (XS.aloadN X0.here hx rfl (hb hby d_jdk_42_method_3_1) rfl rfl kq)
  have K24 : Go p e below s₁ (mkF m 3 #[.val (.ref a), .val (.ref b)] [(.int (0 : Int32)), (.ref b), (.ref a)]) G := fun tq kq => K23 tq (XS.iconst X0.here hx rfl (hb hby d_jdk_42_method_3_2) kq)
  have K25 : Go p e below s₁ (mkF m 4 #[.val (.ref a), .val (.ref b)] [(.ref b), (.int (0 : Int32)), (.ref b), (.ref a)]) G := fun tq kq => K24 tq (XS.aloadN X0.here hx rfl (hb hby d_jdk_42_method_3_3) rfl rfl kq)
  obtain ⟨cl26, Ar26, q26, S26, Nn26, Hh26, Gg26⟩ := id V_b
  have K27 : Go p e below s₁ (mkF m 5 #[.val (.ref a), .val (.ref b)] [(.int (0 : Int32)), (.int (0 : Int32)), (.ref b), (.ref a)]) G := fun tq kq => K25 tq (X0.arraylength hx (by rw [e0]; exact Ar26.1) (State.isArrayOf_alike hZ.alike Ar26.2.1) (g := (mkF m 4 #[.val (.ref a), .val (.ref b)] [(.ref b), (.int (0 : Int32)), (.ref b), (.ref a)])) rfl rfl (hb hby d_jdk_42_method_3_4) _ (by rw [len_of S26 Nn26]; exact kq))
  have K28 : Go p e below s₁ (mkF m 6 #[.val (.ref a), .val (.ref b)] [.null, (.int (0 : Int32)), (.int (0 : Int32)), (.ref b), (.ref a)]) G := fun tq kq => K27 tq (XS.aconstNull X0.here hx rfl (hb hby d_jdk_42_method_3_5) kq)
  obtain ⟨v29, _, ⟨T29, L29, k29, n29⟩, -, X29, hSa29, hgr29, ⟨Lc29, hQ29, l29, y29, z29, hCR29⟩, st29⟩ := X0.specialBackS hx (y := (⟨"java/lang/String", "<init>", "([CIILjava/lang/Void;)V"⟩ : MethodName)) rfl hown (mvT hZ (hW 15 _ rfl)) (mvT hZ (hW 16 _ rfl)) (mvT hZ (hW 18 _ rfl)) (by decide) (backOfSH (W := 0) (rmN4 l Z a0 hw [] a b h0 n0 Z0 F_value_a F_coder_a E_a ge_a) hZ (hW 18 _ rfl) (hW 10 _ rfl) (by decide) (by decide) hEL CR0.1) (g := (mkF m 6 #[.val (.ref a), .val (.ref b)] [.null, (.int (0 : Int32)), (.int (0 : Int32)), (.ref b), (.ref a)])) rfl (by rw [hml]; rfl) (Steps.refl _) (a := a) (argsL := [(.ref b), (.int (0 : Int32)), (.int (0 : Int32)), .null]) (rest := []) (lenOf pd_16 rfl) rfl (by show 2 * 0 + _ ≤ _; exact Nat.le_of_eq rfl) (hb hby d_jdk_42_method_3_6) (fun _ _ => ⟨rfl, e0, (by decide : 0 + 2 ≤ _), (by decide : 0 + 4 ≤ _)⟩)
  dsimp only [Pt.U, Pt.locs, Pt.cells, Pt.slots] at X29 l29 y29 z29 st29 hQ29 hSa29 hgr29 hCR29
  subst l29 y29 z29
  obtain ⟨X29, hSb29, hZ, hown⟩ := rebS hS0 (by first | exact (Nat.zero_le _) | (rw [e0]; exact (Nat.zero_le _))) X29 hSa29 hgr29 hZ hown
  have CR30 := CR0.trans (hCR29)
  have hQx := hQ29
  obtain ⟨rfl, N29q, K29q, rest29⟩ := hQ29
  have N29 := Fr.app N0 N29q
  have K31 : Go p e below T29 (mkF m 9 #[.val (.ref a), .val (.ref b)] []) G := fun tq kq => K28 tq (st29.trans kq)
  obtain ⟨fs, hr, hrun, hended, hRE⟩ := X29.leaveW (s := s) hSb29 (by first | exact (Nat.le_refl _) | (rw [rfl]; exact (Nat.le_refl _))) (v := none) (fun _ => rfl)
  have CRe := CR30.trans (CHv.at X29 hZ hEL CR30.1)
  refine ⟨_, _, hG _ (K31 _ (X29.returnOut hx Bd.returns (hb hby d_jdk_42_method_3_9) hr)), hrun, hended, _, _, rfl, ?_, (by show CHr Z own_EL s.vm s.heap T29.vm T29.heap; rw [hh]; exact CRe), hRE.1, hRE.2.1, hRE.2.2.1, hRE.2.2.2.mono (by decide) (by decide)⟩
  show QN1 Z a b kc h0 n0 _ T29.heap _
  exact ⟨rfl, N29, ((Keep.refl h0 [a]).trans K29q (allS (Or.inl (List.mem_of_getElem? (i := 0) rfl)) all0)), rest29⟩
theorem own_I0 : (0 : Int32).toInt = 0 := by decide
theorem own_I1 : (1 : Int32).toInt = 1 := by decide
theorem own_I2 : (2 : Int32).toInt = 2 := by decide
theorem own_I3 : (3 : Int32).toInt = 3 := by decide
theorem own_I4 : (4 : Int32).toInt = 4 := by decide
theorem own_I5 : (5 : Int32).toInt = 5 := by decide
theorem own_I15 : (15 : Int32).toInt = 15 := by decide
theorem own_I45 : (45 : Int32).toInt = 45 := by decide
theorem own_I46 : (46 : Int32).toInt = 46 := by decide
theorem own_I47 : (47 : Int32).toInt = 47 := by decide
theorem own_I48 : (48 : Int32).toInt = 48 := by decide
theorem own_I57 : (57 : Int32).toInt = 57 := by decide
theorem own_I58 : (58 : Int32).toInt = 58 := by decide
theorem own_I255 : (255 : Int32).toInt = 255 := by decide
theorem own_I65535 : (65535 : Int32).toInt = 65535 := by decide
theorem own_I2147483647 : (2147483647 : Int32).toInt = 2147483647 := by decide
theorem own_nb0 (ch : Int32) : nar .byte ((ch >>> ((0 : Int32) &&& 31)).toInt8.toInt32) = StrChars.lo8 ch := by
  rw [StrChars.shr0]
  show (ch.toInt8.toInt32).toInt8.toInt32 = ch.toInt8.toInt32
  rw [Int8.toInt8_toInt32]
theorem own_nb8 (ch : Int32) : nar .byte ((ch >>> ((8 : Int32) &&& 31)).toInt8.toInt32) = StrChars.hi8 ch := by
  show (((ch >>> ((8 : Int32) &&& 31)).toInt8.toInt32).toInt8.toInt32) = (ch >>> ((8 : Int32) &&& 31)).toInt8.toInt32
  rw [Int8.toInt8_toInt32]
theorem own_nch {ch : Int32} (hr : ¬ ch < 0 ∧ ¬ (65535 : Int32) < ch) : nar .char ch = ch := by
  obtain ⟨h0, h1⟩ := hr
  rw [Int32.lt_iff_toInt_lt, own_I0] at h0
  rw [Int32.lt_iff_toInt_lt, own_I65535] at h1
  exact own_i2c ch (by omega) (by omega)
theorem own_gc {ch : Int32} (hr : ¬ ch < 0 ∧ ¬ (65535 : Int32) < ch) : nar .char (StrChars.pairCh (StrChars.lo8 ch) (StrChars.hi8 ch)) = ch := by
  rw [StrChars.pair_says hr.1 hr.2]
  exact own_nch hr
def own_Ix (ix N2 : Int32) (jj : Nat) : Prop := (¬ (ix <<< ((1 : Int32) &&& 31)) < 0 ∧ (ix <<< ((1 : Int32) &&& 31)) < N2) ∧ (ix <<< ((1 : Int32) &&& 31)).toNatClampNeg = 2 * jj ∧ (¬ ((ix <<< ((1 : Int32) &&& 31)) + (1 : Int32)) < 0 ∧ ((ix <<< ((1 : Int32) &&& 31)) + (1 : Int32)) < N2) ∧ ((ix <<< ((1 : Int32) &&& 31)) + (1 : Int32)).toNatClampNeg = 2 * jj + 1
instance (ix N2 : Int32) (jj : Nat) : Decidable (own_Ix ix N2 jj) := by unfold own_Ix; infer_instance
theorem own_ixn (j n : Nat) (h : j < n) (hn : n ≤ 4) : own_Ix (Int32.ofNat j) (Int32.ofNat (2 * n)) j :=
  (by decide +kernel : ∀ n : Fin 5, ∀ j : Fin 5, j.val < n.val → own_Ix (Int32.ofNat j.val) (Int32.ofNat (2 * n.val)) j.val) ⟨n, by omega⟩ ⟨j, by omega⟩ h
theorem own_jn (j n : Nat) (h : j < n) (hn : n ≤ 4) : ¬ (Int32.ofNat j = Int32.ofNat n) :=
  (by decide +kernel : ∀ n : Fin 5, ∀ j : Fin 5, j.val < n.val → ¬ (Int32.ofNat j.val = Int32.ofNat n.val)) ⟨n, by omega⟩ ⟨j, by omega⟩ h
theorem own_getR {cs : List Int32} (hb : ∀ c ∈ cs, ¬ c < 0 ∧ ¬ (65535 : Int32) < c) (j : Nat) (hj : j < cs.length) : ¬ cs.getD j 0 < 0 ∧ ¬ (65535 : Int32) < cs.getD j 0 := by
  have e : cs.getD j 0 = cs[j] := by simp [List.getD_eq_getElem?_getD, hj]
  rw [e]
  exact hb _ (List.getElem_mem _)
theorem own_ex {cs : List Int32} (h : ¬ ∀ c ∈ cs, ¬ (255 : Int32) < c) : ∃ c ∈ cs, (255 : Int32) < c := Classical.byContradiction (fun q => h (fun c hc z => q ⟨c, hc, z⟩))
theorem pn_41 : plainName "java/lang/StringUTF16" = true := by first | (simp [plainName, overriddenIn]; done) | decide +kernel
theorem ef_jdk_52_method_4_RII (m : MethodId) (x0 : Addr) (x1 : Int32) (x2 : Int32) : entryFrame m #[(.ref x0), (.int x1), (.int x2)] 3 = mkF m 0 #[.val (.ref x0), .val (.int x1), .val (.int x2)] [] := by first | (simp [entryFrame, mkF, argsToLocals, Value.category]; done) | rfl
theorem d_jdk_52_method_4_0 : decode jdk_52_method_4_code 0 = .ok (.getstatic 44, 3) := by decide +kernel
theorem d_jdk_52_method_4_3 : decode jdk_52_method_4_code 3 = .ok (.ifCond .ne 25, 3) := by decide +kernel
theorem d_jdk_52_method_4_28 : decode jdk_52_method_4_code 28 = .ok (.iload_n 1, 1) := by decide +kernel
theorem d_jdk_52_method_4_29 : decode jdk_52_method_4_code 29 = .ok (.iconst 1, 1) := by decide +kernel
theorem d_jdk_52_method_4_30 : decode jdk_52_method_4_code 30 = .ok (.ishl, 1) := by decide +kernel
theorem d_jdk_52_method_4_31 : decode jdk_52_method_4_code 31 = .ok (.istore_n 1, 1) := by decide +kernel
theorem d_jdk_52_method_4_32 : decode jdk_52_method_4_code 32 = .ok (.aload_n 0, 1) := by decide +kernel
theorem d_jdk_52_method_4_33 : decode jdk_52_method_4_code 33 = .ok (.iload_n 1, 1) := by decide +kernel
theorem d_jdk_52_method_4_34 : decode jdk_52_method_4_code 34 = .ok (.iinc 1 1, 3) := by decide +kernel
theorem d_jdk_52_method_4_37 : decode jdk_52_method_4_code 37 = .ok (.iload_n 2, 1) := by decide +kernel
theorem d_jdk_52_method_4_38 : decode jdk_52_method_4_code 38 = .ok (.getstatic 59, 3) := by decide +kernel
theorem d_jdk_52_method_4_41 : decode jdk_52_method_4_code 41 = .ok (.ishr, 1) := by decide +kernel
theorem d_jdk_52_method_4_42 : decode jdk_52_method_4_code 42 = .ok (.i2b, 1) := by decide +kernel
theorem d_jdk_52_method_4_43 : decode jdk_52_method_4_code 43 = .ok (.bastore, 1) := by decide +kernel
theorem d_jdk_52_method_4_44 : decode jdk_52_method_4_code 44 = .ok (.aload_n 0, 1) := by decide +kernel
theorem d_jdk_52_method_4_45 : decode jdk_52_method_4_code 45 = .ok (.iload_n 1, 1) := by decide +kernel
theorem d_jdk_52_method_4_46 : decode jdk_52_method_4_code 46 = .ok (.iload_n 2, 1) := by decide +kernel
theorem d_jdk_52_method_4_47 : decode jdk_52_method_4_code 47 = .ok (.getstatic 63, 3) := by decide +kernel
theorem d_jdk_52_method_4_50 : decode jdk_52_method_4_code 50 = .ok (.ishr, 1) := by decide +kernel
theorem d_jdk_52_method_4_51 : decode jdk_52_method_4_code 51 = .ok (.i2b, 1) := by decide +kernel
theorem d_jdk_52_method_4_52 : decode jdk_52_method_4_code 52 = .ok (.bastore, 1) := by decide +kernel
theorem d_jdk_52_method_4_53 : decode jdk_52_method_4_code 53 = .ok (.return_, 1) := by decide +kernel
def QPC (Z : State) (tb : Addr) (kb : ClassId) (N2 : Int32) (vs : List Value) (ix : Int32) (jj : Nat) (ch : Int32) (h0 : Heap) (n0 : Nat) (v : Option Value) (h : Heap) (L : List Loc) : Prop := v = none ∧ Fr n0 L ∧ Keep h0 h [tb] ∧ Arv Z h tb kb .byte N2 ((vs.set (2 * jj) (.int (StrChars.lo8 ch))).set (2 * jj + 1) (.int (StrChars.hi8 ch))) (.int (0 : Int32))
set_option maxRecDepth 65536 in
set_option maxHeartbeats 40000000 in
theorem rmPC (l : Launch) (Z : State) (a0 : Array Value) (hw : ∀ d ∈ tables_1, d.before a0 Z = true) (ws : List Jvm.Cond) (tb : Addr) (kb : ClassId) (N2 : Int32) (vs : List Value) (ix : Int32) (jj : Nat) (ch : Int32) (h0 : Heap) (n0 : Nat) (Z0 : n0 ≤ h0.size) (O0 : Old Z n0 h0) (S_ad : Sta Z Z.heap "java/lang/StringUTF16" "$assertionsDisabled" "Z" (.int (1 : Int32))) (S_hi : Sta Z Z.heap "java/lang/StringUTF16" "HI_BYTE_SHIFT" "I" (.int (0 : Int32))) (S_lo : Sta Z Z.heap "java/lang/StringUTF16" "LO_BYTE_SHIFT" "I" (.int (8 : Int32))) (ge_tb : n0 ≤ tb) (V_tb : Arv Z h0 tb kb .byte N2 vs (.int (0 : Int32))) (hI : own_Ix ix N2 jj) (hlen : 2 * jj + 1 < vs.length) :
    MetFree l (⟨"java/lang/StringUTF16", "putChar", "([BII)V"⟩ : MethodName) (head1 (Jvm.Cond.code (⟨"java/lang/StringUTF16", "putChar", "([BII)V"⟩ : MethodName) jdk_52_method_4_code 3 none :: ws) ({ frames := 0, cells := 0, slots := 0, locals := 0 } : Room)) (fun aa UU => aa = #[(.ref tb), (.int ix), (.int ch)] ∧ Z.Warmed39 UU.vm ∧ UU.heap = h0) (fun _ _ _ _ _ => True) (fun _ UU oo UU' => ∃ vv LL, oo = .returned vv ∧ QPC Z tb kb N2 vs ix jj ch h0 n0 vv UU'.heap LL ∧ FrameEnd UU oo UU' LL ({ frames := 0, cells := 0, slots := 0, locals := 0 } : Room).cells ({ frames := 0, cells := 0, slots := 0, locals := 0 } : Room).slots) := by
  refine MetFree.of_bodySF (plainFor_of_name pn_41) hisR ?_
  intro p e s m args below meth c s₁ Bd hml0 hP hK
  obtain ⟨rfl, hZ, hh⟩ := hP
  have hx := Bd.exec
  have hby := Bd.bytes
  have hml : c.maxLocals = 3 := hml0
  have hown : s.vm.findClass "java/lang/StringUTF16" = some m.cls := findClass_of_methodNamed Bd.named
  have hnm := (name_of_methodNamed Bd.named Bd.method).1
  have hW : ∀ (k : Nat) (d : Jvm.Cond), tables_1[k]? = some d → d.before a0 Z = true := fun k d h => hw d (List.mem_of_getElem? h)
  have X0 : Stand p l e ({ frames := 0, cells := 0, slots := 0, locals := 0 } : Room) s m #[(.ref tb), (.int ix), (.int ch)] below meth c s₁ [] 0 0 := Stand.of_body Bd
  have e0 : s₁.heap = h0 := by rw [← hh, Bd.state]; rfl
  have N0 := Fr.nil n0
  obtain ⟨G, hG, K0⟩ : ∃ G : State → Prop, (∀ tq, G tq → Steps p.tables e below (s₁.setTop (entryFrame m #[(.ref tb), (.int ix), (.int ch)] 3)) tq) ∧ Go p e below s₁ (mkF m 0 #[.val (.ref tb), .val (.int ix), .val (.int ch)] []) G := ⟨fun tq => Steps p.tables e below (s₁.setTop (entryFrame m #[(.ref tb), (.int ix), (.int ch)] 3)) tq, fun _ h => h, fun tq kq => castTop (ef_jdk_52_method_4_RII m tb ix ch) kq⟩
  obtain ⟨T32, X32, e32, st32⟩ := getS2 X0 hx hZ hown (host := "") (Or.inl (hW 93 _ rfl)) Via.refl e0 (S_ad.ext O0.2) (g := (mkF m 0 #[.val (.ref tb), .val (.int ix), .val (.int ch)] [])) rfl (hb hby d_jdk_52_method_4_0)
  have K33 : Go p e below T32 (mkF m 3 #[.val (.ref tb), .val (.int ix), .val (.int ch)] [(.int (1 : Int32))]) G := fun tq kq => K0 tq (st32 tq kq)
  have K34 : Go p e below T32 (mkF m 28 #[.val (.ref tb), .val (.int ix), .val (.int ch)] []) G := fun tq kq => K33 tq (XS.ifYes X32.here hx rfl (pc0 := 3) (pc' := 28) rfl (hb hby d_jdk_52_method_4_3) rfl ((if0 _ _).trans (feq (by decide : ¬ ((1 : Int32) = (0 : Int32)))).2) (by decide) (by decide) kq)
  have K35 : Go p e below T32 (mkF m 29 #[.val (.ref tb), .val (.int ix), .val (.int ch)] [(.int ix)]) G := fun tq kq => K34 tq (XS.iloadN X32.here hx rfl (hb hby d_jdk_52_method_4_28) rfl kq)
  have K36 : Go p e below T32 (mkF m 30 #[.val (.ref tb), .val (.int ix), .val (.int ch)] [(.int (1 : Int32)), (.int ix)]) G := fun tq kq => K35 tq (XS.iconst X32.here hx rfl (hb hby d_jdk_52_method_4_29) kq)
  have K37 : Go p e below T32 (mkF m 31 #[.val (.ref tb), .val (.int ix), .val (.int ch)] [(.int (ix <<< ((1 : Int32) &&& 31)))]) G := fun tq kq => K36 tq (XS.ishl X32.here hx rfl (hb hby d_jdk_52_method_4_30) rfl kq)
  have K38 : Go p e below T32 (mkF m 32 #[.val (.ref tb), .val (.int (ix <<< ((1 : Int32) &&& 31))), .val (.int ch)] []) G := fun tq kq => K37 tq (XS.istoreN X32.here hx rfl (hb hby d_jdk_52_method_4_31) rfl (l' := #[.val (.ref tb), .val (.int (ix <<< ((1 : Int32) &&& 31))), .val (.int ch)]) rfl kq)
  have K39 : Go p e below T32 (mkF m 33 #[.val (.ref tb), .val (.int (ix <<< ((1 : Int32) &&& 31))), .val (.int ch)] [(.ref tb)]) G := fun tq kq => K38 tq (XS.aloadN X32.here hx rfl (hb hby d_jdk_52_method_4_32) rfl rfl kq)
  have K40 : Go p e below T32 (mkF m 34 #[.val (.ref tb), .val (.int (ix <<< ((1 : Int32) &&& 31))), .val (.int ch)] [(.int (ix <<< ((1 : Int32) &&& 31))), (.ref tb)]) G := fun tq kq => K39 tq (XS.iloadN X32.here hx rfl (hb hby d_jdk_52_method_4_33) rfl kq)
  have K41 : Go p e below T32 (mkF m 37 #[.val (.ref tb), .val (.int ((ix <<< ((1 : Int32) &&& 31)) + (1 : Int32))), .val (.int ch)] [(.int (ix <<< ((1 : Int32) &&& 31))), (.ref tb)]) G := fun tq kq => K40 tq (XS.iinc X32.here hx rfl (hb hby d_jdk_52_method_4_34) rfl (l' := #[.val (.ref tb), .val (.int ((ix <<< ((1 : Int32) &&& 31)) + (1 : Int32))), .val (.int ch)]) rfl kq)
  have K42 : Go p e below T32 (mkF m 38 #[.val (.ref tb), .val (.int ((ix <<< ((1 : Int32) &&& 31)) + (1 : Int32))), .val (.int ch)] [(.int ch), (.int (ix <<< ((1 : Int32) &&& 31))), (.ref tb)]) G := fun tq kq => K41 tq (XS.iloadN X32.here hx rfl (hb hby d_jdk_52_method_4_37) rfl kq)
  obtain ⟨T43, X43, e43, st43⟩ := getS2 X32 hx hZ hown (host := "") (Or.inl (hW 94 _ rfl)) Via.refl e32 (S_hi.ext O0.2) (g := (mkF m 38 #[.val (.ref tb), .val (.int ((ix <<< ((1 : Int32) &&& 31)) + (1 : Int32))), .val (.int ch)] [(.int ch), (.int (ix <<< ((1 : Int32) &&& 31))), (.ref tb)])) rfl (hb hby d_jdk_52_method_4_38)
  have K44 : Go p e below T43 (mkF m 41 #[.val (.ref tb), .val (.int ((ix <<< ((1 : Int32) &&& 31)) + (1 : Int32))), .val (.int ch)] [(.int (0 : Int32)), (.int ch), (.int (ix <<< ((1 : Int32) &&& 31))), (.ref tb)]) G := fun tq kq => K42 tq (st43 tq kq)
  have K45 : Go p e below T43 (mkF m 42 #[.val (.ref tb), .val (.int ((ix <<< ((1 : Int32) &&& 31)) + (1 : Int32))), .val (.int ch)] [(.int (ch >>> ((0 : Int32) &&& 31))), (.int (ix <<< ((1 : Int32) &&& 31))), (.ref tb)]) G := fun tq kq => K44 tq (XS.ishr X43.here hx rfl (hb hby d_jdk_52_method_4_41) rfl kq)
  have K46 : Go p e below T43 (mkF m 43 #[.val (.ref tb), .val (.int ((ix <<< ((1 : Int32) &&& 31)) + (1 : Int32))), .val (.int ch)] [(.int ((ch >>> ((0 : Int32) &&& 31)).toInt8.toInt32)), (.int (ix <<< ((1 : Int32) &&& 31))), (.ref tb)]) G := fun tq kq => K45 tq (XS.i2b X43.here hx rfl (hb hby d_jdk_52_method_4_42) rfl kq)
  obtain ⟨cl47, Ar47, q47, S47, Nn47, Hh47, Gg47⟩ := id V_tb
  have hin47 : ¬ ((ix <<< ((1 : Int32) &&& 31)) < 0 ∨ cl47.slots.size ≤ ((ix <<< ((1 : Int32) &&& 31))).toNatClampNeg) := inb_of S47 hI.1
  obtain ⟨T47, h47, X47, e47, W47, st47⟩ := stB X43 hx hZ e43 Ar47 (j := (ix <<< ((1 : Int32) &&& 31))) hin47 (g := (mkF m 43 #[.val (.ref tb), .val (.int ((ix <<< ((1 : Int32) &&& 31)) + (1 : Int32))), .val (.int ch)] [(.int ((ch >>> ((0 : Int32) &&& 31)).toInt8.toInt32)), (.int (ix <<< ((1 : Int32) &&& 31))), (.ref tb)])) rfl rfl (hb hby d_jdk_52_method_4_43)
  have V47 : Arv Z h47 tb kb .byte N2 (vs.set (2 * jj) (.int (nar .byte ((ch >>> ((0 : Int32) &&& 31)).toInt8.toInt32)))) (.int (0 : Int32)) := Arv.set Ar47 q47 S47 Nn47 Hh47 Gg47 (fits_nar_byte _) W47 (2 * jj) hI.2.1 (Nat.lt_trans (Nat.lt_succ_self _) hlen)
  have N47 := Fr.snoc X47 N0 ge_tb
  have K48 : Go p e below T47 (mkF m 44 #[.val (.ref tb), .val (.int ((ix <<< ((1 : Int32) &&& 31)) + (1 : Int32))), .val (.int ch)] []) G := fun tq kq => K46 tq (st47 tq kq)
  have K49 : Go p e below T47 (mkF m 45 #[.val (.ref tb), .val (.int ((ix <<< ((1 : Int32) &&& 31)) + (1 : Int32))), .val (.int ch)] [(.ref tb)]) G := fun tq kq => K48 tq (XS.aloadN X47.here hx rfl (hb hby d_jdk_52_method_4_44) rfl rfl kq)
  have K50 : Go p e below T47 (mkF m 46 #[.val (.ref tb), .val (.int ((ix <<< ((1 : Int32) &&& 31)) + (1 : Int32))), .val (.int ch)] [(.int ((ix <<< ((1 : Int32) &&& 31)) + (1 : Int32))), (.ref tb)]) G := fun tq kq => K49 tq (XS.iloadN X47.here hx rfl (hb hby d_jdk_52_method_4_45) rfl kq)
  have K51 : Go p e below T47 (mkF m 47 #[.val (.ref tb), .val (.int ((ix <<< ((1 : Int32) &&& 31)) + (1 : Int32))), .val (.int ch)] [(.int ch), (.int ((ix <<< ((1 : Int32) &&& 31)) + (1 : Int32))), (.ref tb)]) G := fun tq kq => K50 tq (XS.iloadN X47.here hx rfl (hb hby d_jdk_52_method_4_46) rfl kq)
  obtain ⟨T52, X52, e52, st52⟩ := getS2 X47 hx hZ hown (host := "") (Or.inl (hW 95 _ rfl)) Via.refl e47 (S_lo.ext (O0.wr W47 ge_tb).2) (g := (mkF m 47 #[.val (.ref tb), .val (.int ((ix <<< ((1 : Int32) &&& 31)) + (1 : Int32))), .val (.int ch)] [(.int ch), (.int ((ix <<< ((1 : Int32) &&& 31)) + (1 : Int32))), (.ref tb)])) rfl (hb hby d_jdk_52_method_4_47)
  have K53 : Go p e below T52 (mkF m 50 #[.val (.ref tb), .val (.int ((ix <<< ((1 : Int32) &&& 31)) + (1 : Int32))), .val (.int ch)] [(.int (8 : Int32)), (.int ch), (.int ((ix <<< ((1 : Int32) &&& 31)) + (1 : Int32))), (.ref tb)]) G := fun tq kq => K51 tq (st52 tq kq)
  have K54 : Go p e below T52 (mkF m 51 #[.val (.ref tb), .val (.int ((ix <<< ((1 : Int32) &&& 31)) + (1 : Int32))), .val (.int ch)] [(.int (ch >>> ((8 : Int32) &&& 31))), (.int ((ix <<< ((1 : Int32) &&& 31)) + (1 : Int32))), (.ref tb)]) G := fun tq kq => K53 tq (XS.ishr X52.here hx rfl (hb hby d_jdk_52_method_4_50) rfl kq)
  have K55 : Go p e below T52 (mkF m 52 #[.val (.ref tb), .val (.int ((ix <<< ((1 : Int32) &&& 31)) + (1 : Int32))), .val (.int ch)] [(.int ((ch >>> ((8 : Int32) &&& 31)).toInt8.toInt32)), (.int ((ix <<< ((1 : Int32) &&& 31)) + (1 : Int32))), (.ref tb)]) G := fun tq kq => K54 tq (XS.i2b X52.here hx rfl (hb hby d_jdk_52_method_4_51) rfl kq)
  obtain ⟨cl56, Ar56, q56, S56, Nn56, Hh56, Gg56⟩ := id V47
  have hin56 : ¬ (((ix <<< ((1 : Int32) &&& 31)) + (1 : Int32)) < 0 ∨ cl56.slots.size ≤ (((ix <<< ((1 : Int32) &&& 31)) + (1 : Int32))).toNatClampNeg) := inb_of S56 hI.2.2.1
  obtain ⟨T56, h56, X56, e56, W56, st56⟩ := stB X52 hx hZ e52 Ar56 (j := ((ix <<< ((1 : Int32) &&& 31)) + (1 : Int32))) hin56 (g := (mkF m 52 #[.val (.ref tb), .val (.int ((ix <<< ((1 : Int32) &&& 31)) + (1 : Int32))), .val (.int ch)] [(.int ((ch >>> ((8 : Int32) &&& 31)).toInt8.toInt32)), (.int ((ix <<< ((1 : Int32) &&& 31)) + (1 : Int32))), (.ref tb)])) rfl rfl (hb hby d_jdk_52_method_4_52)
  have V56 : Arv Z h56 tb kb .byte N2 ((vs.set (2 * jj) (.int (nar .byte ((ch >>> ((0 : Int32) &&& 31)).toInt8.toInt32)))).set (2 * jj + 1) (.int (nar .byte ((ch >>> ((8 : Int32) &&& 31)).toInt8.toInt32)))) (.int (0 : Int32)) := Arv.set Ar56 q56 S56 Nn56 Hh56 Gg56 (fits_nar_byte _) W56 (2 * jj + 1) hI.2.2.2 (by rw [List.length_set]; exact hlen)
  have N56 := Fr.snoc X56 N47 ge_tb
  have K57 : Go p e below T56 (mkF m 53 #[.val (.ref tb), .val (.int ((ix <<< ((1 : Int32) &&& 31)) + (1 : Int32))), .val (.int ch)] []) G := fun tq kq => K55 tq (st56 tq kq)
  have VL := V56
  rw [own_nb0, own_nb8] at VL
  obtain ⟨fs, hr, hrun, hended, hWW, hsame⟩ := X56.leave (v := none) (fun _ => rfl)
  refine ⟨_, _, hG _ (K57 _ (X56.returnOut hx Bd.returns (hb hby d_jdk_52_method_4_53) hr)), hrun, hended, _, _, rfl, ?_, ⟨_, rfl⟩, hWW, hsame.mono (by decide) (by decide)⟩
  show QPC Z tb kb N2 vs ix jj ch h0 n0 _ T56.heap _
  rw [e56]
  exact ⟨rfl, N56, (((Keep.refl h0 [tb]).wr W47 (Or.inl (List.mem_of_getElem? (i := 0) rfl))).wr W56 (Or.inl (List.mem_of_getElem? (i := 0) rfl))), VL⟩
theorem ef_jdk_52_method_5_RI (m : MethodId) (x0 : Addr) (x1 : Int32) : entryFrame m #[(.ref x0), (.int x1)] 2 = mkF m 0 #[.val (.ref x0), .val (.int x1)] [] := by first | (simp [entryFrame, mkF, argsToLocals, Value.category]; done) | rfl
theorem d_jdk_52_method_5_0 : decode jdk_52_method_5_code 0 = .ok (.getstatic 44, 3) := by decide +kernel
theorem d_jdk_52_method_5_3 : decode jdk_52_method_5_code 3 = .ok (.ifCond .ne 25, 3) := by decide +kernel
theorem d_jdk_52_method_5_28 : decode jdk_52_method_5_code 28 = .ok (.iload_n 1, 1) := by decide +kernel
theorem d_jdk_52_method_5_29 : decode jdk_52_method_5_code 29 = .ok (.iconst 1, 1) := by decide +kernel
theorem d_jdk_52_method_5_30 : decode jdk_52_method_5_code 30 = .ok (.ishl, 1) := by decide +kernel
theorem d_jdk_52_method_5_31 : decode jdk_52_method_5_code 31 = .ok (.istore_n 1, 1) := by decide +kernel
theorem d_jdk_52_method_5_32 : decode jdk_52_method_5_code 32 = .ok (.aload_n 0, 1) := by decide +kernel
theorem d_jdk_52_method_5_33 : decode jdk_52_method_5_code 33 = .ok (.iload_n 1, 1) := by decide +kernel
theorem d_jdk_52_method_5_34 : decode jdk_52_method_5_code 34 = .ok (.iinc 1 1, 3) := by decide +kernel
theorem d_jdk_52_method_5_37 : decode jdk_52_method_5_code 37 = .ok (.baload, 1) := by decide +kernel
theorem d_jdk_52_method_5_38 : decode jdk_52_method_5_code 38 = .ok (.sipush 255, 3) := by decide +kernel
theorem d_jdk_52_method_5_41 : decode jdk_52_method_5_code 41 = .ok (.iand, 1) := by decide +kernel
theorem d_jdk_52_method_5_42 : decode jdk_52_method_5_code 42 = .ok (.getstatic 59, 3) := by decide +kernel
theorem d_jdk_52_method_5_45 : decode jdk_52_method_5_code 45 = .ok (.ishl, 1) := by decide +kernel
theorem d_jdk_52_method_5_46 : decode jdk_52_method_5_code 46 = .ok (.aload_n 0, 1) := by decide +kernel
theorem d_jdk_52_method_5_47 : decode jdk_52_method_5_code 47 = .ok (.iload_n 1, 1) := by decide +kernel
theorem d_jdk_52_method_5_48 : decode jdk_52_method_5_code 48 = .ok (.baload, 1) := by decide +kernel
theorem d_jdk_52_method_5_49 : decode jdk_52_method_5_code 49 = .ok (.sipush 255, 3) := by decide +kernel
theorem d_jdk_52_method_5_52 : decode jdk_52_method_5_code 52 = .ok (.iand, 1) := by decide +kernel
theorem d_jdk_52_method_5_53 : decode jdk_52_method_5_code 53 = .ok (.getstatic 63, 3) := by decide +kernel
theorem d_jdk_52_method_5_56 : decode jdk_52_method_5_code 56 = .ok (.ishl, 1) := by decide +kernel
theorem d_jdk_52_method_5_57 : decode jdk_52_method_5_code 57 = .ok (.ior, 1) := by decide +kernel
theorem d_jdk_52_method_5_58 : decode jdk_52_method_5_code 58 = .ok (.i2c, 1) := by decide +kernel
theorem d_jdk_52_method_5_59 : decode jdk_52_method_5_code 59 = .ok (.ireturn, 1) := by decide +kernel
def QGC (Z : State) (tb : Addr) (kb : ClassId) (N2 : Int32) (vs : List Value) (ix : Int32) (jj : Nat) (ch : Int32) (h0 : Heap) (n0 : Nat) (v : Option Value) (h : Heap) (L : List Loc) : Prop := v = some (.int ch) ∧ Fr n0 L ∧ h = h0
set_option maxRecDepth 65536 in
set_option maxHeartbeats 40000000 in
theorem rmGC (l : Launch) (Z : State) (a0 : Array Value) (hw : ∀ d ∈ tables_1, d.before a0 Z = true) (ws : List Jvm.Cond) (tb : Addr) (kb : ClassId) (N2 : Int32) (vs : List Value) (ix : Int32) (jj : Nat) (ch : Int32) (h0 : Heap) (n0 : Nat) (Z0 : n0 ≤ h0.size) (O0 : Old Z n0 h0) (S_ad : Sta Z Z.heap "java/lang/StringUTF16" "$assertionsDisabled" "Z" (.int (1 : Int32))) (S_hi : Sta Z Z.heap "java/lang/StringUTF16" "HI_BYTE_SHIFT" "I" (.int (0 : Int32))) (S_lo : Sta Z Z.heap "java/lang/StringUTF16" "LO_BYTE_SHIFT" "I" (.int (8 : Int32))) (V_tb : Arv Z h0 tb kb .byte N2 vs (.int (0 : Int32))) (hI : own_Ix ix N2 jj) (hlo : vs.getD (2 * jj) (.int (0 : Int32)) = .int (StrChars.lo8 ch)) (hhi : vs.getD (2 * jj + 1) (.int (0 : Int32)) = .int (StrChars.hi8 ch)) (hrg : ¬ ch < 0 ∧ ¬ (65535 : Int32) < ch) :
    MetFree l (⟨"java/lang/StringUTF16", "getChar", "([BI)C"⟩ : MethodName) (head1 (Jvm.Cond.code (⟨"java/lang/StringUTF16", "getChar", "([BI)C"⟩ : MethodName) jdk_52_method_5_code 2 (some .char) :: ws) ({ frames := 0, cells := 0, slots := 0, locals := 0 } : Room)) (fun aa UU => aa = #[(.ref tb), (.int ix)] ∧ Z.Warmed39 UU.vm ∧ UU.heap = h0) (fun _ _ _ _ _ => True) (fun _ UU oo UU' => ∃ vv LL, oo = .returned vv ∧ QGC Z tb kb N2 vs ix jj ch h0 n0 vv UU'.heap LL ∧ FrameEnd UU oo UU' LL ({ frames := 0, cells := 0, slots := 0, locals := 0 } : Room).cells ({ frames := 0, cells := 0, slots := 0, locals := 0 } : Room).slots) := by
  refine MetFree.of_bodySF (plainFor_of_name pn_41) hisR ?_
  intro p e s m args below meth c s₁ Bd hml0 hP hK
  obtain ⟨rfl, hZ, hh⟩ := hP
  have hx := Bd.exec
  have hby := Bd.bytes
  have hml : c.maxLocals = 2 := hml0
  have hown : s.vm.findClass "java/lang/StringUTF16" = some m.cls := findClass_of_methodNamed Bd.named
  have hnm := (name_of_methodNamed Bd.named Bd.method).1
  have hW : ∀ (k : Nat) (d : Jvm.Cond), tables_1[k]? = some d → d.before a0 Z = true := fun k d h => hw d (List.mem_of_getElem? h)
  have X0 : Stand p l e ({ frames := 0, cells := 0, slots := 0, locals := 0 } : Room) s m #[(.ref tb), (.int ix)] below meth c s₁ [] 0 0 := Stand.of_body Bd
  have e0 : s₁.heap = h0 := by rw [← hh, Bd.state]; rfl
  have N0 := Fr.nil n0
  obtain ⟨G, hG, K0⟩ : ∃ G : State → Prop, (∀ tq, G tq → Steps p.tables e below (s₁.setTop (entryFrame m #[(.ref tb), (.int ix)] 2)) tq) ∧ Go p e below s₁ (mkF m 0 #[.val (.ref tb), .val (.int ix)] []) G := ⟨fun tq => Steps p.tables e below (s₁.setTop (entryFrame m #[(.ref tb), (.int ix)] 2)) tq, fun _ h => h, fun tq kq => castTop (ef_jdk_52_method_5_RI m tb ix) kq⟩
  obtain ⟨T58, X58, e58, st58⟩ := getS2 X0 hx hZ hown (host := "") (Or.inl (hW 93 _ rfl)) Via.refl e0 (S_ad.ext O0.2) (g := (mkF m 0 #[.val (.ref tb), .val (.int ix)] [])) rfl (hb hby d_jdk_52_method_5_0)
  have K59 : Go p e below T58 (mkF m 3 #[.val (.ref tb), .val (.int ix)] [(.int (1 : Int32))]) G := fun tq kq => K0 tq (st58 tq kq)
  have K60 : Go p e below T58 (mkF m 28 #[.val (.ref tb), .val (.int ix)] []) G := fun tq kq => K59 tq (XS.ifYes X58.here hx rfl (pc0 := 3) (pc' := 28) rfl (hb hby d_jdk_52_method_5_3) rfl ((if0 _ _).trans (feq (by decide : ¬ ((1 : Int32) = (0 : Int32)))).2) (by decide) (by decide) kq)
  have K61 : Go p e below T58 (mkF m 29 #[.val (.ref tb), .val (.int ix)] [(.int ix)]) G := fun tq kq => K60 tq (XS.iloadN X58.here hx rfl (hb hby d_jdk_52_method_5_28) rfl kq)
  have K62 : Go p e below T58 (mkF m 30 #[.val (.ref tb), .val (.int ix)] [(.int (1 : Int32)), (.int ix)]) G := fun tq kq => K61 tq (XS.iconst X58.here hx rfl (hb hby d_jdk_52_method_5_29) kq)
  have K63 : Go p e below T58 (mkF m 31 #[.val (.ref tb), .val (.int ix)] [(.int (ix <<< ((1 : Int32) &&& 31)))]) G := fun tq kq => K62 tq (XS.ishl X58.here hx rfl (hb hby d_jdk_52_method_5_30) rfl kq)
  have K64 : Go p e below T58 (mkF m 32 #[.val (.ref tb), .val (.int (ix <<< ((1 : Int32) &&& 31)))] []) G := fun tq kq => K63 tq (XS.istoreN X58.here hx rfl (hb hby d_jdk_52_method_5_31) rfl (l' := #[.val (.ref tb), .val (.int (ix <<< ((1 : Int32) &&& 31)))]) rfl kq)
  have K65 : Go p e below T58 (mkF m 33 #[.val (.ref tb), .val (.int (ix <<< ((1 : Int32) &&& 31)))] [(.ref tb)]) G := fun tq kq => K64 tq (XS.aloadN X58.here hx rfl (hb hby d_jdk_52_method_5_32) rfl rfl kq)
  have K66 : Go p e below T58 (mkF m 34 #[.val (.ref tb), .val (.int (ix <<< ((1 : Int32) &&& 31)))] [(.int (ix <<< ((1 : Int32) &&& 31))), (.ref tb)]) G := fun tq kq => K65 tq (XS.iloadN X58.here hx rfl (hb hby d_jdk_52_method_5_33) rfl kq)
  have K67 : Go p e below T58 (mkF m 37 #[.val (.ref tb), .val (.int ((ix <<< ((1 : Int32) &&& 31)) + (1 : Int32)))] [(.int (ix <<< ((1 : Int32) &&& 31))), (.ref tb)]) G := fun tq kq => K66 tq (XS.iinc X58.here hx rfl (hb hby d_jdk_52_method_5_34) rfl (l' := #[.val (.ref tb), .val (.int ((ix <<< ((1 : Int32) &&& 31)) + (1 : Int32)))]) rfl kq)
  obtain ⟨cl68, Ar68, q68, S68, Nn68, Hh68, Gg68⟩ := id V_tb
  have hin68 : ¬ ((ix <<< ((1 : Int32) &&& 31)) < 0 ∨ cl68.slots.size ≤ ((ix <<< ((1 : Int32) &&& 31))).toNatClampNeg) := inb_of S68 hI.1
  have hat68 := Has.at (v := (.int (StrChars.lo8 ch))) Hh68 hin68 (by rw [hI.2.1]; exact hlo)
  have K69 : Go p e below T58 (mkF m 38 #[.val (.ref tb), .val (.int ((ix <<< ((1 : Int32) &&& 31)) + (1 : Int32)))] [(.int (StrChars.lo8 ch))]) G := fun tq kq => K67 tq (X58.baloadBytes hx (j := (ix <<< ((1 : Int32) &&& 31))) (v := (.int (StrChars.lo8 ch))) (by rw [e58]; exact Ar68.1) (State.isArrayOf_alike hZ.alike Ar68.2.1) Ar68.2.2 hin68 hat68 (g := (mkF m 37 #[.val (.ref tb), .val (.int ((ix <<< ((1 : Int32) &&& 31)) + (1 : Int32)))] [(.int (ix <<< ((1 : Int32) &&& 31))), (.ref tb)])) rfl rfl (hb hby d_jdk_52_method_5_37) _ kq)
  have K70 : Go p e below T58 (mkF m 41 #[.val (.ref tb), .val (.int ((ix <<< ((1 : Int32) &&& 31)) + (1 : Int32)))] [(.int (255 : Int32)), (.int (StrChars.lo8 ch))]) G := fun tq kq => K69 tq (XS.sipush X58.here hx rfl (hb hby d_jdk_52_method_5_38) kq)
  have K71 : Go p e below T58 (mkF m 42 #[.val (.ref tb), .val (.int ((ix <<< ((1 : Int32) &&& 31)) + (1 : Int32)))] [(.int ((StrChars.lo8 ch) &&& (255 : Int32)))]) G := fun tq kq => K70 tq (XS.iand X58.here hx rfl (hb hby d_jdk_52_method_5_41) rfl kq)
  obtain ⟨T72, X72, e72, st72⟩ := getS2 X58 hx hZ hown (host := "") (Or.inl (hW 94 _ rfl)) Via.refl e58 (S_hi.ext O0.2) (g := (mkF m 42 #[.val (.ref tb), .val (.int ((ix <<< ((1 : Int32) &&& 31)) + (1 : Int32)))] [(.int ((StrChars.lo8 ch) &&& (255 : Int32)))])) rfl (hb hby d_jdk_52_method_5_42)
  have K73 : Go p e below T72 (mkF m 45 #[.val (.ref tb), .val (.int ((ix <<< ((1 : Int32) &&& 31)) + (1 : Int32)))] [(.int (0 : Int32)), (.int ((StrChars.lo8 ch) &&& (255 : Int32)))]) G := fun tq kq => K71 tq (st72 tq kq)
  have K74 : Go p e below T72 (mkF m 46 #[.val (.ref tb), .val (.int ((ix <<< ((1 : Int32) &&& 31)) + (1 : Int32)))] [(.int (((StrChars.lo8 ch) &&& (255 : Int32)) <<< ((0 : Int32) &&& 31)))]) G := fun tq kq => K73 tq (XS.ishl X72.here hx rfl (hb hby d_jdk_52_method_5_45) rfl kq)
  have K75 : Go p e below T72 (mkF m 47 #[.val (.ref tb), .val (.int ((ix <<< ((1 : Int32) &&& 31)) + (1 : Int32)))] [(.ref tb), (.int (((StrChars.lo8 ch) &&& (255 : Int32)) <<< ((0 : Int32) &&& 31)))]) G := fun tq kq => K74 tq (XS.aloadN X72.here hx rfl (hb hby d_jdk_52_method_5_46) rfl rfl kq)
  have K76 : Go p e below T72 (mkF m 48 #[.val (.ref tb), .val (.int ((ix <<< ((1 : Int32) &&& 31)) + (1 : Int32)))] [(.int ((ix <<< ((1 : Int32) &&& 31)) + (1 : Int32))), (.ref tb), (.int (((StrChars.lo8 ch) &&& (255 : Int32)) <<< ((0 : Int32) &&& 31)))]) G := fun tq kq => K75 tq (XS.iloadN X72.here hx rfl (hb hby d_jdk_52_method_5_47) rfl kq)
  obtain ⟨cl77, Ar77, q77, S77, Nn77, Hh77, Gg77⟩ := id V_tb
  have hin77 : ¬ (((ix <<< ((1 : Int32) &&& 31)) + (1 : Int32)) < 0 ∨ cl77.slots.size ≤ (((ix <<< ((1 : Int32) &&& 31)) + (1 : Int32))).toNatClampNeg) := inb_of S77 hI.2.2.1
  have hat77 := Has.at (v := (.int (StrChars.hi8 ch))) Hh77 hin77 (by rw [hI.2.2.2]; exact hhi)
  have K78 : Go p e below T72 (mkF m 49 #[.val (.ref tb), .val (.int ((ix <<< ((1 : Int32) &&& 31)) + (1 : Int32)))] [(.int (StrChars.hi8 ch)), (.int (((StrChars.lo8 ch) &&& (255 : Int32)) <<< ((0 : Int32) &&& 31)))]) G := fun tq kq => K76 tq (X72.baloadBytes hx (j := ((ix <<< ((1 : Int32) &&& 31)) + (1 : Int32))) (v := (.int (StrChars.hi8 ch))) (by rw [e72]; exact Ar77.1) (State.isArrayOf_alike hZ.alike Ar77.2.1) Ar77.2.2 hin77 hat77 (g := (mkF m 48 #[.val (.ref tb), .val (.int ((ix <<< ((1 : Int32) &&& 31)) + (1 : Int32)))] [(.int ((ix <<< ((1 : Int32) &&& 31)) + (1 : Int32))), (.ref tb), (.int (((StrChars.lo8 ch) &&& (255 : Int32)) <<< ((0 : Int32) &&& 31)))])) rfl rfl (hb hby d_jdk_52_method_5_48) _ kq)
  have K79 : Go p e below T72 (mkF m 52 #[.val (.ref tb), .val (.int ((ix <<< ((1 : Int32) &&& 31)) + (1 : Int32)))] [(.int (255 : Int32)), (.int (StrChars.hi8 ch)), (.int (((StrChars.lo8 ch) &&& (255 : Int32)) <<< ((0 : Int32) &&& 31)))]) G := fun tq kq => K78 tq (XS.sipush X72.here hx rfl (hb hby d_jdk_52_method_5_49) kq)
  have K80 : Go p e below T72 (mkF m 53 #[.val (.ref tb), .val (.int ((ix <<< ((1 : Int32) &&& 31)) + (1 : Int32)))] [(.int ((StrChars.hi8 ch) &&& (255 : Int32))), (.int (((StrChars.lo8 ch) &&& (255 : Int32)) <<< ((0 : Int32) &&& 31)))]) G := fun tq kq => K79 tq (XS.iand X72.here hx rfl (hb hby d_jdk_52_method_5_52) rfl kq)
  obtain ⟨T81, X81, e81, st81⟩ := getS2 X72 hx hZ hown (host := "") (Or.inl (hW 95 _ rfl)) Via.refl e72 (S_lo.ext O0.2) (g := (mkF m 53 #[.val (.ref tb), .val (.int ((ix <<< ((1 : Int32) &&& 31)) + (1 : Int32)))] [(.int ((StrChars.hi8 ch) &&& (255 : Int32))), (.int (((StrChars.lo8 ch) &&& (255 : Int32)) <<< ((0 : Int32) &&& 31)))])) rfl (hb hby d_jdk_52_method_5_53)
  have K82 : Go p e below T81 (mkF m 56 #[.val (.ref tb), .val (.int ((ix <<< ((1 : Int32) &&& 31)) + (1 : Int32)))] [(.int (8 : Int32)), (.int ((StrChars.hi8 ch) &&& (255 : Int32))), (.int (((StrChars.lo8 ch) &&& (255 : Int32)) <<< ((0 : Int32) &&& 31)))]) G := fun tq kq => K80 tq (st81 tq kq)
  have K83 : Go p e below T81 (mkF m 57 #[.val (.ref tb), .val (.int ((ix <<< ((1 : Int32) &&& 31)) + (1 : Int32)))] [(.int (((StrChars.hi8 ch) &&& (255 : Int32)) <<< ((8 : Int32) &&& 31))), (.int (((StrChars.lo8 ch) &&& (255 : Int32)) <<< ((0 : Int32) &&& 31)))]) G := fun tq kq => K82 tq (XS.ishl X81.here hx rfl (hb hby d_jdk_52_method_5_56) rfl kq)
  have K84 : Go p e below T81 (mkF m 58 #[.val (.ref tb), .val (.int ((ix <<< ((1 : Int32) &&& 31)) + (1 : Int32)))] [(.int ((((StrChars.lo8 ch) &&& (255 : Int32)) <<< ((0 : Int32) &&& 31)) ||| (((StrChars.hi8 ch) &&& (255 : Int32)) <<< ((8 : Int32) &&& 31))))]) G := fun tq kq => K83 tq (XS.ior X81.here hx rfl (hb hby d_jdk_52_method_5_57) rfl kq)
  have K85 : Go p e below T81 (mkF m 59 #[.val (.ref tb), .val (.int ((ix <<< ((1 : Int32) &&& 31)) + (1 : Int32)))] [(.int (((((StrChars.lo8 ch) &&& (255 : Int32)) <<< ((0 : Int32) &&& 31)) ||| (((StrChars.hi8 ch) &&& (255 : Int32)) <<< ((8 : Int32) &&& 31))).toUInt32.toUInt16.toUInt32.toInt32))]) G := fun tq kq => K84 tq (XS.i2c X81.here hx rfl (hb hby d_jdk_52_method_5_58) rfl kq)
  obtain ⟨fs, hr, hrun, hended, hWW, hsame⟩ := X81.leave (v := some (.int (nar .char (((((StrChars.lo8 ch) &&& (255 : Int32)) <<< ((0 : Int32) &&& 31)) ||| (((StrChars.hi8 ch) &&& (255 : Int32)) <<< ((8 : Int32) &&& 31))).toUInt32.toUInt16.toUInt32.toInt32)))) (fun h => by rw [Bd.returns] at h; cases h)
  refine ⟨_, _, hG _ (K85 _ (retN X81 hx (t := .char) Bd.returns (by simp) (hb hby d_jdk_52_method_5_59) hr)), hrun, hended, _, _, rfl, ?_, ⟨_, rfl⟩, hWW, hsame.mono (by decide) (by decide)⟩
  show QGC Z tb kb N2 vs ix jj ch h0 n0 _ T81.heap _
  rw [e81]
  exact ⟨congrArg (fun z => some (Value.int z)) (own_gc hrg), N0, rfl⟩
theorem ef_jdk_52_method_3_I (m : MethodId) (x0 : Int32) : entryFrame m #[(.int x0)] 1 = mkF m 0 #[.val (.int x0)] [] := by first | (simp [entryFrame, mkF, argsToLocals, Value.category]; done) | rfl
theorem d_jdk_52_method_3_0 : decode jdk_52_method_3_code 0 = .ok (.iload_n 0, 1) := by decide +kernel
theorem d_jdk_52_method_3_1 : decode jdk_52_method_3_code 1 = .ok (.ifCond .ge 11, 3) := by decide +kernel
theorem d_jdk_52_method_3_12 : decode jdk_52_method_3_code 12 = .ok (.iload_n 0, 1) := by decide +kernel
theorem d_jdk_52_method_3_13 : decode jdk_52_method_3_code 13 = .ok (.ldc 20, 2) := by decide +kernel
theorem d_jdk_52_method_3_15 : decode jdk_52_method_3_code 15 = .ok (.if_icmp .lt 40, 3) := by decide +kernel
theorem d_jdk_52_method_3_55 : decode jdk_52_method_3_code 55 = .ok (.iload_n 0, 1) := by decide +kernel
theorem d_jdk_52_method_3_56 : decode jdk_52_method_3_code 56 = .ok (.iconst 1, 1) := by decide +kernel
theorem d_jdk_52_method_3_57 : decode jdk_52_method_3_code 57 = .ok (.ishl, 1) := by decide +kernel
theorem d_jdk_52_method_3_58 : decode jdk_52_method_3_code 58 = .ok (.ireturn, 1) := by decide +kernel
def QNBL (Z : State) (nn : Int32) (h0 : Heap) (n0 : Nat) (v : Option Value) (h : Heap) (L : List Loc) : Prop := v = some (.int (nn <<< ((1 : Int32) &&& 31))) ∧ Fr n0 L ∧ h = h0
set_option maxRecDepth 65536 in
set_option maxHeartbeats 40000000 in
theorem rmNBL (l : Launch) (Z : State) (a0 : Array Value) (hw : ∀ d ∈ tables_1, d.before a0 Z = true) (ws : List Jvm.Cond) (nn : Int32) (h0 : Heap) (n0 : Nat) (Z0 : n0 ≤ h0.size) (h1 : ¬ (nn < (0 : Int32))) (h2 : nn < (1073741823 : Int32)) :
    MetFree l (⟨"java/lang/StringUTF16", "newBytesLength", "(I)I"⟩ : MethodName) (head1 (Jvm.Cond.code (⟨"java/lang/StringUTF16", "newBytesLength", "(I)I"⟩ : MethodName) jdk_52_method_3_code 1 (some .int) :: ws) ({ frames := 0, cells := 0, slots := 0, locals := 0 } : Room)) (fun aa UU => aa = #[(.int nn)] ∧ Z.Warmed39 UU.vm ∧ UU.heap = h0) (fun _ _ _ _ _ => True) (fun _ UU oo UU' => ∃ vv LL, oo = .returned vv ∧ QNBL Z nn h0 n0 vv UU'.heap LL ∧ FrameEnd UU oo UU' LL ({ frames := 0, cells := 0, slots := 0, locals := 0 } : Room).cells ({ frames := 0, cells := 0, slots := 0, locals := 0 } : Room).slots) := by
  refine MetFree.of_bodySF (plainFor_of_name pn_41) hisR ?_
  intro p e s m args below meth c s₁ Bd hml0 hP hK
  obtain ⟨rfl, hZ, hh⟩ := hP
  have hx := Bd.exec
  have hby := Bd.bytes
  have hml : c.maxLocals = 1 := hml0
  have hown : s.vm.findClass "java/lang/StringUTF16" = some m.cls := findClass_of_methodNamed Bd.named
  have hnm := (name_of_methodNamed Bd.named Bd.method).1
  have hW : ∀ (k : Nat) (d : Jvm.Cond), tables_1[k]? = some d → d.before a0 Z = true := fun k d h => hw d (List.mem_of_getElem? h)
  have X0 : Stand p l e ({ frames := 0, cells := 0, slots := 0, locals := 0 } : Room) s m #[(.int nn)] below meth c s₁ [] 0 0 := Stand.of_body Bd
  have e0 : s₁.heap = h0 := by rw [← hh, Bd.state]; rfl
  have N0 := Fr.nil n0
  obtain ⟨G, hG, K0⟩ : ∃ G : State → Prop, (∀ tq, G tq → Steps p.tables e below (s₁.setTop (entryFrame m #[(.int nn)] 1)) tq) ∧ Go p e below s₁ (mkF m 0 #[.val (.int nn)] []) G := ⟨fun tq => Steps p.tables e below (s₁.setTop (entryFrame m #[(.int nn)] 1)) tq, fun _ h => h, fun tq kq => castTop (ef_jdk_52_method_3_I m nn) kq⟩
  have K86 : Go p e below s₁ (mkF m 1 #[.val (.int nn)] [(.int nn)]) G := fun tq kq => K0 tq (XS.iloadN X0.here hx rfl (hb hby d_jdk_52_method_3_0) rfl kq)
  have K87 : Go p e below s₁ (mkF m 12 #[.val (.int nn)] []) G := fun tq kq => K86 tq (XS.ifYes X0.here hx rfl (pc0 := 1) (pc' := 12) rfl (hb hby d_jdk_52_method_3_1) rfl ((if0 _ _).trans (flt h1).2.1) (by decide) (by decide) kq)
  have K88 : Go p e below s₁ (mkF m 13 #[.val (.int nn)] [(.int nn)]) G := fun tq kq => K87 tq (XS.iloadN X0.here hx rfl (hb hby d_jdk_52_method_3_12) rfl kq)
  have K89 : Go p e below s₁ (mkF m 15 #[.val (.int nn)] [(.int (1073741823 : Int32)), (.int nn)]) G := fun tq kq => K88 tq (X0.ldcInt hx hown (mvT hZ (hW 89 _ rfl)) (g := (mkF m 13 #[.val (.int nn)] [(.int nn)])) rfl (hb hby d_jdk_52_method_3_13) _ kq)
  have K90 : Go p e below s₁ (mkF m 55 #[.val (.int nn)] []) G := fun tq kq => K89 tq (XS.icmpYes X0.here hx rfl (pc0 := 15) (pc' := 55) rfl (hb hby d_jdk_52_method_3_15) rfl ((tlt h2).1) (by decide) (by decide) kq)
  have K91 : Go p e below s₁ (mkF m 56 #[.val (.int nn)] [(.int nn)]) G := fun tq kq => K90 tq (XS.iloadN X0.here hx rfl (hb hby d_jdk_52_method_3_55) rfl kq)
  have K92 : Go p e below s₁ (mkF m 57 #[.val (.int nn)] [(.int (1 : Int32)), (.int nn)]) G := fun tq kq => K91 tq (XS.iconst X0.here hx rfl (hb hby d_jdk_52_method_3_56) kq)
  have K93 : Go p e below s₁ (mkF m 58 #[.val (.int nn)] [(.int (nn <<< ((1 : Int32) &&& 31)))]) G := fun tq kq => K92 tq (XS.ishl X0.here hx rfl (hb hby d_jdk_52_method_3_57) rfl kq)
  obtain ⟨fs, hr, hrun, hended, hWW, hsame⟩ := X0.leave (v := some (.int (nn <<< ((1 : Int32) &&& 31)))) (fun h => by rw [Bd.returns] at h; cases h)
  refine ⟨_, _, hG _ (K93 _ (retOut X0 hx Bd.returns rfl (Or.inl ⟨rfl, Or.inl rfl, _, rfl⟩) (hb hby d_jdk_52_method_3_58) hr)), hrun, hended, _, _, rfl, ?_, ⟨_, rfl⟩, hWW, hsame.mono (by decide) (by decide)⟩
  show QNBL Z nn h0 n0 _ s₁.heap _
  rw [e0]
  exact ⟨rfl, N0, rfl⟩
theorem ef_jdk_52_method_2_I (m : MethodId) (x0 : Int32) : entryFrame m #[(.int x0)] 1 = mkF m 0 #[.val (.int x0)] [] := by first | (simp [entryFrame, mkF, argsToLocals, Value.category]; done) | rfl
theorem pd_101 : parseMethodDescriptor "(I)I" = some ⟨[.int], some .int⟩ := by decide +kernel
theorem d_jdk_52_method_2_0 : decode jdk_52_method_2_code 0 = .ok (.iload_n 0, 1) := by decide +kernel
theorem d_jdk_52_method_2_1 : decode jdk_52_method_2_code 1 = .ok (.invokestatic 11, 3) := by decide +kernel
theorem d_jdk_52_method_2_4 : decode jdk_52_method_2_code 4 = .ok (.newarray .byte, 2) := by decide +kernel
theorem d_jdk_52_method_2_6 : decode jdk_52_method_2_code 6 = .ok (.areturn, 1) := by decide +kernel
def QNB1 (Z : State)  (h0 : Heap) (n0 : Nat) (v : Option Value) (h : Heap) (L : List Loc) : Prop := ∃ (tb : Addr) (kb : ClassId), v = some (.ref tb) ∧ Fr n0 L ∧ Keep h0 h [] ∧ h0.size ≤ tb ∧ n0 ≤ tb ∧ Arv Z h tb kb .byte (2 : Int32) [(.int (0 : Int32)), (.int (0 : Int32))] (.int (0 : Int32))
set_option maxRecDepth 65536 in
set_option maxHeartbeats 40000000 in
theorem rmNB1 (l : Launch) (Z : State) (a0 : Array Value) (hw : ∀ d ∈ tables_1, d.before a0 Z = true) (ws : List Jvm.Cond)  (h0 : Heap) (n0 : Nat) (Z0 : n0 ≤ h0.size) :
    MetFree l (⟨"java/lang/StringUTF16", "newBytesFor", "(I)[B"⟩ : MethodName) (head1 (Jvm.Cond.code (⟨"java/lang/StringUTF16", "newBytesFor", "(I)[B"⟩ : MethodName) jdk_52_method_2_code 1 (some (.array .byte)) :: ws) ({ frames := 1, cells := 1, slots := 2, locals := 12 } : Room)) (fun aa UU => aa = #[(.int (1 : Int32))] ∧ Z.Warmed39 UU.vm ∧ UU.heap = h0) (fun _ _ _ _ _ => True) (fun _ UU oo UU' => ∃ vv LL, oo = .returned vv ∧ QNB1 Z  h0 n0 vv UU'.heap LL ∧ FrameEnd UU oo UU' LL ({ frames := 1, cells := 1, slots := 2, locals := 12 } : Room).cells ({ frames := 1, cells := 1, slots := 2, locals := 12 } : Room).slots) := by
  refine MetFree.of_bodySF (plainFor_of_name pn_41) hisR ?_
  intro p e s m args below meth c s₁ Bd hml0 hP hK
  obtain ⟨rfl, hZ, hh⟩ := hP
  have hx := Bd.exec
  have hby := Bd.bytes
  have hml : c.maxLocals = 1 := hml0
  have hown : s.vm.findClass "java/lang/StringUTF16" = some m.cls := findClass_of_methodNamed Bd.named
  have hnm := (name_of_methodNamed Bd.named Bd.method).1
  have hW : ∀ (k : Nat) (d : Jvm.Cond), tables_1[k]? = some d → d.before a0 Z = true := fun k d h => hw d (List.mem_of_getElem? h)
  have X0 : Stand p l e ({ frames := 1, cells := 1, slots := 2, locals := 12 } : Room) s m #[(.int (1 : Int32))] below meth c s₁ [] 0 0 := Stand.of_body Bd
  have e0 : s₁.heap = h0 := by rw [← hh, Bd.state]; rfl
  have N0 := Fr.nil n0
  obtain ⟨G, hG, K0⟩ : ∃ G : State → Prop, (∀ tq, G tq → Steps p.tables e below (s₁.setTop (entryFrame m #[(.int (1 : Int32))] 1)) tq) ∧ Go p e below s₁ (mkF m 0 #[.val (.int (1 : Int32))] []) G := ⟨fun tq => Steps p.tables e below (s₁.setTop (entryFrame m #[(.int (1 : Int32))] 1)) tq, fun _ h => h, fun tq kq => castTop (ef_jdk_52_method_2_I m (1 : Int32)) kq⟩
  have K94 : Go p e below s₁ (mkF m 1 #[.val (.int (1 : Int32))] [(.int (1 : Int32))]) G := fun tq kq => K0 tq (XS.iloadN X0.here hx rfl (hb hby d_jdk_52_method_2_0) rfl kq)
  obtain ⟨v95, _, ⟨T95, L95, k95, n95⟩, -, X95, ⟨Lc95, hQ95, l95, y95, z95⟩, st95⟩ := Jvm.LawKit.callS X0 hx (y := (⟨"java/lang/StringUTF16", "newBytesLength", "(I)I"⟩ : MethodName)) hown (mvT hZ (hW 86 _ rfl)) (mvT hZ (hW 87 _ rfl)) (mvT hZ (hW 47 _ rfl)) (mvT hZ (hW 88 _ rfl)) (by decide) (backOf (W := 0) (rmNBL l Z a0 hw [] (1 : Int32) h0 n0 Z0 (by decide) (by decide)) hZ (hW 88 _ rfl) (hW 47 _ rfl) (by decide) (by decide)) (g := (mkF m 1 #[.val (.int (1 : Int32))] [(.int (1 : Int32))])) rfl (by rw [hml]; rfl) (argsL := [(.int (1 : Int32))]) (rest := []) (lenOf pd_101 rfl) rfl (by show 2 * 0 + _ ≤ _; exact Nat.le_of_eq rfl) (hb hby d_jdk_52_method_2_1) (fun _ _ => ⟨rfl, e0, (by decide : 0 + 0 ≤ _), (by decide : 0 + 0 ≤ _)⟩)
  dsimp only [Pt.U, Pt.locs, Pt.cells, Pt.slots] at X95 l95 y95 z95 st95 hQ95
  subst l95 y95 z95
  have hs95 : ((1 : Int32) <<< ((1 : Int32) &&& 31)) = (2 : Int32) := by decide
  rw [QNBL, hs95] at hQ95
  obtain ⟨rfl, N95q, E95q⟩ := hQ95
  have N95 := Fr.app N0 N95q
  have K96 : Go p e below T95 (mkF m 4 #[.val (.int (1 : Int32))] [(.int (2 : Int32))]) G := fun tq kq => K94 tq (st95 tq kq)
  obtain ⟨T97, h97, k97, X97, e97, E97, A97, st97⟩ := newP X95 hx hZ (hW 23 _ rfl) E95q (g := (mkF m 4 #[.val (.int (1 : Int32))] [(.int (2 : Int32))])) rfl (hb hby d_jdk_52_method_2_4) rfl (by decide) (cap := 2) (by decide) (by decide) (by decide) (by decide)
  obtain ⟨b97, g97⟩ : ∃ z, z = h0.size := ⟨_, rfl⟩
  rw [← g97] at A97 st97
  have ge_b97 : n0 ≤ b97 := Nat.le_trans Z0 (Nat.le_of_eq g97.symm)
  have sz_b97 : h0.size ≤ b97 := Nat.le_trans ((Keep.refl h0 [])).1 (Nat.le_of_eq g97.symm)
  have V97 : Arv Z h97 b97 k97 .byte (2 : Int32) [(.int (0 : Int32)), (.int (0 : Int32))] (.int (0 : Int32)) := (Arv.new A97 (by decide)).pad (pad_rep [] (.int (0 : Int32)) 2)
  have K98 : Go p e below T97 (mkF m 6 #[.val (.int (1 : Int32))] [(.ref b97)]) G := fun tq kq => K96 tq (st97 tq kq)
  obtain ⟨fs, hr, hrun, hended, hWW, hsame⟩ := X97.leave (v := some (.ref b97)) (fun h => by rw [Bd.returns] at h; cases h)
  refine ⟨_, _, hG _ (K98 _ (retOut X97 hx Bd.returns rfl (Or.inr (Or.inr (Or.inr (Or.inr ⟨rfl, rfl, rfl⟩)))) (hb hby d_jdk_52_method_2_6) hr)), hrun, hended, _, _, rfl, ?_, ⟨_, rfl⟩, hWW, hsame.mono (by decide) (by decide)⟩
  show QNB1 Z  h0 n0 _ T97.heap _
  rw [e97]
  exact ⟨b97, _, rfl, N95, ((Keep.refl h0 []).ext E97), sz_b97, ge_b97, V97⟩
theorem ef_jdk_52_method_14_RII (m : MethodId) (x0 : Addr) (x1 : Int32) (x2 : Int32) : entryFrame m #[(.ref x0), (.int x1), (.int x2)] 5 = mkF m 0 #[.val (.ref x0), .val (.int x1), .val (.int x2), .unset, .unset] [] := by first | (simp [entryFrame, mkF, argsToLocals, Value.category]; done) | rfl
theorem pd_107 : parseMethodDescriptor "(I)[B" = some ⟨[.int], some (.array .byte)⟩ := by decide +kernel
theorem pd_108 : parseMethodDescriptor "([BII)V" = some ⟨[(.array .byte), .int, .int], none⟩ := by decide +kernel
theorem d_jdk_52_method_14_0 : decode jdk_52_method_14_code 0 = .ok (.iload_n 2, 1) := by decide +kernel
theorem d_jdk_52_method_14_1 : decode jdk_52_method_14_code 1 = .ok (.invokestatic 107, 3) := by decide +kernel
theorem d_jdk_52_method_14_4 : decode jdk_52_method_14_code 4 = .ok (.astore_n 3, 1) := by decide +kernel
theorem d_jdk_52_method_14_5 : decode jdk_52_method_14_code 5 = .ok (.iconst 0, 1) := by decide +kernel
theorem d_jdk_52_method_14_6 : decode jdk_52_method_14_code 6 = .ok (.istore 4, 2) := by decide +kernel
theorem d_jdk_52_method_14_8 : decode jdk_52_method_14_code 8 = .ok (.iload 4, 2) := by decide +kernel
theorem d_jdk_52_method_14_10 : decode jdk_52_method_14_code 10 = .ok (.iload_n 2, 1) := by decide +kernel
theorem d_jdk_52_method_14_11 : decode jdk_52_method_14_code 11 = .ok (.if_icmp .ge 21, 3) := by decide +kernel
theorem d_jdk_52_method_14_14 : decode jdk_52_method_14_code 14 = .ok (.aload_n 3, 1) := by decide +kernel
theorem d_jdk_52_method_14_15 : decode jdk_52_method_14_code 15 = .ok (.iload 4, 2) := by decide +kernel
theorem d_jdk_52_method_14_17 : decode jdk_52_method_14_code 17 = .ok (.aload_n 0, 1) := by decide +kernel
theorem d_jdk_52_method_14_18 : decode jdk_52_method_14_code 18 = .ok (.iload_n 1, 1) := by decide +kernel
theorem d_jdk_52_method_14_19 : decode jdk_52_method_14_code 19 = .ok (.caload, 1) := by decide +kernel
theorem d_jdk_52_method_14_20 : decode jdk_52_method_14_code 20 = .ok (.invokestatic 111, 3) := by decide +kernel
theorem d_jdk_52_method_14_23 : decode jdk_52_method_14_code 23 = .ok (.iinc 1 1, 3) := by decide +kernel
theorem d_jdk_52_method_14_26 : decode jdk_52_method_14_code 26 = .ok (.iinc 4 1, 3) := by decide +kernel
theorem d_jdk_52_method_14_29 : decode jdk_52_method_14_code 29 = .ok (.goto (-21), 3) := by decide +kernel
theorem d_jdk_52_method_14_32 : decode jdk_52_method_14_code 32 = .ok (.aload_n 3, 1) := by decide +kernel
theorem d_jdk_52_method_14_33 : decode jdk_52_method_14_code 33 = .ok (.areturn, 1) := by decide +kernel
def QTB1 (Z : State) (b : Addr) (kc : ClassId) (c0 : Int32) (h0 : Heap) (n0 : Nat) (v : Option Value) (h : Heap) (L : List Loc) : Prop := ∃ (tb : Addr) (kb : ClassId), v = some (.ref tb) ∧ Fr n0 L ∧ Keep h0 h [] ∧ h0.size ≤ tb ∧ n0 ≤ tb ∧ Arv Z h tb kb .byte (2 : Int32) (StrChars.Road.wideBytes ([c0] : List Int32)) (.int (0 : Int32))
set_option maxRecDepth 65536 in
set_option maxHeartbeats 40000000 in
theorem rmTB1 (l : Launch) (Z : State) (a0 : Array Value) (hw : ∀ d ∈ tables_1, d.before a0 Z = true) (ws : List Jvm.Cond) (b : Addr) (kc : ClassId) (c0 : Int32) (h0 : Heap) (n0 : Nat) (Z0 : n0 ≤ h0.size) (O0 : Old Z n0 h0) (S_ad : Sta Z Z.heap "java/lang/StringUTF16" "$assertionsDisabled" "Z" (.int (1 : Int32))) (S_hi : Sta Z Z.heap "java/lang/StringUTF16" "HI_BYTE_SHIFT" "I" (.int (0 : Int32))) (S_lo : Sta Z Z.heap "java/lang/StringUTF16" "LO_BYTE_SHIFT" "I" (.int (8 : Int32))) (V_b : Arv Z h0 b kc .char (1 : Int32) [(.int c0)] (.int (0 : Int32))) :
    MetFree l (⟨"java/lang/StringUTF16", "toBytes", "([CII)[B"⟩ : MethodName) (head1 (Jvm.Cond.code (⟨"java/lang/StringUTF16", "toBytes", "([CII)[B"⟩ : MethodName) jdk_52_method_14_code 5 (some (.array .byte)) :: ws) ({ frames := 2, cells := 1, slots := 2, locals := 24 } : Room)) (fun aa UU => aa = #[(.ref b), (.int (0 : Int32)), (.int (1 : Int32))] ∧ Z.Warmed39 UU.vm ∧ UU.heap = h0) (fun _ _ _ _ _ => True) (fun _ UU oo UU' => ∃ vv LL, oo = .returned vv ∧ QTB1 Z b kc c0 h0 n0 vv UU'.heap LL ∧ FrameEnd UU oo UU' LL ({ frames := 2, cells := 1, slots := 2, locals := 24 } : Room).cells ({ frames := 2, cells := 1, slots := 2, locals := 24 } : Room).slots) := by
  refine MetFree.of_bodySF (plainFor_of_name pn_41) hisR ?_
  intro p e s m args below meth c s₁ Bd hml0 hP hK
  obtain ⟨rfl, hZ, hh⟩ := hP
  have hx := Bd.exec
  have hby := Bd.bytes
  have hml : c.maxLocals = 5 := hml0
  have hown : s.vm.findClass "java/lang/StringUTF16" = some m.cls := findClass_of_methodNamed Bd.named
  have hnm := (name_of_methodNamed Bd.named Bd.method).1
  have hW : ∀ (k : Nat) (d : Jvm.Cond), tables_1[k]? = some d → d.before a0 Z = true := fun k d h => hw d (List.mem_of_getElem? h)
  have X0 : Stand p l e ({ frames := 2, cells := 1, slots := 2, locals := 24 } : Room) s m #[(.ref b), (.int (0 : Int32)), (.int (1 : Int32))] below meth c s₁ [] 0 0 := Stand.of_body Bd
  have e0 : s₁.heap = h0 := by rw [← hh, Bd.state]; rfl
  have N0 := Fr.nil n0
  obtain ⟨G, hG, K0⟩ : ∃ G : State → Prop, (∀ tq, G tq → Steps p.tables e below (s₁.setTop (entryFrame m #[(.ref b), (.int (0 : Int32)), (.int (1 : Int32))] 5)) tq) ∧ Go p e below s₁ (mkF m 0 #[.val (.ref b), .val (.int (0 : Int32)), .val (.int (1 : Int32)), .unset, .unset] []) G := ⟨fun tq => Steps p.tables e below (s₁.setTop (entryFrame m #[(.ref b), (.int (0 : Int32)), (.int (1 : Int32))] 5)) tq, fun _ h => h, fun tq kq => castTop (ef_jdk_52_method_14_RII m b (0 : Int32) (1 : Int32)) kq⟩
  have K99 : Go p e below s₁ (mkF m 1 #[.val (.ref b), .val (.int (0 : Int32)), .val (.int (1 : Int32)), .unset, .unset] [(.int (1 : Int32))]) G := fun tq kq => K0 tq (XS.iloadN X0.here hx rfl (hb hby d_jdk_52_method_14_0) rfl kq)
  obtain ⟨v100, _, ⟨T100, L100, k100, n100⟩, -, X100, ⟨Lc100, hQ100, l100, y100, z100⟩, st100⟩ := Jvm.LawKit.callS X0 hx (y := (⟨"java/lang/StringUTF16", "newBytesFor", "(I)[B"⟩ : MethodName)) hown (mvT hZ (hW 83 _ rfl)) (mvT hZ (hW 84 _ rfl)) (mvT hZ (hW 47 _ rfl)) (mvT hZ (hW 85 _ rfl)) (by decide) (backOf (W := 0) (rmNB1 l Z a0 hw [] h0 n0 Z0) hZ (hW 85 _ rfl) (hW 47 _ rfl) (by decide) (by decide)) (g := (mkF m 1 #[.val (.ref b), .val (.int (0 : Int32)), .val (.int (1 : Int32)), .unset, .unset] [(.int (1 : Int32))])) rfl (by rw [hml]; rfl) (argsL := [(.int (1 : Int32))]) (rest := []) (lenOf pd_107 rfl) rfl (by show 2 * 0 + _ ≤ _; exact Nat.le_of_eq rfl) (hb hby d_jdk_52_method_14_1) (fun _ _ => ⟨rfl, e0, (by decide : 0 + 1 ≤ _), (by decide : 0 + 2 ≤ _)⟩)
  dsimp only [Pt.U, Pt.locs, Pt.cells, Pt.slots] at X100 l100 y100 z100 st100 hQ100
  subst l100 y100 z100
  obtain ⟨tb100, kb100, rfl, N100q, K100q, sz100, ge100, V100q⟩ := hQ100
  have N100 := Fr.app N0 N100q
  have na101 : b ≠ tb100 := Nat.ne_of_lt (Nat.lt_of_lt_of_le V_b.lt sz100)
  have sb100 := Nat.le_trans ((Keep.refl h0 [])).1 sz100
  have K102 : Go p e below T100 (mkF m 4 #[.val (.ref b), .val (.int (0 : Int32)), .val (.int (1 : Int32)), .unset, .unset] [(.ref tb100)]) G := fun tq kq => K99 tq (st100 tq kq)
  have K103 : Go p e below T100 (mkF m 5 #[.val (.ref b), .val (.int (0 : Int32)), .val (.int (1 : Int32)), .val (.ref tb100), .unset] []) G := fun tq kq => K102 tq (XS.astoreN X100.here hx rfl (hb hby d_jdk_52_method_14_4) rfl rfl (l' := #[.val (.ref b), .val (.int (0 : Int32)), .val (.int (1 : Int32)), .val (.ref tb100), .unset]) rfl kq)
  have K104 : Go p e below T100 (mkF m 6 #[.val (.ref b), .val (.int (0 : Int32)), .val (.int (1 : Int32)), .val (.ref tb100), .unset] [(.int (0 : Int32))]) G := fun tq kq => K103 tq (XS.iconst X100.here hx rfl (hb hby d_jdk_52_method_14_5) kq)
  have K105 : Go p e below T100 (mkF m 8 #[.val (.ref b), .val (.int (0 : Int32)), .val (.int (1 : Int32)), .val (.ref tb100), .val (.int (0 : Int32))] []) G := fun tq kq => K104 tq (XS.istore X100.here hx rfl (hb hby d_jdk_52_method_14_6) rfl (l' := #[.val (.ref b), .val (.int (0 : Int32)), .val (.int (1 : Int32)), .val (.ref tb100), .val (.int (0 : Int32))]) rfl kq)
  have K106 : Go p e below T100 (mkF m 10 #[.val (.ref b), .val (.int (0 : Int32)), .val (.int (1 : Int32)), .val (.ref tb100), .val (.int (0 : Int32))] [(.int (0 : Int32))]) G := fun tq kq => K105 tq (XS.iload X100.here hx rfl (hb hby d_jdk_52_method_14_8) rfl kq)
  have K107 : Go p e below T100 (mkF m 11 #[.val (.ref b), .val (.int (0 : Int32)), .val (.int (1 : Int32)), .val (.ref tb100), .val (.int (0 : Int32))] [(.int (1 : Int32)), (.int (0 : Int32))]) G := fun tq kq => K106 tq (XS.iloadN X100.here hx rfl (hb hby d_jdk_52_method_14_10) rfl kq)
  have K108 : Go p e below T100 (mkF m 14 #[.val (.ref b), .val (.int (0 : Int32)), .val (.int (1 : Int32)), .val (.ref tb100), .val (.int (0 : Int32))] []) G := fun tq kq => K107 tq (XS.icmpNo X100.here hx rfl (hb hby d_jdk_52_method_14_11) rfl ((tlt (by decide : (0 : Int32) < (1 : Int32))).2.1) kq)
  have K109 : Go p e below T100 (mkF m 15 #[.val (.ref b), .val (.int (0 : Int32)), .val (.int (1 : Int32)), .val (.ref tb100), .val (.int (0 : Int32))] [(.ref tb100)]) G := fun tq kq => K108 tq (XS.aloadN X100.here hx rfl (hb hby d_jdk_52_method_14_14) rfl rfl kq)
  have K110 : Go p e below T100 (mkF m 17 #[.val (.ref b), .val (.int (0 : Int32)), .val (.int (1 : Int32)), .val (.ref tb100), .val (.int (0 : Int32))] [(.int (0 : Int32)), (.ref tb100)]) G := fun tq kq => K109 tq (XS.iload X100.here hx rfl (hb hby d_jdk_52_method_14_15) rfl kq)
  have K111 : Go p e below T100 (mkF m 18 #[.val (.ref b), .val (.int (0 : Int32)), .val (.int (1 : Int32)), .val (.ref tb100), .val (.int (0 : Int32))] [(.ref b), (.int (0 : Int32)), (.ref tb100)]) G := fun tq kq => K110 tq (XS.aloadN X100.here hx rfl (hb hby d_jdk_52_method_14_17) rfl rfl kq)
  have K112 : Go p e below T100 (mkF m 19 #[.val (.ref b), .val (.int (0 : Int32)), .val (.int (1 : Int32)), .val (.ref tb100), .val (.int (0 : Int32))] [(.int (0 : Int32)), (.ref b), (.int (0 : Int32)), (.ref tb100)]) G := fun tq kq => K111 tq (XS.iloadN X100.here hx rfl (hb hby d_jdk_52_method_14_18) rfl kq)
  obtain ⟨cl113, Ar113, q113, S113, Nn113, Hh113, Gg113⟩ := id (V_b.keep K100q nin0)
  have hin113 : ¬ ((0 : Int32) < 0 ∨ cl113.slots.size ≤ ((0 : Int32)).toNatClampNeg) := inb_of S113 ⟨by decide, by decide⟩
  have hat113 := Has.at (v := (.int c0)) Hh113 hin113 rfl
  have K114 : Go p e below T100 (mkF m 20 #[.val (.ref b), .val (.int (0 : Int32)), .val (.int (1 : Int32)), .val (.ref tb100), .val (.int (0 : Int32))] [(.int c0), (.int (0 : Int32)), (.ref tb100)]) G := fun tq kq => K112 tq (X100.caload hx (j := (0 : Int32)) (v := (.int c0)) Ar113.1 (State.isArrayOf_alike hZ.alike Ar113.2.1) Ar113.2.2 hin113 hat113 (g := (mkF m 19 #[.val (.ref b), .val (.int (0 : Int32)), .val (.int (1 : Int32)), .val (.ref tb100), .val (.int (0 : Int32))] [(.int (0 : Int32)), (.ref b), (.int (0 : Int32)), (.ref tb100)])) rfl rfl (hb hby d_jdk_52_method_14_19) _ kq)
  obtain ⟨v115, _, ⟨T115, L115, k115, n115⟩, -, X115, ⟨Lc115, hQ115, l115, y115, z115⟩, st115⟩ := Jvm.LawKit.callS X100 hx (y := (⟨"java/lang/StringUTF16", "putChar", "([BII)V"⟩ : MethodName)) hown (mvT hZ (hW 90 _ rfl)) (mvT hZ (hW 91 _ rfl)) (mvT hZ (hW 47 _ rfl)) (mvT hZ (hW 92 _ rfl)) (by decide) (backOf (W := 0) (rmPC l Z a0 hw [] tb100 kb100 (2 : Int32) [(.int (0 : Int32)), (.int (0 : Int32))] (0 : Int32) 0 c0 T100.heap n0 (Nat.le_trans Z0 K100q.1) (O0.keep K100q all0) S_ad S_hi S_lo ge100 V100q (by decide +kernel) (Nat.le_of_ble_eq_true rfl)) hZ (hW 92 _ rfl) (hW 47 _ rfl) (by decide) (by decide)) (g := (mkF m 20 #[.val (.ref b), .val (.int (0 : Int32)), .val (.int (1 : Int32)), .val (.ref tb100), .val (.int (0 : Int32))] [(.int c0), (.int (0 : Int32)), (.ref tb100)])) rfl (by rw [hml]; rfl) (argsL := [(.ref tb100), (.int (0 : Int32)), (.int c0)]) (rest := []) (lenOf pd_108 rfl) rfl (by show 2 * 0 + _ ≤ _; exact Nat.le_of_eq rfl) (hb hby d_jdk_52_method_14_20) (fun _ _ => ⟨rfl, rfl, (by decide : 1 + 0 ≤ _), (by decide : 2 + 0 ≤ _)⟩)
  dsimp only [Pt.U, Pt.locs, Pt.cells, Pt.slots] at X115 l115 y115 z115 st115 hQ115
  subst l115 y115 z115
  obtain ⟨rfl, N115q, K115q, V115q⟩ := hQ115
  have N115 := Fr.app N100 N115q
  have V115r : Arv Z T115.heap tb100 kb100 .byte (2 : Int32) [(.int (StrChars.lo8 c0)), (.int (StrChars.hi8 c0))] (.int (0 : Int32)) := V115q
  have K116 : Go p e below T115 (mkF m 23 #[.val (.ref b), .val (.int (0 : Int32)), .val (.int (1 : Int32)), .val (.ref tb100), .val (.int (0 : Int32))] []) G := fun tq kq => K114 tq (st115 tq kq)
  have K117 : Go p e below T115 (mkF m 26 #[.val (.ref b), .val (.int (1 : Int32)), .val (.int (1 : Int32)), .val (.ref tb100), .val (.int (0 : Int32))] []) G := fun tq kq => K116 tq (XS.iinc X115.here hx rfl (hb hby d_jdk_52_method_14_23) rfl (l' := #[.val (.ref b), .val (.int (1 : Int32)), .val (.int (1 : Int32)), .val (.ref tb100), .val (.int (0 : Int32))]) rfl kq)
  have K118 : Go p e below T115 (mkF m 29 #[.val (.ref b), .val (.int (1 : Int32)), .val (.int (1 : Int32)), .val (.ref tb100), .val (.int (1 : Int32))] []) G := fun tq kq => K117 tq (XS.iinc X115.here hx rfl (hb hby d_jdk_52_method_14_26) rfl (l' := #[.val (.ref b), .val (.int (1 : Int32)), .val (.int (1 : Int32)), .val (.ref tb100), .val (.int (1 : Int32))]) rfl kq)
  have K119 : Go p e below T115 (mkF m 8 #[.val (.ref b), .val (.int (1 : Int32)), .val (.int (1 : Int32)), .val (.ref tb100), .val (.int (1 : Int32))] []) G := fun tq kq => K118 tq (XS.goto X115.here hx rfl (pc0 := 29) (pc' := 8) rfl (hb hby d_jdk_52_method_14_29) (by decide) (by decide) kq)
  have K120 : Go p e below T115 (mkF m 10 #[.val (.ref b), .val (.int (1 : Int32)), .val (.int (1 : Int32)), .val (.ref tb100), .val (.int (1 : Int32))] [(.int (1 : Int32))]) G := fun tq kq => K119 tq (XS.iload X115.here hx rfl (hb hby d_jdk_52_method_14_8) rfl kq)
  have K121 : Go p e below T115 (mkF m 11 #[.val (.ref b), .val (.int (1 : Int32)), .val (.int (1 : Int32)), .val (.ref tb100), .val (.int (1 : Int32))] [(.int (1 : Int32)), (.int (1 : Int32))]) G := fun tq kq => K120 tq (XS.iloadN X115.here hx rfl (hb hby d_jdk_52_method_14_10) rfl kq)
  have K122 : Go p e below T115 (mkF m 32 #[.val (.ref b), .val (.int (1 : Int32)), .val (.int (1 : Int32)), .val (.ref tb100), .val (.int (1 : Int32))] []) G := fun tq kq => K121 tq (XS.icmpYes X115.here hx rfl (pc0 := 11) (pc' := 32) rfl (hb hby d_jdk_52_method_14_11) rfl ((flt (by decide : ¬ ((1 : Int32) < (1 : Int32)))).2.1) (by decide) (by decide) kq)
  have K123 : Go p e below T115 (mkF m 33 #[.val (.ref b), .val (.int (1 : Int32)), .val (.int (1 : Int32)), .val (.ref tb100), .val (.int (1 : Int32))] [(.ref tb100)]) G := fun tq kq => K122 tq (XS.aloadN X115.here hx rfl (hb hby d_jdk_52_method_14_32) rfl rfl kq)
  obtain ⟨fs, hr, hrun, hended, hWW, hsame⟩ := X115.leave (v := some (.ref tb100)) (fun h => by rw [Bd.returns] at h; cases h)
  refine ⟨_, _, hG _ (K123 _ (retOut X115 hx Bd.returns rfl (Or.inr (Or.inr (Or.inr (Or.inr ⟨rfl, rfl, rfl⟩)))) (hb hby d_jdk_52_method_14_33) hr)), hrun, hended, _, _, rfl, ?_, ⟨_, rfl⟩, hWW, hsame.mono (by decide) (by decide)⟩
  show QTB1 Z b kc c0 h0 n0 _ T115.heap _
  exact ⟨tb100, _, rfl, N115, (((Keep.refl h0 []).trans K100q all0).trans K115q (allS (Or.inr sb100) all0)), sb100, ge100, V115r⟩
theorem ef_jdk_52_method_21_RIRII (m : MethodId) (x0 : Addr) (x1 : Int32) (x2 : Addr) (x3 : Int32) (x4 : Int32) : entryFrame m #[(.ref x0), (.int x1), (.ref x2), (.int x3), (.int x4)] 7 = mkF m 0 #[.val (.ref x0), .val (.int x1), .val (.ref x2), .val (.int x3), .val (.int x4), .unset, .unset] [] := by first | (simp [entryFrame, mkF, argsToLocals, Value.category]; done) | rfl
theorem d_jdk_52_method_21_0 : decode jdk_52_method_21_code 0 = .ok (.iconst 0, 1) := by decide +kernel
theorem d_jdk_52_method_21_1 : decode jdk_52_method_21_code 1 = .ok (.istore 5, 2) := by decide +kernel
theorem d_jdk_52_method_21_3 : decode jdk_52_method_21_code 3 = .ok (.iload 5, 2) := by decide +kernel
theorem d_jdk_52_method_21_5 : decode jdk_52_method_21_code 5 = .ok (.iload 4, 2) := by decide +kernel
theorem d_jdk_52_method_21_7 : decode jdk_52_method_21_code 7 = .ok (.if_icmp .ge 37, 3) := by decide +kernel
theorem d_jdk_52_method_21_10 : decode jdk_52_method_21_code 10 = .ok (.aload_n 0, 1) := by decide +kernel
theorem d_jdk_52_method_21_11 : decode jdk_52_method_21_code 11 = .ok (.iload_n 1, 1) := by decide +kernel
theorem d_jdk_52_method_21_12 : decode jdk_52_method_21_code 12 = .ok (.caload, 1) := by decide +kernel
theorem d_jdk_52_method_21_13 : decode jdk_52_method_21_code 13 = .ok (.istore 6, 2) := by decide +kernel
theorem d_jdk_52_method_21_15 : decode jdk_52_method_21_code 15 = .ok (.iload 6, 2) := by decide +kernel
theorem d_jdk_52_method_21_17 : decode jdk_52_method_21_code 17 = .ok (.sipush 255, 3) := by decide +kernel
theorem d_jdk_52_method_21_20 : decode jdk_52_method_21_code 20 = .ok (.if_icmp .le 6, 3) := by decide +kernel
theorem d_jdk_52_method_21_23 : decode jdk_52_method_21_code 23 = .ok (.iload 5, 2) := by decide +kernel
theorem d_jdk_52_method_21_25 : decode jdk_52_method_21_code 25 = .ok (.ireturn, 1) := by decide +kernel
theorem d_jdk_52_method_21_26 : decode jdk_52_method_21_code 26 = .ok (.aload_n 2, 1) := by decide +kernel
theorem d_jdk_52_method_21_27 : decode jdk_52_method_21_code 27 = .ok (.iload_n 3, 1) := by decide +kernel
theorem d_jdk_52_method_21_28 : decode jdk_52_method_21_code 28 = .ok (.iload 6, 2) := by decide +kernel
theorem d_jdk_52_method_21_30 : decode jdk_52_method_21_code 30 = .ok (.i2b, 1) := by decide +kernel
theorem d_jdk_52_method_21_31 : decode jdk_52_method_21_code 31 = .ok (.bastore, 1) := by decide +kernel
theorem d_jdk_52_method_21_32 : decode jdk_52_method_21_code 32 = .ok (.iinc 1 1, 3) := by decide +kernel
theorem d_jdk_52_method_21_35 : decode jdk_52_method_21_code 35 = .ok (.iinc 3 1, 3) := by decide +kernel
theorem d_jdk_52_method_21_38 : decode jdk_52_method_21_code 38 = .ok (.iinc 5 1, 3) := by decide +kernel
theorem d_jdk_52_method_21_41 : decode jdk_52_method_21_code 41 = .ok (.goto (-38), 3) := by decide +kernel
theorem d_jdk_52_method_21_44 : decode jdk_52_method_21_code 44 = .ok (.iload 4, 2) := by decide +kernel
theorem d_jdk_52_method_21_46 : decode jdk_52_method_21_code 46 = .ok (.ireturn, 1) := by decide +kernel
def QCP1 (Z : State) (b : Addr) (dd : Addr) (kc : ClassId) (kd : ClassId) (c0 : Int32) (h0 : Heap) (n0 : Nat) (v : Option Value) (h : Heap) (L : List Loc) : Prop := ∃ j : Nat, v = some (.int (Int32.ofNat j)) ∧ j < 1 ∧ (255 : Int32) < ([c0] : List Int32).getD j 0 ∧ Fr n0 L ∧ Keep h0 h [dd]
set_option maxRecDepth 65536 in
set_option maxHeartbeats 40000000 in
theorem rmCP1 (l : Launch) (Z : State) (a0 : Array Value) (hw : ∀ d ∈ tables_1, d.before a0 Z = true) (ws : List Jvm.Cond) (b : Addr) (dd : Addr) (kc : ClassId) (kd : ClassId) (c0 : Int32) (h0 : Heap) (n0 : Nat) (Z0 : n0 ≤ h0.size) (ge_dd : n0 ≤ dd) (nbd : b ≠ dd) (V_b : Arv Z h0 b kc .char (1 : Int32) [(.int c0)] (.int (0 : Int32))) (V_dd : Arv Z h0 dd kd .byte (1 : Int32) [(.int (0 : Int32))] (.int (0 : Int32))) (hwd : ¬ ∀ c ∈ ([c0] : List Int32), ¬ (255 : Int32) < c) :
    MetFree l (⟨"java/lang/StringUTF16", "compress", "([CI[BII)I"⟩ : MethodName) (head1 (Jvm.Cond.code (⟨"java/lang/StringUTF16", "compress", "([CI[BII)I"⟩ : MethodName) jdk_52_method_21_code 7 (some .int) :: ws) ({ frames := 0, cells := 0, slots := 0, locals := 0 } : Room)) (fun aa UU => aa = #[(.ref b), (.int (0 : Int32)), (.ref dd), (.int (0 : Int32)), (.int (1 : Int32))] ∧ Z.Warmed39 UU.vm ∧ UU.heap = h0) (fun _ _ _ _ _ => True) (fun _ UU oo UU' => ∃ vv LL, oo = .returned vv ∧ QCP1 Z b dd kc kd c0 h0 n0 vv UU'.heap LL ∧ FrameEnd UU oo UU' LL ({ frames := 0, cells := 0, slots := 0, locals := 0 } : Room).cells ({ frames := 0, cells := 0, slots := 0, locals := 0 } : Room).slots) := by
  refine MetFree.of_bodySF (plainFor_of_name pn_41) hisR ?_
  intro p e s m args below meth c s₁ Bd hml0 hP hK
  obtain ⟨rfl, hZ, hh⟩ := hP
  have hx := Bd.exec
  have hby := Bd.bytes
  have hml : c.maxLocals = 7 := hml0
  have hown : s.vm.findClass "java/lang/StringUTF16" = some m.cls := findClass_of_methodNamed Bd.named
  have hnm := (name_of_methodNamed Bd.named Bd.method).1
  have hW : ∀ (k : Nat) (d : Jvm.Cond), tables_1[k]? = some d → d.before a0 Z = true := fun k d h => hw d (List.mem_of_getElem? h)
  have X0 : Stand p l e ({ frames := 0, cells := 0, slots := 0, locals := 0 } : Room) s m #[(.ref b), (.int (0 : Int32)), (.ref dd), (.int (0 : Int32)), (.int (1 : Int32))] below meth c s₁ [] 0 0 := Stand.of_body Bd
  have e0 : s₁.heap = h0 := by rw [← hh, Bd.state]; rfl
  have N0 := Fr.nil n0
  obtain ⟨G, hG, K0⟩ : ∃ G : State → Prop, (∀ tq, G tq → Steps p.tables e below (s₁.setTop (entryFrame m #[(.ref b), (.int (0 : Int32)), (.ref dd), (.int (0 : Int32)), (.int (1 : Int32))] 7)) tq) ∧ Go p e below s₁ (mkF m 0 #[.val (.ref b), .val (.int (0 : Int32)), .val (.ref dd), .val (.int (0 : Int32)), .val (.int (1 : Int32)), .unset, .unset] []) G := ⟨fun tq => Steps p.tables e below (s₁.setTop (entryFrame m #[(.ref b), (.int (0 : Int32)), (.ref dd), (.int (0 : Int32)), (.int (1 : Int32))] 7)) tq, fun _ h => h, fun tq kq => castTop (ef_jdk_52_method_21_RIRII m b (0 : Int32) dd (0 : Int32) (1 : Int32)) kq⟩
  have K124 : Go p e below s₁ (mkF m 1 #[.val (.ref b), .val (.int (0 : Int32)), .val (.ref dd), .val (.int (0 : Int32)), .val (.int (1 : Int32)), .unset, .unset] [(.int (0 : Int32))]) G := fun tq kq => K0 tq (XS.iconst X0.here hx rfl (hb hby d_jdk_52_method_21_0) kq)
  have K125 : Go p e below s₁ (mkF m 3 #[.val (.ref b), .val (.int (0 : Int32)), .val (.ref dd), .val (.int (0 : Int32)), .val (.int (1 : Int32)), .val (.int (0 : Int32)), .unset] []) G := fun tq kq => K124 tq (XS.istore X0.here hx rfl (hb hby d_jdk_52_method_21_1) rfl (l' := #[.val (.ref b), .val (.int (0 : Int32)), .val (.ref dd), .val (.int (0 : Int32)), .val (.int (1 : Int32)), .val (.int (0 : Int32)), .unset]) rfl kq)
  have K126 : Go p e below s₁ (mkF m 5 #[.val (.ref b), .val (.int (0 : Int32)), .val (.ref dd), .val (.int (0 : Int32)), .val (.int (1 : Int32)), .val (.int (0 : Int32)), .unset] [(.int (0 : Int32))]) G := fun tq kq => K125 tq (XS.iload X0.here hx rfl (hb hby d_jdk_52_method_21_3) rfl kq)
  have K127 : Go p e below s₁ (mkF m 7 #[.val (.ref b), .val (.int (0 : Int32)), .val (.ref dd), .val (.int (0 : Int32)), .val (.int (1 : Int32)), .val (.int (0 : Int32)), .unset] [(.int (1 : Int32)), (.int (0 : Int32))]) G := fun tq kq => K126 tq (XS.iload X0.here hx rfl (hb hby d_jdk_52_method_21_5) rfl kq)
  have K128 : Go p e below s₁ (mkF m 10 #[.val (.ref b), .val (.int (0 : Int32)), .val (.ref dd), .val (.int (0 : Int32)), .val (.int (1 : Int32)), .val (.int (0 : Int32)), .unset] []) G := fun tq kq => K127 tq (XS.icmpNo X0.here hx rfl (hb hby d_jdk_52_method_21_7) rfl ((tlt (by decide : (0 : Int32) < (1 : Int32))).2.1) kq)
  have K129 : Go p e below s₁ (mkF m 11 #[.val (.ref b), .val (.int (0 : Int32)), .val (.ref dd), .val (.int (0 : Int32)), .val (.int (1 : Int32)), .val (.int (0 : Int32)), .unset] [(.ref b)]) G := fun tq kq => K128 tq (XS.aloadN X0.here hx rfl (hb hby d_jdk_52_method_21_10) rfl rfl kq)
  have K130 : Go p e below s₁ (mkF m 12 #[.val (.ref b), .val (.int (0 : Int32)), .val (.ref dd), .val (.int (0 : Int32)), .val (.int (1 : Int32)), .val (.int (0 : Int32)), .unset] [(.int (0 : Int32)), (.ref b)]) G := fun tq kq => K129 tq (XS.iloadN X0.here hx rfl (hb hby d_jdk_52_method_21_11) rfl kq)
  obtain ⟨cl131, Ar131, q131, S131, Nn131, Hh131, Gg131⟩ := id V_b
  have hin131 : ¬ ((0 : Int32) < 0 ∨ cl131.slots.size ≤ ((0 : Int32)).toNatClampNeg) := inb_of S131 ⟨by decide, by decide⟩
  have hat131 := Has.at (v := (.int c0)) Hh131 hin131 rfl
  have K132 : Go p e below s₁ (mkF m 13 #[.val (.ref b), .val (.int (0 : Int32)), .val (.ref dd), .val (.int (0 : Int32)), .val (.int (1 : Int32)), .val (.int (0 : Int32)), .unset] [(.int c0)]) G := fun tq kq => K130 tq (X0.caload hx (j := (0 : Int32)) (v := (.int c0)) (by rw [e0]; exact Ar131.1) (State.isArrayOf_alike hZ.alike Ar131.2.1) Ar131.2.2 hin131 hat131 (g := (mkF m 12 #[.val (.ref b), .val (.int (0 : Int32)), .val (.ref dd), .val (.int (0 : Int32)), .val (.int (1 : Int32)), .val (.int (0 : Int32)), .unset] [(.int (0 : Int32)), (.ref b)])) rfl rfl (hb hby d_jdk_52_method_21_12) _ kq)
  have K133 : Go p e below s₁ (mkF m 15 #[.val (.ref b), .val (.int (0 : Int32)), .val (.ref dd), .val (.int (0 : Int32)), .val (.int (1 : Int32)), .val (.int (0 : Int32)), .val (.int c0)] []) G := fun tq kq => K132 tq (XS.istore X0.here hx rfl (hb hby d_jdk_52_method_21_13) rfl (l' := #[.val (.ref b), .val (.int (0 : Int32)), .val (.ref dd), .val (.int (0 : Int32)), .val (.int (1 : Int32)), .val (.int (0 : Int32)), .val (.int c0)]) rfl kq)
  have K134 : Go p e below s₁ (mkF m 17 #[.val (.ref b), .val (.int (0 : Int32)), .val (.ref dd), .val (.int (0 : Int32)), .val (.int (1 : Int32)), .val (.int (0 : Int32)), .val (.int c0)] [(.int c0)]) G := fun tq kq => K133 tq (XS.iload X0.here hx rfl (hb hby d_jdk_52_method_21_15) rfl kq)
  have K135 : Go p e below s₁ (mkF m 20 #[.val (.ref b), .val (.int (0 : Int32)), .val (.ref dd), .val (.int (0 : Int32)), .val (.int (1 : Int32)), .val (.int (0 : Int32)), .val (.int c0)] [(.int (255 : Int32)), (.int c0)]) G := fun tq kq => K134 tq (XS.sipush X0.here hx rfl (hb hby d_jdk_52_method_21_17) kq)
  by_cases hc136 : (255 : Int32) < c0
  · skip
    have K137 : Go p e below s₁ (mkF m 23 #[.val (.ref b), .val (.int (0 : Int32)), .val (.ref dd), .val (.int (0 : Int32)), .val (.int (1 : Int32)), .val (.int (0 : Int32)), .val (.int c0)] []) G := fun tq kq => K135 tq (XS.icmpNo X0.here hx rfl (hb hby d_jdk_52_method_21_20) rfl ((tlt hc136).2.2.2) kq)
    have K138 : Go p e below s₁ (mkF m 25 #[.val (.ref b), .val (.int (0 : Int32)), .val (.ref dd), .val (.int (0 : Int32)), .val (.int (1 : Int32)), .val (.int (0 : Int32)), .val (.int c0)] [(.int (0 : Int32))]) G := fun tq kq => K137 tq (XS.iload X0.here hx rfl (hb hby d_jdk_52_method_21_23) rfl kq)
    obtain ⟨fs, hr, hrun, hended, hWW, hsame⟩ := X0.leave (v := some (.int (0 : Int32))) (fun h => by rw [Bd.returns] at h; cases h)
    refine ⟨_, _, hG _ (K138 _ (retOut X0 hx Bd.returns rfl (Or.inl ⟨rfl, Or.inl rfl, _, rfl⟩) (hb hby d_jdk_52_method_21_25) hr)), hrun, hended, _, _, rfl, ?_, ⟨_, rfl⟩, hWW, hsame.mono (by decide) (by decide)⟩
    show QCP1 Z b dd kc kd c0 h0 n0 _ s₁.heap _
    rw [e0]
    exact ⟨0, rfl, by decide, hc136, N0, (Keep.refl h0 [dd])⟩
  · skip
    have K139 : Go p e below s₁ (mkF m 26 #[.val (.ref b), .val (.int (0 : Int32)), .val (.ref dd), .val (.int (0 : Int32)), .val (.int (1 : Int32)), .val (.int (0 : Int32)), .val (.int c0)] []) G := fun tq kq => K135 tq (XS.icmpYes X0.here hx rfl (pc0 := 20) (pc' := 26) rfl (hb hby d_jdk_52_method_21_20) rfl ((flt hc136).2.2.2) (by decide) (by decide) kq)
    have K140 : Go p e below s₁ (mkF m 27 #[.val (.ref b), .val (.int (0 : Int32)), .val (.ref dd), .val (.int (0 : Int32)), .val (.int (1 : Int32)), .val (.int (0 : Int32)), .val (.int c0)] [(.ref dd)]) G := fun tq kq => K139 tq (XS.aloadN X0.here hx rfl (hb hby d_jdk_52_method_21_26) rfl rfl kq)
    have K141 : Go p e below s₁ (mkF m 28 #[.val (.ref b), .val (.int (0 : Int32)), .val (.ref dd), .val (.int (0 : Int32)), .val (.int (1 : Int32)), .val (.int (0 : Int32)), .val (.int c0)] [(.int (0 : Int32)), (.ref dd)]) G := fun tq kq => K140 tq (XS.iloadN X0.here hx rfl (hb hby d_jdk_52_method_21_27) rfl kq)
    have K142 : Go p e below s₁ (mkF m 30 #[.val (.ref b), .val (.int (0 : Int32)), .val (.ref dd), .val (.int (0 : Int32)), .val (.int (1 : Int32)), .val (.int (0 : Int32)), .val (.int c0)] [(.int c0), (.int (0 : Int32)), (.ref dd)]) G := fun tq kq => K141 tq (XS.iload X0.here hx rfl (hb hby d_jdk_52_method_21_28) rfl kq)
    have K143 : Go p e below s₁ (mkF m 31 #[.val (.ref b), .val (.int (0 : Int32)), .val (.ref dd), .val (.int (0 : Int32)), .val (.int (1 : Int32)), .val (.int (0 : Int32)), .val (.int c0)] [(.int (c0.toInt8.toInt32)), (.int (0 : Int32)), (.ref dd)]) G := fun tq kq => K142 tq (XS.i2b X0.here hx rfl (hb hby d_jdk_52_method_21_30) rfl kq)
    obtain ⟨cl144, Ar144, q144, S144, Nn144, Hh144, Gg144⟩ := id V_dd
    have hin144 : ¬ ((0 : Int32) < 0 ∨ cl144.slots.size ≤ ((0 : Int32)).toNatClampNeg) := inb_of S144 ⟨by decide, by decide⟩
    obtain ⟨T144, h144, X144, e144, W144, st144⟩ := stB X0 hx hZ e0 Ar144 (j := (0 : Int32)) hin144 (g := (mkF m 31 #[.val (.ref b), .val (.int (0 : Int32)), .val (.ref dd), .val (.int (0 : Int32)), .val (.int (1 : Int32)), .val (.int (0 : Int32)), .val (.int c0)] [(.int (c0.toInt8.toInt32)), (.int (0 : Int32)), (.ref dd)])) rfl rfl (hb hby d_jdk_52_method_21_31)
    have V144 : Arv Z h144 dd kd .byte (1 : Int32) [(.int (nar .byte (c0.toInt8.toInt32)))] (.int (0 : Int32)) := Arv.set Ar144 q144 S144 Nn144 Hh144 Gg144 (fits_nar_byte _) W144 0 rfl (Nat.le_of_ble_eq_true rfl)
    have N144 := Fr.snoc X144 N0 ge_dd
    have K145 : Go p e below T144 (mkF m 32 #[.val (.ref b), .val (.int (0 : Int32)), .val (.ref dd), .val (.int (0 : Int32)), .val (.int (1 : Int32)), .val (.int (0 : Int32)), .val (.int c0)] []) G := fun tq kq => K143 tq (st144 tq kq)
    have K146 : Go p e below T144 (mkF m 35 #[.val (.ref b), .val (.int (1 : Int32)), .val (.ref dd), .val (.int (0 : Int32)), .val (.int (1 : Int32)), .val (.int (0 : Int32)), .val (.int c0)] []) G := fun tq kq => K145 tq (XS.iinc X144.here hx rfl (hb hby d_jdk_52_method_21_32) rfl (l' := #[.val (.ref b), .val (.int (1 : Int32)), .val (.ref dd), .val (.int (0 : Int32)), .val (.int (1 : Int32)), .val (.int (0 : Int32)), .val (.int c0)]) rfl kq)
    have K147 : Go p e below T144 (mkF m 38 #[.val (.ref b), .val (.int (1 : Int32)), .val (.ref dd), .val (.int (1 : Int32)), .val (.int (1 : Int32)), .val (.int (0 : Int32)), .val (.int c0)] []) G := fun tq kq => K146 tq (XS.iinc X144.here hx rfl (hb hby d_jdk_52_method_21_35) rfl (l' := #[.val (.ref b), .val (.int (1 : Int32)), .val (.ref dd), .val (.int (1 : Int32)), .val (.int (1 : Int32)), .val (.int (0 : Int32)), .val (.int c0)]) rfl kq)
    have K148 : Go p e below T144 (mkF m 41 #[.val (.ref b), .val (.int (1 : Int32)), .val (.ref dd), .val (.int (1 : Int32)), .val (.int (1 : Int32)), .val (.int (1 : Int32)), .val (.int c0)] []) G := fun tq kq => K147 tq (XS.iinc X144.here hx rfl (hb hby d_jdk_52_method_21_38) rfl (l' := #[.val (.ref b), .val (.int (1 : Int32)), .val (.ref dd), .val (.int (1 : Int32)), .val (.int (1 : Int32)), .val (.int (1 : Int32)), .val (.int c0)]) rfl kq)
    have K149 : Go p e below T144 (mkF m 3 #[.val (.ref b), .val (.int (1 : Int32)), .val (.ref dd), .val (.int (1 : Int32)), .val (.int (1 : Int32)), .val (.int (1 : Int32)), .val (.int c0)] []) G := fun tq kq => K148 tq (XS.goto X144.here hx rfl (pc0 := 41) (pc' := 3) rfl (hb hby d_jdk_52_method_21_41) (by decide) (by decide) kq)
    have K150 : Go p e below T144 (mkF m 5 #[.val (.ref b), .val (.int (1 : Int32)), .val (.ref dd), .val (.int (1 : Int32)), .val (.int (1 : Int32)), .val (.int (1 : Int32)), .val (.int c0)] [(.int (1 : Int32))]) G := fun tq kq => K149 tq (XS.iload X144.here hx rfl (hb hby d_jdk_52_method_21_3) rfl kq)
    have K151 : Go p e below T144 (mkF m 7 #[.val (.ref b), .val (.int (1 : Int32)), .val (.ref dd), .val (.int (1 : Int32)), .val (.int (1 : Int32)), .val (.int (1 : Int32)), .val (.int c0)] [(.int (1 : Int32)), (.int (1 : Int32))]) G := fun tq kq => K150 tq (XS.iload X144.here hx rfl (hb hby d_jdk_52_method_21_5) rfl kq)
    have K152 : Go p e below T144 (mkF m 44 #[.val (.ref b), .val (.int (1 : Int32)), .val (.ref dd), .val (.int (1 : Int32)), .val (.int (1 : Int32)), .val (.int (1 : Int32)), .val (.int c0)] []) G := fun tq kq => K151 tq (XS.icmpYes X144.here hx rfl (pc0 := 7) (pc' := 44) rfl (hb hby d_jdk_52_method_21_7) rfl ((flt (by decide : ¬ ((1 : Int32) < (1 : Int32)))).2.1) (by decide) (by decide) kq)
    have K153 : Go p e below T144 (mkF m 46 #[.val (.ref b), .val (.int (1 : Int32)), .val (.ref dd), .val (.int (1 : Int32)), .val (.int (1 : Int32)), .val (.int (1 : Int32)), .val (.int c0)] [(.int (1 : Int32))]) G := fun tq kq => K152 tq (XS.iload X144.here hx rfl (hb hby d_jdk_52_method_21_44) rfl kq)
    exact absurd (by
      intro c hc
      simp only [List.mem_cons, List.not_mem_nil, or_false] at hc
      rcases hc with rfl
      · exact hc136) hwd
theorem ef_jdk_52_method_16_RII (m : MethodId) (x0 : Addr) (x1 : Int32) (x2 : Int32) : entryFrame m #[(.ref x0), (.int x1), (.int x2)] 6 = mkF m 0 #[.val (.ref x0), .val (.int x1), .val (.int x2), .unset, .unset, .unset] [] := by first | (simp [entryFrame, mkF, argsToLocals, Value.category]; done) | rfl
theorem pd_155 : parseMethodDescriptor "([CI[BII)I" = some ⟨[(.array .char), .int, (.array .byte), .int, .int], some .int⟩ := by decide +kernel
theorem pd_156 : parseMethodDescriptor "([CII)[B" = some ⟨[(.array .char), .int, .int], some (.array .byte)⟩ := by decide +kernel
theorem pd_157 : parseMethodDescriptor "([BI)C" = some ⟨[(.array .byte), .int], some .char⟩ := by decide +kernel
theorem d_jdk_52_method_16_0 : decode jdk_52_method_16_code 0 = .ok (.iload_n 2, 1) := by decide +kernel
theorem d_jdk_52_method_16_1 : decode jdk_52_method_16_code 1 = .ok (.newarray .byte, 2) := by decide +kernel
theorem d_jdk_52_method_16_3 : decode jdk_52_method_16_code 3 = .ok (.astore_n 3, 1) := by decide +kernel
theorem d_jdk_52_method_16_4 : decode jdk_52_method_16_code 4 = .ok (.aload_n 0, 1) := by decide +kernel
theorem d_jdk_52_method_16_5 : decode jdk_52_method_16_code 5 = .ok (.iload_n 1, 1) := by decide +kernel
theorem d_jdk_52_method_16_6 : decode jdk_52_method_16_code 6 = .ok (.aload_n 3, 1) := by decide +kernel
theorem d_jdk_52_method_16_7 : decode jdk_52_method_16_code 7 = .ok (.iconst 0, 1) := by decide +kernel
theorem d_jdk_52_method_16_8 : decode jdk_52_method_16_code 8 = .ok (.iload_n 2, 1) := by decide +kernel
theorem d_jdk_52_method_16_9 : decode jdk_52_method_16_code 9 = .ok (.invokestatic 115, 3) := by decide +kernel
theorem d_jdk_52_method_16_12 : decode jdk_52_method_16_code 12 = .ok (.istore 4, 2) := by decide +kernel
theorem d_jdk_52_method_16_14 : decode jdk_52_method_16_code 14 = .ok (.iload 4, 2) := by decide +kernel
theorem d_jdk_52_method_16_16 : decode jdk_52_method_16_code 16 = .ok (.iload_n 2, 1) := by decide +kernel
theorem d_jdk_52_method_16_17 : decode jdk_52_method_16_code 17 = .ok (.if_icmp .eq 40, 3) := by decide +kernel
theorem d_jdk_52_method_16_20 : decode jdk_52_method_16_code 20 = .ok (.aload_n 0, 1) := by decide +kernel
theorem d_jdk_52_method_16_21 : decode jdk_52_method_16_code 21 = .ok (.iload_n 1, 1) := by decide +kernel
theorem d_jdk_52_method_16_22 : decode jdk_52_method_16_code 22 = .ok (.iload_n 2, 1) := by decide +kernel
theorem d_jdk_52_method_16_23 : decode jdk_52_method_16_code 23 = .ok (.invokestatic 119, 3) := by decide +kernel
theorem d_jdk_52_method_16_26 : decode jdk_52_method_16_code 26 = .ok (.astore 5, 2) := by decide +kernel
theorem d_jdk_52_method_16_28 : decode jdk_52_method_16_code 28 = .ok (.aload 5, 2) := by decide +kernel
theorem d_jdk_52_method_16_30 : decode jdk_52_method_16_code 30 = .ok (.iload 4, 2) := by decide +kernel
theorem d_jdk_52_method_16_32 : decode jdk_52_method_16_code 32 = .ok (.invokestatic 71, 3) := by decide +kernel
theorem d_jdk_52_method_16_35 : decode jdk_52_method_16_code 35 = .ok (.sipush 255, 3) := by decide +kernel
theorem d_jdk_52_method_16_38 : decode jdk_52_method_16_code 38 = .ok (.if_icmp .gt 16, 3) := by decide +kernel
theorem d_jdk_52_method_16_54 : decode jdk_52_method_16_code 54 = .ok (.aload 5, 2) := by decide +kernel
theorem d_jdk_52_method_16_56 : decode jdk_52_method_16_code 56 = .ok (.areturn, 1) := by decide +kernel
def QCM1 (Z : State) (b : Addr) (kc : ClassId) (c0 : Int32) (h0 : Heap) (n0 : Nat) (v : Option Value) (h : Heap) (L : List Loc) : Prop := ∃ (tb : Addr) (kb : ClassId), v = some (.ref tb) ∧ Fr n0 L ∧ Keep h0 h [] ∧ h0.size ≤ tb ∧ n0 ≤ tb ∧ Arv Z h tb kb .byte (2 : Int32) (StrChars.Road.wideBytes ([c0] : List Int32)) (.int (0 : Int32))
set_option maxRecDepth 65536 in
set_option maxHeartbeats 40000000 in
theorem rmCM1 (l : Launch) (Z : State) (a0 : Array Value) (hw : ∀ d ∈ tables_1, d.before a0 Z = true) (ws : List Jvm.Cond) (b : Addr) (kc : ClassId) (c0 : Int32) (h0 : Heap) (n0 : Nat) (Z0 : n0 ≤ h0.size) (O0 : Old Z n0 h0) (S_ad : Sta Z Z.heap "java/lang/StringUTF16" "$assertionsDisabled" "Z" (.int (1 : Int32))) (S_hi : Sta Z Z.heap "java/lang/StringUTF16" "HI_BYTE_SHIFT" "I" (.int (0 : Int32))) (S_lo : Sta Z Z.heap "java/lang/StringUTF16" "LO_BYTE_SHIFT" "I" (.int (8 : Int32))) (V_b : Arv Z h0 b kc .char (1 : Int32) [(.int c0)] (.int (0 : Int32))) (hwd : ¬ ∀ c ∈ ([c0] : List Int32), ¬ (255 : Int32) < c) (hb5 : ∀ c ∈ ([c0] : List Int32), ¬ c < 0 ∧ ¬ (65535 : Int32) < c) :
    MetFree l (⟨"java/lang/StringUTF16", "compress", "([CII)[B"⟩ : MethodName) (head1 (Jvm.Cond.code (⟨"java/lang/StringUTF16", "compress", "([CII)[B"⟩ : MethodName) jdk_52_method_16_code 6 (some (.array .byte)) :: ws) ({ frames := 3, cells := 2, slots := 3, locals := 40 } : Room)) (fun aa UU => aa = #[(.ref b), (.int (0 : Int32)), (.int (1 : Int32))] ∧ Z.Warmed39 UU.vm ∧ UU.heap = h0) (fun _ _ _ _ _ => True) (fun _ UU oo UU' => ∃ vv LL, oo = .returned vv ∧ QCM1 Z b kc c0 h0 n0 vv UU'.heap LL ∧ FrameEnd UU oo UU' LL ({ frames := 3, cells := 2, slots := 3, locals := 40 } : Room).cells ({ frames := 3, cells := 2, slots := 3, locals := 40 } : Room).slots) := by
  refine MetFree.of_bodySF (plainFor_of_name pn_41) hisR ?_
  intro p e s m args below meth c s₁ Bd hml0 hP hK
  obtain ⟨rfl, hZ, hh⟩ := hP
  have hx := Bd.exec
  have hby := Bd.bytes
  have hml : c.maxLocals = 6 := hml0
  have hown : s.vm.findClass "java/lang/StringUTF16" = some m.cls := findClass_of_methodNamed Bd.named
  have hnm := (name_of_methodNamed Bd.named Bd.method).1
  have hW : ∀ (k : Nat) (d : Jvm.Cond), tables_1[k]? = some d → d.before a0 Z = true := fun k d h => hw d (List.mem_of_getElem? h)
  have X0 : Stand p l e ({ frames := 3, cells := 2, slots := 3, locals := 40 } : Room) s m #[(.ref b), (.int (0 : Int32)), (.int (1 : Int32))] below meth c s₁ [] 0 0 := Stand.of_body Bd
  have e0 : s₁.heap = h0 := by rw [← hh, Bd.state]; rfl
  have N0 := Fr.nil n0
  obtain ⟨G, hG, K0⟩ : ∃ G : State → Prop, (∀ tq, G tq → Steps p.tables e below (s₁.setTop (entryFrame m #[(.ref b), (.int (0 : Int32)), (.int (1 : Int32))] 6)) tq) ∧ Go p e below s₁ (mkF m 0 #[.val (.ref b), .val (.int (0 : Int32)), .val (.int (1 : Int32)), .unset, .unset, .unset] []) G := ⟨fun tq => Steps p.tables e below (s₁.setTop (entryFrame m #[(.ref b), (.int (0 : Int32)), (.int (1 : Int32))] 6)) tq, fun _ h => h, fun tq kq => castTop (ef_jdk_52_method_16_RII m b (0 : Int32) (1 : Int32)) kq⟩
  have K154 : Go p e below s₁ (mkF m 1 #[.val (.ref b), .val (.int (0 : Int32)), .val (.int (1 : Int32)), .unset, .unset, .unset] [(.int (1 : Int32))]) G := fun tq kq => K0 tq (XS.iloadN X0.here hx rfl (hb hby d_jdk_52_method_16_0) rfl kq)
  obtain ⟨T155, h155, k155, X155, e155, E155, A155, st155⟩ := newP X0 hx hZ (hW 23 _ rfl) e0 (g := (mkF m 1 #[.val (.ref b), .val (.int (0 : Int32)), .val (.int (1 : Int32)), .unset, .unset, .unset] [(.int (1 : Int32))])) rfl (hb hby d_jdk_52_method_16_1) rfl (by decide) (cap := 1) (by decide) (by decide) (by decide) (by decide)
  obtain ⟨b155, g155⟩ : ∃ z, z = h0.size := ⟨_, rfl⟩
  rw [← g155] at A155 st155
  have ne155_b : b ≠ b155 := Nat.ne_of_lt (Nat.lt_of_lt_of_le V_b.lt (Nat.le_of_eq g155.symm))
  have ge_b155 : n0 ≤ b155 := Nat.le_trans Z0 (Nat.le_of_eq g155.symm)
  have sz_b155 : h0.size ≤ b155 := Nat.le_trans ((Keep.refl h0 [])).1 (Nat.le_of_eq g155.symm)
  have V155 : Arv Z h155 b155 k155 .byte (1 : Int32) [(.int (0 : Int32))] (.int (0 : Int32)) := (Arv.new A155 (by decide)).pad (pad_rep [] (.int (0 : Int32)) 1)
  have K156 : Go p e below T155 (mkF m 3 #[.val (.ref b), .val (.int (0 : Int32)), .val (.int (1 : Int32)), .unset, .unset, .unset] [(.ref b155)]) G := fun tq kq => K154 tq (st155 tq kq)
  have K157 : Go p e below T155 (mkF m 4 #[.val (.ref b), .val (.int (0 : Int32)), .val (.int (1 : Int32)), .val (.ref b155), .unset, .unset] []) G := fun tq kq => K156 tq (XS.astoreN X155.here hx rfl (hb hby d_jdk_52_method_16_3) rfl rfl (l' := #[.val (.ref b), .val (.int (0 : Int32)), .val (.int (1 : Int32)), .val (.ref b155), .unset, .unset]) rfl kq)
  have K158 : Go p e below T155 (mkF m 5 #[.val (.ref b), .val (.int (0 : Int32)), .val (.int (1 : Int32)), .val (.ref b155), .unset, .unset] [(.ref b)]) G := fun tq kq => K157 tq (XS.aloadN X155.here hx rfl (hb hby d_jdk_52_method_16_4) rfl rfl kq)
  have K159 : Go p e below T155 (mkF m 6 #[.val (.ref b), .val (.int (0 : Int32)), .val (.int (1 : Int32)), .val (.ref b155), .unset, .unset] [(.int (0 : Int32)), (.ref b)]) G := fun tq kq => K158 tq (XS.iloadN X155.here hx rfl (hb hby d_jdk_52_method_16_5) rfl kq)
  have K160 : Go p e below T155 (mkF m 7 #[.val (.ref b), .val (.int (0 : Int32)), .val (.int (1 : Int32)), .val (.ref b155), .unset, .unset] [(.ref b155), (.int (0 : Int32)), (.ref b)]) G := fun tq kq => K159 tq (XS.aloadN X155.here hx rfl (hb hby d_jdk_52_method_16_6) rfl rfl kq)
  have K161 : Go p e below T155 (mkF m 8 #[.val (.ref b), .val (.int (0 : Int32)), .val (.int (1 : Int32)), .val (.ref b155), .unset, .unset] [(.int (0 : Int32)), (.ref b155), (.int (0 : Int32)), (.ref b)]) G := fun tq kq => K160 tq (XS.iconst X155.here hx rfl (hb hby d_jdk_52_method_16_7) kq)
  have K162 : Go p e below T155 (mkF m 9 #[.val (.ref b), .val (.int (0 : Int32)), .val (.int (1 : Int32)), .val (.ref b155), .unset, .unset] [(.int (1 : Int32)), (.int (0 : Int32)), (.ref b155), (.int (0 : Int32)), (.ref b)]) G := fun tq kq => K161 tq (XS.iloadN X155.here hx rfl (hb hby d_jdk_52_method_16_8) rfl kq)
  obtain ⟨v163, _, ⟨T163, L163, k163, n163⟩, -, X163, ⟨Lc163, hQ163, l163, y163, z163⟩, st163⟩ := Jvm.LawKit.callS X155 hx (y := (⟨"java/lang/StringUTF16", "compress", "([CI[BII)I"⟩ : MethodName)) hown (mvT hZ (hW 49 _ rfl)) (mvT hZ (hW 50 _ rfl)) (mvT hZ (hW 47 _ rfl)) (mvT hZ (hW 51 _ rfl)) (by decide) (backOf (W := 0) (rmCP1 l Z a0 hw [] b b155 kc k155 c0 h155 n0 (Nat.le_trans Z0 E155.1) ge_b155 ne155_b (V_b.ext E155) V155 hwd) hZ (hW 51 _ rfl) (hW 47 _ rfl) (by decide) (by decide)) (g := (mkF m 9 #[.val (.ref b), .val (.int (0 : Int32)), .val (.int (1 : Int32)), .val (.ref b155), .unset, .unset] [(.int (1 : Int32)), (.int (0 : Int32)), (.ref b155), (.int (0 : Int32)), (.ref b)])) rfl (by rw [hml]; rfl) (argsL := [(.ref b), (.int (0 : Int32)), (.ref b155), (.int (0 : Int32)), (.int (1 : Int32))]) (rest := []) (lenOf pd_155 rfl) rfl (by show 2 * 0 + _ ≤ _; exact Nat.le_of_eq rfl) (hb hby d_jdk_52_method_16_9) (fun _ _ => ⟨rfl, e155, (by decide : 1 + 0 ≤ _), (by decide : 1 + 0 ≤ _)⟩)
  dsimp only [Pt.U, Pt.locs, Pt.cells, Pt.slots] at X163 l163 y163 z163 st163 hQ163
  subst l163 y163 z163
  obtain ⟨j, rfl, hj, hgt, N163q, K163q⟩ := hQ163
  have N163 := Fr.app N0 N163q
  have hjn : ¬ ((Int32.ofNat j) = (1 : Int32)) := own_jn j 1 hj (by decide)
  have K164 : Go p e below T163 (mkF m 12 #[.val (.ref b), .val (.int (0 : Int32)), .val (.int (1 : Int32)), .val (.ref b155), .unset, .unset] [(.int (Int32.ofNat j))]) G := fun tq kq => K162 tq (st163 tq kq)
  have K165 : Go p e below T163 (mkF m 14 #[.val (.ref b), .val (.int (0 : Int32)), .val (.int (1 : Int32)), .val (.ref b155), .val (.int (Int32.ofNat j)), .unset] []) G := fun tq kq => K164 tq (XS.istore X163.here hx rfl (hb hby d_jdk_52_method_16_12) rfl (l' := #[.val (.ref b), .val (.int (0 : Int32)), .val (.int (1 : Int32)), .val (.ref b155), .val (.int (Int32.ofNat j)), .unset]) rfl kq)
  have K166 : Go p e below T163 (mkF m 16 #[.val (.ref b), .val (.int (0 : Int32)), .val (.int (1 : Int32)), .val (.ref b155), .val (.int (Int32.ofNat j)), .unset] [(.int (Int32.ofNat j))]) G := fun tq kq => K165 tq (XS.iload X163.here hx rfl (hb hby d_jdk_52_method_16_14) rfl kq)
  have K167 : Go p e below T163 (mkF m 17 #[.val (.ref b), .val (.int (0 : Int32)), .val (.int (1 : Int32)), .val (.ref b155), .val (.int (Int32.ofNat j)), .unset] [(.int (1 : Int32)), (.int (Int32.ofNat j))]) G := fun tq kq => K166 tq (XS.iloadN X163.here hx rfl (hb hby d_jdk_52_method_16_16) rfl kq)
  have K168 : Go p e below T163 (mkF m 20 #[.val (.ref b), .val (.int (0 : Int32)), .val (.int (1 : Int32)), .val (.ref b155), .val (.int (Int32.ofNat j)), .unset] []) G := fun tq kq => K167 tq (XS.icmpNo X163.here hx rfl (hb hby d_jdk_52_method_16_17) rfl ((feq hjn).1) kq)
  have K169 : Go p e below T163 (mkF m 21 #[.val (.ref b), .val (.int (0 : Int32)), .val (.int (1 : Int32)), .val (.ref b155), .val (.int (Int32.ofNat j)), .unset] [(.ref b)]) G := fun tq kq => K168 tq (XS.aloadN X163.here hx rfl (hb hby d_jdk_52_method_16_20) rfl rfl kq)
  have K170 : Go p e below T163 (mkF m 22 #[.val (.ref b), .val (.int (0 : Int32)), .val (.int (1 : Int32)), .val (.ref b155), .val (.int (Int32.ofNat j)), .unset] [(.int (0 : Int32)), (.ref b)]) G := fun tq kq => K169 tq (XS.iloadN X163.here hx rfl (hb hby d_jdk_52_method_16_21) rfl kq)
  have K171 : Go p e below T163 (mkF m 23 #[.val (.ref b), .val (.int (0 : Int32)), .val (.int (1 : Int32)), .val (.ref b155), .val (.int (Int32.ofNat j)), .unset] [(.int (1 : Int32)), (.int (0 : Int32)), (.ref b)]) G := fun tq kq => K170 tq (XS.iloadN X163.here hx rfl (hb hby d_jdk_52_method_16_22) rfl kq)
  obtain ⟨v172, _, ⟨T172, L172, k172, n172⟩, -, X172, ⟨Lc172, hQ172, l172, y172, z172⟩, st172⟩ := Jvm.LawKit.callS X163 hx (y := (⟨"java/lang/StringUTF16", "toBytes", "([CII)[B"⟩ : MethodName)) hown (mvT hZ (hW 80 _ rfl)) (mvT hZ (hW 81 _ rfl)) (mvT hZ (hW 47 _ rfl)) (mvT hZ (hW 82 _ rfl)) (by decide) (backOf (W := 0) (rmTB1 l Z a0 hw [] b kc c0 T163.heap n0 (Nat.le_trans (Nat.le_trans Z0 E155.1) K163q.1) ((O0.ext E155).keep K163q (allS ge_b155 all0)) S_ad S_hi S_lo ((V_b.ext E155).keep K163q (ninS ne155_b nin0))) hZ (hW 82 _ rfl) (hW 47 _ rfl) (by decide) (by decide)) (g := (mkF m 23 #[.val (.ref b), .val (.int (0 : Int32)), .val (.int (1 : Int32)), .val (.ref b155), .val (.int (Int32.ofNat j)), .unset] [(.int (1 : Int32)), (.int (0 : Int32)), (.ref b)])) rfl (by rw [hml]; rfl) (argsL := [(.ref b), (.int (0 : Int32)), (.int (1 : Int32))]) (rest := []) (lenOf pd_156 rfl) rfl (by show 2 * 0 + _ ≤ _; exact Nat.le_of_eq rfl) (hb hby d_jdk_52_method_16_23) (fun _ _ => ⟨rfl, rfl, (by decide : 1 + 1 ≤ _), (by decide : 1 + 2 ≤ _)⟩)
  dsimp only [Pt.U, Pt.locs, Pt.cells, Pt.slots] at X172 l172 y172 z172 st172 hQ172
  subst l172 y172 z172
  obtain ⟨tb172, kb172, rfl, N172q, K172q, sz172, ge172, V172q⟩ := hQ172
  have N172 := Fr.app N163 N172q
  have na173 : b ≠ tb172 := Nat.ne_of_lt (Nat.lt_of_lt_of_le ((V_b.ext E155).keep K163q (ninS ne155_b nin0)).lt sz172)
  have sb172 := Nat.le_trans ((((Keep.refl h0 []).ext E155).trans K163q (allS (Or.inr sz_b155) all0))).1 sz172
  have K174 : Go p e below T172 (mkF m 26 #[.val (.ref b), .val (.int (0 : Int32)), .val (.int (1 : Int32)), .val (.ref b155), .val (.int (Int32.ofNat j)), .unset] [(.ref tb172)]) G := fun tq kq => K171 tq (st172 tq kq)
  have K175 : Go p e below T172 (mkF m 28 #[.val (.ref b), .val (.int (0 : Int32)), .val (.int (1 : Int32)), .val (.ref b155), .val (.int (Int32.ofNat j)), .val (.ref tb172)] []) G := fun tq kq => K174 tq (XS.astore X172.here hx rfl (hb hby d_jdk_52_method_16_26) rfl rfl (l' := #[.val (.ref b), .val (.int (0 : Int32)), .val (.int (1 : Int32)), .val (.ref b155), .val (.int (Int32.ofNat j)), .val (.ref tb172)]) rfl kq)
  have K176 : Go p e below T172 (mkF m 30 #[.val (.ref b), .val (.int (0 : Int32)), .val (.int (1 : Int32)), .val (.ref b155), .val (.int (Int32.ofNat j)), .val (.ref tb172)] [(.ref tb172)]) G := fun tq kq => K175 tq (XS.aload X172.here hx rfl (hb hby d_jdk_52_method_16_28) rfl rfl kq)
  have K177 : Go p e below T172 (mkF m 32 #[.val (.ref b), .val (.int (0 : Int32)), .val (.int (1 : Int32)), .val (.ref b155), .val (.int (Int32.ofNat j)), .val (.ref tb172)] [(.int (Int32.ofNat j)), (.ref tb172)]) G := fun tq kq => K176 tq (XS.iload X172.here hx rfl (hb hby d_jdk_52_method_16_30) rfl kq)
  obtain ⟨v178, _, ⟨T178, L178, k178, n178⟩, -, X178, ⟨Lc178, hQ178, l178, y178, z178⟩, st178⟩ := Jvm.LawKit.callS X172 hx (y := (⟨"java/lang/StringUTF16", "getChar", "([BI)C"⟩ : MethodName)) hown (mvT hZ (hW 96 _ rfl)) (mvT hZ (hW 97 _ rfl)) (mvT hZ (hW 47 _ rfl)) (mvT hZ (hW 98 _ rfl)) (by decide) (backOf (W := 0) (rmGC l Z a0 hw [] tb172 kb172 (2 : Int32) (StrChars.Road.wideBytes ([c0] : List Int32)) (Int32.ofNat j) j (([c0] : List Int32).getD j 0) T172.heap n0 (Nat.le_trans (Nat.le_trans (Nat.le_trans Z0 E155.1) K163q.1) K172q.1) (((O0.ext E155).keep K163q (allS ge_b155 all0)).keep K172q all0) S_ad S_hi S_lo V172q (own_ixn j 1 hj (by decide)) (StrChars.Road.wide_lo _ ([c0] : List Int32) j hj) (StrChars.Road.wide_hi _ ([c0] : List Int32) j hj) (own_getR hb5 j hj)) hZ (hW 98 _ rfl) (hW 47 _ rfl) (by decide) (by decide)) (g := (mkF m 32 #[.val (.ref b), .val (.int (0 : Int32)), .val (.int (1 : Int32)), .val (.ref b155), .val (.int (Int32.ofNat j)), .val (.ref tb172)] [(.int (Int32.ofNat j)), (.ref tb172)])) rfl (by rw [hml]; rfl) (argsL := [(.ref tb172), (.int (Int32.ofNat j))]) (rest := []) (lenOf pd_157 rfl) rfl (by show 2 * 0 + _ ≤ _; exact Nat.le_of_eq rfl) (hb hby d_jdk_52_method_16_32) (fun _ _ => ⟨rfl, rfl, (by decide : 2 + 0 ≤ _), (by decide : 3 + 0 ≤ _)⟩)
  dsimp only [Pt.U, Pt.locs, Pt.cells, Pt.slots] at X178 l178 y178 z178 st178 hQ178
  subst l178 y178 z178
  obtain ⟨rfl, N178q, E178q⟩ := hQ178
  have N178 := Fr.app N172 N178q
  have K179 : Go p e below T178 (mkF m 35 #[.val (.ref b), .val (.int (0 : Int32)), .val (.int (1 : Int32)), .val (.ref b155), .val (.int (Int32.ofNat j)), .val (.ref tb172)] [(.int (([c0] : List Int32).getD j 0))]) G := fun tq kq => K177 tq (st178 tq kq)
  have K180 : Go p e below T178 (mkF m 38 #[.val (.ref b), .val (.int (0 : Int32)), .val (.int (1 : Int32)), .val (.ref b155), .val (.int (Int32.ofNat j)), .val (.ref tb172)] [(.int (255 : Int32)), (.int (([c0] : List Int32).getD j 0))]) G := fun tq kq => K179 tq (XS.sipush X178.here hx rfl (hb hby d_jdk_52_method_16_35) kq)
  have K181 : Go p e below T178 (mkF m 54 #[.val (.ref b), .val (.int (0 : Int32)), .val (.int (1 : Int32)), .val (.ref b155), .val (.int (Int32.ofNat j)), .val (.ref tb172)] []) G := fun tq kq => K180 tq (XS.icmpYes X178.here hx rfl (pc0 := 38) (pc' := 54) rfl (hb hby d_jdk_52_method_16_38) rfl ((tlt hgt).2.2.1) (by decide) (by decide) kq)
  have K182 : Go p e below T178 (mkF m 56 #[.val (.ref b), .val (.int (0 : Int32)), .val (.int (1 : Int32)), .val (.ref b155), .val (.int (Int32.ofNat j)), .val (.ref tb172)] [(.ref tb172)]) G := fun tq kq => K181 tq (XS.aload X178.here hx rfl (hb hby d_jdk_52_method_16_54) rfl rfl kq)
  obtain ⟨fs, hr, hrun, hended, hWW, hsame⟩ := X178.leave (v := some (.ref tb172)) (fun h => by rw [Bd.returns] at h; cases h)
  refine ⟨_, _, hG _ (K182 _ (retOut X178 hx Bd.returns rfl (Or.inr (Or.inr (Or.inr (Or.inr ⟨rfl, rfl, rfl⟩)))) (hb hby d_jdk_52_method_16_56) hr)), hrun, hended, _, _, rfl, ?_, ⟨_, rfl⟩, hWW, hsame.mono (by decide) (by decide)⟩
  show QCM1 Z b kc c0 h0 n0 _ T178.heap _
  rw [E178q]
  exact ⟨tb172, _, rfl, N178, ((((Keep.refl h0 []).ext E155).trans K163q (allS (Or.inr sz_b155) all0)).trans K172q all0), sb172, ge172, V172q⟩
theorem ef_jdk_52_method_15_RI (m : MethodId) (x0 : Addr) (x1 : Int32) : entryFrame m #[(.ref x0), (.int x1)] 2 = mkF m 0 #[.val (.ref x0), .val (.int x1)] [] := by first | (simp [entryFrame, mkF, argsToLocals, Value.category]; done) | rfl
theorem d_jdk_52_method_15_0 : decode jdk_52_method_15_code 0 = .ok (.iload_n 1, 1) := by decide +kernel
theorem d_jdk_52_method_15_1 : decode jdk_52_method_15_code 1 = .ok (.aload_n 0, 1) := by decide +kernel
theorem d_jdk_52_method_15_2 : decode jdk_52_method_15_code 2 = .ok (.arraylength, 1) := by decide +kernel
theorem d_jdk_52_method_15_3 : decode jdk_52_method_15_code 3 = .ok (.isub, 1) := by decide +kernel
theorem d_jdk_52_method_15_4 : decode jdk_52_method_15_code 4 = .ok (.bipush 31, 2) := by decide +kernel
theorem d_jdk_52_method_15_6 : decode jdk_52_method_15_code 6 = .ok (.iushr, 1) := by decide +kernel
theorem d_jdk_52_method_15_7 : decode jdk_52_method_15_code 7 = .ok (.i2b, 1) := by decide +kernel
theorem d_jdk_52_method_15_8 : decode jdk_52_method_15_code 8 = .ok (.ireturn, 1) := by decide +kernel
def QCF1 (Z : State) (tb : Addr) (kb : ClassId) (vs : List Value) (h0 : Heap) (n0 : Nat) (v : Option Value) (h : Heap) (L : List Loc) : Prop := v = some (.int (1 : Int32)) ∧ Fr n0 L ∧ h = h0
set_option maxRecDepth 65536 in
set_option maxHeartbeats 40000000 in
theorem rmCF1 (l : Launch) (Z : State) (a0 : Array Value) (hw : ∀ d ∈ tables_1, d.before a0 Z = true) (ws : List Jvm.Cond) (tb : Addr) (kb : ClassId) (vs : List Value) (h0 : Heap) (n0 : Nat) (Z0 : n0 ≤ h0.size) (V_tb : Arv Z h0 tb kb .byte (2 : Int32) vs (.int (0 : Int32))) :
    MetFree l (⟨"java/lang/StringUTF16", "coderFromArrayLen", "([BI)B"⟩ : MethodName) (head1 (Jvm.Cond.code (⟨"java/lang/StringUTF16", "coderFromArrayLen", "([BI)B"⟩ : MethodName) jdk_52_method_15_code 2 (some .byte) :: ws) ({ frames := 0, cells := 0, slots := 0, locals := 0 } : Room)) (fun aa UU => aa = #[(.ref tb), (.int (1 : Int32))] ∧ Z.Warmed39 UU.vm ∧ UU.heap = h0) (fun _ _ _ _ _ => True) (fun _ UU oo UU' => ∃ vv LL, oo = .returned vv ∧ QCF1 Z tb kb vs h0 n0 vv UU'.heap LL ∧ FrameEnd UU oo UU' LL ({ frames := 0, cells := 0, slots := 0, locals := 0 } : Room).cells ({ frames := 0, cells := 0, slots := 0, locals := 0 } : Room).slots) := by
  refine MetFree.of_bodySF (plainFor_of_name pn_41) hisR ?_
  intro p e s m args below meth c s₁ Bd hml0 hP hK
  obtain ⟨rfl, hZ, hh⟩ := hP
  have hx := Bd.exec
  have hby := Bd.bytes
  have hml : c.maxLocals = 2 := hml0
  have hown : s.vm.findClass "java/lang/StringUTF16" = some m.cls := findClass_of_methodNamed Bd.named
  have hnm := (name_of_methodNamed Bd.named Bd.method).1
  have hW : ∀ (k : Nat) (d : Jvm.Cond), tables_1[k]? = some d → d.before a0 Z = true := fun k d h => hw d (List.mem_of_getElem? h)
  have X0 : Stand p l e ({ frames := 0, cells := 0, slots := 0, locals := 0 } : Room) s m #[(.ref tb), (.int (1 : Int32))] below meth c s₁ [] 0 0 := Stand.of_body Bd
  have e0 : s₁.heap = h0 := by rw [← hh, Bd.state]; rfl
  have N0 := Fr.nil n0
  obtain ⟨G, hG, K0⟩ : ∃ G : State → Prop, (∀ tq, G tq → Steps p.tables e below (s₁.setTop (entryFrame m #[(.ref tb), (.int (1 : Int32))] 2)) tq) ∧ Go p e below s₁ (mkF m 0 #[.val (.ref tb), .val (.int (1 : Int32))] []) G := ⟨fun tq => Steps p.tables e below (s₁.setTop (entryFrame m #[(.ref tb), (.int (1 : Int32))] 2)) tq, fun _ h => h, fun tq kq => castTop (ef_jdk_52_method_15_RI m tb (1 : Int32)) kq⟩
  have K183 : Go p e below s₁ (mkF m 1 #[.val (.ref tb), .val (.int (1 : Int32))] [(.int (1 : Int32))]) G := fun tq kq => K0 tq (XS.iloadN X0.here hx rfl (hb hby d_jdk_52_method_15_0) rfl kq)
  have K184 : Go p e below s₁ (mkF m 2 #[.val (.ref tb), .val (.int (1 : Int32))] [(.ref tb), (.int (1 : Int32))]) G := fun tq kq => K183 tq (XS.aloadN X0.here hx rfl (hb hby d_jdk_52_method_15_1) rfl rfl kq)
  obtain ⟨cl185, Ar185, q185, S185, Nn185, Hh185, Gg185⟩ := id V_tb
  have K186 : Go p e below s₁ (mkF m 3 #[.val (.ref tb), .val (.int (1 : Int32))] [(.int (2 : Int32)), (.int (1 : Int32))]) G := fun tq kq => K184 tq (X0.arraylength hx (by rw [e0]; exact Ar185.1) (State.isArrayOf_alike hZ.alike Ar185.2.1) (g := (mkF m 2 #[.val (.ref tb), .val (.int (1 : Int32))] [(.ref tb), (.int (1 : Int32))])) rfl rfl (hb hby d_jdk_52_method_15_2) _ (by rw [len_of S185 Nn185]; exact kq))
  have K187 : Go p e below s₁ (mkF m 4 #[.val (.ref tb), .val (.int (1 : Int32))] [(.int (-1 : Int32))]) G := fun tq kq => K186 tq (XS.isub X0.here hx rfl (hb hby d_jdk_52_method_15_3) rfl kq)
  have K188 : Go p e below s₁ (mkF m 6 #[.val (.ref tb), .val (.int (1 : Int32))] [(.int (31 : Int32)), (.int (-1 : Int32))]) G := fun tq kq => K187 tq (XS.bipush X0.here hx rfl (hb hby d_jdk_52_method_15_4) kq)
  have K189 : Go p e below s₁ (mkF m 7 #[.val (.ref tb), .val (.int (1 : Int32))] [(.int (((-1 : Int32).toUInt32 >>> ((31 : Int32) &&& 31).toUInt32).toInt32))]) G := fun tq kq => K188 tq (XS.iushr X0.here hx rfl (hb hby d_jdk_52_method_15_6) rfl kq)
  have K190 : Go p e below s₁ (mkF m 8 #[.val (.ref tb), .val (.int (1 : Int32))] [(.int ((((-1 : Int32).toUInt32 >>> ((31 : Int32) &&& 31).toUInt32).toInt32).toInt8.toInt32))]) G := fun tq kq => K189 tq (XS.i2b X0.here hx rfl (hb hby d_jdk_52_method_15_7) rfl kq)
  obtain ⟨fs, hr, hrun, hended, hWW, hsame⟩ := X0.leave (v := some (.int (nar .byte ((((-1 : Int32).toUInt32 >>> ((31 : Int32) &&& 31).toUInt32).toInt32).toInt8.toInt32)))) (fun h => by rw [Bd.returns] at h; cases h)
  refine ⟨_, _, hG _ (K190 _ (retN X0 hx (t := .byte) Bd.returns (by simp) (hb hby d_jdk_52_method_15_8) hr)), hrun, hended, _, _, rfl, ?_, ⟨_, rfl⟩, hWW, hsame.mono (by decide) (by decide)⟩
  show QCF1 Z tb kb vs h0 n0 _ s₁.heap _
  rw [e0]
  exact ⟨congrArg (fun z => some (Value.int z)) (by decide), N0, rfl⟩
theorem pd_192 : parseMethodDescriptor "([BI)B" = some ⟨[(.array .byte), .int], some .byte⟩ := by decide +kernel
theorem d_jdk_42_method_149_27 : decode jdk_42_method_149_code 27 = .ok (.getstatic 38, 3) := by decide +kernel
theorem d_jdk_42_method_149_30 : decode jdk_42_method_149_code 30 = .ok (.ifCond .eq 28, 3) := by decide +kernel
theorem d_jdk_42_method_149_33 : decode jdk_42_method_149_code 33 = .ok (.aload_n 1, 1) := by decide +kernel
theorem d_jdk_42_method_149_34 : decode jdk_42_method_149_code 34 = .ok (.iload_n 2, 1) := by decide +kernel
theorem d_jdk_42_method_149_35 : decode jdk_42_method_149_code 35 = .ok (.iload_n 3, 1) := by decide +kernel
theorem d_jdk_42_method_149_36 : decode jdk_42_method_149_code 36 = .ok (.invokestatic 177, 3) := by decide +kernel
theorem d_jdk_42_method_149_39 : decode jdk_42_method_149_code 39 = .ok (.astore 5, 2) := by decide +kernel
theorem d_jdk_42_method_149_41 : decode jdk_42_method_149_code 41 = .ok (.aload_n 0, 1) := by decide +kernel
theorem d_jdk_42_method_149_42 : decode jdk_42_method_149_code 42 = .ok (.aload 5, 2) := by decide +kernel
theorem d_jdk_42_method_149_44 : decode jdk_42_method_149_code 44 = .ok (.iload_n 3, 1) := by decide +kernel
theorem d_jdk_42_method_149_45 : decode jdk_42_method_149_code 45 = .ok (.invokestatic 47, 3) := by decide +kernel
theorem d_jdk_42_method_149_48 : decode jdk_42_method_149_code 48 = .ok (.putfield 15, 3) := by decide +kernel
theorem d_jdk_42_method_149_51 : decode jdk_42_method_149_code 51 = .ok (.aload_n 0, 1) := by decide +kernel
theorem d_jdk_42_method_149_52 : decode jdk_42_method_149_code 52 = .ok (.aload 5, 2) := by decide +kernel
theorem d_jdk_42_method_149_54 : decode jdk_42_method_149_code 54 = .ok (.putfield 9, 3) := by decide +kernel
theorem d_jdk_42_method_149_57 : decode jdk_42_method_149_code 57 = .ok (.return_, 1) := by decide +kernel
def QN4w1 (Z : State) (a : Addr) (b : Addr) (kc : ClassId) (c0 : Int32) (cz : Int32) (h0 : Heap) (n0 : Nat) (v : Option Value) (h : Heap) (L : List Loc) : Prop := v = none ∧ Fr n0 L ∧ Keep h0 h [a] ∧ Exa Z h a "java/lang/String" ∧ Fld Z h a "java/lang/String" "coder" "B" (.int (1 : Int32)) ∧ ∃ (tb : Addr) (kb : ClassId), tb ≠ a ∧ Fld Z h a "java/lang/String" "value" "[B" (.ref tb) ∧ Arv Z h tb kb .byte (2 : Int32) (StrChars.Road.wideBytes ([c0] : List Int32)) (.int (0 : Int32))
set_option maxRecDepth 65536 in
set_option maxHeartbeats 40000000 in
theorem rmN4w1 (l : Launch) (Z : State) (a0 : Array Value) (hw : ∀ d ∈ tables_1, d.before a0 Z = true) (ws : List Jvm.Cond) (a : Addr) (b : Addr) (kc : ClassId) (c0 : Int32) (cz : Int32) (h0 : Heap) (n0 : Nat) (Z0 : n0 ≤ h0.size) (F_value_a : Fld Z h0 a "java/lang/String" "value" "[B" .null) (F_coder_a : Fld Z h0 a "java/lang/String" "coder" "B" (.int (0 : Int32))) (E_a : Exa Z h0 a "java/lang/String") (ge_a : n0 ≤ a) (O0 : Old Z n0 h0) (S_cs : Sta Z Z.heap "java/lang/String" "COMPACT_STRINGS" "Z" (.int cz)) (hcz : ¬ cz = 0) (S_ad : Sta Z Z.heap "java/lang/StringUTF16" "$assertionsDisabled" "Z" (.int (1 : Int32))) (S_hi : Sta Z Z.heap "java/lang/StringUTF16" "HI_BYTE_SHIFT" "I" (.int (0 : Int32))) (S_lo : Sta Z Z.heap "java/lang/StringUTF16" "LO_BYTE_SHIFT" "I" (.int (8 : Int32))) (V_b : Arv Z h0 b kc .char (1 : Int32) [(.int c0)] (.int (0 : Int32))) (hwd : ¬ ∀ c ∈ ([c0] : List Int32), ¬ (255 : Int32) < c) (hb5 : ∀ c ∈ ([c0] : List Int32), ¬ c < 0 ∧ ¬ (65535 : Int32) < c) :
    MetFree l (⟨"java/lang/String", "<init>", "([CIILjava/lang/Void;)V"⟩ : MethodName) (head1 (Jvm.Cond.code (⟨"java/lang/String", "<init>", "([CIILjava/lang/Void;)V"⟩ : MethodName) jdk_42_method_149_code 6 none :: ws) ({ frames := 4, cells := 2, slots := 3, locals := 57 } : Room)) (fun aa UU => aa = #[(.ref a), (.ref b), (.int (0 : Int32)), (.int (1 : Int32)), .null] ∧ Z.Warmed39 UU.vm ∧ UU.heap = h0) (fun _ _ _ _ _ => True) (fun _ UU oo UU' => ∃ vv LL, oo = .returned vv ∧ QN4w1 Z a b kc c0 cz h0 n0 vv UU'.heap LL ∧ FrameEnd UU oo UU' LL ({ frames := 4, cells := 2, slots := 3, locals := 57 } : Room).cells ({ frames := 4, cells := 2, slots := 3, locals := 57 } : Room).slots) := by
  refine MetFree.of_bodySF (plainFor_of_name pn_0) hisR ?_
  intro p e s m args below meth c s₁ Bd hml0 hP hK
  obtain ⟨rfl, hZ, hh⟩ := hP
  have hx := Bd.exec
  have hby := Bd.bytes
  have hml : c.maxLocals = 6 := hml0
  have hown : s.vm.findClass "java/lang/String" = some m.cls := findClass_of_methodNamed Bd.named
  have hnm := (name_of_methodNamed Bd.named Bd.method).1
  have hW : ∀ (k : Nat) (d : Jvm.Cond), tables_1[k]? = some d → d.before a0 Z = true := fun k d h => hw d (List.mem_of_getElem? h)
  have X0 : Stand p l e ({ frames := 4, cells := 2, slots := 3, locals := 57 } : Room) s m #[(.ref a), (.ref b), (.int (0 : Int32)), (.int (1 : Int32)), .null] below meth c s₁ [] 0 0 := Stand.of_body Bd
  have e0 : s₁.heap = h0 := by rw [← hh, Bd.state]; rfl
  have N0 := Fr.nil n0
  obtain ⟨G, hG, K0⟩ : ∃ G : State → Prop, (∀ tq, G tq → Steps p.tables e below (s₁.setTop (entryFrame m #[(.ref a), (.ref b), (.int (0 : Int32)), (.int (1 : Int32)), .null] 6)) tq) ∧ Go p e below s₁ (mkF m 0 #[.val (.ref a), .val (.ref b), .val (.int (0 : Int32)), .val (.int (1 : Int32)), .val .null, .unset] []) G := ⟨fun tq => Steps p.tables e below (s₁.setTop (entryFrame m #[(.ref a), (.ref b), (.int (0 : Int32)), (.int (1 : Int32)), .null] 6)) tq, fun _ h => h, fun tq kq => castTop (ef_jdk_42_method_149_RRIIN m a b (0 : Int32) (1 : Int32)) kq⟩
  have K191 : Go p e below s₁ (mkF m 1 #[.val (.ref a), .val (.ref b), .val (.int (0 : Int32)), .val (.int (1 : Int32)), .val .null, .unset] [(.ref a)]) G := fun tq kq => K0 tq (XS.aloadN X0.here hx rfl (hb hby d_jdk_42_method_149_0) rfl rfl kq)
  obtain ⟨T192, X192, e192, st192⟩ := initO X0 hx hZ hown (hW 19 _ rfl) (hW 20 _ rfl) (hW 21 _ rfl) e0 (g := (mkF m 1 #[.val (.ref a), .val (.ref b), .val (.int (0 : Int32)), .val (.int (1 : Int32)), .val .null, .unset] [(.ref a)])) rfl (by rw [hml]; rfl) rfl (hb hby d_jdk_42_method_149_1) (by decide) (W := 0) (by show 2 * 0 + _ ≤ _; exact Nat.le_of_eq rfl) (by decide)
  have K193 : Go p e below T192 (mkF m 4 #[.val (.ref a), .val (.ref b), .val (.int (0 : Int32)), .val (.int (1 : Int32)), .val .null, .unset] []) G := fun tq kq => K191 tq (st192 tq kq)
  have K194 : Go p e below T192 (mkF m 5 #[.val (.ref a), .val (.ref b), .val (.int (0 : Int32)), .val (.int (1 : Int32)), .val .null, .unset] [(.int (1 : Int32))]) G := fun tq kq => K193 tq (XS.iloadN X192.here hx rfl (hb hby d_jdk_42_method_149_4) rfl kq)
  have K195 : Go p e below T192 (mkF m 27 #[.val (.ref a), .val (.ref b), .val (.int (0 : Int32)), .val (.int (1 : Int32)), .val .null, .unset] []) G := fun tq kq => K194 tq (XS.ifYes X192.here hx rfl (pc0 := 5) (pc' := 27) rfl (hb hby d_jdk_42_method_149_5) rfl ((if0 _ _).trans (feq (by decide : ¬ ((1 : Int32) = (0 : Int32)))).2) (by decide) (by decide) kq)
  obtain ⟨T196, X196, e196, st196⟩ := getS2 X192 hx hZ hown (host := "") (Or.inl (hW 44 _ rfl)) Via.refl e192 (S_cs.ext O0.2) (g := (mkF m 27 #[.val (.ref a), .val (.ref b), .val (.int (0 : Int32)), .val (.int (1 : Int32)), .val .null, .unset] [])) rfl (hb hby d_jdk_42_method_149_27)
  have K197 : Go p e below T196 (mkF m 30 #[.val (.ref a), .val (.ref b), .val (.int (0 : Int32)), .val (.int (1 : Int32)), .val .null, .unset] [(.int cz)]) G := fun tq kq => K195 tq (st196 tq kq)
  have K198 : Go p e below T196 (mkF m 33 #[.val (.ref a), .val (.ref b), .val (.int (0 : Int32)), .val (.int (1 : Int32)), .val .null, .unset] []) G := fun tq kq => K197 tq (XS.ifNo X196.here hx rfl (hb hby d_jdk_42_method_149_30) rfl ((if0 _ _).trans (feq hcz).1) kq)
  have K199 : Go p e below T196 (mkF m 34 #[.val (.ref a), .val (.ref b), .val (.int (0 : Int32)), .val (.int (1 : Int32)), .val .null, .unset] [(.ref b)]) G := fun tq kq => K198 tq (XS.aloadN X196.here hx rfl (hb hby d_jdk_42_method_149_33) rfl rfl kq)
  have K200 : Go p e below T196 (mkF m 35 #[.val (.ref a), .val (.ref b), .val (.int (0 : Int32)), .val (.int (1 : Int32)), .val .null, .unset] [(.int (0 : Int32)), (.ref b)]) G := fun tq kq => K199 tq (XS.iloadN X196.here hx rfl (hb hby d_jdk_42_method_149_34) rfl kq)
  have K201 : Go p e below T196 (mkF m 36 #[.val (.ref a), .val (.ref b), .val (.int (0 : Int32)), .val (.int (1 : Int32)), .val .null, .unset] [(.int (1 : Int32)), (.int (0 : Int32)), (.ref b)]) G := fun tq kq => K200 tq (XS.iloadN X196.here hx rfl (hb hby d_jdk_42_method_149_35) rfl kq)
  obtain ⟨v202, _, ⟨T202, L202, k202, n202⟩, -, X202, ⟨Lc202, hQ202, l202, y202, z202⟩, st202⟩ := Jvm.LawKit.callS X196 hx (y := (⟨"java/lang/StringUTF16", "compress", "([CII)[B"⟩ : MethodName)) hown (mvT hZ (hW 45 _ rfl)) (mvT hZ (hW 46 _ rfl)) (mvT hZ (hW 47 _ rfl)) (mvT hZ (hW 48 _ rfl)) (by decide) (backOf (W := 0) (rmCM1 l Z a0 hw [] b kc c0 h0 n0 Z0 O0 S_ad S_hi S_lo V_b hwd hb5) hZ (hW 48 _ rfl) (hW 47 _ rfl) (by decide) (by decide)) (g := (mkF m 36 #[.val (.ref a), .val (.ref b), .val (.int (0 : Int32)), .val (.int (1 : Int32)), .val .null, .unset] [(.int (1 : Int32)), (.int (0 : Int32)), (.ref b)])) rfl (by rw [hml]; rfl) (argsL := [(.ref b), (.int (0 : Int32)), (.int (1 : Int32))]) (rest := []) (lenOf pd_156 rfl) rfl (by show 2 * 0 + _ ≤ _; exact Nat.le_of_eq rfl) (hb hby d_jdk_42_method_149_36) (fun _ _ => ⟨rfl, e196, (by decide : 0 + 2 ≤ _), (by decide : 0 + 3 ≤ _)⟩)
  dsimp only [Pt.U, Pt.locs, Pt.cells, Pt.slots] at X202 l202 y202 z202 st202 hQ202
  subst l202 y202 z202
  obtain ⟨tb202, kb202, rfl, N202q, K202q, sz202, ge202, V202q⟩ := hQ202
  have N202 := Fr.app N0 N202q
  have na203 : a ≠ tb202 := Nat.ne_of_lt (Nat.lt_of_lt_of_le F_value_a.lt sz202)
  have na204 : b ≠ tb202 := Nat.ne_of_lt (Nat.lt_of_lt_of_le V_b.lt sz202)
  have sb202 := Nat.le_trans ((Keep.refl h0 [a])).1 sz202
  have K205 : Go p e below T202 (mkF m 39 #[.val (.ref a), .val (.ref b), .val (.int (0 : Int32)), .val (.int (1 : Int32)), .val .null, .unset] [(.ref tb202)]) G := fun tq kq => K201 tq (st202 tq kq)
  have K206 : Go p e below T202 (mkF m 41 #[.val (.ref a), .val (.ref b), .val (.int (0 : Int32)), .val (.int (1 : Int32)), .val .null, .val (.ref tb202)] []) G := fun tq kq => K205 tq (XS.astore X202.here hx rfl (hb hby d_jdk_42_method_149_39) rfl rfl (l' := #[.val (.ref a), .val (.ref b), .val (.int (0 : Int32)), .val (.int (1 : Int32)), .val .null, .val (.ref tb202)]) rfl kq)
  have K207 : Go p e below T202 (mkF m 42 #[.val (.ref a), .val (.ref b), .val (.int (0 : Int32)), .val (.int (1 : Int32)), .val .null, .val (.ref tb202)] [(.ref a)]) G := fun tq kq => K206 tq (XS.aloadN X202.here hx rfl (hb hby d_jdk_42_method_149_41) rfl rfl kq)
  have K208 : Go p e below T202 (mkF m 44 #[.val (.ref a), .val (.ref b), .val (.int (0 : Int32)), .val (.int (1 : Int32)), .val .null, .val (.ref tb202)] [(.ref tb202), (.ref a)]) G := fun tq kq => K207 tq (XS.aload X202.here hx rfl (hb hby d_jdk_42_method_149_42) rfl rfl kq)
  have K209 : Go p e below T202 (mkF m 45 #[.val (.ref a), .val (.ref b), .val (.int (0 : Int32)), .val (.int (1 : Int32)), .val .null, .val (.ref tb202)] [(.int (1 : Int32)), (.ref tb202), (.ref a)]) G := fun tq kq => K208 tq (XS.iloadN X202.here hx rfl (hb hby d_jdk_42_method_149_44) rfl kq)
  obtain ⟨v210, _, ⟨T210, L210, k210, n210⟩, -, X210, ⟨Lc210, hQ210, l210, y210, z210⟩, st210⟩ := Jvm.LawKit.callS X202 hx (y := (⟨"java/lang/StringUTF16", "coderFromArrayLen", "([BI)B"⟩ : MethodName)) hown (mvT hZ (hW 52 _ rfl)) (mvT hZ (hW 53 _ rfl)) (mvT hZ (hW 47 _ rfl)) (mvT hZ (hW 54 _ rfl)) (by decide) (backOf (W := 1) (rmCF1 l Z a0 hw [] tb202 kb202 (StrChars.Road.wideBytes ([c0] : List Int32)) T202.heap n0 (Nat.le_trans Z0 K202q.1) V202q) hZ (hW 54 _ rfl) (hW 47 _ rfl) (by decide) (by decide)) (g := (mkF m 45 #[.val (.ref a), .val (.ref b), .val (.int (0 : Int32)), .val (.int (1 : Int32)), .val .null, .val (.ref tb202)] [(.int (1 : Int32)), (.ref tb202), (.ref a)])) rfl (by rw [hml]; rfl) (argsL := [(.ref tb202), (.int (1 : Int32))]) (rest := [(.ref a)]) (lenOf pd_192 rfl) rfl (by show 2 * 0 + _ ≤ _; exact Nat.le_of_eq rfl) (hb hby d_jdk_42_method_149_45) (fun _ _ => ⟨rfl, rfl, (by decide : 2 + 0 ≤ _), (by decide : 3 + 0 ≤ _)⟩)
  dsimp only [Pt.U, Pt.locs, Pt.cells, Pt.slots] at X210 l210 y210 z210 st210 hQ210
  subst l210 y210 z210
  obtain ⟨rfl, N210q, E210q⟩ := hQ210
  have N210 := Fr.app N202 N210q
  have K211 : Go p e below T210 (mkF m 48 #[.val (.ref a), .val (.ref b), .val (.int (0 : Int32)), .val (.int (1 : Int32)), .val .null, .val (.ref tb202)] [(.int (1 : Int32)), (.ref a)]) G := fun tq kq => K209 tq (st210 tq kq)
  obtain ⟨T212, h212, X212, e212, W212, st212⟩ := putFN X210 hx hZ hown (hW 29 _ rfl) Via.refl E210q (F_coder_a.keep K202q nin0) (E_a.keep K202q) (Or.inr ⟨(hW 25 _ rfl), rfl, hnm⟩) (hW 9 _ rfl) (ty := .byte) (v' := (.int (1 : Int32))) (by decide) rfl (by decide) (g := (mkF m 48 #[.val (.ref a), .val (.ref b), .val (.int (0 : Int32)), .val (.int (1 : Int32)), .val .null, .val (.ref tb202)] [(.int (1 : Int32)), (.ref a)])) rfl rfl (hb hby d_jdk_42_method_149_48)
  have N212 := Fr.snoc X212 N210 ge_a
  have F212 := Fld.same W212 (F_coder_a.keep K202q nin0)
  have K213 : Go p e below T212 (mkF m 51 #[.val (.ref a), .val (.ref b), .val (.int (0 : Int32)), .val (.int (1 : Int32)), .val .null, .val (.ref tb202)] []) G := fun tq kq => K211 tq (st212 tq kq)
  have K214 : Go p e below T212 (mkF m 52 #[.val (.ref a), .val (.ref b), .val (.int (0 : Int32)), .val (.int (1 : Int32)), .val .null, .val (.ref tb202)] [(.ref a)]) G := fun tq kq => K213 tq (XS.aloadN X212.here hx rfl (hb hby d_jdk_42_method_149_51) rfl rfl kq)
  have K215 : Go p e below T212 (mkF m 54 #[.val (.ref a), .val (.ref b), .val (.int (0 : Int32)), .val (.int (1 : Int32)), .val .null, .val (.ref tb202)] [(.ref tb202), (.ref a)]) G := fun tq kq => K214 tq (XS.aload X212.here hx rfl (hb hby d_jdk_42_method_149_52) rfl rfl kq)
  obtain ⟨T216, h216, X216, e216, W216, st216⟩ := putF X212 hx hZ hown (host := "") (Or.inl (hW 28 _ rfl)) Via.refl e212 ((F_value_a.keep K202q nin0).other W212 (Or.inr (slot_ne (Or.inr (hW 24 _ rfl)) (Or.inr (hW 25 _ rfl)) (by decide) (t := (.array .byte)) (t' := .byte) (by decide) (by decide)))) ((E_a.keep K202q).wr W212) (Or.inr ⟨(hW 24 _ rfl), rfl, hnm⟩) (hW 9 _ rfl) (ty := (.array .byte)) (by decide) rfl rfl (g := (mkF m 54 #[.val (.ref a), .val (.ref b), .val (.int (0 : Int32)), .val (.int (1 : Int32)), .val .null, .val (.ref tb202)] [(.ref tb202), (.ref a)])) rfl rfl (hb hby d_jdk_42_method_149_54)
  have N216 := Fr.snoc X216 N212 ge_a
  have F216 := Fld.same W216 ((F_value_a.keep K202q nin0).other W212 (Or.inr (slot_ne (Or.inr (hW 24 _ rfl)) (Or.inr (hW 25 _ rfl)) (by decide) (t := (.array .byte)) (t' := .byte) (by decide) (by decide))))
  have K217 : Go p e below T216 (mkF m 57 #[.val (.ref a), .val (.ref b), .val (.int (0 : Int32)), .val (.int (1 : Int32)), .val .null, .val (.ref tb202)] []) G := fun tq kq => K215 tq (st216 tq kq)
  obtain ⟨fs, hr, hrun, hended, hWW, hsame⟩ := X216.leave (v := none) (fun _ => rfl)
  refine ⟨_, _, hG _ (K217 _ (X216.returnOut hx Bd.returns (hb hby d_jdk_42_method_149_57) hr)), hrun, hended, _, _, rfl, ?_, ⟨_, rfl⟩, hWW, hsame.mono (by decide) (by decide)⟩
  show QN4w1 Z a b kc c0 cz h0 n0 _ T216.heap _
  rw [e216]
  exact ⟨rfl, N216, ((((Keep.refl h0 [a]).trans K202q all0).wr W212 (Or.inl (List.mem_of_getElem? (i := 0) rfl))).wr W216 (Or.inl (List.mem_of_getElem? (i := 0) rfl))), (((E_a.keep K202q).wr W212).wr W216), (F212.other W216 (Or.inr (slot_ne (Or.inr (hW 25 _ rfl)) (Or.inr (hW 24 _ rfl)) (by decide) (t := .byte) (t' := (.array .byte)) (by decide) (by decide)))), tb202, _, (Ne.symm na203), F216, ((V202q.other W212 (Ne.symm na203)).other W216 (Ne.symm na203))⟩
def QN1w1 (Z : State) (a : Addr) (b : Addr) (kc : ClassId) (c0 : Int32) (cz : Int32) (h0 : Heap) (n0 : Nat) (v : Option Value) (h : Heap) (L : List Loc) : Prop := v = none ∧ Fr n0 L ∧ Keep h0 h [a] ∧ Exa Z h a "java/lang/String" ∧ Fld Z h a "java/lang/String" "coder" "B" (.int (1 : Int32)) ∧ ∃ (tb : Addr) (kb : ClassId), tb ≠ a ∧ Fld Z h a "java/lang/String" "value" "[B" (.ref tb) ∧ Arv Z h tb kb .byte (2 : Int32) (StrChars.Road.wideBytes ([c0] : List Int32)) (.int (0 : Int32))
set_option maxRecDepth 65536 in
set_option maxHeartbeats 40000000 in
theorem rmN1w1 (l : Launch) (Z : State) (a0 : Array Value) (hw : ∀ d ∈ tables_1, d.before a0 Z = true) (ws : List Jvm.Cond) (a : Addr) (b : Addr) (kc : ClassId) (c0 : Int32) (cz : Int32) (h0 : Heap) (n0 : Nat) (Z0 : n0 ≤ h0.size) (F_value_a : Fld Z h0 a "java/lang/String" "value" "[B" .null) (F_coder_a : Fld Z h0 a "java/lang/String" "coder" "B" (.int (0 : Int32))) (E_a : Exa Z h0 a "java/lang/String") (ge_a : n0 ≤ a) (O0 : Old Z n0 h0) (S_cs : Sta Z Z.heap "java/lang/String" "COMPACT_STRINGS" "Z" (.int cz)) (hcz : ¬ cz = 0) (S_ad : Sta Z Z.heap "java/lang/StringUTF16" "$assertionsDisabled" "Z" (.int (1 : Int32))) (S_hi : Sta Z Z.heap "java/lang/StringUTF16" "HI_BYTE_SHIFT" "I" (.int (0 : Int32))) (S_lo : Sta Z Z.heap "java/lang/StringUTF16" "LO_BYTE_SHIFT" "I" (.int (8 : Int32))) (V_b : Arv Z h0 b kc .char (1 : Int32) [(.int c0)] (.int (0 : Int32))) (hwd : ¬ ∀ c ∈ ([c0] : List Int32), ¬ (255 : Int32) < c) (hb5 : ∀ c ∈ ([c0] : List Int32), ¬ c < 0 ∧ ¬ (65535 : Int32) < c) :
    MetFree l (⟨"java/lang/String", "<init>", "([C)V"⟩ : MethodName) (head1 (Jvm.Cond.code (⟨"java/lang/String", "<init>", "([C)V"⟩ : MethodName) jdk_42_method_3_code 2 none :: ws) ({ frames := 5, cells := 2, slots := 3, locals := 74 } : Room)) (fun aa UU => aa = #[(.ref a), (.ref b)] ∧ Z.Warmed39 UU.vm ∧ UU.heap = h0) (fun _ _ _ _ _ => True) (fun _ UU oo UU' => ∃ vv LL, oo = .returned vv ∧ QN1w1 Z a b kc c0 cz h0 n0 vv UU'.heap LL ∧ FrameEnd UU oo UU' LL ({ frames := 5, cells := 2, slots := 3, locals := 74 } : Room).cells ({ frames := 5, cells := 2, slots := 3, locals := 74 } : Room).slots) := by
  refine MetFree.of_bodySF (plainFor_of_name pn_0) hisR ?_
  intro p e s m args below meth c s₁ Bd hml0 hP hK
  obtain ⟨rfl, hZ, hh⟩ := hP
  have hx := Bd.exec
  have hby := Bd.bytes
  have hml : c.maxLocals = 2 := hml0
  have hown : s.vm.findClass "java/lang/String" = some m.cls := findClass_of_methodNamed Bd.named
  have hnm := (name_of_methodNamed Bd.named Bd.method).1
  have hW : ∀ (k : Nat) (d : Jvm.Cond), tables_1[k]? = some d → d.before a0 Z = true := fun k d h => hw d (List.mem_of_getElem? h)
  have X0 : Stand p l e ({ frames := 5, cells := 2, slots := 3, locals := 74 } : Room) s m #[(.ref a), (.ref b)] below meth c s₁ [] 0 0 := Stand.of_body Bd
  have e0 : s₁.heap = h0 := by rw [← hh, Bd.state]; rfl
  have N0 := Fr.nil n0
  obtain ⟨G, hG, K0⟩ : ∃ G : State → Prop, (∀ tq, G tq → Steps p.tables e below (s₁.setTop (entryFrame m #[(.ref a), (.ref b)] 2)) tq) ∧ Go p e below s₁ (mkF m 0 #[.val (.ref a), .val (.ref b)] []) G := ⟨fun tq => Steps p.tables e below (s₁.setTop (entryFrame m #[(.ref a), (.ref b)] 2)) tq, fun _ h => h, fun tq kq => castTop (ef_jdk_42_method_3_RR m a b) kq⟩
  have K218 : Go p e below s₁ (mkF m 1 #[.val (.ref a), .val (.ref b)] [(.ref a)]) G := fun tq kq => K0 tq (XS.aloadN X0.here hx rfl (hb hby d_jdk_42_method_3_0) rfl rfl kq)
  have K219 : Go p e below s₁ (mkF m 2 #[.val (.ref a), .val (.ref b)] [(.ref b), (.ref a)]) G := fun tq kq => K218 tq (XS.aloadN X0.here hx rfl (hb hby d_jdk_42_method_3_1) rfl rfl kq)
  have K220 : Go p e below s₁ (mkF m 3 #[.val (.ref a), .val (.ref b)] [(.int (0 : Int32)), (.ref b), (.ref a)]) G := fun tq kq => K219 tq (XS.iconst X0.here hx rfl (hb hby d_jdk_42_method_3_2) kq)
  have K221 : Go p e below s₁ (mkF m 4 #[.val (.ref a), .val (.ref b)] [(.ref b), (.int (0 : Int32)), (.ref b), (.ref a)]) G := fun tq kq => K220 tq (XS.aloadN X0.here hx rfl (hb hby d_jdk_42_method_3_3) rfl rfl kq)
  obtain ⟨cl222, Ar222, q222, S222, Nn222, Hh222, Gg222⟩ := id V_b
  have K223 : Go p e below s₁ (mkF m 5 #[.val (.ref a), .val (.ref b)] [(.int (1 : Int32)), (.int (0 : Int32)), (.ref b), (.ref a)]) G := fun tq kq => K221 tq (X0.arraylength hx (by rw [e0]; exact Ar222.1) (State.isArrayOf_alike hZ.alike Ar222.2.1) (g := (mkF m 4 #[.val (.ref a), .val (.ref b)] [(.ref b), (.int (0 : Int32)), (.ref b), (.ref a)])) rfl rfl (hb hby d_jdk_42_method_3_4) _ (by rw [len_of S222 Nn222]; exact kq))
  have K224 : Go p e below s₁ (mkF m 6 #[.val (.ref a), .val (.ref b)] [.null, (.int (1 : Int32)), (.int (0 : Int32)), (.ref b), (.ref a)]) G := fun tq kq => K223 tq (XS.aconstNull X0.here hx rfl (hb hby d_jdk_42_method_3_5) kq)
  obtain ⟨v225, _, ⟨T225, L225, k225, n225⟩, -, X225, ⟨Lc225, hQ225, l225, y225, z225⟩, st225⟩ := X0.specialBack hx (y := (⟨"java/lang/String", "<init>", "([CIILjava/lang/Void;)V"⟩ : MethodName)) rfl hown (mvT hZ (hW 15 _ rfl)) (mvT hZ (hW 16 _ rfl)) (mvT hZ (hW 18 _ rfl)) (by decide) (backOf (W := 0) (rmN4w1 l Z a0 hw [] a b kc c0 cz h0 n0 Z0 F_value_a F_coder_a E_a ge_a O0 S_cs hcz S_ad S_hi S_lo V_b hwd hb5) hZ (hW 18 _ rfl) (hW 10 _ rfl) (by decide) (by decide)) (g := (mkF m 6 #[.val (.ref a), .val (.ref b)] [.null, (.int (1 : Int32)), (.int (0 : Int32)), (.ref b), (.ref a)])) rfl (by rw [hml]; rfl) (Steps.refl _) (a := a) (argsL := [(.ref b), (.int (0 : Int32)), (.int (1 : Int32)), .null]) (rest := []) (lenOf pd_16 rfl) rfl (by show 2 * 0 + _ ≤ _; exact Nat.le_of_eq rfl) (hb hby d_jdk_42_method_3_6) (fun _ _ => ⟨rfl, e0, (by decide : 0 + 2 ≤ _), (by decide : 0 + 3 ≤ _)⟩)
  dsimp only [Pt.U, Pt.locs, Pt.cells, Pt.slots] at X225 l225 y225 z225 st225 hQ225
  subst l225 y225 z225
  obtain ⟨rfl, N225q, K225q, rest225⟩ := hQ225
  have N225 := Fr.app N0 N225q
  have K226 : Go p e below T225 (mkF m 9 #[.val (.ref a), .val (.ref b)] []) G := fun tq kq => K224 tq (st225.trans kq)
  obtain ⟨fs, hr, hrun, hended, hWW, hsame⟩ := X225.leave (v := none) (fun _ => rfl)
  refine ⟨_, _, hG _ (K226 _ (X225.returnOut hx Bd.returns (hb hby d_jdk_42_method_3_9) hr)), hrun, hended, _, _, rfl, ?_, ⟨_, rfl⟩, hWW, hsame.mono (by decide) (by decide)⟩
  show QN1w1 Z a b kc c0 cz h0 n0 _ T225.heap _
  exact ⟨rfl, N225, ((Keep.refl h0 [a]).trans K225q (allS (Or.inl (List.mem_of_getElem? (i := 0) rfl)) all0)), rest225⟩
def QNB2 (Z : State)  (h0 : Heap) (n0 : Nat) (v : Option Value) (h : Heap) (L : List Loc) : Prop := ∃ (tb : Addr) (kb : ClassId), v = some (.ref tb) ∧ Fr n0 L ∧ Keep h0 h [] ∧ h0.size ≤ tb ∧ n0 ≤ tb ∧ Arv Z h tb kb .byte (4 : Int32) [(.int (0 : Int32)), (.int (0 : Int32)), (.int (0 : Int32)), (.int (0 : Int32))] (.int (0 : Int32))
set_option maxRecDepth 65536 in
set_option maxHeartbeats 40000000 in
theorem rmNB2 (l : Launch) (Z : State) (a0 : Array Value) (hw : ∀ d ∈ tables_1, d.before a0 Z = true) (ws : List Jvm.Cond)  (h0 : Heap) (n0 : Nat) (Z0 : n0 ≤ h0.size) :
    MetFree l (⟨"java/lang/StringUTF16", "newBytesFor", "(I)[B"⟩ : MethodName) (head1 (Jvm.Cond.code (⟨"java/lang/StringUTF16", "newBytesFor", "(I)[B"⟩ : MethodName) jdk_52_method_2_code 1 (some (.array .byte)) :: ws) ({ frames := 1, cells := 1, slots := 4, locals := 12 } : Room)) (fun aa UU => aa = #[(.int (2 : Int32))] ∧ Z.Warmed39 UU.vm ∧ UU.heap = h0) (fun _ _ _ _ _ => True) (fun _ UU oo UU' => ∃ vv LL, oo = .returned vv ∧ QNB2 Z  h0 n0 vv UU'.heap LL ∧ FrameEnd UU oo UU' LL ({ frames := 1, cells := 1, slots := 4, locals := 12 } : Room).cells ({ frames := 1, cells := 1, slots := 4, locals := 12 } : Room).slots) := by
  refine MetFree.of_bodySF (plainFor_of_name pn_41) hisR ?_
  intro p e s m args below meth c s₁ Bd hml0 hP hK
  obtain ⟨rfl, hZ, hh⟩ := hP
  have hx := Bd.exec
  have hby := Bd.bytes
  have hml : c.maxLocals = 1 := hml0
  have hown : s.vm.findClass "java/lang/StringUTF16" = some m.cls := findClass_of_methodNamed Bd.named
  have hnm := (name_of_methodNamed Bd.named Bd.method).1
  have hW : ∀ (k : Nat) (d : Jvm.Cond), tables_1[k]? = some d → d.before a0 Z = true := fun k d h => hw d (List.mem_of_getElem? h)
  have X0 : Stand p l e ({ frames := 1, cells := 1, slots := 4, locals := 12 } : Room) s m #[(.int (2 : Int32))] below meth c s₁ [] 0 0 := Stand.of_body Bd
  have e0 : s₁.heap = h0 := by rw [← hh, Bd.state]; rfl
  have N0 := Fr.nil n0
  obtain ⟨G, hG, K0⟩ : ∃ G : State → Prop, (∀ tq, G tq → Steps p.tables e below (s₁.setTop (entryFrame m #[(.int (2 : Int32))] 1)) tq) ∧ Go p e below s₁ (mkF m 0 #[.val (.int (2 : Int32))] []) G := ⟨fun tq => Steps p.tables e below (s₁.setTop (entryFrame m #[(.int (2 : Int32))] 1)) tq, fun _ h => h, fun tq kq => castTop (ef_jdk_52_method_2_I m (2 : Int32)) kq⟩
  have K227 : Go p e below s₁ (mkF m 1 #[.val (.int (2 : Int32))] [(.int (2 : Int32))]) G := fun tq kq => K0 tq (XS.iloadN X0.here hx rfl (hb hby d_jdk_52_method_2_0) rfl kq)
  obtain ⟨v228, _, ⟨T228, L228, k228, n228⟩, -, X228, ⟨Lc228, hQ228, l228, y228, z228⟩, st228⟩ := Jvm.LawKit.callS X0 hx (y := (⟨"java/lang/StringUTF16", "newBytesLength", "(I)I"⟩ : MethodName)) hown (mvT hZ (hW 86 _ rfl)) (mvT hZ (hW 87 _ rfl)) (mvT hZ (hW 47 _ rfl)) (mvT hZ (hW 88 _ rfl)) (by decide) (backOf (W := 0) (rmNBL l Z a0 hw [] (2 : Int32) h0 n0 Z0 (by decide) (by decide)) hZ (hW 88 _ rfl) (hW 47 _ rfl) (by decide) (by decide)) (g := (mkF m 1 #[.val (.int (2 : Int32))] [(.int (2 : Int32))])) rfl (by rw [hml]; rfl) (argsL := [(.int (2 : Int32))]) (rest := []) (lenOf pd_101 rfl) rfl (by show 2 * 0 + _ ≤ _; exact Nat.le_of_eq rfl) (hb hby d_jdk_52_method_2_1) (fun _ _ => ⟨rfl, e0, (by decide : 0 + 0 ≤ _), (by decide : 0 + 0 ≤ _)⟩)
  dsimp only [Pt.U, Pt.locs, Pt.cells, Pt.slots] at X228 l228 y228 z228 st228 hQ228
  subst l228 y228 z228
  have hs228 : ((2 : Int32) <<< ((1 : Int32) &&& 31)) = (4 : Int32) := by decide
  rw [QNBL, hs228] at hQ228
  obtain ⟨rfl, N228q, E228q⟩ := hQ228
  have N228 := Fr.app N0 N228q
  have K229 : Go p e below T228 (mkF m 4 #[.val (.int (2 : Int32))] [(.int (4 : Int32))]) G := fun tq kq => K227 tq (st228 tq kq)
  obtain ⟨T230, h230, k230, X230, e230, E230, A230, st230⟩ := newP X228 hx hZ (hW 23 _ rfl) E228q (g := (mkF m 4 #[.val (.int (2 : Int32))] [(.int (4 : Int32))])) rfl (hb hby d_jdk_52_method_2_4) rfl (by decide) (cap := 4) (by decide) (by decide) (by decide) (by decide)
  obtain ⟨b230, g230⟩ : ∃ z, z = h0.size := ⟨_, rfl⟩
  rw [← g230] at A230 st230
  have ge_b230 : n0 ≤ b230 := Nat.le_trans Z0 (Nat.le_of_eq g230.symm)
  have sz_b230 : h0.size ≤ b230 := Nat.le_trans ((Keep.refl h0 [])).1 (Nat.le_of_eq g230.symm)
  have V230 : Arv Z h230 b230 k230 .byte (4 : Int32) [(.int (0 : Int32)), (.int (0 : Int32)), (.int (0 : Int32)), (.int (0 : Int32))] (.int (0 : Int32)) := (Arv.new A230 (by decide)).pad (pad_rep [] (.int (0 : Int32)) 4)
  have K231 : Go p e below T230 (mkF m 6 #[.val (.int (2 : Int32))] [(.ref b230)]) G := fun tq kq => K229 tq (st230 tq kq)
  obtain ⟨fs, hr, hrun, hended, hWW, hsame⟩ := X230.leave (v := some (.ref b230)) (fun h => by rw [Bd.returns] at h; cases h)
  refine ⟨_, _, hG _ (K231 _ (retOut X230 hx Bd.returns rfl (Or.inr (Or.inr (Or.inr (Or.inr ⟨rfl, rfl, rfl⟩)))) (hb hby d_jdk_52_method_2_6) hr)), hrun, hended, _, _, rfl, ?_, ⟨_, rfl⟩, hWW, hsame.mono (by decide) (by decide)⟩
  show QNB2 Z  h0 n0 _ T230.heap _
  rw [e230]
  exact ⟨b230, _, rfl, N228, ((Keep.refl h0 []).ext E230), sz_b230, ge_b230, V230⟩
def QTB2 (Z : State) (b : Addr) (kc : ClassId) (c0 : Int32) (c1 : Int32) (h0 : Heap) (n0 : Nat) (v : Option Value) (h : Heap) (L : List Loc) : Prop := ∃ (tb : Addr) (kb : ClassId), v = some (.ref tb) ∧ Fr n0 L ∧ Keep h0 h [] ∧ h0.size ≤ tb ∧ n0 ≤ tb ∧ Arv Z h tb kb .byte (4 : Int32) (StrChars.Road.wideBytes ([c0, c1] : List Int32)) (.int (0 : Int32))
set_option maxRecDepth 65536 in
set_option maxHeartbeats 40000000 in
theorem rmTB2 (l : Launch) (Z : State) (a0 : Array Value) (hw : ∀ d ∈ tables_1, d.before a0 Z = true) (ws : List Jvm.Cond) (b : Addr) (kc : ClassId) (c0 : Int32) (c1 : Int32) (h0 : Heap) (n0 : Nat) (Z0 : n0 ≤ h0.size) (O0 : Old Z n0 h0) (S_ad : Sta Z Z.heap "java/lang/StringUTF16" "$assertionsDisabled" "Z" (.int (1 : Int32))) (S_hi : Sta Z Z.heap "java/lang/StringUTF16" "HI_BYTE_SHIFT" "I" (.int (0 : Int32))) (S_lo : Sta Z Z.heap "java/lang/StringUTF16" "LO_BYTE_SHIFT" "I" (.int (8 : Int32))) (V_b : Arv Z h0 b kc .char (2 : Int32) [(.int c0), (.int c1)] (.int (0 : Int32))) :
    MetFree l (⟨"java/lang/StringUTF16", "toBytes", "([CII)[B"⟩ : MethodName) (head1 (Jvm.Cond.code (⟨"java/lang/StringUTF16", "toBytes", "([CII)[B"⟩ : MethodName) jdk_52_method_14_code 5 (some (.array .byte)) :: ws) ({ frames := 2, cells := 1, slots := 4, locals := 24 } : Room)) (fun aa UU => aa = #[(.ref b), (.int (0 : Int32)), (.int (2 : Int32))] ∧ Z.Warmed39 UU.vm ∧ UU.heap = h0) (fun _ _ _ _ _ => True) (fun _ UU oo UU' => ∃ vv LL, oo = .returned vv ∧ QTB2 Z b kc c0 c1 h0 n0 vv UU'.heap LL ∧ FrameEnd UU oo UU' LL ({ frames := 2, cells := 1, slots := 4, locals := 24 } : Room).cells ({ frames := 2, cells := 1, slots := 4, locals := 24 } : Room).slots) := by
  refine MetFree.of_bodySF (plainFor_of_name pn_41) hisR ?_
  intro p e s m args below meth c s₁ Bd hml0 hP hK
  obtain ⟨rfl, hZ, hh⟩ := hP
  have hx := Bd.exec
  have hby := Bd.bytes
  have hml : c.maxLocals = 5 := hml0
  have hown : s.vm.findClass "java/lang/StringUTF16" = some m.cls := findClass_of_methodNamed Bd.named
  have hnm := (name_of_methodNamed Bd.named Bd.method).1
  have hW : ∀ (k : Nat) (d : Jvm.Cond), tables_1[k]? = some d → d.before a0 Z = true := fun k d h => hw d (List.mem_of_getElem? h)
  have X0 : Stand p l e ({ frames := 2, cells := 1, slots := 4, locals := 24 } : Room) s m #[(.ref b), (.int (0 : Int32)), (.int (2 : Int32))] below meth c s₁ [] 0 0 := Stand.of_body Bd
  have e0 : s₁.heap = h0 := by rw [← hh, Bd.state]; rfl
  have N0 := Fr.nil n0
  obtain ⟨G, hG, K0⟩ : ∃ G : State → Prop, (∀ tq, G tq → Steps p.tables e below (s₁.setTop (entryFrame m #[(.ref b), (.int (0 : Int32)), (.int (2 : Int32))] 5)) tq) ∧ Go p e below s₁ (mkF m 0 #[.val (.ref b), .val (.int (0 : Int32)), .val (.int (2 : Int32)), .unset, .unset] []) G := ⟨fun tq => Steps p.tables e below (s₁.setTop (entryFrame m #[(.ref b), (.int (0 : Int32)), (.int (2 : Int32))] 5)) tq, fun _ h => h, fun tq kq => castTop (ef_jdk_52_method_14_RII m b (0 : Int32) (2 : Int32)) kq⟩
  have K232 : Go p e below s₁ (mkF m 1 #[.val (.ref b), .val (.int (0 : Int32)), .val (.int (2 : Int32)), .unset, .unset] [(.int (2 : Int32))]) G := fun tq kq => K0 tq (XS.iloadN X0.here hx rfl (hb hby d_jdk_52_method_14_0) rfl kq)
  obtain ⟨v233, _, ⟨T233, L233, k233, n233⟩, -, X233, ⟨Lc233, hQ233, l233, y233, z233⟩, st233⟩ := Jvm.LawKit.callS X0 hx (y := (⟨"java/lang/StringUTF16", "newBytesFor", "(I)[B"⟩ : MethodName)) hown (mvT hZ (hW 83 _ rfl)) (mvT hZ (hW 84 _ rfl)) (mvT hZ (hW 47 _ rfl)) (mvT hZ (hW 85 _ rfl)) (by decide) (backOf (W := 0) (rmNB2 l Z a0 hw [] h0 n0 Z0) hZ (hW 85 _ rfl) (hW 47 _ rfl) (by decide) (by decide)) (g := (mkF m 1 #[.val (.ref b), .val (.int (0 : Int32)), .val (.int (2 : Int32)), .unset, .unset] [(.int (2 : Int32))])) rfl (by rw [hml]; rfl) (argsL := [(.int (2 : Int32))]) (rest := []) (lenOf pd_107 rfl) rfl (by show 2 * 0 + _ ≤ _; exact Nat.le_of_eq rfl) (hb hby d_jdk_52_method_14_1) (fun _ _ => ⟨rfl, e0, (by decide : 0 + 1 ≤ _), (by decide : 0 + 4 ≤ _)⟩)
  dsimp only [Pt.U, Pt.locs, Pt.cells, Pt.slots] at X233 l233 y233 z233 st233 hQ233
  subst l233 y233 z233
  obtain ⟨tb233, kb233, rfl, N233q, K233q, sz233, ge233, V233q⟩ := hQ233
  have N233 := Fr.app N0 N233q
  have na234 : b ≠ tb233 := Nat.ne_of_lt (Nat.lt_of_lt_of_le V_b.lt sz233)
  have sb233 := Nat.le_trans ((Keep.refl h0 [])).1 sz233
  have K235 : Go p e below T233 (mkF m 4 #[.val (.ref b), .val (.int (0 : Int32)), .val (.int (2 : Int32)), .unset, .unset] [(.ref tb233)]) G := fun tq kq => K232 tq (st233 tq kq)
  have K236 : Go p e below T233 (mkF m 5 #[.val (.ref b), .val (.int (0 : Int32)), .val (.int (2 : Int32)), .val (.ref tb233), .unset] []) G := fun tq kq => K235 tq (XS.astoreN X233.here hx rfl (hb hby d_jdk_52_method_14_4) rfl rfl (l' := #[.val (.ref b), .val (.int (0 : Int32)), .val (.int (2 : Int32)), .val (.ref tb233), .unset]) rfl kq)
  have K237 : Go p e below T233 (mkF m 6 #[.val (.ref b), .val (.int (0 : Int32)), .val (.int (2 : Int32)), .val (.ref tb233), .unset] [(.int (0 : Int32))]) G := fun tq kq => K236 tq (XS.iconst X233.here hx rfl (hb hby d_jdk_52_method_14_5) kq)
  have K238 : Go p e below T233 (mkF m 8 #[.val (.ref b), .val (.int (0 : Int32)), .val (.int (2 : Int32)), .val (.ref tb233), .val (.int (0 : Int32))] []) G := fun tq kq => K237 tq (XS.istore X233.here hx rfl (hb hby d_jdk_52_method_14_6) rfl (l' := #[.val (.ref b), .val (.int (0 : Int32)), .val (.int (2 : Int32)), .val (.ref tb233), .val (.int (0 : Int32))]) rfl kq)
  have K239 : Go p e below T233 (mkF m 10 #[.val (.ref b), .val (.int (0 : Int32)), .val (.int (2 : Int32)), .val (.ref tb233), .val (.int (0 : Int32))] [(.int (0 : Int32))]) G := fun tq kq => K238 tq (XS.iload X233.here hx rfl (hb hby d_jdk_52_method_14_8) rfl kq)
  have K240 : Go p e below T233 (mkF m 11 #[.val (.ref b), .val (.int (0 : Int32)), .val (.int (2 : Int32)), .val (.ref tb233), .val (.int (0 : Int32))] [(.int (2 : Int32)), (.int (0 : Int32))]) G := fun tq kq => K239 tq (XS.iloadN X233.here hx rfl (hb hby d_jdk_52_method_14_10) rfl kq)
  have K241 : Go p e below T233 (mkF m 14 #[.val (.ref b), .val (.int (0 : Int32)), .val (.int (2 : Int32)), .val (.ref tb233), .val (.int (0 : Int32))] []) G := fun tq kq => K240 tq (XS.icmpNo X233.here hx rfl (hb hby d_jdk_52_method_14_11) rfl ((tlt (by decide : (0 : Int32) < (2 : Int32))).2.1) kq)
  have K242 : Go p e below T233 (mkF m 15 #[.val (.ref b), .val (.int (0 : Int32)), .val (.int (2 : Int32)), .val (.ref tb233), .val (.int (0 : Int32))] [(.ref tb233)]) G := fun tq kq => K241 tq (XS.aloadN X233.here hx rfl (hb hby d_jdk_52_method_14_14) rfl rfl kq)
  have K243 : Go p e below T233 (mkF m 17 #[.val (.ref b), .val (.int (0 : Int32)), .val (.int (2 : Int32)), .val (.ref tb233), .val (.int (0 : Int32))] [(.int (0 : Int32)), (.ref tb233)]) G := fun tq kq => K242 tq (XS.iload X233.here hx rfl (hb hby d_jdk_52_method_14_15) rfl kq)
  have K244 : Go p e below T233 (mkF m 18 #[.val (.ref b), .val (.int (0 : Int32)), .val (.int (2 : Int32)), .val (.ref tb233), .val (.int (0 : Int32))] [(.ref b), (.int (0 : Int32)), (.ref tb233)]) G := fun tq kq => K243 tq (XS.aloadN X233.here hx rfl (hb hby d_jdk_52_method_14_17) rfl rfl kq)
  have K245 : Go p e below T233 (mkF m 19 #[.val (.ref b), .val (.int (0 : Int32)), .val (.int (2 : Int32)), .val (.ref tb233), .val (.int (0 : Int32))] [(.int (0 : Int32)), (.ref b), (.int (0 : Int32)), (.ref tb233)]) G := fun tq kq => K244 tq (XS.iloadN X233.here hx rfl (hb hby d_jdk_52_method_14_18) rfl kq)
  obtain ⟨cl246, Ar246, q246, S246, Nn246, Hh246, Gg246⟩ := id (V_b.keep K233q nin0)
  have hin246 : ¬ ((0 : Int32) < 0 ∨ cl246.slots.size ≤ ((0 : Int32)).toNatClampNeg) := inb_of S246 ⟨by decide, by decide⟩
  have hat246 := Has.at (v := (.int c0)) Hh246 hin246 rfl
  have K247 : Go p e below T233 (mkF m 20 #[.val (.ref b), .val (.int (0 : Int32)), .val (.int (2 : Int32)), .val (.ref tb233), .val (.int (0 : Int32))] [(.int c0), (.int (0 : Int32)), (.ref tb233)]) G := fun tq kq => K245 tq (X233.caload hx (j := (0 : Int32)) (v := (.int c0)) Ar246.1 (State.isArrayOf_alike hZ.alike Ar246.2.1) Ar246.2.2 hin246 hat246 (g := (mkF m 19 #[.val (.ref b), .val (.int (0 : Int32)), .val (.int (2 : Int32)), .val (.ref tb233), .val (.int (0 : Int32))] [(.int (0 : Int32)), (.ref b), (.int (0 : Int32)), (.ref tb233)])) rfl rfl (hb hby d_jdk_52_method_14_19) _ kq)
  obtain ⟨v248, _, ⟨T248, L248, k248, n248⟩, -, X248, ⟨Lc248, hQ248, l248, y248, z248⟩, st248⟩ := Jvm.LawKit.callS X233 hx (y := (⟨"java/lang/StringUTF16", "putChar", "([BII)V"⟩ : MethodName)) hown (mvT hZ (hW 90 _ rfl)) (mvT hZ (hW 91 _ rfl)) (mvT hZ (hW 47 _ rfl)) (mvT hZ (hW 92 _ rfl)) (by decide) (backOf (W := 0) (rmPC l Z a0 hw [] tb233 kb233 (4 : Int32) [(.int (0 : Int32)), (.int (0 : Int32)), (.int (0 : Int32)), (.int (0 : Int32))] (0 : Int32) 0 c0 T233.heap n0 (Nat.le_trans Z0 K233q.1) (O0.keep K233q all0) S_ad S_hi S_lo ge233 V233q (by decide +kernel) (Nat.le_of_ble_eq_true rfl)) hZ (hW 92 _ rfl) (hW 47 _ rfl) (by decide) (by decide)) (g := (mkF m 20 #[.val (.ref b), .val (.int (0 : Int32)), .val (.int (2 : Int32)), .val (.ref tb233), .val (.int (0 : Int32))] [(.int c0), (.int (0 : Int32)), (.ref tb233)])) rfl (by rw [hml]; rfl) (argsL := [(.ref tb233), (.int (0 : Int32)), (.int c0)]) (rest := []) (lenOf pd_108 rfl) rfl (by show 2 * 0 + _ ≤ _; exact Nat.le_of_eq rfl) (hb hby d_jdk_52_method_14_20) (fun _ _ => ⟨rfl, rfl, (by decide : 1 + 0 ≤ _), (by decide : 4 + 0 ≤ _)⟩)
  dsimp only [Pt.U, Pt.locs, Pt.cells, Pt.slots] at X248 l248 y248 z248 st248 hQ248
  subst l248 y248 z248
  obtain ⟨rfl, N248q, K248q, V248q⟩ := hQ248
  have N248 := Fr.app N233 N248q
  have V248r : Arv Z T248.heap tb233 kb233 .byte (4 : Int32) [(.int (StrChars.lo8 c0)), (.int (StrChars.hi8 c0)), (.int (0 : Int32)), (.int (0 : Int32))] (.int (0 : Int32)) := V248q
  have K249 : Go p e below T248 (mkF m 23 #[.val (.ref b), .val (.int (0 : Int32)), .val (.int (2 : Int32)), .val (.ref tb233), .val (.int (0 : Int32))] []) G := fun tq kq => K247 tq (st248 tq kq)
  have K250 : Go p e below T248 (mkF m 26 #[.val (.ref b), .val (.int (1 : Int32)), .val (.int (2 : Int32)), .val (.ref tb233), .val (.int (0 : Int32))] []) G := fun tq kq => K249 tq (XS.iinc X248.here hx rfl (hb hby d_jdk_52_method_14_23) rfl (l' := #[.val (.ref b), .val (.int (1 : Int32)), .val (.int (2 : Int32)), .val (.ref tb233), .val (.int (0 : Int32))]) rfl kq)
  have K251 : Go p e below T248 (mkF m 29 #[.val (.ref b), .val (.int (1 : Int32)), .val (.int (2 : Int32)), .val (.ref tb233), .val (.int (1 : Int32))] []) G := fun tq kq => K250 tq (XS.iinc X248.here hx rfl (hb hby d_jdk_52_method_14_26) rfl (l' := #[.val (.ref b), .val (.int (1 : Int32)), .val (.int (2 : Int32)), .val (.ref tb233), .val (.int (1 : Int32))]) rfl kq)
  have K252 : Go p e below T248 (mkF m 8 #[.val (.ref b), .val (.int (1 : Int32)), .val (.int (2 : Int32)), .val (.ref tb233), .val (.int (1 : Int32))] []) G := fun tq kq => K251 tq (XS.goto X248.here hx rfl (pc0 := 29) (pc' := 8) rfl (hb hby d_jdk_52_method_14_29) (by decide) (by decide) kq)
  have K253 : Go p e below T248 (mkF m 10 #[.val (.ref b), .val (.int (1 : Int32)), .val (.int (2 : Int32)), .val (.ref tb233), .val (.int (1 : Int32))] [(.int (1 : Int32))]) G := fun tq kq => K252 tq (XS.iload X248.here hx rfl (hb hby d_jdk_52_method_14_8) rfl kq)
  have K254 : Go p e below T248 (mkF m 11 #[.val (.ref b), .val (.int (1 : Int32)), .val (.int (2 : Int32)), .val (.ref tb233), .val (.int (1 : Int32))] [(.int (2 : Int32)), (.int (1 : Int32))]) G := fun tq kq => K253 tq (XS.iloadN X248.here hx rfl (hb hby d_jdk_52_method_14_10) rfl kq)
  have K255 : Go p e below T248 (mkF m 14 #[.val (.ref b), .val (.int (1 : Int32)), .val (.int (2 : Int32)), .val (.ref tb233), .val (.int (1 : Int32))] []) G := fun tq kq => K254 tq (XS.icmpNo X248.here hx rfl (hb hby d_jdk_52_method_14_11) rfl ((tlt (by decide : (1 : Int32) < (2 : Int32))).2.1) kq)
  have K256 : Go p e below T248 (mkF m 15 #[.val (.ref b), .val (.int (1 : Int32)), .val (.int (2 : Int32)), .val (.ref tb233), .val (.int (1 : Int32))] [(.ref tb233)]) G := fun tq kq => K255 tq (XS.aloadN X248.here hx rfl (hb hby d_jdk_52_method_14_14) rfl rfl kq)
  have K257 : Go p e below T248 (mkF m 17 #[.val (.ref b), .val (.int (1 : Int32)), .val (.int (2 : Int32)), .val (.ref tb233), .val (.int (1 : Int32))] [(.int (1 : Int32)), (.ref tb233)]) G := fun tq kq => K256 tq (XS.iload X248.here hx rfl (hb hby d_jdk_52_method_14_15) rfl kq)
  have K258 : Go p e below T248 (mkF m 18 #[.val (.ref b), .val (.int (1 : Int32)), .val (.int (2 : Int32)), .val (.ref tb233), .val (.int (1 : Int32))] [(.ref b), (.int (1 : Int32)), (.ref tb233)]) G := fun tq kq => K257 tq (XS.aloadN X248.here hx rfl (hb hby d_jdk_52_method_14_17) rfl rfl kq)
  have K259 : Go p e below T248 (mkF m 19 #[.val (.ref b), .val (.int (1 : Int32)), .val (.int (2 : Int32)), .val (.ref tb233), .val (.int (1 : Int32))] [(.int (1 : Int32)), (.ref b), (.int (1 : Int32)), (.ref tb233)]) G := fun tq kq => K258 tq (XS.iloadN X248.here hx rfl (hb hby d_jdk_52_method_14_18) rfl kq)
  obtain ⟨cl260, Ar260, q260, S260, Nn260, Hh260, Gg260⟩ := id ((V_b.keep K233q nin0).keep K248q (ninS na234 nin0))
  have hin260 : ¬ ((1 : Int32) < 0 ∨ cl260.slots.size ≤ ((1 : Int32)).toNatClampNeg) := inb_of S260 ⟨by decide, by decide⟩
  have hat260 := Has.at (v := (.int c1)) Hh260 hin260 rfl
  have K261 : Go p e below T248 (mkF m 20 #[.val (.ref b), .val (.int (1 : Int32)), .val (.int (2 : Int32)), .val (.ref tb233), .val (.int (1 : Int32))] [(.int c1), (.int (1 : Int32)), (.ref tb233)]) G := fun tq kq => K259 tq (X248.caload hx (j := (1 : Int32)) (v := (.int c1)) Ar260.1 (State.isArrayOf_alike hZ.alike Ar260.2.1) Ar260.2.2 hin260 hat260 (g := (mkF m 19 #[.val (.ref b), .val (.int (1 : Int32)), .val (.int (2 : Int32)), .val (.ref tb233), .val (.int (1 : Int32))] [(.int (1 : Int32)), (.ref b), (.int (1 : Int32)), (.ref tb233)])) rfl rfl (hb hby d_jdk_52_method_14_19) _ kq)
  obtain ⟨v262, _, ⟨T262, L262, k262, n262⟩, -, X262, ⟨Lc262, hQ262, l262, y262, z262⟩, st262⟩ := Jvm.LawKit.callS X248 hx (y := (⟨"java/lang/StringUTF16", "putChar", "([BII)V"⟩ : MethodName)) hown (mvT hZ (hW 90 _ rfl)) (mvT hZ (hW 91 _ rfl)) (mvT hZ (hW 47 _ rfl)) (mvT hZ (hW 92 _ rfl)) (by decide) (backOf (W := 0) (rmPC l Z a0 hw [] tb233 kb233 (4 : Int32) [(.int (StrChars.lo8 c0)), (.int (StrChars.hi8 c0)), (.int (0 : Int32)), (.int (0 : Int32))] (1 : Int32) 1 c1 T248.heap n0 (Nat.le_trans (Nat.le_trans Z0 K233q.1) K248q.1) ((O0.keep K233q all0).keep K248q (allS ge233 all0)) S_ad S_hi S_lo ge233 V248r (by decide +kernel) (Nat.le_of_ble_eq_true rfl)) hZ (hW 92 _ rfl) (hW 47 _ rfl) (by decide) (by decide)) (g := (mkF m 20 #[.val (.ref b), .val (.int (1 : Int32)), .val (.int (2 : Int32)), .val (.ref tb233), .val (.int (1 : Int32))] [(.int c1), (.int (1 : Int32)), (.ref tb233)])) rfl (by rw [hml]; rfl) (argsL := [(.ref tb233), (.int (1 : Int32)), (.int c1)]) (rest := []) (lenOf pd_108 rfl) rfl (by show 2 * 0 + _ ≤ _; exact Nat.le_of_eq rfl) (hb hby d_jdk_52_method_14_20) (fun _ _ => ⟨rfl, rfl, (by decide : 1 + 0 ≤ _), (by decide : 4 + 0 ≤ _)⟩)
  dsimp only [Pt.U, Pt.locs, Pt.cells, Pt.slots] at X262 l262 y262 z262 st262 hQ262
  subst l262 y262 z262
  obtain ⟨rfl, N262q, K262q, V262q⟩ := hQ262
  have N262 := Fr.app N248 N262q
  have V262r : Arv Z T262.heap tb233 kb233 .byte (4 : Int32) [(.int (StrChars.lo8 c0)), (.int (StrChars.hi8 c0)), (.int (StrChars.lo8 c1)), (.int (StrChars.hi8 c1))] (.int (0 : Int32)) := V262q
  have K263 : Go p e below T262 (mkF m 23 #[.val (.ref b), .val (.int (1 : Int32)), .val (.int (2 : Int32)), .val (.ref tb233), .val (.int (1 : Int32))] []) G := fun tq kq => K261 tq (st262 tq kq)
  have K264 : Go p e below T262 (mkF m 26 #[.val (.ref b), .val (.int (2 : Int32)), .val (.int (2 : Int32)), .val (.ref tb233), .val (.int (1 : Int32))] []) G := fun tq kq => K263 tq (XS.iinc X262.here hx rfl (hb hby d_jdk_52_method_14_23) rfl (l' := #[.val (.ref b), .val (.int (2 : Int32)), .val (.int (2 : Int32)), .val (.ref tb233), .val (.int (1 : Int32))]) rfl kq)
  have K265 : Go p e below T262 (mkF m 29 #[.val (.ref b), .val (.int (2 : Int32)), .val (.int (2 : Int32)), .val (.ref tb233), .val (.int (2 : Int32))] []) G := fun tq kq => K264 tq (XS.iinc X262.here hx rfl (hb hby d_jdk_52_method_14_26) rfl (l' := #[.val (.ref b), .val (.int (2 : Int32)), .val (.int (2 : Int32)), .val (.ref tb233), .val (.int (2 : Int32))]) rfl kq)
  have K266 : Go p e below T262 (mkF m 8 #[.val (.ref b), .val (.int (2 : Int32)), .val (.int (2 : Int32)), .val (.ref tb233), .val (.int (2 : Int32))] []) G := fun tq kq => K265 tq (XS.goto X262.here hx rfl (pc0 := 29) (pc' := 8) rfl (hb hby d_jdk_52_method_14_29) (by decide) (by decide) kq)
  have K267 : Go p e below T262 (mkF m 10 #[.val (.ref b), .val (.int (2 : Int32)), .val (.int (2 : Int32)), .val (.ref tb233), .val (.int (2 : Int32))] [(.int (2 : Int32))]) G := fun tq kq => K266 tq (XS.iload X262.here hx rfl (hb hby d_jdk_52_method_14_8) rfl kq)
  have K268 : Go p e below T262 (mkF m 11 #[.val (.ref b), .val (.int (2 : Int32)), .val (.int (2 : Int32)), .val (.ref tb233), .val (.int (2 : Int32))] [(.int (2 : Int32)), (.int (2 : Int32))]) G := fun tq kq => K267 tq (XS.iloadN X262.here hx rfl (hb hby d_jdk_52_method_14_10) rfl kq)
  have K269 : Go p e below T262 (mkF m 32 #[.val (.ref b), .val (.int (2 : Int32)), .val (.int (2 : Int32)), .val (.ref tb233), .val (.int (2 : Int32))] []) G := fun tq kq => K268 tq (XS.icmpYes X262.here hx rfl (pc0 := 11) (pc' := 32) rfl (hb hby d_jdk_52_method_14_11) rfl ((flt (by decide : ¬ ((2 : Int32) < (2 : Int32)))).2.1) (by decide) (by decide) kq)
  have K270 : Go p e below T262 (mkF m 33 #[.val (.ref b), .val (.int (2 : Int32)), .val (.int (2 : Int32)), .val (.ref tb233), .val (.int (2 : Int32))] [(.ref tb233)]) G := fun tq kq => K269 tq (XS.aloadN X262.here hx rfl (hb hby d_jdk_52_method_14_32) rfl rfl kq)
  obtain ⟨fs, hr, hrun, hended, hWW, hsame⟩ := X262.leave (v := some (.ref tb233)) (fun h => by rw [Bd.returns] at h; cases h)
  refine ⟨_, _, hG _ (K270 _ (retOut X262 hx Bd.returns rfl (Or.inr (Or.inr (Or.inr (Or.inr ⟨rfl, rfl, rfl⟩)))) (hb hby d_jdk_52_method_14_33) hr)), hrun, hended, _, _, rfl, ?_, ⟨_, rfl⟩, hWW, hsame.mono (by decide) (by decide)⟩
  show QTB2 Z b kc c0 c1 h0 n0 _ T262.heap _
  exact ⟨tb233, _, rfl, N262, ((((Keep.refl h0 []).trans K233q all0).trans K248q (allS (Or.inr sb233) all0)).trans K262q (allS (Or.inr sb233) all0)), sb233, ge233, V262r⟩
def QCP2 (Z : State) (b : Addr) (dd : Addr) (kc : ClassId) (kd : ClassId) (c0 : Int32) (c1 : Int32) (h0 : Heap) (n0 : Nat) (v : Option Value) (h : Heap) (L : List Loc) : Prop := ∃ j : Nat, v = some (.int (Int32.ofNat j)) ∧ j < 2 ∧ (255 : Int32) < ([c0, c1] : List Int32).getD j 0 ∧ Fr n0 L ∧ Keep h0 h [dd]
set_option maxRecDepth 65536 in
set_option maxHeartbeats 40000000 in
theorem rmCP2 (l : Launch) (Z : State) (a0 : Array Value) (hw : ∀ d ∈ tables_1, d.before a0 Z = true) (ws : List Jvm.Cond) (b : Addr) (dd : Addr) (kc : ClassId) (kd : ClassId) (c0 : Int32) (c1 : Int32) (h0 : Heap) (n0 : Nat) (Z0 : n0 ≤ h0.size) (ge_dd : n0 ≤ dd) (nbd : b ≠ dd) (V_b : Arv Z h0 b kc .char (2 : Int32) [(.int c0), (.int c1)] (.int (0 : Int32))) (V_dd : Arv Z h0 dd kd .byte (2 : Int32) [(.int (0 : Int32)), (.int (0 : Int32))] (.int (0 : Int32))) (hwd : ¬ ∀ c ∈ ([c0, c1] : List Int32), ¬ (255 : Int32) < c) :
    MetFree l (⟨"java/lang/StringUTF16", "compress", "([CI[BII)I"⟩ : MethodName) (head1 (Jvm.Cond.code (⟨"java/lang/StringUTF16", "compress", "([CI[BII)I"⟩ : MethodName) jdk_52_method_21_code 7 (some .int) :: ws) ({ frames := 0, cells := 0, slots := 0, locals := 0 } : Room)) (fun aa UU => aa = #[(.ref b), (.int (0 : Int32)), (.ref dd), (.int (0 : Int32)), (.int (2 : Int32))] ∧ Z.Warmed39 UU.vm ∧ UU.heap = h0) (fun _ _ _ _ _ => True) (fun _ UU oo UU' => ∃ vv LL, oo = .returned vv ∧ QCP2 Z b dd kc kd c0 c1 h0 n0 vv UU'.heap LL ∧ FrameEnd UU oo UU' LL ({ frames := 0, cells := 0, slots := 0, locals := 0 } : Room).cells ({ frames := 0, cells := 0, slots := 0, locals := 0 } : Room).slots) := by
  refine MetFree.of_bodySF (plainFor_of_name pn_41) hisR ?_
  intro p e s m args below meth c s₁ Bd hml0 hP hK
  obtain ⟨rfl, hZ, hh⟩ := hP
  have hx := Bd.exec
  have hby := Bd.bytes
  have hml : c.maxLocals = 7 := hml0
  have hown : s.vm.findClass "java/lang/StringUTF16" = some m.cls := findClass_of_methodNamed Bd.named
  have hnm := (name_of_methodNamed Bd.named Bd.method).1
  have hW : ∀ (k : Nat) (d : Jvm.Cond), tables_1[k]? = some d → d.before a0 Z = true := fun k d h => hw d (List.mem_of_getElem? h)
  have X0 : Stand p l e ({ frames := 0, cells := 0, slots := 0, locals := 0 } : Room) s m #[(.ref b), (.int (0 : Int32)), (.ref dd), (.int (0 : Int32)), (.int (2 : Int32))] below meth c s₁ [] 0 0 := Stand.of_body Bd
  have e0 : s₁.heap = h0 := by rw [← hh, Bd.state]; rfl
  have N0 := Fr.nil n0
  obtain ⟨G, hG, K0⟩ : ∃ G : State → Prop, (∀ tq, G tq → Steps p.tables e below (s₁.setTop (entryFrame m #[(.ref b), (.int (0 : Int32)), (.ref dd), (.int (0 : Int32)), (.int (2 : Int32))] 7)) tq) ∧ Go p e below s₁ (mkF m 0 #[.val (.ref b), .val (.int (0 : Int32)), .val (.ref dd), .val (.int (0 : Int32)), .val (.int (2 : Int32)), .unset, .unset] []) G := ⟨fun tq => Steps p.tables e below (s₁.setTop (entryFrame m #[(.ref b), (.int (0 : Int32)), (.ref dd), (.int (0 : Int32)), (.int (2 : Int32))] 7)) tq, fun _ h => h, fun tq kq => castTop (ef_jdk_52_method_21_RIRII m b (0 : Int32) dd (0 : Int32) (2 : Int32)) kq⟩
  have K271 : Go p e below s₁ (mkF m 1 #[.val (.ref b), .val (.int (0 : Int32)), .val (.ref dd), .val (.int (0 : Int32)), .val (.int (2 : Int32)), .unset, .unset] [(.int (0 : Int32))]) G := fun tq kq => K0 tq (XS.iconst X0.here hx rfl (hb hby d_jdk_52_method_21_0) kq)
  have K272 : Go p e below s₁ (mkF m 3 #[.val (.ref b), .val (.int (0 : Int32)), .val (.ref dd), .val (.int (0 : Int32)), .val (.int (2 : Int32)), .val (.int (0 : Int32)), .unset] []) G := fun tq kq => K271 tq (XS.istore X0.here hx rfl (hb hby d_jdk_52_method_21_1) rfl (l' := #[.val (.ref b), .val (.int (0 : Int32)), .val (.ref dd), .val (.int (0 : Int32)), .val (.int (2 : Int32)), .val (.int (0 : Int32)), .unset]) rfl kq)
  have K273 : Go p e below s₁ (mkF m 5 #[.val (.ref b), .val (.int (0 : Int32)), .val (.ref dd), .val (.int (0 : Int32)), .val (.int (2 : Int32)), .val (.int (0 : Int32)), .unset] [(.int (0 : Int32))]) G := fun tq kq => K272 tq (XS.iload X0.here hx rfl (hb hby d_jdk_52_method_21_3) rfl kq)
  have K274 : Go p e below s₁ (mkF m 7 #[.val (.ref b), .val (.int (0 : Int32)), .val (.ref dd), .val (.int (0 : Int32)), .val (.int (2 : Int32)), .val (.int (0 : Int32)), .unset] [(.int (2 : Int32)), (.int (0 : Int32))]) G := fun tq kq => K273 tq (XS.iload X0.here hx rfl (hb hby d_jdk_52_method_21_5) rfl kq)
  have K275 : Go p e below s₁ (mkF m 10 #[.val (.ref b), .val (.int (0 : Int32)), .val (.ref dd), .val (.int (0 : Int32)), .val (.int (2 : Int32)), .val (.int (0 : Int32)), .unset] []) G := fun tq kq => K274 tq (XS.icmpNo X0.here hx rfl (hb hby d_jdk_52_method_21_7) rfl ((tlt (by decide : (0 : Int32) < (2 : Int32))).2.1) kq)
  have K276 : Go p e below s₁ (mkF m 11 #[.val (.ref b), .val (.int (0 : Int32)), .val (.ref dd), .val (.int (0 : Int32)), .val (.int (2 : Int32)), .val (.int (0 : Int32)), .unset] [(.ref b)]) G := fun tq kq => K275 tq (XS.aloadN X0.here hx rfl (hb hby d_jdk_52_method_21_10) rfl rfl kq)
  have K277 : Go p e below s₁ (mkF m 12 #[.val (.ref b), .val (.int (0 : Int32)), .val (.ref dd), .val (.int (0 : Int32)), .val (.int (2 : Int32)), .val (.int (0 : Int32)), .unset] [(.int (0 : Int32)), (.ref b)]) G := fun tq kq => K276 tq (XS.iloadN X0.here hx rfl (hb hby d_jdk_52_method_21_11) rfl kq)
  obtain ⟨cl278, Ar278, q278, S278, Nn278, Hh278, Gg278⟩ := id V_b
  have hin278 : ¬ ((0 : Int32) < 0 ∨ cl278.slots.size ≤ ((0 : Int32)).toNatClampNeg) := inb_of S278 ⟨by decide, by decide⟩
  have hat278 := Has.at (v := (.int c0)) Hh278 hin278 rfl
  have K279 : Go p e below s₁ (mkF m 13 #[.val (.ref b), .val (.int (0 : Int32)), .val (.ref dd), .val (.int (0 : Int32)), .val (.int (2 : Int32)), .val (.int (0 : Int32)), .unset] [(.int c0)]) G := fun tq kq => K277 tq (X0.caload hx (j := (0 : Int32)) (v := (.int c0)) (by rw [e0]; exact Ar278.1) (State.isArrayOf_alike hZ.alike Ar278.2.1) Ar278.2.2 hin278 hat278 (g := (mkF m 12 #[.val (.ref b), .val (.int (0 : Int32)), .val (.ref dd), .val (.int (0 : Int32)), .val (.int (2 : Int32)), .val (.int (0 : Int32)), .unset] [(.int (0 : Int32)), (.ref b)])) rfl rfl (hb hby d_jdk_52_method_21_12) _ kq)
  have K280 : Go p e below s₁ (mkF m 15 #[.val (.ref b), .val (.int (0 : Int32)), .val (.ref dd), .val (.int (0 : Int32)), .val (.int (2 : Int32)), .val (.int (0 : Int32)), .val (.int c0)] []) G := fun tq kq => K279 tq (XS.istore X0.here hx rfl (hb hby d_jdk_52_method_21_13) rfl (l' := #[.val (.ref b), .val (.int (0 : Int32)), .val (.ref dd), .val (.int (0 : Int32)), .val (.int (2 : Int32)), .val (.int (0 : Int32)), .val (.int c0)]) rfl kq)
  have K281 : Go p e below s₁ (mkF m 17 #[.val (.ref b), .val (.int (0 : Int32)), .val (.ref dd), .val (.int (0 : Int32)), .val (.int (2 : Int32)), .val (.int (0 : Int32)), .val (.int c0)] [(.int c0)]) G := fun tq kq => K280 tq (XS.iload X0.here hx rfl (hb hby d_jdk_52_method_21_15) rfl kq)
  have K282 : Go p e below s₁ (mkF m 20 #[.val (.ref b), .val (.int (0 : Int32)), .val (.ref dd), .val (.int (0 : Int32)), .val (.int (2 : Int32)), .val (.int (0 : Int32)), .val (.int c0)] [(.int (255 : Int32)), (.int c0)]) G := fun tq kq => K281 tq (XS.sipush X0.here hx rfl (hb hby d_jdk_52_method_21_17) kq)
  by_cases hc283 : (255 : Int32) < c0
  · skip
    have K284 : Go p e below s₁ (mkF m 23 #[.val (.ref b), .val (.int (0 : Int32)), .val (.ref dd), .val (.int (0 : Int32)), .val (.int (2 : Int32)), .val (.int (0 : Int32)), .val (.int c0)] []) G := fun tq kq => K282 tq (XS.icmpNo X0.here hx rfl (hb hby d_jdk_52_method_21_20) rfl ((tlt hc283).2.2.2) kq)
    have K285 : Go p e below s₁ (mkF m 25 #[.val (.ref b), .val (.int (0 : Int32)), .val (.ref dd), .val (.int (0 : Int32)), .val (.int (2 : Int32)), .val (.int (0 : Int32)), .val (.int c0)] [(.int (0 : Int32))]) G := fun tq kq => K284 tq (XS.iload X0.here hx rfl (hb hby d_jdk_52_method_21_23) rfl kq)
    obtain ⟨fs, hr, hrun, hended, hWW, hsame⟩ := X0.leave (v := some (.int (0 : Int32))) (fun h => by rw [Bd.returns] at h; cases h)
    refine ⟨_, _, hG _ (K285 _ (retOut X0 hx Bd.returns rfl (Or.inl ⟨rfl, Or.inl rfl, _, rfl⟩) (hb hby d_jdk_52_method_21_25) hr)), hrun, hended, _, _, rfl, ?_, ⟨_, rfl⟩, hWW, hsame.mono (by decide) (by decide)⟩
    show QCP2 Z b dd kc kd c0 c1 h0 n0 _ s₁.heap _
    rw [e0]
    exact ⟨0, rfl, by decide, hc283, N0, (Keep.refl h0 [dd])⟩
  · skip
    have K286 : Go p e below s₁ (mkF m 26 #[.val (.ref b), .val (.int (0 : Int32)), .val (.ref dd), .val (.int (0 : Int32)), .val (.int (2 : Int32)), .val (.int (0 : Int32)), .val (.int c0)] []) G := fun tq kq => K282 tq (XS.icmpYes X0.here hx rfl (pc0 := 20) (pc' := 26) rfl (hb hby d_jdk_52_method_21_20) rfl ((flt hc283).2.2.2) (by decide) (by decide) kq)
    have K287 : Go p e below s₁ (mkF m 27 #[.val (.ref b), .val (.int (0 : Int32)), .val (.ref dd), .val (.int (0 : Int32)), .val (.int (2 : Int32)), .val (.int (0 : Int32)), .val (.int c0)] [(.ref dd)]) G := fun tq kq => K286 tq (XS.aloadN X0.here hx rfl (hb hby d_jdk_52_method_21_26) rfl rfl kq)
    have K288 : Go p e below s₁ (mkF m 28 #[.val (.ref b), .val (.int (0 : Int32)), .val (.ref dd), .val (.int (0 : Int32)), .val (.int (2 : Int32)), .val (.int (0 : Int32)), .val (.int c0)] [(.int (0 : Int32)), (.ref dd)]) G := fun tq kq => K287 tq (XS.iloadN X0.here hx rfl (hb hby d_jdk_52_method_21_27) rfl kq)
    have K289 : Go p e below s₁ (mkF m 30 #[.val (.ref b), .val (.int (0 : Int32)), .val (.ref dd), .val (.int (0 : Int32)), .val (.int (2 : Int32)), .val (.int (0 : Int32)), .val (.int c0)] [(.int c0), (.int (0 : Int32)), (.ref dd)]) G := fun tq kq => K288 tq (XS.iload X0.here hx rfl (hb hby d_jdk_52_method_21_28) rfl kq)
    have K290 : Go p e below s₁ (mkF m 31 #[.val (.ref b), .val (.int (0 : Int32)), .val (.ref dd), .val (.int (0 : Int32)), .val (.int (2 : Int32)), .val (.int (0 : Int32)), .val (.int c0)] [(.int (c0.toInt8.toInt32)), (.int (0 : Int32)), (.ref dd)]) G := fun tq kq => K289 tq (XS.i2b X0.here hx rfl (hb hby d_jdk_52_method_21_30) rfl kq)
    obtain ⟨cl291, Ar291, q291, S291, Nn291, Hh291, Gg291⟩ := id V_dd
    have hin291 : ¬ ((0 : Int32) < 0 ∨ cl291.slots.size ≤ ((0 : Int32)).toNatClampNeg) := inb_of S291 ⟨by decide, by decide⟩
    obtain ⟨T291, h291, X291, e291, W291, st291⟩ := stB X0 hx hZ e0 Ar291 (j := (0 : Int32)) hin291 (g := (mkF m 31 #[.val (.ref b), .val (.int (0 : Int32)), .val (.ref dd), .val (.int (0 : Int32)), .val (.int (2 : Int32)), .val (.int (0 : Int32)), .val (.int c0)] [(.int (c0.toInt8.toInt32)), (.int (0 : Int32)), (.ref dd)])) rfl rfl (hb hby d_jdk_52_method_21_31)
    have V291 : Arv Z h291 dd kd .byte (2 : Int32) [(.int (nar .byte (c0.toInt8.toInt32))), (.int (0 : Int32))] (.int (0 : Int32)) := Arv.set Ar291 q291 S291 Nn291 Hh291 Gg291 (fits_nar_byte _) W291 0 rfl (Nat.le_of_ble_eq_true rfl)
    have N291 := Fr.snoc X291 N0 ge_dd
    have K292 : Go p e below T291 (mkF m 32 #[.val (.ref b), .val (.int (0 : Int32)), .val (.ref dd), .val (.int (0 : Int32)), .val (.int (2 : Int32)), .val (.int (0 : Int32)), .val (.int c0)] []) G := fun tq kq => K290 tq (st291 tq kq)
    have K293 : Go p e below T291 (mkF m 35 #[.val (.ref b), .val (.int (1 : Int32)), .val (.ref dd), .val (.int (0 : Int32)), .val (.int (2 : Int32)), .val (.int (0 : Int32)), .val (.int c0)] []) G := fun tq kq => K292 tq (XS.iinc X291.here hx rfl (hb hby d_jdk_52_method_21_32) rfl (l' := #[.val (.ref b), .val (.int (1 : Int32)), .val (.ref dd), .val (.int (0 : Int32)), .val (.int (2 : Int32)), .val (.int (0 : Int32)), .val (.int c0)]) rfl kq)
    have K294 : Go p e below T291 (mkF m 38 #[.val (.ref b), .val (.int (1 : Int32)), .val (.ref dd), .val (.int (1 : Int32)), .val (.int (2 : Int32)), .val (.int (0 : Int32)), .val (.int c0)] []) G := fun tq kq => K293 tq (XS.iinc X291.here hx rfl (hb hby d_jdk_52_method_21_35) rfl (l' := #[.val (.ref b), .val (.int (1 : Int32)), .val (.ref dd), .val (.int (1 : Int32)), .val (.int (2 : Int32)), .val (.int (0 : Int32)), .val (.int c0)]) rfl kq)
    have K295 : Go p e below T291 (mkF m 41 #[.val (.ref b), .val (.int (1 : Int32)), .val (.ref dd), .val (.int (1 : Int32)), .val (.int (2 : Int32)), .val (.int (1 : Int32)), .val (.int c0)] []) G := fun tq kq => K294 tq (XS.iinc X291.here hx rfl (hb hby d_jdk_52_method_21_38) rfl (l' := #[.val (.ref b), .val (.int (1 : Int32)), .val (.ref dd), .val (.int (1 : Int32)), .val (.int (2 : Int32)), .val (.int (1 : Int32)), .val (.int c0)]) rfl kq)
    have K296 : Go p e below T291 (mkF m 3 #[.val (.ref b), .val (.int (1 : Int32)), .val (.ref dd), .val (.int (1 : Int32)), .val (.int (2 : Int32)), .val (.int (1 : Int32)), .val (.int c0)] []) G := fun tq kq => K295 tq (XS.goto X291.here hx rfl (pc0 := 41) (pc' := 3) rfl (hb hby d_jdk_52_method_21_41) (by decide) (by decide) kq)
    have K297 : Go p e below T291 (mkF m 5 #[.val (.ref b), .val (.int (1 : Int32)), .val (.ref dd), .val (.int (1 : Int32)), .val (.int (2 : Int32)), .val (.int (1 : Int32)), .val (.int c0)] [(.int (1 : Int32))]) G := fun tq kq => K296 tq (XS.iload X291.here hx rfl (hb hby d_jdk_52_method_21_3) rfl kq)
    have K298 : Go p e below T291 (mkF m 7 #[.val (.ref b), .val (.int (1 : Int32)), .val (.ref dd), .val (.int (1 : Int32)), .val (.int (2 : Int32)), .val (.int (1 : Int32)), .val (.int c0)] [(.int (2 : Int32)), (.int (1 : Int32))]) G := fun tq kq => K297 tq (XS.iload X291.here hx rfl (hb hby d_jdk_52_method_21_5) rfl kq)
    have K299 : Go p e below T291 (mkF m 10 #[.val (.ref b), .val (.int (1 : Int32)), .val (.ref dd), .val (.int (1 : Int32)), .val (.int (2 : Int32)), .val (.int (1 : Int32)), .val (.int c0)] []) G := fun tq kq => K298 tq (XS.icmpNo X291.here hx rfl (hb hby d_jdk_52_method_21_7) rfl ((tlt (by decide : (1 : Int32) < (2 : Int32))).2.1) kq)
    have K300 : Go p e below T291 (mkF m 11 #[.val (.ref b), .val (.int (1 : Int32)), .val (.ref dd), .val (.int (1 : Int32)), .val (.int (2 : Int32)), .val (.int (1 : Int32)), .val (.int c0)] [(.ref b)]) G := fun tq kq => K299 tq (XS.aloadN X291.here hx rfl (hb hby d_jdk_52_method_21_10) rfl rfl kq)
    have K301 : Go p e below T291 (mkF m 12 #[.val (.ref b), .val (.int (1 : Int32)), .val (.ref dd), .val (.int (1 : Int32)), .val (.int (2 : Int32)), .val (.int (1 : Int32)), .val (.int c0)] [(.int (1 : Int32)), (.ref b)]) G := fun tq kq => K300 tq (XS.iloadN X291.here hx rfl (hb hby d_jdk_52_method_21_11) rfl kq)
    obtain ⟨cl302, Ar302, q302, S302, Nn302, Hh302, Gg302⟩ := id (V_b.other W291 nbd)
    have hin302 : ¬ ((1 : Int32) < 0 ∨ cl302.slots.size ≤ ((1 : Int32)).toNatClampNeg) := inb_of S302 ⟨by decide, by decide⟩
    have hat302 := Has.at (v := (.int c1)) Hh302 hin302 rfl
    have K303 : Go p e below T291 (mkF m 13 #[.val (.ref b), .val (.int (1 : Int32)), .val (.ref dd), .val (.int (1 : Int32)), .val (.int (2 : Int32)), .val (.int (1 : Int32)), .val (.int c0)] [(.int c1)]) G := fun tq kq => K301 tq (X291.caload hx (j := (1 : Int32)) (v := (.int c1)) (by rw [e291]; exact Ar302.1) (State.isArrayOf_alike hZ.alike Ar302.2.1) Ar302.2.2 hin302 hat302 (g := (mkF m 12 #[.val (.ref b), .val (.int (1 : Int32)), .val (.ref dd), .val (.int (1 : Int32)), .val (.int (2 : Int32)), .val (.int (1 : Int32)), .val (.int c0)] [(.int (1 : Int32)), (.ref b)])) rfl rfl (hb hby d_jdk_52_method_21_12) _ kq)
    have K304 : Go p e below T291 (mkF m 15 #[.val (.ref b), .val (.int (1 : Int32)), .val (.ref dd), .val (.int (1 : Int32)), .val (.int (2 : Int32)), .val (.int (1 : Int32)), .val (.int c1)] []) G := fun tq kq => K303 tq (XS.istore X291.here hx rfl (hb hby d_jdk_52_method_21_13) rfl (l' := #[.val (.ref b), .val (.int (1 : Int32)), .val (.ref dd), .val (.int (1 : Int32)), .val (.int (2 : Int32)), .val (.int (1 : Int32)), .val (.int c1)]) rfl kq)
    have K305 : Go p e below T291 (mkF m 17 #[.val (.ref b), .val (.int (1 : Int32)), .val (.ref dd), .val (.int (1 : Int32)), .val (.int (2 : Int32)), .val (.int (1 : Int32)), .val (.int c1)] [(.int c1)]) G := fun tq kq => K304 tq (XS.iload X291.here hx rfl (hb hby d_jdk_52_method_21_15) rfl kq)
    have K306 : Go p e below T291 (mkF m 20 #[.val (.ref b), .val (.int (1 : Int32)), .val (.ref dd), .val (.int (1 : Int32)), .val (.int (2 : Int32)), .val (.int (1 : Int32)), .val (.int c1)] [(.int (255 : Int32)), (.int c1)]) G := fun tq kq => K305 tq (XS.sipush X291.here hx rfl (hb hby d_jdk_52_method_21_17) kq)
    by_cases hc307 : (255 : Int32) < c1
    · skip
      have K308 : Go p e below T291 (mkF m 23 #[.val (.ref b), .val (.int (1 : Int32)), .val (.ref dd), .val (.int (1 : Int32)), .val (.int (2 : Int32)), .val (.int (1 : Int32)), .val (.int c1)] []) G := fun tq kq => K306 tq (XS.icmpNo X291.here hx rfl (hb hby d_jdk_52_method_21_20) rfl ((tlt hc307).2.2.2) kq)
      have K309 : Go p e below T291 (mkF m 25 #[.val (.ref b), .val (.int (1 : Int32)), .val (.ref dd), .val (.int (1 : Int32)), .val (.int (2 : Int32)), .val (.int (1 : Int32)), .val (.int c1)] [(.int (1 : Int32))]) G := fun tq kq => K308 tq (XS.iload X291.here hx rfl (hb hby d_jdk_52_method_21_23) rfl kq)
      obtain ⟨fs, hr, hrun, hended, hWW, hsame⟩ := X291.leave (v := some (.int (1 : Int32))) (fun h => by rw [Bd.returns] at h; cases h)
      refine ⟨_, _, hG _ (K309 _ (retOut X291 hx Bd.returns rfl (Or.inl ⟨rfl, Or.inl rfl, _, rfl⟩) (hb hby d_jdk_52_method_21_25) hr)), hrun, hended, _, _, rfl, ?_, ⟨_, rfl⟩, hWW, hsame.mono (by decide) (by decide)⟩
      show QCP2 Z b dd kc kd c0 c1 h0 n0 _ T291.heap _
      rw [e291]
      exact ⟨1, rfl, by decide, hc307, N291, ((Keep.refl h0 [dd]).wr W291 (Or.inl (List.mem_of_getElem? (i := 0) rfl)))⟩
    · skip
      have K310 : Go p e below T291 (mkF m 26 #[.val (.ref b), .val (.int (1 : Int32)), .val (.ref dd), .val (.int (1 : Int32)), .val (.int (2 : Int32)), .val (.int (1 : Int32)), .val (.int c1)] []) G := fun tq kq => K306 tq (XS.icmpYes X291.here hx rfl (pc0 := 20) (pc' := 26) rfl (hb hby d_jdk_52_method_21_20) rfl ((flt hc307).2.2.2) (by decide) (by decide) kq)
      have K311 : Go p e below T291 (mkF m 27 #[.val (.ref b), .val (.int (1 : Int32)), .val (.ref dd), .val (.int (1 : Int32)), .val (.int (2 : Int32)), .val (.int (1 : Int32)), .val (.int c1)] [(.ref dd)]) G := fun tq kq => K310 tq (XS.aloadN X291.here hx rfl (hb hby d_jdk_52_method_21_26) rfl rfl kq)
      have K312 : Go p e below T291 (mkF m 28 #[.val (.ref b), .val (.int (1 : Int32)), .val (.ref dd), .val (.int (1 : Int32)), .val (.int (2 : Int32)), .val (.int (1 : Int32)), .val (.int c1)] [(.int (1 : Int32)), (.ref dd)]) G := fun tq kq => K311 tq (XS.iloadN X291.here hx rfl (hb hby d_jdk_52_method_21_27) rfl kq)
      have K313 : Go p e below T291 (mkF m 30 #[.val (.ref b), .val (.int (1 : Int32)), .val (.ref dd), .val (.int (1 : Int32)), .val (.int (2 : Int32)), .val (.int (1 : Int32)), .val (.int c1)] [(.int c1), (.int (1 : Int32)), (.ref dd)]) G := fun tq kq => K312 tq (XS.iload X291.here hx rfl (hb hby d_jdk_52_method_21_28) rfl kq)
      have K314 : Go p e below T291 (mkF m 31 #[.val (.ref b), .val (.int (1 : Int32)), .val (.ref dd), .val (.int (1 : Int32)), .val (.int (2 : Int32)), .val (.int (1 : Int32)), .val (.int c1)] [(.int (c1.toInt8.toInt32)), (.int (1 : Int32)), (.ref dd)]) G := fun tq kq => K313 tq (XS.i2b X291.here hx rfl (hb hby d_jdk_52_method_21_30) rfl kq)
      obtain ⟨cl315, Ar315, q315, S315, Nn315, Hh315, Gg315⟩ := id V291
      have hin315 : ¬ ((1 : Int32) < 0 ∨ cl315.slots.size ≤ ((1 : Int32)).toNatClampNeg) := inb_of S315 ⟨by decide, by decide⟩
      obtain ⟨T315, h315, X315, e315, W315, st315⟩ := stB X291 hx hZ e291 Ar315 (j := (1 : Int32)) hin315 (g := (mkF m 31 #[.val (.ref b), .val (.int (1 : Int32)), .val (.ref dd), .val (.int (1 : Int32)), .val (.int (2 : Int32)), .val (.int (1 : Int32)), .val (.int c1)] [(.int (c1.toInt8.toInt32)), (.int (1 : Int32)), (.ref dd)])) rfl rfl (hb hby d_jdk_52_method_21_31)
      have V315 : Arv Z h315 dd kd .byte (2 : Int32) [(.int (nar .byte (c0.toInt8.toInt32))), (.int (nar .byte (c1.toInt8.toInt32)))] (.int (0 : Int32)) := Arv.set Ar315 q315 S315 Nn315 Hh315 Gg315 (fits_nar_byte _) W315 1 rfl (Nat.le_of_ble_eq_true rfl)
      have N315 := Fr.snoc X315 N291 ge_dd
      have K316 : Go p e below T315 (mkF m 32 #[.val (.ref b), .val (.int (1 : Int32)), .val (.ref dd), .val (.int (1 : Int32)), .val (.int (2 : Int32)), .val (.int (1 : Int32)), .val (.int c1)] []) G := fun tq kq => K314 tq (st315 tq kq)
      have K317 : Go p e below T315 (mkF m 35 #[.val (.ref b), .val (.int (2 : Int32)), .val (.ref dd), .val (.int (1 : Int32)), .val (.int (2 : Int32)), .val (.int (1 : Int32)), .val (.int c1)] []) G := fun tq kq => K316 tq (XS.iinc X315.here hx rfl (hb hby d_jdk_52_method_21_32) rfl (l' := #[.val (.ref b), .val (.int (2 : Int32)), .val (.ref dd), .val (.int (1 : Int32)), .val (.int (2 : Int32)), .val (.int (1 : Int32)), .val (.int c1)]) rfl kq)
      have K318 : Go p e below T315 (mkF m 38 #[.val (.ref b), .val (.int (2 : Int32)), .val (.ref dd), .val (.int (2 : Int32)), .val (.int (2 : Int32)), .val (.int (1 : Int32)), .val (.int c1)] []) G := fun tq kq => K317 tq (XS.iinc X315.here hx rfl (hb hby d_jdk_52_method_21_35) rfl (l' := #[.val (.ref b), .val (.int (2 : Int32)), .val (.ref dd), .val (.int (2 : Int32)), .val (.int (2 : Int32)), .val (.int (1 : Int32)), .val (.int c1)]) rfl kq)
      have K319 : Go p e below T315 (mkF m 41 #[.val (.ref b), .val (.int (2 : Int32)), .val (.ref dd), .val (.int (2 : Int32)), .val (.int (2 : Int32)), .val (.int (2 : Int32)), .val (.int c1)] []) G := fun tq kq => K318 tq (XS.iinc X315.here hx rfl (hb hby d_jdk_52_method_21_38) rfl (l' := #[.val (.ref b), .val (.int (2 : Int32)), .val (.ref dd), .val (.int (2 : Int32)), .val (.int (2 : Int32)), .val (.int (2 : Int32)), .val (.int c1)]) rfl kq)
      have K320 : Go p e below T315 (mkF m 3 #[.val (.ref b), .val (.int (2 : Int32)), .val (.ref dd), .val (.int (2 : Int32)), .val (.int (2 : Int32)), .val (.int (2 : Int32)), .val (.int c1)] []) G := fun tq kq => K319 tq (XS.goto X315.here hx rfl (pc0 := 41) (pc' := 3) rfl (hb hby d_jdk_52_method_21_41) (by decide) (by decide) kq)
      have K321 : Go p e below T315 (mkF m 5 #[.val (.ref b), .val (.int (2 : Int32)), .val (.ref dd), .val (.int (2 : Int32)), .val (.int (2 : Int32)), .val (.int (2 : Int32)), .val (.int c1)] [(.int (2 : Int32))]) G := fun tq kq => K320 tq (XS.iload X315.here hx rfl (hb hby d_jdk_52_method_21_3) rfl kq)
      have K322 : Go p e below T315 (mkF m 7 #[.val (.ref b), .val (.int (2 : Int32)), .val (.ref dd), .val (.int (2 : Int32)), .val (.int (2 : Int32)), .val (.int (2 : Int32)), .val (.int c1)] [(.int (2 : Int32)), (.int (2 : Int32))]) G := fun tq kq => K321 tq (XS.iload X315.here hx rfl (hb hby d_jdk_52_method_21_5) rfl kq)
      have K323 : Go p e below T315 (mkF m 44 #[.val (.ref b), .val (.int (2 : Int32)), .val (.ref dd), .val (.int (2 : Int32)), .val (.int (2 : Int32)), .val (.int (2 : Int32)), .val (.int c1)] []) G := fun tq kq => K322 tq (XS.icmpYes X315.here hx rfl (pc0 := 7) (pc' := 44) rfl (hb hby d_jdk_52_method_21_7) rfl ((flt (by decide : ¬ ((2 : Int32) < (2 : Int32)))).2.1) (by decide) (by decide) kq)
      have K324 : Go p e below T315 (mkF m 46 #[.val (.ref b), .val (.int (2 : Int32)), .val (.ref dd), .val (.int (2 : Int32)), .val (.int (2 : Int32)), .val (.int (2 : Int32)), .val (.int c1)] [(.int (2 : Int32))]) G := fun tq kq => K323 tq (XS.iload X315.here hx rfl (hb hby d_jdk_52_method_21_44) rfl kq)
      exact absurd (by
        intro c hc
        simp only [List.mem_cons, List.not_mem_nil, or_false] at hc
        rcases hc with rfl | rfl
        · exact hc283
        · exact hc307) hwd
def QCM2 (Z : State) (b : Addr) (kc : ClassId) (c0 : Int32) (c1 : Int32) (h0 : Heap) (n0 : Nat) (v : Option Value) (h : Heap) (L : List Loc) : Prop := ∃ (tb : Addr) (kb : ClassId), v = some (.ref tb) ∧ Fr n0 L ∧ Keep h0 h [] ∧ h0.size ≤ tb ∧ n0 ≤ tb ∧ Arv Z h tb kb .byte (4 : Int32) (StrChars.Road.wideBytes ([c0, c1] : List Int32)) (.int (0 : Int32))
set_option maxRecDepth 65536 in
set_option maxHeartbeats 40000000 in
theorem rmCM2 (l : Launch) (Z : State) (a0 : Array Value) (hw : ∀ d ∈ tables_1, d.before a0 Z = true) (ws : List Jvm.Cond) (b : Addr) (kc : ClassId) (c0 : Int32) (c1 : Int32) (h0 : Heap) (n0 : Nat) (Z0 : n0 ≤ h0.size) (O0 : Old Z n0 h0) (S_ad : Sta Z Z.heap "java/lang/StringUTF16" "$assertionsDisabled" "Z" (.int (1 : Int32))) (S_hi : Sta Z Z.heap "java/lang/StringUTF16" "HI_BYTE_SHIFT" "I" (.int (0 : Int32))) (S_lo : Sta Z Z.heap "java/lang/StringUTF16" "LO_BYTE_SHIFT" "I" (.int (8 : Int32))) (V_b : Arv Z h0 b kc .char (2 : Int32) [(.int c0), (.int c1)] (.int (0 : Int32))) (hwd : ¬ ∀ c ∈ ([c0, c1] : List Int32), ¬ (255 : Int32) < c) (hb5 : ∀ c ∈ ([c0, c1] : List Int32), ¬ c < 0 ∧ ¬ (65535 : Int32) < c) :
    MetFree l (⟨"java/lang/StringUTF16", "compress", "([CII)[B"⟩ : MethodName) (head1 (Jvm.Cond.code (⟨"java/lang/StringUTF16", "compress", "([CII)[B"⟩ : MethodName) jdk_52_method_16_code 6 (some (.array .byte)) :: ws) ({ frames := 3, cells := 2, slots := 6, locals := 40 } : Room)) (fun aa UU => aa = #[(.ref b), (.int (0 : Int32)), (.int (2 : Int32))] ∧ Z.Warmed39 UU.vm ∧ UU.heap = h0) (fun _ _ _ _ _ => True) (fun _ UU oo UU' => ∃ vv LL, oo = .returned vv ∧ QCM2 Z b kc c0 c1 h0 n0 vv UU'.heap LL ∧ FrameEnd UU oo UU' LL ({ frames := 3, cells := 2, slots := 6, locals := 40 } : Room).cells ({ frames := 3, cells := 2, slots := 6, locals := 40 } : Room).slots) := by
  refine MetFree.of_bodySF (plainFor_of_name pn_41) hisR ?_
  intro p e s m args below meth c s₁ Bd hml0 hP hK
  obtain ⟨rfl, hZ, hh⟩ := hP
  have hx := Bd.exec
  have hby := Bd.bytes
  have hml : c.maxLocals = 6 := hml0
  have hown : s.vm.findClass "java/lang/StringUTF16" = some m.cls := findClass_of_methodNamed Bd.named
  have hnm := (name_of_methodNamed Bd.named Bd.method).1
  have hW : ∀ (k : Nat) (d : Jvm.Cond), tables_1[k]? = some d → d.before a0 Z = true := fun k d h => hw d (List.mem_of_getElem? h)
  have X0 : Stand p l e ({ frames := 3, cells := 2, slots := 6, locals := 40 } : Room) s m #[(.ref b), (.int (0 : Int32)), (.int (2 : Int32))] below meth c s₁ [] 0 0 := Stand.of_body Bd
  have e0 : s₁.heap = h0 := by rw [← hh, Bd.state]; rfl
  have N0 := Fr.nil n0
  obtain ⟨G, hG, K0⟩ : ∃ G : State → Prop, (∀ tq, G tq → Steps p.tables e below (s₁.setTop (entryFrame m #[(.ref b), (.int (0 : Int32)), (.int (2 : Int32))] 6)) tq) ∧ Go p e below s₁ (mkF m 0 #[.val (.ref b), .val (.int (0 : Int32)), .val (.int (2 : Int32)), .unset, .unset, .unset] []) G := ⟨fun tq => Steps p.tables e below (s₁.setTop (entryFrame m #[(.ref b), (.int (0 : Int32)), (.int (2 : Int32))] 6)) tq, fun _ h => h, fun tq kq => castTop (ef_jdk_52_method_16_RII m b (0 : Int32) (2 : Int32)) kq⟩
  have K325 : Go p e below s₁ (mkF m 1 #[.val (.ref b), .val (.int (0 : Int32)), .val (.int (2 : Int32)), .unset, .unset, .unset] [(.int (2 : Int32))]) G := fun tq kq => K0 tq (XS.iloadN X0.here hx rfl (hb hby d_jdk_52_method_16_0) rfl kq)
  obtain ⟨T326, h326, k326, X326, e326, E326, A326, st326⟩ := newP X0 hx hZ (hW 23 _ rfl) e0 (g := (mkF m 1 #[.val (.ref b), .val (.int (0 : Int32)), .val (.int (2 : Int32)), .unset, .unset, .unset] [(.int (2 : Int32))])) rfl (hb hby d_jdk_52_method_16_1) rfl (by decide) (cap := 2) (by decide) (by decide) (by decide) (by decide)
  obtain ⟨b326, g326⟩ : ∃ z, z = h0.size := ⟨_, rfl⟩
  rw [← g326] at A326 st326
  have ne326_b : b ≠ b326 := Nat.ne_of_lt (Nat.lt_of_lt_of_le V_b.lt (Nat.le_of_eq g326.symm))
  have ge_b326 : n0 ≤ b326 := Nat.le_trans Z0 (Nat.le_of_eq g326.symm)
  have sz_b326 : h0.size ≤ b326 := Nat.le_trans ((Keep.refl h0 [])).1 (Nat.le_of_eq g326.symm)
  have V326 : Arv Z h326 b326 k326 .byte (2 : Int32) [(.int (0 : Int32)), (.int (0 : Int32))] (.int (0 : Int32)) := (Arv.new A326 (by decide)).pad (pad_rep [] (.int (0 : Int32)) 2)
  have K327 : Go p e below T326 (mkF m 3 #[.val (.ref b), .val (.int (0 : Int32)), .val (.int (2 : Int32)), .unset, .unset, .unset] [(.ref b326)]) G := fun tq kq => K325 tq (st326 tq kq)
  have K328 : Go p e below T326 (mkF m 4 #[.val (.ref b), .val (.int (0 : Int32)), .val (.int (2 : Int32)), .val (.ref b326), .unset, .unset] []) G := fun tq kq => K327 tq (XS.astoreN X326.here hx rfl (hb hby d_jdk_52_method_16_3) rfl rfl (l' := #[.val (.ref b), .val (.int (0 : Int32)), .val (.int (2 : Int32)), .val (.ref b326), .unset, .unset]) rfl kq)
  have K329 : Go p e below T326 (mkF m 5 #[.val (.ref b), .val (.int (0 : Int32)), .val (.int (2 : Int32)), .val (.ref b326), .unset, .unset] [(.ref b)]) G := fun tq kq => K328 tq (XS.aloadN X326.here hx rfl (hb hby d_jdk_52_method_16_4) rfl rfl kq)
  have K330 : Go p e below T326 (mkF m 6 #[.val (.ref b), .val (.int (0 : Int32)), .val (.int (2 : Int32)), .val (.ref b326), .unset, .unset] [(.int (0 : Int32)), (.ref b)]) G := fun tq kq => K329 tq (XS.iloadN X326.here hx rfl (hb hby d_jdk_52_method_16_5) rfl kq)
  have K331 : Go p e below T326 (mkF m 7 #[.val (.ref b), .val (.int (0 : Int32)), .val (.int (2 : Int32)), .val (.ref b326), .unset, .unset] [(.ref b326), (.int (0 : Int32)), (.ref b)]) G := fun tq kq => K330 tq (XS.aloadN X326.here hx rfl (hb hby d_jdk_52_method_16_6) rfl rfl kq)
  have K332 : Go p e below T326 (mkF m 8 #[.val (.ref b), .val (.int (0 : Int32)), .val (.int (2 : Int32)), .val (.ref b326), .unset, .unset] [(.int (0 : Int32)), (.ref b326), (.int (0 : Int32)), (.ref b)]) G := fun tq kq => K331 tq (XS.iconst X326.here hx rfl (hb hby d_jdk_52_method_16_7) kq)
  have K333 : Go p e below T326 (mkF m 9 #[.val (.ref b), .val (.int (0 : Int32)), .val (.int (2 : Int32)), .val (.ref b326), .unset, .unset] [(.int (2 : Int32)), (.int (0 : Int32)), (.ref b326), (.int (0 : Int32)), (.ref b)]) G := fun tq kq => K332 tq (XS.iloadN X326.here hx rfl (hb hby d_jdk_52_method_16_8) rfl kq)
  obtain ⟨v334, _, ⟨T334, L334, k334, n334⟩, -, X334, ⟨Lc334, hQ334, l334, y334, z334⟩, st334⟩ := Jvm.LawKit.callS X326 hx (y := (⟨"java/lang/StringUTF16", "compress", "([CI[BII)I"⟩ : MethodName)) hown (mvT hZ (hW 49 _ rfl)) (mvT hZ (hW 50 _ rfl)) (mvT hZ (hW 47 _ rfl)) (mvT hZ (hW 51 _ rfl)) (by decide) (backOf (W := 0) (rmCP2 l Z a0 hw [] b b326 kc k326 c0 c1 h326 n0 (Nat.le_trans Z0 E326.1) ge_b326 ne326_b (V_b.ext E326) V326 hwd) hZ (hW 51 _ rfl) (hW 47 _ rfl) (by decide) (by decide)) (g := (mkF m 9 #[.val (.ref b), .val (.int (0 : Int32)), .val (.int (2 : Int32)), .val (.ref b326), .unset, .unset] [(.int (2 : Int32)), (.int (0 : Int32)), (.ref b326), (.int (0 : Int32)), (.ref b)])) rfl (by rw [hml]; rfl) (argsL := [(.ref b), (.int (0 : Int32)), (.ref b326), (.int (0 : Int32)), (.int (2 : Int32))]) (rest := []) (lenOf pd_155 rfl) rfl (by show 2 * 0 + _ ≤ _; exact Nat.le_of_eq rfl) (hb hby d_jdk_52_method_16_9) (fun _ _ => ⟨rfl, e326, (by decide : 1 + 0 ≤ _), (by decide : 2 + 0 ≤ _)⟩)
  dsimp only [Pt.U, Pt.locs, Pt.cells, Pt.slots] at X334 l334 y334 z334 st334 hQ334
  subst l334 y334 z334
  obtain ⟨j, rfl, hj, hgt, N334q, K334q⟩ := hQ334
  have N334 := Fr.app N0 N334q
  have hjn : ¬ ((Int32.ofNat j) = (2 : Int32)) := own_jn j 2 hj (by decide)
  have K335 : Go p e below T334 (mkF m 12 #[.val (.ref b), .val (.int (0 : Int32)), .val (.int (2 : Int32)), .val (.ref b326), .unset, .unset] [(.int (Int32.ofNat j))]) G := fun tq kq => K333 tq (st334 tq kq)
  have K336 : Go p e below T334 (mkF m 14 #[.val (.ref b), .val (.int (0 : Int32)), .val (.int (2 : Int32)), .val (.ref b326), .val (.int (Int32.ofNat j)), .unset] []) G := fun tq kq => K335 tq (XS.istore X334.here hx rfl (hb hby d_jdk_52_method_16_12) rfl (l' := #[.val (.ref b), .val (.int (0 : Int32)), .val (.int (2 : Int32)), .val (.ref b326), .val (.int (Int32.ofNat j)), .unset]) rfl kq)
  have K337 : Go p e below T334 (mkF m 16 #[.val (.ref b), .val (.int (0 : Int32)), .val (.int (2 : Int32)), .val (.ref b326), .val (.int (Int32.ofNat j)), .unset] [(.int (Int32.ofNat j))]) G := fun tq kq => K336 tq (XS.iload X334.here hx rfl (hb hby d_jdk_52_method_16_14) rfl kq)
  have K338 : Go p e below T334 (mkF m 17 #[.val (.ref b), .val (.int (0 : Int32)), .val (.int (2 : Int32)), .val (.ref b326), .val (.int (Int32.ofNat j)), .unset] [(.int (2 : Int32)), (.int (Int32.ofNat j))]) G := fun tq kq => K337 tq (XS.iloadN X334.here hx rfl (hb hby d_jdk_52_method_16_16) rfl kq)
  have K339 : Go p e below T334 (mkF m 20 #[.val (.ref b), .val (.int (0 : Int32)), .val (.int (2 : Int32)), .val (.ref b326), .val (.int (Int32.ofNat j)), .unset] []) G := fun tq kq => K338 tq (XS.icmpNo X334.here hx rfl (hb hby d_jdk_52_method_16_17) rfl ((feq hjn).1) kq)
  have K340 : Go p e below T334 (mkF m 21 #[.val (.ref b), .val (.int (0 : Int32)), .val (.int (2 : Int32)), .val (.ref b326), .val (.int (Int32.ofNat j)), .unset] [(.ref b)]) G := fun tq kq => K339 tq (XS.aloadN X334.here hx rfl (hb hby d_jdk_52_method_16_20) rfl rfl kq)
  have K341 : Go p e below T334 (mkF m 22 #[.val (.ref b), .val (.int (0 : Int32)), .val (.int (2 : Int32)), .val (.ref b326), .val (.int (Int32.ofNat j)), .unset] [(.int (0 : Int32)), (.ref b)]) G := fun tq kq => K340 tq (XS.iloadN X334.here hx rfl (hb hby d_jdk_52_method_16_21) rfl kq)
  have K342 : Go p e below T334 (mkF m 23 #[.val (.ref b), .val (.int (0 : Int32)), .val (.int (2 : Int32)), .val (.ref b326), .val (.int (Int32.ofNat j)), .unset] [(.int (2 : Int32)), (.int (0 : Int32)), (.ref b)]) G := fun tq kq => K341 tq (XS.iloadN X334.here hx rfl (hb hby d_jdk_52_method_16_22) rfl kq)
  obtain ⟨v343, _, ⟨T343, L343, k343, n343⟩, -, X343, ⟨Lc343, hQ343, l343, y343, z343⟩, st343⟩ := Jvm.LawKit.callS X334 hx (y := (⟨"java/lang/StringUTF16", "toBytes", "([CII)[B"⟩ : MethodName)) hown (mvT hZ (hW 80 _ rfl)) (mvT hZ (hW 81 _ rfl)) (mvT hZ (hW 47 _ rfl)) (mvT hZ (hW 82 _ rfl)) (by decide) (backOf (W := 0) (rmTB2 l Z a0 hw [] b kc c0 c1 T334.heap n0 (Nat.le_trans (Nat.le_trans Z0 E326.1) K334q.1) ((O0.ext E326).keep K334q (allS ge_b326 all0)) S_ad S_hi S_lo ((V_b.ext E326).keep K334q (ninS ne326_b nin0))) hZ (hW 82 _ rfl) (hW 47 _ rfl) (by decide) (by decide)) (g := (mkF m 23 #[.val (.ref b), .val (.int (0 : Int32)), .val (.int (2 : Int32)), .val (.ref b326), .val (.int (Int32.ofNat j)), .unset] [(.int (2 : Int32)), (.int (0 : Int32)), (.ref b)])) rfl (by rw [hml]; rfl) (argsL := [(.ref b), (.int (0 : Int32)), (.int (2 : Int32))]) (rest := []) (lenOf pd_156 rfl) rfl (by show 2 * 0 + _ ≤ _; exact Nat.le_of_eq rfl) (hb hby d_jdk_52_method_16_23) (fun _ _ => ⟨rfl, rfl, (by decide : 1 + 1 ≤ _), (by decide : 2 + 4 ≤ _)⟩)
  dsimp only [Pt.U, Pt.locs, Pt.cells, Pt.slots] at X343 l343 y343 z343 st343 hQ343
  subst l343 y343 z343
  obtain ⟨tb343, kb343, rfl, N343q, K343q, sz343, ge343, V343q⟩ := hQ343
  have N343 := Fr.app N334 N343q
  have na344 : b ≠ tb343 := Nat.ne_of_lt (Nat.lt_of_lt_of_le ((V_b.ext E326).keep K334q (ninS ne326_b nin0)).lt sz343)
  have sb343 := Nat.le_trans ((((Keep.refl h0 []).ext E326).trans K334q (allS (Or.inr sz_b326) all0))).1 sz343
  have K345 : Go p e below T343 (mkF m 26 #[.val (.ref b), .val (.int (0 : Int32)), .val (.int (2 : Int32)), .val (.ref b326), .val (.int (Int32.ofNat j)), .unset] [(.ref tb343)]) G := fun tq kq => K342 tq (st343 tq kq)
  have K346 : Go p e below T343 (mkF m 28 #[.val (.ref b), .val (.int (0 : Int32)), .val (.int (2 : Int32)), .val (.ref b326), .val (.int (Int32.ofNat j)), .val (.ref tb343)] []) G := fun tq kq => K345 tq (XS.astore X343.here hx rfl (hb hby d_jdk_52_method_16_26) rfl rfl (l' := #[.val (.ref b), .val (.int (0 : Int32)), .val (.int (2 : Int32)), .val (.ref b326), .val (.int (Int32.ofNat j)), .val (.ref tb343)]) rfl kq)
  have K347 : Go p e below T343 (mkF m 30 #[.val (.ref b), .val (.int (0 : Int32)), .val (.int (2 : Int32)), .val (.ref b326), .val (.int (Int32.ofNat j)), .val (.ref tb343)] [(.ref tb343)]) G := fun tq kq => K346 tq (XS.aload X343.here hx rfl (hb hby d_jdk_52_method_16_28) rfl rfl kq)
  have K348 : Go p e below T343 (mkF m 32 #[.val (.ref b), .val (.int (0 : Int32)), .val (.int (2 : Int32)), .val (.ref b326), .val (.int (Int32.ofNat j)), .val (.ref tb343)] [(.int (Int32.ofNat j)), (.ref tb343)]) G := fun tq kq => K347 tq (XS.iload X343.here hx rfl (hb hby d_jdk_52_method_16_30) rfl kq)
  obtain ⟨v349, _, ⟨T349, L349, k349, n349⟩, -, X349, ⟨Lc349, hQ349, l349, y349, z349⟩, st349⟩ := Jvm.LawKit.callS X343 hx (y := (⟨"java/lang/StringUTF16", "getChar", "([BI)C"⟩ : MethodName)) hown (mvT hZ (hW 96 _ rfl)) (mvT hZ (hW 97 _ rfl)) (mvT hZ (hW 47 _ rfl)) (mvT hZ (hW 98 _ rfl)) (by decide) (backOf (W := 0) (rmGC l Z a0 hw [] tb343 kb343 (4 : Int32) (StrChars.Road.wideBytes ([c0, c1] : List Int32)) (Int32.ofNat j) j (([c0, c1] : List Int32).getD j 0) T343.heap n0 (Nat.le_trans (Nat.le_trans (Nat.le_trans Z0 E326.1) K334q.1) K343q.1) (((O0.ext E326).keep K334q (allS ge_b326 all0)).keep K343q all0) S_ad S_hi S_lo V343q (own_ixn j 2 hj (by decide)) (StrChars.Road.wide_lo _ ([c0, c1] : List Int32) j hj) (StrChars.Road.wide_hi _ ([c0, c1] : List Int32) j hj) (own_getR hb5 j hj)) hZ (hW 98 _ rfl) (hW 47 _ rfl) (by decide) (by decide)) (g := (mkF m 32 #[.val (.ref b), .val (.int (0 : Int32)), .val (.int (2 : Int32)), .val (.ref b326), .val (.int (Int32.ofNat j)), .val (.ref tb343)] [(.int (Int32.ofNat j)), (.ref tb343)])) rfl (by rw [hml]; rfl) (argsL := [(.ref tb343), (.int (Int32.ofNat j))]) (rest := []) (lenOf pd_157 rfl) rfl (by show 2 * 0 + _ ≤ _; exact Nat.le_of_eq rfl) (hb hby d_jdk_52_method_16_32) (fun _ _ => ⟨rfl, rfl, (by decide : 2 + 0 ≤ _), (by decide : 6 + 0 ≤ _)⟩)
  dsimp only [Pt.U, Pt.locs, Pt.cells, Pt.slots] at X349 l349 y349 z349 st349 hQ349
  subst l349 y349 z349
  obtain ⟨rfl, N349q, E349q⟩ := hQ349
  have N349 := Fr.app N343 N349q
  have K350 : Go p e below T349 (mkF m 35 #[.val (.ref b), .val (.int (0 : Int32)), .val (.int (2 : Int32)), .val (.ref b326), .val (.int (Int32.ofNat j)), .val (.ref tb343)] [(.int (([c0, c1] : List Int32).getD j 0))]) G := fun tq kq => K348 tq (st349 tq kq)
  have K351 : Go p e below T349 (mkF m 38 #[.val (.ref b), .val (.int (0 : Int32)), .val (.int (2 : Int32)), .val (.ref b326), .val (.int (Int32.ofNat j)), .val (.ref tb343)] [(.int (255 : Int32)), (.int (([c0, c1] : List Int32).getD j 0))]) G := fun tq kq => K350 tq (XS.sipush X349.here hx rfl (hb hby d_jdk_52_method_16_35) kq)
  have K352 : Go p e below T349 (mkF m 54 #[.val (.ref b), .val (.int (0 : Int32)), .val (.int (2 : Int32)), .val (.ref b326), .val (.int (Int32.ofNat j)), .val (.ref tb343)] []) G := fun tq kq => K351 tq (XS.icmpYes X349.here hx rfl (pc0 := 38) (pc' := 54) rfl (hb hby d_jdk_52_method_16_38) rfl ((tlt hgt).2.2.1) (by decide) (by decide) kq)
  have K353 : Go p e below T349 (mkF m 56 #[.val (.ref b), .val (.int (0 : Int32)), .val (.int (2 : Int32)), .val (.ref b326), .val (.int (Int32.ofNat j)), .val (.ref tb343)] [(.ref tb343)]) G := fun tq kq => K352 tq (XS.aload X349.here hx rfl (hb hby d_jdk_52_method_16_54) rfl rfl kq)
  obtain ⟨fs, hr, hrun, hended, hWW, hsame⟩ := X349.leave (v := some (.ref tb343)) (fun h => by rw [Bd.returns] at h; cases h)
  refine ⟨_, _, hG _ (K353 _ (retOut X349 hx Bd.returns rfl (Or.inr (Or.inr (Or.inr (Or.inr ⟨rfl, rfl, rfl⟩)))) (hb hby d_jdk_52_method_16_56) hr)), hrun, hended, _, _, rfl, ?_, ⟨_, rfl⟩, hWW, hsame.mono (by decide) (by decide)⟩
  show QCM2 Z b kc c0 c1 h0 n0 _ T349.heap _
  rw [E349q]
  exact ⟨tb343, _, rfl, N349, ((((Keep.refl h0 []).ext E326).trans K334q (allS (Or.inr sz_b326) all0)).trans K343q all0), sb343, ge343, V343q⟩
def QCF2 (Z : State) (tb : Addr) (kb : ClassId) (vs : List Value) (h0 : Heap) (n0 : Nat) (v : Option Value) (h : Heap) (L : List Loc) : Prop := v = some (.int (1 : Int32)) ∧ Fr n0 L ∧ h = h0
set_option maxRecDepth 65536 in
set_option maxHeartbeats 40000000 in
theorem rmCF2 (l : Launch) (Z : State) (a0 : Array Value) (hw : ∀ d ∈ tables_1, d.before a0 Z = true) (ws : List Jvm.Cond) (tb : Addr) (kb : ClassId) (vs : List Value) (h0 : Heap) (n0 : Nat) (Z0 : n0 ≤ h0.size) (V_tb : Arv Z h0 tb kb .byte (4 : Int32) vs (.int (0 : Int32))) :
    MetFree l (⟨"java/lang/StringUTF16", "coderFromArrayLen", "([BI)B"⟩ : MethodName) (head1 (Jvm.Cond.code (⟨"java/lang/StringUTF16", "coderFromArrayLen", "([BI)B"⟩ : MethodName) jdk_52_method_15_code 2 (some .byte) :: ws) ({ frames := 0, cells := 0, slots := 0, locals := 0 } : Room)) (fun aa UU => aa = #[(.ref tb), (.int (2 : Int32))] ∧ Z.Warmed39 UU.vm ∧ UU.heap = h0) (fun _ _ _ _ _ => True) (fun _ UU oo UU' => ∃ vv LL, oo = .returned vv ∧ QCF2 Z tb kb vs h0 n0 vv UU'.heap LL ∧ FrameEnd UU oo UU' LL ({ frames := 0, cells := 0, slots := 0, locals := 0 } : Room).cells ({ frames := 0, cells := 0, slots := 0, locals := 0 } : Room).slots) := by
  refine MetFree.of_bodySF (plainFor_of_name pn_41) hisR ?_
  intro p e s m args below meth c s₁ Bd hml0 hP hK
  obtain ⟨rfl, hZ, hh⟩ := hP
  have hx := Bd.exec
  have hby := Bd.bytes
  have hml : c.maxLocals = 2 := hml0
  have hown : s.vm.findClass "java/lang/StringUTF16" = some m.cls := findClass_of_methodNamed Bd.named
  have hnm := (name_of_methodNamed Bd.named Bd.method).1
  have hW : ∀ (k : Nat) (d : Jvm.Cond), tables_1[k]? = some d → d.before a0 Z = true := fun k d h => hw d (List.mem_of_getElem? h)
  have X0 : Stand p l e ({ frames := 0, cells := 0, slots := 0, locals := 0 } : Room) s m #[(.ref tb), (.int (2 : Int32))] below meth c s₁ [] 0 0 := Stand.of_body Bd
  have e0 : s₁.heap = h0 := by rw [← hh, Bd.state]; rfl
  have N0 := Fr.nil n0
  obtain ⟨G, hG, K0⟩ : ∃ G : State → Prop, (∀ tq, G tq → Steps p.tables e below (s₁.setTop (entryFrame m #[(.ref tb), (.int (2 : Int32))] 2)) tq) ∧ Go p e below s₁ (mkF m 0 #[.val (.ref tb), .val (.int (2 : Int32))] []) G := ⟨fun tq => Steps p.tables e below (s₁.setTop (entryFrame m #[(.ref tb), (.int (2 : Int32))] 2)) tq, fun _ h => h, fun tq kq => castTop (ef_jdk_52_method_15_RI m tb (2 : Int32)) kq⟩
  have K354 : Go p e below s₁ (mkF m 1 #[.val (.ref tb), .val (.int (2 : Int32))] [(.int (2 : Int32))]) G := fun tq kq => K0 tq (XS.iloadN X0.here hx rfl (hb hby d_jdk_52_method_15_0) rfl kq)
  have K355 : Go p e below s₁ (mkF m 2 #[.val (.ref tb), .val (.int (2 : Int32))] [(.ref tb), (.int (2 : Int32))]) G := fun tq kq => K354 tq (XS.aloadN X0.here hx rfl (hb hby d_jdk_52_method_15_1) rfl rfl kq)
  obtain ⟨cl356, Ar356, q356, S356, Nn356, Hh356, Gg356⟩ := id V_tb
  have K357 : Go p e below s₁ (mkF m 3 #[.val (.ref tb), .val (.int (2 : Int32))] [(.int (4 : Int32)), (.int (2 : Int32))]) G := fun tq kq => K355 tq (X0.arraylength hx (by rw [e0]; exact Ar356.1) (State.isArrayOf_alike hZ.alike Ar356.2.1) (g := (mkF m 2 #[.val (.ref tb), .val (.int (2 : Int32))] [(.ref tb), (.int (2 : Int32))])) rfl rfl (hb hby d_jdk_52_method_15_2) _ (by rw [len_of S356 Nn356]; exact kq))
  have K358 : Go p e below s₁ (mkF m 4 #[.val (.ref tb), .val (.int (2 : Int32))] [(.int (-2 : Int32))]) G := fun tq kq => K357 tq (XS.isub X0.here hx rfl (hb hby d_jdk_52_method_15_3) rfl kq)
  have K359 : Go p e below s₁ (mkF m 6 #[.val (.ref tb), .val (.int (2 : Int32))] [(.int (31 : Int32)), (.int (-2 : Int32))]) G := fun tq kq => K358 tq (XS.bipush X0.here hx rfl (hb hby d_jdk_52_method_15_4) kq)
  have K360 : Go p e below s₁ (mkF m 7 #[.val (.ref tb), .val (.int (2 : Int32))] [(.int (((-2 : Int32).toUInt32 >>> ((31 : Int32) &&& 31).toUInt32).toInt32))]) G := fun tq kq => K359 tq (XS.iushr X0.here hx rfl (hb hby d_jdk_52_method_15_6) rfl kq)
  have K361 : Go p e below s₁ (mkF m 8 #[.val (.ref tb), .val (.int (2 : Int32))] [(.int ((((-2 : Int32).toUInt32 >>> ((31 : Int32) &&& 31).toUInt32).toInt32).toInt8.toInt32))]) G := fun tq kq => K360 tq (XS.i2b X0.here hx rfl (hb hby d_jdk_52_method_15_7) rfl kq)
  obtain ⟨fs, hr, hrun, hended, hWW, hsame⟩ := X0.leave (v := some (.int (nar .byte ((((-2 : Int32).toUInt32 >>> ((31 : Int32) &&& 31).toUInt32).toInt32).toInt8.toInt32)))) (fun h => by rw [Bd.returns] at h; cases h)
  refine ⟨_, _, hG _ (K361 _ (retN X0 hx (t := .byte) Bd.returns (by simp) (hb hby d_jdk_52_method_15_8) hr)), hrun, hended, _, _, rfl, ?_, ⟨_, rfl⟩, hWW, hsame.mono (by decide) (by decide)⟩
  show QCF2 Z tb kb vs h0 n0 _ s₁.heap _
  rw [e0]
  exact ⟨congrArg (fun z => some (Value.int z)) (by decide), N0, rfl⟩
def QN4w2 (Z : State) (a : Addr) (b : Addr) (kc : ClassId) (c0 : Int32) (c1 : Int32) (cz : Int32) (h0 : Heap) (n0 : Nat) (v : Option Value) (h : Heap) (L : List Loc) : Prop := v = none ∧ Fr n0 L ∧ Keep h0 h [a] ∧ Exa Z h a "java/lang/String" ∧ Fld Z h a "java/lang/String" "coder" "B" (.int (1 : Int32)) ∧ ∃ (tb : Addr) (kb : ClassId), tb ≠ a ∧ Fld Z h a "java/lang/String" "value" "[B" (.ref tb) ∧ Arv Z h tb kb .byte (4 : Int32) (StrChars.Road.wideBytes ([c0, c1] : List Int32)) (.int (0 : Int32))
set_option maxRecDepth 65536 in
set_option maxHeartbeats 40000000 in
theorem rmN4w2 (l : Launch) (Z : State) (a0 : Array Value) (hw : ∀ d ∈ tables_1, d.before a0 Z = true) (ws : List Jvm.Cond) (a : Addr) (b : Addr) (kc : ClassId) (c0 : Int32) (c1 : Int32) (cz : Int32) (h0 : Heap) (n0 : Nat) (Z0 : n0 ≤ h0.size) (F_value_a : Fld Z h0 a "java/lang/String" "value" "[B" .null) (F_coder_a : Fld Z h0 a "java/lang/String" "coder" "B" (.int (0 : Int32))) (E_a : Exa Z h0 a "java/lang/String") (ge_a : n0 ≤ a) (O0 : Old Z n0 h0) (S_cs : Sta Z Z.heap "java/lang/String" "COMPACT_STRINGS" "Z" (.int cz)) (hcz : ¬ cz = 0) (S_ad : Sta Z Z.heap "java/lang/StringUTF16" "$assertionsDisabled" "Z" (.int (1 : Int32))) (S_hi : Sta Z Z.heap "java/lang/StringUTF16" "HI_BYTE_SHIFT" "I" (.int (0 : Int32))) (S_lo : Sta Z Z.heap "java/lang/StringUTF16" "LO_BYTE_SHIFT" "I" (.int (8 : Int32))) (V_b : Arv Z h0 b kc .char (2 : Int32) [(.int c0), (.int c1)] (.int (0 : Int32))) (hwd : ¬ ∀ c ∈ ([c0, c1] : List Int32), ¬ (255 : Int32) < c) (hb5 : ∀ c ∈ ([c0, c1] : List Int32), ¬ c < 0 ∧ ¬ (65535 : Int32) < c) :
    MetFree l (⟨"java/lang/String", "<init>", "([CIILjava/lang/Void;)V"⟩ : MethodName) (head1 (Jvm.Cond.code (⟨"java/lang/String", "<init>", "([CIILjava/lang/Void;)V"⟩ : MethodName) jdk_42_method_149_code 6 none :: ws) ({ frames := 4, cells := 2, slots := 6, locals := 57 } : Room)) (fun aa UU => aa = #[(.ref a), (.ref b), (.int (0 : Int32)), (.int (2 : Int32)), .null] ∧ Z.Warmed39 UU.vm ∧ UU.heap = h0) (fun _ _ _ _ _ => True) (fun _ UU oo UU' => ∃ vv LL, oo = .returned vv ∧ QN4w2 Z a b kc c0 c1 cz h0 n0 vv UU'.heap LL ∧ FrameEnd UU oo UU' LL ({ frames := 4, cells := 2, slots := 6, locals := 57 } : Room).cells ({ frames := 4, cells := 2, slots := 6, locals := 57 } : Room).slots) := by
  refine MetFree.of_bodySF (plainFor_of_name pn_0) hisR ?_
  intro p e s m args below meth c s₁ Bd hml0 hP hK
  obtain ⟨rfl, hZ, hh⟩ := hP
  have hx := Bd.exec
  have hby := Bd.bytes
  have hml : c.maxLocals = 6 := hml0
  have hown : s.vm.findClass "java/lang/String" = some m.cls := findClass_of_methodNamed Bd.named
  have hnm := (name_of_methodNamed Bd.named Bd.method).1
  have hW : ∀ (k : Nat) (d : Jvm.Cond), tables_1[k]? = some d → d.before a0 Z = true := fun k d h => hw d (List.mem_of_getElem? h)
  have X0 : Stand p l e ({ frames := 4, cells := 2, slots := 6, locals := 57 } : Room) s m #[(.ref a), (.ref b), (.int (0 : Int32)), (.int (2 : Int32)), .null] below meth c s₁ [] 0 0 := Stand.of_body Bd
  have e0 : s₁.heap = h0 := by rw [← hh, Bd.state]; rfl
  have N0 := Fr.nil n0
  obtain ⟨G, hG, K0⟩ : ∃ G : State → Prop, (∀ tq, G tq → Steps p.tables e below (s₁.setTop (entryFrame m #[(.ref a), (.ref b), (.int (0 : Int32)), (.int (2 : Int32)), .null] 6)) tq) ∧ Go p e below s₁ (mkF m 0 #[.val (.ref a), .val (.ref b), .val (.int (0 : Int32)), .val (.int (2 : Int32)), .val .null, .unset] []) G := ⟨fun tq => Steps p.tables e below (s₁.setTop (entryFrame m #[(.ref a), (.ref b), (.int (0 : Int32)), (.int (2 : Int32)), .null] 6)) tq, fun _ h => h, fun tq kq => castTop (ef_jdk_42_method_149_RRIIN m a b (0 : Int32) (2 : Int32)) kq⟩
  have K362 : Go p e below s₁ (mkF m 1 #[.val (.ref a), .val (.ref b), .val (.int (0 : Int32)), .val (.int (2 : Int32)), .val .null, .unset] [(.ref a)]) G := fun tq kq => K0 tq (XS.aloadN X0.here hx rfl (hb hby d_jdk_42_method_149_0) rfl rfl kq)
  obtain ⟨T363, X363, e363, st363⟩ := initO X0 hx hZ hown (hW 19 _ rfl) (hW 20 _ rfl) (hW 21 _ rfl) e0 (g := (mkF m 1 #[.val (.ref a), .val (.ref b), .val (.int (0 : Int32)), .val (.int (2 : Int32)), .val .null, .unset] [(.ref a)])) rfl (by rw [hml]; rfl) rfl (hb hby d_jdk_42_method_149_1) (by decide) (W := 0) (by show 2 * 0 + _ ≤ _; exact Nat.le_of_eq rfl) (by decide)
  have K364 : Go p e below T363 (mkF m 4 #[.val (.ref a), .val (.ref b), .val (.int (0 : Int32)), .val (.int (2 : Int32)), .val .null, .unset] []) G := fun tq kq => K362 tq (st363 tq kq)
  have K365 : Go p e below T363 (mkF m 5 #[.val (.ref a), .val (.ref b), .val (.int (0 : Int32)), .val (.int (2 : Int32)), .val .null, .unset] [(.int (2 : Int32))]) G := fun tq kq => K364 tq (XS.iloadN X363.here hx rfl (hb hby d_jdk_42_method_149_4) rfl kq)
  have K366 : Go p e below T363 (mkF m 27 #[.val (.ref a), .val (.ref b), .val (.int (0 : Int32)), .val (.int (2 : Int32)), .val .null, .unset] []) G := fun tq kq => K365 tq (XS.ifYes X363.here hx rfl (pc0 := 5) (pc' := 27) rfl (hb hby d_jdk_42_method_149_5) rfl ((if0 _ _).trans (feq (by decide : ¬ ((2 : Int32) = (0 : Int32)))).2) (by decide) (by decide) kq)
  obtain ⟨T367, X367, e367, st367⟩ := getS2 X363 hx hZ hown (host := "") (Or.inl (hW 44 _ rfl)) Via.refl e363 (S_cs.ext O0.2) (g := (mkF m 27 #[.val (.ref a), .val (.ref b), .val (.int (0 : Int32)), .val (.int (2 : Int32)), .val .null, .unset] [])) rfl (hb hby d_jdk_42_method_149_27)
  have K368 : Go p e below T367 (mkF m 30 #[.val (.ref a), .val (.ref b), .val (.int (0 : Int32)), .val (.int (2 : Int32)), .val .null, .unset] [(.int cz)]) G := fun tq kq => K366 tq (st367 tq kq)
  have K369 : Go p e below T367 (mkF m 33 #[.val (.ref a), .val (.ref b), .val (.int (0 : Int32)), .val (.int (2 : Int32)), .val .null, .unset] []) G := fun tq kq => K368 tq (XS.ifNo X367.here hx rfl (hb hby d_jdk_42_method_149_30) rfl ((if0 _ _).trans (feq hcz).1) kq)
  have K370 : Go p e below T367 (mkF m 34 #[.val (.ref a), .val (.ref b), .val (.int (0 : Int32)), .val (.int (2 : Int32)), .val .null, .unset] [(.ref b)]) G := fun tq kq => K369 tq (XS.aloadN X367.here hx rfl (hb hby d_jdk_42_method_149_33) rfl rfl kq)
  have K371 : Go p e below T367 (mkF m 35 #[.val (.ref a), .val (.ref b), .val (.int (0 : Int32)), .val (.int (2 : Int32)), .val .null, .unset] [(.int (0 : Int32)), (.ref b)]) G := fun tq kq => K370 tq (XS.iloadN X367.here hx rfl (hb hby d_jdk_42_method_149_34) rfl kq)
  have K372 : Go p e below T367 (mkF m 36 #[.val (.ref a), .val (.ref b), .val (.int (0 : Int32)), .val (.int (2 : Int32)), .val .null, .unset] [(.int (2 : Int32)), (.int (0 : Int32)), (.ref b)]) G := fun tq kq => K371 tq (XS.iloadN X367.here hx rfl (hb hby d_jdk_42_method_149_35) rfl kq)
  obtain ⟨v373, _, ⟨T373, L373, k373, n373⟩, -, X373, ⟨Lc373, hQ373, l373, y373, z373⟩, st373⟩ := Jvm.LawKit.callS X367 hx (y := (⟨"java/lang/StringUTF16", "compress", "([CII)[B"⟩ : MethodName)) hown (mvT hZ (hW 45 _ rfl)) (mvT hZ (hW 46 _ rfl)) (mvT hZ (hW 47 _ rfl)) (mvT hZ (hW 48 _ rfl)) (by decide) (backOf (W := 0) (rmCM2 l Z a0 hw [] b kc c0 c1 h0 n0 Z0 O0 S_ad S_hi S_lo V_b hwd hb5) hZ (hW 48 _ rfl) (hW 47 _ rfl) (by decide) (by decide)) (g := (mkF m 36 #[.val (.ref a), .val (.ref b), .val (.int (0 : Int32)), .val (.int (2 : Int32)), .val .null, .unset] [(.int (2 : Int32)), (.int (0 : Int32)), (.ref b)])) rfl (by rw [hml]; rfl) (argsL := [(.ref b), (.int (0 : Int32)), (.int (2 : Int32))]) (rest := []) (lenOf pd_156 rfl) rfl (by show 2 * 0 + _ ≤ _; exact Nat.le_of_eq rfl) (hb hby d_jdk_42_method_149_36) (fun _ _ => ⟨rfl, e367, (by decide : 0 + 2 ≤ _), (by decide : 0 + 6 ≤ _)⟩)
  dsimp only [Pt.U, Pt.locs, Pt.cells, Pt.slots] at X373 l373 y373 z373 st373 hQ373
  subst l373 y373 z373
  obtain ⟨tb373, kb373, rfl, N373q, K373q, sz373, ge373, V373q⟩ := hQ373
  have N373 := Fr.app N0 N373q
  have na374 : a ≠ tb373 := Nat.ne_of_lt (Nat.lt_of_lt_of_le F_value_a.lt sz373)
  have na375 : b ≠ tb373 := Nat.ne_of_lt (Nat.lt_of_lt_of_le V_b.lt sz373)
  have sb373 := Nat.le_trans ((Keep.refl h0 [a])).1 sz373
  have K376 : Go p e below T373 (mkF m 39 #[.val (.ref a), .val (.ref b), .val (.int (0 : Int32)), .val (.int (2 : Int32)), .val .null, .unset] [(.ref tb373)]) G := fun tq kq => K372 tq (st373 tq kq)
  have K377 : Go p e below T373 (mkF m 41 #[.val (.ref a), .val (.ref b), .val (.int (0 : Int32)), .val (.int (2 : Int32)), .val .null, .val (.ref tb373)] []) G := fun tq kq => K376 tq (XS.astore X373.here hx rfl (hb hby d_jdk_42_method_149_39) rfl rfl (l' := #[.val (.ref a), .val (.ref b), .val (.int (0 : Int32)), .val (.int (2 : Int32)), .val .null, .val (.ref tb373)]) rfl kq)
  have K378 : Go p e below T373 (mkF m 42 #[.val (.ref a), .val (.ref b), .val (.int (0 : Int32)), .val (.int (2 : Int32)), .val .null, .val (.ref tb373)] [(.ref a)]) G := fun tq kq => K377 tq (XS.aloadN X373.here hx rfl (hb hby d_jdk_42_method_149_41) rfl rfl kq)
  have K379 : Go p e below T373 (mkF m 44 #[.val (.ref a), .val (.ref b), .val (.int (0 : Int32)), .val (.int (2 : Int32)), .val .null, .val (.ref tb373)] [(.ref tb373), (.ref a)]) G := fun tq kq => K378 tq (XS.aload X373.here hx rfl (hb hby d_jdk_42_method_149_42) rfl rfl kq)
  have K380 : Go p e below T373 (mkF m 45 #[.val (.ref a), .val (.ref b), .val (.int (0 : Int32)), .val (.int (2 : Int32)), .val .null, .val (.ref tb373)] [(.int (2 : Int32)), (.ref tb373), (.ref a)]) G := fun tq kq => K379 tq (XS.iloadN X373.here hx rfl (hb hby d_jdk_42_method_149_44) rfl kq)
  obtain ⟨v381, _, ⟨T381, L381, k381, n381⟩, -, X381, ⟨Lc381, hQ381, l381, y381, z381⟩, st381⟩ := Jvm.LawKit.callS X373 hx (y := (⟨"java/lang/StringUTF16", "coderFromArrayLen", "([BI)B"⟩ : MethodName)) hown (mvT hZ (hW 52 _ rfl)) (mvT hZ (hW 53 _ rfl)) (mvT hZ (hW 47 _ rfl)) (mvT hZ (hW 54 _ rfl)) (by decide) (backOf (W := 1) (rmCF2 l Z a0 hw [] tb373 kb373 (StrChars.Road.wideBytes ([c0, c1] : List Int32)) T373.heap n0 (Nat.le_trans Z0 K373q.1) V373q) hZ (hW 54 _ rfl) (hW 47 _ rfl) (by decide) (by decide)) (g := (mkF m 45 #[.val (.ref a), .val (.ref b), .val (.int (0 : Int32)), .val (.int (2 : Int32)), .val .null, .val (.ref tb373)] [(.int (2 : Int32)), (.ref tb373), (.ref a)])) rfl (by rw [hml]; rfl) (argsL := [(.ref tb373), (.int (2 : Int32))]) (rest := [(.ref a)]) (lenOf pd_192 rfl) rfl (by show 2 * 0 + _ ≤ _; exact Nat.le_of_eq rfl) (hb hby d_jdk_42_method_149_45) (fun _ _ => ⟨rfl, rfl, (by decide : 2 + 0 ≤ _), (by decide : 6 + 0 ≤ _)⟩)
  dsimp only [Pt.U, Pt.locs, Pt.cells, Pt.slots] at X381 l381 y381 z381 st381 hQ381
  subst l381 y381 z381
  obtain ⟨rfl, N381q, E381q⟩ := hQ381
  have N381 := Fr.app N373 N381q
  have K382 : Go p e below T381 (mkF m 48 #[.val (.ref a), .val (.ref b), .val (.int (0 : Int32)), .val (.int (2 : Int32)), .val .null, .val (.ref tb373)] [(.int (1 : Int32)), (.ref a)]) G := fun tq kq => K380 tq (st381 tq kq)
  obtain ⟨T383, h383, X383, e383, W383, st383⟩ := putFN X381 hx hZ hown (hW 29 _ rfl) Via.refl E381q (F_coder_a.keep K373q nin0) (E_a.keep K373q) (Or.inr ⟨(hW 25 _ rfl), rfl, hnm⟩) (hW 9 _ rfl) (ty := .byte) (v' := (.int (1 : Int32))) (by decide) rfl (by decide) (g := (mkF m 48 #[.val (.ref a), .val (.ref b), .val (.int (0 : Int32)), .val (.int (2 : Int32)), .val .null, .val (.ref tb373)] [(.int (1 : Int32)), (.ref a)])) rfl rfl (hb hby d_jdk_42_method_149_48)
  have N383 := Fr.snoc X383 N381 ge_a
  have F383 := Fld.same W383 (F_coder_a.keep K373q nin0)
  have K384 : Go p e below T383 (mkF m 51 #[.val (.ref a), .val (.ref b), .val (.int (0 : Int32)), .val (.int (2 : Int32)), .val .null, .val (.ref tb373)] []) G := fun tq kq => K382 tq (st383 tq kq)
  have K385 : Go p e below T383 (mkF m 52 #[.val (.ref a), .val (.ref b), .val (.int (0 : Int32)), .val (.int (2 : Int32)), .val .null, .val (.ref tb373)] [(.ref a)]) G := fun tq kq => K384 tq (XS.aloadN X383.here hx rfl (hb hby d_jdk_42_method_149_51) rfl rfl kq)
  have K386 : Go p e below T383 (mkF m 54 #[.val (.ref a), .val (.ref b), .val (.int (0 : Int32)), .val (.int (2 : Int32)), .val .null, .val (.ref tb373)] [(.ref tb373), (.ref a)]) G := fun tq kq => K385 tq (XS.aload X383.here hx rfl (hb hby d_jdk_42_method_149_52) rfl rfl kq)
  obtain ⟨T387, h387, X387, e387, W387, st387⟩ := putF X383 hx hZ hown (host := "") (Or.inl (hW 28 _ rfl)) Via.refl e383 ((F_value_a.keep K373q nin0).other W383 (Or.inr (slot_ne (Or.inr (hW 24 _ rfl)) (Or.inr (hW 25 _ rfl)) (by decide) (t := (.array .byte)) (t' := .byte) (by decide) (by decide)))) ((E_a.keep K373q).wr W383) (Or.inr ⟨(hW 24 _ rfl), rfl, hnm⟩) (hW 9 _ rfl) (ty := (.array .byte)) (by decide) rfl rfl (g := (mkF m 54 #[.val (.ref a), .val (.ref b), .val (.int (0 : Int32)), .val (.int (2 : Int32)), .val .null, .val (.ref tb373)] [(.ref tb373), (.ref a)])) rfl rfl (hb hby d_jdk_42_method_149_54)
  have N387 := Fr.snoc X387 N383 ge_a
  have F387 := Fld.same W387 ((F_value_a.keep K373q nin0).other W383 (Or.inr (slot_ne (Or.inr (hW 24 _ rfl)) (Or.inr (hW 25 _ rfl)) (by decide) (t := (.array .byte)) (t' := .byte) (by decide) (by decide))))
  have K388 : Go p e below T387 (mkF m 57 #[.val (.ref a), .val (.ref b), .val (.int (0 : Int32)), .val (.int (2 : Int32)), .val .null, .val (.ref tb373)] []) G := fun tq kq => K386 tq (st387 tq kq)
  obtain ⟨fs, hr, hrun, hended, hWW, hsame⟩ := X387.leave (v := none) (fun _ => rfl)
  refine ⟨_, _, hG _ (K388 _ (X387.returnOut hx Bd.returns (hb hby d_jdk_42_method_149_57) hr)), hrun, hended, _, _, rfl, ?_, ⟨_, rfl⟩, hWW, hsame.mono (by decide) (by decide)⟩
  show QN4w2 Z a b kc c0 c1 cz h0 n0 _ T387.heap _
  rw [e387]
  exact ⟨rfl, N387, ((((Keep.refl h0 [a]).trans K373q all0).wr W383 (Or.inl (List.mem_of_getElem? (i := 0) rfl))).wr W387 (Or.inl (List.mem_of_getElem? (i := 0) rfl))), (((E_a.keep K373q).wr W383).wr W387), (F383.other W387 (Or.inr (slot_ne (Or.inr (hW 25 _ rfl)) (Or.inr (hW 24 _ rfl)) (by decide) (t := .byte) (t' := (.array .byte)) (by decide) (by decide)))), tb373, _, (Ne.symm na374), F387, ((V373q.other W383 (Ne.symm na374)).other W387 (Ne.symm na374))⟩
def QN1w2 (Z : State) (a : Addr) (b : Addr) (kc : ClassId) (c0 : Int32) (c1 : Int32) (cz : Int32) (h0 : Heap) (n0 : Nat) (v : Option Value) (h : Heap) (L : List Loc) : Prop := v = none ∧ Fr n0 L ∧ Keep h0 h [a] ∧ Exa Z h a "java/lang/String" ∧ Fld Z h a "java/lang/String" "coder" "B" (.int (1 : Int32)) ∧ ∃ (tb : Addr) (kb : ClassId), tb ≠ a ∧ Fld Z h a "java/lang/String" "value" "[B" (.ref tb) ∧ Arv Z h tb kb .byte (4 : Int32) (StrChars.Road.wideBytes ([c0, c1] : List Int32)) (.int (0 : Int32))
set_option maxRecDepth 65536 in
set_option maxHeartbeats 40000000 in
theorem rmN1w2 (l : Launch) (Z : State) (a0 : Array Value) (hw : ∀ d ∈ tables_1, d.before a0 Z = true) (ws : List Jvm.Cond) (a : Addr) (b : Addr) (kc : ClassId) (c0 : Int32) (c1 : Int32) (cz : Int32) (h0 : Heap) (n0 : Nat) (Z0 : n0 ≤ h0.size) (F_value_a : Fld Z h0 a "java/lang/String" "value" "[B" .null) (F_coder_a : Fld Z h0 a "java/lang/String" "coder" "B" (.int (0 : Int32))) (E_a : Exa Z h0 a "java/lang/String") (ge_a : n0 ≤ a) (O0 : Old Z n0 h0) (S_cs : Sta Z Z.heap "java/lang/String" "COMPACT_STRINGS" "Z" (.int cz)) (hcz : ¬ cz = 0) (S_ad : Sta Z Z.heap "java/lang/StringUTF16" "$assertionsDisabled" "Z" (.int (1 : Int32))) (S_hi : Sta Z Z.heap "java/lang/StringUTF16" "HI_BYTE_SHIFT" "I" (.int (0 : Int32))) (S_lo : Sta Z Z.heap "java/lang/StringUTF16" "LO_BYTE_SHIFT" "I" (.int (8 : Int32))) (V_b : Arv Z h0 b kc .char (2 : Int32) [(.int c0), (.int c1)] (.int (0 : Int32))) (hwd : ¬ ∀ c ∈ ([c0, c1] : List Int32), ¬ (255 : Int32) < c) (hb5 : ∀ c ∈ ([c0, c1] : List Int32), ¬ c < 0 ∧ ¬ (65535 : Int32) < c) :
    MetFree l (⟨"java/lang/String", "<init>", "([C)V"⟩ : MethodName) (head1 (Jvm.Cond.code (⟨"java/lang/String", "<init>", "([C)V"⟩ : MethodName) jdk_42_method_3_code 2 none :: ws) ({ frames := 5, cells := 2, slots := 6, locals := 74 } : Room)) (fun aa UU => aa = #[(.ref a), (.ref b)] ∧ Z.Warmed39 UU.vm ∧ UU.heap = h0) (fun _ _ _ _ _ => True) (fun _ UU oo UU' => ∃ vv LL, oo = .returned vv ∧ QN1w2 Z a b kc c0 c1 cz h0 n0 vv UU'.heap LL ∧ FrameEnd UU oo UU' LL ({ frames := 5, cells := 2, slots := 6, locals := 74 } : Room).cells ({ frames := 5, cells := 2, slots := 6, locals := 74 } : Room).slots) := by
  refine MetFree.of_bodySF (plainFor_of_name pn_0) hisR ?_
  intro p e s m args below meth c s₁ Bd hml0 hP hK
  obtain ⟨rfl, hZ, hh⟩ := hP
  have hx := Bd.exec
  have hby := Bd.bytes
  have hml : c.maxLocals = 2 := hml0
  have hown : s.vm.findClass "java/lang/String" = some m.cls := findClass_of_methodNamed Bd.named
  have hnm := (name_of_methodNamed Bd.named Bd.method).1
  have hW : ∀ (k : Nat) (d : Jvm.Cond), tables_1[k]? = some d → d.before a0 Z = true := fun k d h => hw d (List.mem_of_getElem? h)
  have X0 : Stand p l e ({ frames := 5, cells := 2, slots := 6, locals := 74 } : Room) s m #[(.ref a), (.ref b)] below meth c s₁ [] 0 0 := Stand.of_body Bd
  have e0 : s₁.heap = h0 := by rw [← hh, Bd.state]; rfl
  have N0 := Fr.nil n0
  obtain ⟨G, hG, K0⟩ : ∃ G : State → Prop, (∀ tq, G tq → Steps p.tables e below (s₁.setTop (entryFrame m #[(.ref a), (.ref b)] 2)) tq) ∧ Go p e below s₁ (mkF m 0 #[.val (.ref a), .val (.ref b)] []) G := ⟨fun tq => Steps p.tables e below (s₁.setTop (entryFrame m #[(.ref a), (.ref b)] 2)) tq, fun _ h => h, fun tq kq => castTop (ef_jdk_42_method_3_RR m a b) kq⟩
  have K389 : Go p e below s₁ (mkF m 1 #[.val (.ref a), .val (.ref b)] [(.ref a)]) G := fun tq kq => K0 tq (XS.aloadN X0.here hx rfl (hb hby d_jdk_42_method_3_0) rfl rfl kq)
  have K390 : Go p e below s₁ (mkF m 2 #[.val (.ref a), .val (.ref b)] [(.ref b), (.ref a)]) G := fun tq kq => K389 tq (XS.aloadN X0.here hx rfl (hb hby d_jdk_42_method_3_1) rfl rfl kq)
  have K391 : Go p e below s₁ (mkF m 3 #[.val (.ref a), .val (.ref b)] [(.int (0 : Int32)), (.ref b), (.ref a)]) G := fun tq kq => K390 tq (XS.iconst X0.here hx rfl (hb hby d_jdk_42_method_3_2) kq)
  have K392 : Go p e below s₁ (mkF m 4 #[.val (.ref a), .val (.ref b)] [(.ref b), (.int (0 : Int32)), (.ref b), (.ref a)]) G := fun tq kq => K391 tq (XS.aloadN X0.here hx rfl (hb hby d_jdk_42_method_3_3) rfl rfl kq)
  obtain ⟨cl393, Ar393, q393, S393, Nn393, Hh393, Gg393⟩ := id V_b
  have K394 : Go p e below s₁ (mkF m 5 #[.val (.ref a), .val (.ref b)] [(.int (2 : Int32)), (.int (0 : Int32)), (.ref b), (.ref a)]) G := fun tq kq => K392 tq (X0.arraylength hx (by rw [e0]; exact Ar393.1) (State.isArrayOf_alike hZ.alike Ar393.2.1) (g := (mkF m 4 #[.val (.ref a), .val (.ref b)] [(.ref b), (.int (0 : Int32)), (.ref b), (.ref a)])) rfl rfl (hb hby d_jdk_42_method_3_4) _ (by rw [len_of S393 Nn393]; exact kq))
  have K395 : Go p e below s₁ (mkF m 6 #[.val (.ref a), .val (.ref b)] [.null, (.int (2 : Int32)), (.int (0 : Int32)), (.ref b), (.ref a)]) G := fun tq kq => K394 tq (XS.aconstNull X0.here hx rfl (hb hby d_jdk_42_method_3_5) kq)
  obtain ⟨v396, _, ⟨T396, L396, k396, n396⟩, -, X396, ⟨Lc396, hQ396, l396, y396, z396⟩, st396⟩ := X0.specialBack hx (y := (⟨"java/lang/String", "<init>", "([CIILjava/lang/Void;)V"⟩ : MethodName)) rfl hown (mvT hZ (hW 15 _ rfl)) (mvT hZ (hW 16 _ rfl)) (mvT hZ (hW 18 _ rfl)) (by decide) (backOf (W := 0) (rmN4w2 l Z a0 hw [] a b kc c0 c1 cz h0 n0 Z0 F_value_a F_coder_a E_a ge_a O0 S_cs hcz S_ad S_hi S_lo V_b hwd hb5) hZ (hW 18 _ rfl) (hW 10 _ rfl) (by decide) (by decide)) (g := (mkF m 6 #[.val (.ref a), .val (.ref b)] [.null, (.int (2 : Int32)), (.int (0 : Int32)), (.ref b), (.ref a)])) rfl (by rw [hml]; rfl) (Steps.refl _) (a := a) (argsL := [(.ref b), (.int (0 : Int32)), (.int (2 : Int32)), .null]) (rest := []) (lenOf pd_16 rfl) rfl (by show 2 * 0 + _ ≤ _; exact Nat.le_of_eq rfl) (hb hby d_jdk_42_method_3_6) (fun _ _ => ⟨rfl, e0, (by decide : 0 + 2 ≤ _), (by decide : 0 + 6 ≤ _)⟩)
  dsimp only [Pt.U, Pt.locs, Pt.cells, Pt.slots] at X396 l396 y396 z396 st396 hQ396
  subst l396 y396 z396
  obtain ⟨rfl, N396q, K396q, rest396⟩ := hQ396
  have N396 := Fr.app N0 N396q
  have K397 : Go p e below T396 (mkF m 9 #[.val (.ref a), .val (.ref b)] []) G := fun tq kq => K395 tq (st396.trans kq)
  obtain ⟨fs, hr, hrun, hended, hWW, hsame⟩ := X396.leave (v := none) (fun _ => rfl)
  refine ⟨_, _, hG _ (K397 _ (X396.returnOut hx Bd.returns (hb hby d_jdk_42_method_3_9) hr)), hrun, hended, _, _, rfl, ?_, ⟨_, rfl⟩, hWW, hsame.mono (by decide) (by decide)⟩
  show QN1w2 Z a b kc c0 c1 cz h0 n0 _ T396.heap _
  exact ⟨rfl, N396, ((Keep.refl h0 [a]).trans K396q (allS (Or.inl (List.mem_of_getElem? (i := 0) rfl)) all0)), rest396⟩
def QNB3 (Z : State)  (h0 : Heap) (n0 : Nat) (v : Option Value) (h : Heap) (L : List Loc) : Prop := ∃ (tb : Addr) (kb : ClassId), v = some (.ref tb) ∧ Fr n0 L ∧ Keep h0 h [] ∧ h0.size ≤ tb ∧ n0 ≤ tb ∧ Arv Z h tb kb .byte (6 : Int32) [(.int (0 : Int32)), (.int (0 : Int32)), (.int (0 : Int32)), (.int (0 : Int32)), (.int (0 : Int32)), (.int (0 : Int32))] (.int (0 : Int32))
set_option maxRecDepth 65536 in
set_option maxHeartbeats 40000000 in
theorem rmNB3 (l : Launch) (Z : State) (a0 : Array Value) (hw : ∀ d ∈ tables_1, d.before a0 Z = true) (ws : List Jvm.Cond)  (h0 : Heap) (n0 : Nat) (Z0 : n0 ≤ h0.size) :
    MetFree l (⟨"java/lang/StringUTF16", "newBytesFor", "(I)[B"⟩ : MethodName) (head1 (Jvm.Cond.code (⟨"java/lang/StringUTF16", "newBytesFor", "(I)[B"⟩ : MethodName) jdk_52_method_2_code 1 (some (.array .byte)) :: ws) ({ frames := 1, cells := 1, slots := 6, locals := 12 } : Room)) (fun aa UU => aa = #[(.int (3 : Int32))] ∧ Z.Warmed39 UU.vm ∧ UU.heap = h0) (fun _ _ _ _ _ => True) (fun _ UU oo UU' => ∃ vv LL, oo = .returned vv ∧ QNB3 Z  h0 n0 vv UU'.heap LL ∧ FrameEnd UU oo UU' LL ({ frames := 1, cells := 1, slots := 6, locals := 12 } : Room).cells ({ frames := 1, cells := 1, slots := 6, locals := 12 } : Room).slots) := by
  refine MetFree.of_bodySF (plainFor_of_name pn_41) hisR ?_
  intro p e s m args below meth c s₁ Bd hml0 hP hK
  obtain ⟨rfl, hZ, hh⟩ := hP
  have hx := Bd.exec
  have hby := Bd.bytes
  have hml : c.maxLocals = 1 := hml0
  have hown : s.vm.findClass "java/lang/StringUTF16" = some m.cls := findClass_of_methodNamed Bd.named
  have hnm := (name_of_methodNamed Bd.named Bd.method).1
  have hW : ∀ (k : Nat) (d : Jvm.Cond), tables_1[k]? = some d → d.before a0 Z = true := fun k d h => hw d (List.mem_of_getElem? h)
  have X0 : Stand p l e ({ frames := 1, cells := 1, slots := 6, locals := 12 } : Room) s m #[(.int (3 : Int32))] below meth c s₁ [] 0 0 := Stand.of_body Bd
  have e0 : s₁.heap = h0 := by rw [← hh, Bd.state]; rfl
  have N0 := Fr.nil n0
  obtain ⟨G, hG, K0⟩ : ∃ G : State → Prop, (∀ tq, G tq → Steps p.tables e below (s₁.setTop (entryFrame m #[(.int (3 : Int32))] 1)) tq) ∧ Go p e below s₁ (mkF m 0 #[.val (.int (3 : Int32))] []) G := ⟨fun tq => Steps p.tables e below (s₁.setTop (entryFrame m #[(.int (3 : Int32))] 1)) tq, fun _ h => h, fun tq kq => castTop (ef_jdk_52_method_2_I m (3 : Int32)) kq⟩
  have K398 : Go p e below s₁ (mkF m 1 #[.val (.int (3 : Int32))] [(.int (3 : Int32))]) G := fun tq kq => K0 tq (XS.iloadN X0.here hx rfl (hb hby d_jdk_52_method_2_0) rfl kq)
  obtain ⟨v399, _, ⟨T399, L399, k399, n399⟩, -, X399, ⟨Lc399, hQ399, l399, y399, z399⟩, st399⟩ := Jvm.LawKit.callS X0 hx (y := (⟨"java/lang/StringUTF16", "newBytesLength", "(I)I"⟩ : MethodName)) hown (mvT hZ (hW 86 _ rfl)) (mvT hZ (hW 87 _ rfl)) (mvT hZ (hW 47 _ rfl)) (mvT hZ (hW 88 _ rfl)) (by decide) (backOf (W := 0) (rmNBL l Z a0 hw [] (3 : Int32) h0 n0 Z0 (by decide) (by decide)) hZ (hW 88 _ rfl) (hW 47 _ rfl) (by decide) (by decide)) (g := (mkF m 1 #[.val (.int (3 : Int32))] [(.int (3 : Int32))])) rfl (by rw [hml]; rfl) (argsL := [(.int (3 : Int32))]) (rest := []) (lenOf pd_101 rfl) rfl (by show 2 * 0 + _ ≤ _; exact Nat.le_of_eq rfl) (hb hby d_jdk_52_method_2_1) (fun _ _ => ⟨rfl, e0, (by decide : 0 + 0 ≤ _), (by decide : 0 + 0 ≤ _)⟩)
  dsimp only [Pt.U, Pt.locs, Pt.cells, Pt.slots] at X399 l399 y399 z399 st399 hQ399
  subst l399 y399 z399
  have hs399 : ((3 : Int32) <<< ((1 : Int32) &&& 31)) = (6 : Int32) := by decide
  rw [QNBL, hs399] at hQ399
  obtain ⟨rfl, N399q, E399q⟩ := hQ399
  have N399 := Fr.app N0 N399q
  have K400 : Go p e below T399 (mkF m 4 #[.val (.int (3 : Int32))] [(.int (6 : Int32))]) G := fun tq kq => K398 tq (st399 tq kq)
  obtain ⟨T401, h401, k401, X401, e401, E401, A401, st401⟩ := newP X399 hx hZ (hW 23 _ rfl) E399q (g := (mkF m 4 #[.val (.int (3 : Int32))] [(.int (6 : Int32))])) rfl (hb hby d_jdk_52_method_2_4) rfl (by decide) (cap := 6) (by decide) (by decide) (by decide) (by decide)
  obtain ⟨b401, g401⟩ : ∃ z, z = h0.size := ⟨_, rfl⟩
  rw [← g401] at A401 st401
  have ge_b401 : n0 ≤ b401 := Nat.le_trans Z0 (Nat.le_of_eq g401.symm)
  have sz_b401 : h0.size ≤ b401 := Nat.le_trans ((Keep.refl h0 [])).1 (Nat.le_of_eq g401.symm)
  have V401 : Arv Z h401 b401 k401 .byte (6 : Int32) [(.int (0 : Int32)), (.int (0 : Int32)), (.int (0 : Int32)), (.int (0 : Int32)), (.int (0 : Int32)), (.int (0 : Int32))] (.int (0 : Int32)) := (Arv.new A401 (by decide)).pad (pad_rep [] (.int (0 : Int32)) 6)
  have K402 : Go p e below T401 (mkF m 6 #[.val (.int (3 : Int32))] [(.ref b401)]) G := fun tq kq => K400 tq (st401 tq kq)
  obtain ⟨fs, hr, hrun, hended, hWW, hsame⟩ := X401.leave (v := some (.ref b401)) (fun h => by rw [Bd.returns] at h; cases h)
  refine ⟨_, _, hG _ (K402 _ (retOut X401 hx Bd.returns rfl (Or.inr (Or.inr (Or.inr (Or.inr ⟨rfl, rfl, rfl⟩)))) (hb hby d_jdk_52_method_2_6) hr)), hrun, hended, _, _, rfl, ?_, ⟨_, rfl⟩, hWW, hsame.mono (by decide) (by decide)⟩
  show QNB3 Z  h0 n0 _ T401.heap _
  rw [e401]
  exact ⟨b401, _, rfl, N399, ((Keep.refl h0 []).ext E401), sz_b401, ge_b401, V401⟩
def QTB3 (Z : State) (b : Addr) (kc : ClassId) (c0 : Int32) (c1 : Int32) (c2 : Int32) (h0 : Heap) (n0 : Nat) (v : Option Value) (h : Heap) (L : List Loc) : Prop := ∃ (tb : Addr) (kb : ClassId), v = some (.ref tb) ∧ Fr n0 L ∧ Keep h0 h [] ∧ h0.size ≤ tb ∧ n0 ≤ tb ∧ Arv Z h tb kb .byte (6 : Int32) (StrChars.Road.wideBytes ([c0, c1, c2] : List Int32)) (.int (0 : Int32))
set_option maxRecDepth 65536 in
set_option maxHeartbeats 40000000 in
theorem rmTB3 (l : Launch) (Z : State) (a0 : Array Value) (hw : ∀ d ∈ tables_1, d.before a0 Z = true) (ws : List Jvm.Cond) (b : Addr) (kc : ClassId) (c0 : Int32) (c1 : Int32) (c2 : Int32) (h0 : Heap) (n0 : Nat) (Z0 : n0 ≤ h0.size) (O0 : Old Z n0 h0) (S_ad : Sta Z Z.heap "java/lang/StringUTF16" "$assertionsDisabled" "Z" (.int (1 : Int32))) (S_hi : Sta Z Z.heap "java/lang/StringUTF16" "HI_BYTE_SHIFT" "I" (.int (0 : Int32))) (S_lo : Sta Z Z.heap "java/lang/StringUTF16" "LO_BYTE_SHIFT" "I" (.int (8 : Int32))) (V_b : Arv Z h0 b kc .char (3 : Int32) [(.int c0), (.int c1), (.int c2)] (.int (0 : Int32))) :
    MetFree l (⟨"java/lang/StringUTF16", "toBytes", "([CII)[B"⟩ : MethodName) (head1 (Jvm.Cond.code (⟨"java/lang/StringUTF16", "toBytes", "([CII)[B"⟩ : MethodName) jdk_52_method_14_code 5 (some (.array .byte)) :: ws) ({ frames := 2, cells := 1, slots := 6, locals := 24 } : Room)) (fun aa UU => aa = #[(.ref b), (.int (0 : Int32)), (.int (3 : Int32))] ∧ Z.Warmed39 UU.vm ∧ UU.heap = h0) (fun _ _ _ _ _ => True) (fun _ UU oo UU' => ∃ vv LL, oo = .returned vv ∧ QTB3 Z b kc c0 c1 c2 h0 n0 vv UU'.heap LL ∧ FrameEnd UU oo UU' LL ({ frames := 2, cells := 1, slots := 6, locals := 24 } : Room).cells ({ frames := 2, cells := 1, slots := 6, locals := 24 } : Room).slots) := by
  refine MetFree.of_bodySF (plainFor_of_name pn_41) hisR ?_
  intro p e s m args below meth c s₁ Bd hml0 hP hK
  obtain ⟨rfl, hZ, hh⟩ := hP
  have hx := Bd.exec
  have hby := Bd.bytes
  have hml : c.maxLocals = 5 := hml0
  have hown : s.vm.findClass "java/lang/StringUTF16" = some m.cls := findClass_of_methodNamed Bd.named
  have hnm := (name_of_methodNamed Bd.named Bd.method).1
  have hW : ∀ (k : Nat) (d : Jvm.Cond), tables_1[k]? = some d → d.before a0 Z = true := fun k d h => hw d (List.mem_of_getElem? h)
  have X0 : Stand p l e ({ frames := 2, cells := 1, slots := 6, locals := 24 } : Room) s m #[(.ref b), (.int (0 : Int32)), (.int (3 : Int32))] below meth c s₁ [] 0 0 := Stand.of_body Bd
  have e0 : s₁.heap = h0 := by rw [← hh, Bd.state]; rfl
  have N0 := Fr.nil n0
  obtain ⟨G, hG, K0⟩ : ∃ G : State → Prop, (∀ tq, G tq → Steps p.tables e below (s₁.setTop (entryFrame m #[(.ref b), (.int (0 : Int32)), (.int (3 : Int32))] 5)) tq) ∧ Go p e below s₁ (mkF m 0 #[.val (.ref b), .val (.int (0 : Int32)), .val (.int (3 : Int32)), .unset, .unset] []) G := ⟨fun tq => Steps p.tables e below (s₁.setTop (entryFrame m #[(.ref b), (.int (0 : Int32)), (.int (3 : Int32))] 5)) tq, fun _ h => h, fun tq kq => castTop (ef_jdk_52_method_14_RII m b (0 : Int32) (3 : Int32)) kq⟩
  have K403 : Go p e below s₁ (mkF m 1 #[.val (.ref b), .val (.int (0 : Int32)), .val (.int (3 : Int32)), .unset, .unset] [(.int (3 : Int32))]) G := fun tq kq => K0 tq (XS.iloadN X0.here hx rfl (hb hby d_jdk_52_method_14_0) rfl kq)
  obtain ⟨v404, _, ⟨T404, L404, k404, n404⟩, -, X404, ⟨Lc404, hQ404, l404, y404, z404⟩, st404⟩ := Jvm.LawKit.callS X0 hx (y := (⟨"java/lang/StringUTF16", "newBytesFor", "(I)[B"⟩ : MethodName)) hown (mvT hZ (hW 83 _ rfl)) (mvT hZ (hW 84 _ rfl)) (mvT hZ (hW 47 _ rfl)) (mvT hZ (hW 85 _ rfl)) (by decide) (backOf (W := 0) (rmNB3 l Z a0 hw [] h0 n0 Z0) hZ (hW 85 _ rfl) (hW 47 _ rfl) (by decide) (by decide)) (g := (mkF m 1 #[.val (.ref b), .val (.int (0 : Int32)), .val (.int (3 : Int32)), .unset, .unset] [(.int (3 : Int32))])) rfl (by rw [hml]; rfl) (argsL := [(.int (3 : Int32))]) (rest := []) (lenOf pd_107 rfl) rfl (by show 2 * 0 + _ ≤ _; exact Nat.le_of_eq rfl) (hb hby d_jdk_52_method_14_1) (fun _ _ => ⟨rfl, e0, (by decide : 0 + 1 ≤ _), (by decide : 0 + 6 ≤ _)⟩)
  dsimp only [Pt.U, Pt.locs, Pt.cells, Pt.slots] at X404 l404 y404 z404 st404 hQ404
  subst l404 y404 z404
  obtain ⟨tb404, kb404, rfl, N404q, K404q, sz404, ge404, V404q⟩ := hQ404
  have N404 := Fr.app N0 N404q
  have na405 : b ≠ tb404 := Nat.ne_of_lt (Nat.lt_of_lt_of_le V_b.lt sz404)
  have sb404 := Nat.le_trans ((Keep.refl h0 [])).1 sz404
  have K406 : Go p e below T404 (mkF m 4 #[.val (.ref b), .val (.int (0 : Int32)), .val (.int (3 : Int32)), .unset, .unset] [(.ref tb404)]) G := fun tq kq => K403 tq (st404 tq kq)
  have K407 : Go p e below T404 (mkF m 5 #[.val (.ref b), .val (.int (0 : Int32)), .val (.int (3 : Int32)), .val (.ref tb404), .unset] []) G := fun tq kq => K406 tq (XS.astoreN X404.here hx rfl (hb hby d_jdk_52_method_14_4) rfl rfl (l' := #[.val (.ref b), .val (.int (0 : Int32)), .val (.int (3 : Int32)), .val (.ref tb404), .unset]) rfl kq)
  have K408 : Go p e below T404 (mkF m 6 #[.val (.ref b), .val (.int (0 : Int32)), .val (.int (3 : Int32)), .val (.ref tb404), .unset] [(.int (0 : Int32))]) G := fun tq kq => K407 tq (XS.iconst X404.here hx rfl (hb hby d_jdk_52_method_14_5) kq)
  have K409 : Go p e below T404 (mkF m 8 #[.val (.ref b), .val (.int (0 : Int32)), .val (.int (3 : Int32)), .val (.ref tb404), .val (.int (0 : Int32))] []) G := fun tq kq => K408 tq (XS.istore X404.here hx rfl (hb hby d_jdk_52_method_14_6) rfl (l' := #[.val (.ref b), .val (.int (0 : Int32)), .val (.int (3 : Int32)), .val (.ref tb404), .val (.int (0 : Int32))]) rfl kq)
  have K410 : Go p e below T404 (mkF m 10 #[.val (.ref b), .val (.int (0 : Int32)), .val (.int (3 : Int32)), .val (.ref tb404), .val (.int (0 : Int32))] [(.int (0 : Int32))]) G := fun tq kq => K409 tq (XS.iload X404.here hx rfl (hb hby d_jdk_52_method_14_8) rfl kq)
  have K411 : Go p e below T404 (mkF m 11 #[.val (.ref b), .val (.int (0 : Int32)), .val (.int (3 : Int32)), .val (.ref tb404), .val (.int (0 : Int32))] [(.int (3 : Int32)), (.int (0 : Int32))]) G := fun tq kq => K410 tq (XS.iloadN X404.here hx rfl (hb hby d_jdk_52_method_14_10) rfl kq)
  have K412 : Go p e below T404 (mkF m 14 #[.val (.ref b), .val (.int (0 : Int32)), .val (.int (3 : Int32)), .val (.ref tb404), .val (.int (0 : Int32))] []) G := fun tq kq => K411 tq (XS.icmpNo X404.here hx rfl (hb hby d_jdk_52_method_14_11) rfl ((tlt (by decide : (0 : Int32) < (3 : Int32))).2.1) kq)
  have K413 : Go p e below T404 (mkF m 15 #[.val (.ref b), .val (.int (0 : Int32)), .val (.int (3 : Int32)), .val (.ref tb404), .val (.int (0 : Int32))] [(.ref tb404)]) G := fun tq kq => K412 tq (XS.aloadN X404.here hx rfl (hb hby d_jdk_52_method_14_14) rfl rfl kq)
  have K414 : Go p e below T404 (mkF m 17 #[.val (.ref b), .val (.int (0 : Int32)), .val (.int (3 : Int32)), .val (.ref tb404), .val (.int (0 : Int32))] [(.int (0 : Int32)), (.ref tb404)]) G := fun tq kq => K413 tq (XS.iload X404.here hx rfl (hb hby d_jdk_52_method_14_15) rfl kq)
  have K415 : Go p e below T404 (mkF m 18 #[.val (.ref b), .val (.int (0 : Int32)), .val (.int (3 : Int32)), .val (.ref tb404), .val (.int (0 : Int32))] [(.ref b), (.int (0 : Int32)), (.ref tb404)]) G := fun tq kq => K414 tq (XS.aloadN X404.here hx rfl (hb hby d_jdk_52_method_14_17) rfl rfl kq)
  have K416 : Go p e below T404 (mkF m 19 #[.val (.ref b), .val (.int (0 : Int32)), .val (.int (3 : Int32)), .val (.ref tb404), .val (.int (0 : Int32))] [(.int (0 : Int32)), (.ref b), (.int (0 : Int32)), (.ref tb404)]) G := fun tq kq => K415 tq (XS.iloadN X404.here hx rfl (hb hby d_jdk_52_method_14_18) rfl kq)
  obtain ⟨cl417, Ar417, q417, S417, Nn417, Hh417, Gg417⟩ := id (V_b.keep K404q nin0)
  have hin417 : ¬ ((0 : Int32) < 0 ∨ cl417.slots.size ≤ ((0 : Int32)).toNatClampNeg) := inb_of S417 ⟨by decide, by decide⟩
  have hat417 := Has.at (v := (.int c0)) Hh417 hin417 rfl
  have K418 : Go p e below T404 (mkF m 20 #[.val (.ref b), .val (.int (0 : Int32)), .val (.int (3 : Int32)), .val (.ref tb404), .val (.int (0 : Int32))] [(.int c0), (.int (0 : Int32)), (.ref tb404)]) G := fun tq kq => K416 tq (X404.caload hx (j := (0 : Int32)) (v := (.int c0)) Ar417.1 (State.isArrayOf_alike hZ.alike Ar417.2.1) Ar417.2.2 hin417 hat417 (g := (mkF m 19 #[.val (.ref b), .val (.int (0 : Int32)), .val (.int (3 : Int32)), .val (.ref tb404), .val (.int (0 : Int32))] [(.int (0 : Int32)), (.ref b), (.int (0 : Int32)), (.ref tb404)])) rfl rfl (hb hby d_jdk_52_method_14_19) _ kq)
  obtain ⟨v419, _, ⟨T419, L419, k419, n419⟩, -, X419, ⟨Lc419, hQ419, l419, y419, z419⟩, st419⟩ := Jvm.LawKit.callS X404 hx (y := (⟨"java/lang/StringUTF16", "putChar", "([BII)V"⟩ : MethodName)) hown (mvT hZ (hW 90 _ rfl)) (mvT hZ (hW 91 _ rfl)) (mvT hZ (hW 47 _ rfl)) (mvT hZ (hW 92 _ rfl)) (by decide) (backOf (W := 0) (rmPC l Z a0 hw [] tb404 kb404 (6 : Int32) [(.int (0 : Int32)), (.int (0 : Int32)), (.int (0 : Int32)), (.int (0 : Int32)), (.int (0 : Int32)), (.int (0 : Int32))] (0 : Int32) 0 c0 T404.heap n0 (Nat.le_trans Z0 K404q.1) (O0.keep K404q all0) S_ad S_hi S_lo ge404 V404q (by decide +kernel) (Nat.le_of_ble_eq_true rfl)) hZ (hW 92 _ rfl) (hW 47 _ rfl) (by decide) (by decide)) (g := (mkF m 20 #[.val (.ref b), .val (.int (0 : Int32)), .val (.int (3 : Int32)), .val (.ref tb404), .val (.int (0 : Int32))] [(.int c0), (.int (0 : Int32)), (.ref tb404)])) rfl (by rw [hml]; rfl) (argsL := [(.ref tb404), (.int (0 : Int32)), (.int c0)]) (rest := []) (lenOf pd_108 rfl) rfl (by show 2 * 0 + _ ≤ _; exact Nat.le_of_eq rfl) (hb hby d_jdk_52_method_14_20) (fun _ _ => ⟨rfl, rfl, (by decide : 1 + 0 ≤ _), (by decide : 6 + 0 ≤ _)⟩)
  dsimp only [Pt.U, Pt.locs, Pt.cells, Pt.slots] at X419 l419 y419 z419 st419 hQ419
  subst l419 y419 z419
  obtain ⟨rfl, N419q, K419q, V419q⟩ := hQ419
  have N419 := Fr.app N404 N419q
  have V419r : Arv Z T419.heap tb404 kb404 .byte (6 : Int32) [(.int (StrChars.lo8 c0)), (.int (StrChars.hi8 c0)), (.int (0 : Int32)), (.int (0 : Int32)), (.int (0 : Int32)), (.int (0 : Int32))] (.int (0 : Int32)) := V419q
  have K420 : Go p e below T419 (mkF m 23 #[.val (.ref b), .val (.int (0 : Int32)), .val (.int (3 : Int32)), .val (.ref tb404), .val (.int (0 : Int32))] []) G := fun tq kq => K418 tq (st419 tq kq)
  have K421 : Go p e below T419 (mkF m 26 #[.val (.ref b), .val (.int (1 : Int32)), .val (.int (3 : Int32)), .val (.ref tb404), .val (.int (0 : Int32))] []) G := fun tq kq => K420 tq (XS.iinc X419.here hx rfl (hb hby d_jdk_52_method_14_23) rfl (l' := #[.val (.ref b), .val (.int (1 : Int32)), .val (.int (3 : Int32)), .val (.ref tb404), .val (.int (0 : Int32))]) rfl kq)
  have K422 : Go p e below T419 (mkF m 29 #[.val (.ref b), .val (.int (1 : Int32)), .val (.int (3 : Int32)), .val (.ref tb404), .val (.int (1 : Int32))] []) G := fun tq kq => K421 tq (XS.iinc X419.here hx rfl (hb hby d_jdk_52_method_14_26) rfl (l' := #[.val (.ref b), .val (.int (1 : Int32)), .val (.int (3 : Int32)), .val (.ref tb404), .val (.int (1 : Int32))]) rfl kq)
  have K423 : Go p e below T419 (mkF m 8 #[.val (.ref b), .val (.int (1 : Int32)), .val (.int (3 : Int32)), .val (.ref tb404), .val (.int (1 : Int32))] []) G := fun tq kq => K422 tq (XS.goto X419.here hx rfl (pc0 := 29) (pc' := 8) rfl (hb hby d_jdk_52_method_14_29) (by decide) (by decide) kq)
  have K424 : Go p e below T419 (mkF m 10 #[.val (.ref b), .val (.int (1 : Int32)), .val (.int (3 : Int32)), .val (.ref tb404), .val (.int (1 : Int32))] [(.int (1 : Int32))]) G := fun tq kq => K423 tq (XS.iload X419.here hx rfl (hb hby d_jdk_52_method_14_8) rfl kq)
  have K425 : Go p e below T419 (mkF m 11 #[.val (.ref b), .val (.int (1 : Int32)), .val (.int (3 : Int32)), .val (.ref tb404), .val (.int (1 : Int32))] [(.int (3 : Int32)), (.int (1 : Int32))]) G := fun tq kq => K424 tq (XS.iloadN X419.here hx rfl (hb hby d_jdk_52_method_14_10) rfl kq)
  have K426 : Go p e below T419 (mkF m 14 #[.val (.ref b), .val (.int (1 : Int32)), .val (.int (3 : Int32)), .val (.ref tb404), .val (.int (1 : Int32))] []) G := fun tq kq => K425 tq (XS.icmpNo X419.here hx rfl (hb hby d_jdk_52_method_14_11) rfl ((tlt (by decide : (1 : Int32) < (3 : Int32))).2.1) kq)
  have K427 : Go p e below T419 (mkF m 15 #[.val (.ref b), .val (.int (1 : Int32)), .val (.int (3 : Int32)), .val (.ref tb404), .val (.int (1 : Int32))] [(.ref tb404)]) G := fun tq kq => K426 tq (XS.aloadN X419.here hx rfl (hb hby d_jdk_52_method_14_14) rfl rfl kq)
  have K428 : Go p e below T419 (mkF m 17 #[.val (.ref b), .val (.int (1 : Int32)), .val (.int (3 : Int32)), .val (.ref tb404), .val (.int (1 : Int32))] [(.int (1 : Int32)), (.ref tb404)]) G := fun tq kq => K427 tq (XS.iload X419.here hx rfl (hb hby d_jdk_52_method_14_15) rfl kq)
  have K429 : Go p e below T419 (mkF m 18 #[.val (.ref b), .val (.int (1 : Int32)), .val (.int (3 : Int32)), .val (.ref tb404), .val (.int (1 : Int32))] [(.ref b), (.int (1 : Int32)), (.ref tb404)]) G := fun tq kq => K428 tq (XS.aloadN X419.here hx rfl (hb hby d_jdk_52_method_14_17) rfl rfl kq)
  have K430 : Go p e below T419 (mkF m 19 #[.val (.ref b), .val (.int (1 : Int32)), .val (.int (3 : Int32)), .val (.ref tb404), .val (.int (1 : Int32))] [(.int (1 : Int32)), (.ref b), (.int (1 : Int32)), (.ref tb404)]) G := fun tq kq => K429 tq (XS.iloadN X419.here hx rfl (hb hby d_jdk_52_method_14_18) rfl kq)
  obtain ⟨cl431, Ar431, q431, S431, Nn431, Hh431, Gg431⟩ := id ((V_b.keep K404q nin0).keep K419q (ninS na405 nin0))
  have hin431 : ¬ ((1 : Int32) < 0 ∨ cl431.slots.size ≤ ((1 : Int32)).toNatClampNeg) := inb_of S431 ⟨by decide, by decide⟩
  have hat431 := Has.at (v := (.int c1)) Hh431 hin431 rfl
  have K432 : Go p e below T419 (mkF m 20 #[.val (.ref b), .val (.int (1 : Int32)), .val (.int (3 : Int32)), .val (.ref tb404), .val (.int (1 : Int32))] [(.int c1), (.int (1 : Int32)), (.ref tb404)]) G := fun tq kq => K430 tq (X419.caload hx (j := (1 : Int32)) (v := (.int c1)) Ar431.1 (State.isArrayOf_alike hZ.alike Ar431.2.1) Ar431.2.2 hin431 hat431 (g := (mkF m 19 #[.val (.ref b), .val (.int (1 : Int32)), .val (.int (3 : Int32)), .val (.ref tb404), .val (.int (1 : Int32))] [(.int (1 : Int32)), (.ref b), (.int (1 : Int32)), (.ref tb404)])) rfl rfl (hb hby d_jdk_52_method_14_19) _ kq)
  obtain ⟨v433, _, ⟨T433, L433, k433, n433⟩, -, X433, ⟨Lc433, hQ433, l433, y433, z433⟩, st433⟩ := Jvm.LawKit.callS X419 hx (y := (⟨"java/lang/StringUTF16", "putChar", "([BII)V"⟩ : MethodName)) hown (mvT hZ (hW 90 _ rfl)) (mvT hZ (hW 91 _ rfl)) (mvT hZ (hW 47 _ rfl)) (mvT hZ (hW 92 _ rfl)) (by decide) (backOf (W := 0) (rmPC l Z a0 hw [] tb404 kb404 (6 : Int32) [(.int (StrChars.lo8 c0)), (.int (StrChars.hi8 c0)), (.int (0 : Int32)), (.int (0 : Int32)), (.int (0 : Int32)), (.int (0 : Int32))] (1 : Int32) 1 c1 T419.heap n0 (Nat.le_trans (Nat.le_trans Z0 K404q.1) K419q.1) ((O0.keep K404q all0).keep K419q (allS ge404 all0)) S_ad S_hi S_lo ge404 V419r (by decide +kernel) (Nat.le_of_ble_eq_true rfl)) hZ (hW 92 _ rfl) (hW 47 _ rfl) (by decide) (by decide)) (g := (mkF m 20 #[.val (.ref b), .val (.int (1 : Int32)), .val (.int (3 : Int32)), .val (.ref tb404), .val (.int (1 : Int32))] [(.int c1), (.int (1 : Int32)), (.ref tb404)])) rfl (by rw [hml]; rfl) (argsL := [(.ref tb404), (.int (1 : Int32)), (.int c1)]) (rest := []) (lenOf pd_108 rfl) rfl (by show 2 * 0 + _ ≤ _; exact Nat.le_of_eq rfl) (hb hby d_jdk_52_method_14_20) (fun _ _ => ⟨rfl, rfl, (by decide : 1 + 0 ≤ _), (by decide : 6 + 0 ≤ _)⟩)
  dsimp only [Pt.U, Pt.locs, Pt.cells, Pt.slots] at X433 l433 y433 z433 st433 hQ433
  subst l433 y433 z433
  obtain ⟨rfl, N433q, K433q, V433q⟩ := hQ433
  have N433 := Fr.app N419 N433q
  have V433r : Arv Z T433.heap tb404 kb404 .byte (6 : Int32) [(.int (StrChars.lo8 c0)), (.int (StrChars.hi8 c0)), (.int (StrChars.lo8 c1)), (.int (StrChars.hi8 c1)), (.int (0 : Int32)), (.int (0 : Int32))] (.int (0 : Int32)) := V433q
  have K434 : Go p e below T433 (mkF m 23 #[.val (.ref b), .val (.int (1 : Int32)), .val (.int (3 : Int32)), .val (.ref tb404), .val (.int (1 : Int32))] []) G := fun tq kq => K432 tq (st433 tq kq)
  have K435 : Go p e below T433 (mkF m 26 #[.val (.ref b), .val (.int (2 : Int32)), .val (.int (3 : Int32)), .val (.ref tb404), .val (.int (1 : Int32))] []) G := fun tq kq => K434 tq (XS.iinc X433.here hx rfl (hb hby d_jdk_52_method_14_23) rfl (l' := #[.val (.ref b), .val (.int (2 : Int32)), .val (.int (3 : Int32)), .val (.ref tb404), .val (.int (1 : Int32))]) rfl kq)
  have K436 : Go p e below T433 (mkF m 29 #[.val (.ref b), .val (.int (2 : Int32)), .val (.int (3 : Int32)), .val (.ref tb404), .val (.int (2 : Int32))] []) G := fun tq kq => K435 tq (XS.iinc X433.here hx rfl (hb hby d_jdk_52_method_14_26) rfl (l' := #[.val (.ref b), .val (.int (2 : Int32)), .val (.int (3 : Int32)), .val (.ref tb404), .val (.int (2 : Int32))]) rfl kq)
  have K437 : Go p e below T433 (mkF m 8 #[.val (.ref b), .val (.int (2 : Int32)), .val (.int (3 : Int32)), .val (.ref tb404), .val (.int (2 : Int32))] []) G := fun tq kq => K436 tq (XS.goto X433.here hx rfl (pc0 := 29) (pc' := 8) rfl (hb hby d_jdk_52_method_14_29) (by decide) (by decide) kq)
  have K438 : Go p e below T433 (mkF m 10 #[.val (.ref b), .val (.int (2 : Int32)), .val (.int (3 : Int32)), .val (.ref tb404), .val (.int (2 : Int32))] [(.int (2 : Int32))]) G := fun tq kq => K437 tq (XS.iload X433.here hx rfl (hb hby d_jdk_52_method_14_8) rfl kq)
  have K439 : Go p e below T433 (mkF m 11 #[.val (.ref b), .val (.int (2 : Int32)), .val (.int (3 : Int32)), .val (.ref tb404), .val (.int (2 : Int32))] [(.int (3 : Int32)), (.int (2 : Int32))]) G := fun tq kq => K438 tq (XS.iloadN X433.here hx rfl (hb hby d_jdk_52_method_14_10) rfl kq)
  have K440 : Go p e below T433 (mkF m 14 #[.val (.ref b), .val (.int (2 : Int32)), .val (.int (3 : Int32)), .val (.ref tb404), .val (.int (2 : Int32))] []) G := fun tq kq => K439 tq (XS.icmpNo X433.here hx rfl (hb hby d_jdk_52_method_14_11) rfl ((tlt (by decide : (2 : Int32) < (3 : Int32))).2.1) kq)
  have K441 : Go p e below T433 (mkF m 15 #[.val (.ref b), .val (.int (2 : Int32)), .val (.int (3 : Int32)), .val (.ref tb404), .val (.int (2 : Int32))] [(.ref tb404)]) G := fun tq kq => K440 tq (XS.aloadN X433.here hx rfl (hb hby d_jdk_52_method_14_14) rfl rfl kq)
  have K442 : Go p e below T433 (mkF m 17 #[.val (.ref b), .val (.int (2 : Int32)), .val (.int (3 : Int32)), .val (.ref tb404), .val (.int (2 : Int32))] [(.int (2 : Int32)), (.ref tb404)]) G := fun tq kq => K441 tq (XS.iload X433.here hx rfl (hb hby d_jdk_52_method_14_15) rfl kq)
  have K443 : Go p e below T433 (mkF m 18 #[.val (.ref b), .val (.int (2 : Int32)), .val (.int (3 : Int32)), .val (.ref tb404), .val (.int (2 : Int32))] [(.ref b), (.int (2 : Int32)), (.ref tb404)]) G := fun tq kq => K442 tq (XS.aloadN X433.here hx rfl (hb hby d_jdk_52_method_14_17) rfl rfl kq)
  have K444 : Go p e below T433 (mkF m 19 #[.val (.ref b), .val (.int (2 : Int32)), .val (.int (3 : Int32)), .val (.ref tb404), .val (.int (2 : Int32))] [(.int (2 : Int32)), (.ref b), (.int (2 : Int32)), (.ref tb404)]) G := fun tq kq => K443 tq (XS.iloadN X433.here hx rfl (hb hby d_jdk_52_method_14_18) rfl kq)
  obtain ⟨cl445, Ar445, q445, S445, Nn445, Hh445, Gg445⟩ := id (((V_b.keep K404q nin0).keep K419q (ninS na405 nin0)).keep K433q (ninS na405 nin0))
  have hin445 : ¬ ((2 : Int32) < 0 ∨ cl445.slots.size ≤ ((2 : Int32)).toNatClampNeg) := inb_of S445 ⟨by decide, by decide⟩
  have hat445 := Has.at (v := (.int c2)) Hh445 hin445 rfl
  have K446 : Go p e below T433 (mkF m 20 #[.val (.ref b), .val (.int (2 : Int32)), .val (.int (3 : Int32)), .val (.ref tb404), .val (.int (2 : Int32))] [(.int c2), (.int (2 : Int32)), (.ref tb404)]) G := fun tq kq => K444 tq (X433.caload hx (j := (2 : Int32)) (v := (.int c2)) Ar445.1 (State.isArrayOf_alike hZ.alike Ar445.2.1) Ar445.2.2 hin445 hat445 (g := (mkF m 19 #[.val (.ref b), .val (.int (2 : Int32)), .val (.int (3 : Int32)), .val (.ref tb404), .val (.int (2 : Int32))] [(.int (2 : Int32)), (.ref b), (.int (2 : Int32)), (.ref tb404)])) rfl rfl (hb hby d_jdk_52_method_14_19) _ kq)
  obtain ⟨v447, _, ⟨T447, L447, k447, n447⟩, -, X447, ⟨Lc447, hQ447, l447, y447, z447⟩, st447⟩ := Jvm.LawKit.callS X433 hx (y := (⟨"java/lang/StringUTF16", "putChar", "([BII)V"⟩ : MethodName)) hown (mvT hZ (hW 90 _ rfl)) (mvT hZ (hW 91 _ rfl)) (mvT hZ (hW 47 _ rfl)) (mvT hZ (hW 92 _ rfl)) (by decide) (backOf (W := 0) (rmPC l Z a0 hw [] tb404 kb404 (6 : Int32) [(.int (StrChars.lo8 c0)), (.int (StrChars.hi8 c0)), (.int (StrChars.lo8 c1)), (.int (StrChars.hi8 c1)), (.int (0 : Int32)), (.int (0 : Int32))] (2 : Int32) 2 c2 T433.heap n0 (Nat.le_trans (Nat.le_trans (Nat.le_trans Z0 K404q.1) K419q.1) K433q.1) (((O0.keep K404q all0).keep K419q (allS ge404 all0)).keep K433q (allS ge404 all0)) S_ad S_hi S_lo ge404 V433r (by decide +kernel) (Nat.le_of_ble_eq_true rfl)) hZ (hW 92 _ rfl) (hW 47 _ rfl) (by decide) (by decide)) (g := (mkF m 20 #[.val (.ref b), .val (.int (2 : Int32)), .val (.int (3 : Int32)), .val (.ref tb404), .val (.int (2 : Int32))] [(.int c2), (.int (2 : Int32)), (.ref tb404)])) rfl (by rw [hml]; rfl) (argsL := [(.ref tb404), (.int (2 : Int32)), (.int c2)]) (rest := []) (lenOf pd_108 rfl) rfl (by show 2 * 0 + _ ≤ _; exact Nat.le_of_eq rfl) (hb hby d_jdk_52_method_14_20) (fun _ _ => ⟨rfl, rfl, (by decide : 1 + 0 ≤ _), (by decide : 6 + 0 ≤ _)⟩)
  dsimp only [Pt.U, Pt.locs, Pt.cells, Pt.slots] at X447 l447 y447 z447 st447 hQ447
  subst l447 y447 z447
  obtain ⟨rfl, N447q, K447q, V447q⟩ := hQ447
  have N447 := Fr.app N433 N447q
  have V447r : Arv Z T447.heap tb404 kb404 .byte (6 : Int32) [(.int (StrChars.lo8 c0)), (.int (StrChars.hi8 c0)), (.int (StrChars.lo8 c1)), (.int (StrChars.hi8 c1)), (.int (StrChars.lo8 c2)), (.int (StrChars.hi8 c2))] (.int (0 : Int32)) := V447q
  have K448 : Go p e below T447 (mkF m 23 #[.val (.ref b), .val (.int (2 : Int32)), .val (.int (3 : Int32)), .val (.ref tb404), .val (.int (2 : Int32))] []) G := fun tq kq => K446 tq (st447 tq kq)
  have K449 : Go p e below T447 (mkF m 26 #[.val (.ref b), .val (.int (3 : Int32)), .val (.int (3 : Int32)), .val (.ref tb404), .val (.int (2 : Int32))] []) G := fun tq kq => K448 tq (XS.iinc X447.here hx rfl (hb hby d_jdk_52_method_14_23) rfl (l' := #[.val (.ref b), .val (.int (3 : Int32)), .val (.int (3 : Int32)), .val (.ref tb404), .val (.int (2 : Int32))]) rfl kq)
  have K450 : Go p e below T447 (mkF m 29 #[.val (.ref b), .val (.int (3 : Int32)), .val (.int (3 : Int32)), .val (.ref tb404), .val (.int (3 : Int32))] []) G := fun tq kq => K449 tq (XS.iinc X447.here hx rfl (hb hby d_jdk_52_method_14_26) rfl (l' := #[.val (.ref b), .val (.int (3 : Int32)), .val (.int (3 : Int32)), .val (.ref tb404), .val (.int (3 : Int32))]) rfl kq)
  have K451 : Go p e below T447 (mkF m 8 #[.val (.ref b), .val (.int (3 : Int32)), .val (.int (3 : Int32)), .val (.ref tb404), .val (.int (3 : Int32))] []) G := fun tq kq => K450 tq (XS.goto X447.here hx rfl (pc0 := 29) (pc' := 8) rfl (hb hby d_jdk_52_method_14_29) (by decide) (by decide) kq)
  have K452 : Go p e below T447 (mkF m 10 #[.val (.ref b), .val (.int (3 : Int32)), .val (.int (3 : Int32)), .val (.ref tb404), .val (.int (3 : Int32))] [(.int (3 : Int32))]) G := fun tq kq => K451 tq (XS.iload X447.here hx rfl (hb hby d_jdk_52_method_14_8) rfl kq)
  have K453 : Go p e below T447 (mkF m 11 #[.val (.ref b), .val (.int (3 : Int32)), .val (.int (3 : Int32)), .val (.ref tb404), .val (.int (3 : Int32))] [(.int (3 : Int32)), (.int (3 : Int32))]) G := fun tq kq => K452 tq (XS.iloadN X447.here hx rfl (hb hby d_jdk_52_method_14_10) rfl kq)
  have K454 : Go p e below T447 (mkF m 32 #[.val (.ref b), .val (.int (3 : Int32)), .val (.int (3 : Int32)), .val (.ref tb404), .val (.int (3 : Int32))] []) G := fun tq kq => K453 tq (XS.icmpYes X447.here hx rfl (pc0 := 11) (pc' := 32) rfl (hb hby d_jdk_52_method_14_11) rfl ((flt (by decide : ¬ ((3 : Int32) < (3 : Int32)))).2.1) (by decide) (by decide) kq)
  have K455 : Go p e below T447 (mkF m 33 #[.val (.ref b), .val (.int (3 : Int32)), .val (.int (3 : Int32)), .val (.ref tb404), .val (.int (3 : Int32))] [(.ref tb404)]) G := fun tq kq => K454 tq (XS.aloadN X447.here hx rfl (hb hby d_jdk_52_method_14_32) rfl rfl kq)
  obtain ⟨fs, hr, hrun, hended, hWW, hsame⟩ := X447.leave (v := some (.ref tb404)) (fun h => by rw [Bd.returns] at h; cases h)
  refine ⟨_, _, hG _ (K455 _ (retOut X447 hx Bd.returns rfl (Or.inr (Or.inr (Or.inr (Or.inr ⟨rfl, rfl, rfl⟩)))) (hb hby d_jdk_52_method_14_33) hr)), hrun, hended, _, _, rfl, ?_, ⟨_, rfl⟩, hWW, hsame.mono (by decide) (by decide)⟩
  show QTB3 Z b kc c0 c1 c2 h0 n0 _ T447.heap _
  exact ⟨tb404, _, rfl, N447, (((((Keep.refl h0 []).trans K404q all0).trans K419q (allS (Or.inr sb404) all0)).trans K433q (allS (Or.inr sb404) all0)).trans K447q (allS (Or.inr sb404) all0)), sb404, ge404, V447r⟩
def QCP3 (Z : State) (b : Addr) (dd : Addr) (kc : ClassId) (kd : ClassId) (c0 : Int32) (c1 : Int32) (c2 : Int32) (h0 : Heap) (n0 : Nat) (v : Option Value) (h : Heap) (L : List Loc) : Prop := ∃ j : Nat, v = some (.int (Int32.ofNat j)) ∧ j < 3 ∧ (255 : Int32) < ([c0, c1, c2] : List Int32).getD j 0 ∧ Fr n0 L ∧ Keep h0 h [dd]
set_option maxRecDepth 65536 in
set_option maxHeartbeats 40000000 in
theorem rmCP3 (l : Launch) (Z : State) (a0 : Array Value) (hw : ∀ d ∈ tables_1, d.before a0 Z = true) (ws : List Jvm.Cond) (b : Addr) (dd : Addr) (kc : ClassId) (kd : ClassId) (c0 : Int32) (c1 : Int32) (c2 : Int32) (h0 : Heap) (n0 : Nat) (Z0 : n0 ≤ h0.size) (ge_dd : n0 ≤ dd) (nbd : b ≠ dd) (V_b : Arv Z h0 b kc .char (3 : Int32) [(.int c0), (.int c1), (.int c2)] (.int (0 : Int32))) (V_dd : Arv Z h0 dd kd .byte (3 : Int32) [(.int (0 : Int32)), (.int (0 : Int32)), (.int (0 : Int32))] (.int (0 : Int32))) (hwd : ¬ ∀ c ∈ ([c0, c1, c2] : List Int32), ¬ (255 : Int32) < c) :
    MetFree l (⟨"java/lang/StringUTF16", "compress", "([CI[BII)I"⟩ : MethodName) (head1 (Jvm.Cond.code (⟨"java/lang/StringUTF16", "compress", "([CI[BII)I"⟩ : MethodName) jdk_52_method_21_code 7 (some .int) :: ws) ({ frames := 0, cells := 0, slots := 0, locals := 0 } : Room)) (fun aa UU => aa = #[(.ref b), (.int (0 : Int32)), (.ref dd), (.int (0 : Int32)), (.int (3 : Int32))] ∧ Z.Warmed39 UU.vm ∧ UU.heap = h0) (fun _ _ _ _ _ => True) (fun _ UU oo UU' => ∃ vv LL, oo = .returned vv ∧ QCP3 Z b dd kc kd c0 c1 c2 h0 n0 vv UU'.heap LL ∧ FrameEnd UU oo UU' LL ({ frames := 0, cells := 0, slots := 0, locals := 0 } : Room).cells ({ frames := 0, cells := 0, slots := 0, locals := 0 } : Room).slots) := by
  refine MetFree.of_bodySF (plainFor_of_name pn_41) hisR ?_
  intro p e s m args below meth c s₁ Bd hml0 hP hK
  obtain ⟨rfl, hZ, hh⟩ := hP
  have hx := Bd.exec
  have hby := Bd.bytes
  have hml : c.maxLocals = 7 := hml0
  have hown : s.vm.findClass "java/lang/StringUTF16" = some m.cls := findClass_of_methodNamed Bd.named
  have hnm := (name_of_methodNamed Bd.named Bd.method).1
  have hW : ∀ (k : Nat) (d : Jvm.Cond), tables_1[k]? = some d → d.before a0 Z = true := fun k d h => hw d (List.mem_of_getElem? h)
  have X0 : Stand p l e ({ frames := 0, cells := 0, slots := 0, locals := 0 } : Room) s m #[(.ref b), (.int (0 : Int32)), (.ref dd), (.int (0 : Int32)), (.int (3 : Int32))] below meth c s₁ [] 0 0 := Stand.of_body Bd
  have e0 : s₁.heap = h0 := by rw [← hh, Bd.state]; rfl
  have N0 := Fr.nil n0
  obtain ⟨G, hG, K0⟩ : ∃ G : State → Prop, (∀ tq, G tq → Steps p.tables e below (s₁.setTop (entryFrame m #[(.ref b), (.int (0 : Int32)), (.ref dd), (.int (0 : Int32)), (.int (3 : Int32))] 7)) tq) ∧ Go p e below s₁ (mkF m 0 #[.val (.ref b), .val (.int (0 : Int32)), .val (.ref dd), .val (.int (0 : Int32)), .val (.int (3 : Int32)), .unset, .unset] []) G := ⟨fun tq => Steps p.tables e below (s₁.setTop (entryFrame m #[(.ref b), (.int (0 : Int32)), (.ref dd), (.int (0 : Int32)), (.int (3 : Int32))] 7)) tq, fun _ h => h, fun tq kq => castTop (ef_jdk_52_method_21_RIRII m b (0 : Int32) dd (0 : Int32) (3 : Int32)) kq⟩
  have K456 : Go p e below s₁ (mkF m 1 #[.val (.ref b), .val (.int (0 : Int32)), .val (.ref dd), .val (.int (0 : Int32)), .val (.int (3 : Int32)), .unset, .unset] [(.int (0 : Int32))]) G := fun tq kq => K0 tq (XS.iconst X0.here hx rfl (hb hby d_jdk_52_method_21_0) kq)
  have K457 : Go p e below s₁ (mkF m 3 #[.val (.ref b), .val (.int (0 : Int32)), .val (.ref dd), .val (.int (0 : Int32)), .val (.int (3 : Int32)), .val (.int (0 : Int32)), .unset] []) G := fun tq kq => K456 tq (XS.istore X0.here hx rfl (hb hby d_jdk_52_method_21_1) rfl (l' := #[.val (.ref b), .val (.int (0 : Int32)), .val (.ref dd), .val (.int (0 : Int32)), .val (.int (3 : Int32)), .val (.int (0 : Int32)), .unset]) rfl kq)
  have K458 : Go p e below s₁ (mkF m 5 #[.val (.ref b), .val (.int (0 : Int32)), .val (.ref dd), .val (.int (0 : Int32)), .val (.int (3 : Int32)), .val (.int (0 : Int32)), .unset] [(.int (0 : Int32))]) G := fun tq kq => K457 tq (XS.iload X0.here hx rfl (hb hby d_jdk_52_method_21_3) rfl kq)
  have K459 : Go p e below s₁ (mkF m 7 #[.val (.ref b), .val (.int (0 : Int32)), .val (.ref dd), .val (.int (0 : Int32)), .val (.int (3 : Int32)), .val (.int (0 : Int32)), .unset] [(.int (3 : Int32)), (.int (0 : Int32))]) G := fun tq kq => K458 tq (XS.iload X0.here hx rfl (hb hby d_jdk_52_method_21_5) rfl kq)
  have K460 : Go p e below s₁ (mkF m 10 #[.val (.ref b), .val (.int (0 : Int32)), .val (.ref dd), .val (.int (0 : Int32)), .val (.int (3 : Int32)), .val (.int (0 : Int32)), .unset] []) G := fun tq kq => K459 tq (XS.icmpNo X0.here hx rfl (hb hby d_jdk_52_method_21_7) rfl ((tlt (by decide : (0 : Int32) < (3 : Int32))).2.1) kq)
  have K461 : Go p e below s₁ (mkF m 11 #[.val (.ref b), .val (.int (0 : Int32)), .val (.ref dd), .val (.int (0 : Int32)), .val (.int (3 : Int32)), .val (.int (0 : Int32)), .unset] [(.ref b)]) G := fun tq kq => K460 tq (XS.aloadN X0.here hx rfl (hb hby d_jdk_52_method_21_10) rfl rfl kq)
  have K462 : Go p e below s₁ (mkF m 12 #[.val (.ref b), .val (.int (0 : Int32)), .val (.ref dd), .val (.int (0 : Int32)), .val (.int (3 : Int32)), .val (.int (0 : Int32)), .unset] [(.int (0 : Int32)), (.ref b)]) G := fun tq kq => K461 tq (XS.iloadN X0.here hx rfl (hb hby d_jdk_52_method_21_11) rfl kq)
  obtain ⟨cl463, Ar463, q463, S463, Nn463, Hh463, Gg463⟩ := id V_b
  have hin463 : ¬ ((0 : Int32) < 0 ∨ cl463.slots.size ≤ ((0 : Int32)).toNatClampNeg) := inb_of S463 ⟨by decide, by decide⟩
  have hat463 := Has.at (v := (.int c0)) Hh463 hin463 rfl
  have K464 : Go p e below s₁ (mkF m 13 #[.val (.ref b), .val (.int (0 : Int32)), .val (.ref dd), .val (.int (0 : Int32)), .val (.int (3 : Int32)), .val (.int (0 : Int32)), .unset] [(.int c0)]) G := fun tq kq => K462 tq (X0.caload hx (j := (0 : Int32)) (v := (.int c0)) (by rw [e0]; exact Ar463.1) (State.isArrayOf_alike hZ.alike Ar463.2.1) Ar463.2.2 hin463 hat463 (g := (mkF m 12 #[.val (.ref b), .val (.int (0 : Int32)), .val (.ref dd), .val (.int (0 : Int32)), .val (.int (3 : Int32)), .val (.int (0 : Int32)), .unset] [(.int (0 : Int32)), (.ref b)])) rfl rfl (hb hby d_jdk_52_method_21_12) _ kq)
  have K465 : Go p e below s₁ (mkF m 15 #[.val (.ref b), .val (.int (0 : Int32)), .val (.ref dd), .val (.int (0 : Int32)), .val (.int (3 : Int32)), .val (.int (0 : Int32)), .val (.int c0)] []) G := fun tq kq => K464 tq (XS.istore X0.here hx rfl (hb hby d_jdk_52_method_21_13) rfl (l' := #[.val (.ref b), .val (.int (0 : Int32)), .val (.ref dd), .val (.int (0 : Int32)), .val (.int (3 : Int32)), .val (.int (0 : Int32)), .val (.int c0)]) rfl kq)
  have K466 : Go p e below s₁ (mkF m 17 #[.val (.ref b), .val (.int (0 : Int32)), .val (.ref dd), .val (.int (0 : Int32)), .val (.int (3 : Int32)), .val (.int (0 : Int32)), .val (.int c0)] [(.int c0)]) G := fun tq kq => K465 tq (XS.iload X0.here hx rfl (hb hby d_jdk_52_method_21_15) rfl kq)
  have K467 : Go p e below s₁ (mkF m 20 #[.val (.ref b), .val (.int (0 : Int32)), .val (.ref dd), .val (.int (0 : Int32)), .val (.int (3 : Int32)), .val (.int (0 : Int32)), .val (.int c0)] [(.int (255 : Int32)), (.int c0)]) G := fun tq kq => K466 tq (XS.sipush X0.here hx rfl (hb hby d_jdk_52_method_21_17) kq)
  by_cases hc468 : (255 : Int32) < c0
  · skip
    have K469 : Go p e below s₁ (mkF m 23 #[.val (.ref b), .val (.int (0 : Int32)), .val (.ref dd), .val (.int (0 : Int32)), .val (.int (3 : Int32)), .val (.int (0 : Int32)), .val (.int c0)] []) G := fun tq kq => K467 tq (XS.icmpNo X0.here hx rfl (hb hby d_jdk_52_method_21_20) rfl ((tlt hc468).2.2.2) kq)
    have K470 : Go p e below s₁ (mkF m 25 #[.val (.ref b), .val (.int (0 : Int32)), .val (.ref dd), .val (.int (0 : Int32)), .val (.int (3 : Int32)), .val (.int (0 : Int32)), .val (.int c0)] [(.int (0 : Int32))]) G := fun tq kq => K469 tq (XS.iload X0.here hx rfl (hb hby d_jdk_52_method_21_23) rfl kq)
    obtain ⟨fs, hr, hrun, hended, hWW, hsame⟩ := X0.leave (v := some (.int (0 : Int32))) (fun h => by rw [Bd.returns] at h; cases h)
    refine ⟨_, _, hG _ (K470 _ (retOut X0 hx Bd.returns rfl (Or.inl ⟨rfl, Or.inl rfl, _, rfl⟩) (hb hby d_jdk_52_method_21_25) hr)), hrun, hended, _, _, rfl, ?_, ⟨_, rfl⟩, hWW, hsame.mono (by decide) (by decide)⟩
    show QCP3 Z b dd kc kd c0 c1 c2 h0 n0 _ s₁.heap _
    rw [e0]
    exact ⟨0, rfl, by decide, hc468, N0, (Keep.refl h0 [dd])⟩
  · skip
    have K471 : Go p e below s₁ (mkF m 26 #[.val (.ref b), .val (.int (0 : Int32)), .val (.ref dd), .val (.int (0 : Int32)), .val (.int (3 : Int32)), .val (.int (0 : Int32)), .val (.int c0)] []) G := fun tq kq => K467 tq (XS.icmpYes X0.here hx rfl (pc0 := 20) (pc' := 26) rfl (hb hby d_jdk_52_method_21_20) rfl ((flt hc468).2.2.2) (by decide) (by decide) kq)
    have K472 : Go p e below s₁ (mkF m 27 #[.val (.ref b), .val (.int (0 : Int32)), .val (.ref dd), .val (.int (0 : Int32)), .val (.int (3 : Int32)), .val (.int (0 : Int32)), .val (.int c0)] [(.ref dd)]) G := fun tq kq => K471 tq (XS.aloadN X0.here hx rfl (hb hby d_jdk_52_method_21_26) rfl rfl kq)
    have K473 : Go p e below s₁ (mkF m 28 #[.val (.ref b), .val (.int (0 : Int32)), .val (.ref dd), .val (.int (0 : Int32)), .val (.int (3 : Int32)), .val (.int (0 : Int32)), .val (.int c0)] [(.int (0 : Int32)), (.ref dd)]) G := fun tq kq => K472 tq (XS.iloadN X0.here hx rfl (hb hby d_jdk_52_method_21_27) rfl kq)
    have K474 : Go p e below s₁ (mkF m 30 #[.val (.ref b), .val (.int (0 : Int32)), .val (.ref dd), .val (.int (0 : Int32)), .val (.int (3 : Int32)), .val (.int (0 : Int32)), .val (.int c0)] [(.int c0), (.int (0 : Int32)), (.ref dd)]) G := fun tq kq => K473 tq (XS.iload X0.here hx rfl (hb hby d_jdk_52_method_21_28) rfl kq)
    have K475 : Go p e below s₁ (mkF m 31 #[.val (.ref b), .val (.int (0 : Int32)), .val (.ref dd), .val (.int (0 : Int32)), .val (.int (3 : Int32)), .val (.int (0 : Int32)), .val (.int c0)] [(.int (c0.toInt8.toInt32)), (.int (0 : Int32)), (.ref dd)]) G := fun tq kq => K474 tq (XS.i2b X0.here hx rfl (hb hby d_jdk_52_method_21_30) rfl kq)
    obtain ⟨cl476, Ar476, q476, S476, Nn476, Hh476, Gg476⟩ := id V_dd
    have hin476 : ¬ ((0 : Int32) < 0 ∨ cl476.slots.size ≤ ((0 : Int32)).toNatClampNeg) := inb_of S476 ⟨by decide, by decide⟩
    obtain ⟨T476, h476, X476, e476, W476, st476⟩ := stB X0 hx hZ e0 Ar476 (j := (0 : Int32)) hin476 (g := (mkF m 31 #[.val (.ref b), .val (.int (0 : Int32)), .val (.ref dd), .val (.int (0 : Int32)), .val (.int (3 : Int32)), .val (.int (0 : Int32)), .val (.int c0)] [(.int (c0.toInt8.toInt32)), (.int (0 : Int32)), (.ref dd)])) rfl rfl (hb hby d_jdk_52_method_21_31)
    have V476 : Arv Z h476 dd kd .byte (3 : Int32) [(.int (nar .byte (c0.toInt8.toInt32))), (.int (0 : Int32)), (.int (0 : Int32))] (.int (0 : Int32)) := Arv.set Ar476 q476 S476 Nn476 Hh476 Gg476 (fits_nar_byte _) W476 0 rfl (Nat.le_of_ble_eq_true rfl)
    have N476 := Fr.snoc X476 N0 ge_dd
    have K477 : Go p e below T476 (mkF m 32 #[.val (.ref b), .val (.int (0 : Int32)), .val (.ref dd), .val (.int (0 : Int32)), .val (.int (3 : Int32)), .val (.int (0 : Int32)), .val (.int c0)] []) G := fun tq kq => K475 tq (st476 tq kq)
    have K478 : Go p e below T476 (mkF m 35 #[.val (.ref b), .val (.int (1 : Int32)), .val (.ref dd), .val (.int (0 : Int32)), .val (.int (3 : Int32)), .val (.int (0 : Int32)), .val (.int c0)] []) G := fun tq kq => K477 tq (XS.iinc X476.here hx rfl (hb hby d_jdk_52_method_21_32) rfl (l' := #[.val (.ref b), .val (.int (1 : Int32)), .val (.ref dd), .val (.int (0 : Int32)), .val (.int (3 : Int32)), .val (.int (0 : Int32)), .val (.int c0)]) rfl kq)
    have K479 : Go p e below T476 (mkF m 38 #[.val (.ref b), .val (.int (1 : Int32)), .val (.ref dd), .val (.int (1 : Int32)), .val (.int (3 : Int32)), .val (.int (0 : Int32)), .val (.int c0)] []) G := fun tq kq => K478 tq (XS.iinc X476.here hx rfl (hb hby d_jdk_52_method_21_35) rfl (l' := #[.val (.ref b), .val (.int (1 : Int32)), .val (.ref dd), .val (.int (1 : Int32)), .val (.int (3 : Int32)), .val (.int (0 : Int32)), .val (.int c0)]) rfl kq)
    have K480 : Go p e below T476 (mkF m 41 #[.val (.ref b), .val (.int (1 : Int32)), .val (.ref dd), .val (.int (1 : Int32)), .val (.int (3 : Int32)), .val (.int (1 : Int32)), .val (.int c0)] []) G := fun tq kq => K479 tq (XS.iinc X476.here hx rfl (hb hby d_jdk_52_method_21_38) rfl (l' := #[.val (.ref b), .val (.int (1 : Int32)), .val (.ref dd), .val (.int (1 : Int32)), .val (.int (3 : Int32)), .val (.int (1 : Int32)), .val (.int c0)]) rfl kq)
    have K481 : Go p e below T476 (mkF m 3 #[.val (.ref b), .val (.int (1 : Int32)), .val (.ref dd), .val (.int (1 : Int32)), .val (.int (3 : Int32)), .val (.int (1 : Int32)), .val (.int c0)] []) G := fun tq kq => K480 tq (XS.goto X476.here hx rfl (pc0 := 41) (pc' := 3) rfl (hb hby d_jdk_52_method_21_41) (by decide) (by decide) kq)
    have K482 : Go p e below T476 (mkF m 5 #[.val (.ref b), .val (.int (1 : Int32)), .val (.ref dd), .val (.int (1 : Int32)), .val (.int (3 : Int32)), .val (.int (1 : Int32)), .val (.int c0)] [(.int (1 : Int32))]) G := fun tq kq => K481 tq (XS.iload X476.here hx rfl (hb hby d_jdk_52_method_21_3) rfl kq)
    have K483 : Go p e below T476 (mkF m 7 #[.val (.ref b), .val (.int (1 : Int32)), .val (.ref dd), .val (.int (1 : Int32)), .val (.int (3 : Int32)), .val (.int (1 : Int32)), .val (.int c0)] [(.int (3 : Int32)), (.int (1 : Int32))]) G := fun tq kq => K482 tq (XS.iload X476.here hx rfl (hb hby d_jdk_52_method_21_5) rfl kq)
    have K484 : Go p e below T476 (mkF m 10 #[.val (.ref b), .val (.int (1 : Int32)), .val (.ref dd), .val (.int (1 : Int32)), .val (.int (3 : Int32)), .val (.int (1 : Int32)), .val (.int c0)] []) G := fun tq kq => K483 tq (XS.icmpNo X476.here hx rfl (hb hby d_jdk_52_method_21_7) rfl ((tlt (by decide : (1 : Int32) < (3 : Int32))).2.1) kq)
    have K485 : Go p e below T476 (mkF m 11 #[.val (.ref b), .val (.int (1 : Int32)), .val (.ref dd), .val (.int (1 : Int32)), .val (.int (3 : Int32)), .val (.int (1 : Int32)), .val (.int c0)] [(.ref b)]) G := fun tq kq => K484 tq (XS.aloadN X476.here hx rfl (hb hby d_jdk_52_method_21_10) rfl rfl kq)
    have K486 : Go p e below T476 (mkF m 12 #[.val (.ref b), .val (.int (1 : Int32)), .val (.ref dd), .val (.int (1 : Int32)), .val (.int (3 : Int32)), .val (.int (1 : Int32)), .val (.int c0)] [(.int (1 : Int32)), (.ref b)]) G := fun tq kq => K485 tq (XS.iloadN X476.here hx rfl (hb hby d_jdk_52_method_21_11) rfl kq)
    obtain ⟨cl487, Ar487, q487, S487, Nn487, Hh487, Gg487⟩ := id (V_b.other W476 nbd)
    have hin487 : ¬ ((1 : Int32) < 0 ∨ cl487.slots.size ≤ ((1 : Int32)).toNatClampNeg) := inb_of S487 ⟨by decide, by decide⟩
    have hat487 := Has.at (v := (.int c1)) Hh487 hin487 rfl
    have K488 : Go p e below T476 (mkF m 13 #[.val (.ref b), .val (.int (1 : Int32)), .val (.ref dd), .val (.int (1 : Int32)), .val (.int (3 : Int32)), .val (.int (1 : Int32)), .val (.int c0)] [(.int c1)]) G := fun tq kq => K486 tq (X476.caload hx (j := (1 : Int32)) (v := (.int c1)) (by rw [e476]; exact Ar487.1) (State.isArrayOf_alike hZ.alike Ar487.2.1) Ar487.2.2 hin487 hat487 (g := (mkF m 12 #[.val (.ref b), .val (.int (1 : Int32)), .val (.ref dd), .val (.int (1 : Int32)), .val (.int (3 : Int32)), .val (.int (1 : Int32)), .val (.int c0)] [(.int (1 : Int32)), (.ref b)])) rfl rfl (hb hby d_jdk_52_method_21_12) _ kq)
    have K489 : Go p e below T476 (mkF m 15 #[.val (.ref b), .val (.int (1 : Int32)), .val (.ref dd), .val (.int (1 : Int32)), .val (.int (3 : Int32)), .val (.int (1 : Int32)), .val (.int c1)] []) G := fun tq kq => K488 tq (XS.istore X476.here hx rfl (hb hby d_jdk_52_method_21_13) rfl (l' := #[.val (.ref b), .val (.int (1 : Int32)), .val (.ref dd), .val (.int (1 : Int32)), .val (.int (3 : Int32)), .val (.int (1 : Int32)), .val (.int c1)]) rfl kq)
    have K490 : Go p e below T476 (mkF m 17 #[.val (.ref b), .val (.int (1 : Int32)), .val (.ref dd), .val (.int (1 : Int32)), .val (.int (3 : Int32)), .val (.int (1 : Int32)), .val (.int c1)] [(.int c1)]) G := fun tq kq => K489 tq (XS.iload X476.here hx rfl (hb hby d_jdk_52_method_21_15) rfl kq)
    have K491 : Go p e below T476 (mkF m 20 #[.val (.ref b), .val (.int (1 : Int32)), .val (.ref dd), .val (.int (1 : Int32)), .val (.int (3 : Int32)), .val (.int (1 : Int32)), .val (.int c1)] [(.int (255 : Int32)), (.int c1)]) G := fun tq kq => K490 tq (XS.sipush X476.here hx rfl (hb hby d_jdk_52_method_21_17) kq)
    by_cases hc492 : (255 : Int32) < c1
    · skip
      have K493 : Go p e below T476 (mkF m 23 #[.val (.ref b), .val (.int (1 : Int32)), .val (.ref dd), .val (.int (1 : Int32)), .val (.int (3 : Int32)), .val (.int (1 : Int32)), .val (.int c1)] []) G := fun tq kq => K491 tq (XS.icmpNo X476.here hx rfl (hb hby d_jdk_52_method_21_20) rfl ((tlt hc492).2.2.2) kq)
      have K494 : Go p e below T476 (mkF m 25 #[.val (.ref b), .val (.int (1 : Int32)), .val (.ref dd), .val (.int (1 : Int32)), .val (.int (3 : Int32)), .val (.int (1 : Int32)), .val (.int c1)] [(.int (1 : Int32))]) G := fun tq kq => K493 tq (XS.iload X476.here hx rfl (hb hby d_jdk_52_method_21_23) rfl kq)
      obtain ⟨fs, hr, hrun, hended, hWW, hsame⟩ := X476.leave (v := some (.int (1 : Int32))) (fun h => by rw [Bd.returns] at h; cases h)
      refine ⟨_, _, hG _ (K494 _ (retOut X476 hx Bd.returns rfl (Or.inl ⟨rfl, Or.inl rfl, _, rfl⟩) (hb hby d_jdk_52_method_21_25) hr)), hrun, hended, _, _, rfl, ?_, ⟨_, rfl⟩, hWW, hsame.mono (by decide) (by decide)⟩
      show QCP3 Z b dd kc kd c0 c1 c2 h0 n0 _ T476.heap _
      rw [e476]
      exact ⟨1, rfl, by decide, hc492, N476, ((Keep.refl h0 [dd]).wr W476 (Or.inl (List.mem_of_getElem? (i := 0) rfl)))⟩
    · skip
      have K495 : Go p e below T476 (mkF m 26 #[.val (.ref b), .val (.int (1 : Int32)), .val (.ref dd), .val (.int (1 : Int32)), .val (.int (3 : Int32)), .val (.int (1 : Int32)), .val (.int c1)] []) G := fun tq kq => K491 tq (XS.icmpYes X476.here hx rfl (pc0 := 20) (pc' := 26) rfl (hb hby d_jdk_52_method_21_20) rfl ((flt hc492).2.2.2) (by decide) (by decide) kq)
      have K496 : Go p e below T476 (mkF m 27 #[.val (.ref b), .val (.int (1 : Int32)), .val (.ref dd), .val (.int (1 : Int32)), .val (.int (3 : Int32)), .val (.int (1 : Int32)), .val (.int c1)] [(.ref dd)]) G := fun tq kq => K495 tq (XS.aloadN X476.here hx rfl (hb hby d_jdk_52_method_21_26) rfl rfl kq)
      have K497 : Go p e below T476 (mkF m 28 #[.val (.ref b), .val (.int (1 : Int32)), .val (.ref dd), .val (.int (1 : Int32)), .val (.int (3 : Int32)), .val (.int (1 : Int32)), .val (.int c1)] [(.int (1 : Int32)), (.ref dd)]) G := fun tq kq => K496 tq (XS.iloadN X476.here hx rfl (hb hby d_jdk_52_method_21_27) rfl kq)
      have K498 : Go p e below T476 (mkF m 30 #[.val (.ref b), .val (.int (1 : Int32)), .val (.ref dd), .val (.int (1 : Int32)), .val (.int (3 : Int32)), .val (.int (1 : Int32)), .val (.int c1)] [(.int c1), (.int (1 : Int32)), (.ref dd)]) G := fun tq kq => K497 tq (XS.iload X476.here hx rfl (hb hby d_jdk_52_method_21_28) rfl kq)
      have K499 : Go p e below T476 (mkF m 31 #[.val (.ref b), .val (.int (1 : Int32)), .val (.ref dd), .val (.int (1 : Int32)), .val (.int (3 : Int32)), .val (.int (1 : Int32)), .val (.int c1)] [(.int (c1.toInt8.toInt32)), (.int (1 : Int32)), (.ref dd)]) G := fun tq kq => K498 tq (XS.i2b X476.here hx rfl (hb hby d_jdk_52_method_21_30) rfl kq)
      obtain ⟨cl500, Ar500, q500, S500, Nn500, Hh500, Gg500⟩ := id V476
      have hin500 : ¬ ((1 : Int32) < 0 ∨ cl500.slots.size ≤ ((1 : Int32)).toNatClampNeg) := inb_of S500 ⟨by decide, by decide⟩
      obtain ⟨T500, h500, X500, e500, W500, st500⟩ := stB X476 hx hZ e476 Ar500 (j := (1 : Int32)) hin500 (g := (mkF m 31 #[.val (.ref b), .val (.int (1 : Int32)), .val (.ref dd), .val (.int (1 : Int32)), .val (.int (3 : Int32)), .val (.int (1 : Int32)), .val (.int c1)] [(.int (c1.toInt8.toInt32)), (.int (1 : Int32)), (.ref dd)])) rfl rfl (hb hby d_jdk_52_method_21_31)
      have V500 : Arv Z h500 dd kd .byte (3 : Int32) [(.int (nar .byte (c0.toInt8.toInt32))), (.int (nar .byte (c1.toInt8.toInt32))), (.int (0 : Int32))] (.int (0 : Int32)) := Arv.set Ar500 q500 S500 Nn500 Hh500 Gg500 (fits_nar_byte _) W500 1 rfl (Nat.le_of_ble_eq_true rfl)
      have N500 := Fr.snoc X500 N476 ge_dd
      have K501 : Go p e below T500 (mkF m 32 #[.val (.ref b), .val (.int (1 : Int32)), .val (.ref dd), .val (.int (1 : Int32)), .val (.int (3 : Int32)), .val (.int (1 : Int32)), .val (.int c1)] []) G := fun tq kq => K499 tq (st500 tq kq)
      have K502 : Go p e below T500 (mkF m 35 #[.val (.ref b), .val (.int (2 : Int32)), .val (.ref dd), .val (.int (1 : Int32)), .val (.int (3 : Int32)), .val (.int (1 : Int32)), .val (.int c1)] []) G := fun tq kq => K501 tq (XS.iinc X500.here hx rfl (hb hby d_jdk_52_method_21_32) rfl (l' := #[.val (.ref b), .val (.int (2 : Int32)), .val (.ref dd), .val (.int (1 : Int32)), .val (.int (3 : Int32)), .val (.int (1 : Int32)), .val (.int c1)]) rfl kq)
      have K503 : Go p e below T500 (mkF m 38 #[.val (.ref b), .val (.int (2 : Int32)), .val (.ref dd), .val (.int (2 : Int32)), .val (.int (3 : Int32)), .val (.int (1 : Int32)), .val (.int c1)] []) G := fun tq kq => K502 tq (XS.iinc X500.here hx rfl (hb hby d_jdk_52_method_21_35) rfl (l' := #[.val (.ref b), .val (.int (2 : Int32)), .val (.ref dd), .val (.int (2 : Int32)), .val (.int (3 : Int32)), .val (.int (1 : Int32)), .val (.int c1)]) rfl kq)
      have K504 : Go p e below T500 (mkF m 41 #[.val (.ref b), .val (.int (2 : Int32)), .val (.ref dd), .val (.int (2 : Int32)), .val (.int (3 : Int32)), .val (.int (2 : Int32)), .val (.int c1)] []) G := fun tq kq => K503 tq (XS.iinc X500.here hx rfl (hb hby d_jdk_52_method_21_38) rfl (l' := #[.val (.ref b), .val (.int (2 : Int32)), .val (.ref dd), .val (.int (2 : Int32)), .val (.int (3 : Int32)), .val (.int (2 : Int32)), .val (.int c1)]) rfl kq)
      have K505 : Go p e below T500 (mkF m 3 #[.val (.ref b), .val (.int (2 : Int32)), .val (.ref dd), .val (.int (2 : Int32)), .val (.int (3 : Int32)), .val (.int (2 : Int32)), .val (.int c1)] []) G := fun tq kq => K504 tq (XS.goto X500.here hx rfl (pc0 := 41) (pc' := 3) rfl (hb hby d_jdk_52_method_21_41) (by decide) (by decide) kq)
      have K506 : Go p e below T500 (mkF m 5 #[.val (.ref b), .val (.int (2 : Int32)), .val (.ref dd), .val (.int (2 : Int32)), .val (.int (3 : Int32)), .val (.int (2 : Int32)), .val (.int c1)] [(.int (2 : Int32))]) G := fun tq kq => K505 tq (XS.iload X500.here hx rfl (hb hby d_jdk_52_method_21_3) rfl kq)
      have K507 : Go p e below T500 (mkF m 7 #[.val (.ref b), .val (.int (2 : Int32)), .val (.ref dd), .val (.int (2 : Int32)), .val (.int (3 : Int32)), .val (.int (2 : Int32)), .val (.int c1)] [(.int (3 : Int32)), (.int (2 : Int32))]) G := fun tq kq => K506 tq (XS.iload X500.here hx rfl (hb hby d_jdk_52_method_21_5) rfl kq)
      have K508 : Go p e below T500 (mkF m 10 #[.val (.ref b), .val (.int (2 : Int32)), .val (.ref dd), .val (.int (2 : Int32)), .val (.int (3 : Int32)), .val (.int (2 : Int32)), .val (.int c1)] []) G := fun tq kq => K507 tq (XS.icmpNo X500.here hx rfl (hb hby d_jdk_52_method_21_7) rfl ((tlt (by decide : (2 : Int32) < (3 : Int32))).2.1) kq)
      have K509 : Go p e below T500 (mkF m 11 #[.val (.ref b), .val (.int (2 : Int32)), .val (.ref dd), .val (.int (2 : Int32)), .val (.int (3 : Int32)), .val (.int (2 : Int32)), .val (.int c1)] [(.ref b)]) G := fun tq kq => K508 tq (XS.aloadN X500.here hx rfl (hb hby d_jdk_52_method_21_10) rfl rfl kq)
      have K510 : Go p e below T500 (mkF m 12 #[.val (.ref b), .val (.int (2 : Int32)), .val (.ref dd), .val (.int (2 : Int32)), .val (.int (3 : Int32)), .val (.int (2 : Int32)), .val (.int c1)] [(.int (2 : Int32)), (.ref b)]) G := fun tq kq => K509 tq (XS.iloadN X500.here hx rfl (hb hby d_jdk_52_method_21_11) rfl kq)
      obtain ⟨cl511, Ar511, q511, S511, Nn511, Hh511, Gg511⟩ := id ((V_b.other W476 nbd).other W500 nbd)
      have hin511 : ¬ ((2 : Int32) < 0 ∨ cl511.slots.size ≤ ((2 : Int32)).toNatClampNeg) := inb_of S511 ⟨by decide, by decide⟩
      have hat511 := Has.at (v := (.int c2)) Hh511 hin511 rfl
      have K512 : Go p e below T500 (mkF m 13 #[.val (.ref b), .val (.int (2 : Int32)), .val (.ref dd), .val (.int (2 : Int32)), .val (.int (3 : Int32)), .val (.int (2 : Int32)), .val (.int c1)] [(.int c2)]) G := fun tq kq => K510 tq (X500.caload hx (j := (2 : Int32)) (v := (.int c2)) (by rw [e500]; exact Ar511.1) (State.isArrayOf_alike hZ.alike Ar511.2.1) Ar511.2.2 hin511 hat511 (g := (mkF m 12 #[.val (.ref b), .val (.int (2 : Int32)), .val (.ref dd), .val (.int (2 : Int32)), .val (.int (3 : Int32)), .val (.int (2 : Int32)), .val (.int c1)] [(.int (2 : Int32)), (.ref b)])) rfl rfl (hb hby d_jdk_52_method_21_12) _ kq)
      have K513 : Go p e below T500 (mkF m 15 #[.val (.ref b), .val (.int (2 : Int32)), .val (.ref dd), .val (.int (2 : Int32)), .val (.int (3 : Int32)), .val (.int (2 : Int32)), .val (.int c2)] []) G := fun tq kq => K512 tq (XS.istore X500.here hx rfl (hb hby d_jdk_52_method_21_13) rfl (l' := #[.val (.ref b), .val (.int (2 : Int32)), .val (.ref dd), .val (.int (2 : Int32)), .val (.int (3 : Int32)), .val (.int (2 : Int32)), .val (.int c2)]) rfl kq)
      have K514 : Go p e below T500 (mkF m 17 #[.val (.ref b), .val (.int (2 : Int32)), .val (.ref dd), .val (.int (2 : Int32)), .val (.int (3 : Int32)), .val (.int (2 : Int32)), .val (.int c2)] [(.int c2)]) G := fun tq kq => K513 tq (XS.iload X500.here hx rfl (hb hby d_jdk_52_method_21_15) rfl kq)
      have K515 : Go p e below T500 (mkF m 20 #[.val (.ref b), .val (.int (2 : Int32)), .val (.ref dd), .val (.int (2 : Int32)), .val (.int (3 : Int32)), .val (.int (2 : Int32)), .val (.int c2)] [(.int (255 : Int32)), (.int c2)]) G := fun tq kq => K514 tq (XS.sipush X500.here hx rfl (hb hby d_jdk_52_method_21_17) kq)
      by_cases hc516 : (255 : Int32) < c2
      · skip
        have K517 : Go p e below T500 (mkF m 23 #[.val (.ref b), .val (.int (2 : Int32)), .val (.ref dd), .val (.int (2 : Int32)), .val (.int (3 : Int32)), .val (.int (2 : Int32)), .val (.int c2)] []) G := fun tq kq => K515 tq (XS.icmpNo X500.here hx rfl (hb hby d_jdk_52_method_21_20) rfl ((tlt hc516).2.2.2) kq)
        have K518 : Go p e below T500 (mkF m 25 #[.val (.ref b), .val (.int (2 : Int32)), .val (.ref dd), .val (.int (2 : Int32)), .val (.int (3 : Int32)), .val (.int (2 : Int32)), .val (.int c2)] [(.int (2 : Int32))]) G := fun tq kq => K517 tq (XS.iload X500.here hx rfl (hb hby d_jdk_52_method_21_23) rfl kq)
        obtain ⟨fs, hr, hrun, hended, hWW, hsame⟩ := X500.leave (v := some (.int (2 : Int32))) (fun h => by rw [Bd.returns] at h; cases h)
        refine ⟨_, _, hG _ (K518 _ (retOut X500 hx Bd.returns rfl (Or.inl ⟨rfl, Or.inl rfl, _, rfl⟩) (hb hby d_jdk_52_method_21_25) hr)), hrun, hended, _, _, rfl, ?_, ⟨_, rfl⟩, hWW, hsame.mono (by decide) (by decide)⟩
        show QCP3 Z b dd kc kd c0 c1 c2 h0 n0 _ T500.heap _
        rw [e500]
        exact ⟨2, rfl, by decide, hc516, N500, (((Keep.refl h0 [dd]).wr W476 (Or.inl (List.mem_of_getElem? (i := 0) rfl))).wr W500 (Or.inl (List.mem_of_getElem? (i := 0) rfl)))⟩
      · skip
        have K519 : Go p e below T500 (mkF m 26 #[.val (.ref b), .val (.int (2 : Int32)), .val (.ref dd), .val (.int (2 : Int32)), .val (.int (3 : Int32)), .val (.int (2 : Int32)), .val (.int c2)] []) G := fun tq kq => K515 tq (XS.icmpYes X500.here hx rfl (pc0 := 20) (pc' := 26) rfl (hb hby d_jdk_52_method_21_20) rfl ((flt hc516).2.2.2) (by decide) (by decide) kq)
        have K520 : Go p e below T500 (mkF m 27 #[.val (.ref b), .val (.int (2 : Int32)), .val (.ref dd), .val (.int (2 : Int32)), .val (.int (3 : Int32)), .val (.int (2 : Int32)), .val (.int c2)] [(.ref dd)]) G := fun tq kq => K519 tq (XS.aloadN X500.here hx rfl (hb hby d_jdk_52_method_21_26) rfl rfl kq)
        have K521 : Go p e below T500 (mkF m 28 #[.val (.ref b), .val (.int (2 : Int32)), .val (.ref dd), .val (.int (2 : Int32)), .val (.int (3 : Int32)), .val (.int (2 : Int32)), .val (.int c2)] [(.int (2 : Int32)), (.ref dd)]) G := fun tq kq => K520 tq (XS.iloadN X500.here hx rfl (hb hby d_jdk_52_method_21_27) rfl kq)
        have K522 : Go p e below T500 (mkF m 30 #[.val (.ref b), .val (.int (2 : Int32)), .val (.ref dd), .val (.int (2 : Int32)), .val (.int (3 : Int32)), .val (.int (2 : Int32)), .val (.int c2)] [(.int c2), (.int (2 : Int32)), (.ref dd)]) G := fun tq kq => K521 tq (XS.iload X500.here hx rfl (hb hby d_jdk_52_method_21_28) rfl kq)
        have K523 : Go p e below T500 (mkF m 31 #[.val (.ref b), .val (.int (2 : Int32)), .val (.ref dd), .val (.int (2 : Int32)), .val (.int (3 : Int32)), .val (.int (2 : Int32)), .val (.int c2)] [(.int (c2.toInt8.toInt32)), (.int (2 : Int32)), (.ref dd)]) G := fun tq kq => K522 tq (XS.i2b X500.here hx rfl (hb hby d_jdk_52_method_21_30) rfl kq)
        obtain ⟨cl524, Ar524, q524, S524, Nn524, Hh524, Gg524⟩ := id V500
        have hin524 : ¬ ((2 : Int32) < 0 ∨ cl524.slots.size ≤ ((2 : Int32)).toNatClampNeg) := inb_of S524 ⟨by decide, by decide⟩
        obtain ⟨T524, h524, X524, e524, W524, st524⟩ := stB X500 hx hZ e500 Ar524 (j := (2 : Int32)) hin524 (g := (mkF m 31 #[.val (.ref b), .val (.int (2 : Int32)), .val (.ref dd), .val (.int (2 : Int32)), .val (.int (3 : Int32)), .val (.int (2 : Int32)), .val (.int c2)] [(.int (c2.toInt8.toInt32)), (.int (2 : Int32)), (.ref dd)])) rfl rfl (hb hby d_jdk_52_method_21_31)
        have V524 : Arv Z h524 dd kd .byte (3 : Int32) [(.int (nar .byte (c0.toInt8.toInt32))), (.int (nar .byte (c1.toInt8.toInt32))), (.int (nar .byte (c2.toInt8.toInt32)))] (.int (0 : Int32)) := Arv.set Ar524 q524 S524 Nn524 Hh524 Gg524 (fits_nar_byte _) W524 2 rfl (Nat.le_of_ble_eq_true rfl)
        have N524 := Fr.snoc X524 N500 ge_dd
        have K525 : Go p e below T524 (mkF m 32 #[.val (.ref b), .val (.int (2 : Int32)), .val (.ref dd), .val (.int (2 : Int32)), .val (.int (3 : Int32)), .val (.int (2 : Int32)), .val (.int c2)] []) G := fun tq kq => K523 tq (st524 tq kq)
        have K526 : Go p e below T524 (mkF m 35 #[.val (.ref b), .val (.int (3 : Int32)), .val (.ref dd), .val (.int (2 : Int32)), .val (.int (3 : Int32)), .val (.int (2 : Int32)), .val (.int c2)] []) G := fun tq kq => K525 tq (XS.iinc X524.here hx rfl (hb hby d_jdk_52_method_21_32) rfl (l' := #[.val (.ref b), .val (.int (3 : Int32)), .val (.ref dd), .val (.int (2 : Int32)), .val (.int (3 : Int32)), .val (.int (2 : Int32)), .val (.int c2)]) rfl kq)
        have K527 : Go p e below T524 (mkF m 38 #[.val (.ref b), .val (.int (3 : Int32)), .val (.ref dd), .val (.int (3 : Int32)), .val (.int (3 : Int32)), .val (.int (2 : Int32)), .val (.int c2)] []) G := fun tq kq => K526 tq (XS.iinc X524.here hx rfl (hb hby d_jdk_52_method_21_35) rfl (l' := #[.val (.ref b), .val (.int (3 : Int32)), .val (.ref dd), .val (.int (3 : Int32)), .val (.int (3 : Int32)), .val (.int (2 : Int32)), .val (.int c2)]) rfl kq)
        have K528 : Go p e below T524 (mkF m 41 #[.val (.ref b), .val (.int (3 : Int32)), .val (.ref dd), .val (.int (3 : Int32)), .val (.int (3 : Int32)), .val (.int (3 : Int32)), .val (.int c2)] []) G := fun tq kq => K527 tq (XS.iinc X524.here hx rfl (hb hby d_jdk_52_method_21_38) rfl (l' := #[.val (.ref b), .val (.int (3 : Int32)), .val (.ref dd), .val (.int (3 : Int32)), .val (.int (3 : Int32)), .val (.int (3 : Int32)), .val (.int c2)]) rfl kq)
        have K529 : Go p e below T524 (mkF m 3 #[.val (.ref b), .val (.int (3 : Int32)), .val (.ref dd), .val (.int (3 : Int32)), .val (.int (3 : Int32)), .val (.int (3 : Int32)), .val (.int c2)] []) G := fun tq kq => K528 tq (XS.goto X524.here hx rfl (pc0 := 41) (pc' := 3) rfl (hb hby d_jdk_52_method_21_41) (by decide) (by decide) kq)
        have K530 : Go p e below T524 (mkF m 5 #[.val (.ref b), .val (.int (3 : Int32)), .val (.ref dd), .val (.int (3 : Int32)), .val (.int (3 : Int32)), .val (.int (3 : Int32)), .val (.int c2)] [(.int (3 : Int32))]) G := fun tq kq => K529 tq (XS.iload X524.here hx rfl (hb hby d_jdk_52_method_21_3) rfl kq)
        have K531 : Go p e below T524 (mkF m 7 #[.val (.ref b), .val (.int (3 : Int32)), .val (.ref dd), .val (.int (3 : Int32)), .val (.int (3 : Int32)), .val (.int (3 : Int32)), .val (.int c2)] [(.int (3 : Int32)), (.int (3 : Int32))]) G := fun tq kq => K530 tq (XS.iload X524.here hx rfl (hb hby d_jdk_52_method_21_5) rfl kq)
        have K532 : Go p e below T524 (mkF m 44 #[.val (.ref b), .val (.int (3 : Int32)), .val (.ref dd), .val (.int (3 : Int32)), .val (.int (3 : Int32)), .val (.int (3 : Int32)), .val (.int c2)] []) G := fun tq kq => K531 tq (XS.icmpYes X524.here hx rfl (pc0 := 7) (pc' := 44) rfl (hb hby d_jdk_52_method_21_7) rfl ((flt (by decide : ¬ ((3 : Int32) < (3 : Int32)))).2.1) (by decide) (by decide) kq)
        have K533 : Go p e below T524 (mkF m 46 #[.val (.ref b), .val (.int (3 : Int32)), .val (.ref dd), .val (.int (3 : Int32)), .val (.int (3 : Int32)), .val (.int (3 : Int32)), .val (.int c2)] [(.int (3 : Int32))]) G := fun tq kq => K532 tq (XS.iload X524.here hx rfl (hb hby d_jdk_52_method_21_44) rfl kq)
        exact absurd (by
          intro c hc
          simp only [List.mem_cons, List.not_mem_nil, or_false] at hc
          rcases hc with rfl | rfl | rfl
          · exact hc468
          · exact hc492
          · exact hc516) hwd
def QCM3 (Z : State) (b : Addr) (kc : ClassId) (c0 : Int32) (c1 : Int32) (c2 : Int32) (h0 : Heap) (n0 : Nat) (v : Option Value) (h : Heap) (L : List Loc) : Prop := ∃ (tb : Addr) (kb : ClassId), v = some (.ref tb) ∧ Fr n0 L ∧ Keep h0 h [] ∧ h0.size ≤ tb ∧ n0 ≤ tb ∧ Arv Z h tb kb .byte (6 : Int32) (StrChars.Road.wideBytes ([c0, c1, c2] : List Int32)) (.int (0 : Int32))
set_option maxRecDepth 65536 in
set_option maxHeartbeats 40000000 in
theorem rmCM3 (l : Launch) (Z : State) (a0 : Array Value) (hw : ∀ d ∈ tables_1, d.before a0 Z = true) (ws : List Jvm.Cond) (b : Addr) (kc : ClassId) (c0 : Int32) (c1 : Int32) (c2 : Int32) (h0 : Heap) (n0 : Nat) (Z0 : n0 ≤ h0.size) (O0 : Old Z n0 h0) (S_ad : Sta Z Z.heap "java/lang/StringUTF16" "$assertionsDisabled" "Z" (.int (1 : Int32))) (S_hi : Sta Z Z.heap "java/lang/StringUTF16" "HI_BYTE_SHIFT" "I" (.int (0 : Int32))) (S_lo : Sta Z Z.heap "java/lang/StringUTF16" "LO_BYTE_SHIFT" "I" (.int (8 : Int32))) (V_b : Arv Z h0 b kc .char (3 : Int32) [(.int c0), (.int c1), (.int c2)] (.int (0 : Int32))) (hwd : ¬ ∀ c ∈ ([c0, c1, c2] : List Int32), ¬ (255 : Int32) < c) (hb5 : ∀ c ∈ ([c0, c1, c2] : List Int32), ¬ c < 0 ∧ ¬ (65535 : Int32) < c) :
    MetFree l (⟨"java/lang/StringUTF16", "compress", "([CII)[B"⟩ : MethodName) (head1 (Jvm.Cond.code (⟨"java/lang/StringUTF16", "compress", "([CII)[B"⟩ : MethodName) jdk_52_method_16_code 6 (some (.array .byte)) :: ws) ({ frames := 3, cells := 2, slots := 9, locals := 40 } : Room)) (fun aa UU => aa = #[(.ref b), (.int (0 : Int32)), (.int (3 : Int32))] ∧ Z.Warmed39 UU.vm ∧ UU.heap = h0) (fun _ _ _ _ _ => True) (fun _ UU oo UU' => ∃ vv LL, oo = .returned vv ∧ QCM3 Z b kc c0 c1 c2 h0 n0 vv UU'.heap LL ∧ FrameEnd UU oo UU' LL ({ frames := 3, cells := 2, slots := 9, locals := 40 } : Room).cells ({ frames := 3, cells := 2, slots := 9, locals := 40 } : Room).slots) := by
  refine MetFree.of_bodySF (plainFor_of_name pn_41) hisR ?_
  intro p e s m args below meth c s₁ Bd hml0 hP hK
  obtain ⟨rfl, hZ, hh⟩ := hP
  have hx := Bd.exec
  have hby := Bd.bytes
  have hml : c.maxLocals = 6 := hml0
  have hown : s.vm.findClass "java/lang/StringUTF16" = some m.cls := findClass_of_methodNamed Bd.named
  have hnm := (name_of_methodNamed Bd.named Bd.method).1
  have hW : ∀ (k : Nat) (d : Jvm.Cond), tables_1[k]? = some d → d.before a0 Z = true := fun k d h => hw d (List.mem_of_getElem? h)
  have X0 : Stand p l e ({ frames := 3, cells := 2, slots := 9, locals := 40 } : Room) s m #[(.ref b), (.int (0 : Int32)), (.int (3 : Int32))] below meth c s₁ [] 0 0 := Stand.of_body Bd
  have e0 : s₁.heap = h0 := by rw [← hh, Bd.state]; rfl
  have N0 := Fr.nil n0
  obtain ⟨G, hG, K0⟩ : ∃ G : State → Prop, (∀ tq, G tq → Steps p.tables e below (s₁.setTop (entryFrame m #[(.ref b), (.int (0 : Int32)), (.int (3 : Int32))] 6)) tq) ∧ Go p e below s₁ (mkF m 0 #[.val (.ref b), .val (.int (0 : Int32)), .val (.int (3 : Int32)), .unset, .unset, .unset] []) G := ⟨fun tq => Steps p.tables e below (s₁.setTop (entryFrame m #[(.ref b), (.int (0 : Int32)), (.int (3 : Int32))] 6)) tq, fun _ h => h, fun tq kq => castTop (ef_jdk_52_method_16_RII m b (0 : Int32) (3 : Int32)) kq⟩
  have K534 : Go p e below s₁ (mkF m 1 #[.val (.ref b), .val (.int (0 : Int32)), .val (.int (3 : Int32)), .unset, .unset, .unset] [(.int (3 : Int32))]) G := fun tq kq => K0 tq (XS.iloadN X0.here hx rfl (hb hby d_jdk_52_method_16_0) rfl kq)
  obtain ⟨T535, h535, k535, X535, e535, E535, A535, st535⟩ := newP X0 hx hZ (hW 23 _ rfl) e0 (g := (mkF m 1 #[.val (.ref b), .val (.int (0 : Int32)), .val (.int (3 : Int32)), .unset, .unset, .unset] [(.int (3 : Int32))])) rfl (hb hby d_jdk_52_method_16_1) rfl (by decide) (cap := 3) (by decide) (by decide) (by decide) (by decide)
  obtain ⟨b535, g535⟩ : ∃ z, z = h0.size := ⟨_, rfl⟩
  rw [← g535] at A535 st535
  have ne535_b : b ≠ b535 := Nat.ne_of_lt (Nat.lt_of_lt_of_le V_b.lt (Nat.le_of_eq g535.symm))
  have ge_b535 : n0 ≤ b535 := Nat.le_trans Z0 (Nat.le_of_eq g535.symm)
  have sz_b535 : h0.size ≤ b535 := Nat.le_trans ((Keep.refl h0 [])).1 (Nat.le_of_eq g535.symm)
  have V535 : Arv Z h535 b535 k535 .byte (3 : Int32) [(.int (0 : Int32)), (.int (0 : Int32)), (.int (0 : Int32))] (.int (0 : Int32)) := (Arv.new A535 (by decide)).pad (pad_rep [] (.int (0 : Int32)) 3)
  have K536 : Go p e below T535 (mkF m 3 #[.val (.ref b), .val (.int (0 : Int32)), .val (.int (3 : Int32)), .unset, .unset, .unset] [(.ref b535)]) G := fun tq kq => K534 tq (st535 tq kq)
  have K537 : Go p e below T535 (mkF m 4 #[.val (.ref b), .val (.int (0 : Int32)), .val (.int (3 : Int32)), .val (.ref b535), .unset, .unset] []) G := fun tq kq => K536 tq (XS.astoreN X535.here hx rfl (hb hby d_jdk_52_method_16_3) rfl rfl (l' := #[.val (.ref b), .val (.int (0 : Int32)), .val (.int (3 : Int32)), .val (.ref b535), .unset, .unset]) rfl kq)
  have K538 : Go p e below T535 (mkF m 5 #[.val (.ref b), .val (.int (0 : Int32)), .val (.int (3 : Int32)), .val (.ref b535), .unset, .unset] [(.ref b)]) G := fun tq kq => K537 tq (XS.aloadN X535.here hx rfl (hb hby d_jdk_52_method_16_4) rfl rfl kq)
  have K539 : Go p e below T535 (mkF m 6 #[.val (.ref b), .val (.int (0 : Int32)), .val (.int (3 : Int32)), .val (.ref b535), .unset, .unset] [(.int (0 : Int32)), (.ref b)]) G := fun tq kq => K538 tq (XS.iloadN X535.here hx rfl (hb hby d_jdk_52_method_16_5) rfl kq)
  have K540 : Go p e below T535 (mkF m 7 #[.val (.ref b), .val (.int (0 : Int32)), .val (.int (3 : Int32)), .val (.ref b535), .unset, .unset] [(.ref b535), (.int (0 : Int32)), (.ref b)]) G := fun tq kq => K539 tq (XS.aloadN X535.here hx rfl (hb hby d_jdk_52_method_16_6) rfl rfl kq)
  have K541 : Go p e below T535 (mkF m 8 #[.val (.ref b), .val (.int (0 : Int32)), .val (.int (3 : Int32)), .val (.ref b535), .unset, .unset] [(.int (0 : Int32)), (.ref b535), (.int (0 : Int32)), (.ref b)]) G := fun tq kq => K540 tq (XS.iconst X535.here hx rfl (hb hby d_jdk_52_method_16_7) kq)
  have K542 : Go p e below T535 (mkF m 9 #[.val (.ref b), .val (.int (0 : Int32)), .val (.int (3 : Int32)), .val (.ref b535), .unset, .unset] [(.int (3 : Int32)), (.int (0 : Int32)), (.ref b535), (.int (0 : Int32)), (.ref b)]) G := fun tq kq => K541 tq (XS.iloadN X535.here hx rfl (hb hby d_jdk_52_method_16_8) rfl kq)
  obtain ⟨v543, _, ⟨T543, L543, k543, n543⟩, -, X543, ⟨Lc543, hQ543, l543, y543, z543⟩, st543⟩ := Jvm.LawKit.callS X535 hx (y := (⟨"java/lang/StringUTF16", "compress", "([CI[BII)I"⟩ : MethodName)) hown (mvT hZ (hW 49 _ rfl)) (mvT hZ (hW 50 _ rfl)) (mvT hZ (hW 47 _ rfl)) (mvT hZ (hW 51 _ rfl)) (by decide) (backOf (W := 0) (rmCP3 l Z a0 hw [] b b535 kc k535 c0 c1 c2 h535 n0 (Nat.le_trans Z0 E535.1) ge_b535 ne535_b (V_b.ext E535) V535 hwd) hZ (hW 51 _ rfl) (hW 47 _ rfl) (by decide) (by decide)) (g := (mkF m 9 #[.val (.ref b), .val (.int (0 : Int32)), .val (.int (3 : Int32)), .val (.ref b535), .unset, .unset] [(.int (3 : Int32)), (.int (0 : Int32)), (.ref b535), (.int (0 : Int32)), (.ref b)])) rfl (by rw [hml]; rfl) (argsL := [(.ref b), (.int (0 : Int32)), (.ref b535), (.int (0 : Int32)), (.int (3 : Int32))]) (rest := []) (lenOf pd_155 rfl) rfl (by show 2 * 0 + _ ≤ _; exact Nat.le_of_eq rfl) (hb hby d_jdk_52_method_16_9) (fun _ _ => ⟨rfl, e535, (by decide : 1 + 0 ≤ _), (by decide : 3 + 0 ≤ _)⟩)
  dsimp only [Pt.U, Pt.locs, Pt.cells, Pt.slots] at X543 l543 y543 z543 st543 hQ543
  subst l543 y543 z543
  obtain ⟨j, rfl, hj, hgt, N543q, K543q⟩ := hQ543
  have N543 := Fr.app N0 N543q
  have hjn : ¬ ((Int32.ofNat j) = (3 : Int32)) := own_jn j 3 hj (by decide)
  have K544 : Go p e below T543 (mkF m 12 #[.val (.ref b), .val (.int (0 : Int32)), .val (.int (3 : Int32)), .val (.ref b535), .unset, .unset] [(.int (Int32.ofNat j))]) G := fun tq kq => K542 tq (st543 tq kq)
  have K545 : Go p e below T543 (mkF m 14 #[.val (.ref b), .val (.int (0 : Int32)), .val (.int (3 : Int32)), .val (.ref b535), .val (.int (Int32.ofNat j)), .unset] []) G := fun tq kq => K544 tq (XS.istore X543.here hx rfl (hb hby d_jdk_52_method_16_12) rfl (l' := #[.val (.ref b), .val (.int (0 : Int32)), .val (.int (3 : Int32)), .val (.ref b535), .val (.int (Int32.ofNat j)), .unset]) rfl kq)
  have K546 : Go p e below T543 (mkF m 16 #[.val (.ref b), .val (.int (0 : Int32)), .val (.int (3 : Int32)), .val (.ref b535), .val (.int (Int32.ofNat j)), .unset] [(.int (Int32.ofNat j))]) G := fun tq kq => K545 tq (XS.iload X543.here hx rfl (hb hby d_jdk_52_method_16_14) rfl kq)
  have K547 : Go p e below T543 (mkF m 17 #[.val (.ref b), .val (.int (0 : Int32)), .val (.int (3 : Int32)), .val (.ref b535), .val (.int (Int32.ofNat j)), .unset] [(.int (3 : Int32)), (.int (Int32.ofNat j))]) G := fun tq kq => K546 tq (XS.iloadN X543.here hx rfl (hb hby d_jdk_52_method_16_16) rfl kq)
  have K548 : Go p e below T543 (mkF m 20 #[.val (.ref b), .val (.int (0 : Int32)), .val (.int (3 : Int32)), .val (.ref b535), .val (.int (Int32.ofNat j)), .unset] []) G := fun tq kq => K547 tq (XS.icmpNo X543.here hx rfl (hb hby d_jdk_52_method_16_17) rfl ((feq hjn).1) kq)
  have K549 : Go p e below T543 (mkF m 21 #[.val (.ref b), .val (.int (0 : Int32)), .val (.int (3 : Int32)), .val (.ref b535), .val (.int (Int32.ofNat j)), .unset] [(.ref b)]) G := fun tq kq => K548 tq (XS.aloadN X543.here hx rfl (hb hby d_jdk_52_method_16_20) rfl rfl kq)
  have K550 : Go p e below T543 (mkF m 22 #[.val (.ref b), .val (.int (0 : Int32)), .val (.int (3 : Int32)), .val (.ref b535), .val (.int (Int32.ofNat j)), .unset] [(.int (0 : Int32)), (.ref b)]) G := fun tq kq => K549 tq (XS.iloadN X543.here hx rfl (hb hby d_jdk_52_method_16_21) rfl kq)
  have K551 : Go p e below T543 (mkF m 23 #[.val (.ref b), .val (.int (0 : Int32)), .val (.int (3 : Int32)), .val (.ref b535), .val (.int (Int32.ofNat j)), .unset] [(.int (3 : Int32)), (.int (0 : Int32)), (.ref b)]) G := fun tq kq => K550 tq (XS.iloadN X543.here hx rfl (hb hby d_jdk_52_method_16_22) rfl kq)
  obtain ⟨v552, _, ⟨T552, L552, k552, n552⟩, -, X552, ⟨Lc552, hQ552, l552, y552, z552⟩, st552⟩ := Jvm.LawKit.callS X543 hx (y := (⟨"java/lang/StringUTF16", "toBytes", "([CII)[B"⟩ : MethodName)) hown (mvT hZ (hW 80 _ rfl)) (mvT hZ (hW 81 _ rfl)) (mvT hZ (hW 47 _ rfl)) (mvT hZ (hW 82 _ rfl)) (by decide) (backOf (W := 0) (rmTB3 l Z a0 hw [] b kc c0 c1 c2 T543.heap n0 (Nat.le_trans (Nat.le_trans Z0 E535.1) K543q.1) ((O0.ext E535).keep K543q (allS ge_b535 all0)) S_ad S_hi S_lo ((V_b.ext E535).keep K543q (ninS ne535_b nin0))) hZ (hW 82 _ rfl) (hW 47 _ rfl) (by decide) (by decide)) (g := (mkF m 23 #[.val (.ref b), .val (.int (0 : Int32)), .val (.int (3 : Int32)), .val (.ref b535), .val (.int (Int32.ofNat j)), .unset] [(.int (3 : Int32)), (.int (0 : Int32)), (.ref b)])) rfl (by rw [hml]; rfl) (argsL := [(.ref b), (.int (0 : Int32)), (.int (3 : Int32))]) (rest := []) (lenOf pd_156 rfl) rfl (by show 2 * 0 + _ ≤ _; exact Nat.le_of_eq rfl) (hb hby d_jdk_52_method_16_23) (fun _ _ => ⟨rfl, rfl, (by decide : 1 + 1 ≤ _), (by decide : 3 + 6 ≤ _)⟩)
  dsimp only [Pt.U, Pt.locs, Pt.cells, Pt.slots] at X552 l552 y552 z552 st552 hQ552
  subst l552 y552 z552
  obtain ⟨tb552, kb552, rfl, N552q, K552q, sz552, ge552, V552q⟩ := hQ552
  have N552 := Fr.app N543 N552q
  have na553 : b ≠ tb552 := Nat.ne_of_lt (Nat.lt_of_lt_of_le ((V_b.ext E535).keep K543q (ninS ne535_b nin0)).lt sz552)
  have sb552 := Nat.le_trans ((((Keep.refl h0 []).ext E535).trans K543q (allS (Or.inr sz_b535) all0))).1 sz552
  have K554 : Go p e below T552 (mkF m 26 #[.val (.ref b), .val (.int (0 : Int32)), .val (.int (3 : Int32)), .val (.ref b535), .val (.int (Int32.ofNat j)), .unset] [(.ref tb552)]) G := fun tq kq => K551 tq (st552 tq kq)
  have K555 : Go p e below T552 (mkF m 28 #[.val (.ref b), .val (.int (0 : Int32)), .val (.int (3 : Int32)), .val (.ref b535), .val (.int (Int32.ofNat j)), .val (.ref tb552)] []) G := fun tq kq => K554 tq (XS.astore X552.here hx rfl (hb hby d_jdk_52_method_16_26) rfl rfl (l' := #[.val (.ref b), .val (.int (0 : Int32)), .val (.int (3 : Int32)), .val (.ref b535), .val (.int (Int32.ofNat j)), .val (.ref tb552)]) rfl kq)
  have K556 : Go p e below T552 (mkF m 30 #[.val (.ref b), .val (.int (0 : Int32)), .val (.int (3 : Int32)), .val (.ref b535), .val (.int (Int32.ofNat j)), .val (.ref tb552)] [(.ref tb552)]) G := fun tq kq => K555 tq (XS.aload X552.here hx rfl (hb hby d_jdk_52_method_16_28) rfl rfl kq)
  have K557 : Go p e below T552 (mkF m 32 #[.val (.ref b), .val (.int (0 : Int32)), .val (.int (3 : Int32)), .val (.ref b535), .val (.int (Int32.ofNat j)), .val (.ref tb552)] [(.int (Int32.ofNat j)), (.ref tb552)]) G := fun tq kq => K556 tq (XS.iload X552.here hx rfl (hb hby d_jdk_52_method_16_30) rfl kq)
  obtain ⟨v558, _, ⟨T558, L558, k558, n558⟩, -, X558, ⟨Lc558, hQ558, l558, y558, z558⟩, st558⟩ := Jvm.LawKit.callS X552 hx (y := (⟨"java/lang/StringUTF16", "getChar", "([BI)C"⟩ : MethodName)) hown (mvT hZ (hW 96 _ rfl)) (mvT hZ (hW 97 _ rfl)) (mvT hZ (hW 47 _ rfl)) (mvT hZ (hW 98 _ rfl)) (by decide) (backOf (W := 0) (rmGC l Z a0 hw [] tb552 kb552 (6 : Int32) (StrChars.Road.wideBytes ([c0, c1, c2] : List Int32)) (Int32.ofNat j) j (([c0, c1, c2] : List Int32).getD j 0) T552.heap n0 (Nat.le_trans (Nat.le_trans (Nat.le_trans Z0 E535.1) K543q.1) K552q.1) (((O0.ext E535).keep K543q (allS ge_b535 all0)).keep K552q all0) S_ad S_hi S_lo V552q (own_ixn j 3 hj (by decide)) (StrChars.Road.wide_lo _ ([c0, c1, c2] : List Int32) j hj) (StrChars.Road.wide_hi _ ([c0, c1, c2] : List Int32) j hj) (own_getR hb5 j hj)) hZ (hW 98 _ rfl) (hW 47 _ rfl) (by decide) (by decide)) (g := (mkF m 32 #[.val (.ref b), .val (.int (0 : Int32)), .val (.int (3 : Int32)), .val (.ref b535), .val (.int (Int32.ofNat j)), .val (.ref tb552)] [(.int (Int32.ofNat j)), (.ref tb552)])) rfl (by rw [hml]; rfl) (argsL := [(.ref tb552), (.int (Int32.ofNat j))]) (rest := []) (lenOf pd_157 rfl) rfl (by show 2 * 0 + _ ≤ _; exact Nat.le_of_eq rfl) (hb hby d_jdk_52_method_16_32) (fun _ _ => ⟨rfl, rfl, (by decide : 2 + 0 ≤ _), (by decide : 9 + 0 ≤ _)⟩)
  dsimp only [Pt.U, Pt.locs, Pt.cells, Pt.slots] at X558 l558 y558 z558 st558 hQ558
  subst l558 y558 z558
  obtain ⟨rfl, N558q, E558q⟩ := hQ558
  have N558 := Fr.app N552 N558q
  have K559 : Go p e below T558 (mkF m 35 #[.val (.ref b), .val (.int (0 : Int32)), .val (.int (3 : Int32)), .val (.ref b535), .val (.int (Int32.ofNat j)), .val (.ref tb552)] [(.int (([c0, c1, c2] : List Int32).getD j 0))]) G := fun tq kq => K557 tq (st558 tq kq)
  have K560 : Go p e below T558 (mkF m 38 #[.val (.ref b), .val (.int (0 : Int32)), .val (.int (3 : Int32)), .val (.ref b535), .val (.int (Int32.ofNat j)), .val (.ref tb552)] [(.int (255 : Int32)), (.int (([c0, c1, c2] : List Int32).getD j 0))]) G := fun tq kq => K559 tq (XS.sipush X558.here hx rfl (hb hby d_jdk_52_method_16_35) kq)
  have K561 : Go p e below T558 (mkF m 54 #[.val (.ref b), .val (.int (0 : Int32)), .val (.int (3 : Int32)), .val (.ref b535), .val (.int (Int32.ofNat j)), .val (.ref tb552)] []) G := fun tq kq => K560 tq (XS.icmpYes X558.here hx rfl (pc0 := 38) (pc' := 54) rfl (hb hby d_jdk_52_method_16_38) rfl ((tlt hgt).2.2.1) (by decide) (by decide) kq)
  have K562 : Go p e below T558 (mkF m 56 #[.val (.ref b), .val (.int (0 : Int32)), .val (.int (3 : Int32)), .val (.ref b535), .val (.int (Int32.ofNat j)), .val (.ref tb552)] [(.ref tb552)]) G := fun tq kq => K561 tq (XS.aload X558.here hx rfl (hb hby d_jdk_52_method_16_54) rfl rfl kq)
  obtain ⟨fs, hr, hrun, hended, hWW, hsame⟩ := X558.leave (v := some (.ref tb552)) (fun h => by rw [Bd.returns] at h; cases h)
  refine ⟨_, _, hG _ (K562 _ (retOut X558 hx Bd.returns rfl (Or.inr (Or.inr (Or.inr (Or.inr ⟨rfl, rfl, rfl⟩)))) (hb hby d_jdk_52_method_16_56) hr)), hrun, hended, _, _, rfl, ?_, ⟨_, rfl⟩, hWW, hsame.mono (by decide) (by decide)⟩
  show QCM3 Z b kc c0 c1 c2 h0 n0 _ T558.heap _
  rw [E558q]
  exact ⟨tb552, _, rfl, N558, ((((Keep.refl h0 []).ext E535).trans K543q (allS (Or.inr sz_b535) all0)).trans K552q all0), sb552, ge552, V552q⟩
def QCF3 (Z : State) (tb : Addr) (kb : ClassId) (vs : List Value) (h0 : Heap) (n0 : Nat) (v : Option Value) (h : Heap) (L : List Loc) : Prop := v = some (.int (1 : Int32)) ∧ Fr n0 L ∧ h = h0
set_option maxRecDepth 65536 in
set_option maxHeartbeats 40000000 in
theorem rmCF3 (l : Launch) (Z : State) (a0 : Array Value) (hw : ∀ d ∈ tables_1, d.before a0 Z = true) (ws : List Jvm.Cond) (tb : Addr) (kb : ClassId) (vs : List Value) (h0 : Heap) (n0 : Nat) (Z0 : n0 ≤ h0.size) (V_tb : Arv Z h0 tb kb .byte (6 : Int32) vs (.int (0 : Int32))) :
    MetFree l (⟨"java/lang/StringUTF16", "coderFromArrayLen", "([BI)B"⟩ : MethodName) (head1 (Jvm.Cond.code (⟨"java/lang/StringUTF16", "coderFromArrayLen", "([BI)B"⟩ : MethodName) jdk_52_method_15_code 2 (some .byte) :: ws) ({ frames := 0, cells := 0, slots := 0, locals := 0 } : Room)) (fun aa UU => aa = #[(.ref tb), (.int (3 : Int32))] ∧ Z.Warmed39 UU.vm ∧ UU.heap = h0) (fun _ _ _ _ _ => True) (fun _ UU oo UU' => ∃ vv LL, oo = .returned vv ∧ QCF3 Z tb kb vs h0 n0 vv UU'.heap LL ∧ FrameEnd UU oo UU' LL ({ frames := 0, cells := 0, slots := 0, locals := 0 } : Room).cells ({ frames := 0, cells := 0, slots := 0, locals := 0 } : Room).slots) := by
  refine MetFree.of_bodySF (plainFor_of_name pn_41) hisR ?_
  intro p e s m args below meth c s₁ Bd hml0 hP hK
  obtain ⟨rfl, hZ, hh⟩ := hP
  have hx := Bd.exec
  have hby := Bd.bytes
  have hml : c.maxLocals = 2 := hml0
  have hown : s.vm.findClass "java/lang/StringUTF16" = some m.cls := findClass_of_methodNamed Bd.named
  have hnm := (name_of_methodNamed Bd.named Bd.method).1
  have hW : ∀ (k : Nat) (d : Jvm.Cond), tables_1[k]? = some d → d.before a0 Z = true := fun k d h => hw d (List.mem_of_getElem? h)
  have X0 : Stand p l e ({ frames := 0, cells := 0, slots := 0, locals := 0 } : Room) s m #[(.ref tb), (.int (3 : Int32))] below meth c s₁ [] 0 0 := Stand.of_body Bd
  have e0 : s₁.heap = h0 := by rw [← hh, Bd.state]; rfl
  have N0 := Fr.nil n0
  obtain ⟨G, hG, K0⟩ : ∃ G : State → Prop, (∀ tq, G tq → Steps p.tables e below (s₁.setTop (entryFrame m #[(.ref tb), (.int (3 : Int32))] 2)) tq) ∧ Go p e below s₁ (mkF m 0 #[.val (.ref tb), .val (.int (3 : Int32))] []) G := ⟨fun tq => Steps p.tables e below (s₁.setTop (entryFrame m #[(.ref tb), (.int (3 : Int32))] 2)) tq, fun _ h => h, fun tq kq => castTop (ef_jdk_52_method_15_RI m tb (3 : Int32)) kq⟩
  have K563 : Go p e below s₁ (mkF m 1 #[.val (.ref tb), .val (.int (3 : Int32))] [(.int (3 : Int32))]) G := fun tq kq => K0 tq (XS.iloadN X0.here hx rfl (hb hby d_jdk_52_method_15_0) rfl kq)
  have K564 : Go p e below s₁ (mkF m 2 #[.val (.ref tb), .val (.int (3 : Int32))] [(.ref tb), (.int (3 : Int32))]) G := fun tq kq => K563 tq (XS.aloadN X0.here hx rfl (hb hby d_jdk_52_method_15_1) rfl rfl kq)
  obtain ⟨cl565, Ar565, q565, S565, Nn565, Hh565, Gg565⟩ := id V_tb
  have K566 : Go p e below s₁ (mkF m 3 #[.val (.ref tb), .val (.int (3 : Int32))] [(.int (6 : Int32)), (.int (3 : Int32))]) G := fun tq kq => K564 tq (X0.arraylength hx (by rw [e0]; exact Ar565.1) (State.isArrayOf_alike hZ.alike Ar565.2.1) (g := (mkF m 2 #[.val (.ref tb), .val (.int (3 : Int32))] [(.ref tb), (.int (3 : Int32))])) rfl rfl (hb hby d_jdk_52_method_15_2) _ (by rw [len_of S565 Nn565]; exact kq))
  have K567 : Go p e below s₁ (mkF m 4 #[.val (.ref tb), .val (.int (3 : Int32))] [(.int (-3 : Int32))]) G := fun tq kq => K566 tq (XS.isub X0.here hx rfl (hb hby d_jdk_52_method_15_3) rfl kq)
  have K568 : Go p e below s₁ (mkF m 6 #[.val (.ref tb), .val (.int (3 : Int32))] [(.int (31 : Int32)), (.int (-3 : Int32))]) G := fun tq kq => K567 tq (XS.bipush X0.here hx rfl (hb hby d_jdk_52_method_15_4) kq)
  have K569 : Go p e below s₁ (mkF m 7 #[.val (.ref tb), .val (.int (3 : Int32))] [(.int (((-3 : Int32).toUInt32 >>> ((31 : Int32) &&& 31).toUInt32).toInt32))]) G := fun tq kq => K568 tq (XS.iushr X0.here hx rfl (hb hby d_jdk_52_method_15_6) rfl kq)
  have K570 : Go p e below s₁ (mkF m 8 #[.val (.ref tb), .val (.int (3 : Int32))] [(.int ((((-3 : Int32).toUInt32 >>> ((31 : Int32) &&& 31).toUInt32).toInt32).toInt8.toInt32))]) G := fun tq kq => K569 tq (XS.i2b X0.here hx rfl (hb hby d_jdk_52_method_15_7) rfl kq)
  obtain ⟨fs, hr, hrun, hended, hWW, hsame⟩ := X0.leave (v := some (.int (nar .byte ((((-3 : Int32).toUInt32 >>> ((31 : Int32) &&& 31).toUInt32).toInt32).toInt8.toInt32)))) (fun h => by rw [Bd.returns] at h; cases h)
  refine ⟨_, _, hG _ (K570 _ (retN X0 hx (t := .byte) Bd.returns (by simp) (hb hby d_jdk_52_method_15_8) hr)), hrun, hended, _, _, rfl, ?_, ⟨_, rfl⟩, hWW, hsame.mono (by decide) (by decide)⟩
  show QCF3 Z tb kb vs h0 n0 _ s₁.heap _
  rw [e0]
  exact ⟨congrArg (fun z => some (Value.int z)) (by decide), N0, rfl⟩
def QN4w3 (Z : State) (a : Addr) (b : Addr) (kc : ClassId) (c0 : Int32) (c1 : Int32) (c2 : Int32) (cz : Int32) (h0 : Heap) (n0 : Nat) (v : Option Value) (h : Heap) (L : List Loc) : Prop := v = none ∧ Fr n0 L ∧ Keep h0 h [a] ∧ Exa Z h a "java/lang/String" ∧ Fld Z h a "java/lang/String" "coder" "B" (.int (1 : Int32)) ∧ ∃ (tb : Addr) (kb : ClassId), tb ≠ a ∧ Fld Z h a "java/lang/String" "value" "[B" (.ref tb) ∧ Arv Z h tb kb .byte (6 : Int32) (StrChars.Road.wideBytes ([c0, c1, c2] : List Int32)) (.int (0 : Int32))
set_option maxRecDepth 65536 in
set_option maxHeartbeats 40000000 in
theorem rmN4w3 (l : Launch) (Z : State) (a0 : Array Value) (hw : ∀ d ∈ tables_1, d.before a0 Z = true) (ws : List Jvm.Cond) (a : Addr) (b : Addr) (kc : ClassId) (c0 : Int32) (c1 : Int32) (c2 : Int32) (cz : Int32) (h0 : Heap) (n0 : Nat) (Z0 : n0 ≤ h0.size) (F_value_a : Fld Z h0 a "java/lang/String" "value" "[B" .null) (F_coder_a : Fld Z h0 a "java/lang/String" "coder" "B" (.int (0 : Int32))) (E_a : Exa Z h0 a "java/lang/String") (ge_a : n0 ≤ a) (O0 : Old Z n0 h0) (S_cs : Sta Z Z.heap "java/lang/String" "COMPACT_STRINGS" "Z" (.int cz)) (hcz : ¬ cz = 0) (S_ad : Sta Z Z.heap "java/lang/StringUTF16" "$assertionsDisabled" "Z" (.int (1 : Int32))) (S_hi : Sta Z Z.heap "java/lang/StringUTF16" "HI_BYTE_SHIFT" "I" (.int (0 : Int32))) (S_lo : Sta Z Z.heap "java/lang/StringUTF16" "LO_BYTE_SHIFT" "I" (.int (8 : Int32))) (V_b : Arv Z h0 b kc .char (3 : Int32) [(.int c0), (.int c1), (.int c2)] (.int (0 : Int32))) (hwd : ¬ ∀ c ∈ ([c0, c1, c2] : List Int32), ¬ (255 : Int32) < c) (hb5 : ∀ c ∈ ([c0, c1, c2] : List Int32), ¬ c < 0 ∧ ¬ (65535 : Int32) < c) :
    MetFree l (⟨"java/lang/String", "<init>", "([CIILjava/lang/Void;)V"⟩ : MethodName) (head1 (Jvm.Cond.code (⟨"java/lang/String", "<init>", "([CIILjava/lang/Void;)V"⟩ : MethodName) jdk_42_method_149_code 6 none :: ws) ({ frames := 4, cells := 2, slots := 9, locals := 57 } : Room)) (fun aa UU => aa = #[(.ref a), (.ref b), (.int (0 : Int32)), (.int (3 : Int32)), .null] ∧ Z.Warmed39 UU.vm ∧ UU.heap = h0) (fun _ _ _ _ _ => True) (fun _ UU oo UU' => ∃ vv LL, oo = .returned vv ∧ QN4w3 Z a b kc c0 c1 c2 cz h0 n0 vv UU'.heap LL ∧ FrameEnd UU oo UU' LL ({ frames := 4, cells := 2, slots := 9, locals := 57 } : Room).cells ({ frames := 4, cells := 2, slots := 9, locals := 57 } : Room).slots) := by
  refine MetFree.of_bodySF (plainFor_of_name pn_0) hisR ?_
  intro p e s m args below meth c s₁ Bd hml0 hP hK
  obtain ⟨rfl, hZ, hh⟩ := hP
  have hx := Bd.exec
  have hby := Bd.bytes
  have hml : c.maxLocals = 6 := hml0
  have hown : s.vm.findClass "java/lang/String" = some m.cls := findClass_of_methodNamed Bd.named
  have hnm := (name_of_methodNamed Bd.named Bd.method).1
  have hW : ∀ (k : Nat) (d : Jvm.Cond), tables_1[k]? = some d → d.before a0 Z = true := fun k d h => hw d (List.mem_of_getElem? h)
  have X0 : Stand p l e ({ frames := 4, cells := 2, slots := 9, locals := 57 } : Room) s m #[(.ref a), (.ref b), (.int (0 : Int32)), (.int (3 : Int32)), .null] below meth c s₁ [] 0 0 := Stand.of_body Bd
  have e0 : s₁.heap = h0 := by rw [← hh, Bd.state]; rfl
  have N0 := Fr.nil n0
  obtain ⟨G, hG, K0⟩ : ∃ G : State → Prop, (∀ tq, G tq → Steps p.tables e below (s₁.setTop (entryFrame m #[(.ref a), (.ref b), (.int (0 : Int32)), (.int (3 : Int32)), .null] 6)) tq) ∧ Go p e below s₁ (mkF m 0 #[.val (.ref a), .val (.ref b), .val (.int (0 : Int32)), .val (.int (3 : Int32)), .val .null, .unset] []) G := ⟨fun tq => Steps p.tables e below (s₁.setTop (entryFrame m #[(.ref a), (.ref b), (.int (0 : Int32)), (.int (3 : Int32)), .null] 6)) tq, fun _ h => h, fun tq kq => castTop (ef_jdk_42_method_149_RRIIN m a b (0 : Int32) (3 : Int32)) kq⟩
  have K571 : Go p e below s₁ (mkF m 1 #[.val (.ref a), .val (.ref b), .val (.int (0 : Int32)), .val (.int (3 : Int32)), .val .null, .unset] [(.ref a)]) G := fun tq kq => K0 tq (XS.aloadN X0.here hx rfl (hb hby d_jdk_42_method_149_0) rfl rfl kq)
  obtain ⟨T572, X572, e572, st572⟩ := initO X0 hx hZ hown (hW 19 _ rfl) (hW 20 _ rfl) (hW 21 _ rfl) e0 (g := (mkF m 1 #[.val (.ref a), .val (.ref b), .val (.int (0 : Int32)), .val (.int (3 : Int32)), .val .null, .unset] [(.ref a)])) rfl (by rw [hml]; rfl) rfl (hb hby d_jdk_42_method_149_1) (by decide) (W := 0) (by show 2 * 0 + _ ≤ _; exact Nat.le_of_eq rfl) (by decide)
  have K573 : Go p e below T572 (mkF m 4 #[.val (.ref a), .val (.ref b), .val (.int (0 : Int32)), .val (.int (3 : Int32)), .val .null, .unset] []) G := fun tq kq => K571 tq (st572 tq kq)
  have K574 : Go p e below T572 (mkF m 5 #[.val (.ref a), .val (.ref b), .val (.int (0 : Int32)), .val (.int (3 : Int32)), .val .null, .unset] [(.int (3 : Int32))]) G := fun tq kq => K573 tq (XS.iloadN X572.here hx rfl (hb hby d_jdk_42_method_149_4) rfl kq)
  have K575 : Go p e below T572 (mkF m 27 #[.val (.ref a), .val (.ref b), .val (.int (0 : Int32)), .val (.int (3 : Int32)), .val .null, .unset] []) G := fun tq kq => K574 tq (XS.ifYes X572.here hx rfl (pc0 := 5) (pc' := 27) rfl (hb hby d_jdk_42_method_149_5) rfl ((if0 _ _).trans (feq (by decide : ¬ ((3 : Int32) = (0 : Int32)))).2) (by decide) (by decide) kq)
  obtain ⟨T576, X576, e576, st576⟩ := getS2 X572 hx hZ hown (host := "") (Or.inl (hW 44 _ rfl)) Via.refl e572 (S_cs.ext O0.2) (g := (mkF m 27 #[.val (.ref a), .val (.ref b), .val (.int (0 : Int32)), .val (.int (3 : Int32)), .val .null, .unset] [])) rfl (hb hby d_jdk_42_method_149_27)
  have K577 : Go p e below T576 (mkF m 30 #[.val (.ref a), .val (.ref b), .val (.int (0 : Int32)), .val (.int (3 : Int32)), .val .null, .unset] [(.int cz)]) G := fun tq kq => K575 tq (st576 tq kq)
  have K578 : Go p e below T576 (mkF m 33 #[.val (.ref a), .val (.ref b), .val (.int (0 : Int32)), .val (.int (3 : Int32)), .val .null, .unset] []) G := fun tq kq => K577 tq (XS.ifNo X576.here hx rfl (hb hby d_jdk_42_method_149_30) rfl ((if0 _ _).trans (feq hcz).1) kq)
  have K579 : Go p e below T576 (mkF m 34 #[.val (.ref a), .val (.ref b), .val (.int (0 : Int32)), .val (.int (3 : Int32)), .val .null, .unset] [(.ref b)]) G := fun tq kq => K578 tq (XS.aloadN X576.here hx rfl (hb hby d_jdk_42_method_149_33) rfl rfl kq)
  have K580 : Go p e below T576 (mkF m 35 #[.val (.ref a), .val (.ref b), .val (.int (0 : Int32)), .val (.int (3 : Int32)), .val .null, .unset] [(.int (0 : Int32)), (.ref b)]) G := fun tq kq => K579 tq (XS.iloadN X576.here hx rfl (hb hby d_jdk_42_method_149_34) rfl kq)
  have K581 : Go p e below T576 (mkF m 36 #[.val (.ref a), .val (.ref b), .val (.int (0 : Int32)), .val (.int (3 : Int32)), .val .null, .unset] [(.int (3 : Int32)), (.int (0 : Int32)), (.ref b)]) G := fun tq kq => K580 tq (XS.iloadN X576.here hx rfl (hb hby d_jdk_42_method_149_35) rfl kq)
  obtain ⟨v582, _, ⟨T582, L582, k582, n582⟩, -, X582, ⟨Lc582, hQ582, l582, y582, z582⟩, st582⟩ := Jvm.LawKit.callS X576 hx (y := (⟨"java/lang/StringUTF16", "compress", "([CII)[B"⟩ : MethodName)) hown (mvT hZ (hW 45 _ rfl)) (mvT hZ (hW 46 _ rfl)) (mvT hZ (hW 47 _ rfl)) (mvT hZ (hW 48 _ rfl)) (by decide) (backOf (W := 0) (rmCM3 l Z a0 hw [] b kc c0 c1 c2 h0 n0 Z0 O0 S_ad S_hi S_lo V_b hwd hb5) hZ (hW 48 _ rfl) (hW 47 _ rfl) (by decide) (by decide)) (g := (mkF m 36 #[.val (.ref a), .val (.ref b), .val (.int (0 : Int32)), .val (.int (3 : Int32)), .val .null, .unset] [(.int (3 : Int32)), (.int (0 : Int32)), (.ref b)])) rfl (by rw [hml]; rfl) (argsL := [(.ref b), (.int (0 : Int32)), (.int (3 : Int32))]) (rest := []) (lenOf pd_156 rfl) rfl (by show 2 * 0 + _ ≤ _; exact Nat.le_of_eq rfl) (hb hby d_jdk_42_method_149_36) (fun _ _ => ⟨rfl, e576, (by decide : 0 + 2 ≤ _), (by decide : 0 + 9 ≤ _)⟩)
  dsimp only [Pt.U, Pt.locs, Pt.cells, Pt.slots] at X582 l582 y582 z582 st582 hQ582
  subst l582 y582 z582
  obtain ⟨tb582, kb582, rfl, N582q, K582q, sz582, ge582, V582q⟩ := hQ582
  have N582 := Fr.app N0 N582q
  have na583 : a ≠ tb582 := Nat.ne_of_lt (Nat.lt_of_lt_of_le F_value_a.lt sz582)
  have na584 : b ≠ tb582 := Nat.ne_of_lt (Nat.lt_of_lt_of_le V_b.lt sz582)
  have sb582 := Nat.le_trans ((Keep.refl h0 [a])).1 sz582
  have K585 : Go p e below T582 (mkF m 39 #[.val (.ref a), .val (.ref b), .val (.int (0 : Int32)), .val (.int (3 : Int32)), .val .null, .unset] [(.ref tb582)]) G := fun tq kq => K581 tq (st582 tq kq)
  have K586 : Go p e below T582 (mkF m 41 #[.val (.ref a), .val (.ref b), .val (.int (0 : Int32)), .val (.int (3 : Int32)), .val .null, .val (.ref tb582)] []) G := fun tq kq => K585 tq (XS.astore X582.here hx rfl (hb hby d_jdk_42_method_149_39) rfl rfl (l' := #[.val (.ref a), .val (.ref b), .val (.int (0 : Int32)), .val (.int (3 : Int32)), .val .null, .val (.ref tb582)]) rfl kq)
  have K587 : Go p e below T582 (mkF m 42 #[.val (.ref a), .val (.ref b), .val (.int (0 : Int32)), .val (.int (3 : Int32)), .val .null, .val (.ref tb582)] [(.ref a)]) G := fun tq kq => K586 tq (XS.aloadN X582.here hx rfl (hb hby d_jdk_42_method_149_41) rfl rfl kq)
  have K588 : Go p e below T582 (mkF m 44 #[.val (.ref a), .val (.ref b), .val (.int (0 : Int32)), .val (.int (3 : Int32)), .val .null, .val (.ref tb582)] [(.ref tb582), (.ref a)]) G := fun tq kq => K587 tq (XS.aload X582.here hx rfl (hb hby d_jdk_42_method_149_42) rfl rfl kq)
  have K589 : Go p e below T582 (mkF m 45 #[.val (.ref a), .val (.ref b), .val (.int (0 : Int32)), .val (.int (3 : Int32)), .val .null, .val (.ref tb582)] [(.int (3 : Int32)), (.ref tb582), (.ref a)]) G := fun tq kq => K588 tq (XS.iloadN X582.here hx rfl (hb hby d_jdk_42_method_149_44) rfl kq)
  obtain ⟨v590, _, ⟨T590, L590, k590, n590⟩, -, X590, ⟨Lc590, hQ590, l590, y590, z590⟩, st590⟩ := Jvm.LawKit.callS X582 hx (y := (⟨"java/lang/StringUTF16", "coderFromArrayLen", "([BI)B"⟩ : MethodName)) hown (mvT hZ (hW 52 _ rfl)) (mvT hZ (hW 53 _ rfl)) (mvT hZ (hW 47 _ rfl)) (mvT hZ (hW 54 _ rfl)) (by decide) (backOf (W := 1) (rmCF3 l Z a0 hw [] tb582 kb582 (StrChars.Road.wideBytes ([c0, c1, c2] : List Int32)) T582.heap n0 (Nat.le_trans Z0 K582q.1) V582q) hZ (hW 54 _ rfl) (hW 47 _ rfl) (by decide) (by decide)) (g := (mkF m 45 #[.val (.ref a), .val (.ref b), .val (.int (0 : Int32)), .val (.int (3 : Int32)), .val .null, .val (.ref tb582)] [(.int (3 : Int32)), (.ref tb582), (.ref a)])) rfl (by rw [hml]; rfl) (argsL := [(.ref tb582), (.int (3 : Int32))]) (rest := [(.ref a)]) (lenOf pd_192 rfl) rfl (by show 2 * 0 + _ ≤ _; exact Nat.le_of_eq rfl) (hb hby d_jdk_42_method_149_45) (fun _ _ => ⟨rfl, rfl, (by decide : 2 + 0 ≤ _), (by decide : 9 + 0 ≤ _)⟩)
  dsimp only [Pt.U, Pt.locs, Pt.cells, Pt.slots] at X590 l590 y590 z590 st590 hQ590
  subst l590 y590 z590
  obtain ⟨rfl, N590q, E590q⟩ := hQ590
  have N590 := Fr.app N582 N590q
  have K591 : Go p e below T590 (mkF m 48 #[.val (.ref a), .val (.ref b), .val (.int (0 : Int32)), .val (.int (3 : Int32)), .val .null, .val (.ref tb582)] [(.int (1 : Int32)), (.ref a)]) G := fun tq kq => K589 tq (st590 tq kq)
  obtain ⟨T592, h592, X592, e592, W592, st592⟩ := putFN X590 hx hZ hown (hW 29 _ rfl) Via.refl E590q (F_coder_a.keep K582q nin0) (E_a.keep K582q) (Or.inr ⟨(hW 25 _ rfl), rfl, hnm⟩) (hW 9 _ rfl) (ty := .byte) (v' := (.int (1 : Int32))) (by decide) rfl (by decide) (g := (mkF m 48 #[.val (.ref a), .val (.ref b), .val (.int (0 : Int32)), .val (.int (3 : Int32)), .val .null, .val (.ref tb582)] [(.int (1 : Int32)), (.ref a)])) rfl rfl (hb hby d_jdk_42_method_149_48)
  have N592 := Fr.snoc X592 N590 ge_a
  have F592 := Fld.same W592 (F_coder_a.keep K582q nin0)
  have K593 : Go p e below T592 (mkF m 51 #[.val (.ref a), .val (.ref b), .val (.int (0 : Int32)), .val (.int (3 : Int32)), .val .null, .val (.ref tb582)] []) G := fun tq kq => K591 tq (st592 tq kq)
  have K594 : Go p e below T592 (mkF m 52 #[.val (.ref a), .val (.ref b), .val (.int (0 : Int32)), .val (.int (3 : Int32)), .val .null, .val (.ref tb582)] [(.ref a)]) G := fun tq kq => K593 tq (XS.aloadN X592.here hx rfl (hb hby d_jdk_42_method_149_51) rfl rfl kq)
  have K595 : Go p e below T592 (mkF m 54 #[.val (.ref a), .val (.ref b), .val (.int (0 : Int32)), .val (.int (3 : Int32)), .val .null, .val (.ref tb582)] [(.ref tb582), (.ref a)]) G := fun tq kq => K594 tq (XS.aload X592.here hx rfl (hb hby d_jdk_42_method_149_52) rfl rfl kq)
  obtain ⟨T596, h596, X596, e596, W596, st596⟩ := putF X592 hx hZ hown (host := "") (Or.inl (hW 28 _ rfl)) Via.refl e592 ((F_value_a.keep K582q nin0).other W592 (Or.inr (slot_ne (Or.inr (hW 24 _ rfl)) (Or.inr (hW 25 _ rfl)) (by decide) (t := (.array .byte)) (t' := .byte) (by decide) (by decide)))) ((E_a.keep K582q).wr W592) (Or.inr ⟨(hW 24 _ rfl), rfl, hnm⟩) (hW 9 _ rfl) (ty := (.array .byte)) (by decide) rfl rfl (g := (mkF m 54 #[.val (.ref a), .val (.ref b), .val (.int (0 : Int32)), .val (.int (3 : Int32)), .val .null, .val (.ref tb582)] [(.ref tb582), (.ref a)])) rfl rfl (hb hby d_jdk_42_method_149_54)
  have N596 := Fr.snoc X596 N592 ge_a
  have F596 := Fld.same W596 ((F_value_a.keep K582q nin0).other W592 (Or.inr (slot_ne (Or.inr (hW 24 _ rfl)) (Or.inr (hW 25 _ rfl)) (by decide) (t := (.array .byte)) (t' := .byte) (by decide) (by decide))))
  have K597 : Go p e below T596 (mkF m 57 #[.val (.ref a), .val (.ref b), .val (.int (0 : Int32)), .val (.int (3 : Int32)), .val .null, .val (.ref tb582)] []) G := fun tq kq => K595 tq (st596 tq kq)
  obtain ⟨fs, hr, hrun, hended, hWW, hsame⟩ := X596.leave (v := none) (fun _ => rfl)
  refine ⟨_, _, hG _ (K597 _ (X596.returnOut hx Bd.returns (hb hby d_jdk_42_method_149_57) hr)), hrun, hended, _, _, rfl, ?_, ⟨_, rfl⟩, hWW, hsame.mono (by decide) (by decide)⟩
  show QN4w3 Z a b kc c0 c1 c2 cz h0 n0 _ T596.heap _
  rw [e596]
  exact ⟨rfl, N596, ((((Keep.refl h0 [a]).trans K582q all0).wr W592 (Or.inl (List.mem_of_getElem? (i := 0) rfl))).wr W596 (Or.inl (List.mem_of_getElem? (i := 0) rfl))), (((E_a.keep K582q).wr W592).wr W596), (F592.other W596 (Or.inr (slot_ne (Or.inr (hW 25 _ rfl)) (Or.inr (hW 24 _ rfl)) (by decide) (t := .byte) (t' := (.array .byte)) (by decide) (by decide)))), tb582, _, (Ne.symm na583), F596, ((V582q.other W592 (Ne.symm na583)).other W596 (Ne.symm na583))⟩
def QN1w3 (Z : State) (a : Addr) (b : Addr) (kc : ClassId) (c0 : Int32) (c1 : Int32) (c2 : Int32) (cz : Int32) (h0 : Heap) (n0 : Nat) (v : Option Value) (h : Heap) (L : List Loc) : Prop := v = none ∧ Fr n0 L ∧ Keep h0 h [a] ∧ Exa Z h a "java/lang/String" ∧ Fld Z h a "java/lang/String" "coder" "B" (.int (1 : Int32)) ∧ ∃ (tb : Addr) (kb : ClassId), tb ≠ a ∧ Fld Z h a "java/lang/String" "value" "[B" (.ref tb) ∧ Arv Z h tb kb .byte (6 : Int32) (StrChars.Road.wideBytes ([c0, c1, c2] : List Int32)) (.int (0 : Int32))
set_option maxRecDepth 65536 in
set_option maxHeartbeats 40000000 in
theorem rmN1w3 (l : Launch) (Z : State) (a0 : Array Value) (hw : ∀ d ∈ tables_1, d.before a0 Z = true) (ws : List Jvm.Cond) (a : Addr) (b : Addr) (kc : ClassId) (c0 : Int32) (c1 : Int32) (c2 : Int32) (cz : Int32) (h0 : Heap) (n0 : Nat) (Z0 : n0 ≤ h0.size) (F_value_a : Fld Z h0 a "java/lang/String" "value" "[B" .null) (F_coder_a : Fld Z h0 a "java/lang/String" "coder" "B" (.int (0 : Int32))) (E_a : Exa Z h0 a "java/lang/String") (ge_a : n0 ≤ a) (O0 : Old Z n0 h0) (S_cs : Sta Z Z.heap "java/lang/String" "COMPACT_STRINGS" "Z" (.int cz)) (hcz : ¬ cz = 0) (S_ad : Sta Z Z.heap "java/lang/StringUTF16" "$assertionsDisabled" "Z" (.int (1 : Int32))) (S_hi : Sta Z Z.heap "java/lang/StringUTF16" "HI_BYTE_SHIFT" "I" (.int (0 : Int32))) (S_lo : Sta Z Z.heap "java/lang/StringUTF16" "LO_BYTE_SHIFT" "I" (.int (8 : Int32))) (V_b : Arv Z h0 b kc .char (3 : Int32) [(.int c0), (.int c1), (.int c2)] (.int (0 : Int32))) (hwd : ¬ ∀ c ∈ ([c0, c1, c2] : List Int32), ¬ (255 : Int32) < c) (hb5 : ∀ c ∈ ([c0, c1, c2] : List Int32), ¬ c < 0 ∧ ¬ (65535 : Int32) < c) :
    MetFree l (⟨"java/lang/String", "<init>", "([C)V"⟩ : MethodName) (head1 (Jvm.Cond.code (⟨"java/lang/String", "<init>", "([C)V"⟩ : MethodName) jdk_42_method_3_code 2 none :: ws) ({ frames := 5, cells := 2, slots := 9, locals := 74 } : Room)) (fun aa UU => aa = #[(.ref a), (.ref b)] ∧ Z.Warmed39 UU.vm ∧ UU.heap = h0) (fun _ _ _ _ _ => True) (fun _ UU oo UU' => ∃ vv LL, oo = .returned vv ∧ QN1w3 Z a b kc c0 c1 c2 cz h0 n0 vv UU'.heap LL ∧ FrameEnd UU oo UU' LL ({ frames := 5, cells := 2, slots := 9, locals := 74 } : Room).cells ({ frames := 5, cells := 2, slots := 9, locals := 74 } : Room).slots) := by
  refine MetFree.of_bodySF (plainFor_of_name pn_0) hisR ?_
  intro p e s m args below meth c s₁ Bd hml0 hP hK
  obtain ⟨rfl, hZ, hh⟩ := hP
  have hx := Bd.exec
  have hby := Bd.bytes
  have hml : c.maxLocals = 2 := hml0
  have hown : s.vm.findClass "java/lang/String" = some m.cls := findClass_of_methodNamed Bd.named
  have hnm := (name_of_methodNamed Bd.named Bd.method).1
  have hW : ∀ (k : Nat) (d : Jvm.Cond), tables_1[k]? = some d → d.before a0 Z = true := fun k d h => hw d (List.mem_of_getElem? h)
  have X0 : Stand p l e ({ frames := 5, cells := 2, slots := 9, locals := 74 } : Room) s m #[(.ref a), (.ref b)] below meth c s₁ [] 0 0 := Stand.of_body Bd
  have e0 : s₁.heap = h0 := by rw [← hh, Bd.state]; rfl
  have N0 := Fr.nil n0
  obtain ⟨G, hG, K0⟩ : ∃ G : State → Prop, (∀ tq, G tq → Steps p.tables e below (s₁.setTop (entryFrame m #[(.ref a), (.ref b)] 2)) tq) ∧ Go p e below s₁ (mkF m 0 #[.val (.ref a), .val (.ref b)] []) G := ⟨fun tq => Steps p.tables e below (s₁.setTop (entryFrame m #[(.ref a), (.ref b)] 2)) tq, fun _ h => h, fun tq kq => castTop (ef_jdk_42_method_3_RR m a b) kq⟩
  have K598 : Go p e below s₁ (mkF m 1 #[.val (.ref a), .val (.ref b)] [(.ref a)]) G := fun tq kq => K0 tq (XS.aloadN X0.here hx rfl (hb hby d_jdk_42_method_3_0) rfl rfl kq)
  have K599 : Go p e below s₁ (mkF m 2 #[.val (.ref a), .val (.ref b)] [(.ref b), (.ref a)]) G := fun tq kq => K598 tq (XS.aloadN X0.here hx rfl (hb hby d_jdk_42_method_3_1) rfl rfl kq)
  have K600 : Go p e below s₁ (mkF m 3 #[.val (.ref a), .val (.ref b)] [(.int (0 : Int32)), (.ref b), (.ref a)]) G := fun tq kq => K599 tq (XS.iconst X0.here hx rfl (hb hby d_jdk_42_method_3_2) kq)
  have K601 : Go p e below s₁ (mkF m 4 #[.val (.ref a), .val (.ref b)] [(.ref b), (.int (0 : Int32)), (.ref b), (.ref a)]) G := fun tq kq => K600 tq (XS.aloadN X0.here hx rfl (hb hby d_jdk_42_method_3_3) rfl rfl kq)
  obtain ⟨cl602, Ar602, q602, S602, Nn602, Hh602, Gg602⟩ := id V_b
  have K603 : Go p e below s₁ (mkF m 5 #[.val (.ref a), .val (.ref b)] [(.int (3 : Int32)), (.int (0 : Int32)), (.ref b), (.ref a)]) G := fun tq kq => K601 tq (X0.arraylength hx (by rw [e0]; exact Ar602.1) (State.isArrayOf_alike hZ.alike Ar602.2.1) (g := (mkF m 4 #[.val (.ref a), .val (.ref b)] [(.ref b), (.int (0 : Int32)), (.ref b), (.ref a)])) rfl rfl (hb hby d_jdk_42_method_3_4) _ (by rw [len_of S602 Nn602]; exact kq))
  have K604 : Go p e below s₁ (mkF m 6 #[.val (.ref a), .val (.ref b)] [.null, (.int (3 : Int32)), (.int (0 : Int32)), (.ref b), (.ref a)]) G := fun tq kq => K603 tq (XS.aconstNull X0.here hx rfl (hb hby d_jdk_42_method_3_5) kq)
  obtain ⟨v605, _, ⟨T605, L605, k605, n605⟩, -, X605, ⟨Lc605, hQ605, l605, y605, z605⟩, st605⟩ := X0.specialBack hx (y := (⟨"java/lang/String", "<init>", "([CIILjava/lang/Void;)V"⟩ : MethodName)) rfl hown (mvT hZ (hW 15 _ rfl)) (mvT hZ (hW 16 _ rfl)) (mvT hZ (hW 18 _ rfl)) (by decide) (backOf (W := 0) (rmN4w3 l Z a0 hw [] a b kc c0 c1 c2 cz h0 n0 Z0 F_value_a F_coder_a E_a ge_a O0 S_cs hcz S_ad S_hi S_lo V_b hwd hb5) hZ (hW 18 _ rfl) (hW 10 _ rfl) (by decide) (by decide)) (g := (mkF m 6 #[.val (.ref a), .val (.ref b)] [.null, (.int (3 : Int32)), (.int (0 : Int32)), (.ref b), (.ref a)])) rfl (by rw [hml]; rfl) (Steps.refl _) (a := a) (argsL := [(.ref b), (.int (0 : Int32)), (.int (3 : Int32)), .null]) (rest := []) (lenOf pd_16 rfl) rfl (by show 2 * 0 + _ ≤ _; exact Nat.le_of_eq rfl) (hb hby d_jdk_42_method_3_6) (fun _ _ => ⟨rfl, e0, (by decide : 0 + 2 ≤ _), (by decide : 0 + 9 ≤ _)⟩)
  dsimp only [Pt.U, Pt.locs, Pt.cells, Pt.slots] at X605 l605 y605 z605 st605 hQ605
  subst l605 y605 z605
  obtain ⟨rfl, N605q, K605q, rest605⟩ := hQ605
  have N605 := Fr.app N0 N605q
  have K606 : Go p e below T605 (mkF m 9 #[.val (.ref a), .val (.ref b)] []) G := fun tq kq => K604 tq (st605.trans kq)
  obtain ⟨fs, hr, hrun, hended, hWW, hsame⟩ := X605.leave (v := none) (fun _ => rfl)
  refine ⟨_, _, hG _ (K606 _ (X605.returnOut hx Bd.returns (hb hby d_jdk_42_method_3_9) hr)), hrun, hended, _, _, rfl, ?_, ⟨_, rfl⟩, hWW, hsame.mono (by decide) (by decide)⟩
  show QN1w3 Z a b kc c0 c1 c2 cz h0 n0 _ T605.heap _
  exact ⟨rfl, N605, ((Keep.refl h0 [a]).trans K605q (allS (Or.inl (List.mem_of_getElem? (i := 0) rfl)) all0)), rest605⟩
def QNB4 (Z : State)  (h0 : Heap) (n0 : Nat) (v : Option Value) (h : Heap) (L : List Loc) : Prop := ∃ (tb : Addr) (kb : ClassId), v = some (.ref tb) ∧ Fr n0 L ∧ Keep h0 h [] ∧ h0.size ≤ tb ∧ n0 ≤ tb ∧ Arv Z h tb kb .byte (8 : Int32) [(.int (0 : Int32)), (.int (0 : Int32)), (.int (0 : Int32)), (.int (0 : Int32)), (.int (0 : Int32)), (.int (0 : Int32)), (.int (0 : Int32)), (.int (0 : Int32))] (.int (0 : Int32))
set_option maxRecDepth 65536 in
set_option maxHeartbeats 40000000 in
theorem rmNB4 (l : Launch) (Z : State) (a0 : Array Value) (hw : ∀ d ∈ tables_1, d.before a0 Z = true) (ws : List Jvm.Cond)  (h0 : Heap) (n0 : Nat) (Z0 : n0 ≤ h0.size) :
    MetFree l (⟨"java/lang/StringUTF16", "newBytesFor", "(I)[B"⟩ : MethodName) (head1 (Jvm.Cond.code (⟨"java/lang/StringUTF16", "newBytesFor", "(I)[B"⟩ : MethodName) jdk_52_method_2_code 1 (some (.array .byte)) :: ws) ({ frames := 1, cells := 1, slots := 8, locals := 12 } : Room)) (fun aa UU => aa = #[(.int (4 : Int32))] ∧ Z.Warmed39 UU.vm ∧ UU.heap = h0) (fun _ _ _ _ _ => True) (fun _ UU oo UU' => ∃ vv LL, oo = .returned vv ∧ QNB4 Z  h0 n0 vv UU'.heap LL ∧ FrameEnd UU oo UU' LL ({ frames := 1, cells := 1, slots := 8, locals := 12 } : Room).cells ({ frames := 1, cells := 1, slots := 8, locals := 12 } : Room).slots) := by
  refine MetFree.of_bodySF (plainFor_of_name pn_41) hisR ?_
  intro p e s m args below meth c s₁ Bd hml0 hP hK
  obtain ⟨rfl, hZ, hh⟩ := hP
  have hx := Bd.exec
  have hby := Bd.bytes
  have hml : c.maxLocals = 1 := hml0
  have hown : s.vm.findClass "java/lang/StringUTF16" = some m.cls := findClass_of_methodNamed Bd.named
  have hnm := (name_of_methodNamed Bd.named Bd.method).1
  have hW : ∀ (k : Nat) (d : Jvm.Cond), tables_1[k]? = some d → d.before a0 Z = true := fun k d h => hw d (List.mem_of_getElem? h)
  have X0 : Stand p l e ({ frames := 1, cells := 1, slots := 8, locals := 12 } : Room) s m #[(.int (4 : Int32))] below meth c s₁ [] 0 0 := Stand.of_body Bd
  have e0 : s₁.heap = h0 := by rw [← hh, Bd.state]; rfl
  have N0 := Fr.nil n0
  obtain ⟨G, hG, K0⟩ : ∃ G : State → Prop, (∀ tq, G tq → Steps p.tables e below (s₁.setTop (entryFrame m #[(.int (4 : Int32))] 1)) tq) ∧ Go p e below s₁ (mkF m 0 #[.val (.int (4 : Int32))] []) G := ⟨fun tq => Steps p.tables e below (s₁.setTop (entryFrame m #[(.int (4 : Int32))] 1)) tq, fun _ h => h, fun tq kq => castTop (ef_jdk_52_method_2_I m (4 : Int32)) kq⟩
  have K607 : Go p e below s₁ (mkF m 1 #[.val (.int (4 : Int32))] [(.int (4 : Int32))]) G := fun tq kq => K0 tq (XS.iloadN X0.here hx rfl (hb hby d_jdk_52_method_2_0) rfl kq)
  obtain ⟨v608, _, ⟨T608, L608, k608, n608⟩, -, X608, ⟨Lc608, hQ608, l608, y608, z608⟩, st608⟩ := Jvm.LawKit.callS X0 hx (y := (⟨"java/lang/StringUTF16", "newBytesLength", "(I)I"⟩ : MethodName)) hown (mvT hZ (hW 86 _ rfl)) (mvT hZ (hW 87 _ rfl)) (mvT hZ (hW 47 _ rfl)) (mvT hZ (hW 88 _ rfl)) (by decide) (backOf (W := 0) (rmNBL l Z a0 hw [] (4 : Int32) h0 n0 Z0 (by decide) (by decide)) hZ (hW 88 _ rfl) (hW 47 _ rfl) (by decide) (by decide)) (g := (mkF m 1 #[.val (.int (4 : Int32))] [(.int (4 : Int32))])) rfl (by rw [hml]; rfl) (argsL := [(.int (4 : Int32))]) (rest := []) (lenOf pd_101 rfl) rfl (by show 2 * 0 + _ ≤ _; exact Nat.le_of_eq rfl) (hb hby d_jdk_52_method_2_1) (fun _ _ => ⟨rfl, e0, (by decide : 0 + 0 ≤ _), (by decide : 0 + 0 ≤ _)⟩)
  dsimp only [Pt.U, Pt.locs, Pt.cells, Pt.slots] at X608 l608 y608 z608 st608 hQ608
  subst l608 y608 z608
  have hs608 : ((4 : Int32) <<< ((1 : Int32) &&& 31)) = (8 : Int32) := by decide
  rw [QNBL, hs608] at hQ608
  obtain ⟨rfl, N608q, E608q⟩ := hQ608
  have N608 := Fr.app N0 N608q
  have K609 : Go p e below T608 (mkF m 4 #[.val (.int (4 : Int32))] [(.int (8 : Int32))]) G := fun tq kq => K607 tq (st608 tq kq)
  obtain ⟨T610, h610, k610, X610, e610, E610, A610, st610⟩ := newP X608 hx hZ (hW 23 _ rfl) E608q (g := (mkF m 4 #[.val (.int (4 : Int32))] [(.int (8 : Int32))])) rfl (hb hby d_jdk_52_method_2_4) rfl (by decide) (cap := 8) (by decide) (by decide) (by decide) (by decide)
  obtain ⟨b610, g610⟩ : ∃ z, z = h0.size := ⟨_, rfl⟩
  rw [← g610] at A610 st610
  have ge_b610 : n0 ≤ b610 := Nat.le_trans Z0 (Nat.le_of_eq g610.symm)
  have sz_b610 : h0.size ≤ b610 := Nat.le_trans ((Keep.refl h0 [])).1 (Nat.le_of_eq g610.symm)
  have V610 : Arv Z h610 b610 k610 .byte (8 : Int32) [(.int (0 : Int32)), (.int (0 : Int32)), (.int (0 : Int32)), (.int (0 : Int32)), (.int (0 : Int32)), (.int (0 : Int32)), (.int (0 : Int32)), (.int (0 : Int32))] (.int (0 : Int32)) := (Arv.new A610 (by decide)).pad (pad_rep [] (.int (0 : Int32)) 8)
  have K611 : Go p e below T610 (mkF m 6 #[.val (.int (4 : Int32))] [(.ref b610)]) G := fun tq kq => K609 tq (st610 tq kq)
  obtain ⟨fs, hr, hrun, hended, hWW, hsame⟩ := X610.leave (v := some (.ref b610)) (fun h => by rw [Bd.returns] at h; cases h)
  refine ⟨_, _, hG _ (K611 _ (retOut X610 hx Bd.returns rfl (Or.inr (Or.inr (Or.inr (Or.inr ⟨rfl, rfl, rfl⟩)))) (hb hby d_jdk_52_method_2_6) hr)), hrun, hended, _, _, rfl, ?_, ⟨_, rfl⟩, hWW, hsame.mono (by decide) (by decide)⟩
  show QNB4 Z  h0 n0 _ T610.heap _
  rw [e610]
  exact ⟨b610, _, rfl, N608, ((Keep.refl h0 []).ext E610), sz_b610, ge_b610, V610⟩
def QTB4 (Z : State) (b : Addr) (kc : ClassId) (c0 : Int32) (c1 : Int32) (c2 : Int32) (c3 : Int32) (h0 : Heap) (n0 : Nat) (v : Option Value) (h : Heap) (L : List Loc) : Prop := ∃ (tb : Addr) (kb : ClassId), v = some (.ref tb) ∧ Fr n0 L ∧ Keep h0 h [] ∧ h0.size ≤ tb ∧ n0 ≤ tb ∧ Arv Z h tb kb .byte (8 : Int32) (StrChars.Road.wideBytes ([c0, c1, c2, c3] : List Int32)) (.int (0 : Int32))
set_option maxRecDepth 65536 in
set_option maxHeartbeats 40000000 in
theorem rmTB4 (l : Launch) (Z : State) (a0 : Array Value) (hw : ∀ d ∈ tables_1, d.before a0 Z = true) (ws : List Jvm.Cond) (b : Addr) (kc : ClassId) (c0 : Int32) (c1 : Int32) (c2 : Int32) (c3 : Int32) (h0 : Heap) (n0 : Nat) (Z0 : n0 ≤ h0.size) (O0 : Old Z n0 h0) (S_ad : Sta Z Z.heap "java/lang/StringUTF16" "$assertionsDisabled" "Z" (.int (1 : Int32))) (S_hi : Sta Z Z.heap "java/lang/StringUTF16" "HI_BYTE_SHIFT" "I" (.int (0 : Int32))) (S_lo : Sta Z Z.heap "java/lang/StringUTF16" "LO_BYTE_SHIFT" "I" (.int (8 : Int32))) (V_b : Arv Z h0 b kc .char (4 : Int32) [(.int c0), (.int c1), (.int c2), (.int c3)] (.int (0 : Int32))) :
    MetFree l (⟨"java/lang/StringUTF16", "toBytes", "([CII)[B"⟩ : MethodName) (head1 (Jvm.Cond.code (⟨"java/lang/StringUTF16", "toBytes", "([CII)[B"⟩ : MethodName) jdk_52_method_14_code 5 (some (.array .byte)) :: ws) ({ frames := 2, cells := 1, slots := 8, locals := 24 } : Room)) (fun aa UU => aa = #[(.ref b), (.int (0 : Int32)), (.int (4 : Int32))] ∧ Z.Warmed39 UU.vm ∧ UU.heap = h0) (fun _ _ _ _ _ => True) (fun _ UU oo UU' => ∃ vv LL, oo = .returned vv ∧ QTB4 Z b kc c0 c1 c2 c3 h0 n0 vv UU'.heap LL ∧ FrameEnd UU oo UU' LL ({ frames := 2, cells := 1, slots := 8, locals := 24 } : Room).cells ({ frames := 2, cells := 1, slots := 8, locals := 24 } : Room).slots) := by
  refine MetFree.of_bodySF (plainFor_of_name pn_41) hisR ?_
  intro p e s m args below meth c s₁ Bd hml0 hP hK
  obtain ⟨rfl, hZ, hh⟩ := hP
  have hx := Bd.exec
  have hby := Bd.bytes
  have hml : c.maxLocals = 5 := hml0
  have hown : s.vm.findClass "java/lang/StringUTF16" = some m.cls := findClass_of_methodNamed Bd.named
  have hnm := (name_of_methodNamed Bd.named Bd.method).1
  have hW : ∀ (k : Nat) (d : Jvm.Cond), tables_1[k]? = some d → d.before a0 Z = true := fun k d h => hw d (List.mem_of_getElem? h)
  have X0 : Stand p l e ({ frames := 2, cells := 1, slots := 8, locals := 24 } : Room) s m #[(.ref b), (.int (0 : Int32)), (.int (4 : Int32))] below meth c s₁ [] 0 0 := Stand.of_body Bd
  have e0 : s₁.heap = h0 := by rw [← hh, Bd.state]; rfl
  have N0 := Fr.nil n0
  obtain ⟨G, hG, K0⟩ : ∃ G : State → Prop, (∀ tq, G tq → Steps p.tables e below (s₁.setTop (entryFrame m #[(.ref b), (.int (0 : Int32)), (.int (4 : Int32))] 5)) tq) ∧ Go p e below s₁ (mkF m 0 #[.val (.ref b), .val (.int (0 : Int32)), .val (.int (4 : Int32)), .unset, .unset] []) G := ⟨fun tq => Steps p.tables e below (s₁.setTop (entryFrame m #[(.ref b), (.int (0 : Int32)), (.int (4 : Int32))] 5)) tq, fun _ h => h, fun tq kq => castTop (ef_jdk_52_method_14_RII m b (0 : Int32) (4 : Int32)) kq⟩
  have K612 : Go p e below s₁ (mkF m 1 #[.val (.ref b), .val (.int (0 : Int32)), .val (.int (4 : Int32)), .unset, .unset] [(.int (4 : Int32))]) G := fun tq kq => K0 tq (XS.iloadN X0.here hx rfl (hb hby d_jdk_52_method_14_0) rfl kq)
  obtain ⟨v613, _, ⟨T613, L613, k613, n613⟩, -, X613, ⟨Lc613, hQ613, l613, y613, z613⟩, st613⟩ := Jvm.LawKit.callS X0 hx (y := (⟨"java/lang/StringUTF16", "newBytesFor", "(I)[B"⟩ : MethodName)) hown (mvT hZ (hW 83 _ rfl)) (mvT hZ (hW 84 _ rfl)) (mvT hZ (hW 47 _ rfl)) (mvT hZ (hW 85 _ rfl)) (by decide) (backOf (W := 0) (rmNB4 l Z a0 hw [] h0 n0 Z0) hZ (hW 85 _ rfl) (hW 47 _ rfl) (by decide) (by decide)) (g := (mkF m 1 #[.val (.ref b), .val (.int (0 : Int32)), .val (.int (4 : Int32)), .unset, .unset] [(.int (4 : Int32))])) rfl (by rw [hml]; rfl) (argsL := [(.int (4 : Int32))]) (rest := []) (lenOf pd_107 rfl) rfl (by show 2 * 0 + _ ≤ _; exact Nat.le_of_eq rfl) (hb hby d_jdk_52_method_14_1) (fun _ _ => ⟨rfl, e0, (by decide : 0 + 1 ≤ _), (by decide : 0 + 8 ≤ _)⟩)
  dsimp only [Pt.U, Pt.locs, Pt.cells, Pt.slots] at X613 l613 y613 z613 st613 hQ613
  subst l613 y613 z613
  obtain ⟨tb613, kb613, rfl, N613q, K613q, sz613, ge613, V613q⟩ := hQ613
  have N613 := Fr.app N0 N613q
  have na614 : b ≠ tb613 := Nat.ne_of_lt (Nat.lt_of_lt_of_le V_b.lt sz613)
  have sb613 := Nat.le_trans ((Keep.refl h0 [])).1 sz613
  have K615 : Go p e below T613 (mkF m 4 #[.val (.ref b), .val (.int (0 : Int32)), .val (.int (4 : Int32)), .unset, .unset] [(.ref tb613)]) G := fun tq kq => K612 tq (st613 tq kq)
  have K616 : Go p e below T613 (mkF m 5 #[.val (.ref b), .val (.int (0 : Int32)), .val (.int (4 : Int32)), .val (.ref tb613), .unset] []) G := fun tq kq => K615 tq (XS.astoreN X613.here hx rfl (hb hby d_jdk_52_method_14_4) rfl rfl (l' := #[.val (.ref b), .val (.int (0 : Int32)), .val (.int (4 : Int32)), .val (.ref tb613), .unset]) rfl kq)
  have K617 : Go p e below T613 (mkF m 6 #[.val (.ref b), .val (.int (0 : Int32)), .val (.int (4 : Int32)), .val (.ref tb613), .unset] [(.int (0 : Int32))]) G := fun tq kq => K616 tq (XS.iconst X613.here hx rfl (hb hby d_jdk_52_method_14_5) kq)
  have K618 : Go p e below T613 (mkF m 8 #[.val (.ref b), .val (.int (0 : Int32)), .val (.int (4 : Int32)), .val (.ref tb613), .val (.int (0 : Int32))] []) G := fun tq kq => K617 tq (XS.istore X613.here hx rfl (hb hby d_jdk_52_method_14_6) rfl (l' := #[.val (.ref b), .val (.int (0 : Int32)), .val (.int (4 : Int32)), .val (.ref tb613), .val (.int (0 : Int32))]) rfl kq)
  have K619 : Go p e below T613 (mkF m 10 #[.val (.ref b), .val (.int (0 : Int32)), .val (.int (4 : Int32)), .val (.ref tb613), .val (.int (0 : Int32))] [(.int (0 : Int32))]) G := fun tq kq => K618 tq (XS.iload X613.here hx rfl (hb hby d_jdk_52_method_14_8) rfl kq)
  have K620 : Go p e below T613 (mkF m 11 #[.val (.ref b), .val (.int (0 : Int32)), .val (.int (4 : Int32)), .val (.ref tb613), .val (.int (0 : Int32))] [(.int (4 : Int32)), (.int (0 : Int32))]) G := fun tq kq => K619 tq (XS.iloadN X613.here hx rfl (hb hby d_jdk_52_method_14_10) rfl kq)
  have K621 : Go p e below T613 (mkF m 14 #[.val (.ref b), .val (.int (0 : Int32)), .val (.int (4 : Int32)), .val (.ref tb613), .val (.int (0 : Int32))] []) G := fun tq kq => K620 tq (XS.icmpNo X613.here hx rfl (hb hby d_jdk_52_method_14_11) rfl ((tlt (by decide : (0 : Int32) < (4 : Int32))).2.1) kq)
  have K622 : Go p e below T613 (mkF m 15 #[.val (.ref b), .val (.int (0 : Int32)), .val (.int (4 : Int32)), .val (.ref tb613), .val (.int (0 : Int32))] [(.ref tb613)]) G := fun tq kq => K621 tq (XS.aloadN X613.here hx rfl (hb hby d_jdk_52_method_14_14) rfl rfl kq)
  have K623 : Go p e below T613 (mkF m 17 #[.val (.ref b), .val (.int (0 : Int32)), .val (.int (4 : Int32)), .val (.ref tb613), .val (.int (0 : Int32))] [(.int (0 : Int32)), (.ref tb613)]) G := fun tq kq => K622 tq (XS.iload X613.here hx rfl (hb hby d_jdk_52_method_14_15) rfl kq)
  have K624 : Go p e below T613 (mkF m 18 #[.val (.ref b), .val (.int (0 : Int32)), .val (.int (4 : Int32)), .val (.ref tb613), .val (.int (0 : Int32))] [(.ref b), (.int (0 : Int32)), (.ref tb613)]) G := fun tq kq => K623 tq (XS.aloadN X613.here hx rfl (hb hby d_jdk_52_method_14_17) rfl rfl kq)
  have K625 : Go p e below T613 (mkF m 19 #[.val (.ref b), .val (.int (0 : Int32)), .val (.int (4 : Int32)), .val (.ref tb613), .val (.int (0 : Int32))] [(.int (0 : Int32)), (.ref b), (.int (0 : Int32)), (.ref tb613)]) G := fun tq kq => K624 tq (XS.iloadN X613.here hx rfl (hb hby d_jdk_52_method_14_18) rfl kq)
  obtain ⟨cl626, Ar626, q626, S626, Nn626, Hh626, Gg626⟩ := id (V_b.keep K613q nin0)
  have hin626 : ¬ ((0 : Int32) < 0 ∨ cl626.slots.size ≤ ((0 : Int32)).toNatClampNeg) := inb_of S626 ⟨by decide, by decide⟩
  have hat626 := Has.at (v := (.int c0)) Hh626 hin626 rfl
  have K627 : Go p e below T613 (mkF m 20 #[.val (.ref b), .val (.int (0 : Int32)), .val (.int (4 : Int32)), .val (.ref tb613), .val (.int (0 : Int32))] [(.int c0), (.int (0 : Int32)), (.ref tb613)]) G := fun tq kq => K625 tq (X613.caload hx (j := (0 : Int32)) (v := (.int c0)) Ar626.1 (State.isArrayOf_alike hZ.alike Ar626.2.1) Ar626.2.2 hin626 hat626 (g := (mkF m 19 #[.val (.ref b), .val (.int (0 : Int32)), .val (.int (4 : Int32)), .val (.ref tb613), .val (.int (0 : Int32))] [(.int (0 : Int32)), (.ref b), (.int (0 : Int32)), (.ref tb613)])) rfl rfl (hb hby d_jdk_52_method_14_19) _ kq)
  obtain ⟨v628, _, ⟨T628, L628, k628, n628⟩, -, X628, ⟨Lc628, hQ628, l628, y628, z628⟩, st628⟩ := Jvm.LawKit.callS X613 hx (y := (⟨"java/lang/StringUTF16", "putChar", "([BII)V"⟩ : MethodName)) hown (mvT hZ (hW 90 _ rfl)) (mvT hZ (hW 91 _ rfl)) (mvT hZ (hW 47 _ rfl)) (mvT hZ (hW 92 _ rfl)) (by decide) (backOf (W := 0) (rmPC l Z a0 hw [] tb613 kb613 (8 : Int32) [(.int (0 : Int32)), (.int (0 : Int32)), (.int (0 : Int32)), (.int (0 : Int32)), (.int (0 : Int32)), (.int (0 : Int32)), (.int (0 : Int32)), (.int (0 : Int32))] (0 : Int32) 0 c0 T613.heap n0 (Nat.le_trans Z0 K613q.1) (O0.keep K613q all0) S_ad S_hi S_lo ge613 V613q (by decide +kernel) (Nat.le_of_ble_eq_true rfl)) hZ (hW 92 _ rfl) (hW 47 _ rfl) (by decide) (by decide)) (g := (mkF m 20 #[.val (.ref b), .val (.int (0 : Int32)), .val (.int (4 : Int32)), .val (.ref tb613), .val (.int (0 : Int32))] [(.int c0), (.int (0 : Int32)), (.ref tb613)])) rfl (by rw [hml]; rfl) (argsL := [(.ref tb613), (.int (0 : Int32)), (.int c0)]) (rest := []) (lenOf pd_108 rfl) rfl (by show 2 * 0 + _ ≤ _; exact Nat.le_of_eq rfl) (hb hby d_jdk_52_method_14_20) (fun _ _ => ⟨rfl, rfl, (by decide : 1 + 0 ≤ _), (by decide : 8 + 0 ≤ _)⟩)
  dsimp only [Pt.U, Pt.locs, Pt.cells, Pt.slots] at X628 l628 y628 z628 st628 hQ628
  subst l628 y628 z628
  obtain ⟨rfl, N628q, K628q, V628q⟩ := hQ628
  have N628 := Fr.app N613 N628q
  have V628r : Arv Z T628.heap tb613 kb613 .byte (8 : Int32) [(.int (StrChars.lo8 c0)), (.int (StrChars.hi8 c0)), (.int (0 : Int32)), (.int (0 : Int32)), (.int (0 : Int32)), (.int (0 : Int32)), (.int (0 : Int32)), (.int (0 : Int32))] (.int (0 : Int32)) := V628q
  have K629 : Go p e below T628 (mkF m 23 #[.val (.ref b), .val (.int (0 : Int32)), .val (.int (4 : Int32)), .val (.ref tb613), .val (.int (0 : Int32))] []) G := fun tq kq => K627 tq (st628 tq kq)
  have K630 : Go p e below T628 (mkF m 26 #[.val (.ref b), .val (.int (1 : Int32)), .val (.int (4 : Int32)), .val (.ref tb613), .val (.int (0 : Int32))] []) G := fun tq kq => K629 tq (XS.iinc X628.here hx rfl (hb hby d_jdk_52_method_14_23) rfl (l' := #[.val (.ref b), .val (.int (1 : Int32)), .val (.int (4 : Int32)), .val (.ref tb613), .val (.int (0 : Int32))]) rfl kq)
  have K631 : Go p e below T628 (mkF m 29 #[.val (.ref b), .val (.int (1 : Int32)), .val (.int (4 : Int32)), .val (.ref tb613), .val (.int (1 : Int32))] []) G := fun tq kq => K630 tq (XS.iinc X628.here hx rfl (hb hby d_jdk_52_method_14_26) rfl (l' := #[.val (.ref b), .val (.int (1 : Int32)), .val (.int (4 : Int32)), .val (.ref tb613), .val (.int (1 : Int32))]) rfl kq)
  have K632 : Go p e below T628 (mkF m 8 #[.val (.ref b), .val (.int (1 : Int32)), .val (.int (4 : Int32)), .val (.ref tb613), .val (.int (1 : Int32))] []) G := fun tq kq => K631 tq (XS.goto X628.here hx rfl (pc0 := 29) (pc' := 8) rfl (hb hby d_jdk_52_method_14_29) (by decide) (by decide) kq)
  have K633 : Go p e below T628 (mkF m 10 #[.val (.ref b), .val (.int (1 : Int32)), .val (.int (4 : Int32)), .val (.ref tb613), .val (.int (1 : Int32))] [(.int (1 : Int32))]) G := fun tq kq => K632 tq (XS.iload X628.here hx rfl (hb hby d_jdk_52_method_14_8) rfl kq)
  have K634 : Go p e below T628 (mkF m 11 #[.val (.ref b), .val (.int (1 : Int32)), .val (.int (4 : Int32)), .val (.ref tb613), .val (.int (1 : Int32))] [(.int (4 : Int32)), (.int (1 : Int32))]) G := fun tq kq => K633 tq (XS.iloadN X628.here hx rfl (hb hby d_jdk_52_method_14_10) rfl kq)
  have K635 : Go p e below T628 (mkF m 14 #[.val (.ref b), .val (.int (1 : Int32)), .val (.int (4 : Int32)), .val (.ref tb613), .val (.int (1 : Int32))] []) G := fun tq kq => K634 tq (XS.icmpNo X628.here hx rfl (hb hby d_jdk_52_method_14_11) rfl ((tlt (by decide : (1 : Int32) < (4 : Int32))).2.1) kq)
  have K636 : Go p e below T628 (mkF m 15 #[.val (.ref b), .val (.int (1 : Int32)), .val (.int (4 : Int32)), .val (.ref tb613), .val (.int (1 : Int32))] [(.ref tb613)]) G := fun tq kq => K635 tq (XS.aloadN X628.here hx rfl (hb hby d_jdk_52_method_14_14) rfl rfl kq)
  have K637 : Go p e below T628 (mkF m 17 #[.val (.ref b), .val (.int (1 : Int32)), .val (.int (4 : Int32)), .val (.ref tb613), .val (.int (1 : Int32))] [(.int (1 : Int32)), (.ref tb613)]) G := fun tq kq => K636 tq (XS.iload X628.here hx rfl (hb hby d_jdk_52_method_14_15) rfl kq)
  have K638 : Go p e below T628 (mkF m 18 #[.val (.ref b), .val (.int (1 : Int32)), .val (.int (4 : Int32)), .val (.ref tb613), .val (.int (1 : Int32))] [(.ref b), (.int (1 : Int32)), (.ref tb613)]) G := fun tq kq => K637 tq (XS.aloadN X628.here hx rfl (hb hby d_jdk_52_method_14_17) rfl rfl kq)
  have K639 : Go p e below T628 (mkF m 19 #[.val (.ref b), .val (.int (1 : Int32)), .val (.int (4 : Int32)), .val (.ref tb613), .val (.int (1 : Int32))] [(.int (1 : Int32)), (.ref b), (.int (1 : Int32)), (.ref tb613)]) G := fun tq kq => K638 tq (XS.iloadN X628.here hx rfl (hb hby d_jdk_52_method_14_18) rfl kq)
  obtain ⟨cl640, Ar640, q640, S640, Nn640, Hh640, Gg640⟩ := id ((V_b.keep K613q nin0).keep K628q (ninS na614 nin0))
  have hin640 : ¬ ((1 : Int32) < 0 ∨ cl640.slots.size ≤ ((1 : Int32)).toNatClampNeg) := inb_of S640 ⟨by decide, by decide⟩
  have hat640 := Has.at (v := (.int c1)) Hh640 hin640 rfl
  have K641 : Go p e below T628 (mkF m 20 #[.val (.ref b), .val (.int (1 : Int32)), .val (.int (4 : Int32)), .val (.ref tb613), .val (.int (1 : Int32))] [(.int c1), (.int (1 : Int32)), (.ref tb613)]) G := fun tq kq => K639 tq (X628.caload hx (j := (1 : Int32)) (v := (.int c1)) Ar640.1 (State.isArrayOf_alike hZ.alike Ar640.2.1) Ar640.2.2 hin640 hat640 (g := (mkF m 19 #[.val (.ref b), .val (.int (1 : Int32)), .val (.int (4 : Int32)), .val (.ref tb613), .val (.int (1 : Int32))] [(.int (1 : Int32)), (.ref b), (.int (1 : Int32)), (.ref tb613)])) rfl rfl (hb hby d_jdk_52_method_14_19) _ kq)
  obtain ⟨v642, _, ⟨T642, L642, k642, n642⟩, -, X642, ⟨Lc642, hQ642, l642, y642, z642⟩, st642⟩ := Jvm.LawKit.callS X628 hx (y := (⟨"java/lang/StringUTF16", "putChar", "([BII)V"⟩ : MethodName)) hown (mvT hZ (hW 90 _ rfl)) (mvT hZ (hW 91 _ rfl)) (mvT hZ (hW 47 _ rfl)) (mvT hZ (hW 92 _ rfl)) (by decide) (backOf (W := 0) (rmPC l Z a0 hw [] tb613 kb613 (8 : Int32) [(.int (StrChars.lo8 c0)), (.int (StrChars.hi8 c0)), (.int (0 : Int32)), (.int (0 : Int32)), (.int (0 : Int32)), (.int (0 : Int32)), (.int (0 : Int32)), (.int (0 : Int32))] (1 : Int32) 1 c1 T628.heap n0 (Nat.le_trans (Nat.le_trans Z0 K613q.1) K628q.1) ((O0.keep K613q all0).keep K628q (allS ge613 all0)) S_ad S_hi S_lo ge613 V628r (by decide +kernel) (Nat.le_of_ble_eq_true rfl)) hZ (hW 92 _ rfl) (hW 47 _ rfl) (by decide) (by decide)) (g := (mkF m 20 #[.val (.ref b), .val (.int (1 : Int32)), .val (.int (4 : Int32)), .val (.ref tb613), .val (.int (1 : Int32))] [(.int c1), (.int (1 : Int32)), (.ref tb613)])) rfl (by rw [hml]; rfl) (argsL := [(.ref tb613), (.int (1 : Int32)), (.int c1)]) (rest := []) (lenOf pd_108 rfl) rfl (by show 2 * 0 + _ ≤ _; exact Nat.le_of_eq rfl) (hb hby d_jdk_52_method_14_20) (fun _ _ => ⟨rfl, rfl, (by decide : 1 + 0 ≤ _), (by decide : 8 + 0 ≤ _)⟩)
  dsimp only [Pt.U, Pt.locs, Pt.cells, Pt.slots] at X642 l642 y642 z642 st642 hQ642
  subst l642 y642 z642
  obtain ⟨rfl, N642q, K642q, V642q⟩ := hQ642
  have N642 := Fr.app N628 N642q
  have V642r : Arv Z T642.heap tb613 kb613 .byte (8 : Int32) [(.int (StrChars.lo8 c0)), (.int (StrChars.hi8 c0)), (.int (StrChars.lo8 c1)), (.int (StrChars.hi8 c1)), (.int (0 : Int32)), (.int (0 : Int32)), (.int (0 : Int32)), (.int (0 : Int32))] (.int (0 : Int32)) := V642q
  have K643 : Go p e below T642 (mkF m 23 #[.val (.ref b), .val (.int (1 : Int32)), .val (.int (4 : Int32)), .val (.ref tb613), .val (.int (1 : Int32))] []) G := fun tq kq => K641 tq (st642 tq kq)
  have K644 : Go p e below T642 (mkF m 26 #[.val (.ref b), .val (.int (2 : Int32)), .val (.int (4 : Int32)), .val (.ref tb613), .val (.int (1 : Int32))] []) G := fun tq kq => K643 tq (XS.iinc X642.here hx rfl (hb hby d_jdk_52_method_14_23) rfl (l' := #[.val (.ref b), .val (.int (2 : Int32)), .val (.int (4 : Int32)), .val (.ref tb613), .val (.int (1 : Int32))]) rfl kq)
  have K645 : Go p e below T642 (mkF m 29 #[.val (.ref b), .val (.int (2 : Int32)), .val (.int (4 : Int32)), .val (.ref tb613), .val (.int (2 : Int32))] []) G := fun tq kq => K644 tq (XS.iinc X642.here hx rfl (hb hby d_jdk_52_method_14_26) rfl (l' := #[.val (.ref b), .val (.int (2 : Int32)), .val (.int (4 : Int32)), .val (.ref tb613), .val (.int (2 : Int32))]) rfl kq)
  have K646 : Go p e below T642 (mkF m 8 #[.val (.ref b), .val (.int (2 : Int32)), .val (.int (4 : Int32)), .val (.ref tb613), .val (.int (2 : Int32))] []) G := fun tq kq => K645 tq (XS.goto X642.here hx rfl (pc0 := 29) (pc' := 8) rfl (hb hby d_jdk_52_method_14_29) (by decide) (by decide) kq)
  have K647 : Go p e below T642 (mkF m 10 #[.val (.ref b), .val (.int (2 : Int32)), .val (.int (4 : Int32)), .val (.ref tb613), .val (.int (2 : Int32))] [(.int (2 : Int32))]) G := fun tq kq => K646 tq (XS.iload X642.here hx rfl (hb hby d_jdk_52_method_14_8) rfl kq)
  have K648 : Go p e below T642 (mkF m 11 #[.val (.ref b), .val (.int (2 : Int32)), .val (.int (4 : Int32)), .val (.ref tb613), .val (.int (2 : Int32))] [(.int (4 : Int32)), (.int (2 : Int32))]) G := fun tq kq => K647 tq (XS.iloadN X642.here hx rfl (hb hby d_jdk_52_method_14_10) rfl kq)
  have K649 : Go p e below T642 (mkF m 14 #[.val (.ref b), .val (.int (2 : Int32)), .val (.int (4 : Int32)), .val (.ref tb613), .val (.int (2 : Int32))] []) G := fun tq kq => K648 tq (XS.icmpNo X642.here hx rfl (hb hby d_jdk_52_method_14_11) rfl ((tlt (by decide : (2 : Int32) < (4 : Int32))).2.1) kq)
  have K650 : Go p e below T642 (mkF m 15 #[.val (.ref b), .val (.int (2 : Int32)), .val (.int (4 : Int32)), .val (.ref tb613), .val (.int (2 : Int32))] [(.ref tb613)]) G := fun tq kq => K649 tq (XS.aloadN X642.here hx rfl (hb hby d_jdk_52_method_14_14) rfl rfl kq)
  have K651 : Go p e below T642 (mkF m 17 #[.val (.ref b), .val (.int (2 : Int32)), .val (.int (4 : Int32)), .val (.ref tb613), .val (.int (2 : Int32))] [(.int (2 : Int32)), (.ref tb613)]) G := fun tq kq => K650 tq (XS.iload X642.here hx rfl (hb hby d_jdk_52_method_14_15) rfl kq)
  have K652 : Go p e below T642 (mkF m 18 #[.val (.ref b), .val (.int (2 : Int32)), .val (.int (4 : Int32)), .val (.ref tb613), .val (.int (2 : Int32))] [(.ref b), (.int (2 : Int32)), (.ref tb613)]) G := fun tq kq => K651 tq (XS.aloadN X642.here hx rfl (hb hby d_jdk_52_method_14_17) rfl rfl kq)
  have K653 : Go p e below T642 (mkF m 19 #[.val (.ref b), .val (.int (2 : Int32)), .val (.int (4 : Int32)), .val (.ref tb613), .val (.int (2 : Int32))] [(.int (2 : Int32)), (.ref b), (.int (2 : Int32)), (.ref tb613)]) G := fun tq kq => K652 tq (XS.iloadN X642.here hx rfl (hb hby d_jdk_52_method_14_18) rfl kq)
  obtain ⟨cl654, Ar654, q654, S654, Nn654, Hh654, Gg654⟩ := id (((V_b.keep K613q nin0).keep K628q (ninS na614 nin0)).keep K642q (ninS na614 nin0))
  have hin654 : ¬ ((2 : Int32) < 0 ∨ cl654.slots.size ≤ ((2 : Int32)).toNatClampNeg) := inb_of S654 ⟨by decide, by decide⟩
  have hat654 := Has.at (v := (.int c2)) Hh654 hin654 rfl
  have K655 : Go p e below T642 (mkF m 20 #[.val (.ref b), .val (.int (2 : Int32)), .val (.int (4 : Int32)), .val (.ref tb613), .val (.int (2 : Int32))] [(.int c2), (.int (2 : Int32)), (.ref tb613)]) G := fun tq kq => K653 tq (X642.caload hx (j := (2 : Int32)) (v := (.int c2)) Ar654.1 (State.isArrayOf_alike hZ.alike Ar654.2.1) Ar654.2.2 hin654 hat654 (g := (mkF m 19 #[.val (.ref b), .val (.int (2 : Int32)), .val (.int (4 : Int32)), .val (.ref tb613), .val (.int (2 : Int32))] [(.int (2 : Int32)), (.ref b), (.int (2 : Int32)), (.ref tb613)])) rfl rfl (hb hby d_jdk_52_method_14_19) _ kq)
  obtain ⟨v656, _, ⟨T656, L656, k656, n656⟩, -, X656, ⟨Lc656, hQ656, l656, y656, z656⟩, st656⟩ := Jvm.LawKit.callS X642 hx (y := (⟨"java/lang/StringUTF16", "putChar", "([BII)V"⟩ : MethodName)) hown (mvT hZ (hW 90 _ rfl)) (mvT hZ (hW 91 _ rfl)) (mvT hZ (hW 47 _ rfl)) (mvT hZ (hW 92 _ rfl)) (by decide) (backOf (W := 0) (rmPC l Z a0 hw [] tb613 kb613 (8 : Int32) [(.int (StrChars.lo8 c0)), (.int (StrChars.hi8 c0)), (.int (StrChars.lo8 c1)), (.int (StrChars.hi8 c1)), (.int (0 : Int32)), (.int (0 : Int32)), (.int (0 : Int32)), (.int (0 : Int32))] (2 : Int32) 2 c2 T642.heap n0 (Nat.le_trans (Nat.le_trans (Nat.le_trans Z0 K613q.1) K628q.1) K642q.1) (((O0.keep K613q all0).keep K628q (allS ge613 all0)).keep K642q (allS ge613 all0)) S_ad S_hi S_lo ge613 V642r (by decide +kernel) (Nat.le_of_ble_eq_true rfl)) hZ (hW 92 _ rfl) (hW 47 _ rfl) (by decide) (by decide)) (g := (mkF m 20 #[.val (.ref b), .val (.int (2 : Int32)), .val (.int (4 : Int32)), .val (.ref tb613), .val (.int (2 : Int32))] [(.int c2), (.int (2 : Int32)), (.ref tb613)])) rfl (by rw [hml]; rfl) (argsL := [(.ref tb613), (.int (2 : Int32)), (.int c2)]) (rest := []) (lenOf pd_108 rfl) rfl (by show 2 * 0 + _ ≤ _; exact Nat.le_of_eq rfl) (hb hby d_jdk_52_method_14_20) (fun _ _ => ⟨rfl, rfl, (by decide : 1 + 0 ≤ _), (by decide : 8 + 0 ≤ _)⟩)
  dsimp only [Pt.U, Pt.locs, Pt.cells, Pt.slots] at X656 l656 y656 z656 st656 hQ656
  subst l656 y656 z656
  obtain ⟨rfl, N656q, K656q, V656q⟩ := hQ656
  have N656 := Fr.app N642 N656q
  have V656r : Arv Z T656.heap tb613 kb613 .byte (8 : Int32) [(.int (StrChars.lo8 c0)), (.int (StrChars.hi8 c0)), (.int (StrChars.lo8 c1)), (.int (StrChars.hi8 c1)), (.int (StrChars.lo8 c2)), (.int (StrChars.hi8 c2)), (.int (0 : Int32)), (.int (0 : Int32))] (.int (0 : Int32)) := V656q
  have K657 : Go p e below T656 (mkF m 23 #[.val (.ref b), .val (.int (2 : Int32)), .val (.int (4 : Int32)), .val (.ref tb613), .val (.int (2 : Int32))] []) G := fun tq kq => K655 tq (st656 tq kq)
  have K658 : Go p e below T656 (mkF m 26 #[.val (.ref b), .val (.int (3 : Int32)), .val (.int (4 : Int32)), .val (.ref tb613), .val (.int (2 : Int32))] []) G := fun tq kq => K657 tq (XS.iinc X656.here hx rfl (hb hby d_jdk_52_method_14_23) rfl (l' := #[.val (.ref b), .val (.int (3 : Int32)), .val (.int (4 : Int32)), .val (.ref tb613), .val (.int (2 : Int32))]) rfl kq)
  have K659 : Go p e below T656 (mkF m 29 #[.val (.ref b), .val (.int (3 : Int32)), .val (.int (4 : Int32)), .val (.ref tb613), .val (.int (3 : Int32))] []) G := fun tq kq => K658 tq (XS.iinc X656.here hx rfl (hb hby d_jdk_52_method_14_26) rfl (l' := #[.val (.ref b), .val (.int (3 : Int32)), .val (.int (4 : Int32)), .val (.ref tb613), .val (.int (3 : Int32))]) rfl kq)
  have K660 : Go p e below T656 (mkF m 8 #[.val (.ref b), .val (.int (3 : Int32)), .val (.int (4 : Int32)), .val (.ref tb613), .val (.int (3 : Int32))] []) G := fun tq kq => K659 tq (XS.goto X656.here hx rfl (pc0 := 29) (pc' := 8) rfl (hb hby d_jdk_52_method_14_29) (by decide) (by decide) kq)
  have K661 : Go p e below T656 (mkF m 10 #[.val (.ref b), .val (.int (3 : Int32)), .val (.int (4 : Int32)), .val (.ref tb613), .val (.int (3 : Int32))] [(.int (3 : Int32))]) G := fun tq kq => K660 tq (XS.iload X656.here hx rfl (hb hby d_jdk_52_method_14_8) rfl kq)
  have K662 : Go p e below T656 (mkF m 11 #[.val (.ref b), .val (.int (3 : Int32)), .val (.int (4 : Int32)), .val (.ref tb613), .val (.int (3 : Int32))] [(.int (4 : Int32)), (.int (3 : Int32))]) G := fun tq kq => K661 tq (XS.iloadN X656.here hx rfl (hb hby d_jdk_52_method_14_10) rfl kq)
  have K663 : Go p e below T656 (mkF m 14 #[.val (.ref b), .val (.int (3 : Int32)), .val (.int (4 : Int32)), .val (.ref tb613), .val (.int (3 : Int32))] []) G := fun tq kq => K662 tq (XS.icmpNo X656.here hx rfl (hb hby d_jdk_52_method_14_11) rfl ((tlt (by decide : (3 : Int32) < (4 : Int32))).2.1) kq)
  have K664 : Go p e below T656 (mkF m 15 #[.val (.ref b), .val (.int (3 : Int32)), .val (.int (4 : Int32)), .val (.ref tb613), .val (.int (3 : Int32))] [(.ref tb613)]) G := fun tq kq => K663 tq (XS.aloadN X656.here hx rfl (hb hby d_jdk_52_method_14_14) rfl rfl kq)
  have K665 : Go p e below T656 (mkF m 17 #[.val (.ref b), .val (.int (3 : Int32)), .val (.int (4 : Int32)), .val (.ref tb613), .val (.int (3 : Int32))] [(.int (3 : Int32)), (.ref tb613)]) G := fun tq kq => K664 tq (XS.iload X656.here hx rfl (hb hby d_jdk_52_method_14_15) rfl kq)
  have K666 : Go p e below T656 (mkF m 18 #[.val (.ref b), .val (.int (3 : Int32)), .val (.int (4 : Int32)), .val (.ref tb613), .val (.int (3 : Int32))] [(.ref b), (.int (3 : Int32)), (.ref tb613)]) G := fun tq kq => K665 tq (XS.aloadN X656.here hx rfl (hb hby d_jdk_52_method_14_17) rfl rfl kq)
  have K667 : Go p e below T656 (mkF m 19 #[.val (.ref b), .val (.int (3 : Int32)), .val (.int (4 : Int32)), .val (.ref tb613), .val (.int (3 : Int32))] [(.int (3 : Int32)), (.ref b), (.int (3 : Int32)), (.ref tb613)]) G := fun tq kq => K666 tq (XS.iloadN X656.here hx rfl (hb hby d_jdk_52_method_14_18) rfl kq)
  obtain ⟨cl668, Ar668, q668, S668, Nn668, Hh668, Gg668⟩ := id ((((V_b.keep K613q nin0).keep K628q (ninS na614 nin0)).keep K642q (ninS na614 nin0)).keep K656q (ninS na614 nin0))
  have hin668 : ¬ ((3 : Int32) < 0 ∨ cl668.slots.size ≤ ((3 : Int32)).toNatClampNeg) := inb_of S668 ⟨by decide, by decide⟩
  have hat668 := Has.at (v := (.int c3)) Hh668 hin668 rfl
  have K669 : Go p e below T656 (mkF m 20 #[.val (.ref b), .val (.int (3 : Int32)), .val (.int (4 : Int32)), .val (.ref tb613), .val (.int (3 : Int32))] [(.int c3), (.int (3 : Int32)), (.ref tb613)]) G := fun tq kq => K667 tq (X656.caload hx (j := (3 : Int32)) (v := (.int c3)) Ar668.1 (State.isArrayOf_alike hZ.alike Ar668.2.1) Ar668.2.2 hin668 hat668 (g := (mkF m 19 #[.val (.ref b), .val (.int (3 : Int32)), .val (.int (4 : Int32)), .val (.ref tb613), .val (.int (3 : Int32))] [(.int (3 : Int32)), (.ref b), (.int (3 : Int32)), (.ref tb613)])) rfl rfl (hb hby d_jdk_52_method_14_19) _ kq)
  obtain ⟨v670, _, ⟨T670, L670, k670, n670⟩, -, X670, ⟨Lc670, hQ670, l670, y670, z670⟩, st670⟩ := Jvm.LawKit.callS X656 hx (y := (⟨"java/lang/StringUTF16", "putChar", "([BII)V"⟩ : MethodName)) hown (mvT hZ (hW 90 _ rfl)) (mvT hZ (hW 91 _ rfl)) (mvT hZ (hW 47 _ rfl)) (mvT hZ (hW 92 _ rfl)) (by decide) (backOf (W := 0) (rmPC l Z a0 hw [] tb613 kb613 (8 : Int32) [(.int (StrChars.lo8 c0)), (.int (StrChars.hi8 c0)), (.int (StrChars.lo8 c1)), (.int (StrChars.hi8 c1)), (.int (StrChars.lo8 c2)), (.int (StrChars.hi8 c2)), (.int (0 : Int32)), (.int (0 : Int32))] (3 : Int32) 3 c3 T656.heap n0 (Nat.le_trans (Nat.le_trans (Nat.le_trans (Nat.le_trans Z0 K613q.1) K628q.1) K642q.1) K656q.1) ((((O0.keep K613q all0).keep K628q (allS ge613 all0)).keep K642q (allS ge613 all0)).keep K656q (allS ge613 all0)) S_ad S_hi S_lo ge613 V656r (by decide +kernel) (Nat.le_of_ble_eq_true rfl)) hZ (hW 92 _ rfl) (hW 47 _ rfl) (by decide) (by decide)) (g := (mkF m 20 #[.val (.ref b), .val (.int (3 : Int32)), .val (.int (4 : Int32)), .val (.ref tb613), .val (.int (3 : Int32))] [(.int c3), (.int (3 : Int32)), (.ref tb613)])) rfl (by rw [hml]; rfl) (argsL := [(.ref tb613), (.int (3 : Int32)), (.int c3)]) (rest := []) (lenOf pd_108 rfl) rfl (by show 2 * 0 + _ ≤ _; exact Nat.le_of_eq rfl) (hb hby d_jdk_52_method_14_20) (fun _ _ => ⟨rfl, rfl, (by decide : 1 + 0 ≤ _), (by decide : 8 + 0 ≤ _)⟩)
  dsimp only [Pt.U, Pt.locs, Pt.cells, Pt.slots] at X670 l670 y670 z670 st670 hQ670
  subst l670 y670 z670
  obtain ⟨rfl, N670q, K670q, V670q⟩ := hQ670
  have N670 := Fr.app N656 N670q
  have V670r : Arv Z T670.heap tb613 kb613 .byte (8 : Int32) [(.int (StrChars.lo8 c0)), (.int (StrChars.hi8 c0)), (.int (StrChars.lo8 c1)), (.int (StrChars.hi8 c1)), (.int (StrChars.lo8 c2)), (.int (StrChars.hi8 c2)), (.int (StrChars.lo8 c3)), (.int (StrChars.hi8 c3))] (.int (0 : Int32)) := V670q
  have K671 : Go p e below T670 (mkF m 23 #[.val (.ref b), .val (.int (3 : Int32)), .val (.int (4 : Int32)), .val (.ref tb613), .val (.int (3 : Int32))] []) G := fun tq kq => K669 tq (st670 tq kq)
  have K672 : Go p e below T670 (mkF m 26 #[.val (.ref b), .val (.int (4 : Int32)), .val (.int (4 : Int32)), .val (.ref tb613), .val (.int (3 : Int32))] []) G := fun tq kq => K671 tq (XS.iinc X670.here hx rfl (hb hby d_jdk_52_method_14_23) rfl (l' := #[.val (.ref b), .val (.int (4 : Int32)), .val (.int (4 : Int32)), .val (.ref tb613), .val (.int (3 : Int32))]) rfl kq)
  have K673 : Go p e below T670 (mkF m 29 #[.val (.ref b), .val (.int (4 : Int32)), .val (.int (4 : Int32)), .val (.ref tb613), .val (.int (4 : Int32))] []) G := fun tq kq => K672 tq (XS.iinc X670.here hx rfl (hb hby d_jdk_52_method_14_26) rfl (l' := #[.val (.ref b), .val (.int (4 : Int32)), .val (.int (4 : Int32)), .val (.ref tb613), .val (.int (4 : Int32))]) rfl kq)
  have K674 : Go p e below T670 (mkF m 8 #[.val (.ref b), .val (.int (4 : Int32)), .val (.int (4 : Int32)), .val (.ref tb613), .val (.int (4 : Int32))] []) G := fun tq kq => K673 tq (XS.goto X670.here hx rfl (pc0 := 29) (pc' := 8) rfl (hb hby d_jdk_52_method_14_29) (by decide) (by decide) kq)
  have K675 : Go p e below T670 (mkF m 10 #[.val (.ref b), .val (.int (4 : Int32)), .val (.int (4 : Int32)), .val (.ref tb613), .val (.int (4 : Int32))] [(.int (4 : Int32))]) G := fun tq kq => K674 tq (XS.iload X670.here hx rfl (hb hby d_jdk_52_method_14_8) rfl kq)
  have K676 : Go p e below T670 (mkF m 11 #[.val (.ref b), .val (.int (4 : Int32)), .val (.int (4 : Int32)), .val (.ref tb613), .val (.int (4 : Int32))] [(.int (4 : Int32)), (.int (4 : Int32))]) G := fun tq kq => K675 tq (XS.iloadN X670.here hx rfl (hb hby d_jdk_52_method_14_10) rfl kq)
  have K677 : Go p e below T670 (mkF m 32 #[.val (.ref b), .val (.int (4 : Int32)), .val (.int (4 : Int32)), .val (.ref tb613), .val (.int (4 : Int32))] []) G := fun tq kq => K676 tq (XS.icmpYes X670.here hx rfl (pc0 := 11) (pc' := 32) rfl (hb hby d_jdk_52_method_14_11) rfl ((flt (by decide : ¬ ((4 : Int32) < (4 : Int32)))).2.1) (by decide) (by decide) kq)
  have K678 : Go p e below T670 (mkF m 33 #[.val (.ref b), .val (.int (4 : Int32)), .val (.int (4 : Int32)), .val (.ref tb613), .val (.int (4 : Int32))] [(.ref tb613)]) G := fun tq kq => K677 tq (XS.aloadN X670.here hx rfl (hb hby d_jdk_52_method_14_32) rfl rfl kq)
  obtain ⟨fs, hr, hrun, hended, hWW, hsame⟩ := X670.leave (v := some (.ref tb613)) (fun h => by rw [Bd.returns] at h; cases h)
  refine ⟨_, _, hG _ (K678 _ (retOut X670 hx Bd.returns rfl (Or.inr (Or.inr (Or.inr (Or.inr ⟨rfl, rfl, rfl⟩)))) (hb hby d_jdk_52_method_14_33) hr)), hrun, hended, _, _, rfl, ?_, ⟨_, rfl⟩, hWW, hsame.mono (by decide) (by decide)⟩
  show QTB4 Z b kc c0 c1 c2 c3 h0 n0 _ T670.heap _
  exact ⟨tb613, _, rfl, N670, ((((((Keep.refl h0 []).trans K613q all0).trans K628q (allS (Or.inr sb613) all0)).trans K642q (allS (Or.inr sb613) all0)).trans K656q (allS (Or.inr sb613) all0)).trans K670q (allS (Or.inr sb613) all0)), sb613, ge613, V670r⟩
def QCP4 (Z : State) (b : Addr) (dd : Addr) (kc : ClassId) (kd : ClassId) (c0 : Int32) (c1 : Int32) (c2 : Int32) (c3 : Int32) (h0 : Heap) (n0 : Nat) (v : Option Value) (h : Heap) (L : List Loc) : Prop := ∃ j : Nat, v = some (.int (Int32.ofNat j)) ∧ j < 4 ∧ (255 : Int32) < ([c0, c1, c2, c3] : List Int32).getD j 0 ∧ Fr n0 L ∧ Keep h0 h [dd]
set_option maxRecDepth 65536 in
set_option maxHeartbeats 40000000 in
theorem rmCP4 (l : Launch) (Z : State) (a0 : Array Value) (hw : ∀ d ∈ tables_1, d.before a0 Z = true) (ws : List Jvm.Cond) (b : Addr) (dd : Addr) (kc : ClassId) (kd : ClassId) (c0 : Int32) (c1 : Int32) (c2 : Int32) (c3 : Int32) (h0 : Heap) (n0 : Nat) (Z0 : n0 ≤ h0.size) (ge_dd : n0 ≤ dd) (nbd : b ≠ dd) (V_b : Arv Z h0 b kc .char (4 : Int32) [(.int c0), (.int c1), (.int c2), (.int c3)] (.int (0 : Int32))) (V_dd : Arv Z h0 dd kd .byte (4 : Int32) [(.int (0 : Int32)), (.int (0 : Int32)), (.int (0 : Int32)), (.int (0 : Int32))] (.int (0 : Int32))) (hwd : ¬ ∀ c ∈ ([c0, c1, c2, c3] : List Int32), ¬ (255 : Int32) < c) :
    MetFree l (⟨"java/lang/StringUTF16", "compress", "([CI[BII)I"⟩ : MethodName) (head1 (Jvm.Cond.code (⟨"java/lang/StringUTF16", "compress", "([CI[BII)I"⟩ : MethodName) jdk_52_method_21_code 7 (some .int) :: ws) ({ frames := 0, cells := 0, slots := 0, locals := 0 } : Room)) (fun aa UU => aa = #[(.ref b), (.int (0 : Int32)), (.ref dd), (.int (0 : Int32)), (.int (4 : Int32))] ∧ Z.Warmed39 UU.vm ∧ UU.heap = h0) (fun _ _ _ _ _ => True) (fun _ UU oo UU' => ∃ vv LL, oo = .returned vv ∧ QCP4 Z b dd kc kd c0 c1 c2 c3 h0 n0 vv UU'.heap LL ∧ FrameEnd UU oo UU' LL ({ frames := 0, cells := 0, slots := 0, locals := 0 } : Room).cells ({ frames := 0, cells := 0, slots := 0, locals := 0 } : Room).slots) := by
  refine MetFree.of_bodySF (plainFor_of_name pn_41) hisR ?_
  intro p e s m args below meth c s₁ Bd hml0 hP hK
  obtain ⟨rfl, hZ, hh⟩ := hP
  have hx := Bd.exec
  have hby := Bd.bytes
  have hml : c.maxLocals = 7 := hml0
  have hown : s.vm.findClass "java/lang/StringUTF16" = some m.cls := findClass_of_methodNamed Bd.named
  have hnm := (name_of_methodNamed Bd.named Bd.method).1
  have hW : ∀ (k : Nat) (d : Jvm.Cond), tables_1[k]? = some d → d.before a0 Z = true := fun k d h => hw d (List.mem_of_getElem? h)
  have X0 : Stand p l e ({ frames := 0, cells := 0, slots := 0, locals := 0 } : Room) s m #[(.ref b), (.int (0 : Int32)), (.ref dd), (.int (0 : Int32)), (.int (4 : Int32))] below meth c s₁ [] 0 0 := Stand.of_body Bd
  have e0 : s₁.heap = h0 := by rw [← hh, Bd.state]; rfl
  have N0 := Fr.nil n0
  obtain ⟨G, hG, K0⟩ : ∃ G : State → Prop, (∀ tq, G tq → Steps p.tables e below (s₁.setTop (entryFrame m #[(.ref b), (.int (0 : Int32)), (.ref dd), (.int (0 : Int32)), (.int (4 : Int32))] 7)) tq) ∧ Go p e below s₁ (mkF m 0 #[.val (.ref b), .val (.int (0 : Int32)), .val (.ref dd), .val (.int (0 : Int32)), .val (.int (4 : Int32)), .unset, .unset] []) G := ⟨fun tq => Steps p.tables e below (s₁.setTop (entryFrame m #[(.ref b), (.int (0 : Int32)), (.ref dd), (.int (0 : Int32)), (.int (4 : Int32))] 7)) tq, fun _ h => h, fun tq kq => castTop (ef_jdk_52_method_21_RIRII m b (0 : Int32) dd (0 : Int32) (4 : Int32)) kq⟩
  have K679 : Go p e below s₁ (mkF m 1 #[.val (.ref b), .val (.int (0 : Int32)), .val (.ref dd), .val (.int (0 : Int32)), .val (.int (4 : Int32)), .unset, .unset] [(.int (0 : Int32))]) G := fun tq kq => K0 tq (XS.iconst X0.here hx rfl (hb hby d_jdk_52_method_21_0) kq)
  have K680 : Go p e below s₁ (mkF m 3 #[.val (.ref b), .val (.int (0 : Int32)), .val (.ref dd), .val (.int (0 : Int32)), .val (.int (4 : Int32)), .val (.int (0 : Int32)), .unset] []) G := fun tq kq => K679 tq (XS.istore X0.here hx rfl (hb hby d_jdk_52_method_21_1) rfl (l' := #[.val (.ref b), .val (.int (0 : Int32)), .val (.ref dd), .val (.int (0 : Int32)), .val (.int (4 : Int32)), .val (.int (0 : Int32)), .unset]) rfl kq)
  have K681 : Go p e below s₁ (mkF m 5 #[.val (.ref b), .val (.int (0 : Int32)), .val (.ref dd), .val (.int (0 : Int32)), .val (.int (4 : Int32)), .val (.int (0 : Int32)), .unset] [(.int (0 : Int32))]) G := fun tq kq => K680 tq (XS.iload X0.here hx rfl (hb hby d_jdk_52_method_21_3) rfl kq)
  have K682 : Go p e below s₁ (mkF m 7 #[.val (.ref b), .val (.int (0 : Int32)), .val (.ref dd), .val (.int (0 : Int32)), .val (.int (4 : Int32)), .val (.int (0 : Int32)), .unset] [(.int (4 : Int32)), (.int (0 : Int32))]) G := fun tq kq => K681 tq (XS.iload X0.here hx rfl (hb hby d_jdk_52_method_21_5) rfl kq)
  have K683 : Go p e below s₁ (mkF m 10 #[.val (.ref b), .val (.int (0 : Int32)), .val (.ref dd), .val (.int (0 : Int32)), .val (.int (4 : Int32)), .val (.int (0 : Int32)), .unset] []) G := fun tq kq => K682 tq (XS.icmpNo X0.here hx rfl (hb hby d_jdk_52_method_21_7) rfl ((tlt (by decide : (0 : Int32) < (4 : Int32))).2.1) kq)
  have K684 : Go p e below s₁ (mkF m 11 #[.val (.ref b), .val (.int (0 : Int32)), .val (.ref dd), .val (.int (0 : Int32)), .val (.int (4 : Int32)), .val (.int (0 : Int32)), .unset] [(.ref b)]) G := fun tq kq => K683 tq (XS.aloadN X0.here hx rfl (hb hby d_jdk_52_method_21_10) rfl rfl kq)
  have K685 : Go p e below s₁ (mkF m 12 #[.val (.ref b), .val (.int (0 : Int32)), .val (.ref dd), .val (.int (0 : Int32)), .val (.int (4 : Int32)), .val (.int (0 : Int32)), .unset] [(.int (0 : Int32)), (.ref b)]) G := fun tq kq => K684 tq (XS.iloadN X0.here hx rfl (hb hby d_jdk_52_method_21_11) rfl kq)
  obtain ⟨cl686, Ar686, q686, S686, Nn686, Hh686, Gg686⟩ := id V_b
  have hin686 : ¬ ((0 : Int32) < 0 ∨ cl686.slots.size ≤ ((0 : Int32)).toNatClampNeg) := inb_of S686 ⟨by decide, by decide⟩
  have hat686 := Has.at (v := (.int c0)) Hh686 hin686 rfl
  have K687 : Go p e below s₁ (mkF m 13 #[.val (.ref b), .val (.int (0 : Int32)), .val (.ref dd), .val (.int (0 : Int32)), .val (.int (4 : Int32)), .val (.int (0 : Int32)), .unset] [(.int c0)]) G := fun tq kq => K685 tq (X0.caload hx (j := (0 : Int32)) (v := (.int c0)) (by rw [e0]; exact Ar686.1) (State.isArrayOf_alike hZ.alike Ar686.2.1) Ar686.2.2 hin686 hat686 (g := (mkF m 12 #[.val (.ref b), .val (.int (0 : Int32)), .val (.ref dd), .val (.int (0 : Int32)), .val (.int (4 : Int32)), .val (.int (0 : Int32)), .unset] [(.int (0 : Int32)), (.ref b)])) rfl rfl (hb hby d_jdk_52_method_21_12) _ kq)
  have K688 : Go p e below s₁ (mkF m 15 #[.val (.ref b), .val (.int (0 : Int32)), .val (.ref dd), .val (.int (0 : Int32)), .val (.int (4 : Int32)), .val (.int (0 : Int32)), .val (.int c0)] []) G := fun tq kq => K687 tq (XS.istore X0.here hx rfl (hb hby d_jdk_52_method_21_13) rfl (l' := #[.val (.ref b), .val (.int (0 : Int32)), .val (.ref dd), .val (.int (0 : Int32)), .val (.int (4 : Int32)), .val (.int (0 : Int32)), .val (.int c0)]) rfl kq)
  have K689 : Go p e below s₁ (mkF m 17 #[.val (.ref b), .val (.int (0 : Int32)), .val (.ref dd), .val (.int (0 : Int32)), .val (.int (4 : Int32)), .val (.int (0 : Int32)), .val (.int c0)] [(.int c0)]) G := fun tq kq => K688 tq (XS.iload X0.here hx rfl (hb hby d_jdk_52_method_21_15) rfl kq)
  have K690 : Go p e below s₁ (mkF m 20 #[.val (.ref b), .val (.int (0 : Int32)), .val (.ref dd), .val (.int (0 : Int32)), .val (.int (4 : Int32)), .val (.int (0 : Int32)), .val (.int c0)] [(.int (255 : Int32)), (.int c0)]) G := fun tq kq => K689 tq (XS.sipush X0.here hx rfl (hb hby d_jdk_52_method_21_17) kq)
  by_cases hc691 : (255 : Int32) < c0
  · skip
    have K692 : Go p e below s₁ (mkF m 23 #[.val (.ref b), .val (.int (0 : Int32)), .val (.ref dd), .val (.int (0 : Int32)), .val (.int (4 : Int32)), .val (.int (0 : Int32)), .val (.int c0)] []) G := fun tq kq => K690 tq (XS.icmpNo X0.here hx rfl (hb hby d_jdk_52_method_21_20) rfl ((tlt hc691).2.2.2) kq)
    have K693 : Go p e below s₁ (mkF m 25 #[.val (.ref b), .val (.int (0 : Int32)), .val (.ref dd), .val (.int (0 : Int32)), .val (.int (4 : Int32)), .val (.int (0 : Int32)), .val (.int c0)] [(.int (0 : Int32))]) G := fun tq kq => K692 tq (XS.iload X0.here hx rfl (hb hby d_jdk_52_method_21_23) rfl kq)
    obtain ⟨fs, hr, hrun, hended, hWW, hsame⟩ := X0.leave (v := some (.int (0 : Int32))) (fun h => by rw [Bd.returns] at h; cases h)
    refine ⟨_, _, hG _ (K693 _ (retOut X0 hx Bd.returns rfl (Or.inl ⟨rfl, Or.inl rfl, _, rfl⟩) (hb hby d_jdk_52_method_21_25) hr)), hrun, hended, _, _, rfl, ?_, ⟨_, rfl⟩, hWW, hsame.mono (by decide) (by decide)⟩
    show QCP4 Z b dd kc kd c0 c1 c2 c3 h0 n0 _ s₁.heap _
    rw [e0]
    exact ⟨0, rfl, by decide, hc691, N0, (Keep.refl h0 [dd])⟩
  · skip
    have K694 : Go p e below s₁ (mkF m 26 #[.val (.ref b), .val (.int (0 : Int32)), .val (.ref dd), .val (.int (0 : Int32)), .val (.int (4 : Int32)), .val (.int (0 : Int32)), .val (.int c0)] []) G := fun tq kq => K690 tq (XS.icmpYes X0.here hx rfl (pc0 := 20) (pc' := 26) rfl (hb hby d_jdk_52_method_21_20) rfl ((flt hc691).2.2.2) (by decide) (by decide) kq)
    have K695 : Go p e below s₁ (mkF m 27 #[.val (.ref b), .val (.int (0 : Int32)), .val (.ref dd), .val (.int (0 : Int32)), .val (.int (4 : Int32)), .val (.int (0 : Int32)), .val (.int c0)] [(.ref dd)]) G := fun tq kq => K694 tq (XS.aloadN X0.here hx rfl (hb hby d_jdk_52_method_21_26) rfl rfl kq)
    have K696 : Go p e below s₁ (mkF m 28 #[.val (.ref b), .val (.int (0 : Int32)), .val (.ref dd), .val (.int (0 : Int32)), .val (.int (4 : Int32)), .val (.int (0 : Int32)), .val (.int c0)] [(.int (0 : Int32)), (.ref dd)]) G := fun tq kq => K695 tq (XS.iloadN X0.here hx rfl (hb hby d_jdk_52_method_21_27) rfl kq)
    have K697 : Go p e below s₁ (mkF m 30 #[.val (.ref b), .val (.int (0 : Int32)), .val (.ref dd), .val (.int (0 : Int32)), .val (.int (4 : Int32)), .val (.int (0 : Int32)), .val (.int c0)] [(.int c0), (.int (0 : Int32)), (.ref dd)]) G := fun tq kq => K696 tq (XS.iload X0.here hx rfl (hb hby d_jdk_52_method_21_28) rfl kq)
    have K698 : Go p e below s₁ (mkF m 31 #[.val (.ref b), .val (.int (0 : Int32)), .val (.ref dd), .val (.int (0 : Int32)), .val (.int (4 : Int32)), .val (.int (0 : Int32)), .val (.int c0)] [(.int (c0.toInt8.toInt32)), (.int (0 : Int32)), (.ref dd)]) G := fun tq kq => K697 tq (XS.i2b X0.here hx rfl (hb hby d_jdk_52_method_21_30) rfl kq)
    obtain ⟨cl699, Ar699, q699, S699, Nn699, Hh699, Gg699⟩ := id V_dd
    have hin699 : ¬ ((0 : Int32) < 0 ∨ cl699.slots.size ≤ ((0 : Int32)).toNatClampNeg) := inb_of S699 ⟨by decide, by decide⟩
    obtain ⟨T699, h699, X699, e699, W699, st699⟩ := stB X0 hx hZ e0 Ar699 (j := (0 : Int32)) hin699 (g := (mkF m 31 #[.val (.ref b), .val (.int (0 : Int32)), .val (.ref dd), .val (.int (0 : Int32)), .val (.int (4 : Int32)), .val (.int (0 : Int32)), .val (.int c0)] [(.int (c0.toInt8.toInt32)), (.int (0 : Int32)), (.ref dd)])) rfl rfl (hb hby d_jdk_52_method_21_31)
    have V699 : Arv Z h699 dd kd .byte (4 : Int32) [(.int (nar .byte (c0.toInt8.toInt32))), (.int (0 : Int32)), (.int (0 : Int32)), (.int (0 : Int32))] (.int (0 : Int32)) := Arv.set Ar699 q699 S699 Nn699 Hh699 Gg699 (fits_nar_byte _) W699 0 rfl (Nat.le_of_ble_eq_true rfl)
    have N699 := Fr.snoc X699 N0 ge_dd
    have K700 : Go p e below T699 (mkF m 32 #[.val (.ref b), .val (.int (0 : Int32)), .val (.ref dd), .val (.int (0 : Int32)), .val (.int (4 : Int32)), .val (.int (0 : Int32)), .val (.int c0)] []) G := fun tq kq => K698 tq (st699 tq kq)
    have K701 : Go p e below T699 (mkF m 35 #[.val (.ref b), .val (.int (1 : Int32)), .val (.ref dd), .val (.int (0 : Int32)), .val (.int (4 : Int32)), .val (.int (0 : Int32)), .val (.int c0)] []) G := fun tq kq => K700 tq (XS.iinc X699.here hx rfl (hb hby d_jdk_52_method_21_32) rfl (l' := #[.val (.ref b), .val (.int (1 : Int32)), .val (.ref dd), .val (.int (0 : Int32)), .val (.int (4 : Int32)), .val (.int (0 : Int32)), .val (.int c0)]) rfl kq)
    have K702 : Go p e below T699 (mkF m 38 #[.val (.ref b), .val (.int (1 : Int32)), .val (.ref dd), .val (.int (1 : Int32)), .val (.int (4 : Int32)), .val (.int (0 : Int32)), .val (.int c0)] []) G := fun tq kq => K701 tq (XS.iinc X699.here hx rfl (hb hby d_jdk_52_method_21_35) rfl (l' := #[.val (.ref b), .val (.int (1 : Int32)), .val (.ref dd), .val (.int (1 : Int32)), .val (.int (4 : Int32)), .val (.int (0 : Int32)), .val (.int c0)]) rfl kq)
    have K703 : Go p e below T699 (mkF m 41 #[.val (.ref b), .val (.int (1 : Int32)), .val (.ref dd), .val (.int (1 : Int32)), .val (.int (4 : Int32)), .val (.int (1 : Int32)), .val (.int c0)] []) G := fun tq kq => K702 tq (XS.iinc X699.here hx rfl (hb hby d_jdk_52_method_21_38) rfl (l' := #[.val (.ref b), .val (.int (1 : Int32)), .val (.ref dd), .val (.int (1 : Int32)), .val (.int (4 : Int32)), .val (.int (1 : Int32)), .val (.int c0)]) rfl kq)
    have K704 : Go p e below T699 (mkF m 3 #[.val (.ref b), .val (.int (1 : Int32)), .val (.ref dd), .val (.int (1 : Int32)), .val (.int (4 : Int32)), .val (.int (1 : Int32)), .val (.int c0)] []) G := fun tq kq => K703 tq (XS.goto X699.here hx rfl (pc0 := 41) (pc' := 3) rfl (hb hby d_jdk_52_method_21_41) (by decide) (by decide) kq)
    have K705 : Go p e below T699 (mkF m 5 #[.val (.ref b), .val (.int (1 : Int32)), .val (.ref dd), .val (.int (1 : Int32)), .val (.int (4 : Int32)), .val (.int (1 : Int32)), .val (.int c0)] [(.int (1 : Int32))]) G := fun tq kq => K704 tq (XS.iload X699.here hx rfl (hb hby d_jdk_52_method_21_3) rfl kq)
    have K706 : Go p e below T699 (mkF m 7 #[.val (.ref b), .val (.int (1 : Int32)), .val (.ref dd), .val (.int (1 : Int32)), .val (.int (4 : Int32)), .val (.int (1 : Int32)), .val (.int c0)] [(.int (4 : Int32)), (.int (1 : Int32))]) G := fun tq kq => K705 tq (XS.iload X699.here hx rfl (hb hby d_jdk_52_method_21_5) rfl kq)
    have K707 : Go p e below T699 (mkF m 10 #[.val (.ref b), .val (.int (1 : Int32)), .val (.ref dd), .val (.int (1 : Int32)), .val (.int (4 : Int32)), .val (.int (1 : Int32)), .val (.int c0)] []) G := fun tq kq => K706 tq (XS.icmpNo X699.here hx rfl (hb hby d_jdk_52_method_21_7) rfl ((tlt (by decide : (1 : Int32) < (4 : Int32))).2.1) kq)
    have K708 : Go p e below T699 (mkF m 11 #[.val (.ref b), .val (.int (1 : Int32)), .val (.ref dd), .val (.int (1 : Int32)), .val (.int (4 : Int32)), .val (.int (1 : Int32)), .val (.int c0)] [(.ref b)]) G := fun tq kq => K707 tq (XS.aloadN X699.here hx rfl (hb hby d_jdk_52_method_21_10) rfl rfl kq)
    have K709 : Go p e below T699 (mkF m 12 #[.val (.ref b), .val (.int (1 : Int32)), .val (.ref dd), .val (.int (1 : Int32)), .val (.int (4 : Int32)), .val (.int (1 : Int32)), .val (.int c0)] [(.int (1 : Int32)), (.ref b)]) G := fun tq kq => K708 tq (XS.iloadN X699.here hx rfl (hb hby d_jdk_52_method_21_11) rfl kq)
    obtain ⟨cl710, Ar710, q710, S710, Nn710, Hh710, Gg710⟩ := id (V_b.other W699 nbd)
    have hin710 : ¬ ((1 : Int32) < 0 ∨ cl710.slots.size ≤ ((1 : Int32)).toNatClampNeg) := inb_of S710 ⟨by decide, by decide⟩
    have hat710 := Has.at (v := (.int c1)) Hh710 hin710 rfl
    have K711 : Go p e below T699 (mkF m 13 #[.val (.ref b), .val (.int (1 : Int32)), .val (.ref dd), .val (.int (1 : Int32)), .val (.int (4 : Int32)), .val (.int (1 : Int32)), .val (.int c0)] [(.int c1)]) G := fun tq kq => K709 tq (X699.caload hx (j := (1 : Int32)) (v := (.int c1)) (by rw [e699]; exact Ar710.1) (State.isArrayOf_alike hZ.alike Ar710.2.1) Ar710.2.2 hin710 hat710 (g := (mkF m 12 #[.val (.ref b), .val (.int (1 : Int32)), .val (.ref dd), .val (.int (1 : Int32)), .val (.int (4 : Int32)), .val (.int (1 : Int32)), .val (.int c0)] [(.int (1 : Int32)), (.ref b)])) rfl rfl (hb hby d_jdk_52_method_21_12) _ kq)
    have K712 : Go p e below T699 (mkF m 15 #[.val (.ref b), .val (.int (1 : Int32)), .val (.ref dd), .val (.int (1 : Int32)), .val (.int (4 : Int32)), .val (.int (1 : Int32)), .val (.int c1)] []) G := fun tq kq => K711 tq (XS.istore X699.here hx rfl (hb hby d_jdk_52_method_21_13) rfl (l' := #[.val (.ref b), .val (.int (1 : Int32)), .val (.ref dd), .val (.int (1 : Int32)), .val (.int (4 : Int32)), .val (.int (1 : Int32)), .val (.int c1)]) rfl kq)
    have K713 : Go p e below T699 (mkF m 17 #[.val (.ref b), .val (.int (1 : Int32)), .val (.ref dd), .val (.int (1 : Int32)), .val (.int (4 : Int32)), .val (.int (1 : Int32)), .val (.int c1)] [(.int c1)]) G := fun tq kq => K712 tq (XS.iload X699.here hx rfl (hb hby d_jdk_52_method_21_15) rfl kq)
    have K714 : Go p e below T699 (mkF m 20 #[.val (.ref b), .val (.int (1 : Int32)), .val (.ref dd), .val (.int (1 : Int32)), .val (.int (4 : Int32)), .val (.int (1 : Int32)), .val (.int c1)] [(.int (255 : Int32)), (.int c1)]) G := fun tq kq => K713 tq (XS.sipush X699.here hx rfl (hb hby d_jdk_52_method_21_17) kq)
    by_cases hc715 : (255 : Int32) < c1
    · skip
      have K716 : Go p e below T699 (mkF m 23 #[.val (.ref b), .val (.int (1 : Int32)), .val (.ref dd), .val (.int (1 : Int32)), .val (.int (4 : Int32)), .val (.int (1 : Int32)), .val (.int c1)] []) G := fun tq kq => K714 tq (XS.icmpNo X699.here hx rfl (hb hby d_jdk_52_method_21_20) rfl ((tlt hc715).2.2.2) kq)
      have K717 : Go p e below T699 (mkF m 25 #[.val (.ref b), .val (.int (1 : Int32)), .val (.ref dd), .val (.int (1 : Int32)), .val (.int (4 : Int32)), .val (.int (1 : Int32)), .val (.int c1)] [(.int (1 : Int32))]) G := fun tq kq => K716 tq (XS.iload X699.here hx rfl (hb hby d_jdk_52_method_21_23) rfl kq)
      obtain ⟨fs, hr, hrun, hended, hWW, hsame⟩ := X699.leave (v := some (.int (1 : Int32))) (fun h => by rw [Bd.returns] at h; cases h)
      refine ⟨_, _, hG _ (K717 _ (retOut X699 hx Bd.returns rfl (Or.inl ⟨rfl, Or.inl rfl, _, rfl⟩) (hb hby d_jdk_52_method_21_25) hr)), hrun, hended, _, _, rfl, ?_, ⟨_, rfl⟩, hWW, hsame.mono (by decide) (by decide)⟩
      show QCP4 Z b dd kc kd c0 c1 c2 c3 h0 n0 _ T699.heap _
      rw [e699]
      exact ⟨1, rfl, by decide, hc715, N699, ((Keep.refl h0 [dd]).wr W699 (Or.inl (List.mem_of_getElem? (i := 0) rfl)))⟩
    · skip
      have K718 : Go p e below T699 (mkF m 26 #[.val (.ref b), .val (.int (1 : Int32)), .val (.ref dd), .val (.int (1 : Int32)), .val (.int (4 : Int32)), .val (.int (1 : Int32)), .val (.int c1)] []) G := fun tq kq => K714 tq (XS.icmpYes X699.here hx rfl (pc0 := 20) (pc' := 26) rfl (hb hby d_jdk_52_method_21_20) rfl ((flt hc715).2.2.2) (by decide) (by decide) kq)
      have K719 : Go p e below T699 (mkF m 27 #[.val (.ref b), .val (.int (1 : Int32)), .val (.ref dd), .val (.int (1 : Int32)), .val (.int (4 : Int32)), .val (.int (1 : Int32)), .val (.int c1)] [(.ref dd)]) G := fun tq kq => K718 tq (XS.aloadN X699.here hx rfl (hb hby d_jdk_52_method_21_26) rfl rfl kq)
      have K720 : Go p e below T699 (mkF m 28 #[.val (.ref b), .val (.int (1 : Int32)), .val (.ref dd), .val (.int (1 : Int32)), .val (.int (4 : Int32)), .val (.int (1 : Int32)), .val (.int c1)] [(.int (1 : Int32)), (.ref dd)]) G := fun tq kq => K719 tq (XS.iloadN X699.here hx rfl (hb hby d_jdk_52_method_21_27) rfl kq)
      have K721 : Go p e below T699 (mkF m 30 #[.val (.ref b), .val (.int (1 : Int32)), .val (.ref dd), .val (.int (1 : Int32)), .val (.int (4 : Int32)), .val (.int (1 : Int32)), .val (.int c1)] [(.int c1), (.int (1 : Int32)), (.ref dd)]) G := fun tq kq => K720 tq (XS.iload X699.here hx rfl (hb hby d_jdk_52_method_21_28) rfl kq)
      have K722 : Go p e below T699 (mkF m 31 #[.val (.ref b), .val (.int (1 : Int32)), .val (.ref dd), .val (.int (1 : Int32)), .val (.int (4 : Int32)), .val (.int (1 : Int32)), .val (.int c1)] [(.int (c1.toInt8.toInt32)), (.int (1 : Int32)), (.ref dd)]) G := fun tq kq => K721 tq (XS.i2b X699.here hx rfl (hb hby d_jdk_52_method_21_30) rfl kq)
      obtain ⟨cl723, Ar723, q723, S723, Nn723, Hh723, Gg723⟩ := id V699
      have hin723 : ¬ ((1 : Int32) < 0 ∨ cl723.slots.size ≤ ((1 : Int32)).toNatClampNeg) := inb_of S723 ⟨by decide, by decide⟩
      obtain ⟨T723, h723, X723, e723, W723, st723⟩ := stB X699 hx hZ e699 Ar723 (j := (1 : Int32)) hin723 (g := (mkF m 31 #[.val (.ref b), .val (.int (1 : Int32)), .val (.ref dd), .val (.int (1 : Int32)), .val (.int (4 : Int32)), .val (.int (1 : Int32)), .val (.int c1)] [(.int (c1.toInt8.toInt32)), (.int (1 : Int32)), (.ref dd)])) rfl rfl (hb hby d_jdk_52_method_21_31)
      have V723 : Arv Z h723 dd kd .byte (4 : Int32) [(.int (nar .byte (c0.toInt8.toInt32))), (.int (nar .byte (c1.toInt8.toInt32))), (.int (0 : Int32)), (.int (0 : Int32))] (.int (0 : Int32)) := Arv.set Ar723 q723 S723 Nn723 Hh723 Gg723 (fits_nar_byte _) W723 1 rfl (Nat.le_of_ble_eq_true rfl)
      have N723 := Fr.snoc X723 N699 ge_dd
      have K724 : Go p e below T723 (mkF m 32 #[.val (.ref b), .val (.int (1 : Int32)), .val (.ref dd), .val (.int (1 : Int32)), .val (.int (4 : Int32)), .val (.int (1 : Int32)), .val (.int c1)] []) G := fun tq kq => K722 tq (st723 tq kq)
      have K725 : Go p e below T723 (mkF m 35 #[.val (.ref b), .val (.int (2 : Int32)), .val (.ref dd), .val (.int (1 : Int32)), .val (.int (4 : Int32)), .val (.int (1 : Int32)), .val (.int c1)] []) G := fun tq kq => K724 tq (XS.iinc X723.here hx rfl (hb hby d_jdk_52_method_21_32) rfl (l' := #[.val (.ref b), .val (.int (2 : Int32)), .val (.ref dd), .val (.int (1 : Int32)), .val (.int (4 : Int32)), .val (.int (1 : Int32)), .val (.int c1)]) rfl kq)
      have K726 : Go p e below T723 (mkF m 38 #[.val (.ref b), .val (.int (2 : Int32)), .val (.ref dd), .val (.int (2 : Int32)), .val (.int (4 : Int32)), .val (.int (1 : Int32)), .val (.int c1)] []) G := fun tq kq => K725 tq (XS.iinc X723.here hx rfl (hb hby d_jdk_52_method_21_35) rfl (l' := #[.val (.ref b), .val (.int (2 : Int32)), .val (.ref dd), .val (.int (2 : Int32)), .val (.int (4 : Int32)), .val (.int (1 : Int32)), .val (.int c1)]) rfl kq)
      have K727 : Go p e below T723 (mkF m 41 #[.val (.ref b), .val (.int (2 : Int32)), .val (.ref dd), .val (.int (2 : Int32)), .val (.int (4 : Int32)), .val (.int (2 : Int32)), .val (.int c1)] []) G := fun tq kq => K726 tq (XS.iinc X723.here hx rfl (hb hby d_jdk_52_method_21_38) rfl (l' := #[.val (.ref b), .val (.int (2 : Int32)), .val (.ref dd), .val (.int (2 : Int32)), .val (.int (4 : Int32)), .val (.int (2 : Int32)), .val (.int c1)]) rfl kq)
      have K728 : Go p e below T723 (mkF m 3 #[.val (.ref b), .val (.int (2 : Int32)), .val (.ref dd), .val (.int (2 : Int32)), .val (.int (4 : Int32)), .val (.int (2 : Int32)), .val (.int c1)] []) G := fun tq kq => K727 tq (XS.goto X723.here hx rfl (pc0 := 41) (pc' := 3) rfl (hb hby d_jdk_52_method_21_41) (by decide) (by decide) kq)
      have K729 : Go p e below T723 (mkF m 5 #[.val (.ref b), .val (.int (2 : Int32)), .val (.ref dd), .val (.int (2 : Int32)), .val (.int (4 : Int32)), .val (.int (2 : Int32)), .val (.int c1)] [(.int (2 : Int32))]) G := fun tq kq => K728 tq (XS.iload X723.here hx rfl (hb hby d_jdk_52_method_21_3) rfl kq)
      have K730 : Go p e below T723 (mkF m 7 #[.val (.ref b), .val (.int (2 : Int32)), .val (.ref dd), .val (.int (2 : Int32)), .val (.int (4 : Int32)), .val (.int (2 : Int32)), .val (.int c1)] [(.int (4 : Int32)), (.int (2 : Int32))]) G := fun tq kq => K729 tq (XS.iload X723.here hx rfl (hb hby d_jdk_52_method_21_5) rfl kq)
      have K731 : Go p e below T723 (mkF m 10 #[.val (.ref b), .val (.int (2 : Int32)), .val (.ref dd), .val (.int (2 : Int32)), .val (.int (4 : Int32)), .val (.int (2 : Int32)), .val (.int c1)] []) G := fun tq kq => K730 tq (XS.icmpNo X723.here hx rfl (hb hby d_jdk_52_method_21_7) rfl ((tlt (by decide : (2 : Int32) < (4 : Int32))).2.1) kq)
      have K732 : Go p e below T723 (mkF m 11 #[.val (.ref b), .val (.int (2 : Int32)), .val (.ref dd), .val (.int (2 : Int32)), .val (.int (4 : Int32)), .val (.int (2 : Int32)), .val (.int c1)] [(.ref b)]) G := fun tq kq => K731 tq (XS.aloadN X723.here hx rfl (hb hby d_jdk_52_method_21_10) rfl rfl kq)
      have K733 : Go p e below T723 (mkF m 12 #[.val (.ref b), .val (.int (2 : Int32)), .val (.ref dd), .val (.int (2 : Int32)), .val (.int (4 : Int32)), .val (.int (2 : Int32)), .val (.int c1)] [(.int (2 : Int32)), (.ref b)]) G := fun tq kq => K732 tq (XS.iloadN X723.here hx rfl (hb hby d_jdk_52_method_21_11) rfl kq)
      obtain ⟨cl734, Ar734, q734, S734, Nn734, Hh734, Gg734⟩ := id ((V_b.other W699 nbd).other W723 nbd)
      have hin734 : ¬ ((2 : Int32) < 0 ∨ cl734.slots.size ≤ ((2 : Int32)).toNatClampNeg) := inb_of S734 ⟨by decide, by decide⟩
      have hat734 := Has.at (v := (.int c2)) Hh734 hin734 rfl
      have K735 : Go p e below T723 (mkF m 13 #[.val (.ref b), .val (.int (2 : Int32)), .val (.ref dd), .val (.int (2 : Int32)), .val (.int (4 : Int32)), .val (.int (2 : Int32)), .val (.int c1)] [(.int c2)]) G := fun tq kq => K733 tq (X723.caload hx (j := (2 : Int32)) (v := (.int c2)) (by rw [e723]; exact Ar734.1) (State.isArrayOf_alike hZ.alike Ar734.2.1) Ar734.2.2 hin734 hat734 (g := (mkF m 12 #[.val (.ref b), .val (.int (2 : Int32)), .val (.ref dd), .val (.int (2 : Int32)), .val (.int (4 : Int32)), .val (.int (2 : Int32)), .val (.int c1)] [(.int (2 : Int32)), (.ref b)])) rfl rfl (hb hby d_jdk_52_method_21_12) _ kq)
      have K736 : Go p e below T723 (mkF m 15 #[.val (.ref b), .val (.int (2 : Int32)), .val (.ref dd), .val (.int (2 : Int32)), .val (.int (4 : Int32)), .val (.int (2 : Int32)), .val (.int c2)] []) G := fun tq kq => K735 tq (XS.istore X723.here hx rfl (hb hby d_jdk_52_method_21_13) rfl (l' := #[.val (.ref b), .val (.int (2 : Int32)), .val (.ref dd), .val (.int (2 : Int32)), .val (.int (4 : Int32)), .val (.int (2 : Int32)), .val (.int c2)]) rfl kq)
      have K737 : Go p e below T723 (mkF m 17 #[.val (.ref b), .val (.int (2 : Int32)), .val (.ref dd), .val (.int (2 : Int32)), .val (.int (4 : Int32)), .val (.int (2 : Int32)), .val (.int c2)] [(.int c2)]) G := fun tq kq => K736 tq (XS.iload X723.here hx rfl (hb hby d_jdk_52_method_21_15) rfl kq)
      have K738 : Go p e below T723 (mkF m 20 #[.val (.ref b), .val (.int (2 : Int32)), .val (.ref dd), .val (.int (2 : Int32)), .val (.int (4 : Int32)), .val (.int (2 : Int32)), .val (.int c2)] [(.int (255 : Int32)), (.int c2)]) G := fun tq kq => K737 tq (XS.sipush X723.here hx rfl (hb hby d_jdk_52_method_21_17) kq)
      by_cases hc739 : (255 : Int32) < c2
      · skip
        have K740 : Go p e below T723 (mkF m 23 #[.val (.ref b), .val (.int (2 : Int32)), .val (.ref dd), .val (.int (2 : Int32)), .val (.int (4 : Int32)), .val (.int (2 : Int32)), .val (.int c2)] []) G := fun tq kq => K738 tq (XS.icmpNo X723.here hx rfl (hb hby d_jdk_52_method_21_20) rfl ((tlt hc739).2.2.2) kq)
        have K741 : Go p e below T723 (mkF m 25 #[.val (.ref b), .val (.int (2 : Int32)), .val (.ref dd), .val (.int (2 : Int32)), .val (.int (4 : Int32)), .val (.int (2 : Int32)), .val (.int c2)] [(.int (2 : Int32))]) G := fun tq kq => K740 tq (XS.iload X723.here hx rfl (hb hby d_jdk_52_method_21_23) rfl kq)
        obtain ⟨fs, hr, hrun, hended, hWW, hsame⟩ := X723.leave (v := some (.int (2 : Int32))) (fun h => by rw [Bd.returns] at h; cases h)
        refine ⟨_, _, hG _ (K741 _ (retOut X723 hx Bd.returns rfl (Or.inl ⟨rfl, Or.inl rfl, _, rfl⟩) (hb hby d_jdk_52_method_21_25) hr)), hrun, hended, _, _, rfl, ?_, ⟨_, rfl⟩, hWW, hsame.mono (by decide) (by decide)⟩
        show QCP4 Z b dd kc kd c0 c1 c2 c3 h0 n0 _ T723.heap _
        rw [e723]
        exact ⟨2, rfl, by decide, hc739, N723, (((Keep.refl h0 [dd]).wr W699 (Or.inl (List.mem_of_getElem? (i := 0) rfl))).wr W723 (Or.inl (List.mem_of_getElem? (i := 0) rfl)))⟩
      · skip
        have K742 : Go p e below T723 (mkF m 26 #[.val (.ref b), .val (.int (2 : Int32)), .val (.ref dd), .val (.int (2 : Int32)), .val (.int (4 : Int32)), .val (.int (2 : Int32)), .val (.int c2)] []) G := fun tq kq => K738 tq (XS.icmpYes X723.here hx rfl (pc0 := 20) (pc' := 26) rfl (hb hby d_jdk_52_method_21_20) rfl ((flt hc739).2.2.2) (by decide) (by decide) kq)
        have K743 : Go p e below T723 (mkF m 27 #[.val (.ref b), .val (.int (2 : Int32)), .val (.ref dd), .val (.int (2 : Int32)), .val (.int (4 : Int32)), .val (.int (2 : Int32)), .val (.int c2)] [(.ref dd)]) G := fun tq kq => K742 tq (XS.aloadN X723.here hx rfl (hb hby d_jdk_52_method_21_26) rfl rfl kq)
        have K744 : Go p e below T723 (mkF m 28 #[.val (.ref b), .val (.int (2 : Int32)), .val (.ref dd), .val (.int (2 : Int32)), .val (.int (4 : Int32)), .val (.int (2 : Int32)), .val (.int c2)] [(.int (2 : Int32)), (.ref dd)]) G := fun tq kq => K743 tq (XS.iloadN X723.here hx rfl (hb hby d_jdk_52_method_21_27) rfl kq)
        have K745 : Go p e below T723 (mkF m 30 #[.val (.ref b), .val (.int (2 : Int32)), .val (.ref dd), .val (.int (2 : Int32)), .val (.int (4 : Int32)), .val (.int (2 : Int32)), .val (.int c2)] [(.int c2), (.int (2 : Int32)), (.ref dd)]) G := fun tq kq => K744 tq (XS.iload X723.here hx rfl (hb hby d_jdk_52_method_21_28) rfl kq)
        have K746 : Go p e below T723 (mkF m 31 #[.val (.ref b), .val (.int (2 : Int32)), .val (.ref dd), .val (.int (2 : Int32)), .val (.int (4 : Int32)), .val (.int (2 : Int32)), .val (.int c2)] [(.int (c2.toInt8.toInt32)), (.int (2 : Int32)), (.ref dd)]) G := fun tq kq => K745 tq (XS.i2b X723.here hx rfl (hb hby d_jdk_52_method_21_30) rfl kq)
        obtain ⟨cl747, Ar747, q747, S747, Nn747, Hh747, Gg747⟩ := id V723
        have hin747 : ¬ ((2 : Int32) < 0 ∨ cl747.slots.size ≤ ((2 : Int32)).toNatClampNeg) := inb_of S747 ⟨by decide, by decide⟩
        obtain ⟨T747, h747, X747, e747, W747, st747⟩ := stB X723 hx hZ e723 Ar747 (j := (2 : Int32)) hin747 (g := (mkF m 31 #[.val (.ref b), .val (.int (2 : Int32)), .val (.ref dd), .val (.int (2 : Int32)), .val (.int (4 : Int32)), .val (.int (2 : Int32)), .val (.int c2)] [(.int (c2.toInt8.toInt32)), (.int (2 : Int32)), (.ref dd)])) rfl rfl (hb hby d_jdk_52_method_21_31)
        have V747 : Arv Z h747 dd kd .byte (4 : Int32) [(.int (nar .byte (c0.toInt8.toInt32))), (.int (nar .byte (c1.toInt8.toInt32))), (.int (nar .byte (c2.toInt8.toInt32))), (.int (0 : Int32))] (.int (0 : Int32)) := Arv.set Ar747 q747 S747 Nn747 Hh747 Gg747 (fits_nar_byte _) W747 2 rfl (Nat.le_of_ble_eq_true rfl)
        have N747 := Fr.snoc X747 N723 ge_dd
        have K748 : Go p e below T747 (mkF m 32 #[.val (.ref b), .val (.int (2 : Int32)), .val (.ref dd), .val (.int (2 : Int32)), .val (.int (4 : Int32)), .val (.int (2 : Int32)), .val (.int c2)] []) G := fun tq kq => K746 tq (st747 tq kq)
        have K749 : Go p e below T747 (mkF m 35 #[.val (.ref b), .val (.int (3 : Int32)), .val (.ref dd), .val (.int (2 : Int32)), .val (.int (4 : Int32)), .val (.int (2 : Int32)), .val (.int c2)] []) G := fun tq kq => K748 tq (XS.iinc X747.here hx rfl (hb hby d_jdk_52_method_21_32) rfl (l' := #[.val (.ref b), .val (.int (3 : Int32)), .val (.ref dd), .val (.int (2 : Int32)), .val (.int (4 : Int32)), .val (.int (2 : Int32)), .val (.int c2)]) rfl kq)
        have K750 : Go p e below T747 (mkF m 38 #[.val (.ref b), .val (.int (3 : Int32)), .val (.ref dd), .val (.int (3 : Int32)), .val (.int (4 : Int32)), .val (.int (2 : Int32)), .val (.int c2)] []) G := fun tq kq => K749 tq (XS.iinc X747.here hx rfl (hb hby d_jdk_52_method_21_35) rfl (l' := #[.val (.ref b), .val (.int (3 : Int32)), .val (.ref dd), .val (.int (3 : Int32)), .val (.int (4 : Int32)), .val (.int (2 : Int32)), .val (.int c2)]) rfl kq)
        have K751 : Go p e below T747 (mkF m 41 #[.val (.ref b), .val (.int (3 : Int32)), .val (.ref dd), .val (.int (3 : Int32)), .val (.int (4 : Int32)), .val (.int (3 : Int32)), .val (.int c2)] []) G := fun tq kq => K750 tq (XS.iinc X747.here hx rfl (hb hby d_jdk_52_method_21_38) rfl (l' := #[.val (.ref b), .val (.int (3 : Int32)), .val (.ref dd), .val (.int (3 : Int32)), .val (.int (4 : Int32)), .val (.int (3 : Int32)), .val (.int c2)]) rfl kq)
        have K752 : Go p e below T747 (mkF m 3 #[.val (.ref b), .val (.int (3 : Int32)), .val (.ref dd), .val (.int (3 : Int32)), .val (.int (4 : Int32)), .val (.int (3 : Int32)), .val (.int c2)] []) G := fun tq kq => K751 tq (XS.goto X747.here hx rfl (pc0 := 41) (pc' := 3) rfl (hb hby d_jdk_52_method_21_41) (by decide) (by decide) kq)
        have K753 : Go p e below T747 (mkF m 5 #[.val (.ref b), .val (.int (3 : Int32)), .val (.ref dd), .val (.int (3 : Int32)), .val (.int (4 : Int32)), .val (.int (3 : Int32)), .val (.int c2)] [(.int (3 : Int32))]) G := fun tq kq => K752 tq (XS.iload X747.here hx rfl (hb hby d_jdk_52_method_21_3) rfl kq)
        have K754 : Go p e below T747 (mkF m 7 #[.val (.ref b), .val (.int (3 : Int32)), .val (.ref dd), .val (.int (3 : Int32)), .val (.int (4 : Int32)), .val (.int (3 : Int32)), .val (.int c2)] [(.int (4 : Int32)), (.int (3 : Int32))]) G := fun tq kq => K753 tq (XS.iload X747.here hx rfl (hb hby d_jdk_52_method_21_5) rfl kq)
        have K755 : Go p e below T747 (mkF m 10 #[.val (.ref b), .val (.int (3 : Int32)), .val (.ref dd), .val (.int (3 : Int32)), .val (.int (4 : Int32)), .val (.int (3 : Int32)), .val (.int c2)] []) G := fun tq kq => K754 tq (XS.icmpNo X747.here hx rfl (hb hby d_jdk_52_method_21_7) rfl ((tlt (by decide : (3 : Int32) < (4 : Int32))).2.1) kq)
        have K756 : Go p e below T747 (mkF m 11 #[.val (.ref b), .val (.int (3 : Int32)), .val (.ref dd), .val (.int (3 : Int32)), .val (.int (4 : Int32)), .val (.int (3 : Int32)), .val (.int c2)] [(.ref b)]) G := fun tq kq => K755 tq (XS.aloadN X747.here hx rfl (hb hby d_jdk_52_method_21_10) rfl rfl kq)
        have K757 : Go p e below T747 (mkF m 12 #[.val (.ref b), .val (.int (3 : Int32)), .val (.ref dd), .val (.int (3 : Int32)), .val (.int (4 : Int32)), .val (.int (3 : Int32)), .val (.int c2)] [(.int (3 : Int32)), (.ref b)]) G := fun tq kq => K756 tq (XS.iloadN X747.here hx rfl (hb hby d_jdk_52_method_21_11) rfl kq)
        obtain ⟨cl758, Ar758, q758, S758, Nn758, Hh758, Gg758⟩ := id (((V_b.other W699 nbd).other W723 nbd).other W747 nbd)
        have hin758 : ¬ ((3 : Int32) < 0 ∨ cl758.slots.size ≤ ((3 : Int32)).toNatClampNeg) := inb_of S758 ⟨by decide, by decide⟩
        have hat758 := Has.at (v := (.int c3)) Hh758 hin758 rfl
        have K759 : Go p e below T747 (mkF m 13 #[.val (.ref b), .val (.int (3 : Int32)), .val (.ref dd), .val (.int (3 : Int32)), .val (.int (4 : Int32)), .val (.int (3 : Int32)), .val (.int c2)] [(.int c3)]) G := fun tq kq => K757 tq (X747.caload hx (j := (3 : Int32)) (v := (.int c3)) (by rw [e747]; exact Ar758.1) (State.isArrayOf_alike hZ.alike Ar758.2.1) Ar758.2.2 hin758 hat758 (g := (mkF m 12 #[.val (.ref b), .val (.int (3 : Int32)), .val (.ref dd), .val (.int (3 : Int32)), .val (.int (4 : Int32)), .val (.int (3 : Int32)), .val (.int c2)] [(.int (3 : Int32)), (.ref b)])) rfl rfl (hb hby d_jdk_52_method_21_12) _ kq)
        have K760 : Go p e below T747 (mkF m 15 #[.val (.ref b), .val (.int (3 : Int32)), .val (.ref dd), .val (.int (3 : Int32)), .val (.int (4 : Int32)), .val (.int (3 : Int32)), .val (.int c3)] []) G := fun tq kq => K759 tq (XS.istore X747.here hx rfl (hb hby d_jdk_52_method_21_13) rfl (l' := #[.val (.ref b), .val (.int (3 : Int32)), .val (.ref dd), .val (.int (3 : Int32)), .val (.int (4 : Int32)), .val (.int (3 : Int32)), .val (.int c3)]) rfl kq)
        have K761 : Go p e below T747 (mkF m 17 #[.val (.ref b), .val (.int (3 : Int32)), .val (.ref dd), .val (.int (3 : Int32)), .val (.int (4 : Int32)), .val (.int (3 : Int32)), .val (.int c3)] [(.int c3)]) G := fun tq kq => K760 tq (XS.iload X747.here hx rfl (hb hby d_jdk_52_method_21_15) rfl kq)
        have K762 : Go p e below T747 (mkF m 20 #[.val (.ref b), .val (.int (3 : Int32)), .val (.ref dd), .val (.int (3 : Int32)), .val (.int (4 : Int32)), .val (.int (3 : Int32)), .val (.int c3)] [(.int (255 : Int32)), (.int c3)]) G := fun tq kq => K761 tq (XS.sipush X747.here hx rfl (hb hby d_jdk_52_method_21_17) kq)
        by_cases hc763 : (255 : Int32) < c3
        · skip
          have K764 : Go p e below T747 (mkF m 23 #[.val (.ref b), .val (.int (3 : Int32)), .val (.ref dd), .val (.int (3 : Int32)), .val (.int (4 : Int32)), .val (.int (3 : Int32)), .val (.int c3)] []) G := fun tq kq => K762 tq (XS.icmpNo X747.here hx rfl (hb hby d_jdk_52_method_21_20) rfl ((tlt hc763).2.2.2) kq)
          have K765 : Go p e below T747 (mkF m 25 #[.val (.ref b), .val (.int (3 : Int32)), .val (.ref dd), .val (.int (3 : Int32)), .val (.int (4 : Int32)), .val (.int (3 : Int32)), .val (.int c3)] [(.int (3 : Int32))]) G := fun tq kq => K764 tq (XS.iload X747.here hx rfl (hb hby d_jdk_52_method_21_23) rfl kq)
          obtain ⟨fs, hr, hrun, hended, hWW, hsame⟩ := X747.leave (v := some (.int (3 : Int32))) (fun h => by rw [Bd.returns] at h; cases h)
          refine ⟨_, _, hG _ (K765 _ (retOut X747 hx Bd.returns rfl (Or.inl ⟨rfl, Or.inl rfl, _, rfl⟩) (hb hby d_jdk_52_method_21_25) hr)), hrun, hended, _, _, rfl, ?_, ⟨_, rfl⟩, hWW, hsame.mono (by decide) (by decide)⟩
          show QCP4 Z b dd kc kd c0 c1 c2 c3 h0 n0 _ T747.heap _
          rw [e747]
          exact ⟨3, rfl, by decide, hc763, N747, ((((Keep.refl h0 [dd]).wr W699 (Or.inl (List.mem_of_getElem? (i := 0) rfl))).wr W723 (Or.inl (List.mem_of_getElem? (i := 0) rfl))).wr W747 (Or.inl (List.mem_of_getElem? (i := 0) rfl)))⟩
        · skip
          have K766 : Go p e below T747 (mkF m 26 #[.val (.ref b), .val (.int (3 : Int32)), .val (.ref dd), .val (.int (3 : Int32)), .val (.int (4 : Int32)), .val (.int (3 : Int32)), .val (.int c3)] []) G := fun tq kq => K762 tq (XS.icmpYes X747.here hx rfl (pc0 := 20) (pc' := 26) rfl (hb hby d_jdk_52_method_21_20) rfl ((flt hc763).2.2.2) (by decide) (by decide) kq)
          have K767 : Go p e below T747 (mkF m 27 #[.val (.ref b), .val (.int (3 : Int32)), .val (.ref dd), .val (.int (3 : Int32)), .val (.int (4 : Int32)), .val (.int (3 : Int32)), .val (.int c3)] [(.ref dd)]) G := fun tq kq => K766 tq (XS.aloadN X747.here hx rfl (hb hby d_jdk_52_method_21_26) rfl rfl kq)
          have K768 : Go p e below T747 (mkF m 28 #[.val (.ref b), .val (.int (3 : Int32)), .val (.ref dd), .val (.int (3 : Int32)), .val (.int (4 : Int32)), .val (.int (3 : Int32)), .val (.int c3)] [(.int (3 : Int32)), (.ref dd)]) G := fun tq kq => K767 tq (XS.iloadN X747.here hx rfl (hb hby d_jdk_52_method_21_27) rfl kq)
          have K769 : Go p e below T747 (mkF m 30 #[.val (.ref b), .val (.int (3 : Int32)), .val (.ref dd), .val (.int (3 : Int32)), .val (.int (4 : Int32)), .val (.int (3 : Int32)), .val (.int c3)] [(.int c3), (.int (3 : Int32)), (.ref dd)]) G := fun tq kq => K768 tq (XS.iload X747.here hx rfl (hb hby d_jdk_52_method_21_28) rfl kq)
          have K770 : Go p e below T747 (mkF m 31 #[.val (.ref b), .val (.int (3 : Int32)), .val (.ref dd), .val (.int (3 : Int32)), .val (.int (4 : Int32)), .val (.int (3 : Int32)), .val (.int c3)] [(.int (c3.toInt8.toInt32)), (.int (3 : Int32)), (.ref dd)]) G := fun tq kq => K769 tq (XS.i2b X747.here hx rfl (hb hby d_jdk_52_method_21_30) rfl kq)
          obtain ⟨cl771, Ar771, q771, S771, Nn771, Hh771, Gg771⟩ := id V747
          have hin771 : ¬ ((3 : Int32) < 0 ∨ cl771.slots.size ≤ ((3 : Int32)).toNatClampNeg) := inb_of S771 ⟨by decide, by decide⟩
          obtain ⟨T771, h771, X771, e771, W771, st771⟩ := stB X747 hx hZ e747 Ar771 (j := (3 : Int32)) hin771 (g := (mkF m 31 #[.val (.ref b), .val (.int (3 : Int32)), .val (.ref dd), .val (.int (3 : Int32)), .val (.int (4 : Int32)), .val (.int (3 : Int32)), .val (.int c3)] [(.int (c3.toInt8.toInt32)), (.int (3 : Int32)), (.ref dd)])) rfl rfl (hb hby d_jdk_52_method_21_31)
          have V771 : Arv Z h771 dd kd .byte (4 : Int32) [(.int (nar .byte (c0.toInt8.toInt32))), (.int (nar .byte (c1.toInt8.toInt32))), (.int (nar .byte (c2.toInt8.toInt32))), (.int (nar .byte (c3.toInt8.toInt32)))] (.int (0 : Int32)) := Arv.set Ar771 q771 S771 Nn771 Hh771 Gg771 (fits_nar_byte _) W771 3 rfl (Nat.le_of_ble_eq_true rfl)
          have N771 := Fr.snoc X771 N747 ge_dd
          have K772 : Go p e below T771 (mkF m 32 #[.val (.ref b), .val (.int (3 : Int32)), .val (.ref dd), .val (.int (3 : Int32)), .val (.int (4 : Int32)), .val (.int (3 : Int32)), .val (.int c3)] []) G := fun tq kq => K770 tq (st771 tq kq)
          have K773 : Go p e below T771 (mkF m 35 #[.val (.ref b), .val (.int (4 : Int32)), .val (.ref dd), .val (.int (3 : Int32)), .val (.int (4 : Int32)), .val (.int (3 : Int32)), .val (.int c3)] []) G := fun tq kq => K772 tq (XS.iinc X771.here hx rfl (hb hby d_jdk_52_method_21_32) rfl (l' := #[.val (.ref b), .val (.int (4 : Int32)), .val (.ref dd), .val (.int (3 : Int32)), .val (.int (4 : Int32)), .val (.int (3 : Int32)), .val (.int c3)]) rfl kq)
          have K774 : Go p e below T771 (mkF m 38 #[.val (.ref b), .val (.int (4 : Int32)), .val (.ref dd), .val (.int (4 : Int32)), .val (.int (4 : Int32)), .val (.int (3 : Int32)), .val (.int c3)] []) G := fun tq kq => K773 tq (XS.iinc X771.here hx rfl (hb hby d_jdk_52_method_21_35) rfl (l' := #[.val (.ref b), .val (.int (4 : Int32)), .val (.ref dd), .val (.int (4 : Int32)), .val (.int (4 : Int32)), .val (.int (3 : Int32)), .val (.int c3)]) rfl kq)
          have K775 : Go p e below T771 (mkF m 41 #[.val (.ref b), .val (.int (4 : Int32)), .val (.ref dd), .val (.int (4 : Int32)), .val (.int (4 : Int32)), .val (.int (4 : Int32)), .val (.int c3)] []) G := fun tq kq => K774 tq (XS.iinc X771.here hx rfl (hb hby d_jdk_52_method_21_38) rfl (l' := #[.val (.ref b), .val (.int (4 : Int32)), .val (.ref dd), .val (.int (4 : Int32)), .val (.int (4 : Int32)), .val (.int (4 : Int32)), .val (.int c3)]) rfl kq)
          have K776 : Go p e below T771 (mkF m 3 #[.val (.ref b), .val (.int (4 : Int32)), .val (.ref dd), .val (.int (4 : Int32)), .val (.int (4 : Int32)), .val (.int (4 : Int32)), .val (.int c3)] []) G := fun tq kq => K775 tq (XS.goto X771.here hx rfl (pc0 := 41) (pc' := 3) rfl (hb hby d_jdk_52_method_21_41) (by decide) (by decide) kq)
          have K777 : Go p e below T771 (mkF m 5 #[.val (.ref b), .val (.int (4 : Int32)), .val (.ref dd), .val (.int (4 : Int32)), .val (.int (4 : Int32)), .val (.int (4 : Int32)), .val (.int c3)] [(.int (4 : Int32))]) G := fun tq kq => K776 tq (XS.iload X771.here hx rfl (hb hby d_jdk_52_method_21_3) rfl kq)
          have K778 : Go p e below T771 (mkF m 7 #[.val (.ref b), .val (.int (4 : Int32)), .val (.ref dd), .val (.int (4 : Int32)), .val (.int (4 : Int32)), .val (.int (4 : Int32)), .val (.int c3)] [(.int (4 : Int32)), (.int (4 : Int32))]) G := fun tq kq => K777 tq (XS.iload X771.here hx rfl (hb hby d_jdk_52_method_21_5) rfl kq)
          have K779 : Go p e below T771 (mkF m 44 #[.val (.ref b), .val (.int (4 : Int32)), .val (.ref dd), .val (.int (4 : Int32)), .val (.int (4 : Int32)), .val (.int (4 : Int32)), .val (.int c3)] []) G := fun tq kq => K778 tq (XS.icmpYes X771.here hx rfl (pc0 := 7) (pc' := 44) rfl (hb hby d_jdk_52_method_21_7) rfl ((flt (by decide : ¬ ((4 : Int32) < (4 : Int32)))).2.1) (by decide) (by decide) kq)
          have K780 : Go p e below T771 (mkF m 46 #[.val (.ref b), .val (.int (4 : Int32)), .val (.ref dd), .val (.int (4 : Int32)), .val (.int (4 : Int32)), .val (.int (4 : Int32)), .val (.int c3)] [(.int (4 : Int32))]) G := fun tq kq => K779 tq (XS.iload X771.here hx rfl (hb hby d_jdk_52_method_21_44) rfl kq)
          exact absurd (by
            intro c hc
            simp only [List.mem_cons, List.not_mem_nil, or_false] at hc
            rcases hc with rfl | rfl | rfl | rfl
            · exact hc691
            · exact hc715
            · exact hc739
            · exact hc763) hwd
def QCM4 (Z : State) (b : Addr) (kc : ClassId) (c0 : Int32) (c1 : Int32) (c2 : Int32) (c3 : Int32) (h0 : Heap) (n0 : Nat) (v : Option Value) (h : Heap) (L : List Loc) : Prop := ∃ (tb : Addr) (kb : ClassId), v = some (.ref tb) ∧ Fr n0 L ∧ Keep h0 h [] ∧ h0.size ≤ tb ∧ n0 ≤ tb ∧ Arv Z h tb kb .byte (8 : Int32) (StrChars.Road.wideBytes ([c0, c1, c2, c3] : List Int32)) (.int (0 : Int32))
set_option maxRecDepth 65536 in
set_option maxHeartbeats 40000000 in
theorem rmCM4 (l : Launch) (Z : State) (a0 : Array Value) (hw : ∀ d ∈ tables_1, d.before a0 Z = true) (ws : List Jvm.Cond) (b : Addr) (kc : ClassId) (c0 : Int32) (c1 : Int32) (c2 : Int32) (c3 : Int32) (h0 : Heap) (n0 : Nat) (Z0 : n0 ≤ h0.size) (O0 : Old Z n0 h0) (S_ad : Sta Z Z.heap "java/lang/StringUTF16" "$assertionsDisabled" "Z" (.int (1 : Int32))) (S_hi : Sta Z Z.heap "java/lang/StringUTF16" "HI_BYTE_SHIFT" "I" (.int (0 : Int32))) (S_lo : Sta Z Z.heap "java/lang/StringUTF16" "LO_BYTE_SHIFT" "I" (.int (8 : Int32))) (V_b : Arv Z h0 b kc .char (4 : Int32) [(.int c0), (.int c1), (.int c2), (.int c3)] (.int (0 : Int32))) (hwd : ¬ ∀ c ∈ ([c0, c1, c2, c3] : List Int32), ¬ (255 : Int32) < c) (hb5 : ∀ c ∈ ([c0, c1, c2, c3] : List Int32), ¬ c < 0 ∧ ¬ (65535 : Int32) < c) :
    MetFree l (⟨"java/lang/StringUTF16", "compress", "([CII)[B"⟩ : MethodName) (head1 (Jvm.Cond.code (⟨"java/lang/StringUTF16", "compress", "([CII)[B"⟩ : MethodName) jdk_52_method_16_code 6 (some (.array .byte)) :: ws) ({ frames := 3, cells := 2, slots := 12, locals := 40 } : Room)) (fun aa UU => aa = #[(.ref b), (.int (0 : Int32)), (.int (4 : Int32))] ∧ Z.Warmed39 UU.vm ∧ UU.heap = h0) (fun _ _ _ _ _ => True) (fun _ UU oo UU' => ∃ vv LL, oo = .returned vv ∧ QCM4 Z b kc c0 c1 c2 c3 h0 n0 vv UU'.heap LL ∧ FrameEnd UU oo UU' LL ({ frames := 3, cells := 2, slots := 12, locals := 40 } : Room).cells ({ frames := 3, cells := 2, slots := 12, locals := 40 } : Room).slots) := by
  refine MetFree.of_bodySF (plainFor_of_name pn_41) hisR ?_
  intro p e s m args below meth c s₁ Bd hml0 hP hK
  obtain ⟨rfl, hZ, hh⟩ := hP
  have hx := Bd.exec
  have hby := Bd.bytes
  have hml : c.maxLocals = 6 := hml0
  have hown : s.vm.findClass "java/lang/StringUTF16" = some m.cls := findClass_of_methodNamed Bd.named
  have hnm := (name_of_methodNamed Bd.named Bd.method).1
  have hW : ∀ (k : Nat) (d : Jvm.Cond), tables_1[k]? = some d → d.before a0 Z = true := fun k d h => hw d (List.mem_of_getElem? h)
  have X0 : Stand p l e ({ frames := 3, cells := 2, slots := 12, locals := 40 } : Room) s m #[(.ref b), (.int (0 : Int32)), (.int (4 : Int32))] below meth c s₁ [] 0 0 := Stand.of_body Bd
  have e0 : s₁.heap = h0 := by rw [← hh, Bd.state]; rfl
  have N0 := Fr.nil n0
  obtain ⟨G, hG, K0⟩ : ∃ G : State → Prop, (∀ tq, G tq → Steps p.tables e below (s₁.setTop (entryFrame m #[(.ref b), (.int (0 : Int32)), (.int (4 : Int32))] 6)) tq) ∧ Go p e below s₁ (mkF m 0 #[.val (.ref b), .val (.int (0 : Int32)), .val (.int (4 : Int32)), .unset, .unset, .unset] []) G := ⟨fun tq => Steps p.tables e below (s₁.setTop (entryFrame m #[(.ref b), (.int (0 : Int32)), (.int (4 : Int32))] 6)) tq, fun _ h => h, fun tq kq => castTop (ef_jdk_52_method_16_RII m b (0 : Int32) (4 : Int32)) kq⟩
  have K781 : Go p e below s₁ (mkF m 1 #[.val (.ref b), .val (.int (0 : Int32)), .val (.int (4 : Int32)), .unset, .unset, .unset] [(.int (4 : Int32))]) G := fun tq kq => K0 tq (XS.iloadN X0.here hx rfl (hb hby d_jdk_52_method_16_0) rfl kq)
  obtain ⟨T782, h782, k782, X782, e782, E782, A782, st782⟩ := newP X0 hx hZ (hW 23 _ rfl) e0 (g := (mkF m 1 #[.val (.ref b), .val (.int (0 : Int32)), .val (.int (4 : Int32)), .unset, .unset, .unset] [(.int (4 : Int32))])) rfl (hb hby d_jdk_52_method_16_1) rfl (by decide) (cap := 4) (by decide) (by decide) (by decide) (by decide)
  obtain ⟨b782, g782⟩ : ∃ z, z = h0.size := ⟨_, rfl⟩
  rw [← g782] at A782 st782
  have ne782_b : b ≠ b782 := Nat.ne_of_lt (Nat.lt_of_lt_of_le V_b.lt (Nat.le_of_eq g782.symm))
  have ge_b782 : n0 ≤ b782 := Nat.le_trans Z0 (Nat.le_of_eq g782.symm)
  have sz_b782 : h0.size ≤ b782 := Nat.le_trans ((Keep.refl h0 [])).1 (Nat.le_of_eq g782.symm)
  have V782 : Arv Z h782 b782 k782 .byte (4 : Int32) [(.int (0 : Int32)), (.int (0 : Int32)), (.int (0 : Int32)), (.int (0 : Int32))] (.int (0 : Int32)) := (Arv.new A782 (by decide)).pad (pad_rep [] (.int (0 : Int32)) 4)
  have K783 : Go p e below T782 (mkF m 3 #[.val (.ref b), .val (.int (0 : Int32)), .val (.int (4 : Int32)), .unset, .unset, .unset] [(.ref b782)]) G := fun tq kq => K781 tq (st782 tq kq)
  have K784 : Go p e below T782 (mkF m 4 #[.val (.ref b), .val (.int (0 : Int32)), .val (.int (4 : Int32)), .val (.ref b782), .unset, .unset] []) G := fun tq kq => K783 tq (XS.astoreN X782.here hx rfl (hb hby d_jdk_52_method_16_3) rfl rfl (l' := #[.val (.ref b), .val (.int (0 : Int32)), .val (.int (4 : Int32)), .val (.ref b782), .unset, .unset]) rfl kq)
  have K785 : Go p e below T782 (mkF m 5 #[.val (.ref b), .val (.int (0 : Int32)), .val (.int (4 : Int32)), .val (.ref b782), .unset, .unset] [(.ref b)]) G := fun tq kq => K784 tq (XS.aloadN X782.here hx rfl (hb hby d_jdk_52_method_16_4) rfl rfl kq)
  have K786 : Go p e below T782 (mkF m 6 #[.val (.ref b), .val (.int (0 : Int32)), .val (.int (4 : Int32)), .val (.ref b782), .unset, .unset] [(.int (0 : Int32)), (.ref b)]) G := fun tq kq => K785 tq (XS.iloadN X782.here hx rfl (hb hby d_jdk_52_method_16_5) rfl kq)
  have K787 : Go p e below T782 (mkF m 7 #[.val (.ref b), .val (.int (0 : Int32)), .val (.int (4 : Int32)), .val (.ref b782), .unset, .unset] [(.ref b782), (.int (0 : Int32)), (.ref b)]) G := fun tq kq => K786 tq (XS.aloadN X782.here hx rfl (hb hby d_jdk_52_method_16_6) rfl rfl kq)
  have K788 : Go p e below T782 (mkF m 8 #[.val (.ref b), .val (.int (0 : Int32)), .val (.int (4 : Int32)), .val (.ref b782), .unset, .unset] [(.int (0 : Int32)), (.ref b782), (.int (0 : Int32)), (.ref b)]) G := fun tq kq => K787 tq (XS.iconst X782.here hx rfl (hb hby d_jdk_52_method_16_7) kq)
  have K789 : Go p e below T782 (mkF m 9 #[.val (.ref b), .val (.int (0 : Int32)), .val (.int (4 : Int32)), .val (.ref b782), .unset, .unset] [(.int (4 : Int32)), (.int (0 : Int32)), (.ref b782), (.int (0 : Int32)), (.ref b)]) G := fun tq kq => K788 tq (XS.iloadN X782.here hx rfl (hb hby d_jdk_52_method_16_8) rfl kq)
  obtain ⟨v790, _, ⟨T790, L790, k790, n790⟩, -, X790, ⟨Lc790, hQ790, l790, y790, z790⟩, st790⟩ := Jvm.LawKit.callS X782 hx (y := (⟨"java/lang/StringUTF16", "compress", "([CI[BII)I"⟩ : MethodName)) hown (mvT hZ (hW 49 _ rfl)) (mvT hZ (hW 50 _ rfl)) (mvT hZ (hW 47 _ rfl)) (mvT hZ (hW 51 _ rfl)) (by decide) (backOf (W := 0) (rmCP4 l Z a0 hw [] b b782 kc k782 c0 c1 c2 c3 h782 n0 (Nat.le_trans Z0 E782.1) ge_b782 ne782_b (V_b.ext E782) V782 hwd) hZ (hW 51 _ rfl) (hW 47 _ rfl) (by decide) (by decide)) (g := (mkF m 9 #[.val (.ref b), .val (.int (0 : Int32)), .val (.int (4 : Int32)), .val (.ref b782), .unset, .unset] [(.int (4 : Int32)), (.int (0 : Int32)), (.ref b782), (.int (0 : Int32)), (.ref b)])) rfl (by rw [hml]; rfl) (argsL := [(.ref b), (.int (0 : Int32)), (.ref b782), (.int (0 : Int32)), (.int (4 : Int32))]) (rest := []) (lenOf pd_155 rfl) rfl (by show 2 * 0 + _ ≤ _; exact Nat.le_of_eq rfl) (hb hby d_jdk_52_method_16_9) (fun _ _ => ⟨rfl, e782, (by decide : 1 + 0 ≤ _), (by decide : 4 + 0 ≤ _)⟩)
  dsimp only [Pt.U, Pt.locs, Pt.cells, Pt.slots] at X790 l790 y790 z790 st790 hQ790
  subst l790 y790 z790
  obtain ⟨j, rfl, hj, hgt, N790q, K790q⟩ := hQ790
  have N790 := Fr.app N0 N790q
  have hjn : ¬ ((Int32.ofNat j) = (4 : Int32)) := own_jn j 4 hj (by decide)
  have K791 : Go p e below T790 (mkF m 12 #[.val (.ref b), .val (.int (0 : Int32)), .val (.int (4 : Int32)), .val (.ref b782), .unset, .unset] [(.int (Int32.ofNat j))]) G := fun tq kq => K789 tq (st790 tq kq)
  have K792 : Go p e below T790 (mkF m 14 #[.val (.ref b), .val (.int (0 : Int32)), .val (.int (4 : Int32)), .val (.ref b782), .val (.int (Int32.ofNat j)), .unset] []) G := fun tq kq => K791 tq (XS.istore X790.here hx rfl (hb hby d_jdk_52_method_16_12) rfl (l' := #[.val (.ref b), .val (.int (0 : Int32)), .val (.int (4 : Int32)), .val (.ref b782), .val (.int (Int32.ofNat j)), .unset]) rfl kq)
  have K793 : Go p e below T790 (mkF m 16 #[.val (.ref b), .val (.int (0 : Int32)), .val (.int (4 : Int32)), .val (.ref b782), .val (.int (Int32.ofNat j)), .unset] [(.int (Int32.ofNat j))]) G := fun tq kq => K792 tq (XS.iload X790.here hx rfl (hb hby d_jdk_52_method_16_14) rfl kq)
  have K794 : Go p e below T790 (mkF m 17 #[.val (.ref b), .val (.int (0 : Int32)), .val (.int (4 : Int32)), .val (.ref b782), .val (.int (Int32.ofNat j)), .unset] [(.int (4 : Int32)), (.int (Int32.ofNat j))]) G := fun tq kq => K793 tq (XS.iloadN X790.here hx rfl (hb hby d_jdk_52_method_16_16) rfl kq)
  have K795 : Go p e below T790 (mkF m 20 #[.val (.ref b), .val (.int (0 : Int32)), .val (.int (4 : Int32)), .val (.ref b782), .val (.int (Int32.ofNat j)), .unset] []) G := fun tq kq => K794 tq (XS.icmpNo X790.here hx rfl (hb hby d_jdk_52_method_16_17) rfl ((feq hjn).1) kq)
  have K796 : Go p e below T790 (mkF m 21 #[.val (.ref b), .val (.int (0 : Int32)), .val (.int (4 : Int32)), .val (.ref b782), .val (.int (Int32.ofNat j)), .unset] [(.ref b)]) G := fun tq kq => K795 tq (XS.aloadN X790.here hx rfl (hb hby d_jdk_52_method_16_20) rfl rfl kq)
  have K797 : Go p e below T790 (mkF m 22 #[.val (.ref b), .val (.int (0 : Int32)), .val (.int (4 : Int32)), .val (.ref b782), .val (.int (Int32.ofNat j)), .unset] [(.int (0 : Int32)), (.ref b)]) G := fun tq kq => K796 tq (XS.iloadN X790.here hx rfl (hb hby d_jdk_52_method_16_21) rfl kq)
  have K798 : Go p e below T790 (mkF m 23 #[.val (.ref b), .val (.int (0 : Int32)), .val (.int (4 : Int32)), .val (.ref b782), .val (.int (Int32.ofNat j)), .unset] [(.int (4 : Int32)), (.int (0 : Int32)), (.ref b)]) G := fun tq kq => K797 tq (XS.iloadN X790.here hx rfl (hb hby d_jdk_52_method_16_22) rfl kq)
  obtain ⟨v799, _, ⟨T799, L799, k799, n799⟩, -, X799, ⟨Lc799, hQ799, l799, y799, z799⟩, st799⟩ := Jvm.LawKit.callS X790 hx (y := (⟨"java/lang/StringUTF16", "toBytes", "([CII)[B"⟩ : MethodName)) hown (mvT hZ (hW 80 _ rfl)) (mvT hZ (hW 81 _ rfl)) (mvT hZ (hW 47 _ rfl)) (mvT hZ (hW 82 _ rfl)) (by decide) (backOf (W := 0) (rmTB4 l Z a0 hw [] b kc c0 c1 c2 c3 T790.heap n0 (Nat.le_trans (Nat.le_trans Z0 E782.1) K790q.1) ((O0.ext E782).keep K790q (allS ge_b782 all0)) S_ad S_hi S_lo ((V_b.ext E782).keep K790q (ninS ne782_b nin0))) hZ (hW 82 _ rfl) (hW 47 _ rfl) (by decide) (by decide)) (g := (mkF m 23 #[.val (.ref b), .val (.int (0 : Int32)), .val (.int (4 : Int32)), .val (.ref b782), .val (.int (Int32.ofNat j)), .unset] [(.int (4 : Int32)), (.int (0 : Int32)), (.ref b)])) rfl (by rw [hml]; rfl) (argsL := [(.ref b), (.int (0 : Int32)), (.int (4 : Int32))]) (rest := []) (lenOf pd_156 rfl) rfl (by show 2 * 0 + _ ≤ _; exact Nat.le_of_eq rfl) (hb hby d_jdk_52_method_16_23) (fun _ _ => ⟨rfl, rfl, (by decide : 1 + 1 ≤ _), (by decide : 4 + 8 ≤ _)⟩)
  dsimp only [Pt.U, Pt.locs, Pt.cells, Pt.slots] at X799 l799 y799 z799 st799 hQ799
  subst l799 y799 z799
  obtain ⟨tb799, kb799, rfl, N799q, K799q, sz799, ge799, V799q⟩ := hQ799
  have N799 := Fr.app N790 N799q
  have na800 : b ≠ tb799 := Nat.ne_of_lt (Nat.lt_of_lt_of_le ((V_b.ext E782).keep K790q (ninS ne782_b nin0)).lt sz799)
  have sb799 := Nat.le_trans ((((Keep.refl h0 []).ext E782).trans K790q (allS (Or.inr sz_b782) all0))).1 sz799
  have K801 : Go p e below T799 (mkF m 26 #[.val (.ref b), .val (.int (0 : Int32)), .val (.int (4 : Int32)), .val (.ref b782), .val (.int (Int32.ofNat j)), .unset] [(.ref tb799)]) G := fun tq kq => K798 tq (st799 tq kq)
  have K802 : Go p e below T799 (mkF m 28 #[.val (.ref b), .val (.int (0 : Int32)), .val (.int (4 : Int32)), .val (.ref b782), .val (.int (Int32.ofNat j)), .val (.ref tb799)] []) G := fun tq kq => K801 tq (XS.astore X799.here hx rfl (hb hby d_jdk_52_method_16_26) rfl rfl (l' := #[.val (.ref b), .val (.int (0 : Int32)), .val (.int (4 : Int32)), .val (.ref b782), .val (.int (Int32.ofNat j)), .val (.ref tb799)]) rfl kq)
  have K803 : Go p e below T799 (mkF m 30 #[.val (.ref b), .val (.int (0 : Int32)), .val (.int (4 : Int32)), .val (.ref b782), .val (.int (Int32.ofNat j)), .val (.ref tb799)] [(.ref tb799)]) G := fun tq kq => K802 tq (XS.aload X799.here hx rfl (hb hby d_jdk_52_method_16_28) rfl rfl kq)
  have K804 : Go p e below T799 (mkF m 32 #[.val (.ref b), .val (.int (0 : Int32)), .val (.int (4 : Int32)), .val (.ref b782), .val (.int (Int32.ofNat j)), .val (.ref tb799)] [(.int (Int32.ofNat j)), (.ref tb799)]) G := fun tq kq => K803 tq (XS.iload X799.here hx rfl (hb hby d_jdk_52_method_16_30) rfl kq)
  obtain ⟨v805, _, ⟨T805, L805, k805, n805⟩, -, X805, ⟨Lc805, hQ805, l805, y805, z805⟩, st805⟩ := Jvm.LawKit.callS X799 hx (y := (⟨"java/lang/StringUTF16", "getChar", "([BI)C"⟩ : MethodName)) hown (mvT hZ (hW 96 _ rfl)) (mvT hZ (hW 97 _ rfl)) (mvT hZ (hW 47 _ rfl)) (mvT hZ (hW 98 _ rfl)) (by decide) (backOf (W := 0) (rmGC l Z a0 hw [] tb799 kb799 (8 : Int32) (StrChars.Road.wideBytes ([c0, c1, c2, c3] : List Int32)) (Int32.ofNat j) j (([c0, c1, c2, c3] : List Int32).getD j 0) T799.heap n0 (Nat.le_trans (Nat.le_trans (Nat.le_trans Z0 E782.1) K790q.1) K799q.1) (((O0.ext E782).keep K790q (allS ge_b782 all0)).keep K799q all0) S_ad S_hi S_lo V799q (own_ixn j 4 hj (by decide)) (StrChars.Road.wide_lo _ ([c0, c1, c2, c3] : List Int32) j hj) (StrChars.Road.wide_hi _ ([c0, c1, c2, c3] : List Int32) j hj) (own_getR hb5 j hj)) hZ (hW 98 _ rfl) (hW 47 _ rfl) (by decide) (by decide)) (g := (mkF m 32 #[.val (.ref b), .val (.int (0 : Int32)), .val (.int (4 : Int32)), .val (.ref b782), .val (.int (Int32.ofNat j)), .val (.ref tb799)] [(.int (Int32.ofNat j)), (.ref tb799)])) rfl (by rw [hml]; rfl) (argsL := [(.ref tb799), (.int (Int32.ofNat j))]) (rest := []) (lenOf pd_157 rfl) rfl (by show 2 * 0 + _ ≤ _; exact Nat.le_of_eq rfl) (hb hby d_jdk_52_method_16_32) (fun _ _ => ⟨rfl, rfl, (by decide : 2 + 0 ≤ _), (by decide : 12 + 0 ≤ _)⟩)
  dsimp only [Pt.U, Pt.locs, Pt.cells, Pt.slots] at X805 l805 y805 z805 st805 hQ805
  subst l805 y805 z805
  obtain ⟨rfl, N805q, E805q⟩ := hQ805
  have N805 := Fr.app N799 N805q
  have K806 : Go p e below T805 (mkF m 35 #[.val (.ref b), .val (.int (0 : Int32)), .val (.int (4 : Int32)), .val (.ref b782), .val (.int (Int32.ofNat j)), .val (.ref tb799)] [(.int (([c0, c1, c2, c3] : List Int32).getD j 0))]) G := fun tq kq => K804 tq (st805 tq kq)
  have K807 : Go p e below T805 (mkF m 38 #[.val (.ref b), .val (.int (0 : Int32)), .val (.int (4 : Int32)), .val (.ref b782), .val (.int (Int32.ofNat j)), .val (.ref tb799)] [(.int (255 : Int32)), (.int (([c0, c1, c2, c3] : List Int32).getD j 0))]) G := fun tq kq => K806 tq (XS.sipush X805.here hx rfl (hb hby d_jdk_52_method_16_35) kq)
  have K808 : Go p e below T805 (mkF m 54 #[.val (.ref b), .val (.int (0 : Int32)), .val (.int (4 : Int32)), .val (.ref b782), .val (.int (Int32.ofNat j)), .val (.ref tb799)] []) G := fun tq kq => K807 tq (XS.icmpYes X805.here hx rfl (pc0 := 38) (pc' := 54) rfl (hb hby d_jdk_52_method_16_38) rfl ((tlt hgt).2.2.1) (by decide) (by decide) kq)
  have K809 : Go p e below T805 (mkF m 56 #[.val (.ref b), .val (.int (0 : Int32)), .val (.int (4 : Int32)), .val (.ref b782), .val (.int (Int32.ofNat j)), .val (.ref tb799)] [(.ref tb799)]) G := fun tq kq => K808 tq (XS.aload X805.here hx rfl (hb hby d_jdk_52_method_16_54) rfl rfl kq)
  obtain ⟨fs, hr, hrun, hended, hWW, hsame⟩ := X805.leave (v := some (.ref tb799)) (fun h => by rw [Bd.returns] at h; cases h)
  refine ⟨_, _, hG _ (K809 _ (retOut X805 hx Bd.returns rfl (Or.inr (Or.inr (Or.inr (Or.inr ⟨rfl, rfl, rfl⟩)))) (hb hby d_jdk_52_method_16_56) hr)), hrun, hended, _, _, rfl, ?_, ⟨_, rfl⟩, hWW, hsame.mono (by decide) (by decide)⟩
  show QCM4 Z b kc c0 c1 c2 c3 h0 n0 _ T805.heap _
  rw [E805q]
  exact ⟨tb799, _, rfl, N805, ((((Keep.refl h0 []).ext E782).trans K790q (allS (Or.inr sz_b782) all0)).trans K799q all0), sb799, ge799, V799q⟩
def QCF4 (Z : State) (tb : Addr) (kb : ClassId) (vs : List Value) (h0 : Heap) (n0 : Nat) (v : Option Value) (h : Heap) (L : List Loc) : Prop := v = some (.int (1 : Int32)) ∧ Fr n0 L ∧ h = h0
set_option maxRecDepth 65536 in
set_option maxHeartbeats 40000000 in
theorem rmCF4 (l : Launch) (Z : State) (a0 : Array Value) (hw : ∀ d ∈ tables_1, d.before a0 Z = true) (ws : List Jvm.Cond) (tb : Addr) (kb : ClassId) (vs : List Value) (h0 : Heap) (n0 : Nat) (Z0 : n0 ≤ h0.size) (V_tb : Arv Z h0 tb kb .byte (8 : Int32) vs (.int (0 : Int32))) :
    MetFree l (⟨"java/lang/StringUTF16", "coderFromArrayLen", "([BI)B"⟩ : MethodName) (head1 (Jvm.Cond.code (⟨"java/lang/StringUTF16", "coderFromArrayLen", "([BI)B"⟩ : MethodName) jdk_52_method_15_code 2 (some .byte) :: ws) ({ frames := 0, cells := 0, slots := 0, locals := 0 } : Room)) (fun aa UU => aa = #[(.ref tb), (.int (4 : Int32))] ∧ Z.Warmed39 UU.vm ∧ UU.heap = h0) (fun _ _ _ _ _ => True) (fun _ UU oo UU' => ∃ vv LL, oo = .returned vv ∧ QCF4 Z tb kb vs h0 n0 vv UU'.heap LL ∧ FrameEnd UU oo UU' LL ({ frames := 0, cells := 0, slots := 0, locals := 0 } : Room).cells ({ frames := 0, cells := 0, slots := 0, locals := 0 } : Room).slots) := by
  refine MetFree.of_bodySF (plainFor_of_name pn_41) hisR ?_
  intro p e s m args below meth c s₁ Bd hml0 hP hK
  obtain ⟨rfl, hZ, hh⟩ := hP
  have hx := Bd.exec
  have hby := Bd.bytes
  have hml : c.maxLocals = 2 := hml0
  have hown : s.vm.findClass "java/lang/StringUTF16" = some m.cls := findClass_of_methodNamed Bd.named
  have hnm := (name_of_methodNamed Bd.named Bd.method).1
  have hW : ∀ (k : Nat) (d : Jvm.Cond), tables_1[k]? = some d → d.before a0 Z = true := fun k d h => hw d (List.mem_of_getElem? h)
  have X0 : Stand p l e ({ frames := 0, cells := 0, slots := 0, locals := 0 } : Room) s m #[(.ref tb), (.int (4 : Int32))] below meth c s₁ [] 0 0 := Stand.of_body Bd
  have e0 : s₁.heap = h0 := by rw [← hh, Bd.state]; rfl
  have N0 := Fr.nil n0
  obtain ⟨G, hG, K0⟩ : ∃ G : State → Prop, (∀ tq, G tq → Steps p.tables e below (s₁.setTop (entryFrame m #[(.ref tb), (.int (4 : Int32))] 2)) tq) ∧ Go p e below s₁ (mkF m 0 #[.val (.ref tb), .val (.int (4 : Int32))] []) G := ⟨fun tq => Steps p.tables e below (s₁.setTop (entryFrame m #[(.ref tb), (.int (4 : Int32))] 2)) tq, fun _ h => h, fun tq kq => castTop (ef_jdk_52_method_15_RI m tb (4 : Int32)) kq⟩
  have K810 : Go p e below s₁ (mkF m 1 #[.val (.ref tb), .val (.int (4 : Int32))] [(.int (4 : Int32))]) G := fun tq kq => K0 tq (XS.iloadN X0.here hx rfl (hb hby d_jdk_52_method_15_0) rfl kq)
  have K811 : Go p e below s₁ (mkF m 2 #[.val (.ref tb), .val (.int (4 : Int32))] [(.ref tb), (.int (4 : Int32))]) G := fun tq kq => K810 tq (XS.aloadN X0.here hx rfl (hb hby d_jdk_52_method_15_1) rfl rfl kq)
  obtain ⟨cl812, Ar812, q812, S812, Nn812, Hh812, Gg812⟩ := id V_tb
  have K813 : Go p e below s₁ (mkF m 3 #[.val (.ref tb), .val (.int (4 : Int32))] [(.int (8 : Int32)), (.int (4 : Int32))]) G := fun tq kq => K811 tq (X0.arraylength hx (by rw [e0]; exact Ar812.1) (State.isArrayOf_alike hZ.alike Ar812.2.1) (g := (mkF m 2 #[.val (.ref tb), .val (.int (4 : Int32))] [(.ref tb), (.int (4 : Int32))])) rfl rfl (hb hby d_jdk_52_method_15_2) _ (by rw [len_of S812 Nn812]; exact kq))
  have K814 : Go p e below s₁ (mkF m 4 #[.val (.ref tb), .val (.int (4 : Int32))] [(.int (-4 : Int32))]) G := fun tq kq => K813 tq (XS.isub X0.here hx rfl (hb hby d_jdk_52_method_15_3) rfl kq)
  have K815 : Go p e below s₁ (mkF m 6 #[.val (.ref tb), .val (.int (4 : Int32))] [(.int (31 : Int32)), (.int (-4 : Int32))]) G := fun tq kq => K814 tq (XS.bipush X0.here hx rfl (hb hby d_jdk_52_method_15_4) kq)
  have K816 : Go p e below s₁ (mkF m 7 #[.val (.ref tb), .val (.int (4 : Int32))] [(.int (((-4 : Int32).toUInt32 >>> ((31 : Int32) &&& 31).toUInt32).toInt32))]) G := fun tq kq => K815 tq (XS.iushr X0.here hx rfl (hb hby d_jdk_52_method_15_6) rfl kq)
  have K817 : Go p e below s₁ (mkF m 8 #[.val (.ref tb), .val (.int (4 : Int32))] [(.int ((((-4 : Int32).toUInt32 >>> ((31 : Int32) &&& 31).toUInt32).toInt32).toInt8.toInt32))]) G := fun tq kq => K816 tq (XS.i2b X0.here hx rfl (hb hby d_jdk_52_method_15_7) rfl kq)
  obtain ⟨fs, hr, hrun, hended, hWW, hsame⟩ := X0.leave (v := some (.int (nar .byte ((((-4 : Int32).toUInt32 >>> ((31 : Int32) &&& 31).toUInt32).toInt32).toInt8.toInt32)))) (fun h => by rw [Bd.returns] at h; cases h)
  refine ⟨_, _, hG _ (K817 _ (retN X0 hx (t := .byte) Bd.returns (by simp) (hb hby d_jdk_52_method_15_8) hr)), hrun, hended, _, _, rfl, ?_, ⟨_, rfl⟩, hWW, hsame.mono (by decide) (by decide)⟩
  show QCF4 Z tb kb vs h0 n0 _ s₁.heap _
  rw [e0]
  exact ⟨congrArg (fun z => some (Value.int z)) (by decide), N0, rfl⟩
def QN4w4 (Z : State) (a : Addr) (b : Addr) (kc : ClassId) (c0 : Int32) (c1 : Int32) (c2 : Int32) (c3 : Int32) (cz : Int32) (h0 : Heap) (n0 : Nat) (v : Option Value) (h : Heap) (L : List Loc) : Prop := v = none ∧ Fr n0 L ∧ Keep h0 h [a] ∧ Exa Z h a "java/lang/String" ∧ Fld Z h a "java/lang/String" "coder" "B" (.int (1 : Int32)) ∧ ∃ (tb : Addr) (kb : ClassId), tb ≠ a ∧ Fld Z h a "java/lang/String" "value" "[B" (.ref tb) ∧ Arv Z h tb kb .byte (8 : Int32) (StrChars.Road.wideBytes ([c0, c1, c2, c3] : List Int32)) (.int (0 : Int32))
set_option maxRecDepth 65536 in
set_option maxHeartbeats 40000000 in
theorem rmN4w4 (l : Launch) (Z : State) (a0 : Array Value) (hw : ∀ d ∈ tables_1, d.before a0 Z = true) (ws : List Jvm.Cond) (a : Addr) (b : Addr) (kc : ClassId) (c0 : Int32) (c1 : Int32) (c2 : Int32) (c3 : Int32) (cz : Int32) (h0 : Heap) (n0 : Nat) (Z0 : n0 ≤ h0.size) (F_value_a : Fld Z h0 a "java/lang/String" "value" "[B" .null) (F_coder_a : Fld Z h0 a "java/lang/String" "coder" "B" (.int (0 : Int32))) (E_a : Exa Z h0 a "java/lang/String") (ge_a : n0 ≤ a) (O0 : Old Z n0 h0) (S_cs : Sta Z Z.heap "java/lang/String" "COMPACT_STRINGS" "Z" (.int cz)) (hcz : ¬ cz = 0) (S_ad : Sta Z Z.heap "java/lang/StringUTF16" "$assertionsDisabled" "Z" (.int (1 : Int32))) (S_hi : Sta Z Z.heap "java/lang/StringUTF16" "HI_BYTE_SHIFT" "I" (.int (0 : Int32))) (S_lo : Sta Z Z.heap "java/lang/StringUTF16" "LO_BYTE_SHIFT" "I" (.int (8 : Int32))) (V_b : Arv Z h0 b kc .char (4 : Int32) [(.int c0), (.int c1), (.int c2), (.int c3)] (.int (0 : Int32))) (hwd : ¬ ∀ c ∈ ([c0, c1, c2, c3] : List Int32), ¬ (255 : Int32) < c) (hb5 : ∀ c ∈ ([c0, c1, c2, c3] : List Int32), ¬ c < 0 ∧ ¬ (65535 : Int32) < c) :
    MetFree l (⟨"java/lang/String", "<init>", "([CIILjava/lang/Void;)V"⟩ : MethodName) (head1 (Jvm.Cond.code (⟨"java/lang/String", "<init>", "([CIILjava/lang/Void;)V"⟩ : MethodName) jdk_42_method_149_code 6 none :: ws) ({ frames := 4, cells := 2, slots := 12, locals := 57 } : Room)) (fun aa UU => aa = #[(.ref a), (.ref b), (.int (0 : Int32)), (.int (4 : Int32)), .null] ∧ Z.Warmed39 UU.vm ∧ UU.heap = h0) (fun _ _ _ _ _ => True) (fun _ UU oo UU' => ∃ vv LL, oo = .returned vv ∧ QN4w4 Z a b kc c0 c1 c2 c3 cz h0 n0 vv UU'.heap LL ∧ FrameEnd UU oo UU' LL ({ frames := 4, cells := 2, slots := 12, locals := 57 } : Room).cells ({ frames := 4, cells := 2, slots := 12, locals := 57 } : Room).slots) := by
  refine MetFree.of_bodySF (plainFor_of_name pn_0) hisR ?_
  intro p e s m args below meth c s₁ Bd hml0 hP hK
  obtain ⟨rfl, hZ, hh⟩ := hP
  have hx := Bd.exec
  have hby := Bd.bytes
  have hml : c.maxLocals = 6 := hml0
  have hown : s.vm.findClass "java/lang/String" = some m.cls := findClass_of_methodNamed Bd.named
  have hnm := (name_of_methodNamed Bd.named Bd.method).1
  have hW : ∀ (k : Nat) (d : Jvm.Cond), tables_1[k]? = some d → d.before a0 Z = true := fun k d h => hw d (List.mem_of_getElem? h)
  have X0 : Stand p l e ({ frames := 4, cells := 2, slots := 12, locals := 57 } : Room) s m #[(.ref a), (.ref b), (.int (0 : Int32)), (.int (4 : Int32)), .null] below meth c s₁ [] 0 0 := Stand.of_body Bd
  have e0 : s₁.heap = h0 := by rw [← hh, Bd.state]; rfl
  have N0 := Fr.nil n0
  obtain ⟨G, hG, K0⟩ : ∃ G : State → Prop, (∀ tq, G tq → Steps p.tables e below (s₁.setTop (entryFrame m #[(.ref a), (.ref b), (.int (0 : Int32)), (.int (4 : Int32)), .null] 6)) tq) ∧ Go p e below s₁ (mkF m 0 #[.val (.ref a), .val (.ref b), .val (.int (0 : Int32)), .val (.int (4 : Int32)), .val .null, .unset] []) G := ⟨fun tq => Steps p.tables e below (s₁.setTop (entryFrame m #[(.ref a), (.ref b), (.int (0 : Int32)), (.int (4 : Int32)), .null] 6)) tq, fun _ h => h, fun tq kq => castTop (ef_jdk_42_method_149_RRIIN m a b (0 : Int32) (4 : Int32)) kq⟩
  have K818 : Go p e below s₁ (mkF m 1 #[.val (.ref a), .val (.ref b), .val (.int (0 : Int32)), .val (.int (4 : Int32)), .val .null, .unset] [(.ref a)]) G := fun tq kq => K0 tq (XS.aloadN X0.here hx rfl (hb hby d_jdk_42_method_149_0) rfl rfl kq)
  obtain ⟨T819, X819, e819, st819⟩ := initO X0 hx hZ hown (hW 19 _ rfl) (hW 20 _ rfl) (hW 21 _ rfl) e0 (g := (mkF m 1 #[.val (.ref a), .val (.ref b), .val (.int (0 : Int32)), .val (.int (4 : Int32)), .val .null, .unset] [(.ref a)])) rfl (by rw [hml]; rfl) rfl (hb hby d_jdk_42_method_149_1) (by decide) (W := 0) (by show 2 * 0 + _ ≤ _; exact Nat.le_of_eq rfl) (by decide)
  have K820 : Go p e below T819 (mkF m 4 #[.val (.ref a), .val (.ref b), .val (.int (0 : Int32)), .val (.int (4 : Int32)), .val .null, .unset] []) G := fun tq kq => K818 tq (st819 tq kq)
  have K821 : Go p e below T819 (mkF m 5 #[.val (.ref a), .val (.ref b), .val (.int (0 : Int32)), .val (.int (4 : Int32)), .val .null, .unset] [(.int (4 : Int32))]) G := fun tq kq => K820 tq (XS.iloadN X819.here hx rfl (hb hby d_jdk_42_method_149_4) rfl kq)
  have K822 : Go p e below T819 (mkF m 27 #[.val (.ref a), .val (.ref b), .val (.int (0 : Int32)), .val (.int (4 : Int32)), .val .null, .unset] []) G := fun tq kq => K821 tq (XS.ifYes X819.here hx rfl (pc0 := 5) (pc' := 27) rfl (hb hby d_jdk_42_method_149_5) rfl ((if0 _ _).trans (feq (by decide : ¬ ((4 : Int32) = (0 : Int32)))).2) (by decide) (by decide) kq)
  obtain ⟨T823, X823, e823, st823⟩ := getS2 X819 hx hZ hown (host := "") (Or.inl (hW 44 _ rfl)) Via.refl e819 (S_cs.ext O0.2) (g := (mkF m 27 #[.val (.ref a), .val (.ref b), .val (.int (0 : Int32)), .val (.int (4 : Int32)), .val .null, .unset] [])) rfl (hb hby d_jdk_42_method_149_27)
  have K824 : Go p e below T823 (mkF m 30 #[.val (.ref a), .val (.ref b), .val (.int (0 : Int32)), .val (.int (4 : Int32)), .val .null, .unset] [(.int cz)]) G := fun tq kq => K822 tq (st823 tq kq)
  have K825 : Go p e below T823 (mkF m 33 #[.val (.ref a), .val (.ref b), .val (.int (0 : Int32)), .val (.int (4 : Int32)), .val .null, .unset] []) G := fun tq kq => K824 tq (XS.ifNo X823.here hx rfl (hb hby d_jdk_42_method_149_30) rfl ((if0 _ _).trans (feq hcz).1) kq)
  have K826 : Go p e below T823 (mkF m 34 #[.val (.ref a), .val (.ref b), .val (.int (0 : Int32)), .val (.int (4 : Int32)), .val .null, .unset] [(.ref b)]) G := fun tq kq => K825 tq (XS.aloadN X823.here hx rfl (hb hby d_jdk_42_method_149_33) rfl rfl kq)
  have K827 : Go p e below T823 (mkF m 35 #[.val (.ref a), .val (.ref b), .val (.int (0 : Int32)), .val (.int (4 : Int32)), .val .null, .unset] [(.int (0 : Int32)), (.ref b)]) G := fun tq kq => K826 tq (XS.iloadN X823.here hx rfl (hb hby d_jdk_42_method_149_34) rfl kq)
  have K828 : Go p e below T823 (mkF m 36 #[.val (.ref a), .val (.ref b), .val (.int (0 : Int32)), .val (.int (4 : Int32)), .val .null, .unset] [(.int (4 : Int32)), (.int (0 : Int32)), (.ref b)]) G := fun tq kq => K827 tq (XS.iloadN X823.here hx rfl (hb hby d_jdk_42_method_149_35) rfl kq)
  obtain ⟨v829, _, ⟨T829, L829, k829, n829⟩, -, X829, ⟨Lc829, hQ829, l829, y829, z829⟩, st829⟩ := Jvm.LawKit.callS X823 hx (y := (⟨"java/lang/StringUTF16", "compress", "([CII)[B"⟩ : MethodName)) hown (mvT hZ (hW 45 _ rfl)) (mvT hZ (hW 46 _ rfl)) (mvT hZ (hW 47 _ rfl)) (mvT hZ (hW 48 _ rfl)) (by decide) (backOf (W := 0) (rmCM4 l Z a0 hw [] b kc c0 c1 c2 c3 h0 n0 Z0 O0 S_ad S_hi S_lo V_b hwd hb5) hZ (hW 48 _ rfl) (hW 47 _ rfl) (by decide) (by decide)) (g := (mkF m 36 #[.val (.ref a), .val (.ref b), .val (.int (0 : Int32)), .val (.int (4 : Int32)), .val .null, .unset] [(.int (4 : Int32)), (.int (0 : Int32)), (.ref b)])) rfl (by rw [hml]; rfl) (argsL := [(.ref b), (.int (0 : Int32)), (.int (4 : Int32))]) (rest := []) (lenOf pd_156 rfl) rfl (by show 2 * 0 + _ ≤ _; exact Nat.le_of_eq rfl) (hb hby d_jdk_42_method_149_36) (fun _ _ => ⟨rfl, e823, (by decide : 0 + 2 ≤ _), (by decide : 0 + 12 ≤ _)⟩)
  dsimp only [Pt.U, Pt.locs, Pt.cells, Pt.slots] at X829 l829 y829 z829 st829 hQ829
  subst l829 y829 z829
  obtain ⟨tb829, kb829, rfl, N829q, K829q, sz829, ge829, V829q⟩ := hQ829
  have N829 := Fr.app N0 N829q
  have na830 : a ≠ tb829 := Nat.ne_of_lt (Nat.lt_of_lt_of_le F_value_a.lt sz829)
  have na831 : b ≠ tb829 := Nat.ne_of_lt (Nat.lt_of_lt_of_le V_b.lt sz829)
  have sb829 := Nat.le_trans ((Keep.refl h0 [a])).1 sz829
  have K832 : Go p e below T829 (mkF m 39 #[.val (.ref a), .val (.ref b), .val (.int (0 : Int32)), .val (.int (4 : Int32)), .val .null, .unset] [(.ref tb829)]) G := fun tq kq => K828 tq (st829 tq kq)
  have K833 : Go p e below T829 (mkF m 41 #[.val (.ref a), .val (.ref b), .val (.int (0 : Int32)), .val (.int (4 : Int32)), .val .null, .val (.ref tb829)] []) G := fun tq kq => K832 tq (XS.astore X829.here hx rfl (hb hby d_jdk_42_method_149_39) rfl rfl (l' := #[.val (.ref a), .val (.ref b), .val (.int (0 : Int32)), .val (.int (4 : Int32)), .val .null, .val (.ref tb829)]) rfl kq)
  have K834 : Go p e below T829 (mkF m 42 #[.val (.ref a), .val (.ref b), .val (.int (0 : Int32)), .val (.int (4 : Int32)), .val .null, .val (.ref tb829)] [(.ref a)]) G := fun tq kq => K833 tq (XS.aloadN X829.here hx rfl (hb hby d_jdk_42_method_149_41) rfl rfl kq)
  have K835 : Go p e below T829 (mkF m 44 #[.val (.ref a), .val (.ref b), .val (.int (0 : Int32)), .val (.int (4 : Int32)), .val .null, .val (.ref tb829)] [(.ref tb829), (.ref a)]) G := fun tq kq => K834 tq (XS.aload X829.here hx rfl (hb hby d_jdk_42_method_149_42) rfl rfl kq)
  have K836 : Go p e below T829 (mkF m 45 #[.val (.ref a), .val (.ref b), .val (.int (0 : Int32)), .val (.int (4 : Int32)), .val .null, .val (.ref tb829)] [(.int (4 : Int32)), (.ref tb829), (.ref a)]) G := fun tq kq => K835 tq (XS.iloadN X829.here hx rfl (hb hby d_jdk_42_method_149_44) rfl kq)
  obtain ⟨v837, _, ⟨T837, L837, k837, n837⟩, -, X837, ⟨Lc837, hQ837, l837, y837, z837⟩, st837⟩ := Jvm.LawKit.callS X829 hx (y := (⟨"java/lang/StringUTF16", "coderFromArrayLen", "([BI)B"⟩ : MethodName)) hown (mvT hZ (hW 52 _ rfl)) (mvT hZ (hW 53 _ rfl)) (mvT hZ (hW 47 _ rfl)) (mvT hZ (hW 54 _ rfl)) (by decide) (backOf (W := 1) (rmCF4 l Z a0 hw [] tb829 kb829 (StrChars.Road.wideBytes ([c0, c1, c2, c3] : List Int32)) T829.heap n0 (Nat.le_trans Z0 K829q.1) V829q) hZ (hW 54 _ rfl) (hW 47 _ rfl) (by decide) (by decide)) (g := (mkF m 45 #[.val (.ref a), .val (.ref b), .val (.int (0 : Int32)), .val (.int (4 : Int32)), .val .null, .val (.ref tb829)] [(.int (4 : Int32)), (.ref tb829), (.ref a)])) rfl (by rw [hml]; rfl) (argsL := [(.ref tb829), (.int (4 : Int32))]) (rest := [(.ref a)]) (lenOf pd_192 rfl) rfl (by show 2 * 0 + _ ≤ _; exact Nat.le_of_eq rfl) (hb hby d_jdk_42_method_149_45) (fun _ _ => ⟨rfl, rfl, (by decide : 2 + 0 ≤ _), (by decide : 12 + 0 ≤ _)⟩)
  dsimp only [Pt.U, Pt.locs, Pt.cells, Pt.slots] at X837 l837 y837 z837 st837 hQ837
  subst l837 y837 z837
  obtain ⟨rfl, N837q, E837q⟩ := hQ837
  have N837 := Fr.app N829 N837q
  have K838 : Go p e below T837 (mkF m 48 #[.val (.ref a), .val (.ref b), .val (.int (0 : Int32)), .val (.int (4 : Int32)), .val .null, .val (.ref tb829)] [(.int (1 : Int32)), (.ref a)]) G := fun tq kq => K836 tq (st837 tq kq)
  obtain ⟨T839, h839, X839, e839, W839, st839⟩ := putFN X837 hx hZ hown (hW 29 _ rfl) Via.refl E837q (F_coder_a.keep K829q nin0) (E_a.keep K829q) (Or.inr ⟨(hW 25 _ rfl), rfl, hnm⟩) (hW 9 _ rfl) (ty := .byte) (v' := (.int (1 : Int32))) (by decide) rfl (by decide) (g := (mkF m 48 #[.val (.ref a), .val (.ref b), .val (.int (0 : Int32)), .val (.int (4 : Int32)), .val .null, .val (.ref tb829)] [(.int (1 : Int32)), (.ref a)])) rfl rfl (hb hby d_jdk_42_method_149_48)
  have N839 := Fr.snoc X839 N837 ge_a
  have F839 := Fld.same W839 (F_coder_a.keep K829q nin0)
  have K840 : Go p e below T839 (mkF m 51 #[.val (.ref a), .val (.ref b), .val (.int (0 : Int32)), .val (.int (4 : Int32)), .val .null, .val (.ref tb829)] []) G := fun tq kq => K838 tq (st839 tq kq)
  have K841 : Go p e below T839 (mkF m 52 #[.val (.ref a), .val (.ref b), .val (.int (0 : Int32)), .val (.int (4 : Int32)), .val .null, .val (.ref tb829)] [(.ref a)]) G := fun tq kq => K840 tq (XS.aloadN X839.here hx rfl (hb hby d_jdk_42_method_149_51) rfl rfl kq)
  have K842 : Go p e below T839 (mkF m 54 #[.val (.ref a), .val (.ref b), .val (.int (0 : Int32)), .val (.int (4 : Int32)), .val .null, .val (.ref tb829)] [(.ref tb829), (.ref a)]) G := fun tq kq => K841 tq (XS.aload X839.here hx rfl (hb hby d_jdk_42_method_149_52) rfl rfl kq)
  obtain ⟨T843, h843, X843, e843, W843, st843⟩ := putF X839 hx hZ hown (host := "") (Or.inl (hW 28 _ rfl)) Via.refl e839 ((F_value_a.keep K829q nin0).other W839 (Or.inr (slot_ne (Or.inr (hW 24 _ rfl)) (Or.inr (hW 25 _ rfl)) (by decide) (t := (.array .byte)) (t' := .byte) (by decide) (by decide)))) ((E_a.keep K829q).wr W839) (Or.inr ⟨(hW 24 _ rfl), rfl, hnm⟩) (hW 9 _ rfl) (ty := (.array .byte)) (by decide) rfl rfl (g := (mkF m 54 #[.val (.ref a), .val (.ref b), .val (.int (0 : Int32)), .val (.int (4 : Int32)), .val .null, .val (.ref tb829)] [(.ref tb829), (.ref a)])) rfl rfl (hb hby d_jdk_42_method_149_54)
  have N843 := Fr.snoc X843 N839 ge_a
  have F843 := Fld.same W843 ((F_value_a.keep K829q nin0).other W839 (Or.inr (slot_ne (Or.inr (hW 24 _ rfl)) (Or.inr (hW 25 _ rfl)) (by decide) (t := (.array .byte)) (t' := .byte) (by decide) (by decide))))
  have K844 : Go p e below T843 (mkF m 57 #[.val (.ref a), .val (.ref b), .val (.int (0 : Int32)), .val (.int (4 : Int32)), .val .null, .val (.ref tb829)] []) G := fun tq kq => K842 tq (st843 tq kq)
  obtain ⟨fs, hr, hrun, hended, hWW, hsame⟩ := X843.leave (v := none) (fun _ => rfl)
  refine ⟨_, _, hG _ (K844 _ (X843.returnOut hx Bd.returns (hb hby d_jdk_42_method_149_57) hr)), hrun, hended, _, _, rfl, ?_, ⟨_, rfl⟩, hWW, hsame.mono (by decide) (by decide)⟩
  show QN4w4 Z a b kc c0 c1 c2 c3 cz h0 n0 _ T843.heap _
  rw [e843]
  exact ⟨rfl, N843, ((((Keep.refl h0 [a]).trans K829q all0).wr W839 (Or.inl (List.mem_of_getElem? (i := 0) rfl))).wr W843 (Or.inl (List.mem_of_getElem? (i := 0) rfl))), (((E_a.keep K829q).wr W839).wr W843), (F839.other W843 (Or.inr (slot_ne (Or.inr (hW 25 _ rfl)) (Or.inr (hW 24 _ rfl)) (by decide) (t := .byte) (t' := (.array .byte)) (by decide) (by decide)))), tb829, _, (Ne.symm na830), F843, ((V829q.other W839 (Ne.symm na830)).other W843 (Ne.symm na830))⟩
def QN1w4 (Z : State) (a : Addr) (b : Addr) (kc : ClassId) (c0 : Int32) (c1 : Int32) (c2 : Int32) (c3 : Int32) (cz : Int32) (h0 : Heap) (n0 : Nat) (v : Option Value) (h : Heap) (L : List Loc) : Prop := v = none ∧ Fr n0 L ∧ Keep h0 h [a] ∧ Exa Z h a "java/lang/String" ∧ Fld Z h a "java/lang/String" "coder" "B" (.int (1 : Int32)) ∧ ∃ (tb : Addr) (kb : ClassId), tb ≠ a ∧ Fld Z h a "java/lang/String" "value" "[B" (.ref tb) ∧ Arv Z h tb kb .byte (8 : Int32) (StrChars.Road.wideBytes ([c0, c1, c2, c3] : List Int32)) (.int (0 : Int32))
set_option maxRecDepth 65536 in
set_option maxHeartbeats 40000000 in
theorem rmN1w4 (l : Launch) (Z : State) (a0 : Array Value) (hw : ∀ d ∈ tables_1, d.before a0 Z = true) (ws : List Jvm.Cond) (a : Addr) (b : Addr) (kc : ClassId) (c0 : Int32) (c1 : Int32) (c2 : Int32) (c3 : Int32) (cz : Int32) (h0 : Heap) (n0 : Nat) (Z0 : n0 ≤ h0.size) (F_value_a : Fld Z h0 a "java/lang/String" "value" "[B" .null) (F_coder_a : Fld Z h0 a "java/lang/String" "coder" "B" (.int (0 : Int32))) (E_a : Exa Z h0 a "java/lang/String") (ge_a : n0 ≤ a) (O0 : Old Z n0 h0) (S_cs : Sta Z Z.heap "java/lang/String" "COMPACT_STRINGS" "Z" (.int cz)) (hcz : ¬ cz = 0) (S_ad : Sta Z Z.heap "java/lang/StringUTF16" "$assertionsDisabled" "Z" (.int (1 : Int32))) (S_hi : Sta Z Z.heap "java/lang/StringUTF16" "HI_BYTE_SHIFT" "I" (.int (0 : Int32))) (S_lo : Sta Z Z.heap "java/lang/StringUTF16" "LO_BYTE_SHIFT" "I" (.int (8 : Int32))) (V_b : Arv Z h0 b kc .char (4 : Int32) [(.int c0), (.int c1), (.int c2), (.int c3)] (.int (0 : Int32))) (hwd : ¬ ∀ c ∈ ([c0, c1, c2, c3] : List Int32), ¬ (255 : Int32) < c) (hb5 : ∀ c ∈ ([c0, c1, c2, c3] : List Int32), ¬ c < 0 ∧ ¬ (65535 : Int32) < c) :
    MetFree l (⟨"java/lang/String", "<init>", "([C)V"⟩ : MethodName) (head1 (Jvm.Cond.code (⟨"java/lang/String", "<init>", "([C)V"⟩ : MethodName) jdk_42_method_3_code 2 none :: ws) ({ frames := 5, cells := 2, slots := 12, locals := 74 } : Room)) (fun aa UU => aa = #[(.ref a), (.ref b)] ∧ Z.Warmed39 UU.vm ∧ UU.heap = h0) (fun _ _ _ _ _ => True) (fun _ UU oo UU' => ∃ vv LL, oo = .returned vv ∧ QN1w4 Z a b kc c0 c1 c2 c3 cz h0 n0 vv UU'.heap LL ∧ FrameEnd UU oo UU' LL ({ frames := 5, cells := 2, slots := 12, locals := 74 } : Room).cells ({ frames := 5, cells := 2, slots := 12, locals := 74 } : Room).slots) := by
  refine MetFree.of_bodySF (plainFor_of_name pn_0) hisR ?_
  intro p e s m args below meth c s₁ Bd hml0 hP hK
  obtain ⟨rfl, hZ, hh⟩ := hP
  have hx := Bd.exec
  have hby := Bd.bytes
  have hml : c.maxLocals = 2 := hml0
  have hown : s.vm.findClass "java/lang/String" = some m.cls := findClass_of_methodNamed Bd.named
  have hnm := (name_of_methodNamed Bd.named Bd.method).1
  have hW : ∀ (k : Nat) (d : Jvm.Cond), tables_1[k]? = some d → d.before a0 Z = true := fun k d h => hw d (List.mem_of_getElem? h)
  have X0 : Stand p l e ({ frames := 5, cells := 2, slots := 12, locals := 74 } : Room) s m #[(.ref a), (.ref b)] below meth c s₁ [] 0 0 := Stand.of_body Bd
  have e0 : s₁.heap = h0 := by rw [← hh, Bd.state]; rfl
  have N0 := Fr.nil n0
  obtain ⟨G, hG, K0⟩ : ∃ G : State → Prop, (∀ tq, G tq → Steps p.tables e below (s₁.setTop (entryFrame m #[(.ref a), (.ref b)] 2)) tq) ∧ Go p e below s₁ (mkF m 0 #[.val (.ref a), .val (.ref b)] []) G := ⟨fun tq => Steps p.tables e below (s₁.setTop (entryFrame m #[(.ref a), (.ref b)] 2)) tq, fun _ h => h, fun tq kq => castTop (ef_jdk_42_method_3_RR m a b) kq⟩
  have K845 : Go p e below s₁ (mkF m 1 #[.val (.ref a), .val (.ref b)] [(.ref a)]) G := fun tq kq => K0 tq (XS.aloadN X0.here hx rfl (hb hby d_jdk_42_method_3_0) rfl rfl kq)
  have K846 : Go p e below s₁ (mkF m 2 #[.val (.ref a), .val (.ref b)] [(.ref b), (.ref a)]) G := fun tq kq => K845 tq (XS.aloadN X0.here hx rfl (hb hby d_jdk_42_method_3_1) rfl rfl kq)
  have K847 : Go p e below s₁ (mkF m 3 #[.val (.ref a), .val (.ref b)] [(.int (0 : Int32)), (.ref b), (.ref a)]) G := fun tq kq => K846 tq (XS.iconst X0.here hx rfl (hb hby d_jdk_42_method_3_2) kq)
  have K848 : Go p e below s₁ (mkF m 4 #[.val (.ref a), .val (.ref b)] [(.ref b), (.int (0 : Int32)), (.ref b), (.ref a)]) G := fun tq kq => K847 tq (XS.aloadN X0.here hx rfl (hb hby d_jdk_42_method_3_3) rfl rfl kq)
  obtain ⟨cl849, Ar849, q849, S849, Nn849, Hh849, Gg849⟩ := id V_b
  have K850 : Go p e below s₁ (mkF m 5 #[.val (.ref a), .val (.ref b)] [(.int (4 : Int32)), (.int (0 : Int32)), (.ref b), (.ref a)]) G := fun tq kq => K848 tq (X0.arraylength hx (by rw [e0]; exact Ar849.1) (State.isArrayOf_alike hZ.alike Ar849.2.1) (g := (mkF m 4 #[.val (.ref a), .val (.ref b)] [(.ref b), (.int (0 : Int32)), (.ref b), (.ref a)])) rfl rfl (hb hby d_jdk_42_method_3_4) _ (by rw [len_of S849 Nn849]; exact kq))
  have K851 : Go p e below s₁ (mkF m 6 #[.val (.ref a), .val (.ref b)] [.null, (.int (4 : Int32)), (.int (0 : Int32)), (.ref b), (.ref a)]) G := fun tq kq => K850 tq (XS.aconstNull X0.here hx rfl (hb hby d_jdk_42_method_3_5) kq)
  obtain ⟨v852, _, ⟨T852, L852, k852, n852⟩, -, X852, ⟨Lc852, hQ852, l852, y852, z852⟩, st852⟩ := X0.specialBack hx (y := (⟨"java/lang/String", "<init>", "([CIILjava/lang/Void;)V"⟩ : MethodName)) rfl hown (mvT hZ (hW 15 _ rfl)) (mvT hZ (hW 16 _ rfl)) (mvT hZ (hW 18 _ rfl)) (by decide) (backOf (W := 0) (rmN4w4 l Z a0 hw [] a b kc c0 c1 c2 c3 cz h0 n0 Z0 F_value_a F_coder_a E_a ge_a O0 S_cs hcz S_ad S_hi S_lo V_b hwd hb5) hZ (hW 18 _ rfl) (hW 10 _ rfl) (by decide) (by decide)) (g := (mkF m 6 #[.val (.ref a), .val (.ref b)] [.null, (.int (4 : Int32)), (.int (0 : Int32)), (.ref b), (.ref a)])) rfl (by rw [hml]; rfl) (Steps.refl _) (a := a) (argsL := [(.ref b), (.int (0 : Int32)), (.int (4 : Int32)), .null]) (rest := []) (lenOf pd_16 rfl) rfl (by show 2 * 0 + _ ≤ _; exact Nat.le_of_eq rfl) (hb hby d_jdk_42_method_3_6) (fun _ _ => ⟨rfl, e0, (by decide : 0 + 2 ≤ _), (by decide : 0 + 12 ≤ _)⟩)
  dsimp only [Pt.U, Pt.locs, Pt.cells, Pt.slots] at X852 l852 y852 z852 st852 hQ852
  subst l852 y852 z852
  obtain ⟨rfl, N852q, K852q, rest852⟩ := hQ852
  have N852 := Fr.app N0 N852q
  have K853 : Go p e below T852 (mkF m 9 #[.val (.ref a), .val (.ref b)] []) G := fun tq kq => K851 tq (st852.trans kq)
  obtain ⟨fs, hr, hrun, hended, hWW, hsame⟩ := X852.leave (v := none) (fun _ => rfl)
  refine ⟨_, _, hG _ (K853 _ (X852.returnOut hx Bd.returns (hb hby d_jdk_42_method_3_9) hr)), hrun, hended, _, _, rfl, ?_, ⟨_, rfl⟩, hWW, hsame.mono (by decide) (by decide)⟩
  show QN1w4 Z a b kc c0 c1 c2 c3 cz h0 n0 _ T852.heap _
  exact ⟨rfl, N852, ((Keep.refl h0 [a]).trans K852q (allS (Or.inl (List.mem_of_getElem? (i := 0) rfl)) all0)), rest852⟩
theorem own_idem (x : Int32) : nar .char (nar .char x) = nar .char x := by simp only [nar, UInt32.toUInt32_toInt32, UInt16.toUInt16_toUInt32]
def own_R (c : Int32) : Prop := (¬ c < 0 ∧ ¬ (65535 : Int32) < c) ∧ nar .char c = c
theorem own_rn (y : Int32) : own_R (nar .char y) := by
  refine ⟨?_, own_idem y⟩
  have h := c_i2c y
  show ¬ (y.toUInt32.toUInt16.toUInt32.toInt32) < 0 ∧ ¬ (65535 : Int32) < (y.toUInt32.toUInt16.toUInt32.toInt32)
  rw [Int32.lt_iff_toInt_lt, Int32.lt_iff_toInt_lt, own_I0, own_I65535]
  omega
theorem own_ofNat (a : Nat) (h : a ≤ 4000) : (Int32.ofNat a).toInt = a := Int32.toInt_ofNat_small (by omega)
theorem own_lt (a b : Nat) (h : a < b) (hb : b ≤ 4000) : Int32.ofNat a < Int32.ofNat b := by
  rw [Int32.lt_iff_toInt_lt, own_ofNat a (by omega), own_ofNat b hb]
  omega
theorem own_nn (a : Nat) (h : a ≤ 4000) : ¬ (Int32.ofNat a < (0 : Int32)) := by
  rw [Int32.lt_iff_toInt_lt, own_ofNat a h, own_I0]
  omega
theorem own_succ (a : Nat) (h : a < 4000) : Int32.ofNat a + (1 : Int32) = Int32.ofNat (a + 1) := by
  rw [← Int32.toInt_inj, own_ofNat (a + 1) (by omega)]
  have c := c_iadd (Int32.ofNat a) (1 : Int32)
  rw [own_ofNat a (by omega), own_I1] at c
  have r := rng32 (Int32.ofNat a + (1 : Int32))
  omega
theorem pn_209 : plainName "com/example/tallyrule/tallyrule/DecimalsDigitsFromPinLaw" = true := by first | (simp [plainName, overriddenIn]; done) | decide +kernel
theorem ef_method_2_I (m : MethodId) (x0 : Int32) : entryFrame m #[(.int x0)] 2 = mkF m 0 #[.val (.int x0), .unset] [] := by first | (simp [entryFrame, mkF, argsToLocals, Value.category]; done) | rfl
theorem d_method_2_0 : decode method_2_code 0 = .ok (.iload_n 0, 1) := by decide +kernel
theorem d_method_2_1 : decode method_2_code 1 = .ok (.bipush 15, 2) := by decide +kernel
theorem d_method_2_3 : decode method_2_code 3 = .ok (.iand, 1) := by decide +kernel
theorem d_method_2_4 : decode method_2_code 4 = .ok (.istore_n 1, 1) := by decide +kernel
theorem d_method_2_5 : decode method_2_code 5 = .ok (.iload_n 1, 1) := by decide +kernel
theorem d_method_2_6 : decode method_2_code 6 = .ok (.bipush 10, 2) := by decide +kernel
theorem d_method_2_8 : decode method_2_code 8 = .ok (.if_icmp .ge 9, 3) := by decide +kernel
theorem d_method_2_11 : decode method_2_code 11 = .ok (.bipush 48, 2) := by decide +kernel
theorem d_method_2_13 : decode method_2_code 13 = .ok (.iload_n 1, 1) := by decide +kernel
theorem d_method_2_14 : decode method_2_code 14 = .ok (.iadd, 1) := by decide +kernel
theorem d_method_2_15 : decode method_2_code 15 = .ok (.i2c, 1) := by decide +kernel
theorem d_method_2_16 : decode method_2_code 16 = .ok (.ireturn, 1) := by decide +kernel
theorem d_method_2_17 : decode method_2_code 17 = .ok (.iload_n 1, 1) := by decide +kernel
theorem d_method_2_18 : decode method_2_code 18 = .ok (.bipush 10, 2) := by decide +kernel
theorem d_method_2_20 : decode method_2_code 20 = .ok (.if_icmp .ne 6, 3) := by decide +kernel
theorem d_method_2_23 : decode method_2_code 23 = .ok (.bipush 47, 2) := by decide +kernel
theorem d_method_2_25 : decode method_2_code 25 = .ok (.ireturn, 1) := by decide +kernel
theorem d_method_2_26 : decode method_2_code 26 = .ok (.iload_n 1, 1) := by decide +kernel
theorem d_method_2_27 : decode method_2_code 27 = .ok (.bipush 11, 2) := by decide +kernel
theorem d_method_2_29 : decode method_2_code 29 = .ok (.if_icmp .ne 6, 3) := by decide +kernel
theorem d_method_2_32 : decode method_2_code 32 = .ok (.bipush 58, 2) := by decide +kernel
theorem d_method_2_34 : decode method_2_code 34 = .ok (.ireturn, 1) := by decide +kernel
theorem d_method_2_35 : decode method_2_code 35 = .ok (.iload_n 1, 1) := by decide +kernel
theorem d_method_2_36 : decode method_2_code 36 = .ok (.bipush 12, 2) := by decide +kernel
theorem d_method_2_38 : decode method_2_code 38 = .ok (.if_icmp .ne 6, 3) := by decide +kernel
theorem d_method_2_41 : decode method_2_code 41 = .ok (.bipush 46, 2) := by decide +kernel
theorem d_method_2_43 : decode method_2_code 43 = .ok (.ireturn, 1) := by decide +kernel
theorem d_method_2_44 : decode method_2_code 44 = .ok (.iload_n 1, 1) := by decide +kernel
theorem d_method_2_45 : decode method_2_code 45 = .ok (.bipush 13, 2) := by decide +kernel
theorem d_method_2_47 : decode method_2_code 47 = .ok (.if_icmp .ne 6, 3) := by decide +kernel
theorem d_method_2_50 : decode method_2_code 50 = .ok (.bipush 45, 2) := by decide +kernel
theorem d_method_2_52 : decode method_2_code 52 = .ok (.ireturn, 1) := by decide +kernel
theorem d_method_2_53 : decode method_2_code 53 = .ok (.iload_n 0, 1) := by decide +kernel
theorem d_method_2_54 : decode method_2_code 54 = .ok (.bipush 16, 2) := by decide +kernel
theorem d_method_2_56 : decode method_2_code 56 = .ok (.iushr, 1) := by decide +kernel
theorem d_method_2_57 : decode method_2_code 57 = .ok (.i2c, 1) := by decide +kernel
theorem d_method_2_58 : decode method_2_code 58 = .ok (.ireturn, 1) := by decide +kernel
def QCH (Z : State) (x : Int32) (h0 : Heap) (n0 : Nat) (v : Option Value) (h : Heap) (L : List Loc) : Prop := ∃ c : Int32, v = some (.int c) ∧ own_R c ∧ Fr n0 L ∧ h = h0
set_option maxRecDepth 65536 in
set_option maxHeartbeats 40000000 in
theorem rmCH (l : Launch) (Z : State) (a0 : Array Value) (hw : ∀ d ∈ tables_1, d.before a0 Z = true) (ws : List Jvm.Cond) (x : Int32) (h0 : Heap) (n0 : Nat) (Z0 : n0 ≤ h0.size) :
    MetFree l (⟨"com/example/tallyrule/tallyrule/DecimalsDigitsFromPinLaw", "ch", "(I)C"⟩ : MethodName) (head1 (Jvm.Cond.code (⟨"com/example/tallyrule/tallyrule/DecimalsDigitsFromPinLaw", "ch", "(I)C"⟩ : MethodName) method_2_code 2 (some .char) :: ws) ({ frames := 0, cells := 0, slots := 0, locals := 0 } : Room)) (fun aa UU => aa = #[(.int x)] ∧ Z.Warmed39 UU.vm ∧ UU.heap = h0) (fun _ _ _ _ _ => True) (fun _ UU oo UU' => ∃ vv LL, oo = .returned vv ∧ QCH Z x h0 n0 vv UU'.heap LL ∧ FrameEnd UU oo UU' LL ({ frames := 0, cells := 0, slots := 0, locals := 0 } : Room).cells ({ frames := 0, cells := 0, slots := 0, locals := 0 } : Room).slots) := by
  refine MetFree.of_bodySF (plainFor_of_name pn_209) hisR ?_
  intro p e s m args below meth c s₁ Bd hml0 hP hK
  obtain ⟨rfl, hZ, hh⟩ := hP
  have hx := Bd.exec
  have hby := Bd.bytes
  have hml : c.maxLocals = 2 := hml0
  have hown : s.vm.findClass "com/example/tallyrule/tallyrule/DecimalsDigitsFromPinLaw" = some m.cls := findClass_of_methodNamed Bd.named
  have hnm := (name_of_methodNamed Bd.named Bd.method).1
  have hW : ∀ (k : Nat) (d : Jvm.Cond), tables_1[k]? = some d → d.before a0 Z = true := fun k d h => hw d (List.mem_of_getElem? h)
  have X0 : Stand p l e ({ frames := 0, cells := 0, slots := 0, locals := 0 } : Room) s m #[(.int x)] below meth c s₁ [] 0 0 := Stand.of_body Bd
  have e0 : s₁.heap = h0 := by rw [← hh, Bd.state]; rfl
  have N0 := Fr.nil n0
  obtain ⟨G, hG, K0⟩ : ∃ G : State → Prop, (∀ tq, G tq → Steps p.tables e below (s₁.setTop (entryFrame m #[(.int x)] 2)) tq) ∧ Go p e below s₁ (mkF m 0 #[.val (.int x), .unset] []) G := ⟨fun tq => Steps p.tables e below (s₁.setTop (entryFrame m #[(.int x)] 2)) tq, fun _ h => h, fun tq kq => castTop (ef_method_2_I m x) kq⟩
  have K854 : Go p e below s₁ (mkF m 1 #[.val (.int x), .unset] [(.int x)]) G := fun tq kq => K0 tq (XS.iloadN X0.here hx rfl (hb hby d_method_2_0) rfl kq)
  have K855 : Go p e below s₁ (mkF m 3 #[.val (.int x), .unset] [(.int (15 : Int32)), (.int x)]) G := fun tq kq => K854 tq (XS.bipush X0.here hx rfl (hb hby d_method_2_1) kq)
  have K856 : Go p e below s₁ (mkF m 4 #[.val (.int x), .unset] [(.int (x &&& (15 : Int32)))]) G := fun tq kq => K855 tq (XS.iand X0.here hx rfl (hb hby d_method_2_3) rfl kq)
  have K857 : Go p e below s₁ (mkF m 5 #[.val (.int x), .val (.int (x &&& (15 : Int32)))] []) G := fun tq kq => K856 tq (XS.istoreN X0.here hx rfl (hb hby d_method_2_4) rfl (l' := #[.val (.int x), .val (.int (x &&& (15 : Int32)))]) rfl kq)
  have K858 : Go p e below s₁ (mkF m 6 #[.val (.int x), .val (.int (x &&& (15 : Int32)))] [(.int (x &&& (15 : Int32)))]) G := fun tq kq => K857 tq (XS.iloadN X0.here hx rfl (hb hby d_method_2_5) rfl kq)
  have K859 : Go p e below s₁ (mkF m 8 #[.val (.int x), .val (.int (x &&& (15 : Int32)))] [(.int (10 : Int32)), (.int (x &&& (15 : Int32)))]) G := fun tq kq => K858 tq (XS.bipush X0.here hx rfl (hb hby d_method_2_6) kq)
  by_cases hc860 : (x &&& (15 : Int32)) < (10 : Int32)
  · skip
    have K861 : Go p e below s₁ (mkF m 11 #[.val (.int x), .val (.int (x &&& (15 : Int32)))] []) G := fun tq kq => K859 tq (XS.icmpNo X0.here hx rfl (hb hby d_method_2_8) rfl ((tlt hc860).2.1) kq)
    have K862 : Go p e below s₁ (mkF m 13 #[.val (.int x), .val (.int (x &&& (15 : Int32)))] [(.int (48 : Int32))]) G := fun tq kq => K861 tq (XS.bipush X0.here hx rfl (hb hby d_method_2_11) kq)
    have K863 : Go p e below s₁ (mkF m 14 #[.val (.int x), .val (.int (x &&& (15 : Int32)))] [(.int (x &&& (15 : Int32))), (.int (48 : Int32))]) G := fun tq kq => K862 tq (XS.iloadN X0.here hx rfl (hb hby d_method_2_13) rfl kq)
    have K864 : Go p e below s₁ (mkF m 15 #[.val (.int x), .val (.int (x &&& (15 : Int32)))] [(.int ((48 : Int32) + (x &&& (15 : Int32))))]) G := fun tq kq => K863 tq (XS.iadd X0.here hx rfl (hb hby d_method_2_14) rfl kq)
    have K865 : Go p e below s₁ (mkF m 16 #[.val (.int x), .val (.int (x &&& (15 : Int32)))] [(.int (((48 : Int32) + (x &&& (15 : Int32))).toUInt32.toUInt16.toUInt32.toInt32))]) G := fun tq kq => K864 tq (XS.i2c X0.here hx rfl (hb hby d_method_2_15) rfl kq)
    obtain ⟨fs, hr, hrun, hended, hWW, hsame⟩ := X0.leave (v := some (.int (nar .char (((48 : Int32) + (x &&& (15 : Int32))).toUInt32.toUInt16.toUInt32.toInt32)))) (fun h => by rw [Bd.returns] at h; cases h)
    refine ⟨_, _, hG _ (K865 _ (retN X0 hx (t := .char) Bd.returns (by simp) (hb hby d_method_2_16) hr)), hrun, hended, _, _, rfl, ?_, ⟨_, rfl⟩, hWW, hsame.mono (by decide) (by decide)⟩
    show QCH Z x h0 n0 _ s₁.heap _
    rw [e0]
    exact ⟨_, rfl, own_rn _, N0, rfl⟩
  · skip
    have K866 : Go p e below s₁ (mkF m 17 #[.val (.int x), .val (.int (x &&& (15 : Int32)))] []) G := fun tq kq => K859 tq (XS.icmpYes X0.here hx rfl (pc0 := 8) (pc' := 17) rfl (hb hby d_method_2_8) rfl ((flt hc860).2.1) (by decide) (by decide) kq)
    have K867 : Go p e below s₁ (mkF m 18 #[.val (.int x), .val (.int (x &&& (15 : Int32)))] [(.int (x &&& (15 : Int32)))]) G := fun tq kq => K866 tq (XS.iloadN X0.here hx rfl (hb hby d_method_2_17) rfl kq)
    have K868 : Go p e below s₁ (mkF m 20 #[.val (.int x), .val (.int (x &&& (15 : Int32)))] [(.int (10 : Int32)), (.int (x &&& (15 : Int32)))]) G := fun tq kq => K867 tq (XS.bipush X0.here hx rfl (hb hby d_method_2_18) kq)
    by_cases hc869 : (x &&& (15 : Int32)) = (10 : Int32)
    · skip
      have K870 : Go p e below s₁ (mkF m 23 #[.val (.int x), .val (.int (x &&& (15 : Int32)))] []) G := fun tq kq => K868 tq (XS.icmpNo X0.here hx rfl (hb hby d_method_2_20) rfl ((teq hc869).2) kq)
      have K871 : Go p e below s₁ (mkF m 25 #[.val (.int x), .val (.int (x &&& (15 : Int32)))] [(.int (47 : Int32))]) G := fun tq kq => K870 tq (XS.bipush X0.here hx rfl (hb hby d_method_2_23) kq)
      obtain ⟨fs, hr, hrun, hended, hWW, hsame⟩ := X0.leave (v := some (.int (nar .char (47 : Int32)))) (fun h => by rw [Bd.returns] at h; cases h)
      refine ⟨_, _, hG _ (K871 _ (retN X0 hx (t := .char) Bd.returns (by simp) (hb hby d_method_2_25) hr)), hrun, hended, _, _, rfl, ?_, ⟨_, rfl⟩, hWW, hsame.mono (by decide) (by decide)⟩
      show QCH Z x h0 n0 _ s₁.heap _
      rw [e0]
      exact ⟨_, rfl, own_rn _, N0, rfl⟩
    · skip
      have K872 : Go p e below s₁ (mkF m 26 #[.val (.int x), .val (.int (x &&& (15 : Int32)))] []) G := fun tq kq => K868 tq (XS.icmpYes X0.here hx rfl (pc0 := 20) (pc' := 26) rfl (hb hby d_method_2_20) rfl ((feq hc869).2) (by decide) (by decide) kq)
      have K873 : Go p e below s₁ (mkF m 27 #[.val (.int x), .val (.int (x &&& (15 : Int32)))] [(.int (x &&& (15 : Int32)))]) G := fun tq kq => K872 tq (XS.iloadN X0.here hx rfl (hb hby d_method_2_26) rfl kq)
      have K874 : Go p e below s₁ (mkF m 29 #[.val (.int x), .val (.int (x &&& (15 : Int32)))] [(.int (11 : Int32)), (.int (x &&& (15 : Int32)))]) G := fun tq kq => K873 tq (XS.bipush X0.here hx rfl (hb hby d_method_2_27) kq)
      by_cases hc875 : (x &&& (15 : Int32)) = (11 : Int32)
      · skip
        have K876 : Go p e below s₁ (mkF m 32 #[.val (.int x), .val (.int (x &&& (15 : Int32)))] []) G := fun tq kq => K874 tq (XS.icmpNo X0.here hx rfl (hb hby d_method_2_29) rfl ((teq hc875).2) kq)
        have K877 : Go p e below s₁ (mkF m 34 #[.val (.int x), .val (.int (x &&& (15 : Int32)))] [(.int (58 : Int32))]) G := fun tq kq => K876 tq (XS.bipush X0.here hx rfl (hb hby d_method_2_32) kq)
        obtain ⟨fs, hr, hrun, hended, hWW, hsame⟩ := X0.leave (v := some (.int (nar .char (58 : Int32)))) (fun h => by rw [Bd.returns] at h; cases h)
        refine ⟨_, _, hG _ (K877 _ (retN X0 hx (t := .char) Bd.returns (by simp) (hb hby d_method_2_34) hr)), hrun, hended, _, _, rfl, ?_, ⟨_, rfl⟩, hWW, hsame.mono (by decide) (by decide)⟩
        show QCH Z x h0 n0 _ s₁.heap _
        rw [e0]
        exact ⟨_, rfl, own_rn _, N0, rfl⟩
      · skip
        have K878 : Go p e below s₁ (mkF m 35 #[.val (.int x), .val (.int (x &&& (15 : Int32)))] []) G := fun tq kq => K874 tq (XS.icmpYes X0.here hx rfl (pc0 := 29) (pc' := 35) rfl (hb hby d_method_2_29) rfl ((feq hc875).2) (by decide) (by decide) kq)
        have K879 : Go p e below s₁ (mkF m 36 #[.val (.int x), .val (.int (x &&& (15 : Int32)))] [(.int (x &&& (15 : Int32)))]) G := fun tq kq => K878 tq (XS.iloadN X0.here hx rfl (hb hby d_method_2_35) rfl kq)
        have K880 : Go p e below s₁ (mkF m 38 #[.val (.int x), .val (.int (x &&& (15 : Int32)))] [(.int (12 : Int32)), (.int (x &&& (15 : Int32)))]) G := fun tq kq => K879 tq (XS.bipush X0.here hx rfl (hb hby d_method_2_36) kq)
        by_cases hc881 : (x &&& (15 : Int32)) = (12 : Int32)
        · skip
          have K882 : Go p e below s₁ (mkF m 41 #[.val (.int x), .val (.int (x &&& (15 : Int32)))] []) G := fun tq kq => K880 tq (XS.icmpNo X0.here hx rfl (hb hby d_method_2_38) rfl ((teq hc881).2) kq)
          have K883 : Go p e below s₁ (mkF m 43 #[.val (.int x), .val (.int (x &&& (15 : Int32)))] [(.int (46 : Int32))]) G := fun tq kq => K882 tq (XS.bipush X0.here hx rfl (hb hby d_method_2_41) kq)
          obtain ⟨fs, hr, hrun, hended, hWW, hsame⟩ := X0.leave (v := some (.int (nar .char (46 : Int32)))) (fun h => by rw [Bd.returns] at h; cases h)
          refine ⟨_, _, hG _ (K883 _ (retN X0 hx (t := .char) Bd.returns (by simp) (hb hby d_method_2_43) hr)), hrun, hended, _, _, rfl, ?_, ⟨_, rfl⟩, hWW, hsame.mono (by decide) (by decide)⟩
          show QCH Z x h0 n0 _ s₁.heap _
          rw [e0]
          exact ⟨_, rfl, own_rn _, N0, rfl⟩
        · skip
          have K884 : Go p e below s₁ (mkF m 44 #[.val (.int x), .val (.int (x &&& (15 : Int32)))] []) G := fun tq kq => K880 tq (XS.icmpYes X0.here hx rfl (pc0 := 38) (pc' := 44) rfl (hb hby d_method_2_38) rfl ((feq hc881).2) (by decide) (by decide) kq)
          have K885 : Go p e below s₁ (mkF m 45 #[.val (.int x), .val (.int (x &&& (15 : Int32)))] [(.int (x &&& (15 : Int32)))]) G := fun tq kq => K884 tq (XS.iloadN X0.here hx rfl (hb hby d_method_2_44) rfl kq)
          have K886 : Go p e below s₁ (mkF m 47 #[.val (.int x), .val (.int (x &&& (15 : Int32)))] [(.int (13 : Int32)), (.int (x &&& (15 : Int32)))]) G := fun tq kq => K885 tq (XS.bipush X0.here hx rfl (hb hby d_method_2_45) kq)
          by_cases hc887 : (x &&& (15 : Int32)) = (13 : Int32)
          · skip
            have K888 : Go p e below s₁ (mkF m 50 #[.val (.int x), .val (.int (x &&& (15 : Int32)))] []) G := fun tq kq => K886 tq (XS.icmpNo X0.here hx rfl (hb hby d_method_2_47) rfl ((teq hc887).2) kq)
            have K889 : Go p e below s₁ (mkF m 52 #[.val (.int x), .val (.int (x &&& (15 : Int32)))] [(.int (45 : Int32))]) G := fun tq kq => K888 tq (XS.bipush X0.here hx rfl (hb hby d_method_2_50) kq)
            obtain ⟨fs, hr, hrun, hended, hWW, hsame⟩ := X0.leave (v := some (.int (nar .char (45 : Int32)))) (fun h => by rw [Bd.returns] at h; cases h)
            refine ⟨_, _, hG _ (K889 _ (retN X0 hx (t := .char) Bd.returns (by simp) (hb hby d_method_2_52) hr)), hrun, hended, _, _, rfl, ?_, ⟨_, rfl⟩, hWW, hsame.mono (by decide) (by decide)⟩
            show QCH Z x h0 n0 _ s₁.heap _
            rw [e0]
            exact ⟨_, rfl, own_rn _, N0, rfl⟩
          · skip
            have K890 : Go p e below s₁ (mkF m 53 #[.val (.int x), .val (.int (x &&& (15 : Int32)))] []) G := fun tq kq => K886 tq (XS.icmpYes X0.here hx rfl (pc0 := 47) (pc' := 53) rfl (hb hby d_method_2_47) rfl ((feq hc887).2) (by decide) (by decide) kq)
            have K891 : Go p e below s₁ (mkF m 54 #[.val (.int x), .val (.int (x &&& (15 : Int32)))] [(.int x)]) G := fun tq kq => K890 tq (XS.iloadN X0.here hx rfl (hb hby d_method_2_53) rfl kq)
            have K892 : Go p e below s₁ (mkF m 56 #[.val (.int x), .val (.int (x &&& (15 : Int32)))] [(.int (16 : Int32)), (.int x)]) G := fun tq kq => K891 tq (XS.bipush X0.here hx rfl (hb hby d_method_2_54) kq)
            have K893 : Go p e below s₁ (mkF m 57 #[.val (.int x), .val (.int (x &&& (15 : Int32)))] [(.int ((x.toUInt32 >>> ((16 : Int32) &&& 31).toUInt32).toInt32))]) G := fun tq kq => K892 tq (XS.iushr X0.here hx rfl (hb hby d_method_2_56) rfl kq)
            have K894 : Go p e below s₁ (mkF m 58 #[.val (.int x), .val (.int (x &&& (15 : Int32)))] [(.int (((x.toUInt32 >>> ((16 : Int32) &&& 31).toUInt32).toInt32).toUInt32.toUInt16.toUInt32.toInt32))]) G := fun tq kq => K893 tq (XS.i2c X0.here hx rfl (hb hby d_method_2_57) rfl kq)
            obtain ⟨fs, hr, hrun, hended, hWW, hsame⟩ := X0.leave (v := some (.int (nar .char (((x.toUInt32 >>> ((16 : Int32) &&& 31).toUInt32).toInt32).toUInt32.toUInt16.toUInt32.toInt32)))) (fun h => by rw [Bd.returns] at h; cases h)
            refine ⟨_, _, hG _ (K894 _ (retN X0 hx (t := .char) Bd.returns (by simp) (hb hby d_method_2_58) hr)), hrun, hended, _, _, rfl, ?_, ⟨_, rfl⟩, hWW, hsame.mono (by decide) (by decide)⟩
            show QCH Z x h0 n0 _ s₁.heap _
            rw [e0]
            exact ⟨_, rfl, own_rn _, N0, rfl⟩
theorem ef_method_3_I (m : MethodId) (x0 : Int32) : entryFrame m #[(.int x0)] 1 = mkF m 0 #[.val (.int x0)] [] := by first | (simp [entryFrame, mkF, argsToLocals, Value.category]; done) | rfl
theorem d_method_3_0 : decode method_3_code 0 = .ok (.iload_n 0, 1) := by decide +kernel
theorem d_method_3_1 : decode method_3_code 1 = .ok (.bipush 48, 2) := by decide +kernel
theorem d_method_3_3 : decode method_3_code 3 = .ok (.if_icmp .lt 13, 3) := by decide +kernel
theorem d_method_3_6 : decode method_3_code 6 = .ok (.iload_n 0, 1) := by decide +kernel
theorem d_method_3_7 : decode method_3_code 7 = .ok (.bipush 58, 2) := by decide +kernel
theorem d_method_3_9 : decode method_3_code 9 = .ok (.if_icmp .ge 7, 3) := by decide +kernel
theorem d_method_3_12 : decode method_3_code 12 = .ok (.iconst 1, 1) := by decide +kernel
theorem d_method_3_13 : decode method_3_code 13 = .ok (.goto 4, 3) := by decide +kernel
theorem d_method_3_16 : decode method_3_code 16 = .ok (.iconst 0, 1) := by decide +kernel
theorem d_method_3_17 : decode method_3_code 17 = .ok (.ireturn, 1) := by decide +kernel
def QDG (Z : State) (ch : Int32) (h0 : Heap) (n0 : Nat) (v : Option Value) (h : Heap) (L : List Loc) : Prop := v = some (.int (if ¬ (ch < (48 : Int32)) ∧ ch < (58 : Int32) then (1 : Int32) else 0)) ∧ Fr n0 L ∧ h = h0
set_option maxRecDepth 65536 in
set_option maxHeartbeats 40000000 in
theorem rmDG (l : Launch) (Z : State) (a0 : Array Value) (hw : ∀ d ∈ tables_1, d.before a0 Z = true) (ws : List Jvm.Cond) (ch : Int32) (h0 : Heap) (n0 : Nat) (Z0 : n0 ≤ h0.size) :
    MetFree l (⟨"com/example/tallyrule/tallyrule/DecimalsDigitsFromPinLaw", "dig", "(C)Z"⟩ : MethodName) (head1 (Jvm.Cond.code (⟨"com/example/tallyrule/tallyrule/DecimalsDigitsFromPinLaw", "dig", "(C)Z"⟩ : MethodName) method_3_code 1 (some .boolean) :: ws) ({ frames := 0, cells := 0, slots := 0, locals := 0 } : Room)) (fun aa UU => aa = #[(.int ch)] ∧ Z.Warmed39 UU.vm ∧ UU.heap = h0) (fun _ _ _ _ _ => True) (fun _ UU oo UU' => ∃ vv LL, oo = .returned vv ∧ QDG Z ch h0 n0 vv UU'.heap LL ∧ FrameEnd UU oo UU' LL ({ frames := 0, cells := 0, slots := 0, locals := 0 } : Room).cells ({ frames := 0, cells := 0, slots := 0, locals := 0 } : Room).slots) := by
  refine MetFree.of_bodySF (plainFor_of_name pn_209) hisR ?_
  intro p e s m args below meth c s₁ Bd hml0 hP hK
  obtain ⟨rfl, hZ, hh⟩ := hP
  have hx := Bd.exec
  have hby := Bd.bytes
  have hml : c.maxLocals = 1 := hml0
  have hown : s.vm.findClass "com/example/tallyrule/tallyrule/DecimalsDigitsFromPinLaw" = some m.cls := findClass_of_methodNamed Bd.named
  have hnm := (name_of_methodNamed Bd.named Bd.method).1
  have hW : ∀ (k : Nat) (d : Jvm.Cond), tables_1[k]? = some d → d.before a0 Z = true := fun k d h => hw d (List.mem_of_getElem? h)
  have X0 : Stand p l e ({ frames := 0, cells := 0, slots := 0, locals := 0 } : Room) s m #[(.int ch)] below meth c s₁ [] 0 0 := Stand.of_body Bd
  have e0 : s₁.heap = h0 := by rw [← hh, Bd.state]; rfl
  have N0 := Fr.nil n0
  obtain ⟨G, hG, K0⟩ : ∃ G : State → Prop, (∀ tq, G tq → Steps p.tables e below (s₁.setTop (entryFrame m #[(.int ch)] 1)) tq) ∧ Go p e below s₁ (mkF m 0 #[.val (.int ch)] []) G := ⟨fun tq => Steps p.tables e below (s₁.setTop (entryFrame m #[(.int ch)] 1)) tq, fun _ h => h, fun tq kq => castTop (ef_method_3_I m ch) kq⟩
  have K895 : Go p e below s₁ (mkF m 1 #[.val (.int ch)] [(.int ch)]) G := fun tq kq => K0 tq (XS.iloadN X0.here hx rfl (hb hby d_method_3_0) rfl kq)
  have K896 : Go p e below s₁ (mkF m 3 #[.val (.int ch)] [(.int (48 : Int32)), (.int ch)]) G := fun tq kq => K895 tq (XS.bipush X0.here hx rfl (hb hby d_method_3_1) kq)
  by_cases hc897 : ch < (48 : Int32)
  · skip
    have K898 : Go p e below s₁ (mkF m 16 #[.val (.int ch)] []) G := fun tq kq => K896 tq (XS.icmpYes X0.here hx rfl (pc0 := 3) (pc' := 16) rfl (hb hby d_method_3_3) rfl ((tlt hc897).1) (by decide) (by decide) kq)
    have K899 : Go p e below s₁ (mkF m 17 #[.val (.int ch)] [(.int (0 : Int32))]) G := fun tq kq => K898 tq (XS.iconst X0.here hx rfl (hb hby d_method_3_16) kq)
    obtain ⟨fs, hr, hrun, hended, hWW, hsame⟩ := X0.leave (v := some (.int (0 : Int32))) (fun h => by rw [Bd.returns] at h; cases h)
    refine ⟨_, _, hG _ (K899 _ (retN X0 hx (t := .boolean) Bd.returns (by simp) (hb hby d_method_3_17) hr)), hrun, hended, _, _, rfl, ?_, ⟨_, rfl⟩, hWW, hsame.mono (by decide) (by decide)⟩
    show QDG Z ch h0 n0 _ s₁.heap _
    rw [e0]
    exact ⟨by simp [hc897], N0, rfl⟩
  · skip
    have K900 : Go p e below s₁ (mkF m 6 #[.val (.int ch)] []) G := fun tq kq => K896 tq (XS.icmpNo X0.here hx rfl (hb hby d_method_3_3) rfl ((flt hc897).1) kq)
    have K901 : Go p e below s₁ (mkF m 7 #[.val (.int ch)] [(.int ch)]) G := fun tq kq => K900 tq (XS.iloadN X0.here hx rfl (hb hby d_method_3_6) rfl kq)
    have K902 : Go p e below s₁ (mkF m 9 #[.val (.int ch)] [(.int (58 : Int32)), (.int ch)]) G := fun tq kq => K901 tq (XS.bipush X0.here hx rfl (hb hby d_method_3_7) kq)
    by_cases hc903 : ch < (58 : Int32)
    · skip
      have K904 : Go p e below s₁ (mkF m 12 #[.val (.int ch)] []) G := fun tq kq => K902 tq (XS.icmpNo X0.here hx rfl (hb hby d_method_3_9) rfl ((tlt hc903).2.1) kq)
      have K905 : Go p e below s₁ (mkF m 13 #[.val (.int ch)] [(.int (1 : Int32))]) G := fun tq kq => K904 tq (XS.iconst X0.here hx rfl (hb hby d_method_3_12) kq)
      have K906 : Go p e below s₁ (mkF m 17 #[.val (.int ch)] [(.int (1 : Int32))]) G := fun tq kq => K905 tq (XS.goto X0.here hx rfl (pc0 := 13) (pc' := 17) rfl (hb hby d_method_3_13) (by decide) (by decide) kq)
      obtain ⟨fs, hr, hrun, hended, hWW, hsame⟩ := X0.leave (v := some (.int (1 : Int32))) (fun h => by rw [Bd.returns] at h; cases h)
      refine ⟨_, _, hG _ (K906 _ (retN X0 hx (t := .boolean) Bd.returns (by simp) (hb hby d_method_3_17) hr)), hrun, hended, _, _, rfl, ?_, ⟨_, rfl⟩, hWW, hsame.mono (by decide) (by decide)⟩
      show QDG Z ch h0 n0 _ s₁.heap _
      rw [e0]
      exact ⟨by simp [hc897, hc903], N0, rfl⟩
    · skip
      have K907 : Go p e below s₁ (mkF m 16 #[.val (.int ch)] []) G := fun tq kq => K902 tq (XS.icmpYes X0.here hx rfl (pc0 := 9) (pc' := 16) rfl (hb hby d_method_3_9) rfl ((flt hc903).2.1) (by decide) (by decide) kq)
      have K908 : Go p e below s₁ (mkF m 17 #[.val (.int ch)] [(.int (0 : Int32))]) G := fun tq kq => K907 tq (XS.iconst X0.here hx rfl (hb hby d_method_3_16) kq)
      obtain ⟨fs, hr, hrun, hended, hWW, hsame⟩ := X0.leave (v := some (.int (0 : Int32))) (fun h => by rw [Bd.returns] at h; cases h)
      refine ⟨_, _, hG _ (K908 _ (retN X0 hx (t := .boolean) Bd.returns (by simp) (hb hby d_method_3_17) hr)), hrun, hended, _, _, rfl, ?_, ⟨_, rfl⟩, hWW, hsame.mono (by decide) (by decide)⟩
      show QDG Z ch h0 n0 _ s₁.heap _
      rw [e0]
      exact ⟨by simp [hc897, hc903], N0, rfl⟩
def own_tx (n c0 c1 c2 c3 : Int32) : List Int32 := if n = 0 then [] else if n = 1 then [c0] else if n = 2 then [c0, c1] else if n = 3 then [c0, c1, c2] else [c0, c1, c2, c3]
theorem ef_method_4_IIIII (m : MethodId) (x0 : Int32) (x1 : Int32) (x2 : Int32) (x3 : Int32) (x4 : Int32) : entryFrame m #[(.int x0), (.int x1), (.int x2), (.int x3), (.int x4)] 5 = mkF m 0 #[.val (.int x0), .val (.int x1), .val (.int x2), .val (.int x3), .val (.int x4)] [] := by first | (simp [entryFrame, mkF, argsToLocals, Value.category]; done) | rfl
theorem pd_260 : parseMethodDescriptor "([C)V" = some ⟨[(.array .char)], none⟩ := by decide +kernel
theorem d_method_4_0 : decode method_4_code 0 = .ok (.iload 4, 2) := by decide +kernel
theorem d_method_4_2 : decode method_4_code 2 = .ok (.ifCond .ne 14, 3) := by decide +kernel
theorem d_method_4_5 : decode method_4_code 5 = .ok (.new 7, 3) := by decide +kernel
theorem d_method_4_8 : decode method_4_code 8 = .ok (.dup, 1) := by decide +kernel
theorem d_method_4_9 : decode method_4_code 9 = .ok (.iconst 0, 1) := by decide +kernel
theorem d_method_4_10 : decode method_4_code 10 = .ok (.newarray .char, 2) := by decide +kernel
theorem d_method_4_12 : decode method_4_code 12 = .ok (.invokespecial 9, 3) := by decide +kernel
theorem d_method_4_15 : decode method_4_code 15 = .ok (.areturn, 1) := by decide +kernel
theorem d_method_4_16 : decode method_4_code 16 = .ok (.iload 4, 2) := by decide +kernel
theorem d_method_4_18 : decode method_4_code 18 = .ok (.iconst 1, 1) := by decide +kernel
theorem d_method_4_19 : decode method_4_code 19 = .ok (.if_icmp .ne 18, 3) := by decide +kernel
theorem d_method_4_22 : decode method_4_code 22 = .ok (.new 7, 3) := by decide +kernel
theorem d_method_4_25 : decode method_4_code 25 = .ok (.dup, 1) := by decide +kernel
theorem d_method_4_26 : decode method_4_code 26 = .ok (.iconst 1, 1) := by decide +kernel
theorem d_method_4_27 : decode method_4_code 27 = .ok (.newarray .char, 2) := by decide +kernel
theorem d_method_4_29 : decode method_4_code 29 = .ok (.dup, 1) := by decide +kernel
theorem d_method_4_30 : decode method_4_code 30 = .ok (.iconst 0, 1) := by decide +kernel
theorem d_method_4_31 : decode method_4_code 31 = .ok (.iload_n 0, 1) := by decide +kernel
theorem d_method_4_32 : decode method_4_code 32 = .ok (.castore, 1) := by decide +kernel
theorem d_method_4_33 : decode method_4_code 33 = .ok (.invokespecial 9, 3) := by decide +kernel
theorem d_method_4_36 : decode method_4_code 36 = .ok (.areturn, 1) := by decide +kernel
theorem d_method_4_37 : decode method_4_code 37 = .ok (.iload 4, 2) := by decide +kernel
theorem d_method_4_39 : decode method_4_code 39 = .ok (.iconst 2, 1) := by decide +kernel
theorem d_method_4_40 : decode method_4_code 40 = .ok (.if_icmp .ne 22, 3) := by decide +kernel
theorem d_method_4_43 : decode method_4_code 43 = .ok (.new 7, 3) := by decide +kernel
theorem d_method_4_46 : decode method_4_code 46 = .ok (.dup, 1) := by decide +kernel
theorem d_method_4_47 : decode method_4_code 47 = .ok (.iconst 2, 1) := by decide +kernel
theorem d_method_4_48 : decode method_4_code 48 = .ok (.newarray .char, 2) := by decide +kernel
theorem d_method_4_50 : decode method_4_code 50 = .ok (.dup, 1) := by decide +kernel
theorem d_method_4_51 : decode method_4_code 51 = .ok (.iconst 0, 1) := by decide +kernel
theorem d_method_4_52 : decode method_4_code 52 = .ok (.iload_n 0, 1) := by decide +kernel
theorem d_method_4_53 : decode method_4_code 53 = .ok (.castore, 1) := by decide +kernel
theorem d_method_4_54 : decode method_4_code 54 = .ok (.dup, 1) := by decide +kernel
theorem d_method_4_55 : decode method_4_code 55 = .ok (.iconst 1, 1) := by decide +kernel
theorem d_method_4_56 : decode method_4_code 56 = .ok (.iload_n 1, 1) := by decide +kernel
theorem d_method_4_57 : decode method_4_code 57 = .ok (.castore, 1) := by decide +kernel
theorem d_method_4_58 : decode method_4_code 58 = .ok (.invokespecial 9, 3) := by decide +kernel
theorem d_method_4_61 : decode method_4_code 61 = .ok (.areturn, 1) := by decide +kernel
theorem d_method_4_62 : decode method_4_code 62 = .ok (.iload 4, 2) := by decide +kernel
theorem d_method_4_64 : decode method_4_code 64 = .ok (.iconst 3, 1) := by decide +kernel
theorem d_method_4_65 : decode method_4_code 65 = .ok (.if_icmp .ne 26, 3) := by decide +kernel
theorem d_method_4_68 : decode method_4_code 68 = .ok (.new 7, 3) := by decide +kernel
theorem d_method_4_71 : decode method_4_code 71 = .ok (.dup, 1) := by decide +kernel
theorem d_method_4_72 : decode method_4_code 72 = .ok (.iconst 3, 1) := by decide +kernel
theorem d_method_4_73 : decode method_4_code 73 = .ok (.newarray .char, 2) := by decide +kernel
theorem d_method_4_75 : decode method_4_code 75 = .ok (.dup, 1) := by decide +kernel
theorem d_method_4_76 : decode method_4_code 76 = .ok (.iconst 0, 1) := by decide +kernel
theorem d_method_4_77 : decode method_4_code 77 = .ok (.iload_n 0, 1) := by decide +kernel
theorem d_method_4_78 : decode method_4_code 78 = .ok (.castore, 1) := by decide +kernel
theorem d_method_4_79 : decode method_4_code 79 = .ok (.dup, 1) := by decide +kernel
theorem d_method_4_80 : decode method_4_code 80 = .ok (.iconst 1, 1) := by decide +kernel
theorem d_method_4_81 : decode method_4_code 81 = .ok (.iload_n 1, 1) := by decide +kernel
theorem d_method_4_82 : decode method_4_code 82 = .ok (.castore, 1) := by decide +kernel
theorem d_method_4_83 : decode method_4_code 83 = .ok (.dup, 1) := by decide +kernel
theorem d_method_4_84 : decode method_4_code 84 = .ok (.iconst 2, 1) := by decide +kernel
theorem d_method_4_85 : decode method_4_code 85 = .ok (.iload_n 2, 1) := by decide +kernel
theorem d_method_4_86 : decode method_4_code 86 = .ok (.castore, 1) := by decide +kernel
theorem d_method_4_87 : decode method_4_code 87 = .ok (.invokespecial 9, 3) := by decide +kernel
theorem d_method_4_90 : decode method_4_code 90 = .ok (.areturn, 1) := by decide +kernel
theorem d_method_4_91 : decode method_4_code 91 = .ok (.new 7, 3) := by decide +kernel
theorem d_method_4_94 : decode method_4_code 94 = .ok (.dup, 1) := by decide +kernel
theorem d_method_4_95 : decode method_4_code 95 = .ok (.iconst 4, 1) := by decide +kernel
theorem d_method_4_96 : decode method_4_code 96 = .ok (.newarray .char, 2) := by decide +kernel
theorem d_method_4_98 : decode method_4_code 98 = .ok (.dup, 1) := by decide +kernel
theorem d_method_4_99 : decode method_4_code 99 = .ok (.iconst 0, 1) := by decide +kernel
theorem d_method_4_100 : decode method_4_code 100 = .ok (.iload_n 0, 1) := by decide +kernel
theorem d_method_4_101 : decode method_4_code 101 = .ok (.castore, 1) := by decide +kernel
theorem d_method_4_102 : decode method_4_code 102 = .ok (.dup, 1) := by decide +kernel
theorem d_method_4_103 : decode method_4_code 103 = .ok (.iconst 1, 1) := by decide +kernel
theorem d_method_4_104 : decode method_4_code 104 = .ok (.iload_n 1, 1) := by decide +kernel
theorem d_method_4_105 : decode method_4_code 105 = .ok (.castore, 1) := by decide +kernel
theorem d_method_4_106 : decode method_4_code 106 = .ok (.dup, 1) := by decide +kernel
theorem d_method_4_107 : decode method_4_code 107 = .ok (.iconst 2, 1) := by decide +kernel
theorem d_method_4_108 : decode method_4_code 108 = .ok (.iload_n 2, 1) := by decide +kernel
theorem d_method_4_109 : decode method_4_code 109 = .ok (.castore, 1) := by decide +kernel
theorem d_method_4_110 : decode method_4_code 110 = .ok (.dup, 1) := by decide +kernel
theorem d_method_4_111 : decode method_4_code 111 = .ok (.iconst 3, 1) := by decide +kernel
theorem d_method_4_112 : decode method_4_code 112 = .ok (.iload_n 3, 1) := by decide +kernel
theorem d_method_4_113 : decode method_4_code 113 = .ok (.castore, 1) := by decide +kernel
theorem d_method_4_114 : decode method_4_code 114 = .ok (.invokespecial 9, 3) := by decide +kernel
theorem d_method_4_117 : decode method_4_code 117 = .ok (.areturn, 1) := by decide +kernel
def QST (Z : State) (c0 : Int32) (c1 : Int32) (c2 : Int32) (c3 : Int32) (n : Int32) (cz : Int32) (h0 : Heap) (n0 : Nat) (v : Option Value) (h : Heap) (L : List Loc) : Prop := ∃ (r : Addr) (tb : Addr) (kb : ClassId) (cd : Int32) (N2 : Int32) (vs : List Value), v = some (.ref r) ∧ Fr n0 L ∧ Keep h0 h [] ∧ Exa Z h r "java/lang/String" ∧ Fld Z h r "java/lang/String" "value" "[B" (.ref tb) ∧ Fld Z h r "java/lang/String" "coder" "B" (.int cd) ∧ Arv Z h tb kb .byte N2 vs (.int (0 : Int32)) ∧ StrChars.Road.CodA (own_tx n c0 c1 c2 c3) cd N2 vs
set_option maxRecDepth 65536 in
set_option maxHeartbeats 40000000 in
theorem rmST (l : Launch) (Z : State) (a0 : Array Value) (hw : ∀ d ∈ tables_1, d.before a0 Z = true) (ws : List Jvm.Cond) (c0 : Int32) (c1 : Int32) (c2 : Int32) (c3 : Int32) (n : Int32) (cz : Int32) (h0 : Heap) (n0 : Nat) (Z0 : n0 ≤ h0.size) (O0 : Old Z n0 h0) (S_cs : Sta Z Z.heap "java/lang/String" "COMPACT_STRINGS" "Z" (.int cz)) (hcz : ¬ cz = 0) (S_ad : Sta Z Z.heap "java/lang/StringUTF16" "$assertionsDisabled" "Z" (.int (1 : Int32))) (S_hi : Sta Z Z.heap "java/lang/StringUTF16" "HI_BYTE_SHIFT" "I" (.int (0 : Int32))) (S_lo : Sta Z Z.heap "java/lang/StringUTF16" "LO_BYTE_SHIFT" "I" (.int (8 : Int32))) (R_c0 : own_R c0) (R_c1 : own_R c1) (R_c2 : own_R c2) (R_c3 : own_R c3) :
    MetFree l (⟨"com/example/tallyrule/tallyrule/DecimalsDigitsFromPinLaw", "str", "(CCCCI)Ljava/lang/String;"⟩ : MethodName) (head1 (Jvm.Cond.code (⟨"com/example/tallyrule/tallyrule/DecimalsDigitsFromPinLaw", "str", "(CCCCI)Ljava/lang/String;"⟩ : MethodName) method_4_code 5 (some (.object "java/lang/String")) :: ws) ({ frames := 6, cells := 4, slots := 20, locals := 88 } : Room)) (fun aa UU => aa = #[(.int c0), (.int c1), (.int c2), (.int c3), (.int n)] ∧ Z.Warmed39 UU.vm ∧ UU.heap = h0 ∧ CHv Z own_EL UU.vm h0) (fun _ _ _ _ _ => True) (fun _ UU oo UU' => ∃ vv LL, oo = .returned vv ∧ QST Z c0 c1 c2 c3 n cz h0 n0 vv UU'.heap LL ∧ CHr Z own_EL UU.vm UU.heap UU'.vm UU'.heap ∧ ReturnedEndW UU oo UU' LL ({ frames := 6, cells := 4, slots := 20, locals := 88 } : Room).cells ({ frames := 6, cells := 4, slots := 20, locals := 88 } : Room).slots) := by
  refine MetFree.of_bodySF (plainFor_of_name pn_209) hisR ?_
  intro p e s m args below meth c s₁ Bd hml0 hP hK
  obtain ⟨rfl, hZ, hh, HC⟩ := hP
  have hx := Bd.exec
  have hby := Bd.bytes
  have hml : c.maxLocals = 5 := hml0
  have hown : s.vm.findClass "com/example/tallyrule/tallyrule/DecimalsDigitsFromPinLaw" = some m.cls := findClass_of_methodNamed Bd.named
  have hnm := (name_of_methodNamed Bd.named Bd.method).1
  have hW : ∀ (k : Nat) (d : Jvm.Cond), tables_1[k]? = some d → d.before a0 Z = true := fun k d h => hw d (List.mem_of_getElem? h)
  have X0 : Stand p l e ({ frames := 6, cells := 4, slots := 20, locals := 88 } : Room) (s.setVm s.vm) m #[(.int c0), (.int c1), (.int c2), (.int c3), (.int n)] below meth c s₁ [] 0 0 := Stand.of_body Bd
  have e0 : s₁.heap = h0 := by rw [← hh, Bd.state]; rfl
  have N0 := Fr.nil n0
  obtain ⟨G, hG, K0⟩ : ∃ G : State → Prop, (∀ tq, G tq → Steps p.tables e below (s₁.setTop (entryFrame m #[(.int c0), (.int c1), (.int c2), (.int c3), (.int n)] 5)) tq) ∧ Go p e below s₁ (mkF m 0 #[.val (.int c0), .val (.int c1), .val (.int c2), .val (.int c3), .val (.int n)] []) G := ⟨fun tq => Steps p.tables e below (s₁.setTop (entryFrame m #[(.int c0), (.int c1), (.int c2), (.int c3), (.int n)] 5)) tq, fun _ h => h, fun tq kq => castTop (ef_method_4_IIIII m c0 c1 c2 c3 n) kq⟩
  have hS0 := (State.WarmedH.refl s).since 0
  have hEL : EW Z a0 own_EL := own_EW hW
  have CR0 := CHr.refl HC
  have hws : ∀ d ∈ StrChars.Road.words, d.before a0 Z = true := fun d hd => hw d ((by decide +kernel : ∀ d ∈ StrChars.Road.words, d ∈ tables_1) d hd)
  have K909 : Go p e below s₁ (mkF m 2 #[.val (.int c0), .val (.int c1), .val (.int c2), .val (.int c3), .val (.int n)] [(.int n)]) G := fun tq kq => K0 tq (XS.iload X0.here hx rfl (hb hby d_method_4_0) rfl kq)
  by_cases hc910 : n = (0 : Int32)
  · skip
    have K911 : Go p e below s₁ (mkF m 5 #[.val (.int c0), .val (.int c1), .val (.int c2), .val (.int c3), .val (.int n)] []) G := fun tq kq => K909 tq (XS.ifNo X0.here hx rfl (hb hby d_method_4_2) rfl ((if0 _ _).trans (teq hc910).2) kq)
    obtain ⟨T912, h912, X912, e912, E912, A912, D912, -, st912⟩ := newO X0 hx hZ hown (hW 8 _ rfl) (hW 9 _ rfl) (hW 10 _ rfl) e0 (g := (mkF m 5 #[.val (.int c0), .val (.int c1), .val (.int c2), .val (.int c3), .val (.int n)] [])) rfl (hb hby d_method_4_5) (by decide) (by decide)
    obtain ⟨b912, g912⟩ : ∃ z, z = h0.size := ⟨_, rfl⟩
    rw [← g912] at A912 D912 st912
    have ge_b912 : n0 ≤ b912 := Nat.le_trans Z0 (Nat.le_of_eq g912.symm)
    have sz_b912 : h0.size ≤ b912 := Nat.le_trans ((Keep.refl h0 [])).1 (Nat.le_of_eq g912.symm)
    have CR913 := CR0.trans (CHr.ext E912 CR0.1)
    have Sf912 := Safe.ext E912 CR0.1 (Safe.new (Nat.le_of_eq g912.symm))
    have F912_value : Fld Z h912 b912 "java/lang/String" "value" "[B" .null := D912 (Or.inr (hW 24 _ rfl)) (ty := (.array .byte)) (by decide)
    have F912_coder : Fld Z h912 b912 "java/lang/String" "coder" "B" (.int (0 : Int32)) := D912 (Or.inr (hW 25 _ rfl)) (ty := .byte) (by decide)
    have K914 : Go p e below T912 (mkF m 8 #[.val (.int c0), .val (.int c1), .val (.int c2), .val (.int c3), .val (.int n)] [(.ref b912)]) G := fun tq kq => K911 tq (st912 tq kq)
    have K915 : Go p e below T912 (mkF m 9 #[.val (.int c0), .val (.int c1), .val (.int c2), .val (.int c3), .val (.int n)] [(.ref b912), (.ref b912)]) G := fun tq kq => K914 tq (XS.dup X912.here hx rfl (hb hby d_method_4_8) rfl rfl kq)
    have K916 : Go p e below T912 (mkF m 10 #[.val (.int c0), .val (.int c1), .val (.int c2), .val (.int c3), .val (.int n)] [(.int (0 : Int32)), (.ref b912), (.ref b912)]) G := fun tq kq => K915 tq (XS.iconst X912.here hx rfl (hb hby d_method_4_9) kq)
    obtain ⟨T917, h917, k917, X917, e917, E917, A917, st917⟩ := newP X912 hx hZ (hW 11 _ rfl) e912 (g := (mkF m 10 #[.val (.int c0), .val (.int c1), .val (.int c2), .val (.int c3), .val (.int n)] [(.int (0 : Int32)), (.ref b912), (.ref b912)])) rfl (hb hby d_method_4_10) rfl (by decide) (cap := 0) (by decide) (by decide) (by decide) (by decide)
    obtain ⟨b917, g917⟩ : ∃ z, z = h912.size := ⟨_, rfl⟩
    rw [← g917] at A917 st917
    have ne917_b912 : b912 ≠ b917 := Nat.ne_of_lt (Nat.lt_of_lt_of_le A912.lt (Nat.le_of_eq g917.symm))
    have ge_b917 : n0 ≤ b917 := Nat.le_trans (Nat.le_trans Z0 E912.1) (Nat.le_of_eq g917.symm)
    have sz_b917 : h0.size ≤ b917 := Nat.le_trans (((Keep.refl h0 []).ext E912)).1 (Nat.le_of_eq g917.symm)
    have V917 : Arv Z h917 b917 k917 .char (0 : Int32) [] (.int (0 : Int32)) := (Arv.new A917 (by decide)).pad (pad_rep [] (.int (0 : Int32)) 0)
    have CR918 := CR913.trans (CHr.ext E917 CR913.1)
    have Sf918_b912 := Safe.ext E917 CR913.1 Sf912
    have K919 : Go p e below T917 (mkF m 12 #[.val (.int c0), .val (.int c1), .val (.int c2), .val (.int c3), .val (.int n)] [(.ref b917), (.ref b912), (.ref b912)]) G := fun tq kq => K916 tq (st917 tq kq)
    obtain ⟨v920, _, ⟨T920, L920, k920, n920⟩, -, X920, hSa920, hgr920, ⟨Lc920, hQ920, l920, y920, z920, hCR920⟩, st920⟩ := X917.specialBackS hx (y := (⟨"java/lang/String", "<init>", "([C)V"⟩ : MethodName)) rfl hown (mvT hZ (hW 12 _ rfl)) (mvT hZ (hW 13 _ rfl)) (mvT hZ (hW 14 _ rfl)) (by decide) (backOfSH (W := 1) (rmN1 l Z a0 hw [] b912 b917 k917 h917 n0 (Nat.le_trans (Nat.le_trans Z0 E912.1) E917.1) (F912_value.ext E917) (F912_coder.ext E917) (A912.ext E917) ge_b912 V917) hZ (hW 14 _ rfl) (hW 10 _ rfl) (by decide) (by decide) hEL CR918.1) (g := (mkF m 12 #[.val (.int c0), .val (.int c1), .val (.int c2), .val (.int c3), .val (.int n)] [(.ref b917), (.ref b912), (.ref b912)])) rfl (by rw [hml]; rfl) (Steps.refl _) (a := b912) (argsL := [(.ref b917)]) (rest := [(.ref b912)]) (lenOf pd_260 rfl) rfl (by show 2 * 0 + _ ≤ _; exact Nat.le_of_eq rfl) (hb hby d_method_4_12) (fun _ _ => ⟨rfl, e917, (by decide : 2 + 2 ≤ _), (by decide : 4 + 4 ≤ _)⟩)
    dsimp only [Pt.U, Pt.locs, Pt.cells, Pt.slots] at X920 l920 y920 z920 st920 hQ920 hSa920 hgr920 hCR920
    subst l920 y920 z920
    obtain ⟨X920, hSb920, hZ, hown⟩ := rebS hS0 (by first | exact (Nat.le_trans (Nat.le_trans (Nat.zero_le _) E912.1) E917.1) | (rw [e917]; exact (Nat.le_trans (Nat.le_trans (Nat.zero_le _) E912.1) E917.1))) X920 hSa920 hgr920 hZ hown
    have CR921 := CR918.trans (hCR920)
    have Sf921_b912 := CHr.safe (hCR920) (A912.ext E917).lt Sf918_b912
    obtain ⟨rfl, N920q, K920q, E920q, FC920q, t920, kb920, net920, FV920q, VB920q⟩ := hQ920
    have N920 := Fr.app N0 N920q
    have K922 : Go p e below T920 (mkF m 15 #[.val (.int c0), .val (.int c1), .val (.int c2), .val (.int c3), .val (.int n)] [(.ref b912)]) G := fun tq kq => K919 tq (st920.trans kq)
    obtain ⟨fs, hr, hrun, hended, hRE⟩ := X920.leaveW (s := s) hSb920 (by first | exact (Nat.le_refl _) | (rw [rfl]; exact (Nat.le_refl _))) (v := some (.ref b912)) (fun h => by rw [Bd.returns] at h; cases h)
    have CRe := CR921.trans (CHv.at X920 hZ hEL CR921.1)
    refine ⟨_, _, hG _ (K922 _ (retOut X920 hx Bd.returns rfl (Or.inr (Or.inr (Or.inr (Or.inr ⟨rfl, rfl, rfl⟩)))) (hb hby d_method_4_15) hr)), hrun, hended, _, _, rfl, ?_, (by show CHr Z own_EL s.vm s.heap T920.vm T920.heap; rw [hh]; exact CRe), hRE.1, hRE.2.1, hRE.2.2.1, hRE.2.2.2.mono (by decide) (by decide)⟩
    show QST Z c0 c1 c2 c3 n cz h0 n0 _ T920.heap _
    exact ⟨b912, t920, kb920, _, _, _, rfl, N920, ((((Keep.refl h0 []).ext E912).ext E917).trans K920q (allS (Or.inr sz_b912) all0)), E920q, FV920q, FC920q, VB920q, by rw [own_tx]; simp only [hc910, if_true, if_false]; exact StrChars.Road.codOf (cs := ([] : List Int32)) rfl (by simp)⟩
  · skip
    have K923 : Go p e below s₁ (mkF m 16 #[.val (.int c0), .val (.int c1), .val (.int c2), .val (.int c3), .val (.int n)] []) G := fun tq kq => K909 tq (XS.ifYes X0.here hx rfl (pc0 := 2) (pc' := 16) rfl (hb hby d_method_4_2) rfl ((if0 _ _).trans (feq hc910).2) (by decide) (by decide) kq)
    have K924 : Go p e below s₁ (mkF m 18 #[.val (.int c0), .val (.int c1), .val (.int c2), .val (.int c3), .val (.int n)] [(.int n)]) G := fun tq kq => K923 tq (XS.iload X0.here hx rfl (hb hby d_method_4_16) rfl kq)
    have K925 : Go p e below s₁ (mkF m 19 #[.val (.int c0), .val (.int c1), .val (.int c2), .val (.int c3), .val (.int n)] [(.int (1 : Int32)), (.int n)]) G := fun tq kq => K924 tq (XS.iconst X0.here hx rfl (hb hby d_method_4_18) kq)
    by_cases hc926 : n = (1 : Int32)
    · skip
      have K927 : Go p e below s₁ (mkF m 22 #[.val (.int c0), .val (.int c1), .val (.int c2), .val (.int c3), .val (.int n)] []) G := fun tq kq => K925 tq (XS.icmpNo X0.here hx rfl (hb hby d_method_4_19) rfl ((teq hc926).2) kq)
      obtain ⟨T928, h928, X928, e928, E928, A928, D928, -, st928⟩ := newO X0 hx hZ hown (hW 8 _ rfl) (hW 9 _ rfl) (hW 10 _ rfl) e0 (g := (mkF m 22 #[.val (.int c0), .val (.int c1), .val (.int c2), .val (.int c3), .val (.int n)] [])) rfl (hb hby d_method_4_22) (by decide) (by decide)
      obtain ⟨b928, g928⟩ : ∃ z, z = h0.size := ⟨_, rfl⟩
      rw [← g928] at A928 D928 st928
      have ge_b928 : n0 ≤ b928 := Nat.le_trans Z0 (Nat.le_of_eq g928.symm)
      have sz_b928 : h0.size ≤ b928 := Nat.le_trans ((Keep.refl h0 [])).1 (Nat.le_of_eq g928.symm)
      have CR929 := CR0.trans (CHr.ext E928 CR0.1)
      have Sf928 := Safe.ext E928 CR0.1 (Safe.new (Nat.le_of_eq g928.symm))
      have F928_value : Fld Z h928 b928 "java/lang/String" "value" "[B" .null := D928 (Or.inr (hW 24 _ rfl)) (ty := (.array .byte)) (by decide)
      have F928_coder : Fld Z h928 b928 "java/lang/String" "coder" "B" (.int (0 : Int32)) := D928 (Or.inr (hW 25 _ rfl)) (ty := .byte) (by decide)
      have K930 : Go p e below T928 (mkF m 25 #[.val (.int c0), .val (.int c1), .val (.int c2), .val (.int c3), .val (.int n)] [(.ref b928)]) G := fun tq kq => K927 tq (st928 tq kq)
      have K931 : Go p e below T928 (mkF m 26 #[.val (.int c0), .val (.int c1), .val (.int c2), .val (.int c3), .val (.int n)] [(.ref b928), (.ref b928)]) G := fun tq kq => K930 tq (XS.dup X928.here hx rfl (hb hby d_method_4_25) rfl rfl kq)
      have K932 : Go p e below T928 (mkF m 27 #[.val (.int c0), .val (.int c1), .val (.int c2), .val (.int c3), .val (.int n)] [(.int (1 : Int32)), (.ref b928), (.ref b928)]) G := fun tq kq => K931 tq (XS.iconst X928.here hx rfl (hb hby d_method_4_26) kq)
      obtain ⟨T933, h933, k933, X933, e933, E933, A933, st933⟩ := newP X928 hx hZ (hW 11 _ rfl) e928 (g := (mkF m 27 #[.val (.int c0), .val (.int c1), .val (.int c2), .val (.int c3), .val (.int n)] [(.int (1 : Int32)), (.ref b928), (.ref b928)])) rfl (hb hby d_method_4_27) rfl (by decide) (cap := 1) (by decide) (by decide) (by decide) (by decide)
      obtain ⟨b933, g933⟩ : ∃ z, z = h928.size := ⟨_, rfl⟩
      rw [← g933] at A933 st933
      have ne933_b928 : b928 ≠ b933 := Nat.ne_of_lt (Nat.lt_of_lt_of_le A928.lt (Nat.le_of_eq g933.symm))
      have ge_b933 : n0 ≤ b933 := Nat.le_trans (Nat.le_trans Z0 E928.1) (Nat.le_of_eq g933.symm)
      have sz_b933 : h0.size ≤ b933 := Nat.le_trans (((Keep.refl h0 []).ext E928)).1 (Nat.le_of_eq g933.symm)
      have V933 : Arv Z h933 b933 k933 .char (1 : Int32) [(.int (0 : Int32))] (.int (0 : Int32)) := (Arv.new A933 (by decide)).pad (pad_rep [] (.int (0 : Int32)) 1)
      have CR934 := CR929.trans (CHr.ext E933 CR929.1)
      have Sf934_b928 := Safe.ext E933 CR929.1 Sf928
      have K935 : Go p e below T933 (mkF m 29 #[.val (.int c0), .val (.int c1), .val (.int c2), .val (.int c3), .val (.int n)] [(.ref b933), (.ref b928), (.ref b928)]) G := fun tq kq => K932 tq (st933 tq kq)
      have K936 : Go p e below T933 (mkF m 30 #[.val (.int c0), .val (.int c1), .val (.int c2), .val (.int c3), .val (.int n)] [(.ref b933), (.ref b933), (.ref b928), (.ref b928)]) G := fun tq kq => K935 tq (XS.dup X933.here hx rfl (hb hby d_method_4_29) rfl rfl kq)
      have K937 : Go p e below T933 (mkF m 31 #[.val (.int c0), .val (.int c1), .val (.int c2), .val (.int c3), .val (.int n)] [(.int (0 : Int32)), (.ref b933), (.ref b933), (.ref b928), (.ref b928)]) G := fun tq kq => K936 tq (XS.iconst X933.here hx rfl (hb hby d_method_4_30) kq)
      have K938 : Go p e below T933 (mkF m 32 #[.val (.int c0), .val (.int c1), .val (.int c2), .val (.int c3), .val (.int n)] [(.int c0), (.int (0 : Int32)), (.ref b933), (.ref b933), (.ref b928), (.ref b928)]) G := fun tq kq => K937 tq (XS.iloadN X933.here hx rfl (hb hby d_method_4_31) rfl kq)
      obtain ⟨cl939, Ar939, q939, S939, Nn939, Hh939, Gg939⟩ := id V933
      have hin939 : ¬ ((0 : Int32) < 0 ∨ cl939.slots.size ≤ ((0 : Int32)).toNatClampNeg) := inb_of S939 ⟨by decide, by decide⟩
      obtain ⟨T939, h939, X939, e939, W939, st939⟩ := stC X933 hx hZ e933 Ar939 (j := (0 : Int32)) hin939 (g := (mkF m 32 #[.val (.int c0), .val (.int c1), .val (.int c2), .val (.int c3), .val (.int n)] [(.int c0), (.int (0 : Int32)), (.ref b933), (.ref b933), (.ref b928), (.ref b928)])) rfl rfl (hb hby d_method_4_32)
      rw [R_c0.2] at W939
      have V939 : Arv Z h939 b933 k933 .char (1 : Int32) [(.int c0)] (.int (0 : Int32)) := Arv.set Ar939 q939 S939 Nn939 Hh939 Gg939 (by rw [← R_c0.2]; exact fits_nar_char _) W939 0 rfl (Nat.le_of_ble_eq_true rfl)
      have N939 := Fr.snoc X939 N0 ge_b933
      have CR940 := CR934.trans (CHr.wr W939 (Safe.arv hZ.alike V933 (by decide)) CR934.1)
      have Sf940_b928 := Safe.wr W939 (Safe.arv hZ.alike V933 (by decide)) CR934.1 Sf934_b928
      have K941 : Go p e below T939 (mkF m 33 #[.val (.int c0), .val (.int c1), .val (.int c2), .val (.int c3), .val (.int n)] [(.ref b933), (.ref b928), (.ref b928)]) G := fun tq kq => K938 tq (st939 tq kq)
      by_cases hc942 : ∀ c ∈ ([c0] : List Int32), ¬ (255 : Int32) < c
      · skip
        have hp943 : ∀ c ∈ ([c0] : List Int32), ¬ c < 0 ∧ ¬ (255 : Int32) < c := by
          intro c hc
          simp only [List.mem_cons, List.not_mem_nil, or_false] at hc
          rcases hc with rfl
          · exact ⟨R_c0.1.1, hc942 _ (by simp)⟩
        obtain ⟨v944, _, ⟨T944, L944, k944, n944⟩, -, X944, ⟨Lc944, hQ944, l944, y944, z944⟩, st944⟩ := X939.specialBack hx (y := (⟨"java/lang/String", "<init>", "([C)V"⟩ : MethodName)) rfl hown (mvT hZ (hW 12 _ rfl)) (mvT hZ (hW 13 _ rfl)) (mvT hZ (hW 14 _ rfl)) (by decide) (StrChars.Road.backV (W := 1) hZ hws (kI := 4) (hW 9 _ rfl) (cs := ([c0] : List Int32)) (bs := (([c0] : List Int32)).map (fun c => c.toInt8.toInt32)) (n := 1) ge_b928 (Nat.le_trans (Nat.le_trans (Nat.le_trans Z0 E928.1) E933.1) (Keep.of_wr W939).1) ((A928.ext E933).wr W939) ((F928_value.ext E933).other W939 (Or.inl ne933_b928)) ((F928_coder.ext E933).other W939 (Or.inl ne933_b928)) V939 (S_cs.ext (((O0.ext E928).ext E933).wr W939 ge_b933).2) hcz rfl rfl (by decide) (by decide) hp943 rfl (by decide) (by decide)) (g := (mkF m 33 #[.val (.int c0), .val (.int c1), .val (.int c2), .val (.int c3), .val (.int n)] [(.ref b933), (.ref b928), (.ref b928)])) rfl (by rw [hml]; rfl) (Steps.refl _) (a := b928) (argsL := [(.ref b933)]) (rest := [(.ref b928)]) (lenOf pd_260 rfl) rfl (by show 2 * 0 + _ ≤ _; exact Nat.le_of_eq rfl) (hb hby d_method_4_33) (fun _ _ => ⟨rfl, e939, (by decide : 2 + 1 ≤ _), (by decide : 5 + 1 ≤ _)⟩)
        dsimp only [Pt.U, Pt.locs, Pt.cells, Pt.slots] at X944 l944 y944 z944 st944 hQ944
        subst l944 y944 z944
        obtain ⟨rfl, N944q, K944q, E944q, FC944q, t944, kb944, get944, szt944, net944, FV944q, VB944q⟩ := hQ944
        have N944 := Fr.app N939 N944q
        have CR945 := CR940.trans (CHr.keep K944q (sfS Sf940_b928 sf0) CR940.1)
        have Sf945_b928 := Safe.keep K944q (sfS Sf940_b928 sf0) CR940.1 Sf940_b928
        have K946 : Go p e below T944 (mkF m 36 #[.val (.int c0), .val (.int c1), .val (.int c2), .val (.int c3), .val (.int n)] [(.ref b928)]) G := fun tq kq => K941 tq (st944.trans kq)
        obtain ⟨fs, hr, hrun, hended, hRE⟩ := X944.leaveW (s := s) hS0 (by first | exact (Nat.le_trans (Nat.le_trans (Nat.le_trans (Nat.le_trans (Nat.zero_le _) E928.1) E933.1) (Keep.of_wr W939).1) K944q.1) | (rw [rfl]; exact (Nat.le_trans (Nat.le_trans (Nat.le_trans (Nat.le_trans (Nat.zero_le _) E928.1) E933.1) (Keep.of_wr W939).1) K944q.1))) (v := some (.ref b928)) (fun h => by rw [Bd.returns] at h; cases h)
        have CRe := CR945.trans (CHv.at X944 hZ hEL CR945.1)
        refine ⟨_, _, hG _ (K946 _ (retOut X944 hx Bd.returns rfl (Or.inr (Or.inr (Or.inr (Or.inr ⟨rfl, rfl, rfl⟩)))) (hb hby d_method_4_36) hr)), hrun, hended, _, _, rfl, ?_, (by show CHr Z own_EL s.vm s.heap T944.vm T944.heap; rw [hh]; exact CRe), hRE.1, hRE.2.1, hRE.2.2.1, hRE.2.2.2.mono (by decide) (by decide)⟩
        show QST Z c0 c1 c2 c3 n cz h0 n0 _ T944.heap _
        exact ⟨b928, t944, kb944, _, _, _, rfl, N944, (((((Keep.refl h0 []).ext E928).ext E933).wr W939 (Or.inr sz_b933)).trans K944q (allS (Or.inr sz_b928) all0)), E944q, FV944q, FC944q, VB944q, by rw [own_tx]; simp only [hc910, hc926, if_true, if_false]; exact StrChars.Road.codOf (cs := ([c0] : List Int32)) rfl (fun c hc => (hp943 c hc).2)⟩
      · skip
        have hb947 : ∀ c ∈ ([c0] : List Int32), ¬ c < 0 ∧ ¬ (65535 : Int32) < c := by
          intro c hc
          simp only [List.mem_cons, List.not_mem_nil, or_false] at hc
          rcases hc with rfl
          · exact R_c0.1
        obtain ⟨v948, _, ⟨T948, L948, k948, n948⟩, -, X948, ⟨Lc948, hQ948, l948, y948, z948⟩, st948⟩ := X939.specialBack hx (y := (⟨"java/lang/String", "<init>", "([C)V"⟩ : MethodName)) rfl hown (mvT hZ (hW 12 _ rfl)) (mvT hZ (hW 13 _ rfl)) (mvT hZ (hW 14 _ rfl)) (by decide) (backOf (W := 1) (rmN1w1 l Z a0 hw [] b928 b933 k933 c0 cz h939 n0 (Nat.le_trans (Nat.le_trans (Nat.le_trans Z0 E928.1) E933.1) (Keep.of_wr W939).1) ((F928_value.ext E933).other W939 (Or.inl ne933_b928)) ((F928_coder.ext E933).other W939 (Or.inl ne933_b928)) ((A928.ext E933).wr W939) ge_b928 (((O0.ext E928).ext E933).wr W939 ge_b933) S_cs hcz S_ad S_hi S_lo V939 hc942 hb947) hZ (hW 14 _ rfl) (hW 10 _ rfl) (by decide) (by decide)) (g := (mkF m 33 #[.val (.int c0), .val (.int c1), .val (.int c2), .val (.int c3), .val (.int n)] [(.ref b933), (.ref b928), (.ref b928)])) rfl (by rw [hml]; rfl) (Steps.refl _) (a := b928) (argsL := [(.ref b933)]) (rest := [(.ref b928)]) (lenOf pd_260 rfl) rfl (by show 2 * 0 + _ ≤ _; exact Nat.le_of_eq rfl) (hb hby d_method_4_33) (fun _ _ => ⟨rfl, e939, (by decide : 2 + 2 ≤ _), (by decide : 5 + 3 ≤ _)⟩)
        dsimp only [Pt.U, Pt.locs, Pt.cells, Pt.slots] at X948 l948 y948 z948 st948 hQ948
        subst l948 y948 z948
        obtain ⟨rfl, N948q, K948q, E948q, FC948q, t948, kb948, net948, FV948q, VB948q⟩ := hQ948
        have N948 := Fr.app N939 N948q
        have CR949 := CR940.trans (CHr.keep K948q (sfS Sf940_b928 sf0) CR940.1)
        have Sf949_b928 := Safe.keep K948q (sfS Sf940_b928 sf0) CR940.1 Sf940_b928
        have K950 : Go p e below T948 (mkF m 36 #[.val (.int c0), .val (.int c1), .val (.int c2), .val (.int c3), .val (.int n)] [(.ref b928)]) G := fun tq kq => K941 tq (st948.trans kq)
        obtain ⟨fs, hr, hrun, hended, hRE⟩ := X948.leaveW (s := s) hS0 (by first | exact (Nat.le_trans (Nat.le_trans (Nat.le_trans (Nat.le_trans (Nat.zero_le _) E928.1) E933.1) (Keep.of_wr W939).1) K948q.1) | (rw [rfl]; exact (Nat.le_trans (Nat.le_trans (Nat.le_trans (Nat.le_trans (Nat.zero_le _) E928.1) E933.1) (Keep.of_wr W939).1) K948q.1))) (v := some (.ref b928)) (fun h => by rw [Bd.returns] at h; cases h)
        have CRe := CR949.trans (CHv.at X948 hZ hEL CR949.1)
        refine ⟨_, _, hG _ (K950 _ (retOut X948 hx Bd.returns rfl (Or.inr (Or.inr (Or.inr (Or.inr ⟨rfl, rfl, rfl⟩)))) (hb hby d_method_4_36) hr)), hrun, hended, _, _, rfl, ?_, (by show CHr Z own_EL s.vm s.heap T948.vm T948.heap; rw [hh]; exact CRe), hRE.1, hRE.2.1, hRE.2.2.1, hRE.2.2.2.mono (by decide) (by decide)⟩
        show QST Z c0 c1 c2 c3 n cz h0 n0 _ T948.heap _
        exact ⟨b928, t948, kb948, _, _, _, rfl, N948, (((((Keep.refl h0 []).ext E928).ext E933).wr W939 (Or.inr sz_b933)).trans K948q (allS (Or.inr sz_b928) all0)), E948q, FV948q, FC948q, VB948q, by rw [own_tx]; simp only [hc910, hc926, if_true, if_false]; exact Or.inr ⟨rfl, rfl, rfl, own_ex hc942⟩⟩
    · skip
      have K951 : Go p e below s₁ (mkF m 37 #[.val (.int c0), .val (.int c1), .val (.int c2), .val (.int c3), .val (.int n)] []) G := fun tq kq => K925 tq (XS.icmpYes X0.here hx rfl (pc0 := 19) (pc' := 37) rfl (hb hby d_method_4_19) rfl ((feq hc926).2) (by decide) (by decide) kq)
      have K952 : Go p e below s₁ (mkF m 39 #[.val (.int c0), .val (.int c1), .val (.int c2), .val (.int c3), .val (.int n)] [(.int n)]) G := fun tq kq => K951 tq (XS.iload X0.here hx rfl (hb hby d_method_4_37) rfl kq)
      have K953 : Go p e below s₁ (mkF m 40 #[.val (.int c0), .val (.int c1), .val (.int c2), .val (.int c3), .val (.int n)] [(.int (2 : Int32)), (.int n)]) G := fun tq kq => K952 tq (XS.iconst X0.here hx rfl (hb hby d_method_4_39) kq)
      by_cases hc954 : n = (2 : Int32)
      · skip
        have K955 : Go p e below s₁ (mkF m 43 #[.val (.int c0), .val (.int c1), .val (.int c2), .val (.int c3), .val (.int n)] []) G := fun tq kq => K953 tq (XS.icmpNo X0.here hx rfl (hb hby d_method_4_40) rfl ((teq hc954).2) kq)
        obtain ⟨T956, h956, X956, e956, E956, A956, D956, -, st956⟩ := newO X0 hx hZ hown (hW 8 _ rfl) (hW 9 _ rfl) (hW 10 _ rfl) e0 (g := (mkF m 43 #[.val (.int c0), .val (.int c1), .val (.int c2), .val (.int c3), .val (.int n)] [])) rfl (hb hby d_method_4_43) (by decide) (by decide)
        obtain ⟨b956, g956⟩ : ∃ z, z = h0.size := ⟨_, rfl⟩
        rw [← g956] at A956 D956 st956
        have ge_b956 : n0 ≤ b956 := Nat.le_trans Z0 (Nat.le_of_eq g956.symm)
        have sz_b956 : h0.size ≤ b956 := Nat.le_trans ((Keep.refl h0 [])).1 (Nat.le_of_eq g956.symm)
        have CR957 := CR0.trans (CHr.ext E956 CR0.1)
        have Sf956 := Safe.ext E956 CR0.1 (Safe.new (Nat.le_of_eq g956.symm))
        have F956_value : Fld Z h956 b956 "java/lang/String" "value" "[B" .null := D956 (Or.inr (hW 24 _ rfl)) (ty := (.array .byte)) (by decide)
        have F956_coder : Fld Z h956 b956 "java/lang/String" "coder" "B" (.int (0 : Int32)) := D956 (Or.inr (hW 25 _ rfl)) (ty := .byte) (by decide)
        have K958 : Go p e below T956 (mkF m 46 #[.val (.int c0), .val (.int c1), .val (.int c2), .val (.int c3), .val (.int n)] [(.ref b956)]) G := fun tq kq => K955 tq (st956 tq kq)
        have K959 : Go p e below T956 (mkF m 47 #[.val (.int c0), .val (.int c1), .val (.int c2), .val (.int c3), .val (.int n)] [(.ref b956), (.ref b956)]) G := fun tq kq => K958 tq (XS.dup X956.here hx rfl (hb hby d_method_4_46) rfl rfl kq)
        have K960 : Go p e below T956 (mkF m 48 #[.val (.int c0), .val (.int c1), .val (.int c2), .val (.int c3), .val (.int n)] [(.int (2 : Int32)), (.ref b956), (.ref b956)]) G := fun tq kq => K959 tq (XS.iconst X956.here hx rfl (hb hby d_method_4_47) kq)
        obtain ⟨T961, h961, k961, X961, e961, E961, A961, st961⟩ := newP X956 hx hZ (hW 11 _ rfl) e956 (g := (mkF m 48 #[.val (.int c0), .val (.int c1), .val (.int c2), .val (.int c3), .val (.int n)] [(.int (2 : Int32)), (.ref b956), (.ref b956)])) rfl (hb hby d_method_4_48) rfl (by decide) (cap := 2) (by decide) (by decide) (by decide) (by decide)
        obtain ⟨b961, g961⟩ : ∃ z, z = h956.size := ⟨_, rfl⟩
        rw [← g961] at A961 st961
        have ne961_b956 : b956 ≠ b961 := Nat.ne_of_lt (Nat.lt_of_lt_of_le A956.lt (Nat.le_of_eq g961.symm))
        have ge_b961 : n0 ≤ b961 := Nat.le_trans (Nat.le_trans Z0 E956.1) (Nat.le_of_eq g961.symm)
        have sz_b961 : h0.size ≤ b961 := Nat.le_trans (((Keep.refl h0 []).ext E956)).1 (Nat.le_of_eq g961.symm)
        have V961 : Arv Z h961 b961 k961 .char (2 : Int32) [(.int (0 : Int32)), (.int (0 : Int32))] (.int (0 : Int32)) := (Arv.new A961 (by decide)).pad (pad_rep [] (.int (0 : Int32)) 2)
        have CR962 := CR957.trans (CHr.ext E961 CR957.1)
        have Sf962_b956 := Safe.ext E961 CR957.1 Sf956
        have K963 : Go p e below T961 (mkF m 50 #[.val (.int c0), .val (.int c1), .val (.int c2), .val (.int c3), .val (.int n)] [(.ref b961), (.ref b956), (.ref b956)]) G := fun tq kq => K960 tq (st961 tq kq)
        have K964 : Go p e below T961 (mkF m 51 #[.val (.int c0), .val (.int c1), .val (.int c2), .val (.int c3), .val (.int n)] [(.ref b961), (.ref b961), (.ref b956), (.ref b956)]) G := fun tq kq => K963 tq (XS.dup X961.here hx rfl (hb hby d_method_4_50) rfl rfl kq)
        have K965 : Go p e below T961 (mkF m 52 #[.val (.int c0), .val (.int c1), .val (.int c2), .val (.int c3), .val (.int n)] [(.int (0 : Int32)), (.ref b961), (.ref b961), (.ref b956), (.ref b956)]) G := fun tq kq => K964 tq (XS.iconst X961.here hx rfl (hb hby d_method_4_51) kq)
        have K966 : Go p e below T961 (mkF m 53 #[.val (.int c0), .val (.int c1), .val (.int c2), .val (.int c3), .val (.int n)] [(.int c0), (.int (0 : Int32)), (.ref b961), (.ref b961), (.ref b956), (.ref b956)]) G := fun tq kq => K965 tq (XS.iloadN X961.here hx rfl (hb hby d_method_4_52) rfl kq)
        obtain ⟨cl967, Ar967, q967, S967, Nn967, Hh967, Gg967⟩ := id V961
        have hin967 : ¬ ((0 : Int32) < 0 ∨ cl967.slots.size ≤ ((0 : Int32)).toNatClampNeg) := inb_of S967 ⟨by decide, by decide⟩
        obtain ⟨T967, h967, X967, e967, W967, st967⟩ := stC X961 hx hZ e961 Ar967 (j := (0 : Int32)) hin967 (g := (mkF m 53 #[.val (.int c0), .val (.int c1), .val (.int c2), .val (.int c3), .val (.int n)] [(.int c0), (.int (0 : Int32)), (.ref b961), (.ref b961), (.ref b956), (.ref b956)])) rfl rfl (hb hby d_method_4_53)
        rw [R_c0.2] at W967
        have V967 : Arv Z h967 b961 k961 .char (2 : Int32) [(.int c0), (.int (0 : Int32))] (.int (0 : Int32)) := Arv.set Ar967 q967 S967 Nn967 Hh967 Gg967 (by rw [← R_c0.2]; exact fits_nar_char _) W967 0 rfl (Nat.le_of_ble_eq_true rfl)
        have N967 := Fr.snoc X967 N0 ge_b961
        have CR968 := CR962.trans (CHr.wr W967 (Safe.arv hZ.alike V961 (by decide)) CR962.1)
        have Sf968_b956 := Safe.wr W967 (Safe.arv hZ.alike V961 (by decide)) CR962.1 Sf962_b956
        have K969 : Go p e below T967 (mkF m 54 #[.val (.int c0), .val (.int c1), .val (.int c2), .val (.int c3), .val (.int n)] [(.ref b961), (.ref b956), (.ref b956)]) G := fun tq kq => K966 tq (st967 tq kq)
        have K970 : Go p e below T967 (mkF m 55 #[.val (.int c0), .val (.int c1), .val (.int c2), .val (.int c3), .val (.int n)] [(.ref b961), (.ref b961), (.ref b956), (.ref b956)]) G := fun tq kq => K969 tq (XS.dup X967.here hx rfl (hb hby d_method_4_54) rfl rfl kq)
        have K971 : Go p e below T967 (mkF m 56 #[.val (.int c0), .val (.int c1), .val (.int c2), .val (.int c3), .val (.int n)] [(.int (1 : Int32)), (.ref b961), (.ref b961), (.ref b956), (.ref b956)]) G := fun tq kq => K970 tq (XS.iconst X967.here hx rfl (hb hby d_method_4_55) kq)
        have K972 : Go p e below T967 (mkF m 57 #[.val (.int c0), .val (.int c1), .val (.int c2), .val (.int c3), .val (.int n)] [(.int c1), (.int (1 : Int32)), (.ref b961), (.ref b961), (.ref b956), (.ref b956)]) G := fun tq kq => K971 tq (XS.iloadN X967.here hx rfl (hb hby d_method_4_56) rfl kq)
        obtain ⟨cl973, Ar973, q973, S973, Nn973, Hh973, Gg973⟩ := id V967
        have hin973 : ¬ ((1 : Int32) < 0 ∨ cl973.slots.size ≤ ((1 : Int32)).toNatClampNeg) := inb_of S973 ⟨by decide, by decide⟩
        obtain ⟨T973, h973, X973, e973, W973, st973⟩ := stC X967 hx hZ e967 Ar973 (j := (1 : Int32)) hin973 (g := (mkF m 57 #[.val (.int c0), .val (.int c1), .val (.int c2), .val (.int c3), .val (.int n)] [(.int c1), (.int (1 : Int32)), (.ref b961), (.ref b961), (.ref b956), (.ref b956)])) rfl rfl (hb hby d_method_4_57)
        rw [R_c1.2] at W973
        have V973 : Arv Z h973 b961 k961 .char (2 : Int32) [(.int c0), (.int c1)] (.int (0 : Int32)) := Arv.set Ar973 q973 S973 Nn973 Hh973 Gg973 (by rw [← R_c1.2]; exact fits_nar_char _) W973 1 rfl (Nat.le_of_ble_eq_true rfl)
        have N973 := Fr.snoc X973 N967 ge_b961
        have CR974 := CR968.trans (CHr.wr W973 (Safe.arv hZ.alike V967 (by decide)) CR968.1)
        have Sf974_b956 := Safe.wr W973 (Safe.arv hZ.alike V967 (by decide)) CR968.1 Sf968_b956
        have K975 : Go p e below T973 (mkF m 58 #[.val (.int c0), .val (.int c1), .val (.int c2), .val (.int c3), .val (.int n)] [(.ref b961), (.ref b956), (.ref b956)]) G := fun tq kq => K972 tq (st973 tq kq)
        by_cases hc976 : ∀ c ∈ ([c0, c1] : List Int32), ¬ (255 : Int32) < c
        · skip
          have hp977 : ∀ c ∈ ([c0, c1] : List Int32), ¬ c < 0 ∧ ¬ (255 : Int32) < c := by
            intro c hc
            simp only [List.mem_cons, List.not_mem_nil, or_false] at hc
            rcases hc with rfl | rfl
            · exact ⟨R_c0.1.1, hc976 _ (by simp)⟩
            · exact ⟨R_c1.1.1, hc976 _ (by simp)⟩
          obtain ⟨v978, _, ⟨T978, L978, k978, n978⟩, -, X978, ⟨Lc978, hQ978, l978, y978, z978⟩, st978⟩ := X973.specialBack hx (y := (⟨"java/lang/String", "<init>", "([C)V"⟩ : MethodName)) rfl hown (mvT hZ (hW 12 _ rfl)) (mvT hZ (hW 13 _ rfl)) (mvT hZ (hW 14 _ rfl)) (by decide) (StrChars.Road.backV (W := 1) hZ hws (kI := 4) (hW 9 _ rfl) (cs := ([c0, c1] : List Int32)) (bs := (([c0, c1] : List Int32)).map (fun c => c.toInt8.toInt32)) (n := 2) ge_b956 (Nat.le_trans (Nat.le_trans (Nat.le_trans (Nat.le_trans Z0 E956.1) E961.1) (Keep.of_wr W967).1) (Keep.of_wr W973).1) (((A956.ext E961).wr W967).wr W973) (((F956_value.ext E961).other W967 (Or.inl ne961_b956)).other W973 (Or.inl ne961_b956)) (((F956_coder.ext E961).other W967 (Or.inl ne961_b956)).other W973 (Or.inl ne961_b956)) V973 (S_cs.ext ((((O0.ext E956).ext E961).wr W967 ge_b961).wr W973 ge_b961).2) hcz rfl rfl (by decide) (by decide) hp977 rfl (by decide) (by decide)) (g := (mkF m 58 #[.val (.int c0), .val (.int c1), .val (.int c2), .val (.int c3), .val (.int n)] [(.ref b961), (.ref b956), (.ref b956)])) rfl (by rw [hml]; rfl) (Steps.refl _) (a := b956) (argsL := [(.ref b961)]) (rest := [(.ref b956)]) (lenOf pd_260 rfl) rfl (by show 2 * 0 + _ ≤ _; exact Nat.le_of_eq rfl) (hb hby d_method_4_58) (fun _ _ => ⟨rfl, e973, (by decide : 2 + 1 ≤ _), (by decide : 6 + 2 ≤ _)⟩)
          dsimp only [Pt.U, Pt.locs, Pt.cells, Pt.slots] at X978 l978 y978 z978 st978 hQ978
          subst l978 y978 z978
          obtain ⟨rfl, N978q, K978q, E978q, FC978q, t978, kb978, get978, szt978, net978, FV978q, VB978q⟩ := hQ978
          have N978 := Fr.app N973 N978q
          have CR979 := CR974.trans (CHr.keep K978q (sfS Sf974_b956 sf0) CR974.1)
          have Sf979_b956 := Safe.keep K978q (sfS Sf974_b956 sf0) CR974.1 Sf974_b956
          have K980 : Go p e below T978 (mkF m 61 #[.val (.int c0), .val (.int c1), .val (.int c2), .val (.int c3), .val (.int n)] [(.ref b956)]) G := fun tq kq => K975 tq (st978.trans kq)
          obtain ⟨fs, hr, hrun, hended, hRE⟩ := X978.leaveW (s := s) hS0 (by first | exact (Nat.le_trans (Nat.le_trans (Nat.le_trans (Nat.le_trans (Nat.le_trans (Nat.zero_le _) E956.1) E961.1) (Keep.of_wr W967).1) (Keep.of_wr W973).1) K978q.1) | (rw [rfl]; exact (Nat.le_trans (Nat.le_trans (Nat.le_trans (Nat.le_trans (Nat.le_trans (Nat.zero_le _) E956.1) E961.1) (Keep.of_wr W967).1) (Keep.of_wr W973).1) K978q.1))) (v := some (.ref b956)) (fun h => by rw [Bd.returns] at h; cases h)
          have CRe := CR979.trans (CHv.at X978 hZ hEL CR979.1)
          refine ⟨_, _, hG _ (K980 _ (retOut X978 hx Bd.returns rfl (Or.inr (Or.inr (Or.inr (Or.inr ⟨rfl, rfl, rfl⟩)))) (hb hby d_method_4_61) hr)), hrun, hended, _, _, rfl, ?_, (by show CHr Z own_EL s.vm s.heap T978.vm T978.heap; rw [hh]; exact CRe), hRE.1, hRE.2.1, hRE.2.2.1, hRE.2.2.2.mono (by decide) (by decide)⟩
          show QST Z c0 c1 c2 c3 n cz h0 n0 _ T978.heap _
          exact ⟨b956, t978, kb978, _, _, _, rfl, N978, ((((((Keep.refl h0 []).ext E956).ext E961).wr W967 (Or.inr sz_b961)).wr W973 (Or.inr sz_b961)).trans K978q (allS (Or.inr sz_b956) all0)), E978q, FV978q, FC978q, VB978q, by rw [own_tx]; simp only [hc910, hc926, hc954, if_true, if_false]; exact StrChars.Road.codOf (cs := ([c0, c1] : List Int32)) rfl (fun c hc => (hp977 c hc).2)⟩
        · skip
          have hb981 : ∀ c ∈ ([c0, c1] : List Int32), ¬ c < 0 ∧ ¬ (65535 : Int32) < c := by
            intro c hc
            simp only [List.mem_cons, List.not_mem_nil, or_false] at hc
            rcases hc with rfl | rfl
            · exact R_c0.1
            · exact R_c1.1
          obtain ⟨v982, _, ⟨T982, L982, k982, n982⟩, -, X982, ⟨Lc982, hQ982, l982, y982, z982⟩, st982⟩ := X973.specialBack hx (y := (⟨"java/lang/String", "<init>", "([C)V"⟩ : MethodName)) rfl hown (mvT hZ (hW 12 _ rfl)) (mvT hZ (hW 13 _ rfl)) (mvT hZ (hW 14 _ rfl)) (by decide) (backOf (W := 1) (rmN1w2 l Z a0 hw [] b956 b961 k961 c0 c1 cz h973 n0 (Nat.le_trans (Nat.le_trans (Nat.le_trans (Nat.le_trans Z0 E956.1) E961.1) (Keep.of_wr W967).1) (Keep.of_wr W973).1) (((F956_value.ext E961).other W967 (Or.inl ne961_b956)).other W973 (Or.inl ne961_b956)) (((F956_coder.ext E961).other W967 (Or.inl ne961_b956)).other W973 (Or.inl ne961_b956)) (((A956.ext E961).wr W967).wr W973) ge_b956 ((((O0.ext E956).ext E961).wr W967 ge_b961).wr W973 ge_b961) S_cs hcz S_ad S_hi S_lo V973 hc976 hb981) hZ (hW 14 _ rfl) (hW 10 _ rfl) (by decide) (by decide)) (g := (mkF m 58 #[.val (.int c0), .val (.int c1), .val (.int c2), .val (.int c3), .val (.int n)] [(.ref b961), (.ref b956), (.ref b956)])) rfl (by rw [hml]; rfl) (Steps.refl _) (a := b956) (argsL := [(.ref b961)]) (rest := [(.ref b956)]) (lenOf pd_260 rfl) rfl (by show 2 * 0 + _ ≤ _; exact Nat.le_of_eq rfl) (hb hby d_method_4_58) (fun _ _ => ⟨rfl, e973, (by decide : 2 + 2 ≤ _), (by decide : 6 + 6 ≤ _)⟩)
          dsimp only [Pt.U, Pt.locs, Pt.cells, Pt.slots] at X982 l982 y982 z982 st982 hQ982
          subst l982 y982 z982
          obtain ⟨rfl, N982q, K982q, E982q, FC982q, t982, kb982, net982, FV982q, VB982q⟩ := hQ982
          have N982 := Fr.app N973 N982q
          have CR983 := CR974.trans (CHr.keep K982q (sfS Sf974_b956 sf0) CR974.1)
          have Sf983_b956 := Safe.keep K982q (sfS Sf974_b956 sf0) CR974.1 Sf974_b956
          have K984 : Go p e below T982 (mkF m 61 #[.val (.int c0), .val (.int c1), .val (.int c2), .val (.int c3), .val (.int n)] [(.ref b956)]) G := fun tq kq => K975 tq (st982.trans kq)
          obtain ⟨fs, hr, hrun, hended, hRE⟩ := X982.leaveW (s := s) hS0 (by first | exact (Nat.le_trans (Nat.le_trans (Nat.le_trans (Nat.le_trans (Nat.le_trans (Nat.zero_le _) E956.1) E961.1) (Keep.of_wr W967).1) (Keep.of_wr W973).1) K982q.1) | (rw [rfl]; exact (Nat.le_trans (Nat.le_trans (Nat.le_trans (Nat.le_trans (Nat.le_trans (Nat.zero_le _) E956.1) E961.1) (Keep.of_wr W967).1) (Keep.of_wr W973).1) K982q.1))) (v := some (.ref b956)) (fun h => by rw [Bd.returns] at h; cases h)
          have CRe := CR983.trans (CHv.at X982 hZ hEL CR983.1)
          refine ⟨_, _, hG _ (K984 _ (retOut X982 hx Bd.returns rfl (Or.inr (Or.inr (Or.inr (Or.inr ⟨rfl, rfl, rfl⟩)))) (hb hby d_method_4_61) hr)), hrun, hended, _, _, rfl, ?_, (by show CHr Z own_EL s.vm s.heap T982.vm T982.heap; rw [hh]; exact CRe), hRE.1, hRE.2.1, hRE.2.2.1, hRE.2.2.2.mono (by decide) (by decide)⟩
          show QST Z c0 c1 c2 c3 n cz h0 n0 _ T982.heap _
          exact ⟨b956, t982, kb982, _, _, _, rfl, N982, ((((((Keep.refl h0 []).ext E956).ext E961).wr W967 (Or.inr sz_b961)).wr W973 (Or.inr sz_b961)).trans K982q (allS (Or.inr sz_b956) all0)), E982q, FV982q, FC982q, VB982q, by rw [own_tx]; simp only [hc910, hc926, hc954, if_true, if_false]; exact Or.inr ⟨rfl, rfl, rfl, own_ex hc976⟩⟩
      · skip
        have K985 : Go p e below s₁ (mkF m 62 #[.val (.int c0), .val (.int c1), .val (.int c2), .val (.int c3), .val (.int n)] []) G := fun tq kq => K953 tq (XS.icmpYes X0.here hx rfl (pc0 := 40) (pc' := 62) rfl (hb hby d_method_4_40) rfl ((feq hc954).2) (by decide) (by decide) kq)
        have K986 : Go p e below s₁ (mkF m 64 #[.val (.int c0), .val (.int c1), .val (.int c2), .val (.int c3), .val (.int n)] [(.int n)]) G := fun tq kq => K985 tq (XS.iload X0.here hx rfl (hb hby d_method_4_62) rfl kq)
        have K987 : Go p e below s₁ (mkF m 65 #[.val (.int c0), .val (.int c1), .val (.int c2), .val (.int c3), .val (.int n)] [(.int (3 : Int32)), (.int n)]) G := fun tq kq => K986 tq (XS.iconst X0.here hx rfl (hb hby d_method_4_64) kq)
        by_cases hc988 : n = (3 : Int32)
        · skip
          have K989 : Go p e below s₁ (mkF m 68 #[.val (.int c0), .val (.int c1), .val (.int c2), .val (.int c3), .val (.int n)] []) G := fun tq kq => K987 tq (XS.icmpNo X0.here hx rfl (hb hby d_method_4_65) rfl ((teq hc988).2) kq)
          obtain ⟨T990, h990, X990, e990, E990, A990, D990, -, st990⟩ := newO X0 hx hZ hown (hW 8 _ rfl) (hW 9 _ rfl) (hW 10 _ rfl) e0 (g := (mkF m 68 #[.val (.int c0), .val (.int c1), .val (.int c2), .val (.int c3), .val (.int n)] [])) rfl (hb hby d_method_4_68) (by decide) (by decide)
          obtain ⟨b990, g990⟩ : ∃ z, z = h0.size := ⟨_, rfl⟩
          rw [← g990] at A990 D990 st990
          have ge_b990 : n0 ≤ b990 := Nat.le_trans Z0 (Nat.le_of_eq g990.symm)
          have sz_b990 : h0.size ≤ b990 := Nat.le_trans ((Keep.refl h0 [])).1 (Nat.le_of_eq g990.symm)
          have CR991 := CR0.trans (CHr.ext E990 CR0.1)
          have Sf990 := Safe.ext E990 CR0.1 (Safe.new (Nat.le_of_eq g990.symm))
          have F990_value : Fld Z h990 b990 "java/lang/String" "value" "[B" .null := D990 (Or.inr (hW 24 _ rfl)) (ty := (.array .byte)) (by decide)
          have F990_coder : Fld Z h990 b990 "java/lang/String" "coder" "B" (.int (0 : Int32)) := D990 (Or.inr (hW 25 _ rfl)) (ty := .byte) (by decide)
          have K992 : Go p e below T990 (mkF m 71 #[.val (.int c0), .val (.int c1), .val (.int c2), .val (.int c3), .val (.int n)] [(.ref b990)]) G := fun tq kq => K989 tq (st990 tq kq)
          have K993 : Go p e below T990 (mkF m 72 #[.val (.int c0), .val (.int c1), .val (.int c2), .val (.int c3), .val (.int n)] [(.ref b990), (.ref b990)]) G := fun tq kq => K992 tq (XS.dup X990.here hx rfl (hb hby d_method_4_71) rfl rfl kq)
          have K994 : Go p e below T990 (mkF m 73 #[.val (.int c0), .val (.int c1), .val (.int c2), .val (.int c3), .val (.int n)] [(.int (3 : Int32)), (.ref b990), (.ref b990)]) G := fun tq kq => K993 tq (XS.iconst X990.here hx rfl (hb hby d_method_4_72) kq)
          obtain ⟨T995, h995, k995, X995, e995, E995, A995, st995⟩ := newP X990 hx hZ (hW 11 _ rfl) e990 (g := (mkF m 73 #[.val (.int c0), .val (.int c1), .val (.int c2), .val (.int c3), .val (.int n)] [(.int (3 : Int32)), (.ref b990), (.ref b990)])) rfl (hb hby d_method_4_73) rfl (by decide) (cap := 3) (by decide) (by decide) (by decide) (by decide)
          obtain ⟨b995, g995⟩ : ∃ z, z = h990.size := ⟨_, rfl⟩
          rw [← g995] at A995 st995
          have ne995_b990 : b990 ≠ b995 := Nat.ne_of_lt (Nat.lt_of_lt_of_le A990.lt (Nat.le_of_eq g995.symm))
          have ge_b995 : n0 ≤ b995 := Nat.le_trans (Nat.le_trans Z0 E990.1) (Nat.le_of_eq g995.symm)
          have sz_b995 : h0.size ≤ b995 := Nat.le_trans (((Keep.refl h0 []).ext E990)).1 (Nat.le_of_eq g995.symm)
          have V995 : Arv Z h995 b995 k995 .char (3 : Int32) [(.int (0 : Int32)), (.int (0 : Int32)), (.int (0 : Int32))] (.int (0 : Int32)) := (Arv.new A995 (by decide)).pad (pad_rep [] (.int (0 : Int32)) 3)
          have CR996 := CR991.trans (CHr.ext E995 CR991.1)
          have Sf996_b990 := Safe.ext E995 CR991.1 Sf990
          have K997 : Go p e below T995 (mkF m 75 #[.val (.int c0), .val (.int c1), .val (.int c2), .val (.int c3), .val (.int n)] [(.ref b995), (.ref b990), (.ref b990)]) G := fun tq kq => K994 tq (st995 tq kq)
          have K998 : Go p e below T995 (mkF m 76 #[.val (.int c0), .val (.int c1), .val (.int c2), .val (.int c3), .val (.int n)] [(.ref b995), (.ref b995), (.ref b990), (.ref b990)]) G := fun tq kq => K997 tq (XS.dup X995.here hx rfl (hb hby d_method_4_75) rfl rfl kq)
          have K999 : Go p e below T995 (mkF m 77 #[.val (.int c0), .val (.int c1), .val (.int c2), .val (.int c3), .val (.int n)] [(.int (0 : Int32)), (.ref b995), (.ref b995), (.ref b990), (.ref b990)]) G := fun tq kq => K998 tq (XS.iconst X995.here hx rfl (hb hby d_method_4_76) kq)
          have K1000 : Go p e below T995 (mkF m 78 #[.val (.int c0), .val (.int c1), .val (.int c2), .val (.int c3), .val (.int n)] [(.int c0), (.int (0 : Int32)), (.ref b995), (.ref b995), (.ref b990), (.ref b990)]) G := fun tq kq => K999 tq (XS.iloadN X995.here hx rfl (hb hby d_method_4_77) rfl kq)
          obtain ⟨cl1001, Ar1001, q1001, S1001, Nn1001, Hh1001, Gg1001⟩ := id V995
          have hin1001 : ¬ ((0 : Int32) < 0 ∨ cl1001.slots.size ≤ ((0 : Int32)).toNatClampNeg) := inb_of S1001 ⟨by decide, by decide⟩
          obtain ⟨T1001, h1001, X1001, e1001, W1001, st1001⟩ := stC X995 hx hZ e995 Ar1001 (j := (0 : Int32)) hin1001 (g := (mkF m 78 #[.val (.int c0), .val (.int c1), .val (.int c2), .val (.int c3), .val (.int n)] [(.int c0), (.int (0 : Int32)), (.ref b995), (.ref b995), (.ref b990), (.ref b990)])) rfl rfl (hb hby d_method_4_78)
          rw [R_c0.2] at W1001
          have V1001 : Arv Z h1001 b995 k995 .char (3 : Int32) [(.int c0), (.int (0 : Int32)), (.int (0 : Int32))] (.int (0 : Int32)) := Arv.set Ar1001 q1001 S1001 Nn1001 Hh1001 Gg1001 (by rw [← R_c0.2]; exact fits_nar_char _) W1001 0 rfl (Nat.le_of_ble_eq_true rfl)
          have N1001 := Fr.snoc X1001 N0 ge_b995
          have CR1002 := CR996.trans (CHr.wr W1001 (Safe.arv hZ.alike V995 (by decide)) CR996.1)
          have Sf1002_b990 := Safe.wr W1001 (Safe.arv hZ.alike V995 (by decide)) CR996.1 Sf996_b990
          have K1003 : Go p e below T1001 (mkF m 79 #[.val (.int c0), .val (.int c1), .val (.int c2), .val (.int c3), .val (.int n)] [(.ref b995), (.ref b990), (.ref b990)]) G := fun tq kq => K1000 tq (st1001 tq kq)
          have K1004 : Go p e below T1001 (mkF m 80 #[.val (.int c0), .val (.int c1), .val (.int c2), .val (.int c3), .val (.int n)] [(.ref b995), (.ref b995), (.ref b990), (.ref b990)]) G := fun tq kq => K1003 tq (XS.dup X1001.here hx rfl (hb hby d_method_4_79) rfl rfl kq)
          have K1005 : Go p e below T1001 (mkF m 81 #[.val (.int c0), .val (.int c1), .val (.int c2), .val (.int c3), .val (.int n)] [(.int (1 : Int32)), (.ref b995), (.ref b995), (.ref b990), (.ref b990)]) G := fun tq kq => K1004 tq (XS.iconst X1001.here hx rfl (hb hby d_method_4_80) kq)
          have K1006 : Go p e below T1001 (mkF m 82 #[.val (.int c0), .val (.int c1), .val (.int c2), .val (.int c3), .val (.int n)] [(.int c1), (.int (1 : Int32)), (.ref b995), (.ref b995), (.ref b990), (.ref b990)]) G := fun tq kq => K1005 tq (XS.iloadN X1001.here hx rfl (hb hby d_method_4_81) rfl kq)
          obtain ⟨cl1007, Ar1007, q1007, S1007, Nn1007, Hh1007, Gg1007⟩ := id V1001
          have hin1007 : ¬ ((1 : Int32) < 0 ∨ cl1007.slots.size ≤ ((1 : Int32)).toNatClampNeg) := inb_of S1007 ⟨by decide, by decide⟩
          obtain ⟨T1007, h1007, X1007, e1007, W1007, st1007⟩ := stC X1001 hx hZ e1001 Ar1007 (j := (1 : Int32)) hin1007 (g := (mkF m 82 #[.val (.int c0), .val (.int c1), .val (.int c2), .val (.int c3), .val (.int n)] [(.int c1), (.int (1 : Int32)), (.ref b995), (.ref b995), (.ref b990), (.ref b990)])) rfl rfl (hb hby d_method_4_82)
          rw [R_c1.2] at W1007
          have V1007 : Arv Z h1007 b995 k995 .char (3 : Int32) [(.int c0), (.int c1), (.int (0 : Int32))] (.int (0 : Int32)) := Arv.set Ar1007 q1007 S1007 Nn1007 Hh1007 Gg1007 (by rw [← R_c1.2]; exact fits_nar_char _) W1007 1 rfl (Nat.le_of_ble_eq_true rfl)
          have N1007 := Fr.snoc X1007 N1001 ge_b995
          have CR1008 := CR1002.trans (CHr.wr W1007 (Safe.arv hZ.alike V1001 (by decide)) CR1002.1)
          have Sf1008_b990 := Safe.wr W1007 (Safe.arv hZ.alike V1001 (by decide)) CR1002.1 Sf1002_b990
          have K1009 : Go p e below T1007 (mkF m 83 #[.val (.int c0), .val (.int c1), .val (.int c2), .val (.int c3), .val (.int n)] [(.ref b995), (.ref b990), (.ref b990)]) G := fun tq kq => K1006 tq (st1007 tq kq)
          have K1010 : Go p e below T1007 (mkF m 84 #[.val (.int c0), .val (.int c1), .val (.int c2), .val (.int c3), .val (.int n)] [(.ref b995), (.ref b995), (.ref b990), (.ref b990)]) G := fun tq kq => K1009 tq (XS.dup X1007.here hx rfl (hb hby d_method_4_83) rfl rfl kq)
          have K1011 : Go p e below T1007 (mkF m 85 #[.val (.int c0), .val (.int c1), .val (.int c2), .val (.int c3), .val (.int n)] [(.int (2 : Int32)), (.ref b995), (.ref b995), (.ref b990), (.ref b990)]) G := fun tq kq => K1010 tq (XS.iconst X1007.here hx rfl (hb hby d_method_4_84) kq)
          have K1012 : Go p e below T1007 (mkF m 86 #[.val (.int c0), .val (.int c1), .val (.int c2), .val (.int c3), .val (.int n)] [(.int c2), (.int (2 : Int32)), (.ref b995), (.ref b995), (.ref b990), (.ref b990)]) G := fun tq kq => K1011 tq (XS.iloadN X1007.here hx rfl (hb hby d_method_4_85) rfl kq)
          obtain ⟨cl1013, Ar1013, q1013, S1013, Nn1013, Hh1013, Gg1013⟩ := id V1007
          have hin1013 : ¬ ((2 : Int32) < 0 ∨ cl1013.slots.size ≤ ((2 : Int32)).toNatClampNeg) := inb_of S1013 ⟨by decide, by decide⟩
          obtain ⟨T1013, h1013, X1013, e1013, W1013, st1013⟩ := stC X1007 hx hZ e1007 Ar1013 (j := (2 : Int32)) hin1013 (g := (mkF m 86 #[.val (.int c0), .val (.int c1), .val (.int c2), .val (.int c3), .val (.int n)] [(.int c2), (.int (2 : Int32)), (.ref b995), (.ref b995), (.ref b990), (.ref b990)])) rfl rfl (hb hby d_method_4_86)
          rw [R_c2.2] at W1013
          have V1013 : Arv Z h1013 b995 k995 .char (3 : Int32) [(.int c0), (.int c1), (.int c2)] (.int (0 : Int32)) := Arv.set Ar1013 q1013 S1013 Nn1013 Hh1013 Gg1013 (by rw [← R_c2.2]; exact fits_nar_char _) W1013 2 rfl (Nat.le_of_ble_eq_true rfl)
          have N1013 := Fr.snoc X1013 N1007 ge_b995
          have CR1014 := CR1008.trans (CHr.wr W1013 (Safe.arv hZ.alike V1007 (by decide)) CR1008.1)
          have Sf1014_b990 := Safe.wr W1013 (Safe.arv hZ.alike V1007 (by decide)) CR1008.1 Sf1008_b990
          have K1015 : Go p e below T1013 (mkF m 87 #[.val (.int c0), .val (.int c1), .val (.int c2), .val (.int c3), .val (.int n)] [(.ref b995), (.ref b990), (.ref b990)]) G := fun tq kq => K1012 tq (st1013 tq kq)
          by_cases hc1016 : ∀ c ∈ ([c0, c1, c2] : List Int32), ¬ (255 : Int32) < c
          · skip
            have hp1017 : ∀ c ∈ ([c0, c1, c2] : List Int32), ¬ c < 0 ∧ ¬ (255 : Int32) < c := by
              intro c hc
              simp only [List.mem_cons, List.not_mem_nil, or_false] at hc
              rcases hc with rfl | rfl | rfl
              · exact ⟨R_c0.1.1, hc1016 _ (by simp)⟩
              · exact ⟨R_c1.1.1, hc1016 _ (by simp)⟩
              · exact ⟨R_c2.1.1, hc1016 _ (by simp)⟩
            obtain ⟨v1018, _, ⟨T1018, L1018, k1018, n1018⟩, -, X1018, ⟨Lc1018, hQ1018, l1018, y1018, z1018⟩, st1018⟩ := X1013.specialBack hx (y := (⟨"java/lang/String", "<init>", "([C)V"⟩ : MethodName)) rfl hown (mvT hZ (hW 12 _ rfl)) (mvT hZ (hW 13 _ rfl)) (mvT hZ (hW 14 _ rfl)) (by decide) (StrChars.Road.backV (W := 1) hZ hws (kI := 4) (hW 9 _ rfl) (cs := ([c0, c1, c2] : List Int32)) (bs := (([c0, c1, c2] : List Int32)).map (fun c => c.toInt8.toInt32)) (n := 3) ge_b990 (Nat.le_trans (Nat.le_trans (Nat.le_trans (Nat.le_trans (Nat.le_trans Z0 E990.1) E995.1) (Keep.of_wr W1001).1) (Keep.of_wr W1007).1) (Keep.of_wr W1013).1) ((((A990.ext E995).wr W1001).wr W1007).wr W1013) ((((F990_value.ext E995).other W1001 (Or.inl ne995_b990)).other W1007 (Or.inl ne995_b990)).other W1013 (Or.inl ne995_b990)) ((((F990_coder.ext E995).other W1001 (Or.inl ne995_b990)).other W1007 (Or.inl ne995_b990)).other W1013 (Or.inl ne995_b990)) V1013 (S_cs.ext (((((O0.ext E990).ext E995).wr W1001 ge_b995).wr W1007 ge_b995).wr W1013 ge_b995).2) hcz rfl rfl (by decide) (by decide) hp1017 rfl (by decide) (by decide)) (g := (mkF m 87 #[.val (.int c0), .val (.int c1), .val (.int c2), .val (.int c3), .val (.int n)] [(.ref b995), (.ref b990), (.ref b990)])) rfl (by rw [hml]; rfl) (Steps.refl _) (a := b990) (argsL := [(.ref b995)]) (rest := [(.ref b990)]) (lenOf pd_260 rfl) rfl (by show 2 * 0 + _ ≤ _; exact Nat.le_of_eq rfl) (hb hby d_method_4_87) (fun _ _ => ⟨rfl, e1013, (by decide : 2 + 1 ≤ _), (by decide : 7 + 3 ≤ _)⟩)
            dsimp only [Pt.U, Pt.locs, Pt.cells, Pt.slots] at X1018 l1018 y1018 z1018 st1018 hQ1018
            subst l1018 y1018 z1018
            obtain ⟨rfl, N1018q, K1018q, E1018q, FC1018q, t1018, kb1018, get1018, szt1018, net1018, FV1018q, VB1018q⟩ := hQ1018
            have N1018 := Fr.app N1013 N1018q
            have CR1019 := CR1014.trans (CHr.keep K1018q (sfS Sf1014_b990 sf0) CR1014.1)
            have Sf1019_b990 := Safe.keep K1018q (sfS Sf1014_b990 sf0) CR1014.1 Sf1014_b990
            have K1020 : Go p e below T1018 (mkF m 90 #[.val (.int c0), .val (.int c1), .val (.int c2), .val (.int c3), .val (.int n)] [(.ref b990)]) G := fun tq kq => K1015 tq (st1018.trans kq)
            obtain ⟨fs, hr, hrun, hended, hRE⟩ := X1018.leaveW (s := s) hS0 (by first | exact (Nat.le_trans (Nat.le_trans (Nat.le_trans (Nat.le_trans (Nat.le_trans (Nat.le_trans (Nat.zero_le _) E990.1) E995.1) (Keep.of_wr W1001).1) (Keep.of_wr W1007).1) (Keep.of_wr W1013).1) K1018q.1) | (rw [rfl]; exact (Nat.le_trans (Nat.le_trans (Nat.le_trans (Nat.le_trans (Nat.le_trans (Nat.le_trans (Nat.zero_le _) E990.1) E995.1) (Keep.of_wr W1001).1) (Keep.of_wr W1007).1) (Keep.of_wr W1013).1) K1018q.1))) (v := some (.ref b990)) (fun h => by rw [Bd.returns] at h; cases h)
            have CRe := CR1019.trans (CHv.at X1018 hZ hEL CR1019.1)
            refine ⟨_, _, hG _ (K1020 _ (retOut X1018 hx Bd.returns rfl (Or.inr (Or.inr (Or.inr (Or.inr ⟨rfl, rfl, rfl⟩)))) (hb hby d_method_4_90) hr)), hrun, hended, _, _, rfl, ?_, (by show CHr Z own_EL s.vm s.heap T1018.vm T1018.heap; rw [hh]; exact CRe), hRE.1, hRE.2.1, hRE.2.2.1, hRE.2.2.2.mono (by decide) (by decide)⟩
            show QST Z c0 c1 c2 c3 n cz h0 n0 _ T1018.heap _
            exact ⟨b990, t1018, kb1018, _, _, _, rfl, N1018, (((((((Keep.refl h0 []).ext E990).ext E995).wr W1001 (Or.inr sz_b995)).wr W1007 (Or.inr sz_b995)).wr W1013 (Or.inr sz_b995)).trans K1018q (allS (Or.inr sz_b990) all0)), E1018q, FV1018q, FC1018q, VB1018q, by rw [own_tx]; simp only [hc910, hc926, hc954, hc988, if_true, if_false]; exact StrChars.Road.codOf (cs := ([c0, c1, c2] : List Int32)) rfl (fun c hc => (hp1017 c hc).2)⟩
          · skip
            have hb1021 : ∀ c ∈ ([c0, c1, c2] : List Int32), ¬ c < 0 ∧ ¬ (65535 : Int32) < c := by
              intro c hc
              simp only [List.mem_cons, List.not_mem_nil, or_false] at hc
              rcases hc with rfl | rfl | rfl
              · exact R_c0.1
              · exact R_c1.1
              · exact R_c2.1
            obtain ⟨v1022, _, ⟨T1022, L1022, k1022, n1022⟩, -, X1022, ⟨Lc1022, hQ1022, l1022, y1022, z1022⟩, st1022⟩ := X1013.specialBack hx (y := (⟨"java/lang/String", "<init>", "([C)V"⟩ : MethodName)) rfl hown (mvT hZ (hW 12 _ rfl)) (mvT hZ (hW 13 _ rfl)) (mvT hZ (hW 14 _ rfl)) (by decide) (backOf (W := 1) (rmN1w3 l Z a0 hw [] b990 b995 k995 c0 c1 c2 cz h1013 n0 (Nat.le_trans (Nat.le_trans (Nat.le_trans (Nat.le_trans (Nat.le_trans Z0 E990.1) E995.1) (Keep.of_wr W1001).1) (Keep.of_wr W1007).1) (Keep.of_wr W1013).1) ((((F990_value.ext E995).other W1001 (Or.inl ne995_b990)).other W1007 (Or.inl ne995_b990)).other W1013 (Or.inl ne995_b990)) ((((F990_coder.ext E995).other W1001 (Or.inl ne995_b990)).other W1007 (Or.inl ne995_b990)).other W1013 (Or.inl ne995_b990)) ((((A990.ext E995).wr W1001).wr W1007).wr W1013) ge_b990 (((((O0.ext E990).ext E995).wr W1001 ge_b995).wr W1007 ge_b995).wr W1013 ge_b995) S_cs hcz S_ad S_hi S_lo V1013 hc1016 hb1021) hZ (hW 14 _ rfl) (hW 10 _ rfl) (by decide) (by decide)) (g := (mkF m 87 #[.val (.int c0), .val (.int c1), .val (.int c2), .val (.int c3), .val (.int n)] [(.ref b995), (.ref b990), (.ref b990)])) rfl (by rw [hml]; rfl) (Steps.refl _) (a := b990) (argsL := [(.ref b995)]) (rest := [(.ref b990)]) (lenOf pd_260 rfl) rfl (by show 2 * 0 + _ ≤ _; exact Nat.le_of_eq rfl) (hb hby d_method_4_87) (fun _ _ => ⟨rfl, e1013, (by decide : 2 + 2 ≤ _), (by decide : 7 + 9 ≤ _)⟩)
            dsimp only [Pt.U, Pt.locs, Pt.cells, Pt.slots] at X1022 l1022 y1022 z1022 st1022 hQ1022
            subst l1022 y1022 z1022
            obtain ⟨rfl, N1022q, K1022q, E1022q, FC1022q, t1022, kb1022, net1022, FV1022q, VB1022q⟩ := hQ1022
            have N1022 := Fr.app N1013 N1022q
            have CR1023 := CR1014.trans (CHr.keep K1022q (sfS Sf1014_b990 sf0) CR1014.1)
            have Sf1023_b990 := Safe.keep K1022q (sfS Sf1014_b990 sf0) CR1014.1 Sf1014_b990
            have K1024 : Go p e below T1022 (mkF m 90 #[.val (.int c0), .val (.int c1), .val (.int c2), .val (.int c3), .val (.int n)] [(.ref b990)]) G := fun tq kq => K1015 tq (st1022.trans kq)
            obtain ⟨fs, hr, hrun, hended, hRE⟩ := X1022.leaveW (s := s) hS0 (by first | exact (Nat.le_trans (Nat.le_trans (Nat.le_trans (Nat.le_trans (Nat.le_trans (Nat.le_trans (Nat.zero_le _) E990.1) E995.1) (Keep.of_wr W1001).1) (Keep.of_wr W1007).1) (Keep.of_wr W1013).1) K1022q.1) | (rw [rfl]; exact (Nat.le_trans (Nat.le_trans (Nat.le_trans (Nat.le_trans (Nat.le_trans (Nat.le_trans (Nat.zero_le _) E990.1) E995.1) (Keep.of_wr W1001).1) (Keep.of_wr W1007).1) (Keep.of_wr W1013).1) K1022q.1))) (v := some (.ref b990)) (fun h => by rw [Bd.returns] at h; cases h)
            have CRe := CR1023.trans (CHv.at X1022 hZ hEL CR1023.1)
            refine ⟨_, _, hG _ (K1024 _ (retOut X1022 hx Bd.returns rfl (Or.inr (Or.inr (Or.inr (Or.inr ⟨rfl, rfl, rfl⟩)))) (hb hby d_method_4_90) hr)), hrun, hended, _, _, rfl, ?_, (by show CHr Z own_EL s.vm s.heap T1022.vm T1022.heap; rw [hh]; exact CRe), hRE.1, hRE.2.1, hRE.2.2.1, hRE.2.2.2.mono (by decide) (by decide)⟩
            show QST Z c0 c1 c2 c3 n cz h0 n0 _ T1022.heap _
            exact ⟨b990, t1022, kb1022, _, _, _, rfl, N1022, (((((((Keep.refl h0 []).ext E990).ext E995).wr W1001 (Or.inr sz_b995)).wr W1007 (Or.inr sz_b995)).wr W1013 (Or.inr sz_b995)).trans K1022q (allS (Or.inr sz_b990) all0)), E1022q, FV1022q, FC1022q, VB1022q, by rw [own_tx]; simp only [hc910, hc926, hc954, hc988, if_true, if_false]; exact Or.inr ⟨rfl, rfl, rfl, own_ex hc1016⟩⟩
        · skip
          have K1025 : Go p e below s₁ (mkF m 91 #[.val (.int c0), .val (.int c1), .val (.int c2), .val (.int c3), .val (.int n)] []) G := fun tq kq => K987 tq (XS.icmpYes X0.here hx rfl (pc0 := 65) (pc' := 91) rfl (hb hby d_method_4_65) rfl ((feq hc988).2) (by decide) (by decide) kq)
          obtain ⟨T1026, h1026, X1026, e1026, E1026, A1026, D1026, -, st1026⟩ := newO X0 hx hZ hown (hW 8 _ rfl) (hW 9 _ rfl) (hW 10 _ rfl) e0 (g := (mkF m 91 #[.val (.int c0), .val (.int c1), .val (.int c2), .val (.int c3), .val (.int n)] [])) rfl (hb hby d_method_4_91) (by decide) (by decide)
          obtain ⟨b1026, g1026⟩ : ∃ z, z = h0.size := ⟨_, rfl⟩
          rw [← g1026] at A1026 D1026 st1026
          have ge_b1026 : n0 ≤ b1026 := Nat.le_trans Z0 (Nat.le_of_eq g1026.symm)
          have sz_b1026 : h0.size ≤ b1026 := Nat.le_trans ((Keep.refl h0 [])).1 (Nat.le_of_eq g1026.symm)
          have CR1027 := CR0.trans (CHr.ext E1026 CR0.1)
          have Sf1026 := Safe.ext E1026 CR0.1 (Safe.new (Nat.le_of_eq g1026.symm))
          have F1026_value : Fld Z h1026 b1026 "java/lang/String" "value" "[B" .null := D1026 (Or.inr (hW 24 _ rfl)) (ty := (.array .byte)) (by decide)
          have F1026_coder : Fld Z h1026 b1026 "java/lang/String" "coder" "B" (.int (0 : Int32)) := D1026 (Or.inr (hW 25 _ rfl)) (ty := .byte) (by decide)
          have K1028 : Go p e below T1026 (mkF m 94 #[.val (.int c0), .val (.int c1), .val (.int c2), .val (.int c3), .val (.int n)] [(.ref b1026)]) G := fun tq kq => K1025 tq (st1026 tq kq)
          have K1029 : Go p e below T1026 (mkF m 95 #[.val (.int c0), .val (.int c1), .val (.int c2), .val (.int c3), .val (.int n)] [(.ref b1026), (.ref b1026)]) G := fun tq kq => K1028 tq (XS.dup X1026.here hx rfl (hb hby d_method_4_94) rfl rfl kq)
          have K1030 : Go p e below T1026 (mkF m 96 #[.val (.int c0), .val (.int c1), .val (.int c2), .val (.int c3), .val (.int n)] [(.int (4 : Int32)), (.ref b1026), (.ref b1026)]) G := fun tq kq => K1029 tq (XS.iconst X1026.here hx rfl (hb hby d_method_4_95) kq)
          obtain ⟨T1031, h1031, k1031, X1031, e1031, E1031, A1031, st1031⟩ := newP X1026 hx hZ (hW 11 _ rfl) e1026 (g := (mkF m 96 #[.val (.int c0), .val (.int c1), .val (.int c2), .val (.int c3), .val (.int n)] [(.int (4 : Int32)), (.ref b1026), (.ref b1026)])) rfl (hb hby d_method_4_96) rfl (by decide) (cap := 4) (by decide) (by decide) (by decide) (by decide)
          obtain ⟨b1031, g1031⟩ : ∃ z, z = h1026.size := ⟨_, rfl⟩
          rw [← g1031] at A1031 st1031
          have ne1031_b1026 : b1026 ≠ b1031 := Nat.ne_of_lt (Nat.lt_of_lt_of_le A1026.lt (Nat.le_of_eq g1031.symm))
          have ge_b1031 : n0 ≤ b1031 := Nat.le_trans (Nat.le_trans Z0 E1026.1) (Nat.le_of_eq g1031.symm)
          have sz_b1031 : h0.size ≤ b1031 := Nat.le_trans (((Keep.refl h0 []).ext E1026)).1 (Nat.le_of_eq g1031.symm)
          have V1031 : Arv Z h1031 b1031 k1031 .char (4 : Int32) [(.int (0 : Int32)), (.int (0 : Int32)), (.int (0 : Int32)), (.int (0 : Int32))] (.int (0 : Int32)) := (Arv.new A1031 (by decide)).pad (pad_rep [] (.int (0 : Int32)) 4)
          have CR1032 := CR1027.trans (CHr.ext E1031 CR1027.1)
          have Sf1032_b1026 := Safe.ext E1031 CR1027.1 Sf1026
          have K1033 : Go p e below T1031 (mkF m 98 #[.val (.int c0), .val (.int c1), .val (.int c2), .val (.int c3), .val (.int n)] [(.ref b1031), (.ref b1026), (.ref b1026)]) G := fun tq kq => K1030 tq (st1031 tq kq)
          have K1034 : Go p e below T1031 (mkF m 99 #[.val (.int c0), .val (.int c1), .val (.int c2), .val (.int c3), .val (.int n)] [(.ref b1031), (.ref b1031), (.ref b1026), (.ref b1026)]) G := fun tq kq => K1033 tq (XS.dup X1031.here hx rfl (hb hby d_method_4_98) rfl rfl kq)
          have K1035 : Go p e below T1031 (mkF m 100 #[.val (.int c0), .val (.int c1), .val (.int c2), .val (.int c3), .val (.int n)] [(.int (0 : Int32)), (.ref b1031), (.ref b1031), (.ref b1026), (.ref b1026)]) G := fun tq kq => K1034 tq (XS.iconst X1031.here hx rfl (hb hby d_method_4_99) kq)
          have K1036 : Go p e below T1031 (mkF m 101 #[.val (.int c0), .val (.int c1), .val (.int c2), .val (.int c3), .val (.int n)] [(.int c0), (.int (0 : Int32)), (.ref b1031), (.ref b1031), (.ref b1026), (.ref b1026)]) G := fun tq kq => K1035 tq (XS.iloadN X1031.here hx rfl (hb hby d_method_4_100) rfl kq)
          obtain ⟨cl1037, Ar1037, q1037, S1037, Nn1037, Hh1037, Gg1037⟩ := id V1031
          have hin1037 : ¬ ((0 : Int32) < 0 ∨ cl1037.slots.size ≤ ((0 : Int32)).toNatClampNeg) := inb_of S1037 ⟨by decide, by decide⟩
          obtain ⟨T1037, h1037, X1037, e1037, W1037, st1037⟩ := stC X1031 hx hZ e1031 Ar1037 (j := (0 : Int32)) hin1037 (g := (mkF m 101 #[.val (.int c0), .val (.int c1), .val (.int c2), .val (.int c3), .val (.int n)] [(.int c0), (.int (0 : Int32)), (.ref b1031), (.ref b1031), (.ref b1026), (.ref b1026)])) rfl rfl (hb hby d_method_4_101)
          rw [R_c0.2] at W1037
          have V1037 : Arv Z h1037 b1031 k1031 .char (4 : Int32) [(.int c0), (.int (0 : Int32)), (.int (0 : Int32)), (.int (0 : Int32))] (.int (0 : Int32)) := Arv.set Ar1037 q1037 S1037 Nn1037 Hh1037 Gg1037 (by rw [← R_c0.2]; exact fits_nar_char _) W1037 0 rfl (Nat.le_of_ble_eq_true rfl)
          have N1037 := Fr.snoc X1037 N0 ge_b1031
          have CR1038 := CR1032.trans (CHr.wr W1037 (Safe.arv hZ.alike V1031 (by decide)) CR1032.1)
          have Sf1038_b1026 := Safe.wr W1037 (Safe.arv hZ.alike V1031 (by decide)) CR1032.1 Sf1032_b1026
          have K1039 : Go p e below T1037 (mkF m 102 #[.val (.int c0), .val (.int c1), .val (.int c2), .val (.int c3), .val (.int n)] [(.ref b1031), (.ref b1026), (.ref b1026)]) G := fun tq kq => K1036 tq (st1037 tq kq)
          have K1040 : Go p e below T1037 (mkF m 103 #[.val (.int c0), .val (.int c1), .val (.int c2), .val (.int c3), .val (.int n)] [(.ref b1031), (.ref b1031), (.ref b1026), (.ref b1026)]) G := fun tq kq => K1039 tq (XS.dup X1037.here hx rfl (hb hby d_method_4_102) rfl rfl kq)
          have K1041 : Go p e below T1037 (mkF m 104 #[.val (.int c0), .val (.int c1), .val (.int c2), .val (.int c3), .val (.int n)] [(.int (1 : Int32)), (.ref b1031), (.ref b1031), (.ref b1026), (.ref b1026)]) G := fun tq kq => K1040 tq (XS.iconst X1037.here hx rfl (hb hby d_method_4_103) kq)
          have K1042 : Go p e below T1037 (mkF m 105 #[.val (.int c0), .val (.int c1), .val (.int c2), .val (.int c3), .val (.int n)] [(.int c1), (.int (1 : Int32)), (.ref b1031), (.ref b1031), (.ref b1026), (.ref b1026)]) G := fun tq kq => K1041 tq (XS.iloadN X1037.here hx rfl (hb hby d_method_4_104) rfl kq)
          obtain ⟨cl1043, Ar1043, q1043, S1043, Nn1043, Hh1043, Gg1043⟩ := id V1037
          have hin1043 : ¬ ((1 : Int32) < 0 ∨ cl1043.slots.size ≤ ((1 : Int32)).toNatClampNeg) := inb_of S1043 ⟨by decide, by decide⟩
          obtain ⟨T1043, h1043, X1043, e1043, W1043, st1043⟩ := stC X1037 hx hZ e1037 Ar1043 (j := (1 : Int32)) hin1043 (g := (mkF m 105 #[.val (.int c0), .val (.int c1), .val (.int c2), .val (.int c3), .val (.int n)] [(.int c1), (.int (1 : Int32)), (.ref b1031), (.ref b1031), (.ref b1026), (.ref b1026)])) rfl rfl (hb hby d_method_4_105)
          rw [R_c1.2] at W1043
          have V1043 : Arv Z h1043 b1031 k1031 .char (4 : Int32) [(.int c0), (.int c1), (.int (0 : Int32)), (.int (0 : Int32))] (.int (0 : Int32)) := Arv.set Ar1043 q1043 S1043 Nn1043 Hh1043 Gg1043 (by rw [← R_c1.2]; exact fits_nar_char _) W1043 1 rfl (Nat.le_of_ble_eq_true rfl)
          have N1043 := Fr.snoc X1043 N1037 ge_b1031
          have CR1044 := CR1038.trans (CHr.wr W1043 (Safe.arv hZ.alike V1037 (by decide)) CR1038.1)
          have Sf1044_b1026 := Safe.wr W1043 (Safe.arv hZ.alike V1037 (by decide)) CR1038.1 Sf1038_b1026
          have K1045 : Go p e below T1043 (mkF m 106 #[.val (.int c0), .val (.int c1), .val (.int c2), .val (.int c3), .val (.int n)] [(.ref b1031), (.ref b1026), (.ref b1026)]) G := fun tq kq => K1042 tq (st1043 tq kq)
          have K1046 : Go p e below T1043 (mkF m 107 #[.val (.int c0), .val (.int c1), .val (.int c2), .val (.int c3), .val (.int n)] [(.ref b1031), (.ref b1031), (.ref b1026), (.ref b1026)]) G := fun tq kq => K1045 tq (XS.dup X1043.here hx rfl (hb hby d_method_4_106) rfl rfl kq)
          have K1047 : Go p e below T1043 (mkF m 108 #[.val (.int c0), .val (.int c1), .val (.int c2), .val (.int c3), .val (.int n)] [(.int (2 : Int32)), (.ref b1031), (.ref b1031), (.ref b1026), (.ref b1026)]) G := fun tq kq => K1046 tq (XS.iconst X1043.here hx rfl (hb hby d_method_4_107) kq)
          have K1048 : Go p e below T1043 (mkF m 109 #[.val (.int c0), .val (.int c1), .val (.int c2), .val (.int c3), .val (.int n)] [(.int c2), (.int (2 : Int32)), (.ref b1031), (.ref b1031), (.ref b1026), (.ref b1026)]) G := fun tq kq => K1047 tq (XS.iloadN X1043.here hx rfl (hb hby d_method_4_108) rfl kq)
          obtain ⟨cl1049, Ar1049, q1049, S1049, Nn1049, Hh1049, Gg1049⟩ := id V1043
          have hin1049 : ¬ ((2 : Int32) < 0 ∨ cl1049.slots.size ≤ ((2 : Int32)).toNatClampNeg) := inb_of S1049 ⟨by decide, by decide⟩
          obtain ⟨T1049, h1049, X1049, e1049, W1049, st1049⟩ := stC X1043 hx hZ e1043 Ar1049 (j := (2 : Int32)) hin1049 (g := (mkF m 109 #[.val (.int c0), .val (.int c1), .val (.int c2), .val (.int c3), .val (.int n)] [(.int c2), (.int (2 : Int32)), (.ref b1031), (.ref b1031), (.ref b1026), (.ref b1026)])) rfl rfl (hb hby d_method_4_109)
          rw [R_c2.2] at W1049
          have V1049 : Arv Z h1049 b1031 k1031 .char (4 : Int32) [(.int c0), (.int c1), (.int c2), (.int (0 : Int32))] (.int (0 : Int32)) := Arv.set Ar1049 q1049 S1049 Nn1049 Hh1049 Gg1049 (by rw [← R_c2.2]; exact fits_nar_char _) W1049 2 rfl (Nat.le_of_ble_eq_true rfl)
          have N1049 := Fr.snoc X1049 N1043 ge_b1031
          have CR1050 := CR1044.trans (CHr.wr W1049 (Safe.arv hZ.alike V1043 (by decide)) CR1044.1)
          have Sf1050_b1026 := Safe.wr W1049 (Safe.arv hZ.alike V1043 (by decide)) CR1044.1 Sf1044_b1026
          have K1051 : Go p e below T1049 (mkF m 110 #[.val (.int c0), .val (.int c1), .val (.int c2), .val (.int c3), .val (.int n)] [(.ref b1031), (.ref b1026), (.ref b1026)]) G := fun tq kq => K1048 tq (st1049 tq kq)
          have K1052 : Go p e below T1049 (mkF m 111 #[.val (.int c0), .val (.int c1), .val (.int c2), .val (.int c3), .val (.int n)] [(.ref b1031), (.ref b1031), (.ref b1026), (.ref b1026)]) G := fun tq kq => K1051 tq (XS.dup X1049.here hx rfl (hb hby d_method_4_110) rfl rfl kq)
          have K1053 : Go p e below T1049 (mkF m 112 #[.val (.int c0), .val (.int c1), .val (.int c2), .val (.int c3), .val (.int n)] [(.int (3 : Int32)), (.ref b1031), (.ref b1031), (.ref b1026), (.ref b1026)]) G := fun tq kq => K1052 tq (XS.iconst X1049.here hx rfl (hb hby d_method_4_111) kq)
          have K1054 : Go p e below T1049 (mkF m 113 #[.val (.int c0), .val (.int c1), .val (.int c2), .val (.int c3), .val (.int n)] [(.int c3), (.int (3 : Int32)), (.ref b1031), (.ref b1031), (.ref b1026), (.ref b1026)]) G := fun tq kq => K1053 tq (XS.iloadN X1049.here hx rfl (hb hby d_method_4_112) rfl kq)
          obtain ⟨cl1055, Ar1055, q1055, S1055, Nn1055, Hh1055, Gg1055⟩ := id V1049
          have hin1055 : ¬ ((3 : Int32) < 0 ∨ cl1055.slots.size ≤ ((3 : Int32)).toNatClampNeg) := inb_of S1055 ⟨by decide, by decide⟩
          obtain ⟨T1055, h1055, X1055, e1055, W1055, st1055⟩ := stC X1049 hx hZ e1049 Ar1055 (j := (3 : Int32)) hin1055 (g := (mkF m 113 #[.val (.int c0), .val (.int c1), .val (.int c2), .val (.int c3), .val (.int n)] [(.int c3), (.int (3 : Int32)), (.ref b1031), (.ref b1031), (.ref b1026), (.ref b1026)])) rfl rfl (hb hby d_method_4_113)
          rw [R_c3.2] at W1055
          have V1055 : Arv Z h1055 b1031 k1031 .char (4 : Int32) [(.int c0), (.int c1), (.int c2), (.int c3)] (.int (0 : Int32)) := Arv.set Ar1055 q1055 S1055 Nn1055 Hh1055 Gg1055 (by rw [← R_c3.2]; exact fits_nar_char _) W1055 3 rfl (Nat.le_of_ble_eq_true rfl)
          have N1055 := Fr.snoc X1055 N1049 ge_b1031
          have CR1056 := CR1050.trans (CHr.wr W1055 (Safe.arv hZ.alike V1049 (by decide)) CR1050.1)
          have Sf1056_b1026 := Safe.wr W1055 (Safe.arv hZ.alike V1049 (by decide)) CR1050.1 Sf1050_b1026
          have K1057 : Go p e below T1055 (mkF m 114 #[.val (.int c0), .val (.int c1), .val (.int c2), .val (.int c3), .val (.int n)] [(.ref b1031), (.ref b1026), (.ref b1026)]) G := fun tq kq => K1054 tq (st1055 tq kq)
          by_cases hc1058 : ∀ c ∈ ([c0, c1, c2, c3] : List Int32), ¬ (255 : Int32) < c
          · skip
            have hp1059 : ∀ c ∈ ([c0, c1, c2, c3] : List Int32), ¬ c < 0 ∧ ¬ (255 : Int32) < c := by
              intro c hc
              simp only [List.mem_cons, List.not_mem_nil, or_false] at hc
              rcases hc with rfl | rfl | rfl | rfl
              · exact ⟨R_c0.1.1, hc1058 _ (by simp)⟩
              · exact ⟨R_c1.1.1, hc1058 _ (by simp)⟩
              · exact ⟨R_c2.1.1, hc1058 _ (by simp)⟩
              · exact ⟨R_c3.1.1, hc1058 _ (by simp)⟩
            obtain ⟨v1060, _, ⟨T1060, L1060, k1060, n1060⟩, -, X1060, ⟨Lc1060, hQ1060, l1060, y1060, z1060⟩, st1060⟩ := X1055.specialBack hx (y := (⟨"java/lang/String", "<init>", "([C)V"⟩ : MethodName)) rfl hown (mvT hZ (hW 12 _ rfl)) (mvT hZ (hW 13 _ rfl)) (mvT hZ (hW 14 _ rfl)) (by decide) (StrChars.Road.backV (W := 1) hZ hws (kI := 4) (hW 9 _ rfl) (cs := ([c0, c1, c2, c3] : List Int32)) (bs := (([c0, c1, c2, c3] : List Int32)).map (fun c => c.toInt8.toInt32)) (n := 4) ge_b1026 (Nat.le_trans (Nat.le_trans (Nat.le_trans (Nat.le_trans (Nat.le_trans (Nat.le_trans Z0 E1026.1) E1031.1) (Keep.of_wr W1037).1) (Keep.of_wr W1043).1) (Keep.of_wr W1049).1) (Keep.of_wr W1055).1) (((((A1026.ext E1031).wr W1037).wr W1043).wr W1049).wr W1055) (((((F1026_value.ext E1031).other W1037 (Or.inl ne1031_b1026)).other W1043 (Or.inl ne1031_b1026)).other W1049 (Or.inl ne1031_b1026)).other W1055 (Or.inl ne1031_b1026)) (((((F1026_coder.ext E1031).other W1037 (Or.inl ne1031_b1026)).other W1043 (Or.inl ne1031_b1026)).other W1049 (Or.inl ne1031_b1026)).other W1055 (Or.inl ne1031_b1026)) V1055 (S_cs.ext ((((((O0.ext E1026).ext E1031).wr W1037 ge_b1031).wr W1043 ge_b1031).wr W1049 ge_b1031).wr W1055 ge_b1031).2) hcz rfl rfl (by decide) (by decide) hp1059 rfl (by decide) (by decide)) (g := (mkF m 114 #[.val (.int c0), .val (.int c1), .val (.int c2), .val (.int c3), .val (.int n)] [(.ref b1031), (.ref b1026), (.ref b1026)])) rfl (by rw [hml]; rfl) (Steps.refl _) (a := b1026) (argsL := [(.ref b1031)]) (rest := [(.ref b1026)]) (lenOf pd_260 rfl) rfl (by show 2 * 0 + _ ≤ _; exact Nat.le_of_eq rfl) (hb hby d_method_4_114) (fun _ _ => ⟨rfl, e1055, (by decide : 2 + 1 ≤ _), (by decide : 8 + 4 ≤ _)⟩)
            dsimp only [Pt.U, Pt.locs, Pt.cells, Pt.slots] at X1060 l1060 y1060 z1060 st1060 hQ1060
            subst l1060 y1060 z1060
            obtain ⟨rfl, N1060q, K1060q, E1060q, FC1060q, t1060, kb1060, get1060, szt1060, net1060, FV1060q, VB1060q⟩ := hQ1060
            have N1060 := Fr.app N1055 N1060q
            have CR1061 := CR1056.trans (CHr.keep K1060q (sfS Sf1056_b1026 sf0) CR1056.1)
            have Sf1061_b1026 := Safe.keep K1060q (sfS Sf1056_b1026 sf0) CR1056.1 Sf1056_b1026
            have K1062 : Go p e below T1060 (mkF m 117 #[.val (.int c0), .val (.int c1), .val (.int c2), .val (.int c3), .val (.int n)] [(.ref b1026)]) G := fun tq kq => K1057 tq (st1060.trans kq)
            obtain ⟨fs, hr, hrun, hended, hRE⟩ := X1060.leaveW (s := s) hS0 (by first | exact (Nat.le_trans (Nat.le_trans (Nat.le_trans (Nat.le_trans (Nat.le_trans (Nat.le_trans (Nat.le_trans (Nat.zero_le _) E1026.1) E1031.1) (Keep.of_wr W1037).1) (Keep.of_wr W1043).1) (Keep.of_wr W1049).1) (Keep.of_wr W1055).1) K1060q.1) | (rw [rfl]; exact (Nat.le_trans (Nat.le_trans (Nat.le_trans (Nat.le_trans (Nat.le_trans (Nat.le_trans (Nat.le_trans (Nat.zero_le _) E1026.1) E1031.1) (Keep.of_wr W1037).1) (Keep.of_wr W1043).1) (Keep.of_wr W1049).1) (Keep.of_wr W1055).1) K1060q.1))) (v := some (.ref b1026)) (fun h => by rw [Bd.returns] at h; cases h)
            have CRe := CR1061.trans (CHv.at X1060 hZ hEL CR1061.1)
            refine ⟨_, _, hG _ (K1062 _ (retOut X1060 hx Bd.returns rfl (Or.inr (Or.inr (Or.inr (Or.inr ⟨rfl, rfl, rfl⟩)))) (hb hby d_method_4_117) hr)), hrun, hended, _, _, rfl, ?_, (by show CHr Z own_EL s.vm s.heap T1060.vm T1060.heap; rw [hh]; exact CRe), hRE.1, hRE.2.1, hRE.2.2.1, hRE.2.2.2.mono (by decide) (by decide)⟩
            show QST Z c0 c1 c2 c3 n cz h0 n0 _ T1060.heap _
            exact ⟨b1026, t1060, kb1060, _, _, _, rfl, N1060, ((((((((Keep.refl h0 []).ext E1026).ext E1031).wr W1037 (Or.inr sz_b1031)).wr W1043 (Or.inr sz_b1031)).wr W1049 (Or.inr sz_b1031)).wr W1055 (Or.inr sz_b1031)).trans K1060q (allS (Or.inr sz_b1026) all0)), E1060q, FV1060q, FC1060q, VB1060q, by rw [own_tx]; simp only [hc910, hc926, hc954, hc988, if_true, if_false]; exact StrChars.Road.codOf (cs := ([c0, c1, c2, c3] : List Int32)) rfl (fun c hc => (hp1059 c hc).2)⟩
          · skip
            have hb1063 : ∀ c ∈ ([c0, c1, c2, c3] : List Int32), ¬ c < 0 ∧ ¬ (65535 : Int32) < c := by
              intro c hc
              simp only [List.mem_cons, List.not_mem_nil, or_false] at hc
              rcases hc with rfl | rfl | rfl | rfl
              · exact R_c0.1
              · exact R_c1.1
              · exact R_c2.1
              · exact R_c3.1
            obtain ⟨v1064, _, ⟨T1064, L1064, k1064, n1064⟩, -, X1064, ⟨Lc1064, hQ1064, l1064, y1064, z1064⟩, st1064⟩ := X1055.specialBack hx (y := (⟨"java/lang/String", "<init>", "([C)V"⟩ : MethodName)) rfl hown (mvT hZ (hW 12 _ rfl)) (mvT hZ (hW 13 _ rfl)) (mvT hZ (hW 14 _ rfl)) (by decide) (backOf (W := 1) (rmN1w4 l Z a0 hw [] b1026 b1031 k1031 c0 c1 c2 c3 cz h1055 n0 (Nat.le_trans (Nat.le_trans (Nat.le_trans (Nat.le_trans (Nat.le_trans (Nat.le_trans Z0 E1026.1) E1031.1) (Keep.of_wr W1037).1) (Keep.of_wr W1043).1) (Keep.of_wr W1049).1) (Keep.of_wr W1055).1) (((((F1026_value.ext E1031).other W1037 (Or.inl ne1031_b1026)).other W1043 (Or.inl ne1031_b1026)).other W1049 (Or.inl ne1031_b1026)).other W1055 (Or.inl ne1031_b1026)) (((((F1026_coder.ext E1031).other W1037 (Or.inl ne1031_b1026)).other W1043 (Or.inl ne1031_b1026)).other W1049 (Or.inl ne1031_b1026)).other W1055 (Or.inl ne1031_b1026)) (((((A1026.ext E1031).wr W1037).wr W1043).wr W1049).wr W1055) ge_b1026 ((((((O0.ext E1026).ext E1031).wr W1037 ge_b1031).wr W1043 ge_b1031).wr W1049 ge_b1031).wr W1055 ge_b1031) S_cs hcz S_ad S_hi S_lo V1055 hc1058 hb1063) hZ (hW 14 _ rfl) (hW 10 _ rfl) (by decide) (by decide)) (g := (mkF m 114 #[.val (.int c0), .val (.int c1), .val (.int c2), .val (.int c3), .val (.int n)] [(.ref b1031), (.ref b1026), (.ref b1026)])) rfl (by rw [hml]; rfl) (Steps.refl _) (a := b1026) (argsL := [(.ref b1031)]) (rest := [(.ref b1026)]) (lenOf pd_260 rfl) rfl (by show 2 * 0 + _ ≤ _; exact Nat.le_of_eq rfl) (hb hby d_method_4_114) (fun _ _ => ⟨rfl, e1055, (by decide : 2 + 2 ≤ _), (by decide : 8 + 12 ≤ _)⟩)
            dsimp only [Pt.U, Pt.locs, Pt.cells, Pt.slots] at X1064 l1064 y1064 z1064 st1064 hQ1064
            subst l1064 y1064 z1064
            obtain ⟨rfl, N1064q, K1064q, E1064q, FC1064q, t1064, kb1064, net1064, FV1064q, VB1064q⟩ := hQ1064
            have N1064 := Fr.app N1055 N1064q
            have CR1065 := CR1056.trans (CHr.keep K1064q (sfS Sf1056_b1026 sf0) CR1056.1)
            have Sf1065_b1026 := Safe.keep K1064q (sfS Sf1056_b1026 sf0) CR1056.1 Sf1056_b1026
            have K1066 : Go p e below T1064 (mkF m 117 #[.val (.int c0), .val (.int c1), .val (.int c2), .val (.int c3), .val (.int n)] [(.ref b1026)]) G := fun tq kq => K1057 tq (st1064.trans kq)
            obtain ⟨fs, hr, hrun, hended, hRE⟩ := X1064.leaveW (s := s) hS0 (by first | exact (Nat.le_trans (Nat.le_trans (Nat.le_trans (Nat.le_trans (Nat.le_trans (Nat.le_trans (Nat.le_trans (Nat.zero_le _) E1026.1) E1031.1) (Keep.of_wr W1037).1) (Keep.of_wr W1043).1) (Keep.of_wr W1049).1) (Keep.of_wr W1055).1) K1064q.1) | (rw [rfl]; exact (Nat.le_trans (Nat.le_trans (Nat.le_trans (Nat.le_trans (Nat.le_trans (Nat.le_trans (Nat.le_trans (Nat.zero_le _) E1026.1) E1031.1) (Keep.of_wr W1037).1) (Keep.of_wr W1043).1) (Keep.of_wr W1049).1) (Keep.of_wr W1055).1) K1064q.1))) (v := some (.ref b1026)) (fun h => by rw [Bd.returns] at h; cases h)
            have CRe := CR1065.trans (CHv.at X1064 hZ hEL CR1065.1)
            refine ⟨_, _, hG _ (K1066 _ (retOut X1064 hx Bd.returns rfl (Or.inr (Or.inr (Or.inr (Or.inr ⟨rfl, rfl, rfl⟩)))) (hb hby d_method_4_117) hr)), hrun, hended, _, _, rfl, ?_, (by show CHr Z own_EL s.vm s.heap T1064.vm T1064.heap; rw [hh]; exact CRe), hRE.1, hRE.2.1, hRE.2.2.1, hRE.2.2.2.mono (by decide) (by decide)⟩
            show QST Z c0 c1 c2 c3 n cz h0 n0 _ T1064.heap _
            exact ⟨b1026, t1064, kb1064, _, _, _, rfl, N1064, ((((((((Keep.refl h0 []).ext E1026).ext E1031).wr W1037 (Or.inr sz_b1031)).wr W1043 (Or.inr sz_b1031)).wr W1049 (Or.inr sz_b1031)).wr W1055 (Or.inr sz_b1031)).trans K1064q (allS (Or.inr sz_b1026) all0)), E1064q, FV1064q, FC1064q, VB1064q, by rw [own_tx]; simp only [hc910, hc926, hc954, hc988, if_true, if_false]; exact Or.inr ⟨rfl, rfl, rfl, own_ex hc1058⟩⟩
theorem pn_342 : plainName "jdk/internal/util/Preconditions" = true := by first | (simp [plainName, overriddenIn]; done) | decide +kernel
theorem ef_jdk_41_method_11_IIG (m : MethodId) (x0 : Int32) (x1 : Int32) (x2 : Value) (r2 : x2.isRef = true) : entryFrame m #[(.int x0), (.int x1), x2] 3 = mkF m 0 #[.val (.int x0), .val (.int x1), .val x2] [] := by rcases ref_cases r2 with rfl | ⟨_, rfl⟩ <;> first | (simp [entryFrame, mkF, argsToLocals, Value.category]; done) | rfl
theorem d_jdk_41_method_11_0 : decode jdk_41_method_11_code 0 = .ok (.iload_n 0, 1) := by decide +kernel
theorem d_jdk_41_method_11_1 : decode jdk_41_method_11_code 1 = .ok (.ifCond .lt 8, 3) := by decide +kernel
theorem d_jdk_41_method_11_4 : decode jdk_41_method_11_code 4 = .ok (.iload_n 0, 1) := by decide +kernel
theorem d_jdk_41_method_11_5 : decode jdk_41_method_11_code 5 = .ok (.iload_n 1, 1) := by decide +kernel
theorem d_jdk_41_method_11_6 : decode jdk_41_method_11_code 6 = .ok (.if_icmp .lt 10, 3) := by decide +kernel
theorem d_jdk_41_method_11_16 : decode jdk_41_method_11_code 16 = .ok (.iload_n 0, 1) := by decide +kernel
theorem d_jdk_41_method_11_17 : decode jdk_41_method_11_code 17 = .ok (.ireturn, 1) := by decide +kernel
def QPI (Z : State) (ii : Int32) (nn : Int32) (fm : Value) (h0 : Heap) (n0 : Nat) (v : Option Value) (h : Heap) (L : List Loc) : Prop := v = some (.int ii) ∧ Fr n0 L ∧ h = h0
set_option maxRecDepth 65536 in
set_option maxHeartbeats 40000000 in
theorem rmPI (l : Launch) (Z : State) (a0 : Array Value) (hw : ∀ d ∈ tables_1, d.before a0 Z = true) (ws : List Jvm.Cond) (ii : Int32) (nn : Int32) (fm : Value) (h0 : Heap) (n0 : Nat) (Z0 : n0 ≤ h0.size) (h1 : ¬ (ii < (0 : Int32))) (h2 : ii < nn) (rfm : fm.isRef = true) :
    MetFree l (⟨"jdk/internal/util/Preconditions", "checkIndex", "(IILjava/util/function/BiFunction;)I"⟩ : MethodName) (head1 (Jvm.Cond.code (⟨"jdk/internal/util/Preconditions", "checkIndex", "(IILjava/util/function/BiFunction;)I"⟩ : MethodName) jdk_41_method_11_code 3 (some .int) :: ws) ({ frames := 0, cells := 0, slots := 0, locals := 0 } : Room)) (fun aa UU => aa = #[(.int ii), (.int nn), fm] ∧ Z.Warmed39 UU.vm ∧ UU.heap = h0) (fun _ _ _ _ _ => True) (fun _ UU oo UU' => ∃ vv LL, oo = .returned vv ∧ QPI Z ii nn fm h0 n0 vv UU'.heap LL ∧ FrameEnd UU oo UU' LL ({ frames := 0, cells := 0, slots := 0, locals := 0 } : Room).cells ({ frames := 0, cells := 0, slots := 0, locals := 0 } : Room).slots) := by
  refine MetFree.of_bodySF (plainFor_of_name pn_342) hisR ?_
  intro p e s m args below meth c s₁ Bd hml0 hP hK
  obtain ⟨rfl, hZ, hh⟩ := hP
  have hx := Bd.exec
  have hby := Bd.bytes
  have hml : c.maxLocals = 3 := hml0
  have hown : s.vm.findClass "jdk/internal/util/Preconditions" = some m.cls := findClass_of_methodNamed Bd.named
  have hnm := (name_of_methodNamed Bd.named Bd.method).1
  have hW : ∀ (k : Nat) (d : Jvm.Cond), tables_1[k]? = some d → d.before a0 Z = true := fun k d h => hw d (List.mem_of_getElem? h)
  have X0 : Stand p l e ({ frames := 0, cells := 0, slots := 0, locals := 0 } : Room) s m #[(.int ii), (.int nn), fm] below meth c s₁ [] 0 0 := Stand.of_body Bd
  have e0 : s₁.heap = h0 := by rw [← hh, Bd.state]; rfl
  have N0 := Fr.nil n0
  obtain ⟨G, hG, K0⟩ : ∃ G : State → Prop, (∀ tq, G tq → Steps p.tables e below (s₁.setTop (entryFrame m #[(.int ii), (.int nn), fm] 3)) tq) ∧ Go p e below s₁ (mkF m 0 #[.val (.int ii), .val (.int nn), .val fm] []) G := ⟨fun tq => Steps p.tables e below (s₁.setTop (entryFrame m #[(.int ii), (.int nn), fm] 3)) tq, fun _ h => h, fun tq kq => castTop (ef_jdk_41_method_11_IIG m ii nn fm rfm) kq⟩
  have K1067 : Go p e below s₁ (mkF m 1 #[.val (.int ii), .val (.int nn), .val fm] [(.int ii)]) G := fun tq kq => K0 tq (XS.iloadN X0.here hx rfl (hb hby d_jdk_41_method_11_0) rfl kq)
  have K1068 : Go p e below s₁ (mkF m 4 #[.val (.int ii), .val (.int nn), .val fm] []) G := fun tq kq => K1067 tq (XS.ifNo X0.here hx rfl (hb hby d_jdk_41_method_11_1) rfl ((if0 _ _).trans (flt h1).1) kq)
  have K1069 : Go p e below s₁ (mkF m 5 #[.val (.int ii), .val (.int nn), .val fm] [(.int ii)]) G := fun tq kq => K1068 tq (XS.iloadN X0.here hx rfl (hb hby d_jdk_41_method_11_4) rfl kq)
  have K1070 : Go p e below s₁ (mkF m 6 #[.val (.int ii), .val (.int nn), .val fm] [(.int nn), (.int ii)]) G := fun tq kq => K1069 tq (XS.iloadN X0.here hx rfl (hb hby d_jdk_41_method_11_5) rfl kq)
  have K1071 : Go p e below s₁ (mkF m 16 #[.val (.int ii), .val (.int nn), .val fm] []) G := fun tq kq => K1070 tq (XS.icmpYes X0.here hx rfl (pc0 := 6) (pc' := 16) rfl (hb hby d_jdk_41_method_11_6) rfl ((tlt h2).1) (by decide) (by decide) kq)
  have K1072 : Go p e below s₁ (mkF m 17 #[.val (.int ii), .val (.int nn), .val fm] [(.int ii)]) G := fun tq kq => K1071 tq (XS.iloadN X0.here hx rfl (hb hby d_jdk_41_method_11_16) rfl kq)
  obtain ⟨fs, hr, hrun, hended, hWW, hsame⟩ := X0.leave (v := some (.int ii)) (fun h => by rw [Bd.returns] at h; cases h)
  refine ⟨_, _, hG _ (K1072 _ (retOut X0 hx Bd.returns rfl (Or.inl ⟨rfl, Or.inl rfl, _, rfl⟩) (hb hby d_jdk_41_method_11_17) hr)), hrun, hended, _, _, rfl, ?_, ⟨_, rfl⟩, hWW, hsame.mono (by decide) (by decide)⟩
  show QPI Z ii nn fm h0 n0 _ s₁.heap _
  rw [e0]
  exact ⟨rfl, N0, rfl⟩
theorem ef_jdk_42_method_155_II (m : MethodId) (x0 : Int32) (x1 : Int32) : entryFrame m #[(.int x0), (.int x1)] 2 = mkF m 0 #[.val (.int x0), .val (.int x1)] [] := by first | (simp [entryFrame, mkF, argsToLocals, Value.category]; done) | rfl
theorem pd_352 : parseMethodDescriptor "(IILjava/util/function/BiFunction;)I" = some ⟨[.int, .int, (.object "java/util/function/BiFunction")], some .int⟩ := by decide +kernel
theorem d_jdk_42_method_155_0 : decode jdk_42_method_155_code 0 = .ok (.iload_n 0, 1) := by decide +kernel
theorem d_jdk_42_method_155_1 : decode jdk_42_method_155_code 1 = .ok (.iload_n 1, 1) := by decide +kernel
theorem d_jdk_42_method_155_2 : decode jdk_42_method_155_code 2 = .ok (.getstatic 1053, 3) := by decide +kernel
theorem d_jdk_42_method_155_5 : decode jdk_42_method_155_code 5 = .ok (.invokestatic 1059, 3) := by decide +kernel
theorem d_jdk_42_method_155_8 : decode jdk_42_method_155_code 8 = .ok (.pop, 1) := by decide +kernel
theorem d_jdk_42_method_155_9 : decode jdk_42_method_155_code 9 = .ok (.return_, 1) := by decide +kernel
def QSC (Z : State) (ii : Int32) (nn : Int32) (fm : Value) (h0 : Heap) (n0 : Nat) (v : Option Value) (h : Heap) (L : List Loc) : Prop := v = none ∧ Fr n0 L ∧ h = h0
set_option maxRecDepth 65536 in
set_option maxHeartbeats 40000000 in
theorem rmSC (l : Launch) (Z : State) (a0 : Array Value) (hw : ∀ d ∈ tables_1, d.before a0 Z = true) (ws : List Jvm.Cond) (ii : Int32) (nn : Int32) (fm : Value) (h0 : Heap) (n0 : Nat) (Z0 : n0 ≤ h0.size) (O0 : Old Z n0 h0) (S_fm : Sta Z Z.heap "jdk/internal/util/Preconditions" "SIOOBE_FORMATTER" "Ljava/util/function/BiFunction;" fm) (rfm : fm.isRef = true) (h1 : ¬ (ii < (0 : Int32))) (h2 : ii < nn) :
    MetFree l (⟨"java/lang/String", "checkIndex", "(II)V"⟩ : MethodName) (head1 (Jvm.Cond.code (⟨"java/lang/String", "checkIndex", "(II)V"⟩ : MethodName) jdk_42_method_155_code 2 none :: ws) ({ frames := 1, cells := 0, slots := 0, locals := 14 } : Room)) (fun aa UU => aa = #[(.int ii), (.int nn)] ∧ Z.Warmed39 UU.vm ∧ UU.heap = h0) (fun _ _ _ _ _ => True) (fun _ UU oo UU' => ∃ vv LL, oo = .returned vv ∧ QSC Z ii nn fm h0 n0 vv UU'.heap LL ∧ FrameEnd UU oo UU' LL ({ frames := 1, cells := 0, slots := 0, locals := 14 } : Room).cells ({ frames := 1, cells := 0, slots := 0, locals := 14 } : Room).slots) := by
  refine MetFree.of_bodySF (plainFor_of_name pn_0) hisR ?_
  intro p e s m args below meth c s₁ Bd hml0 hP hK
  obtain ⟨rfl, hZ, hh⟩ := hP
  have hx := Bd.exec
  have hby := Bd.bytes
  have hml : c.maxLocals = 2 := hml0
  have hown : s.vm.findClass "java/lang/String" = some m.cls := findClass_of_methodNamed Bd.named
  have hnm := (name_of_methodNamed Bd.named Bd.method).1
  have hW : ∀ (k : Nat) (d : Jvm.Cond), tables_1[k]? = some d → d.before a0 Z = true := fun k d h => hw d (List.mem_of_getElem? h)
  have X0 : Stand p l e ({ frames := 1, cells := 0, slots := 0, locals := 14 } : Room) s m #[(.int ii), (.int nn)] below meth c s₁ [] 0 0 := Stand.of_body Bd
  have e0 : s₁.heap = h0 := by rw [← hh, Bd.state]; rfl
  have N0 := Fr.nil n0
  obtain ⟨G, hG, K0⟩ : ∃ G : State → Prop, (∀ tq, G tq → Steps p.tables e below (s₁.setTop (entryFrame m #[(.int ii), (.int nn)] 2)) tq) ∧ Go p e below s₁ (mkF m 0 #[.val (.int ii), .val (.int nn)] []) G := ⟨fun tq => Steps p.tables e below (s₁.setTop (entryFrame m #[(.int ii), (.int nn)] 2)) tq, fun _ h => h, fun tq kq => castTop (ef_jdk_42_method_155_II m ii nn) kq⟩
  have K1073 : Go p e below s₁ (mkF m 1 #[.val (.int ii), .val (.int nn)] [(.int ii)]) G := fun tq kq => K0 tq (XS.iloadN X0.here hx rfl (hb hby d_jdk_42_method_155_0) rfl kq)
  have K1074 : Go p e below s₁ (mkF m 2 #[.val (.int ii), .val (.int nn)] [(.int nn), (.int ii)]) G := fun tq kq => K1073 tq (XS.iloadN X0.here hx rfl (hb hby d_jdk_42_method_155_1) rfl kq)
  obtain ⟨T1075, X1075, e1075, st1075⟩ := getS2 X0 hx hZ hown (host := "") (Or.inl (hW 75 _ rfl)) Via.refl e0 (S_fm.ext O0.2) (g := (mkF m 2 #[.val (.int ii), .val (.int nn)] [(.int nn), (.int ii)])) rfl (hb hby d_jdk_42_method_155_2)
  have K1076 : Go p e below T1075 (mkF m 5 #[.val (.int ii), .val (.int nn)] [fm, (.int nn), (.int ii)]) G := fun tq kq => K1074 tq (st1075 tq kq)
  obtain ⟨v1077, _, ⟨T1077, L1077, k1077, n1077⟩, -, X1077, ⟨Lc1077, hQ1077, l1077, y1077, z1077⟩, st1077⟩ := Jvm.LawKit.callS X1075 hx (y := (⟨"jdk/internal/util/Preconditions", "checkIndex", "(IILjava/util/function/BiFunction;)I"⟩ : MethodName)) hown (mvT hZ (hW 77 _ rfl)) (mvT hZ (hW 78 _ rfl)) (mvT hZ (hW 76 _ rfl)) (mvT hZ (hW 79 _ rfl)) (by decide) (backOf (W := 0) (rmPI l Z a0 hw [] ii nn fm h0 n0 Z0 h1 h2 rfm) hZ (hW 79 _ rfl) (hW 76 _ rfl) (by decide) (by decide)) (g := (mkF m 5 #[.val (.int ii), .val (.int nn)] [fm, (.int nn), (.int ii)])) rfl (by rw [hml]; rfl) (argsL := [(.int ii), (.int nn), fm]) (rest := []) (lenOf pd_352 rfl) rfl (by show 2 * 0 + _ ≤ _; exact Nat.le_of_eq rfl) (hb hby d_jdk_42_method_155_5) (fun _ _ => ⟨rfl, e1075, (by decide : 0 + 0 ≤ _), (by decide : 0 + 0 ≤ _)⟩)
  dsimp only [Pt.U, Pt.locs, Pt.cells, Pt.slots] at X1077 l1077 y1077 z1077 st1077 hQ1077
  subst l1077 y1077 z1077
  obtain ⟨rfl, N1077q, E1077q⟩ := hQ1077
  have N1077 := Fr.app N0 N1077q
  have K1078 : Go p e below T1077 (mkF m 8 #[.val (.int ii), .val (.int nn)] [(.int ii)]) G := fun tq kq => K1076 tq (st1077 tq kq)
  have K1079 : Go p e below T1077 (mkF m 9 #[.val (.int ii), .val (.int nn)] []) G := fun tq kq => K1078 tq (XS.pop X1077.here hx rfl (hb hby d_jdk_42_method_155_8) rfl rfl kq)
  obtain ⟨fs, hr, hrun, hended, hWW, hsame⟩ := X1077.leave (v := none) (fun _ => rfl)
  refine ⟨_, _, hG _ (K1079 _ (X1077.returnOut hx Bd.returns (hb hby d_jdk_42_method_155_9) hr)), hrun, hended, _, _, rfl, ?_, ⟨_, rfl⟩, hWW, hsame.mono (by decide) (by decide)⟩
  show QSC Z ii nn fm h0 n0 _ T1077.heap _
  rw [E1077q]
  exact ⟨rfl, N1077, rfl⟩
theorem ef_jdk_52_method_6_R (m : MethodId) (x0 : Addr) : entryFrame m #[(.ref x0)] 1 = mkF m 0 #[.val (.ref x0)] [] := by first | (simp [entryFrame, mkF, argsToLocals, Value.category]; done) | rfl
theorem d_jdk_52_method_6_0 : decode jdk_52_method_6_code 0 = .ok (.aload_n 0, 1) := by decide +kernel
theorem d_jdk_52_method_6_1 : decode jdk_52_method_6_code 1 = .ok (.arraylength, 1) := by decide +kernel
theorem d_jdk_52_method_6_2 : decode jdk_52_method_6_code 2 = .ok (.iconst 1, 1) := by decide +kernel
theorem d_jdk_52_method_6_3 : decode jdk_52_method_6_code 3 = .ok (.ishr, 1) := by decide +kernel
theorem d_jdk_52_method_6_4 : decode jdk_52_method_6_code 4 = .ok (.ireturn, 1) := by decide +kernel
def QUL (Z : State) (tb : Addr) (kb : ClassId) (N2 : Int32) (vs : List Value) (h0 : Heap) (n0 : Nat) (v : Option Value) (h : Heap) (L : List Loc) : Prop := v = some (.int (N2 >>> ((1 : Int32) &&& 31))) ∧ Fr n0 L ∧ h = h0
set_option maxRecDepth 65536 in
set_option maxHeartbeats 40000000 in
theorem rmUL (l : Launch) (Z : State) (a0 : Array Value) (hw : ∀ d ∈ tables_1, d.before a0 Z = true) (ws : List Jvm.Cond) (tb : Addr) (kb : ClassId) (N2 : Int32) (vs : List Value) (h0 : Heap) (n0 : Nat) (Z0 : n0 ≤ h0.size) (V_tb : Arv Z h0 tb kb .byte N2 vs (.int (0 : Int32))) :
    MetFree l (⟨"java/lang/StringUTF16", "length", "([B)I"⟩ : MethodName) (head1 (Jvm.Cond.code (⟨"java/lang/StringUTF16", "length", "([B)I"⟩ : MethodName) jdk_52_method_6_code 1 (some .int) :: ws) ({ frames := 0, cells := 0, slots := 0, locals := 0 } : Room)) (fun aa UU => aa = #[(.ref tb)] ∧ Z.Warmed39 UU.vm ∧ UU.heap = h0) (fun _ _ _ _ _ => True) (fun _ UU oo UU' => ∃ vv LL, oo = .returned vv ∧ QUL Z tb kb N2 vs h0 n0 vv UU'.heap LL ∧ FrameEnd UU oo UU' LL ({ frames := 0, cells := 0, slots := 0, locals := 0 } : Room).cells ({ frames := 0, cells := 0, slots := 0, locals := 0 } : Room).slots) := by
  refine MetFree.of_bodySF (plainFor_of_name pn_41) hisR ?_
  intro p e s m args below meth c s₁ Bd hml0 hP hK
  obtain ⟨rfl, hZ, hh⟩ := hP
  have hx := Bd.exec
  have hby := Bd.bytes
  have hml : c.maxLocals = 1 := hml0
  have hown : s.vm.findClass "java/lang/StringUTF16" = some m.cls := findClass_of_methodNamed Bd.named
  have hnm := (name_of_methodNamed Bd.named Bd.method).1
  have hW : ∀ (k : Nat) (d : Jvm.Cond), tables_1[k]? = some d → d.before a0 Z = true := fun k d h => hw d (List.mem_of_getElem? h)
  have X0 : Stand p l e ({ frames := 0, cells := 0, slots := 0, locals := 0 } : Room) s m #[(.ref tb)] below meth c s₁ [] 0 0 := Stand.of_body Bd
  have e0 : s₁.heap = h0 := by rw [← hh, Bd.state]; rfl
  have N0 := Fr.nil n0
  obtain ⟨G, hG, K0⟩ : ∃ G : State → Prop, (∀ tq, G tq → Steps p.tables e below (s₁.setTop (entryFrame m #[(.ref tb)] 1)) tq) ∧ Go p e below s₁ (mkF m 0 #[.val (.ref tb)] []) G := ⟨fun tq => Steps p.tables e below (s₁.setTop (entryFrame m #[(.ref tb)] 1)) tq, fun _ h => h, fun tq kq => castTop (ef_jdk_52_method_6_R m tb) kq⟩
  have K1080 : Go p e below s₁ (mkF m 1 #[.val (.ref tb)] [(.ref tb)]) G := fun tq kq => K0 tq (XS.aloadN X0.here hx rfl (hb hby d_jdk_52_method_6_0) rfl rfl kq)
  obtain ⟨cl1081, Ar1081, q1081, S1081, Nn1081, Hh1081, Gg1081⟩ := id V_tb
  have K1082 : Go p e below s₁ (mkF m 2 #[.val (.ref tb)] [(.int N2)]) G := fun tq kq => K1080 tq (X0.arraylength hx (by rw [e0]; exact Ar1081.1) (State.isArrayOf_alike hZ.alike Ar1081.2.1) (g := (mkF m 1 #[.val (.ref tb)] [(.ref tb)])) rfl rfl (hb hby d_jdk_52_method_6_1) _ (by rw [len_of S1081 Nn1081]; exact kq))
  have K1083 : Go p e below s₁ (mkF m 3 #[.val (.ref tb)] [(.int (1 : Int32)), (.int N2)]) G := fun tq kq => K1082 tq (XS.iconst X0.here hx rfl (hb hby d_jdk_52_method_6_2) kq)
  have K1084 : Go p e below s₁ (mkF m 4 #[.val (.ref tb)] [(.int (N2 >>> ((1 : Int32) &&& 31)))]) G := fun tq kq => K1083 tq (XS.ishr X0.here hx rfl (hb hby d_jdk_52_method_6_3) rfl kq)
  obtain ⟨fs, hr, hrun, hended, hWW, hsame⟩ := X0.leave (v := some (.int (N2 >>> ((1 : Int32) &&& 31)))) (fun h => by rw [Bd.returns] at h; cases h)
  refine ⟨_, _, hG _ (K1084 _ (retOut X0 hx Bd.returns rfl (Or.inl ⟨rfl, Or.inl rfl, _, rfl⟩) (hb hby d_jdk_52_method_6_4) hr)), hrun, hended, _, _, rfl, ?_, ⟨_, rfl⟩, hWW, hsame.mono (by decide) (by decide)⟩
  show QUL Z tb kb N2 vs h0 n0 _ s₁.heap _
  rw [e0]
  exact ⟨rfl, N0, rfl⟩
theorem ef_jdk_52_method_91_IR (m : MethodId) (x0 : Int32) (x1 : Addr) : entryFrame m #[(.int x0), (.ref x1)] 2 = mkF m 0 #[.val (.int x0), .val (.ref x1)] [] := by first | (simp [entryFrame, mkF, argsToLocals, Value.category]; done) | rfl
theorem pd_366 : parseMethodDescriptor "([B)I" = some ⟨[(.array .byte)], some .int⟩ := by decide +kernel
theorem pd_367 : parseMethodDescriptor "(II)V" = some ⟨[.int, .int], none⟩ := by decide +kernel
theorem d_jdk_52_method_91_0 : decode jdk_52_method_91_code 0 = .ok (.iload_n 0, 1) := by decide +kernel
theorem d_jdk_52_method_91_1 : decode jdk_52_method_91_code 1 = .ok (.aload_n 1, 1) := by decide +kernel
theorem d_jdk_52_method_91_2 : decode jdk_52_method_91_code 2 = .ok (.invokestatic 48, 3) := by decide +kernel
theorem d_jdk_52_method_91_5 : decode jdk_52_method_91_code 5 = .ok (.invokestatic 414, 3) := by decide +kernel
theorem d_jdk_52_method_91_8 : decode jdk_52_method_91_code 8 = .ok (.return_, 1) := by decide +kernel
def QUI (Z : State) (ii : Int32) (tb : Addr) (kb : ClassId) (N2 : Int32) (vs : List Value) (fm : Value) (h0 : Heap) (n0 : Nat) (v : Option Value) (h : Heap) (L : List Loc) : Prop := v = none ∧ Fr n0 L ∧ h = h0
set_option maxRecDepth 65536 in
set_option maxHeartbeats 40000000 in
theorem rmUI (l : Launch) (Z : State) (a0 : Array Value) (hw : ∀ d ∈ tables_1, d.before a0 Z = true) (ws : List Jvm.Cond) (ii : Int32) (tb : Addr) (kb : ClassId) (N2 : Int32) (vs : List Value) (fm : Value) (h0 : Heap) (n0 : Nat) (Z0 : n0 ≤ h0.size) (O0 : Old Z n0 h0) (S_fm : Sta Z Z.heap "jdk/internal/util/Preconditions" "SIOOBE_FORMATTER" "Ljava/util/function/BiFunction;" fm) (rfm : fm.isRef = true) (V_tb : Arv Z h0 tb kb .byte N2 vs (.int (0 : Int32))) (h1 : ¬ (ii < (0 : Int32))) (h2 : ii < (N2 >>> ((1 : Int32) &&& 31))) :
    MetFree l (⟨"java/lang/StringUTF16", "checkIndex", "(I[B)V"⟩ : MethodName) (head1 (Jvm.Cond.code (⟨"java/lang/StringUTF16", "checkIndex", "(I[B)V"⟩ : MethodName) jdk_52_method_91_code 2 none :: ws) ({ frames := 2, cells := 0, slots := 0, locals := 27 } : Room)) (fun aa UU => aa = #[(.int ii), (.ref tb)] ∧ Z.Warmed39 UU.vm ∧ UU.heap = h0) (fun _ _ _ _ _ => True) (fun _ UU oo UU' => ∃ vv LL, oo = .returned vv ∧ QUI Z ii tb kb N2 vs fm h0 n0 vv UU'.heap LL ∧ FrameEnd UU oo UU' LL ({ frames := 2, cells := 0, slots := 0, locals := 27 } : Room).cells ({ frames := 2, cells := 0, slots := 0, locals := 27 } : Room).slots) := by
  refine MetFree.of_bodySF (plainFor_of_name pn_41) hisR ?_
  intro p e s m args below meth c s₁ Bd hml0 hP hK
  obtain ⟨rfl, hZ, hh⟩ := hP
  have hx := Bd.exec
  have hby := Bd.bytes
  have hml : c.maxLocals = 2 := hml0
  have hown : s.vm.findClass "java/lang/StringUTF16" = some m.cls := findClass_of_methodNamed Bd.named
  have hnm := (name_of_methodNamed Bd.named Bd.method).1
  have hW : ∀ (k : Nat) (d : Jvm.Cond), tables_1[k]? = some d → d.before a0 Z = true := fun k d h => hw d (List.mem_of_getElem? h)
  have X0 : Stand p l e ({ frames := 2, cells := 0, slots := 0, locals := 27 } : Room) s m #[(.int ii), (.ref tb)] below meth c s₁ [] 0 0 := Stand.of_body Bd
  have e0 : s₁.heap = h0 := by rw [← hh, Bd.state]; rfl
  have N0 := Fr.nil n0
  obtain ⟨G, hG, K0⟩ : ∃ G : State → Prop, (∀ tq, G tq → Steps p.tables e below (s₁.setTop (entryFrame m #[(.int ii), (.ref tb)] 2)) tq) ∧ Go p e below s₁ (mkF m 0 #[.val (.int ii), .val (.ref tb)] []) G := ⟨fun tq => Steps p.tables e below (s₁.setTop (entryFrame m #[(.int ii), (.ref tb)] 2)) tq, fun _ h => h, fun tq kq => castTop (ef_jdk_52_method_91_IR m ii tb) kq⟩
  have K1085 : Go p e below s₁ (mkF m 1 #[.val (.int ii), .val (.ref tb)] [(.int ii)]) G := fun tq kq => K0 tq (XS.iloadN X0.here hx rfl (hb hby d_jdk_52_method_91_0) rfl kq)
  have K1086 : Go p e below s₁ (mkF m 2 #[.val (.int ii), .val (.ref tb)] [(.ref tb), (.int ii)]) G := fun tq kq => K1085 tq (XS.aloadN X0.here hx rfl (hb hby d_jdk_52_method_91_1) rfl rfl kq)
  obtain ⟨v1087, _, ⟨T1087, L1087, k1087, n1087⟩, -, X1087, ⟨Lc1087, hQ1087, l1087, y1087, z1087⟩, st1087⟩ := Jvm.LawKit.callS X0 hx (y := (⟨"java/lang/StringUTF16", "length", "([B)I"⟩ : MethodName)) hown (mvT hZ (hW 105 _ rfl)) (mvT hZ (hW 106 _ rfl)) (mvT hZ (hW 47 _ rfl)) (mvT hZ (hW 107 _ rfl)) (by decide) (backOf (W := 1) (rmUL l Z a0 hw [] tb kb N2 vs h0 n0 Z0 V_tb) hZ (hW 107 _ rfl) (hW 47 _ rfl) (by decide) (by decide)) (g := (mkF m 2 #[.val (.int ii), .val (.ref tb)] [(.ref tb), (.int ii)])) rfl (by rw [hml]; rfl) (argsL := [(.ref tb)]) (rest := [(.int ii)]) (lenOf pd_366 rfl) rfl (by show 2 * 0 + _ ≤ _; exact Nat.le_of_eq rfl) (hb hby d_jdk_52_method_91_2) (fun _ _ => ⟨rfl, e0, (by decide : 0 + 0 ≤ _), (by decide : 0 + 0 ≤ _)⟩)
  dsimp only [Pt.U, Pt.locs, Pt.cells, Pt.slots] at X1087 l1087 y1087 z1087 st1087 hQ1087
  subst l1087 y1087 z1087
  obtain ⟨rfl, N1087q, E1087q⟩ := hQ1087
  have N1087 := Fr.app N0 N1087q
  have K1088 : Go p e below T1087 (mkF m 5 #[.val (.int ii), .val (.ref tb)] [(.int (N2 >>> ((1 : Int32) &&& 31))), (.int ii)]) G := fun tq kq => K1086 tq (st1087 tq kq)
  obtain ⟨v1089, _, ⟨T1089, L1089, k1089, n1089⟩, -, X1089, ⟨Lc1089, hQ1089, l1089, y1089, z1089⟩, st1089⟩ := Jvm.LawKit.callS X1087 hx (y := (⟨"java/lang/String", "checkIndex", "(II)V"⟩ : MethodName)) hown (mvT hZ (hW 108 _ rfl)) (mvT hZ (hW 73 _ rfl)) (mvT hZ (hW 10 _ rfl)) (mvT hZ (hW 74 _ rfl)) (by decide) (backOf (W := 0) (rmSC l Z a0 hw [] ii (N2 >>> ((1 : Int32) &&& 31)) fm h0 n0 Z0 O0 S_fm rfm h1 h2) hZ (hW 74 _ rfl) (hW 10 _ rfl) (by decide) (by decide)) (g := (mkF m 5 #[.val (.int ii), .val (.ref tb)] [(.int (N2 >>> ((1 : Int32) &&& 31))), (.int ii)])) rfl (by rw [hml]; rfl) (argsL := [(.int ii), (.int (N2 >>> ((1 : Int32) &&& 31)))]) (rest := []) (lenOf pd_367 rfl) rfl (by show 2 * 0 + _ ≤ _; exact Nat.le_of_eq rfl) (hb hby d_jdk_52_method_91_5) (fun _ _ => ⟨rfl, E1087q, (by decide : 0 + 0 ≤ _), (by decide : 0 + 0 ≤ _)⟩)
  dsimp only [Pt.U, Pt.locs, Pt.cells, Pt.slots] at X1089 l1089 y1089 z1089 st1089 hQ1089
  subst l1089 y1089 z1089
  obtain ⟨rfl, N1089q, E1089q⟩ := hQ1089
  have N1089 := Fr.app N1087 N1089q
  have K1090 : Go p e below T1089 (mkF m 8 #[.val (.int ii), .val (.ref tb)] []) G := fun tq kq => K1088 tq (st1089 tq kq)
  obtain ⟨fs, hr, hrun, hended, hWW, hsame⟩ := X1089.leave (v := none) (fun _ => rfl)
  refine ⟨_, _, hG _ (K1090 _ (X1089.returnOut hx Bd.returns (hb hby d_jdk_52_method_91_8) hr)), hrun, hended, _, _, rfl, ?_, ⟨_, rfl⟩, hWW, hsame.mono (by decide) (by decide)⟩
  show QUI Z ii tb kb N2 vs fm h0 n0 _ T1089.heap _
  rw [E1089q]
  exact ⟨rfl, N1089, rfl⟩
theorem ef_jdk_52_method_83_RI (m : MethodId) (x0 : Addr) (x1 : Int32) : entryFrame m #[(.ref x0), (.int x1)] 2 = mkF m 0 #[.val (.ref x0), .val (.int x1)] [] := by first | (simp [entryFrame, mkF, argsToLocals, Value.category]; done) | rfl
theorem pd_374 : parseMethodDescriptor "(I[B)V" = some ⟨[.int, (.array .byte)], none⟩ := by decide +kernel
theorem d_jdk_52_method_83_0 : decode jdk_52_method_83_code 0 = .ok (.iload_n 1, 1) := by decide +kernel
theorem d_jdk_52_method_83_1 : decode jdk_52_method_83_code 1 = .ok (.aload_n 0, 1) := by decide +kernel
theorem d_jdk_52_method_83_2 : decode jdk_52_method_83_code 2 = .ok (.invokestatic 67, 3) := by decide +kernel
theorem d_jdk_52_method_83_5 : decode jdk_52_method_83_code 5 = .ok (.aload_n 0, 1) := by decide +kernel
theorem d_jdk_52_method_83_6 : decode jdk_52_method_83_code 6 = .ok (.iload_n 1, 1) := by decide +kernel
theorem d_jdk_52_method_83_7 : decode jdk_52_method_83_code 7 = .ok (.invokestatic 71, 3) := by decide +kernel
theorem d_jdk_52_method_83_10 : decode jdk_52_method_83_code 10 = .ok (.ireturn, 1) := by decide +kernel
def QUA (Z : State) (tb : Addr) (kb : ClassId) (cs : List Int32) (j : Nat) (fm : Value) (h0 : Heap) (n0 : Nat) (v : Option Value) (h : Heap) (L : List Loc) : Prop := v = some (.int (cs.getD j 0)) ∧ Fr n0 L ∧ h = h0
set_option maxRecDepth 65536 in
set_option maxHeartbeats 40000000 in
theorem rmUA (l : Launch) (Z : State) (a0 : Array Value) (hw : ∀ d ∈ tables_1, d.before a0 Z = true) (ws : List Jvm.Cond) (tb : Addr) (kb : ClassId) (cs : List Int32) (j : Nat) (fm : Value) (h0 : Heap) (n0 : Nat) (Z0 : n0 ≤ h0.size) (O0 : Old Z n0 h0) (S_ad : Sta Z Z.heap "java/lang/StringUTF16" "$assertionsDisabled" "Z" (.int (1 : Int32))) (S_hi : Sta Z Z.heap "java/lang/StringUTF16" "HI_BYTE_SHIFT" "I" (.int (0 : Int32))) (S_lo : Sta Z Z.heap "java/lang/StringUTF16" "LO_BYTE_SHIFT" "I" (.int (8 : Int32))) (S_fm : Sta Z Z.heap "jdk/internal/util/Preconditions" "SIOOBE_FORMATTER" "Ljava/util/function/BiFunction;" fm) (rfm : fm.isRef = true) (V_tb : Arv Z h0 tb kb .byte (Int32.ofNat (2 * cs.length)) (StrChars.Road.wideBytes cs) (.int (0 : Int32))) (hb5 : ∀ c ∈ cs, ¬ c < 0 ∧ ¬ (65535 : Int32) < c) (hl : cs.length ≤ 4) (hj : j < cs.length) :
    MetFree l (⟨"java/lang/StringUTF16", "charAt", "([BI)C"⟩ : MethodName) (head1 (Jvm.Cond.code (⟨"java/lang/StringUTF16", "charAt", "([BI)C"⟩ : MethodName) jdk_52_method_83_code 2 (some .char) :: ws) ({ frames := 3, cells := 0, slots := 0, locals := 40 } : Room)) (fun aa UU => aa = #[(.ref tb), (.int (Int32.ofNat j))] ∧ Z.Warmed39 UU.vm ∧ UU.heap = h0) (fun _ _ _ _ _ => True) (fun _ UU oo UU' => ∃ vv LL, oo = .returned vv ∧ QUA Z tb kb cs j fm h0 n0 vv UU'.heap LL ∧ FrameEnd UU oo UU' LL ({ frames := 3, cells := 0, slots := 0, locals := 40 } : Room).cells ({ frames := 3, cells := 0, slots := 0, locals := 40 } : Room).slots) := by
  refine MetFree.of_bodySF (plainFor_of_name pn_41) hisR ?_
  intro p e s m args below meth c s₁ Bd hml0 hP hK
  obtain ⟨rfl, hZ, hh⟩ := hP
  have hx := Bd.exec
  have hby := Bd.bytes
  have hml : c.maxLocals = 2 := hml0
  have hown : s.vm.findClass "java/lang/StringUTF16" = some m.cls := findClass_of_methodNamed Bd.named
  have hnm := (name_of_methodNamed Bd.named Bd.method).1
  have hW : ∀ (k : Nat) (d : Jvm.Cond), tables_1[k]? = some d → d.before a0 Z = true := fun k d h => hw d (List.mem_of_getElem? h)
  have X0 : Stand p l e ({ frames := 3, cells := 0, slots := 0, locals := 40 } : Room) s m #[(.ref tb), (.int (Int32.ofNat j))] below meth c s₁ [] 0 0 := Stand.of_body Bd
  have e0 : s₁.heap = h0 := by rw [← hh, Bd.state]; rfl
  have N0 := Fr.nil n0
  obtain ⟨G, hG, K0⟩ : ∃ G : State → Prop, (∀ tq, G tq → Steps p.tables e below (s₁.setTop (entryFrame m #[(.ref tb), (.int (Int32.ofNat j))] 2)) tq) ∧ Go p e below s₁ (mkF m 0 #[.val (.ref tb), .val (.int (Int32.ofNat j))] []) G := ⟨fun tq => Steps p.tables e below (s₁.setTop (entryFrame m #[(.ref tb), (.int (Int32.ofNat j))] 2)) tq, fun _ h => h, fun tq kq => castTop (ef_jdk_52_method_83_RI m tb (Int32.ofNat j)) kq⟩
  have K1091 : Go p e below s₁ (mkF m 1 #[.val (.ref tb), .val (.int (Int32.ofNat j))] [(.int (Int32.ofNat j))]) G := fun tq kq => K0 tq (XS.iloadN X0.here hx rfl (hb hby d_jdk_52_method_83_0) rfl kq)
  have K1092 : Go p e below s₁ (mkF m 2 #[.val (.ref tb), .val (.int (Int32.ofNat j))] [(.ref tb), (.int (Int32.ofNat j))]) G := fun tq kq => K1091 tq (XS.aloadN X0.here hx rfl (hb hby d_jdk_52_method_83_1) rfl rfl kq)
  obtain ⟨v1093, _, ⟨T1093, L1093, k1093, n1093⟩, -, X1093, ⟨Lc1093, hQ1093, l1093, y1093, z1093⟩, st1093⟩ := Jvm.LawKit.callS X0 hx (y := (⟨"java/lang/StringUTF16", "checkIndex", "(I[B)V"⟩ : MethodName)) hown (mvT hZ (hW 102 _ rfl)) (mvT hZ (hW 103 _ rfl)) (mvT hZ (hW 47 _ rfl)) (mvT hZ (hW 104 _ rfl)) (by decide) (backOf (W := 0) (rmUI l Z a0 hw [] (Int32.ofNat j) tb kb (Int32.ofNat (2 * cs.length)) (StrChars.Road.wideBytes cs) fm h0 n0 Z0 O0 S_fm rfm V_tb (own_nn j (by omega)) (by rw [StrChars.shr1 (by omega)]; exact own_lt _ _ hj (by omega))) hZ (hW 104 _ rfl) (hW 47 _ rfl) (by decide) (by decide)) (g := (mkF m 2 #[.val (.ref tb), .val (.int (Int32.ofNat j))] [(.ref tb), (.int (Int32.ofNat j))])) rfl (by rw [hml]; rfl) (argsL := [(.int (Int32.ofNat j)), (.ref tb)]) (rest := []) (lenOf pd_374 rfl) rfl (by show 2 * 0 + _ ≤ _; exact Nat.le_of_eq rfl) (hb hby d_jdk_52_method_83_2) (fun _ _ => ⟨rfl, e0, (by decide : 0 + 0 ≤ _), (by decide : 0 + 0 ≤ _)⟩)
  dsimp only [Pt.U, Pt.locs, Pt.cells, Pt.slots] at X1093 l1093 y1093 z1093 st1093 hQ1093
  subst l1093 y1093 z1093
  obtain ⟨rfl, N1093q, E1093q⟩ := hQ1093
  have N1093 := Fr.app N0 N1093q
  have K1094 : Go p e below T1093 (mkF m 5 #[.val (.ref tb), .val (.int (Int32.ofNat j))] []) G := fun tq kq => K1092 tq (st1093 tq kq)
  have K1095 : Go p e below T1093 (mkF m 6 #[.val (.ref tb), .val (.int (Int32.ofNat j))] [(.ref tb)]) G := fun tq kq => K1094 tq (XS.aloadN X1093.here hx rfl (hb hby d_jdk_52_method_83_5) rfl rfl kq)
  have K1096 : Go p e below T1093 (mkF m 7 #[.val (.ref tb), .val (.int (Int32.ofNat j))] [(.int (Int32.ofNat j)), (.ref tb)]) G := fun tq kq => K1095 tq (XS.iloadN X1093.here hx rfl (hb hby d_jdk_52_method_83_6) rfl kq)
  obtain ⟨v1097, _, ⟨T1097, L1097, k1097, n1097⟩, -, X1097, ⟨Lc1097, hQ1097, l1097, y1097, z1097⟩, st1097⟩ := Jvm.LawKit.callS X1093 hx (y := (⟨"java/lang/StringUTF16", "getChar", "([BI)C"⟩ : MethodName)) hown (mvT hZ (hW 96 _ rfl)) (mvT hZ (hW 97 _ rfl)) (mvT hZ (hW 47 _ rfl)) (mvT hZ (hW 98 _ rfl)) (by decide) (backOf (W := 0) (rmGC l Z a0 hw [] tb kb (Int32.ofNat (2 * cs.length)) (StrChars.Road.wideBytes cs) (Int32.ofNat j) j (cs.getD j 0) h0 n0 Z0 O0 S_ad S_hi S_lo V_tb (own_ixn j cs.length hj hl) (StrChars.Road.wide_lo _ cs j hj) (StrChars.Road.wide_hi _ cs j hj) (own_getR hb5 j hj)) hZ (hW 98 _ rfl) (hW 47 _ rfl) (by decide) (by decide)) (g := (mkF m 7 #[.val (.ref tb), .val (.int (Int32.ofNat j))] [(.int (Int32.ofNat j)), (.ref tb)])) rfl (by rw [hml]; rfl) (argsL := [(.ref tb), (.int (Int32.ofNat j))]) (rest := []) (lenOf pd_157 rfl) rfl (by show 2 * 0 + _ ≤ _; exact Nat.le_of_eq rfl) (hb hby d_jdk_52_method_83_7) (fun _ _ => ⟨rfl, E1093q, (by decide : 0 + 0 ≤ _), (by decide : 0 + 0 ≤ _)⟩)
  dsimp only [Pt.U, Pt.locs, Pt.cells, Pt.slots] at X1097 l1097 y1097 z1097 st1097 hQ1097
  subst l1097 y1097 z1097
  obtain ⟨rfl, N1097q, E1097q⟩ := hQ1097
  have N1097 := Fr.app N1093 N1097q
  have K1098 : Go p e below T1097 (mkF m 10 #[.val (.ref tb), .val (.int (Int32.ofNat j))] [(.int (cs.getD j 0))]) G := fun tq kq => K1096 tq (st1097 tq kq)
  obtain ⟨fs, hr, hrun, hended, hWW, hsame⟩ := X1097.leave (v := some (.int (nar .char (cs.getD j 0)))) (fun h => by rw [Bd.returns] at h; cases h)
  refine ⟨_, _, hG _ (K1098 _ (retN X1097 hx (t := .char) Bd.returns (by simp) (hb hby d_jdk_52_method_83_10) hr)), hrun, hended, _, _, rfl, ?_, ⟨_, rfl⟩, hWW, hsame.mono (by decide) (by decide)⟩
  show QUA Z tb kb cs j fm h0 n0 _ T1097.heap _
  rw [E1097q]
  exact ⟨congrArg (fun z => some (Value.int z)) (own_nch (own_getR hb5 j hj)), N1097, rfl⟩
theorem ef_jdk_42_method_154_R (m : MethodId) (x0 : Addr) : entryFrame m #[(.ref x0)] 1 = mkF m 0 #[.val (.ref x0)] [] := by first | (simp [entryFrame, mkF, argsToLocals, Value.category]; done) | rfl
theorem d_jdk_42_method_154_0 : decode jdk_42_method_154_code 0 = .ok (.getstatic 38, 3) := by decide +kernel
theorem d_jdk_42_method_154_3 : decode jdk_42_method_154_code 3 = .ok (.ifCond .eq 14, 3) := by decide +kernel
theorem d_jdk_42_method_154_6 : decode jdk_42_method_154_code 6 = .ok (.aload_n 0, 1) := by decide +kernel
theorem d_jdk_42_method_154_7 : decode jdk_42_method_154_code 7 = .ok (.getfield 15, 3) := by decide +kernel
theorem d_jdk_42_method_154_10 : decode jdk_42_method_154_code 10 = .ok (.ifCond .ne 7, 3) := by decide +kernel
theorem d_jdk_42_method_154_17 : decode jdk_42_method_154_code 17 = .ok (.iconst 0, 1) := by decide +kernel
theorem d_jdk_42_method_154_18 : decode jdk_42_method_154_code 18 = .ok (.ireturn, 1) := by decide +kernel
def QIL (Z : State) (a : Addr) (cz : Int32) (h0 : Heap) (n0 : Nat) (v : Option Value) (h : Heap) (L : List Loc) : Prop := v = some (.int (0 : Int32)) ∧ Fr n0 L ∧ h = h0
set_option maxRecDepth 65536 in
set_option maxHeartbeats 40000000 in
theorem rmIL (l : Launch) (Z : State) (a0 : Array Value) (hw : ∀ d ∈ tables_1, d.before a0 Z = true) (ws : List Jvm.Cond) (a : Addr) (cz : Int32) (h0 : Heap) (n0 : Nat) (Z0 : n0 ≤ h0.size) (O0 : Old Z n0 h0) (S_cs : Sta Z Z.heap "java/lang/String" "COMPACT_STRINGS" "Z" (.int cz)) (hcz : ¬ cz = 0) (F_coder_a : Fld Z h0 a "java/lang/String" "coder" "B" (.int (1 : Int32))) :
    MetFree l (⟨"java/lang/String", "isLatin1", "()Z"⟩ : MethodName) (head1 (Jvm.Cond.code (⟨"java/lang/String", "isLatin1", "()Z"⟩ : MethodName) jdk_42_method_154_code 1 (some .boolean) :: ws) ({ frames := 0, cells := 0, slots := 0, locals := 0 } : Room)) (fun aa UU => aa = #[(.ref a)] ∧ Z.Warmed39 UU.vm ∧ UU.heap = h0) (fun _ _ _ _ _ => True) (fun _ UU oo UU' => ∃ vv LL, oo = .returned vv ∧ QIL Z a cz h0 n0 vv UU'.heap LL ∧ FrameEnd UU oo UU' LL ({ frames := 0, cells := 0, slots := 0, locals := 0 } : Room).cells ({ frames := 0, cells := 0, slots := 0, locals := 0 } : Room).slots) := by
  refine MetFree.of_bodySF (plainFor_of_name pn_0) hisR ?_
  intro p e s m args below meth c s₁ Bd hml0 hP hK
  obtain ⟨rfl, hZ, hh⟩ := hP
  have hx := Bd.exec
  have hby := Bd.bytes
  have hml : c.maxLocals = 1 := hml0
  have hown : s.vm.findClass "java/lang/String" = some m.cls := findClass_of_methodNamed Bd.named
  have hnm := (name_of_methodNamed Bd.named Bd.method).1
  have hW : ∀ (k : Nat) (d : Jvm.Cond), tables_1[k]? = some d → d.before a0 Z = true := fun k d h => hw d (List.mem_of_getElem? h)
  have X0 : Stand p l e ({ frames := 0, cells := 0, slots := 0, locals := 0 } : Room) s m #[(.ref a)] below meth c s₁ [] 0 0 := Stand.of_body Bd
  have e0 : s₁.heap = h0 := by rw [← hh, Bd.state]; rfl
  have N0 := Fr.nil n0
  obtain ⟨G, hG, K0⟩ : ∃ G : State → Prop, (∀ tq, G tq → Steps p.tables e below (s₁.setTop (entryFrame m #[(.ref a)] 1)) tq) ∧ Go p e below s₁ (mkF m 0 #[.val (.ref a)] []) G := ⟨fun tq => Steps p.tables e below (s₁.setTop (entryFrame m #[(.ref a)] 1)) tq, fun _ h => h, fun tq kq => castTop (ef_jdk_42_method_154_R m a) kq⟩
  obtain ⟨T1099, X1099, e1099, st1099⟩ := getS2 X0 hx hZ hown (host := "") (Or.inl (hW 44 _ rfl)) Via.refl e0 (S_cs.ext O0.2) (g := (mkF m 0 #[.val (.ref a)] [])) rfl (hb hby d_jdk_42_method_154_0)
  have K1100 : Go p e below T1099 (mkF m 3 #[.val (.ref a)] [(.int cz)]) G := fun tq kq => K0 tq (st1099 tq kq)
  have K1101 : Go p e below T1099 (mkF m 6 #[.val (.ref a)] []) G := fun tq kq => K1100 tq (XS.ifNo X1099.here hx rfl (hb hby d_jdk_42_method_154_3) rfl ((if0 _ _).trans (feq hcz).1) kq)
  have K1102 : Go p e below T1099 (mkF m 7 #[.val (.ref a)] [(.ref a)]) G := fun tq kq => K1101 tq (XS.aloadN X1099.here hx rfl (hb hby d_jdk_42_method_154_6) rfl rfl kq)
  obtain ⟨T1103, X1103, e1103, st1103⟩ := getF X1099 hx hZ hown (host := "") (Or.inl (hW 29 _ rfl)) Via.refl e1099 F_coder_a (g := (mkF m 7 #[.val (.ref a)] [(.ref a)])) rfl rfl (hb hby d_jdk_42_method_154_7)
  have K1104 : Go p e below T1103 (mkF m 10 #[.val (.ref a)] [(.int (1 : Int32))]) G := fun tq kq => K1102 tq (st1103 tq kq)
  have K1105 : Go p e below T1103 (mkF m 17 #[.val (.ref a)] []) G := fun tq kq => K1104 tq (XS.ifYes X1103.here hx rfl (pc0 := 10) (pc' := 17) rfl (hb hby d_jdk_42_method_154_10) rfl ((if0 _ _).trans (feq (by decide : ¬ ((1 : Int32) = (0 : Int32)))).2) (by decide) (by decide) kq)
  have K1106 : Go p e below T1103 (mkF m 18 #[.val (.ref a)] [(.int (0 : Int32))]) G := fun tq kq => K1105 tq (XS.iconst X1103.here hx rfl (hb hby d_jdk_42_method_154_17) kq)
  obtain ⟨fs, hr, hrun, hended, hWW, hsame⟩ := X1103.leave (v := some (.int (0 : Int32))) (fun h => by rw [Bd.returns] at h; cases h)
  refine ⟨_, _, hG _ (K1106 _ (retN X1103 hx (t := .boolean) Bd.returns (by simp) (hb hby d_jdk_42_method_154_18) hr)), hrun, hended, _, _, rfl, ?_, ⟨_, rfl⟩, hWW, hsame.mono (by decide) (by decide)⟩
  show QIL Z a cz h0 n0 _ T1103.heap _
  rw [e1103]
  exact ⟨rfl, N0, rfl⟩
theorem ef_jdk_42_method_56_RI (m : MethodId) (x0 : Addr) (x1 : Int32) : entryFrame m #[(.ref x0), (.int x1)] 2 = mkF m 0 #[.val (.ref x0), .val (.int x1)] [] := by first | (simp [entryFrame, mkF, argsToLocals, Value.category]; done) | rfl
theorem pd_391 : parseMethodDescriptor "()Z" = some ⟨[], some .boolean⟩ := by decide +kernel
theorem d_jdk_42_method_56_0 : decode jdk_42_method_56_code 0 = .ok (.aload_n 0, 1) := by decide +kernel
theorem d_jdk_42_method_56_1 : decode jdk_42_method_56_code 1 = .ok (.invokevirtual 492, 3) := by decide +kernel
theorem d_jdk_42_method_56_4 : decode jdk_42_method_56_code 4 = .ok (.ifCond .eq 12, 3) := by decide +kernel
theorem d_jdk_42_method_56_16 : decode jdk_42_method_56_code 16 = .ok (.aload_n 0, 1) := by decide +kernel
theorem d_jdk_42_method_56_17 : decode jdk_42_method_56_code 17 = .ok (.getfield 9, 3) := by decide +kernel
theorem d_jdk_42_method_56_20 : decode jdk_42_method_56_code 20 = .ok (.iload_n 1, 1) := by decide +kernel
theorem d_jdk_42_method_56_21 : decode jdk_42_method_56_code 21 = .ok (.invokestatic 498, 3) := by decide +kernel
theorem d_jdk_42_method_56_24 : decode jdk_42_method_56_code 24 = .ok (.ireturn, 1) := by decide +kernel
def QCA (Z : State) (a : Addr) (tb : Addr) (kb : ClassId) (cs : List Int32) (j : Nat) (cz : Int32) (fm : Value) (h0 : Heap) (n0 : Nat) (v : Option Value) (h : Heap) (L : List Loc) : Prop := v = some (.int (cs.getD j 0)) ∧ Fr n0 L ∧ h = h0
set_option maxRecDepth 65536 in
set_option maxHeartbeats 40000000 in
theorem rmCA (l : Launch) (Z : State) (a0 : Array Value) (hw : ∀ d ∈ tables_1, d.before a0 Z = true) (ws : List Jvm.Cond) (a : Addr) (tb : Addr) (kb : ClassId) (cs : List Int32) (j : Nat) (cz : Int32) (fm : Value) (h0 : Heap) (n0 : Nat) (Z0 : n0 ≤ h0.size) (O0 : Old Z n0 h0) (S_cs : Sta Z Z.heap "java/lang/String" "COMPACT_STRINGS" "Z" (.int cz)) (hcz : ¬ cz = 0) (S_ad : Sta Z Z.heap "java/lang/StringUTF16" "$assertionsDisabled" "Z" (.int (1 : Int32))) (S_hi : Sta Z Z.heap "java/lang/StringUTF16" "HI_BYTE_SHIFT" "I" (.int (0 : Int32))) (S_lo : Sta Z Z.heap "java/lang/StringUTF16" "LO_BYTE_SHIFT" "I" (.int (8 : Int32))) (S_fm : Sta Z Z.heap "jdk/internal/util/Preconditions" "SIOOBE_FORMATTER" "Ljava/util/function/BiFunction;" fm) (rfm : fm.isRef = true) (E_a : Exa Z h0 a "java/lang/String") (F_value_a : Fld Z h0 a "java/lang/String" "value" "[B" (.ref tb)) (F_coder_a : Fld Z h0 a "java/lang/String" "coder" "B" (.int (1 : Int32))) (V_tb : Arv Z h0 tb kb .byte (Int32.ofNat (2 * cs.length)) (StrChars.Road.wideBytes cs) (.int (0 : Int32))) (hb5 : ∀ c ∈ cs, ¬ c < 0 ∧ ¬ (65535 : Int32) < c) (hl : cs.length ≤ 4) (hj : j < cs.length) :
    MetFree l (⟨"java/lang/String", "charAt", "(I)C"⟩ : MethodName) (head1 (Jvm.Cond.code (⟨"java/lang/String", "charAt", "(I)C"⟩ : MethodName) jdk_42_method_56_code 2 (some .char) :: ws) ({ frames := 4, cells := 0, slots := 0, locals := 53 } : Room)) (fun aa UU => aa = #[(.ref a), (.int (Int32.ofNat j))] ∧ Z.Warmed39 UU.vm ∧ UU.heap = h0) (fun _ _ _ _ _ => True) (fun _ UU oo UU' => ∃ vv LL, oo = .returned vv ∧ QCA Z a tb kb cs j cz fm h0 n0 vv UU'.heap LL ∧ FrameEnd UU oo UU' LL ({ frames := 4, cells := 0, slots := 0, locals := 53 } : Room).cells ({ frames := 4, cells := 0, slots := 0, locals := 53 } : Room).slots) := by
  refine MetFree.of_bodySF (plainFor_of_name pn_0) hisR ?_
  intro p e s m args below meth c s₁ Bd hml0 hP hK
  obtain ⟨rfl, hZ, hh⟩ := hP
  have hx := Bd.exec
  have hby := Bd.bytes
  have hml : c.maxLocals = 2 := hml0
  have hown : s.vm.findClass "java/lang/String" = some m.cls := findClass_of_methodNamed Bd.named
  have hnm := (name_of_methodNamed Bd.named Bd.method).1
  have hW : ∀ (k : Nat) (d : Jvm.Cond), tables_1[k]? = some d → d.before a0 Z = true := fun k d h => hw d (List.mem_of_getElem? h)
  have X0 : Stand p l e ({ frames := 4, cells := 0, slots := 0, locals := 53 } : Room) s m #[(.ref a), (.int (Int32.ofNat j))] below meth c s₁ [] 0 0 := Stand.of_body Bd
  have e0 : s₁.heap = h0 := by rw [← hh, Bd.state]; rfl
  have N0 := Fr.nil n0
  obtain ⟨G, hG, K0⟩ : ∃ G : State → Prop, (∀ tq, G tq → Steps p.tables e below (s₁.setTop (entryFrame m #[(.ref a), (.int (Int32.ofNat j))] 2)) tq) ∧ Go p e below s₁ (mkF m 0 #[.val (.ref a), .val (.int (Int32.ofNat j))] []) G := ⟨fun tq => Steps p.tables e below (s₁.setTop (entryFrame m #[(.ref a), (.int (Int32.ofNat j))] 2)) tq, fun _ h => h, fun tq kq => castTop (ef_jdk_42_method_56_RI m a (Int32.ofNat j)) kq⟩
  have K1107 : Go p e below s₁ (mkF m 1 #[.val (.ref a), .val (.int (Int32.ofNat j))] [(.ref a)]) G := fun tq kq => K0 tq (XS.aloadN X0.here hx rfl (hb hby d_jdk_42_method_56_0) rfl rfl kq)
  obtain ⟨cq1108, kq1108, q1108a, q1108b, q1108c⟩ := isOf hZ e0 E_a
  obtain ⟨v1108, _, ⟨T1108, L1108, k1108, n1108⟩, -, X1108, ⟨Lc1108, hQ1108, l1108, y1108, z1108⟩, st1108⟩ := X0.virtualBack hx (y := (⟨"java/lang/String", "isLatin1", "()Z"⟩ : MethodName)) (z := (⟨"java/lang/String", "isLatin1", "()Z"⟩ : MethodName)) hown (mvT hZ (hW 63 _ rfl)) (mvT hZ (hW 64 _ rfl)) (notFace_of_selects (args := #[]) (mvT hZ (hW 66 _ rfl))) (mvT hZ (hW 66 _ rfl)) (mvT hZ (hW 65 _ rfl)) (by decide) (backOf (W := 0) (rmIL l Z a0 hw [] a cz h0 n0 Z0 O0 S_cs hcz F_coder_a) hZ (hW 67 _ rfl) (hW 10 _ rfl) (by decide) (by decide)) q1108a q1108c (g := (mkF m 1 #[.val (.ref a), .val (.int (Int32.ofNat j))] [(.ref a)])) rfl (by rw [hml]; rfl) (Steps.refl _) (argsL := []) (rest := []) (lenOf pd_391 rfl) rfl (by show 2 * 0 + _ ≤ _; exact Nat.le_of_eq rfl) (hb hby d_jdk_42_method_56_1) (fun _ _ => ⟨rfl, e0, (by decide : 0 + 0 ≤ _), (by decide : 0 + 0 ≤ _)⟩)
  dsimp only [Pt.U, Pt.locs, Pt.cells, Pt.slots] at X1108 l1108 y1108 z1108 st1108 hQ1108
  subst l1108 y1108 z1108
  obtain ⟨rfl, N1108q, E1108q⟩ := hQ1108
  have N1108 := Fr.app N0 N1108q
  have K1109 : Go p e below T1108 (mkF m 4 #[.val (.ref a), .val (.int (Int32.ofNat j))] [(.int (0 : Int32))]) G := fun tq kq => K1107 tq (st1108.trans kq)
  have K1110 : Go p e below T1108 (mkF m 16 #[.val (.ref a), .val (.int (Int32.ofNat j))] []) G := fun tq kq => K1109 tq (XS.ifYes X1108.here hx rfl (pc0 := 4) (pc' := 16) rfl (hb hby d_jdk_42_method_56_4) rfl ((if0 _ _).trans (teq (by decide : (0 : Int32) = (0 : Int32))).1) (by decide) (by decide) kq)
  have K1111 : Go p e below T1108 (mkF m 17 #[.val (.ref a), .val (.int (Int32.ofNat j))] [(.ref a)]) G := fun tq kq => K1110 tq (XS.aloadN X1108.here hx rfl (hb hby d_jdk_42_method_56_16) rfl rfl kq)
  obtain ⟨T1112, X1112, e1112, st1112⟩ := getF X1108 hx hZ hown (host := "") (Or.inl (hW 28 _ rfl)) Via.refl E1108q F_value_a (g := (mkF m 17 #[.val (.ref a), .val (.int (Int32.ofNat j))] [(.ref a)])) rfl rfl (hb hby d_jdk_42_method_56_17)
  have K1113 : Go p e below T1112 (mkF m 20 #[.val (.ref a), .val (.int (Int32.ofNat j))] [(.ref tb)]) G := fun tq kq => K1111 tq (st1112 tq kq)
  have K1114 : Go p e below T1112 (mkF m 21 #[.val (.ref a), .val (.int (Int32.ofNat j))] [(.int (Int32.ofNat j)), (.ref tb)]) G := fun tq kq => K1113 tq (XS.iloadN X1112.here hx rfl (hb hby d_jdk_42_method_56_20) rfl kq)
  obtain ⟨v1115, _, ⟨T1115, L1115, k1115, n1115⟩, -, X1115, ⟨Lc1115, hQ1115, l1115, y1115, z1115⟩, st1115⟩ := Jvm.LawKit.callS X1112 hx (y := (⟨"java/lang/StringUTF16", "charAt", "([BI)C"⟩ : MethodName)) hown (mvT hZ (hW 99 _ rfl)) (mvT hZ (hW 100 _ rfl)) (mvT hZ (hW 47 _ rfl)) (mvT hZ (hW 101 _ rfl)) (by decide) (backOf (W := 0) (rmUA l Z a0 hw [] tb kb cs j fm h0 n0 Z0 O0 S_ad S_hi S_lo S_fm rfm V_tb hb5 hl hj) hZ (hW 101 _ rfl) (hW 47 _ rfl) (by decide) (by decide)) (g := (mkF m 21 #[.val (.ref a), .val (.int (Int32.ofNat j))] [(.int (Int32.ofNat j)), (.ref tb)])) rfl (by rw [hml]; rfl) (argsL := [(.ref tb), (.int (Int32.ofNat j))]) (rest := []) (lenOf pd_157 rfl) rfl (by show 2 * 0 + _ ≤ _; exact Nat.le_of_eq rfl) (hb hby d_jdk_42_method_56_21) (fun _ _ => ⟨rfl, e1112, (by decide : 0 + 0 ≤ _), (by decide : 0 + 0 ≤ _)⟩)
  dsimp only [Pt.U, Pt.locs, Pt.cells, Pt.slots] at X1115 l1115 y1115 z1115 st1115 hQ1115
  subst l1115 y1115 z1115
  obtain ⟨rfl, N1115q, E1115q⟩ := hQ1115
  have N1115 := Fr.app N1108 N1115q
  have K1116 : Go p e below T1115 (mkF m 24 #[.val (.ref a), .val (.int (Int32.ofNat j))] [(.int (cs.getD j 0))]) G := fun tq kq => K1114 tq (st1115 tq kq)
  obtain ⟨fs, hr, hrun, hended, hWW, hsame⟩ := X1115.leave (v := some (.int (nar .char (cs.getD j 0)))) (fun h => by rw [Bd.returns] at h; cases h)
  refine ⟨_, _, hG _ (K1116 _ (retN X1115 hx (t := .char) Bd.returns (by simp) (hb hby d_jdk_42_method_56_24) hr)), hrun, hended, _, _, rfl, ?_, ⟨_, rfl⟩, hWW, hsame.mono (by decide) (by decide)⟩
  show QCA Z a tb kb cs j cz fm h0 n0 _ T1115.heap _
  rw [E1115q]
  exact ⟨congrArg (fun z => some (Value.int z)) (own_nch (own_getR hb5 j hj)), N1115, rfl⟩
def own_run : List Int32 → Nat
  | [] => 0
  | c :: r => if ¬ (c < (48 : Int32)) ∧ ¬ ((57 : Int32) < c) then own_run r + 1 else 0
theorem own_cd {cs : List Int32} {cd N2 : Int32} {vs : List Value} (h : StrChars.Road.CodA cs cd N2 vs) : cd = 0 ∨ cd = 1 := h.imp (fun q => q.1) (fun q => q.1)
theorem own_w {cs : List Int32} {N2 : Int32} {vs : List Value} (h : StrChars.Road.CodA cs 1 N2 vs) : N2 = Int32.ofNat (2 * cs.length) ∧ vs = StrChars.Road.wideBytes cs := by
  rcases h with ⟨q, -⟩ | ⟨-, q1, q2, -⟩
  · exact absurd q (by decide)
  · exact ⟨q1, q2⟩
theorem pn_400 : plainName "com/example/tallyrule/tallyrule/Decimals" = true := by first | (simp [plainName, overriddenIn]; done) | decide +kernel
theorem ef_prog_5_method_6_RI (m : MethodId) (x0 : Addr) (x1 : Int32) : entryFrame m #[(.ref x0), (.int x1)] 3 = mkF m 0 #[.val (.ref x0), .val (.int x1), .unset] [] := by first | (simp [entryFrame, mkF, argsToLocals, Value.category]; done) | rfl
theorem pd_402 : parseMethodDescriptor "()I" = some ⟨[], some .int⟩ := by decide +kernel
theorem pd_403 : parseMethodDescriptor "(I)C" = some ⟨[.int], some .char⟩ := by decide +kernel
theorem d_prog_5_method_6_0 : decode prog_5_method_6_code 0 = .ok (.iload_n 1, 1) := by decide +kernel
theorem d_prog_5_method_6_1 : decode prog_5_method_6_code 1 = .ok (.istore_n 2, 1) := by decide +kernel
theorem d_prog_5_method_6_2 : decode prog_5_method_6_code 2 = .ok (.iload_n 2, 1) := by decide +kernel
theorem d_prog_5_method_6_3 : decode prog_5_method_6_code 3 = .ok (.aload_n 0, 1) := by decide +kernel
theorem d_prog_5_method_6_4 : decode prog_5_method_6_code 4 = .ok (.invokevirtual 21, 3) := by decide +kernel
theorem d_prog_5_method_6_7 : decode prog_5_method_6_code 7 = .ok (.if_icmp .ge 29, 3) := by decide +kernel
theorem d_prog_5_method_6_10 : decode prog_5_method_6_code 10 = .ok (.aload_n 0, 1) := by decide +kernel
theorem d_prog_5_method_6_11 : decode prog_5_method_6_code 11 = .ok (.iload_n 2, 1) := by decide +kernel
theorem d_prog_5_method_6_12 : decode prog_5_method_6_code 12 = .ok (.invokevirtual 25, 3) := by decide +kernel
theorem d_prog_5_method_6_15 : decode prog_5_method_6_code 15 = .ok (.bipush 48, 2) := by decide +kernel
theorem d_prog_5_method_6_17 : decode prog_5_method_6_code 17 = .ok (.if_icmp .lt 19, 3) := by decide +kernel
theorem d_prog_5_method_6_20 : decode prog_5_method_6_code 20 = .ok (.aload_n 0, 1) := by decide +kernel
theorem d_prog_5_method_6_21 : decode prog_5_method_6_code 21 = .ok (.iload_n 2, 1) := by decide +kernel
theorem d_prog_5_method_6_22 : decode prog_5_method_6_code 22 = .ok (.invokevirtual 25, 3) := by decide +kernel
theorem d_prog_5_method_6_25 : decode prog_5_method_6_code 25 = .ok (.bipush 57, 2) := by decide +kernel
theorem d_prog_5_method_6_27 : decode prog_5_method_6_code 27 = .ok (.if_icmp .gt 9, 3) := by decide +kernel
theorem d_prog_5_method_6_30 : decode prog_5_method_6_code 30 = .ok (.iinc 2 1, 3) := by decide +kernel
theorem d_prog_5_method_6_33 : decode prog_5_method_6_code 33 = .ok (.goto (-31), 3) := by decide +kernel
theorem d_prog_5_method_6_36 : decode prog_5_method_6_code 36 = .ok (.iload_n 2, 1) := by decide +kernel
theorem d_prog_5_method_6_37 : decode prog_5_method_6_code 37 = .ok (.ireturn, 1) := by decide +kernel
def QDF0 (Z : State) (a : Addr) (kk : Nat) (tb : Addr) (kb : ClassId) (N2 : Int32) (vs : List Value) (cs : List Int32) (cz : Int32) (fm : Value) (h0 : Heap) (n0 : Nat) (v : Option Value) (h : Heap) (L : List Loc) : Prop := v = some (.int (Int32.ofNat (kk + own_run (cs.drop kk)))) ∧ Fr n0 L ∧ h = h0
set_option maxRecDepth 65536 in
set_option maxHeartbeats 40000000 in
theorem rmDF0 (l : Launch) (Z : State) (a0 : Array Value) (hw : ∀ d ∈ tables_1, d.before a0 Z = true) (ws : List Jvm.Cond) (a : Addr) (kk : Nat) (tb : Addr) (kb : ClassId) (N2 : Int32) (vs : List Value) (cs : List Int32) (cz : Int32) (fm : Value) (h0 : Heap) (n0 : Nat) (Z0 : n0 ≤ h0.size) (O0 : Old Z n0 h0) (S_cs : Sta Z Z.heap "java/lang/String" "COMPACT_STRINGS" "Z" (.int cz)) (hcz : ¬ cz = 0) (S_ad : Sta Z Z.heap "java/lang/StringUTF16" "$assertionsDisabled" "Z" (.int (1 : Int32))) (S_hi : Sta Z Z.heap "java/lang/StringUTF16" "HI_BYTE_SHIFT" "I" (.int (0 : Int32))) (S_lo : Sta Z Z.heap "java/lang/StringUTF16" "LO_BYTE_SHIFT" "I" (.int (8 : Int32))) (S_fm : Sta Z Z.heap "jdk/internal/util/Preconditions" "SIOOBE_FORMATTER" "Ljava/util/function/BiFunction;" fm) (rfm : fm.isRef = true) (E_a : Exa Z h0 a "java/lang/String") (FV : Fld Z h0 a "java/lang/String" "value" "[B" (.ref tb)) (FC : Fld Z h0 a "java/lang/String" "coder" "B" (.int (0 : Int32))) (AV : Arv Z h0 tb kb .byte N2 vs (.int (0 : Int32))) (CD : StrChars.Road.CodA cs 0 N2 vs) (hb5 : ∀ c ∈ cs, ¬ c < 0 ∧ ¬ (65535 : Int32) < c) (hl : cs.length ≤ 4) (hk : kk ≤ cs.length) :
    MetFree l (⟨"com/example/tallyrule/tallyrule/Decimals", "digitsFrom", "(Ljava/lang/String;I)I"⟩ : MethodName) (head1 (Jvm.Cond.code (⟨"com/example/tallyrule/tallyrule/Decimals", "digitsFrom", "(Ljava/lang/String;I)I"⟩ : MethodName) prog_5_method_6_code 3 (some .int) :: ws) ({ frames := 4, cells := 0, slots := 0, locals := 53 } : Room)) (fun aa UU => aa = #[(.ref a), (.int (Int32.ofNat kk))] ∧ Z.Warmed39 UU.vm ∧ UU.heap = h0) (fun _ _ _ _ _ => True) (fun _ UU oo UU' => ∃ vv LL, oo = .returned vv ∧ QDF0 Z a kk tb kb N2 vs cs cz fm h0 n0 vv UU'.heap LL ∧ FrameEnd UU oo UU' LL ({ frames := 4, cells := 0, slots := 0, locals := 53 } : Room).cells ({ frames := 4, cells := 0, slots := 0, locals := 53 } : Room).slots) := by
  refine MetFree.of_bodySF (plainFor_of_name pn_400) hisR ?_
  intro p e s m args below meth c s₁ Bd hml0 hP hK
  obtain ⟨rfl, hZ, hh⟩ := hP
  have hx := Bd.exec
  have hby := Bd.bytes
  have hml : c.maxLocals = 3 := hml0
  have hown : s.vm.findClass "com/example/tallyrule/tallyrule/Decimals" = some m.cls := findClass_of_methodNamed Bd.named
  have hnm := (name_of_methodNamed Bd.named Bd.method).1
  have hW : ∀ (k : Nat) (d : Jvm.Cond), tables_1[k]? = some d → d.before a0 Z = true := fun k d h => hw d (List.mem_of_getElem? h)
  have X0 : Stand p l e ({ frames := 4, cells := 0, slots := 0, locals := 53 } : Room) s m #[(.ref a), (.int (Int32.ofNat kk))] below meth c s₁ [] 0 0 := Stand.of_body Bd
  have e0 : s₁.heap = h0 := by rw [← hh, Bd.state]; rfl
  have N0 := Fr.nil n0
  obtain ⟨G, hG, K0⟩ : ∃ G : State → Prop, (∀ tq, G tq → Steps p.tables e below (s₁.setTop (entryFrame m #[(.ref a), (.int (Int32.ofNat kk))] 3)) tq) ∧ Go p e below s₁ (mkF m 0 #[.val (.ref a), .val (.int (Int32.ofNat kk)), .unset] []) G := ⟨fun tq => Steps p.tables e below (s₁.setTop (entryFrame m #[(.ref a), (.int (Int32.ofNat kk))] 3)) tq, fun _ h => h, fun tq kq => castTop (ef_prog_5_method_6_RI m a (Int32.ofNat kk)) kq⟩
  have hwl : ∀ d ∈ StrChars.Road.wordsLen, d.before a0 Z = true := fun d hd => hw d ((by decide +kernel : ∀ d ∈ StrChars.Road.wordsLen, d ∈ tables_1) d hd)
  have hwc : ∀ d ∈ StrChars.Road.wordsChN, d.before a0 Z = true := fun d hd => hw d ((by decide +kernel : ∀ d ∈ StrChars.Road.wordsChN, d ∈ tables_1) d hd)
  have hl4 : cs.length ≤ 4000 := Nat.le_trans hl (by decide)
  have K1117 : Go p e below s₁ (mkF m 1 #[.val (.ref a), .val (.int (Int32.ofNat kk)), .unset] [(.int (Int32.ofNat kk))]) G := fun tq kq => K0 tq (XS.iloadN X0.here hx rfl (hb hby d_prog_5_method_6_0) rfl kq)
  have K1118 : Go p e below s₁ (mkF m 2 #[.val (.ref a), .val (.int (Int32.ofNat kk)), .val (.int (Int32.ofNat kk))] []) G := fun tq kq => K1117 tq (XS.istoreN X0.here hx rfl (hb hby d_prog_5_method_6_1) rfl (l' := #[.val (.ref a), .val (.int (Int32.ofNat kk)), .val (.int (Int32.ofNat kk))]) rfl kq)
  have loop : ∀ (r pre : List Int32) (i : Int32) (Tl : State) (Ll : List Loc), cs = pre ++ r → i = Int32.ofNat pre.length → Stand p l e ({ frames := 4, cells := 0, slots := 0, locals := 53 } : Room) s m #[(.ref a), (.int (Int32.ofNat kk))] below meth c Tl Ll 0 0 → Tl.heap = h0 → Fr n0 Ll → Go p e below Tl (mkF m 2 #[.val (.ref a), .val (.int (Int32.ofNat kk)), .val (.int i)] []) G → ∃ (Tx : State) (Lx : List Loc), Stand p l e ({ frames := 4, cells := 0, slots := 0, locals := 53 } : Room) s m #[(.ref a), (.int (Int32.ofNat kk))] below meth c Tx Lx 0 0 ∧ Tx.heap = h0 ∧ Fr n0 Lx ∧ Go p e below Tx (mkF m 36 #[.val (.ref a), .val (.int (Int32.ofNat kk)), .val (.int (Int32.ofNat (pre.length + own_run r)))] []) G := by
    intro r
    induction r with
    | nil =>
      intro pre i Tl Ll hcs hi Xl el Nl Kl
      rw [List.append_nil] at hcs
      have hil : ¬ (i < (Int32.ofNat cs.length)) := by
        rw [hi, hcs]
        simp
      have hgo : Int32.ofNat (pre.length + own_run []) = i := by rw [hi]; rfl
      rw [hgo]
      have K1119 : Go p e below Tl (mkF m 3 #[.val (.ref a), .val (.int (Int32.ofNat kk)), .val (.int i)] [(.int i)]) G := fun tq kq => Kl tq (XS.iloadN Xl.here hx rfl (hb hby d_prog_5_method_6_2) rfl kq)
      have K1120 : Go p e below Tl (mkF m 4 #[.val (.ref a), .val (.int (Int32.ofNat kk)), .val (.int i)] [(.ref a), (.int i)]) G := fun tq kq => K1119 tq (XS.aloadN Xl.here hx rfl (hb hby d_prog_5_method_6_3) rfl rfl kq)
      obtain ⟨cq1121, kq1121, q1121a, q1121b, q1121c⟩ := isOf hZ el E_a
      obtain ⟨v1121, _, ⟨T1121, L1121, k1121, n1121⟩, -, X1121, ⟨Lc1121, hQ1121, l1121, y1121, z1121⟩, st1121⟩ := Xl.virtualBack hx (y := (⟨"java/lang/String", "length", "()I"⟩ : MethodName)) (z := (⟨"java/lang/String", "length", "()I"⟩ : MethodName)) hown (mvT hZ (hW 34 _ rfl)) (mvT hZ (hW 35 _ rfl)) (notFace_of_selects (args := #[]) (mvT hZ (hW 37 _ rfl))) (mvT hZ (hW 37 _ rfl)) (mvT hZ (hW 36 _ rfl)) (by decide) (StrChars.Road.lenW (W := 1) hZ hwl (kI := 4) (hW 9 _ rfl) E_a FV FC AV CD hb5 (S_cs.ext O0.2) hcz hl4 (by decide) (by decide)) q1121a q1121c (g := (mkF m 4 #[.val (.ref a), .val (.int (Int32.ofNat kk)), .val (.int i)] [(.ref a), (.int i)])) rfl (by rw [hml]; rfl) (Steps.refl _) (argsL := []) (rest := [(.int i)]) (lenOf pd_402 rfl) rfl (by show 2 * 0 + _ ≤ _; exact Nat.le_of_eq rfl) (hb hby d_prog_5_method_6_4) (fun _ _ => ⟨rfl, el, (by decide : 0 + 0 ≤ _), (by decide : 0 + 0 ≤ _)⟩)
      dsimp only [Pt.U, Pt.locs, Pt.cells, Pt.slots] at X1121 l1121 y1121 z1121 st1121 hQ1121
      subst l1121 y1121 z1121
      obtain ⟨hv1121, hL1121, E1121q⟩ := hQ1121
      subst hL1121
      obtain rfl := hv1121
      have N1121 := Fr.app Nl (Fr.nil n0)
      have K1122 : Go p e below T1121 (mkF m 7 #[.val (.ref a), .val (.int (Int32.ofNat kk)), .val (.int i)] [(.int (Int32.ofNat cs.length)), (.int i)]) G := fun tq kq => K1120 tq (st1121.trans kq)
      have K1123 : Go p e below T1121 (mkF m 36 #[.val (.ref a), .val (.int (Int32.ofNat kk)), .val (.int i)] []) G := fun tq kq => K1122 tq (XS.icmpYes X1121.here hx rfl (pc0 := 7) (pc' := 36) rfl (hb hby d_prog_5_method_6_7) rfl ((flt hil).2.1) (by decide) (by decide) kq)
      exact ⟨T1121, _, X1121, E1121q, N1121, K1123⟩
    | cons ch r loop =>
      intro pre i Tl Ll hcs hi Xl el Nl Kl
      have hlen : cs.length = pre.length + (r.length + 1) := by rw [hcs]; simp
      have hlt : pre.length < cs.length := by omega
      have hget : cs.getD pre.length 0 = ch := by rw [hcs]; simp
      have hil : i < (Int32.ofNat cs.length) := by rw [hi]; exact own_lt _ _ hlt hl4
      have K1124 : Go p e below Tl (mkF m 3 #[.val (.ref a), .val (.int (Int32.ofNat kk)), .val (.int i)] [(.int i)]) G := fun tq kq => Kl tq (XS.iloadN Xl.here hx rfl (hb hby d_prog_5_method_6_2) rfl kq)
      have K1125 : Go p e below Tl (mkF m 4 #[.val (.ref a), .val (.int (Int32.ofNat kk)), .val (.int i)] [(.ref a), (.int i)]) G := fun tq kq => K1124 tq (XS.aloadN Xl.here hx rfl (hb hby d_prog_5_method_6_3) rfl rfl kq)
      obtain ⟨cq1126, kq1126, q1126a, q1126b, q1126c⟩ := isOf hZ el E_a
      obtain ⟨v1126, _, ⟨T1126, L1126, k1126, n1126⟩, -, X1126, ⟨Lc1126, hQ1126, l1126, y1126, z1126⟩, st1126⟩ := Xl.virtualBack hx (y := (⟨"java/lang/String", "length", "()I"⟩ : MethodName)) (z := (⟨"java/lang/String", "length", "()I"⟩ : MethodName)) hown (mvT hZ (hW 34 _ rfl)) (mvT hZ (hW 35 _ rfl)) (notFace_of_selects (args := #[]) (mvT hZ (hW 37 _ rfl))) (mvT hZ (hW 37 _ rfl)) (mvT hZ (hW 36 _ rfl)) (by decide) (StrChars.Road.lenW (W := 1) hZ hwl (kI := 4) (hW 9 _ rfl) E_a FV FC AV CD hb5 (S_cs.ext O0.2) hcz hl4 (by decide) (by decide)) q1126a q1126c (g := (mkF m 4 #[.val (.ref a), .val (.int (Int32.ofNat kk)), .val (.int i)] [(.ref a), (.int i)])) rfl (by rw [hml]; rfl) (Steps.refl _) (argsL := []) (rest := [(.int i)]) (lenOf pd_402 rfl) rfl (by show 2 * 0 + _ ≤ _; exact Nat.le_of_eq rfl) (hb hby d_prog_5_method_6_4) (fun _ _ => ⟨rfl, el, (by decide : 0 + 0 ≤ _), (by decide : 0 + 0 ≤ _)⟩)
      dsimp only [Pt.U, Pt.locs, Pt.cells, Pt.slots] at X1126 l1126 y1126 z1126 st1126 hQ1126
      subst l1126 y1126 z1126
      obtain ⟨hv1126, hL1126, E1126q⟩ := hQ1126
      subst hL1126
      obtain rfl := hv1126
      have N1126 := Fr.app Nl (Fr.nil n0)
      have K1127 : Go p e below T1126 (mkF m 7 #[.val (.ref a), .val (.int (Int32.ofNat kk)), .val (.int i)] [(.int (Int32.ofNat cs.length)), (.int i)]) G := fun tq kq => K1125 tq (st1126.trans kq)
      have K1128 : Go p e below T1126 (mkF m 10 #[.val (.ref a), .val (.int (Int32.ofNat kk)), .val (.int i)] []) G := fun tq kq => K1127 tq (XS.icmpNo X1126.here hx rfl (hb hby d_prog_5_method_6_7) rfl ((tlt hil).2.1) kq)
      have K1129 : Go p e below T1126 (mkF m 11 #[.val (.ref a), .val (.int (Int32.ofNat kk)), .val (.int i)] [(.ref a)]) G := fun tq kq => K1128 tq (XS.aloadN X1126.here hx rfl (hb hby d_prog_5_method_6_10) rfl rfl kq)
      have K1130 : Go p e below T1126 (mkF m 12 #[.val (.ref a), .val (.int (Int32.ofNat kk)), .val (.int i)] [(.int i), (.ref a)]) G := fun tq kq => K1129 tq (XS.iloadN X1126.here hx rfl (hb hby d_prog_5_method_6_11) rfl kq)
      obtain ⟨cq1131, kq1131, q1131a, q1131b, q1131c⟩ := isOf hZ E1126q E_a
      obtain ⟨v1131, _, ⟨T1131, L1131, k1131, n1131⟩, -, X1131, ⟨Lc1131, hQ1131, l1131, y1131, z1131⟩, st1131⟩ := X1126.virtualBack hx (y := (⟨"java/lang/String", "charAt", "(I)C"⟩ : MethodName)) (z := (⟨"java/lang/String", "charAt", "(I)C"⟩ : MethodName)) hown (mvT hZ (hW 58 _ rfl)) (mvT hZ (hW 59 _ rfl)) (notFace_of_selects (args := #[]) (mvT hZ (hW 61 _ rfl))) (mvT hZ (hW 61 _ rfl)) (mvT hZ (hW 60 _ rfl)) (by decide) (StrChars.Road.chN (W := 0) hZ hwc (kI := 4) (hW 9 _ rfl) (i := pre.length) E_a FV FC AV CD hb5 (S_cs.ext O0.2) hcz (S_fm.ext O0.2) rfm hl4 hlt hi (by decide) (by decide)) q1131a q1131c (g := (mkF m 12 #[.val (.ref a), .val (.int (Int32.ofNat kk)), .val (.int i)] [(.int i), (.ref a)])) rfl (by rw [hml]; rfl) (Steps.refl _) (argsL := [(.int i)]) (rest := []) (lenOf pd_403 rfl) rfl (by show 2 * 0 + _ ≤ _; exact Nat.le_of_eq rfl) (hb hby d_prog_5_method_6_12) (fun _ _ => ⟨rfl, E1126q, (by decide : 0 + 0 ≤ _), (by decide : 0 + 0 ≤ _)⟩)
      dsimp only [Pt.U, Pt.locs, Pt.cells, Pt.slots] at X1131 l1131 y1131 z1131 st1131 hQ1131
      subst l1131 y1131 z1131
      obtain ⟨hv1131, hL1131, E1131q⟩ := hQ1131
      subst hL1131
      rw [hget] at hv1131
      obtain rfl := hv1131
      have N1131 := Fr.app N1126 (Fr.nil n0)
      have K1132 : Go p e below T1131 (mkF m 15 #[.val (.ref a), .val (.int (Int32.ofNat kk)), .val (.int i)] [(.int ch)]) G := fun tq kq => K1130 tq (st1131.trans kq)
      have K1133 : Go p e below T1131 (mkF m 17 #[.val (.ref a), .val (.int (Int32.ofNat kk)), .val (.int i)] [(.int (48 : Int32)), (.int ch)]) G := fun tq kq => K1132 tq (XS.bipush X1131.here hx rfl (hb hby d_prog_5_method_6_15) kq)
      by_cases hc1134 : ch < (48 : Int32)
      · skip
        have K1135 : Go p e below T1131 (mkF m 36 #[.val (.ref a), .val (.int (Int32.ofNat kk)), .val (.int i)] []) G := fun tq kq => K1133 tq (XS.icmpYes X1131.here hx rfl (pc0 := 17) (pc' := 36) rfl (hb hby d_prog_5_method_6_17) rfl ((tlt hc1134).1) (by decide) (by decide) kq)
        have hgo : Int32.ofNat (pre.length + own_run (ch :: r)) = i := by rw [own_run, if_neg (fun q => q.1 hc1134), hi]; rfl
        rw [hgo]
        exact ⟨T1131, _, X1131, E1131q, N1131, K1135⟩
      · skip
        have K1136 : Go p e below T1131 (mkF m 20 #[.val (.ref a), .val (.int (Int32.ofNat kk)), .val (.int i)] []) G := fun tq kq => K1133 tq (XS.icmpNo X1131.here hx rfl (hb hby d_prog_5_method_6_17) rfl ((flt hc1134).1) kq)
        have K1137 : Go p e below T1131 (mkF m 21 #[.val (.ref a), .val (.int (Int32.ofNat kk)), .val (.int i)] [(.ref a)]) G := fun tq kq => K1136 tq (XS.aloadN X1131.here hx rfl (hb hby d_prog_5_method_6_20) rfl rfl kq)
        have K1138 : Go p e below T1131 (mkF m 22 #[.val (.ref a), .val (.int (Int32.ofNat kk)), .val (.int i)] [(.int i), (.ref a)]) G := fun tq kq => K1137 tq (XS.iloadN X1131.here hx rfl (hb hby d_prog_5_method_6_21) rfl kq)
        obtain ⟨cq1139, kq1139, q1139a, q1139b, q1139c⟩ := isOf hZ E1131q E_a
        obtain ⟨v1139, _, ⟨T1139, L1139, k1139, n1139⟩, -, X1139, ⟨Lc1139, hQ1139, l1139, y1139, z1139⟩, st1139⟩ := X1131.virtualBack hx (y := (⟨"java/lang/String", "charAt", "(I)C"⟩ : MethodName)) (z := (⟨"java/lang/String", "charAt", "(I)C"⟩ : MethodName)) hown (mvT hZ (hW 58 _ rfl)) (mvT hZ (hW 59 _ rfl)) (notFace_of_selects (args := #[]) (mvT hZ (hW 61 _ rfl))) (mvT hZ (hW 61 _ rfl)) (mvT hZ (hW 60 _ rfl)) (by decide) (StrChars.Road.chN (W := 0) hZ hwc (kI := 4) (hW 9 _ rfl) (i := pre.length) E_a FV FC AV CD hb5 (S_cs.ext O0.2) hcz (S_fm.ext O0.2) rfm hl4 hlt hi (by decide) (by decide)) q1139a q1139c (g := (mkF m 22 #[.val (.ref a), .val (.int (Int32.ofNat kk)), .val (.int i)] [(.int i), (.ref a)])) rfl (by rw [hml]; rfl) (Steps.refl _) (argsL := [(.int i)]) (rest := []) (lenOf pd_403 rfl) rfl (by show 2 * 0 + _ ≤ _; exact Nat.le_of_eq rfl) (hb hby d_prog_5_method_6_22) (fun _ _ => ⟨rfl, E1131q, (by decide : 0 + 0 ≤ _), (by decide : 0 + 0 ≤ _)⟩)
        dsimp only [Pt.U, Pt.locs, Pt.cells, Pt.slots] at X1139 l1139 y1139 z1139 st1139 hQ1139
        subst l1139 y1139 z1139
        obtain ⟨hv1139, hL1139, E1139q⟩ := hQ1139
        subst hL1139
        rw [hget] at hv1139
        obtain rfl := hv1139
        have N1139 := Fr.app N1131 (Fr.nil n0)
        have K1140 : Go p e below T1139 (mkF m 25 #[.val (.ref a), .val (.int (Int32.ofNat kk)), .val (.int i)] [(.int ch)]) G := fun tq kq => K1138 tq (st1139.trans kq)
        have K1141 : Go p e below T1139 (mkF m 27 #[.val (.ref a), .val (.int (Int32.ofNat kk)), .val (.int i)] [(.int (57 : Int32)), (.int ch)]) G := fun tq kq => K1140 tq (XS.bipush X1139.here hx rfl (hb hby d_prog_5_method_6_25) kq)
        by_cases hc1142 : (57 : Int32) < ch
        · skip
          have K1143 : Go p e below T1139 (mkF m 36 #[.val (.ref a), .val (.int (Int32.ofNat kk)), .val (.int i)] []) G := fun tq kq => K1141 tq (XS.icmpYes X1139.here hx rfl (pc0 := 27) (pc' := 36) rfl (hb hby d_prog_5_method_6_27) rfl ((tlt hc1142).2.2.1) (by decide) (by decide) kq)
          have hgo : Int32.ofNat (pre.length + own_run (ch :: r)) = i := by rw [own_run, if_neg (fun q => q.2 hc1142), hi]; rfl
          rw [hgo]
          exact ⟨T1139, _, X1139, E1139q, N1139, K1143⟩
        · skip
          have K1144 : Go p e below T1139 (mkF m 30 #[.val (.ref a), .val (.int (Int32.ofNat kk)), .val (.int i)] []) G := fun tq kq => K1141 tq (XS.icmpNo X1139.here hx rfl (hb hby d_prog_5_method_6_27) rfl ((flt hc1142).2.2.1) kq)
          have K1145 : Go p e below T1139 (mkF m 33 #[.val (.ref a), .val (.int (Int32.ofNat kk)), .val (.int (i + (1 : Int32)))] []) G := fun tq kq => K1144 tq (XS.iinc X1139.here hx rfl (hb hby d_prog_5_method_6_30) rfl (l' := #[.val (.ref a), .val (.int (Int32.ofNat kk)), .val (.int (i + (1 : Int32)))]) rfl kq)
          have K1146 : Go p e below T1139 (mkF m 2 #[.val (.ref a), .val (.int (Int32.ofNat kk)), .val (.int (i + (1 : Int32)))] []) G := fun tq kq => K1145 tq (XS.goto X1139.here hx rfl (pc0 := 33) (pc' := 2) rfl (hb hby d_prog_5_method_6_33) (by decide) (by decide) kq)
          have hgo : Int32.ofNat (pre.length + own_run (ch :: r)) = Int32.ofNat ((pre ++ [ch]).length + own_run r) := by
            rw [own_run, if_pos ⟨hc1134, hc1142⟩]
            exact congrArg Int32.ofNat (by simp; omega)
          rw [hgo]
          exact loop (pre ++ [ch]) _ T1139 _ (by rw [hcs]; simp) (by rw [hi, own_succ _ (by omega)]; exact congrArg Int32.ofNat (by simp)) X1139 E1139q N1139 K1146
  have htk : (cs.take kk).length = kk := by rw [List.length_take]; exact Nat.min_eq_left hk
  obtain ⟨Tx, Lx, Xx, ex, Nx, Kx⟩ := loop (cs.drop kk) (cs.take kk) (Int32.ofNat kk) s₁ _ (List.take_append_drop kk cs).symm (by rw [htk]) X0 e0 N0 K1118
  rw [htk] at Kx
  have K1147 : Go p e below Tx (mkF m 37 #[.val (.ref a), .val (.int (Int32.ofNat kk)), .val (.int (Int32.ofNat (kk + own_run (cs.drop kk))))] [(.int (Int32.ofNat (kk + own_run (cs.drop kk))))]) G := fun tq kq => Kx tq (XS.iloadN Xx.here hx rfl (hb hby d_prog_5_method_6_36) rfl kq)
  obtain ⟨fs, hr, hrun, hended, hWW, hsame⟩ := Xx.leave (v := some (.int (Int32.ofNat (kk + own_run (cs.drop kk))))) (fun h => by rw [Bd.returns] at h; cases h)
  refine ⟨_, _, hG _ (K1147 _ (retOut Xx hx Bd.returns rfl (Or.inl ⟨rfl, Or.inl rfl, _, rfl⟩) (hb hby d_prog_5_method_6_37) hr)), hrun, hended, _, _, rfl, ?_, ⟨_, rfl⟩, hWW, hsame.mono (by decide) (by decide)⟩
  show QDF0 Z a kk tb kb N2 vs cs cz fm h0 n0 _ Tx.heap _
  rw [ex]
  exact ⟨rfl, Nx, rfl⟩

theorem own_CA {l : Launch} {Z : State} {ws : List Jvm.Cond} {a tb : Addr} {kb : ClassId} {cs : List Int32} {j : Nat} {cz : Int32} {fm : Value} {h0 : Heap} {n0 : Nat} {i : Int32} (hi : i = Int32.ofNat j) (q : MetFree l (⟨"java/lang/String", "charAt", "(I)C"⟩ : MethodName) (head1 (Jvm.Cond.code (⟨"java/lang/String", "charAt", "(I)C"⟩ : MethodName) jdk_42_method_56_code 2 (some .char) :: ws) ({ frames := 4, cells := 0, slots := 0, locals := 53 } : Room)) (fun aa UU => aa = #[(.ref a), (.int (Int32.ofNat j))] ∧ Z.Warmed39 UU.vm ∧ UU.heap = h0) (fun _ _ _ _ _ => True) (fun _ UU oo UU' => ∃ vv LL, oo = .returned vv ∧ QCA Z a tb kb cs j cz fm h0 n0 vv UU'.heap LL ∧ FrameEnd UU oo UU' LL ({ frames := 4, cells := 0, slots := 0, locals := 53 } : Room).cells ({ frames := 4, cells := 0, slots := 0, locals := 53 } : Room).slots)) : MetFree l (⟨"java/lang/String", "charAt", "(I)C"⟩ : MethodName) (head1 (Jvm.Cond.code (⟨"java/lang/String", "charAt", "(I)C"⟩ : MethodName) jdk_42_method_56_code 2 (some .char) :: ws) ({ frames := 4, cells := 0, slots := 0, locals := 53 } : Room)) (fun aa UU => aa = #[(.ref a), (.int i)] ∧ Z.Warmed39 UU.vm ∧ UU.heap = h0) (fun _ _ _ _ _ => True) (fun _ UU oo UU' => ∃ vv LL, oo = .returned vv ∧ QCA Z a tb kb cs j cz fm h0 n0 vv UU'.heap LL ∧ FrameEnd UU oo UU' LL ({ frames := 4, cells := 0, slots := 0, locals := 53 } : Room).cells ({ frames := 4, cells := 0, slots := 0, locals := 53 } : Room).slots) := by rw [hi]; exact q
def QDF1 (Z : State) (a : Addr) (kk : Nat) (tb : Addr) (kb : ClassId) (N2 : Int32) (vs : List Value) (cs : List Int32) (cz : Int32) (fm : Value) (h0 : Heap) (n0 : Nat) (v : Option Value) (h : Heap) (L : List Loc) : Prop := v = some (.int (Int32.ofNat (kk + own_run (cs.drop kk)))) ∧ Fr n0 L ∧ h = h0
set_option maxRecDepth 65536 in
set_option maxHeartbeats 40000000 in
theorem rmDF1 (l : Launch) (Z : State) (a0 : Array Value) (hw : ∀ d ∈ tables_1, d.before a0 Z = true) (ws : List Jvm.Cond) (a : Addr) (kk : Nat) (tb : Addr) (kb : ClassId) (N2 : Int32) (vs : List Value) (cs : List Int32) (cz : Int32) (fm : Value) (h0 : Heap) (n0 : Nat) (Z0 : n0 ≤ h0.size) (O0 : Old Z n0 h0) (S_cs : Sta Z Z.heap "java/lang/String" "COMPACT_STRINGS" "Z" (.int cz)) (hcz : ¬ cz = 0) (S_ad : Sta Z Z.heap "java/lang/StringUTF16" "$assertionsDisabled" "Z" (.int (1 : Int32))) (S_hi : Sta Z Z.heap "java/lang/StringUTF16" "HI_BYTE_SHIFT" "I" (.int (0 : Int32))) (S_lo : Sta Z Z.heap "java/lang/StringUTF16" "LO_BYTE_SHIFT" "I" (.int (8 : Int32))) (S_fm : Sta Z Z.heap "jdk/internal/util/Preconditions" "SIOOBE_FORMATTER" "Ljava/util/function/BiFunction;" fm) (rfm : fm.isRef = true) (E_a : Exa Z h0 a "java/lang/String") (FV : Fld Z h0 a "java/lang/String" "value" "[B" (.ref tb)) (FC : Fld Z h0 a "java/lang/String" "coder" "B" (.int (1 : Int32))) (AV : Arv Z h0 tb kb .byte N2 vs (.int (0 : Int32))) (CD : StrChars.Road.CodA cs 1 N2 vs) (hb5 : ∀ c ∈ cs, ¬ c < 0 ∧ ¬ (65535 : Int32) < c) (hl : cs.length ≤ 4) (hk : kk ≤ cs.length) :
    MetFree l (⟨"com/example/tallyrule/tallyrule/Decimals", "digitsFrom", "(Ljava/lang/String;I)I"⟩ : MethodName) (head1 (Jvm.Cond.code (⟨"com/example/tallyrule/tallyrule/Decimals", "digitsFrom", "(Ljava/lang/String;I)I"⟩ : MethodName) prog_5_method_6_code 3 (some .int) :: ws) ({ frames := 5, cells := 0, slots := 0, locals := 66 } : Room)) (fun aa UU => aa = #[(.ref a), (.int (Int32.ofNat kk))] ∧ Z.Warmed39 UU.vm ∧ UU.heap = h0) (fun _ _ _ _ _ => True) (fun _ UU oo UU' => ∃ vv LL, oo = .returned vv ∧ QDF1 Z a kk tb kb N2 vs cs cz fm h0 n0 vv UU'.heap LL ∧ FrameEnd UU oo UU' LL ({ frames := 5, cells := 0, slots := 0, locals := 66 } : Room).cells ({ frames := 5, cells := 0, slots := 0, locals := 66 } : Room).slots) := by
  refine MetFree.of_bodySF (plainFor_of_name pn_400) hisR ?_
  intro p e s m args below meth c s₁ Bd hml0 hP hK
  obtain ⟨rfl, hZ, hh⟩ := hP
  have hx := Bd.exec
  have hby := Bd.bytes
  have hml : c.maxLocals = 3 := hml0
  have hown : s.vm.findClass "com/example/tallyrule/tallyrule/Decimals" = some m.cls := findClass_of_methodNamed Bd.named
  have hnm := (name_of_methodNamed Bd.named Bd.method).1
  have hW : ∀ (k : Nat) (d : Jvm.Cond), tables_1[k]? = some d → d.before a0 Z = true := fun k d h => hw d (List.mem_of_getElem? h)
  have X0 : Stand p l e ({ frames := 5, cells := 0, slots := 0, locals := 66 } : Room) s m #[(.ref a), (.int (Int32.ofNat kk))] below meth c s₁ [] 0 0 := Stand.of_body Bd
  have e0 : s₁.heap = h0 := by rw [← hh, Bd.state]; rfl
  have N0 := Fr.nil n0
  obtain ⟨G, hG, K0⟩ : ∃ G : State → Prop, (∀ tq, G tq → Steps p.tables e below (s₁.setTop (entryFrame m #[(.ref a), (.int (Int32.ofNat kk))] 3)) tq) ∧ Go p e below s₁ (mkF m 0 #[.val (.ref a), .val (.int (Int32.ofNat kk)), .unset] []) G := ⟨fun tq => Steps p.tables e below (s₁.setTop (entryFrame m #[(.ref a), (.int (Int32.ofNat kk))] 3)) tq, fun _ h => h, fun tq kq => castTop (ef_prog_5_method_6_RI m a (Int32.ofNat kk)) kq⟩
  have hwl : ∀ d ∈ StrChars.Road.wordsLen, d.before a0 Z = true := fun d hd => hw d ((by decide +kernel : ∀ d ∈ StrChars.Road.wordsLen, d ∈ tables_1) d hd)
  have hwc : ∀ d ∈ StrChars.Road.wordsChN, d.before a0 Z = true := fun d hd => hw d ((by decide +kernel : ∀ d ∈ StrChars.Road.wordsChN, d ∈ tables_1) d hd)
  have hl4 : cs.length ≤ 4000 := Nat.le_trans hl (by decide)
  have AVw : Arv Z h0 tb kb .byte (Int32.ofNat (2 * cs.length)) (StrChars.Road.wideBytes cs) (.int (0 : Int32)) := by rw [← (own_w CD).1, ← (own_w CD).2]; exact AV
  have K1148 : Go p e below s₁ (mkF m 1 #[.val (.ref a), .val (.int (Int32.ofNat kk)), .unset] [(.int (Int32.ofNat kk))]) G := fun tq kq => K0 tq (XS.iloadN X0.here hx rfl (hb hby d_prog_5_method_6_0) rfl kq)
  have K1149 : Go p e below s₁ (mkF m 2 #[.val (.ref a), .val (.int (Int32.ofNat kk)), .val (.int (Int32.ofNat kk))] []) G := fun tq kq => K1148 tq (XS.istoreN X0.here hx rfl (hb hby d_prog_5_method_6_1) rfl (l' := #[.val (.ref a), .val (.int (Int32.ofNat kk)), .val (.int (Int32.ofNat kk))]) rfl kq)
  have loop : ∀ (r pre : List Int32) (i : Int32) (Tl : State) (Ll : List Loc), cs = pre ++ r → i = Int32.ofNat pre.length → Stand p l e ({ frames := 5, cells := 0, slots := 0, locals := 66 } : Room) s m #[(.ref a), (.int (Int32.ofNat kk))] below meth c Tl Ll 0 0 → Tl.heap = h0 → Fr n0 Ll → Go p e below Tl (mkF m 2 #[.val (.ref a), .val (.int (Int32.ofNat kk)), .val (.int i)] []) G → ∃ (Tx : State) (Lx : List Loc), Stand p l e ({ frames := 5, cells := 0, slots := 0, locals := 66 } : Room) s m #[(.ref a), (.int (Int32.ofNat kk))] below meth c Tx Lx 0 0 ∧ Tx.heap = h0 ∧ Fr n0 Lx ∧ Go p e below Tx (mkF m 36 #[.val (.ref a), .val (.int (Int32.ofNat kk)), .val (.int (Int32.ofNat (pre.length + own_run r)))] []) G := by
    intro r
    induction r with
    | nil =>
      intro pre i Tl Ll hcs hi Xl el Nl Kl
      rw [List.append_nil] at hcs
      have hil : ¬ (i < (Int32.ofNat cs.length)) := by
        rw [hi, hcs]
        simp
      have hgo : Int32.ofNat (pre.length + own_run []) = i := by rw [hi]; rfl
      rw [hgo]
      have K1150 : Go p e below Tl (mkF m 3 #[.val (.ref a), .val (.int (Int32.ofNat kk)), .val (.int i)] [(.int i)]) G := fun tq kq => Kl tq (XS.iloadN Xl.here hx rfl (hb hby d_prog_5_method_6_2) rfl kq)
      have K1151 : Go p e below Tl (mkF m 4 #[.val (.ref a), .val (.int (Int32.ofNat kk)), .val (.int i)] [(.ref a), (.int i)]) G := fun tq kq => K1150 tq (XS.aloadN Xl.here hx rfl (hb hby d_prog_5_method_6_3) rfl rfl kq)
      obtain ⟨cq1152, kq1152, q1152a, q1152b, q1152c⟩ := isOf hZ el E_a
      obtain ⟨v1152, _, ⟨T1152, L1152, k1152, n1152⟩, -, X1152, ⟨Lc1152, hQ1152, l1152, y1152, z1152⟩, st1152⟩ := Xl.virtualBack hx (y := (⟨"java/lang/String", "length", "()I"⟩ : MethodName)) (z := (⟨"java/lang/String", "length", "()I"⟩ : MethodName)) hown (mvT hZ (hW 34 _ rfl)) (mvT hZ (hW 35 _ rfl)) (notFace_of_selects (args := #[]) (mvT hZ (hW 37 _ rfl))) (mvT hZ (hW 37 _ rfl)) (mvT hZ (hW 36 _ rfl)) (by decide) (StrChars.Road.lenW (W := 1) hZ hwl (kI := 4) (hW 9 _ rfl) E_a FV FC AV CD hb5 (S_cs.ext O0.2) hcz hl4 (by decide) (by decide)) q1152a q1152c (g := (mkF m 4 #[.val (.ref a), .val (.int (Int32.ofNat kk)), .val (.int i)] [(.ref a), (.int i)])) rfl (by rw [hml]; rfl) (Steps.refl _) (argsL := []) (rest := [(.int i)]) (lenOf pd_402 rfl) rfl (by show 2 * 0 + _ ≤ _; exact Nat.le_of_eq rfl) (hb hby d_prog_5_method_6_4) (fun _ _ => ⟨rfl, el, (by decide : 0 + 0 ≤ _), (by decide : 0 + 0 ≤ _)⟩)
      dsimp only [Pt.U, Pt.locs, Pt.cells, Pt.slots] at X1152 l1152 y1152 z1152 st1152 hQ1152
      subst l1152 y1152 z1152
      obtain ⟨hv1152, hL1152, E1152q⟩ := hQ1152
      subst hL1152
      obtain rfl := hv1152
      have N1152 := Fr.app Nl (Fr.nil n0)
      have K1153 : Go p e below T1152 (mkF m 7 #[.val (.ref a), .val (.int (Int32.ofNat kk)), .val (.int i)] [(.int (Int32.ofNat cs.length)), (.int i)]) G := fun tq kq => K1151 tq (st1152.trans kq)
      have K1154 : Go p e below T1152 (mkF m 36 #[.val (.ref a), .val (.int (Int32.ofNat kk)), .val (.int i)] []) G := fun tq kq => K1153 tq (XS.icmpYes X1152.here hx rfl (pc0 := 7) (pc' := 36) rfl (hb hby d_prog_5_method_6_7) rfl ((flt hil).2.1) (by decide) (by decide) kq)
      exact ⟨T1152, _, X1152, E1152q, N1152, K1154⟩
    | cons ch r loop =>
      intro pre i Tl Ll hcs hi Xl el Nl Kl
      have hlen : cs.length = pre.length + (r.length + 1) := by rw [hcs]; simp
      have hlt : pre.length < cs.length := by omega
      have hget : cs.getD pre.length 0 = ch := by rw [hcs]; simp
      have hil : i < (Int32.ofNat cs.length) := by rw [hi]; exact own_lt _ _ hlt hl4
      have K1155 : Go p e below Tl (mkF m 3 #[.val (.ref a), .val (.int (Int32.ofNat kk)), .val (.int i)] [(.int i)]) G := fun tq kq => Kl tq (XS.iloadN Xl.here hx rfl (hb hby d_prog_5_method_6_2) rfl kq)
      have K1156 : Go p e below Tl (mkF m 4 #[.val (.ref a), .val (.int (Int32.ofNat kk)), .val (.int i)] [(.ref a), (.int i)]) G := fun tq kq => K1155 tq (XS.aloadN Xl.here hx rfl (hb hby d_prog_5_method_6_3) rfl rfl kq)
      obtain ⟨cq1157, kq1157, q1157a, q1157b, q1157c⟩ := isOf hZ el E_a
      obtain ⟨v1157, _, ⟨T1157, L1157, k1157, n1157⟩, -, X1157, ⟨Lc1157, hQ1157, l1157, y1157, z1157⟩, st1157⟩ := Xl.virtualBack hx (y := (⟨"java/lang/String", "length", "()I"⟩ : MethodName)) (z := (⟨"java/lang/String", "length", "()I"⟩ : MethodName)) hown (mvT hZ (hW 34 _ rfl)) (mvT hZ (hW 35 _ rfl)) (notFace_of_selects (args := #[]) (mvT hZ (hW 37 _ rfl))) (mvT hZ (hW 37 _ rfl)) (mvT hZ (hW 36 _ rfl)) (by decide) (StrChars.Road.lenW (W := 1) hZ hwl (kI := 4) (hW 9 _ rfl) E_a FV FC AV CD hb5 (S_cs.ext O0.2) hcz hl4 (by decide) (by decide)) q1157a q1157c (g := (mkF m 4 #[.val (.ref a), .val (.int (Int32.ofNat kk)), .val (.int i)] [(.ref a), (.int i)])) rfl (by rw [hml]; rfl) (Steps.refl _) (argsL := []) (rest := [(.int i)]) (lenOf pd_402 rfl) rfl (by show 2 * 0 + _ ≤ _; exact Nat.le_of_eq rfl) (hb hby d_prog_5_method_6_4) (fun _ _ => ⟨rfl, el, (by decide : 0 + 0 ≤ _), (by decide : 0 + 0 ≤ _)⟩)
      dsimp only [Pt.U, Pt.locs, Pt.cells, Pt.slots] at X1157 l1157 y1157 z1157 st1157 hQ1157
      subst l1157 y1157 z1157
      obtain ⟨hv1157, hL1157, E1157q⟩ := hQ1157
      subst hL1157
      obtain rfl := hv1157
      have N1157 := Fr.app Nl (Fr.nil n0)
      have K1158 : Go p e below T1157 (mkF m 7 #[.val (.ref a), .val (.int (Int32.ofNat kk)), .val (.int i)] [(.int (Int32.ofNat cs.length)), (.int i)]) G := fun tq kq => K1156 tq (st1157.trans kq)
      have K1159 : Go p e below T1157 (mkF m 10 #[.val (.ref a), .val (.int (Int32.ofNat kk)), .val (.int i)] []) G := fun tq kq => K1158 tq (XS.icmpNo X1157.here hx rfl (hb hby d_prog_5_method_6_7) rfl ((tlt hil).2.1) kq)
      have K1160 : Go p e below T1157 (mkF m 11 #[.val (.ref a), .val (.int (Int32.ofNat kk)), .val (.int i)] [(.ref a)]) G := fun tq kq => K1159 tq (XS.aloadN X1157.here hx rfl (hb hby d_prog_5_method_6_10) rfl rfl kq)
      have K1161 : Go p e below T1157 (mkF m 12 #[.val (.ref a), .val (.int (Int32.ofNat kk)), .val (.int i)] [(.int i), (.ref a)]) G := fun tq kq => K1160 tq (XS.iloadN X1157.here hx rfl (hb hby d_prog_5_method_6_11) rfl kq)
      obtain ⟨cq1162, kq1162, q1162a, q1162b, q1162c⟩ := isOf hZ E1157q E_a
      obtain ⟨v1162, _, ⟨T1162, L1162, k1162, n1162⟩, -, X1162, ⟨Lc1162, hQ1162, l1162, y1162, z1162⟩, st1162⟩ := X1157.virtualBack hx (y := (⟨"java/lang/String", "charAt", "(I)C"⟩ : MethodName)) (z := (⟨"java/lang/String", "charAt", "(I)C"⟩ : MethodName)) hown (mvT hZ (hW 58 _ rfl)) (mvT hZ (hW 59 _ rfl)) (notFace_of_selects (args := #[]) (mvT hZ (hW 61 _ rfl))) (mvT hZ (hW 61 _ rfl)) (mvT hZ (hW 60 _ rfl)) (by decide) (backOf (W := 0) (own_CA hi (rmCA l Z a0 hw [] a tb kb cs pre.length cz fm h0 n0 Z0 O0 S_cs hcz S_ad S_hi S_lo S_fm rfm E_a FV FC AVw hb5 hl hlt)) hZ (hW 62 _ rfl) (hW 10 _ rfl) (by decide) (by decide)) q1162a q1162c (g := (mkF m 12 #[.val (.ref a), .val (.int (Int32.ofNat kk)), .val (.int i)] [(.int i), (.ref a)])) rfl (by rw [hml]; rfl) (Steps.refl _) (argsL := [(.int i)]) (rest := []) (lenOf pd_403 rfl) rfl (by show 2 * 0 + _ ≤ _; exact Nat.le_of_eq rfl) (hb hby d_prog_5_method_6_12) (fun _ _ => ⟨rfl, E1157q, (by decide : 0 + 0 ≤ _), (by decide : 0 + 0 ≤ _)⟩)
      dsimp only [Pt.U, Pt.locs, Pt.cells, Pt.slots] at X1162 l1162 y1162 z1162 st1162 hQ1162
      subst l1162 y1162 z1162
      rw [QCA, hget] at hQ1162
      obtain ⟨rfl, N1162q, E1162q⟩ := hQ1162
      have N1162 := Fr.app N1157 N1162q
      have K1163 : Go p e below T1162 (mkF m 15 #[.val (.ref a), .val (.int (Int32.ofNat kk)), .val (.int i)] [(.int ch)]) G := fun tq kq => K1161 tq (st1162.trans kq)
      have K1164 : Go p e below T1162 (mkF m 17 #[.val (.ref a), .val (.int (Int32.ofNat kk)), .val (.int i)] [(.int (48 : Int32)), (.int ch)]) G := fun tq kq => K1163 tq (XS.bipush X1162.here hx rfl (hb hby d_prog_5_method_6_15) kq)
      by_cases hc1165 : ch < (48 : Int32)
      · skip
        have K1166 : Go p e below T1162 (mkF m 36 #[.val (.ref a), .val (.int (Int32.ofNat kk)), .val (.int i)] []) G := fun tq kq => K1164 tq (XS.icmpYes X1162.here hx rfl (pc0 := 17) (pc' := 36) rfl (hb hby d_prog_5_method_6_17) rfl ((tlt hc1165).1) (by decide) (by decide) kq)
        have hgo : Int32.ofNat (pre.length + own_run (ch :: r)) = i := by rw [own_run, if_neg (fun q => q.1 hc1165), hi]; rfl
        rw [hgo]
        exact ⟨T1162, _, X1162, E1162q, N1162, K1166⟩
      · skip
        have K1167 : Go p e below T1162 (mkF m 20 #[.val (.ref a), .val (.int (Int32.ofNat kk)), .val (.int i)] []) G := fun tq kq => K1164 tq (XS.icmpNo X1162.here hx rfl (hb hby d_prog_5_method_6_17) rfl ((flt hc1165).1) kq)
        have K1168 : Go p e below T1162 (mkF m 21 #[.val (.ref a), .val (.int (Int32.ofNat kk)), .val (.int i)] [(.ref a)]) G := fun tq kq => K1167 tq (XS.aloadN X1162.here hx rfl (hb hby d_prog_5_method_6_20) rfl rfl kq)
        have K1169 : Go p e below T1162 (mkF m 22 #[.val (.ref a), .val (.int (Int32.ofNat kk)), .val (.int i)] [(.int i), (.ref a)]) G := fun tq kq => K1168 tq (XS.iloadN X1162.here hx rfl (hb hby d_prog_5_method_6_21) rfl kq)
        obtain ⟨cq1170, kq1170, q1170a, q1170b, q1170c⟩ := isOf hZ E1162q E_a
        obtain ⟨v1170, _, ⟨T1170, L1170, k1170, n1170⟩, -, X1170, ⟨Lc1170, hQ1170, l1170, y1170, z1170⟩, st1170⟩ := X1162.virtualBack hx (y := (⟨"java/lang/String", "charAt", "(I)C"⟩ : MethodName)) (z := (⟨"java/lang/String", "charAt", "(I)C"⟩ : MethodName)) hown (mvT hZ (hW 58 _ rfl)) (mvT hZ (hW 59 _ rfl)) (notFace_of_selects (args := #[]) (mvT hZ (hW 61 _ rfl))) (mvT hZ (hW 61 _ rfl)) (mvT hZ (hW 60 _ rfl)) (by decide) (backOf (W := 0) (own_CA hi (rmCA l Z a0 hw [] a tb kb cs pre.length cz fm h0 n0 Z0 O0 S_cs hcz S_ad S_hi S_lo S_fm rfm E_a FV FC AVw hb5 hl hlt)) hZ (hW 62 _ rfl) (hW 10 _ rfl) (by decide) (by decide)) q1170a q1170c (g := (mkF m 22 #[.val (.ref a), .val (.int (Int32.ofNat kk)), .val (.int i)] [(.int i), (.ref a)])) rfl (by rw [hml]; rfl) (Steps.refl _) (argsL := [(.int i)]) (rest := []) (lenOf pd_403 rfl) rfl (by show 2 * 0 + _ ≤ _; exact Nat.le_of_eq rfl) (hb hby d_prog_5_method_6_22) (fun _ _ => ⟨rfl, E1162q, (by decide : 0 + 0 ≤ _), (by decide : 0 + 0 ≤ _)⟩)
        dsimp only [Pt.U, Pt.locs, Pt.cells, Pt.slots] at X1170 l1170 y1170 z1170 st1170 hQ1170
        subst l1170 y1170 z1170
        rw [QCA, hget] at hQ1170
        obtain ⟨rfl, N1170q, E1170q⟩ := hQ1170
        have N1170 := Fr.app N1162 N1170q
        have K1171 : Go p e below T1170 (mkF m 25 #[.val (.ref a), .val (.int (Int32.ofNat kk)), .val (.int i)] [(.int ch)]) G := fun tq kq => K1169 tq (st1170.trans kq)
        have K1172 : Go p e below T1170 (mkF m 27 #[.val (.ref a), .val (.int (Int32.ofNat kk)), .val (.int i)] [(.int (57 : Int32)), (.int ch)]) G := fun tq kq => K1171 tq (XS.bipush X1170.here hx rfl (hb hby d_prog_5_method_6_25) kq)
        by_cases hc1173 : (57 : Int32) < ch
        · skip
          have K1174 : Go p e below T1170 (mkF m 36 #[.val (.ref a), .val (.int (Int32.ofNat kk)), .val (.int i)] []) G := fun tq kq => K1172 tq (XS.icmpYes X1170.here hx rfl (pc0 := 27) (pc' := 36) rfl (hb hby d_prog_5_method_6_27) rfl ((tlt hc1173).2.2.1) (by decide) (by decide) kq)
          have hgo : Int32.ofNat (pre.length + own_run (ch :: r)) = i := by rw [own_run, if_neg (fun q => q.2 hc1173), hi]; rfl
          rw [hgo]
          exact ⟨T1170, _, X1170, E1170q, N1170, K1174⟩
        · skip
          have K1175 : Go p e below T1170 (mkF m 30 #[.val (.ref a), .val (.int (Int32.ofNat kk)), .val (.int i)] []) G := fun tq kq => K1172 tq (XS.icmpNo X1170.here hx rfl (hb hby d_prog_5_method_6_27) rfl ((flt hc1173).2.2.1) kq)
          have K1176 : Go p e below T1170 (mkF m 33 #[.val (.ref a), .val (.int (Int32.ofNat kk)), .val (.int (i + (1 : Int32)))] []) G := fun tq kq => K1175 tq (XS.iinc X1170.here hx rfl (hb hby d_prog_5_method_6_30) rfl (l' := #[.val (.ref a), .val (.int (Int32.ofNat kk)), .val (.int (i + (1 : Int32)))]) rfl kq)
          have K1177 : Go p e below T1170 (mkF m 2 #[.val (.ref a), .val (.int (Int32.ofNat kk)), .val (.int (i + (1 : Int32)))] []) G := fun tq kq => K1176 tq (XS.goto X1170.here hx rfl (pc0 := 33) (pc' := 2) rfl (hb hby d_prog_5_method_6_33) (by decide) (by decide) kq)
          have hgo : Int32.ofNat (pre.length + own_run (ch :: r)) = Int32.ofNat ((pre ++ [ch]).length + own_run r) := by
            rw [own_run, if_pos ⟨hc1165, hc1173⟩]
            exact congrArg Int32.ofNat (by simp; omega)
          rw [hgo]
          exact loop (pre ++ [ch]) _ T1170 _ (by rw [hcs]; simp) (by rw [hi, own_succ _ (by omega)]; exact congrArg Int32.ofNat (by simp)) X1170 E1170q N1170 K1177
  have htk : (cs.take kk).length = kk := by rw [List.length_take]; exact Nat.min_eq_left hk
  obtain ⟨Tx, Lx, Xx, ex, Nx, Kx⟩ := loop (cs.drop kk) (cs.take kk) (Int32.ofNat kk) s₁ _ (List.take_append_drop kk cs).symm (by rw [htk]) X0 e0 N0 K1149
  rw [htk] at Kx
  have K1178 : Go p e below Tx (mkF m 37 #[.val (.ref a), .val (.int (Int32.ofNat kk)), .val (.int (Int32.ofNat (kk + own_run (cs.drop kk))))] [(.int (Int32.ofNat (kk + own_run (cs.drop kk))))]) G := fun tq kq => Kx tq (XS.iloadN Xx.here hx rfl (hb hby d_prog_5_method_6_36) rfl kq)
  obtain ⟨fs, hr, hrun, hended, hWW, hsame⟩ := Xx.leave (v := some (.int (Int32.ofNat (kk + own_run (cs.drop kk))))) (fun h => by rw [Bd.returns] at h; cases h)
  refine ⟨_, _, hG _ (K1178 _ (retOut Xx hx Bd.returns rfl (Or.inl ⟨rfl, Or.inl rfl, _, rfl⟩) (hb hby d_prog_5_method_6_37) hr)), hrun, hended, _, _, rfl, ?_, ⟨_, rfl⟩, hWW, hsame.mono (by decide) (by decide)⟩
  show QDF1 Z a kk tb kb N2 vs cs cz fm h0 n0 _ Tx.heap _
  rw [ex]
  exact ⟨rfl, Nx, rfl⟩
def own_J (t k n c q r : Int32) : Prop := r = if ¬ (t < k) ∧ t < n ∧ ¬ (¬ (c < (48 : Int32)) ∧ c < (58 : Int32)) then t else q
theorem own_class (c : Int32) : ∃ b : Bool, ((¬ (c < (48 : Int32)) ∧ ¬ ((57 : Int32) < c)) ↔ b = true) ∧ ((¬ (c < (48 : Int32)) ∧ c < (58 : Int32)) ↔ b = true) := by
  refine ⟨decide (¬ (c < (48 : Int32)) ∧ ¬ ((57 : Int32) < c)), ?_, ?_⟩
  · simp only [decide_eq_true_eq]
  · simp only [decide_eq_true_eq, Int32.lt_iff_toInt_lt, own_I48, own_I57, own_I58]
    omega
theorem own_tx0 (c0 c1 c2 c3 : Int32) : own_tx (Int32.ofNat 0) c0 c1 c2 c3 = [] := by unfold own_tx; rw [if_pos (by decide)]
theorem own_tx1 (c0 c1 c2 c3 : Int32) : own_tx (Int32.ofNat 1) c0 c1 c2 c3 = [c0] := by unfold own_tx; rw [if_neg (by decide), if_pos (by decide)]
theorem own_tx2 (c0 c1 c2 c3 : Int32) : own_tx (Int32.ofNat 2) c0 c1 c2 c3 = [c0, c1] := by unfold own_tx; rw [if_neg (by decide), if_neg (by decide), if_pos (by decide)]
theorem own_tx3 (c0 c1 c2 c3 : Int32) : own_tx (Int32.ofNat 3) c0 c1 c2 c3 = [c0, c1, c2] := by unfold own_tx; rw [if_neg (by decide), if_neg (by decide), if_neg (by decide), if_pos (by decide)]
theorem own_tx4 (c0 c1 c2 c3 : Int32) : own_tx (Int32.ofNat 4) c0 c1 c2 c3 = [c0, c1, c2, c3] := by unfold own_tx; rw [if_neg (by decide), if_neg (by decide), if_neg (by decide), if_neg (by decide)]
theorem own_txm {n c0 c1 c2 c3 c : Int32} (h : c ∈ own_tx n c0 c1 c2 c3) : c ∈ [c0, c1, c2, c3] := by
  unfold own_tx at h
  simp only [List.mem_cons, List.not_mem_nil, or_false]
  repeat' split at h
  all_goals simp only [List.mem_cons, List.not_mem_nil, or_false] at h
  all_goals first | exact h.elim | (rcases h with rfl | rfl | rfl | rfl <;> simp) | (rcases h with rfl | rfl | rfl <;> simp) | (rcases h with rfl | rfl <;> simp) | (subst h; simp)
theorem own_txl (n : Nat) (hn : n ≤ 4) (c0 c1 c2 c3 : Int32) : (own_tx (Int32.ofNat n) c0 c1 c2 c3).length = n := by
  obtain rfl | rfl | rfl | rfl | rfl : n = 0 ∨ n = 1 ∨ n = 2 ∨ n = 3 ∨ n = 4 := by omega
  · rw [own_tx0]; rfl
  · rw [own_tx1]; rfl
  · rw [own_tx2]; rfl
  · rw [own_tx3]; rfl
  · rw [own_tx4]; rfl
theorem own_n5 (q : Int32) : ∃ n : Nat, n ≤ 4 ∧ ((q &&& (2147483647 : Int32)) % (5 : Int32)) = Int32.ofNat n := by
  have h1 := c_and q (2147483647 : Int32) (by decide)
  have h2 := c_irem (q &&& (2147483647 : Int32)) (5 : Int32) 5 own_I5
  generalize ((q &&& (2147483647 : Int32)) % (5 : Int32)) = z at h2 ⊢
  refine ⟨z.toInt.toNat, by omega, ?_⟩
  rw [← Int32.toInt_inj, own_ofNat _ (by omega)]
  omega
theorem own_np (n : Nat) (hn : n ≤ 4) : ((Int32.ofNat n) + (1 : Int32)) ≠ 0 := by
  rw [own_succ n (by omega)]
  intro q
  have e := congrArg Int32.toInt q
  rw [own_ofNat _ (by omega), own_I0] at e
  omega
theorem own_k (z : Int32) (n : Nat) (hn : n ≤ 4) : ∃ k : Nat, k ≤ n ∧ ((z &&& (2147483647 : Int32)) % ((Int32.ofNat n) + (1 : Int32))) = Int32.ofNat k := by
  have q := c_and z (2147483647 : Int32) (by decide)
  have e : ((Int32.ofNat n) + (1 : Int32)).toInt = (n : Int) + 1 := by rw [own_succ n (by omega), own_ofNat _ (by omega)]; rfl
  have q2 := (c_iremV (z &&& (2147483647 : Int32)) ((Int32.ofNat n) + (1 : Int32))).1 q.1 (by omega)
  generalize ((z &&& (2147483647 : Int32)) % ((Int32.ofNat n) + (1 : Int32))) = w at q2 ⊢
  refine ⟨w.toInt.toNat, by omega, ?_⟩
  rw [← Int32.toInt_inj, own_ofNat _ (by omega)]
  omega
theorem own_eqv {args : Array Value} {s : State} {t : Term} {x : Int32} (h : (Jvm.Cond.eq t (Jvm.Term.int x)).before args s = true) : t.eval args s none [] s = some (.int x) := by
  have h := Cond.before_iff.mp h
  simp only [Cond.value, Term.eval] at h
  cases ht : t.eval args s none [] s with
  | none => simp [ht] at h
  | some w => cases w <;> simp [ht] at h; rw [h]
set_option maxRecDepth 65536 in
set_option maxHeartbeats 4000000 in
theorem own_fin (n kk : Nat) (c0 c1 c2 c3 r3 r2 r1 r0 : Int32) (hn : n ≤ 4) (hk : kk ≤ n) (j3 : own_J (3 : Int32) (Int32.ofNat kk) (Int32.ofNat n) c3 (Int32.ofNat n) r3) (j2 : own_J (2 : Int32) (Int32.ofNat kk) (Int32.ofNat n) c2 r3 r2) (j1 : own_J (1 : Int32) (Int32.ofNat kk) (Int32.ofNat n) c1 r2 r1) (j0 : own_J (0 : Int32) (Int32.ofNat kk) (Int32.ofNat n) c0 r1 r0) : Int32.ofNat (kk + own_run ((own_tx (Int32.ofNat n) c0 c1 c2 c3).drop kk)) = r0 := by
  obtain ⟨b0, hA0, hB0⟩ := own_class c0
  obtain ⟨b1, hA1, hB1⟩ := own_class c1
  obtain ⟨b2, hA2, hB2⟩ := own_class c2
  obtain ⟨b3, hA3, hB3⟩ := own_class c3
  unfold own_J at j3 j2 j1 j0
  rw [j0, j1, j2, j3]
  clear j0 j1 j2 j3
  obtain rfl | rfl | rfl | rfl | rfl : n = 0 ∨ n = 1 ∨ n = 2 ∨ n = 3 ∨ n = 4 := by omega
  · rw [own_tx0]
    obtain rfl : kk = 0 := by omega
    · simp only [List.drop_nil, List.drop_zero, List.drop_succ_cons, own_run, hA0, hB0, hA1, hB1, hA2, hB2, hA3, hB3]
      clear hA0 hB0 hA1 hB1 hA2 hB2 hA3 hB3
      revert b0 b1 b2 b3
      decide +kernel
  · rw [own_tx1]
    obtain rfl | rfl : kk = 0 ∨ kk = 1 := by omega
    · simp only [List.drop_nil, List.drop_zero, List.drop_succ_cons, own_run, hA0, hB0, hA1, hB1, hA2, hB2, hA3, hB3]
      clear hA0 hB0 hA1 hB1 hA2 hB2 hA3 hB3
      revert b0 b1 b2 b3
      decide +kernel
    · simp only [List.drop_nil, List.drop_zero, List.drop_succ_cons, own_run, hA0, hB0, hA1, hB1, hA2, hB2, hA3, hB3]
      clear hA0 hB0 hA1 hB1 hA2 hB2 hA3 hB3
      revert b0 b1 b2 b3
      decide +kernel
  · rw [own_tx2]
    obtain rfl | rfl | rfl : kk = 0 ∨ kk = 1 ∨ kk = 2 := by omega
    · simp only [List.drop_nil, List.drop_zero, List.drop_succ_cons, own_run, hA0, hB0, hA1, hB1, hA2, hB2, hA3, hB3]
      clear hA0 hB0 hA1 hB1 hA2 hB2 hA3 hB3
      revert b0 b1 b2 b3
      decide +kernel
    · simp only [List.drop_nil, List.drop_zero, List.drop_succ_cons, own_run, hA0, hB0, hA1, hB1, hA2, hB2, hA3, hB3]
      clear hA0 hB0 hA1 hB1 hA2 hB2 hA3 hB3
      revert b0 b1 b2 b3
      decide +kernel
    · simp only [List.drop_nil, List.drop_zero, List.drop_succ_cons, own_run, hA0, hB0, hA1, hB1, hA2, hB2, hA3, hB3]
      clear hA0 hB0 hA1 hB1 hA2 hB2 hA3 hB3
      revert b0 b1 b2 b3
      decide +kernel
  · rw [own_tx3]
    obtain rfl | rfl | rfl | rfl : kk = 0 ∨ kk = 1 ∨ kk = 2 ∨ kk = 3 := by omega
    · simp only [List.drop_nil, List.drop_zero, List.drop_succ_cons, own_run, hA0, hB0, hA1, hB1, hA2, hB2, hA3, hB3]
      clear hA0 hB0 hA1 hB1 hA2 hB2 hA3 hB3
      revert b0 b1 b2 b3
      decide +kernel
    · simp only [List.drop_nil, List.drop_zero, List.drop_succ_cons, own_run, hA0, hB0, hA1, hB1, hA2, hB2, hA3, hB3]
      clear hA0 hB0 hA1 hB1 hA2 hB2 hA3 hB3
      revert b0 b1 b2 b3
      decide +kernel
    · simp only [List.drop_nil, List.drop_zero, List.drop_succ_cons, own_run, hA0, hB0, hA1, hB1, hA2, hB2, hA3, hB3]
      clear hA0 hB0 hA1 hB1 hA2 hB2 hA3 hB3
      revert b0 b1 b2 b3
      decide +kernel
    · simp only [List.drop_nil, List.drop_zero, List.drop_succ_cons, own_run, hA0, hB0, hA1, hB1, hA2, hB2, hA3, hB3]
      clear hA0 hB0 hA1 hB1 hA2 hB2 hA3 hB3
      revert b0 b1 b2 b3
      decide +kernel
  · rw [own_tx4]
    obtain rfl | rfl | rfl | rfl | rfl : kk = 0 ∨ kk = 1 ∨ kk = 2 ∨ kk = 3 ∨ kk = 4 := by omega
    · simp only [List.drop_nil, List.drop_zero, List.drop_succ_cons, own_run, hA0, hB0, hA1, hB1, hA2, hB2, hA3, hB3]
      clear hA0 hB0 hA1 hB1 hA2 hB2 hA3 hB3
      revert b0 b1 b2 b3
      decide +kernel
    · simp only [List.drop_nil, List.drop_zero, List.drop_succ_cons, own_run, hA0, hB0, hA1, hB1, hA2, hB2, hA3, hB3]
      clear hA0 hB0 hA1 hB1 hA2 hB2 hA3 hB3
      revert b0 b1 b2 b3
      decide +kernel
    · simp only [List.drop_nil, List.drop_zero, List.drop_succ_cons, own_run, hA0, hB0, hA1, hB1, hA2, hB2, hA3, hB3]
      clear hA0 hB0 hA1 hB1 hA2 hB2 hA3 hB3
      revert b0 b1 b2 b3
      decide +kernel
    · simp only [List.drop_nil, List.drop_zero, List.drop_succ_cons, own_run, hA0, hB0, hA1, hB1, hA2, hB2, hA3, hB3]
      clear hA0 hB0 hA1 hB1 hA2 hB2 hA3 hB3
      revert b0 b1 b2 b3
      decide +kernel
    · simp only [List.drop_nil, List.drop_zero, List.drop_succ_cons, own_run, hA0, hB0, hA1, hB1, hA2, hB2, hA3, hB3]
      clear hA0 hB0 hA1 hB1 hA2 hB2 hA3 hB3
      revert b0 b1 b2 b3
      decide +kernel
theorem ef_code_IIIII (m : MethodId) (x0 : Int32) (x1 : Int32) (x2 : Int32) (x3 : Int32) (x4 : Int32) : entryFrame m #[(.int x0), (.int x1), (.int x2), (.int x3), (.int x4)] maxLocals = mkF m 0 #[.val (.int x0), .val (.int x1), .val (.int x2), .val (.int x3), .val (.int x4), .unset, .unset, .unset, .unset, .unset, .unset, .unset, .unset] [] := by first | (simp [entryFrame, mkF, argsToLocals, Value.category, maxLocals]; done) | rfl
theorem pd_425 : parseMethodDescriptor "(CCCCI)Ljava/lang/String;" = some ⟨[.char, .char, .char, .char, .int], some (.object "java/lang/String")⟩ := by decide +kernel
theorem pd_426 : parseMethodDescriptor "(C)Z" = some ⟨[.char], some .boolean⟩ := by decide +kernel
theorem pd_427 : parseMethodDescriptor "(Ljava/lang/String;I)I" = some ⟨[(.object "java/lang/String"), .int], some .int⟩ := by decide +kernel
def Q0 (Z : State) (q0 : Int32) (q1 : Int32) (q2 : Int32) (q3 : Int32) (q4 : Int32) (cz : Int32) (fm : Value) (h0 : Heap) (n0 : Nat) (v : Option Value) (h : Heap) (L : List Loc) : Prop := v = some (.int 1) ∧ Fr n0 L
set_option maxRecDepth 65536 in
set_option maxHeartbeats 40000000 in
theorem rm0 (l : Launch) (Z : State) (a0 : Array Value) (hw : ∀ d ∈ tables_1, d.before a0 Z = true) (ws : List Jvm.Cond) (q0 : Int32) (q1 : Int32) (q2 : Int32) (q3 : Int32) (q4 : Int32) (cz : Int32) (fm : Value) (h0 : Heap) (n0 : Nat) (Z0 : n0 ≤ h0.size) (O0 : Old Z n0 h0) (S_cs : Sta Z Z.heap "java/lang/String" "COMPACT_STRINGS" "Z" (.int cz)) (hcz : ¬ cz = 0) (S_ad : Sta Z Z.heap "java/lang/StringUTF16" "$assertionsDisabled" "Z" (.int (1 : Int32))) (S_hi : Sta Z Z.heap "java/lang/StringUTF16" "HI_BYTE_SHIFT" "I" (.int (0 : Int32))) (S_lo : Sta Z Z.heap "java/lang/StringUTF16" "LO_BYTE_SHIFT" "I" (.int (8 : Int32))) (S_fm : Sta Z Z.heap "jdk/internal/util/Preconditions" "SIOOBE_FORMATTER" "Ljava/util/function/BiFunction;" fm) (rfm : fm.isRef = true) :
    MetFree l x (head1 (Jvm.Cond.code x code maxLocals ret :: ws) room_1) (fun aa UU => aa = #[(.int q0), (.int q1), (.int q2), (.int q3), (.int q4)] ∧ Z.Warmed39 UU.vm ∧ UU.heap = h0 ∧ CHv Z own_EL UU.vm h0) (fun _ _ _ _ _ => True) (fun _ UU oo UU' => ∃ vv LL, oo = .returned vv ∧ Q0 Z q0 q1 q2 q3 q4 cz fm h0 n0 vv UU'.heap LL ∧ CHr Z own_EL UU.vm UU.heap UU'.vm UU'.heap ∧ ReturnedEndW UU oo UU' LL 24 1152) := by
  refine MetFree.of_bodySF (plainFor_of_name pn_209) hisR ?_
  intro p e s m args below meth c s₁ Bd hml0 hP hK
  obtain ⟨rfl, hZ, hh, HC⟩ := hP
  have hx := Bd.exec
  have hby := Bd.bytes
  have hml : c.maxLocals = 13 := hml0
  have hown : s.vm.findClass "com/example/tallyrule/tallyrule/DecimalsDigitsFromPinLaw" = some m.cls := findClass_of_methodNamed Bd.named
  have hnm := (name_of_methodNamed Bd.named Bd.method).1
  have hW : ∀ (k : Nat) (d : Jvm.Cond), tables_1[k]? = some d → d.before a0 Z = true := fun k d h => hw d (List.mem_of_getElem? h)
  have X0 : Stand p l e room_1 (s.setVm s.vm) m #[(.int q0), (.int q1), (.int q2), (.int q3), (.int q4)] below meth c s₁ [] 0 0 := Stand.of_body Bd
  have e0 : s₁.heap = h0 := by rw [← hh, Bd.state]; rfl
  have N0 := Fr.nil n0
  obtain ⟨G, hG, K0⟩ : ∃ G : State → Prop, (∀ tq, G tq → Steps p.tables e below (s₁.setTop (entryFrame m #[(.int q0), (.int q1), (.int q2), (.int q3), (.int q4)] maxLocals)) tq) ∧ Go p e below s₁ (mkF m 0 #[.val (.int q0), .val (.int q1), .val (.int q2), .val (.int q3), .val (.int q4), .unset, .unset, .unset, .unset, .unset, .unset, .unset, .unset] []) G := ⟨fun tq => Steps p.tables e below (s₁.setTop (entryFrame m #[(.int q0), (.int q1), (.int q2), (.int q3), (.int q4)] maxLocals)) tq, fun _ h => h, fun tq kq => castTop (ef_code_IIIII m q0 q1 q2 q3 q4) kq⟩
  have hS0 := (State.WarmedH.refl s).since 0
  have hEL : EW Z a0 own_EL := own_EW hW
  have CR0 := CHr.refl HC
  have K1179 : Go p e below s₁ (mkF m 1 #[.val (.int q0), .val (.int q1), .val (.int q2), .val (.int q3), .val (.int q4), .unset, .unset, .unset, .unset, .unset, .unset, .unset, .unset] [(.int q0)]) G := fun tq kq => K0 tq (XS.iloadN X0.here hx rfl (hb hby at_0) rfl kq)
  obtain ⟨v1180, _, ⟨T1180, L1180, k1180, n1180⟩, -, X1180, ⟨Lc1180, hQ1180, l1180, y1180, z1180⟩, st1180⟩ := Jvm.LawKit.callS X0 hx (y := (⟨"com/example/tallyrule/tallyrule/DecimalsDigitsFromPinLaw", "ch", "(I)C"⟩ : MethodName)) hown (mvT hZ (hW 0 _ rfl)) (mvT hZ (hW 1 _ rfl)) (mvT hZ (hW 2 _ rfl)) (mvT hZ (hW 3 _ rfl)) (by decide) (backOf (W := 0) (rmCH l Z a0 hw [] q0 h0 n0 Z0) hZ (hW 3 _ rfl) (hW 2 _ rfl) (by decide) (by decide)) (g := (mkF m 1 #[.val (.int q0), .val (.int q1), .val (.int q2), .val (.int q3), .val (.int q4), .unset, .unset, .unset, .unset, .unset, .unset, .unset, .unset] [(.int q0)])) rfl (by rw [hml]; rfl) (argsL := [(.int q0)]) (rest := []) (lenOf pd_403 rfl) rfl (by show 2 * 0 + _ ≤ _; exact Nat.le_of_eq rfl) (hb hby at_1) (fun _ _ => ⟨rfl, e0, (by decide : 0 + 0 ≤ _), (by decide : 0 + 0 ≤ _)⟩)
  dsimp only [Pt.U, Pt.locs, Pt.cells, Pt.slots] at X1180 l1180 y1180 z1180 st1180 hQ1180
  subst l1180 y1180 z1180
  obtain ⟨c0, rfl, R0, N1180q, E1180q⟩ := hQ1180
  have N1180 := Fr.app N0 N1180q
  have K1181 : Go p e below T1180 (mkF m 4 #[.val (.int q0), .val (.int q1), .val (.int q2), .val (.int q3), .val (.int q4), .unset, .unset, .unset, .unset, .unset, .unset, .unset, .unset] [(.int c0)]) G := fun tq kq => K1179 tq (st1180 tq kq)
  have K1182 : Go p e below T1180 (mkF m 6 #[.val (.int q0), .val (.int q1), .val (.int q2), .val (.int q3), .val (.int q4), .val (.int c0), .unset, .unset, .unset, .unset, .unset, .unset, .unset] []) G := fun tq kq => K1181 tq (XS.istore X1180.here hx rfl (hb hby at_4) rfl (l' := #[.val (.int q0), .val (.int q1), .val (.int q2), .val (.int q3), .val (.int q4), .val (.int c0), .unset, .unset, .unset, .unset, .unset, .unset, .unset]) rfl kq)
  have K1183 : Go p e below T1180 (mkF m 7 #[.val (.int q0), .val (.int q1), .val (.int q2), .val (.int q3), .val (.int q4), .val (.int c0), .unset, .unset, .unset, .unset, .unset, .unset, .unset] [(.int q1)]) G := fun tq kq => K1182 tq (XS.iloadN X1180.here hx rfl (hb hby at_6) rfl kq)
  obtain ⟨v1184, _, ⟨T1184, L1184, k1184, n1184⟩, -, X1184, ⟨Lc1184, hQ1184, l1184, y1184, z1184⟩, st1184⟩ := Jvm.LawKit.callS X1180 hx (y := (⟨"com/example/tallyrule/tallyrule/DecimalsDigitsFromPinLaw", "ch", "(I)C"⟩ : MethodName)) hown (mvT hZ (hW 0 _ rfl)) (mvT hZ (hW 1 _ rfl)) (mvT hZ (hW 2 _ rfl)) (mvT hZ (hW 3 _ rfl)) (by decide) (backOf (W := 0) (rmCH l Z a0 hw [] q1 h0 n0 Z0) hZ (hW 3 _ rfl) (hW 2 _ rfl) (by decide) (by decide)) (g := (mkF m 7 #[.val (.int q0), .val (.int q1), .val (.int q2), .val (.int q3), .val (.int q4), .val (.int c0), .unset, .unset, .unset, .unset, .unset, .unset, .unset] [(.int q1)])) rfl (by rw [hml]; rfl) (argsL := [(.int q1)]) (rest := []) (lenOf pd_403 rfl) rfl (by show 2 * 0 + _ ≤ _; exact Nat.le_of_eq rfl) (hb hby at_7) (fun _ _ => ⟨rfl, E1180q, (by decide : 0 + 0 ≤ _), (by decide : 0 + 0 ≤ _)⟩)
  dsimp only [Pt.U, Pt.locs, Pt.cells, Pt.slots] at X1184 l1184 y1184 z1184 st1184 hQ1184
  subst l1184 y1184 z1184
  obtain ⟨c1, rfl, R1, N1184q, E1184q⟩ := hQ1184
  have N1184 := Fr.app N1180 N1184q
  have K1185 : Go p e below T1184 (mkF m 10 #[.val (.int q0), .val (.int q1), .val (.int q2), .val (.int q3), .val (.int q4), .val (.int c0), .unset, .unset, .unset, .unset, .unset, .unset, .unset] [(.int c1)]) G := fun tq kq => K1183 tq (st1184 tq kq)
  have K1186 : Go p e below T1184 (mkF m 12 #[.val (.int q0), .val (.int q1), .val (.int q2), .val (.int q3), .val (.int q4), .val (.int c0), .val (.int c1), .unset, .unset, .unset, .unset, .unset, .unset] []) G := fun tq kq => K1185 tq (XS.istore X1184.here hx rfl (hb hby at_10) rfl (l' := #[.val (.int q0), .val (.int q1), .val (.int q2), .val (.int q3), .val (.int q4), .val (.int c0), .val (.int c1), .unset, .unset, .unset, .unset, .unset, .unset]) rfl kq)
  have K1187 : Go p e below T1184 (mkF m 13 #[.val (.int q0), .val (.int q1), .val (.int q2), .val (.int q3), .val (.int q4), .val (.int c0), .val (.int c1), .unset, .unset, .unset, .unset, .unset, .unset] [(.int q2)]) G := fun tq kq => K1186 tq (XS.iloadN X1184.here hx rfl (hb hby at_12) rfl kq)
  obtain ⟨v1188, _, ⟨T1188, L1188, k1188, n1188⟩, -, X1188, ⟨Lc1188, hQ1188, l1188, y1188, z1188⟩, st1188⟩ := Jvm.LawKit.callS X1184 hx (y := (⟨"com/example/tallyrule/tallyrule/DecimalsDigitsFromPinLaw", "ch", "(I)C"⟩ : MethodName)) hown (mvT hZ (hW 0 _ rfl)) (mvT hZ (hW 1 _ rfl)) (mvT hZ (hW 2 _ rfl)) (mvT hZ (hW 3 _ rfl)) (by decide) (backOf (W := 0) (rmCH l Z a0 hw [] q2 h0 n0 Z0) hZ (hW 3 _ rfl) (hW 2 _ rfl) (by decide) (by decide)) (g := (mkF m 13 #[.val (.int q0), .val (.int q1), .val (.int q2), .val (.int q3), .val (.int q4), .val (.int c0), .val (.int c1), .unset, .unset, .unset, .unset, .unset, .unset] [(.int q2)])) rfl (by rw [hml]; rfl) (argsL := [(.int q2)]) (rest := []) (lenOf pd_403 rfl) rfl (by show 2 * 0 + _ ≤ _; exact Nat.le_of_eq rfl) (hb hby at_13) (fun _ _ => ⟨rfl, E1184q, (by decide : 0 + 0 ≤ _), (by decide : 0 + 0 ≤ _)⟩)
  dsimp only [Pt.U, Pt.locs, Pt.cells, Pt.slots] at X1188 l1188 y1188 z1188 st1188 hQ1188
  subst l1188 y1188 z1188
  obtain ⟨c2, rfl, R2, N1188q, E1188q⟩ := hQ1188
  have N1188 := Fr.app N1184 N1188q
  have K1189 : Go p e below T1188 (mkF m 16 #[.val (.int q0), .val (.int q1), .val (.int q2), .val (.int q3), .val (.int q4), .val (.int c0), .val (.int c1), .unset, .unset, .unset, .unset, .unset, .unset] [(.int c2)]) G := fun tq kq => K1187 tq (st1188 tq kq)
  have K1190 : Go p e below T1188 (mkF m 18 #[.val (.int q0), .val (.int q1), .val (.int q2), .val (.int q3), .val (.int q4), .val (.int c0), .val (.int c1), .val (.int c2), .unset, .unset, .unset, .unset, .unset] []) G := fun tq kq => K1189 tq (XS.istore X1188.here hx rfl (hb hby at_16) rfl (l' := #[.val (.int q0), .val (.int q1), .val (.int q2), .val (.int q3), .val (.int q4), .val (.int c0), .val (.int c1), .val (.int c2), .unset, .unset, .unset, .unset, .unset]) rfl kq)
  have K1191 : Go p e below T1188 (mkF m 19 #[.val (.int q0), .val (.int q1), .val (.int q2), .val (.int q3), .val (.int q4), .val (.int c0), .val (.int c1), .val (.int c2), .unset, .unset, .unset, .unset, .unset] [(.int q3)]) G := fun tq kq => K1190 tq (XS.iloadN X1188.here hx rfl (hb hby at_18) rfl kq)
  obtain ⟨v1192, _, ⟨T1192, L1192, k1192, n1192⟩, -, X1192, ⟨Lc1192, hQ1192, l1192, y1192, z1192⟩, st1192⟩ := Jvm.LawKit.callS X1188 hx (y := (⟨"com/example/tallyrule/tallyrule/DecimalsDigitsFromPinLaw", "ch", "(I)C"⟩ : MethodName)) hown (mvT hZ (hW 0 _ rfl)) (mvT hZ (hW 1 _ rfl)) (mvT hZ (hW 2 _ rfl)) (mvT hZ (hW 3 _ rfl)) (by decide) (backOf (W := 0) (rmCH l Z a0 hw [] q3 h0 n0 Z0) hZ (hW 3 _ rfl) (hW 2 _ rfl) (by decide) (by decide)) (g := (mkF m 19 #[.val (.int q0), .val (.int q1), .val (.int q2), .val (.int q3), .val (.int q4), .val (.int c0), .val (.int c1), .val (.int c2), .unset, .unset, .unset, .unset, .unset] [(.int q3)])) rfl (by rw [hml]; rfl) (argsL := [(.int q3)]) (rest := []) (lenOf pd_403 rfl) rfl (by show 2 * 0 + _ ≤ _; exact Nat.le_of_eq rfl) (hb hby at_19) (fun _ _ => ⟨rfl, E1188q, (by decide : 0 + 0 ≤ _), (by decide : 0 + 0 ≤ _)⟩)
  dsimp only [Pt.U, Pt.locs, Pt.cells, Pt.slots] at X1192 l1192 y1192 z1192 st1192 hQ1192
  subst l1192 y1192 z1192
  obtain ⟨c3, rfl, R3, N1192q, E1192q⟩ := hQ1192
  have N1192 := Fr.app N1188 N1192q
  have K1193 : Go p e below T1192 (mkF m 22 #[.val (.int q0), .val (.int q1), .val (.int q2), .val (.int q3), .val (.int q4), .val (.int c0), .val (.int c1), .val (.int c2), .unset, .unset, .unset, .unset, .unset] [(.int c3)]) G := fun tq kq => K1191 tq (st1192 tq kq)
  have K1194 : Go p e below T1192 (mkF m 24 #[.val (.int q0), .val (.int q1), .val (.int q2), .val (.int q3), .val (.int q4), .val (.int c0), .val (.int c1), .val (.int c2), .val (.int c3), .unset, .unset, .unset, .unset] []) G := fun tq kq => K1193 tq (XS.istore X1192.here hx rfl (hb hby at_22) rfl (l' := #[.val (.int q0), .val (.int q1), .val (.int q2), .val (.int q3), .val (.int q4), .val (.int c0), .val (.int c1), .val (.int c2), .val (.int c3), .unset, .unset, .unset, .unset]) rfl kq)
  have K1195 : Go p e below T1192 (mkF m 26 #[.val (.int q0), .val (.int q1), .val (.int q2), .val (.int q3), .val (.int q4), .val (.int c0), .val (.int c1), .val (.int c2), .val (.int c3), .unset, .unset, .unset, .unset] [(.int q4)]) G := fun tq kq => K1194 tq (XS.iload X1192.here hx rfl (hb hby at_24) rfl kq)
  have K1196 : Go p e below T1192 (mkF m 28 #[.val (.int q0), .val (.int q1), .val (.int q2), .val (.int q3), .val (.int q4), .val (.int c0), .val (.int c1), .val (.int c2), .val (.int c3), .unset, .unset, .unset, .unset] [(.int (2147483647 : Int32)), (.int q4)]) G := fun tq kq => K1195 tq (X1192.ldcInt hx hown (mvT hZ (hW 4 _ rfl)) (g := (mkF m 26 #[.val (.int q0), .val (.int q1), .val (.int q2), .val (.int q3), .val (.int q4), .val (.int c0), .val (.int c1), .val (.int c2), .val (.int c3), .unset, .unset, .unset, .unset] [(.int q4)])) rfl (hb hby at_26) _ kq)
  have K1197 : Go p e below T1192 (mkF m 29 #[.val (.int q0), .val (.int q1), .val (.int q2), .val (.int q3), .val (.int q4), .val (.int c0), .val (.int c1), .val (.int c2), .val (.int c3), .unset, .unset, .unset, .unset] [(.int (q4 &&& (2147483647 : Int32)))]) G := fun tq kq => K1196 tq (XS.iand X1192.here hx rfl (hb hby at_28) rfl kq)
  have K1198 : Go p e below T1192 (mkF m 30 #[.val (.int q0), .val (.int q1), .val (.int q2), .val (.int q3), .val (.int q4), .val (.int c0), .val (.int c1), .val (.int c2), .val (.int c3), .unset, .unset, .unset, .unset] [(.int (5 : Int32)), (.int (q4 &&& (2147483647 : Int32)))]) G := fun tq kq => K1197 tq (XS.iconst X1192.here hx rfl (hb hby at_29) kq)
  have K1199 : Go p e below T1192 (mkF m 31 #[.val (.int q0), .val (.int q1), .val (.int q2), .val (.int q3), .val (.int q4), .val (.int c0), .val (.int c1), .val (.int c2), .val (.int c3), .unset, .unset, .unset, .unset] [(.int ((q4 &&& (2147483647 : Int32)) % (5 : Int32)))]) G := fun tq kq => K1198 tq (iremM X1192 hx rfl (hb hby at_30) rfl (by decide) kq)
  have K1200 : Go p e below T1192 (mkF m 33 #[.val (.int q0), .val (.int q1), .val (.int q2), .val (.int q3), .val (.int q4), .val (.int c0), .val (.int c1), .val (.int c2), .val (.int c3), .val (.int ((q4 &&& (2147483647 : Int32)) % (5 : Int32))), .unset, .unset, .unset] []) G := fun tq kq => K1199 tq (XS.istore X1192.here hx rfl (hb hby at_31) rfl (l' := #[.val (.int q0), .val (.int q1), .val (.int q2), .val (.int q3), .val (.int q4), .val (.int c0), .val (.int c1), .val (.int c2), .val (.int c3), .val (.int ((q4 &&& (2147483647 : Int32)) % (5 : Int32))), .unset, .unset, .unset]) rfl kq)
  obtain ⟨n, hn4, hnE⟩ := own_n5 q4
  have K1201 : Go p e below T1192 (mkF m 33 #[.val (.int q0), .val (.int q1), .val (.int q2), .val (.int q3), .val (.int q4), .val (.int c0), .val (.int c1), .val (.int c2), .val (.int c3), .val (.int (Int32.ofNat n)), .unset, .unset, .unset] []) G := by rw [← hnE]; exact K1200
  have K1202 : Go p e below T1192 (mkF m 35 #[.val (.int q0), .val (.int q1), .val (.int q2), .val (.int q3), .val (.int q4), .val (.int c0), .val (.int c1), .val (.int c2), .val (.int c3), .val (.int (Int32.ofNat n)), .unset, .unset, .unset] [(.int q4)]) G := fun tq kq => K1201 tq (XS.iload X1192.here hx rfl (hb hby at_33) rfl kq)
  have K1203 : Go p e below T1192 (mkF m 37 #[.val (.int q0), .val (.int q1), .val (.int q2), .val (.int q3), .val (.int q4), .val (.int c0), .val (.int c1), .val (.int c2), .val (.int c3), .val (.int (Int32.ofNat n)), .unset, .unset, .unset] [(.int (8 : Int32)), (.int q4)]) G := fun tq kq => K1202 tq (XS.bipush X1192.here hx rfl (hb hby at_35) kq)
  have K1204 : Go p e below T1192 (mkF m 38 #[.val (.int q0), .val (.int q1), .val (.int q2), .val (.int q3), .val (.int q4), .val (.int c0), .val (.int c1), .val (.int c2), .val (.int c3), .val (.int (Int32.ofNat n)), .unset, .unset, .unset] [(.int ((q4.toUInt32 >>> ((8 : Int32) &&& 31).toUInt32).toInt32))]) G := fun tq kq => K1203 tq (XS.iushr X1192.here hx rfl (hb hby at_37) rfl kq)
  have K1205 : Go p e below T1192 (mkF m 40 #[.val (.int q0), .val (.int q1), .val (.int q2), .val (.int q3), .val (.int q4), .val (.int c0), .val (.int c1), .val (.int c2), .val (.int c3), .val (.int (Int32.ofNat n)), .unset, .unset, .unset] [(.int (2147483647 : Int32)), (.int ((q4.toUInt32 >>> ((8 : Int32) &&& 31).toUInt32).toInt32))]) G := fun tq kq => K1204 tq (X1192.ldcInt hx hown (mvT hZ (hW 4 _ rfl)) (g := (mkF m 38 #[.val (.int q0), .val (.int q1), .val (.int q2), .val (.int q3), .val (.int q4), .val (.int c0), .val (.int c1), .val (.int c2), .val (.int c3), .val (.int (Int32.ofNat n)), .unset, .unset, .unset] [(.int ((q4.toUInt32 >>> ((8 : Int32) &&& 31).toUInt32).toInt32))])) rfl (hb hby at_38) _ kq)
  have K1206 : Go p e below T1192 (mkF m 41 #[.val (.int q0), .val (.int q1), .val (.int q2), .val (.int q3), .val (.int q4), .val (.int c0), .val (.int c1), .val (.int c2), .val (.int c3), .val (.int (Int32.ofNat n)), .unset, .unset, .unset] [(.int (((q4.toUInt32 >>> ((8 : Int32) &&& 31).toUInt32).toInt32) &&& (2147483647 : Int32)))]) G := fun tq kq => K1205 tq (XS.iand X1192.here hx rfl (hb hby at_40) rfl kq)
  have K1207 : Go p e below T1192 (mkF m 43 #[.val (.int q0), .val (.int q1), .val (.int q2), .val (.int q3), .val (.int q4), .val (.int c0), .val (.int c1), .val (.int c2), .val (.int c3), .val (.int (Int32.ofNat n)), .unset, .unset, .unset] [(.int (Int32.ofNat n)), (.int (((q4.toUInt32 >>> ((8 : Int32) &&& 31).toUInt32).toInt32) &&& (2147483647 : Int32)))]) G := fun tq kq => K1206 tq (XS.iload X1192.here hx rfl (hb hby at_41) rfl kq)
  have K1208 : Go p e below T1192 (mkF m 44 #[.val (.int q0), .val (.int q1), .val (.int q2), .val (.int q3), .val (.int q4), .val (.int c0), .val (.int c1), .val (.int c2), .val (.int c3), .val (.int (Int32.ofNat n)), .unset, .unset, .unset] [(.int (1 : Int32)), (.int (Int32.ofNat n)), (.int (((q4.toUInt32 >>> ((8 : Int32) &&& 31).toUInt32).toInt32) &&& (2147483647 : Int32)))]) G := fun tq kq => K1207 tq (XS.iconst X1192.here hx rfl (hb hby at_43) kq)
  have K1209 : Go p e below T1192 (mkF m 45 #[.val (.int q0), .val (.int q1), .val (.int q2), .val (.int q3), .val (.int q4), .val (.int c0), .val (.int c1), .val (.int c2), .val (.int c3), .val (.int (Int32.ofNat n)), .unset, .unset, .unset] [(.int ((Int32.ofNat n) + (1 : Int32))), (.int (((q4.toUInt32 >>> ((8 : Int32) &&& 31).toUInt32).toInt32) &&& (2147483647 : Int32)))]) G := fun tq kq => K1208 tq (XS.iadd X1192.here hx rfl (hb hby at_44) rfl kq)
  have K1210 : Go p e below T1192 (mkF m 46 #[.val (.int q0), .val (.int q1), .val (.int q2), .val (.int q3), .val (.int q4), .val (.int c0), .val (.int c1), .val (.int c2), .val (.int c3), .val (.int (Int32.ofNat n)), .unset, .unset, .unset] [(.int ((((q4.toUInt32 >>> ((8 : Int32) &&& 31).toUInt32).toInt32) &&& (2147483647 : Int32)) % ((Int32.ofNat n) + (1 : Int32))))]) G := fun tq kq => K1209 tq (iremM X1192 hx rfl (hb hby at_45) rfl (own_np n hn4) kq)
  have K1211 : Go p e below T1192 (mkF m 48 #[.val (.int q0), .val (.int q1), .val (.int q2), .val (.int q3), .val (.int q4), .val (.int c0), .val (.int c1), .val (.int c2), .val (.int c3), .val (.int (Int32.ofNat n)), .val (.int ((((q4.toUInt32 >>> ((8 : Int32) &&& 31).toUInt32).toInt32) &&& (2147483647 : Int32)) % ((Int32.ofNat n) + (1 : Int32)))), .unset, .unset] []) G := fun tq kq => K1210 tq (XS.istore X1192.here hx rfl (hb hby at_46) rfl (l' := #[.val (.int q0), .val (.int q1), .val (.int q2), .val (.int q3), .val (.int q4), .val (.int c0), .val (.int c1), .val (.int c2), .val (.int c3), .val (.int (Int32.ofNat n)), .val (.int ((((q4.toUInt32 >>> ((8 : Int32) &&& 31).toUInt32).toInt32) &&& (2147483647 : Int32)) % ((Int32.ofNat n) + (1 : Int32)))), .unset, .unset]) rfl kq)
  obtain ⟨kk, hkn, hkE⟩ := own_k ((q4.toUInt32 >>> ((8 : Int32) &&& 31).toUInt32).toInt32) n hn4
  have K1212 : Go p e below T1192 (mkF m 48 #[.val (.int q0), .val (.int q1), .val (.int q2), .val (.int q3), .val (.int q4), .val (.int c0), .val (.int c1), .val (.int c2), .val (.int c3), .val (.int (Int32.ofNat n)), .val (.int (Int32.ofNat kk)), .unset, .unset] []) G := by rw [← hkE]; exact K1211
  have hup : ∀ c ∈ (own_tx (Int32.ofNat n) c0 c1 c2 c3), ¬ c < 0 ∧ ¬ (65535 : Int32) < c := by
    intro c hc
    have q := own_txm hc
    simp only [List.mem_cons, List.not_mem_nil, or_false] at q
    rcases q with rfl | rfl | rfl | rfl
    · exact R0.1
    · exact R1.1
    · exact R2.1
    · exact R3.1
  have K1213 : Go p e below T1192 (mkF m 50 #[.val (.int q0), .val (.int q1), .val (.int q2), .val (.int q3), .val (.int q4), .val (.int c0), .val (.int c1), .val (.int c2), .val (.int c3), .val (.int (Int32.ofNat n)), .val (.int (Int32.ofNat kk)), .unset, .unset] [(.int c0)]) G := fun tq kq => K1212 tq (XS.iload X1192.here hx rfl (hb hby at_48) rfl kq)
  have K1214 : Go p e below T1192 (mkF m 52 #[.val (.int q0), .val (.int q1), .val (.int q2), .val (.int q3), .val (.int q4), .val (.int c0), .val (.int c1), .val (.int c2), .val (.int c3), .val (.int (Int32.ofNat n)), .val (.int (Int32.ofNat kk)), .unset, .unset] [(.int c1), (.int c0)]) G := fun tq kq => K1213 tq (XS.iload X1192.here hx rfl (hb hby at_50) rfl kq)
  have K1215 : Go p e below T1192 (mkF m 54 #[.val (.int q0), .val (.int q1), .val (.int q2), .val (.int q3), .val (.int q4), .val (.int c0), .val (.int c1), .val (.int c2), .val (.int c3), .val (.int (Int32.ofNat n)), .val (.int (Int32.ofNat kk)), .unset, .unset] [(.int c2), (.int c1), (.int c0)]) G := fun tq kq => K1214 tq (XS.iload X1192.here hx rfl (hb hby at_52) rfl kq)
  have K1216 : Go p e below T1192 (mkF m 56 #[.val (.int q0), .val (.int q1), .val (.int q2), .val (.int q3), .val (.int q4), .val (.int c0), .val (.int c1), .val (.int c2), .val (.int c3), .val (.int (Int32.ofNat n)), .val (.int (Int32.ofNat kk)), .unset, .unset] [(.int c3), (.int c2), (.int c1), (.int c0)]) G := fun tq kq => K1215 tq (XS.iload X1192.here hx rfl (hb hby at_54) rfl kq)
  have K1217 : Go p e below T1192 (mkF m 58 #[.val (.int q0), .val (.int q1), .val (.int q2), .val (.int q3), .val (.int q4), .val (.int c0), .val (.int c1), .val (.int c2), .val (.int c3), .val (.int (Int32.ofNat n)), .val (.int (Int32.ofNat kk)), .unset, .unset] [(.int (Int32.ofNat n)), (.int c3), (.int c2), (.int c1), (.int c0)]) G := fun tq kq => K1216 tq (XS.iload X1192.here hx rfl (hb hby at_56) rfl kq)
  obtain ⟨v1218, _, ⟨T1218, L1218, k1218, n1218⟩, -, X1218, hSa1218, hgr1218, ⟨Lc1218, hQ1218, l1218, y1218, z1218, hCR1218⟩, st1218⟩ := callSS X1192 hx (y := (⟨"com/example/tallyrule/tallyrule/DecimalsDigitsFromPinLaw", "str", "(CCCCI)Ljava/lang/String;"⟩ : MethodName)) hown (mvT hZ (hW 5 _ rfl)) (mvT hZ (hW 6 _ rfl)) (mvT hZ (hW 2 _ rfl)) (mvT hZ (hW 7 _ rfl)) (by decide) (backOfSH (W := 0) (rmST l Z a0 hw [] c0 c1 c2 c3 (Int32.ofNat n) cz h0 n0 Z0 O0 S_cs hcz S_ad S_hi S_lo R0 R1 R2 R3) hZ (hW 7 _ rfl) (hW 2 _ rfl) (by decide) (by decide) hEL CR0.1) (g := (mkF m 58 #[.val (.int q0), .val (.int q1), .val (.int q2), .val (.int q3), .val (.int q4), .val (.int c0), .val (.int c1), .val (.int c2), .val (.int c3), .val (.int (Int32.ofNat n)), .val (.int (Int32.ofNat kk)), .unset, .unset] [(.int (Int32.ofNat n)), (.int c3), (.int c2), (.int c1), (.int c0)])) rfl (by rw [hml]; rfl) (argsL := [(.int c0), (.int c1), (.int c2), (.int c3), (.int (Int32.ofNat n))]) (rest := []) (lenOf pd_425 rfl) rfl (by show 2 * 0 + _ ≤ _; exact Nat.le_of_eq rfl) (hb hby at_58) (fun _ _ => ⟨rfl, E1192q, (by decide : 0 + 4 ≤ _), (by decide : 0 + 20 ≤ _)⟩)
  dsimp only [Pt.U, Pt.locs, Pt.cells, Pt.slots] at X1218 l1218 y1218 z1218 st1218 hQ1218 hSa1218 hgr1218 hCR1218
  subst l1218 y1218 z1218
  obtain ⟨X1218, hSb1218, hZ, hown⟩ := rebS hS0 (by first | exact (Nat.zero_le _) | (rw [E1192q]; exact (Nat.zero_le _))) X1218 hSa1218 hgr1218 hZ hown
  have CR1219 := CR0.trans (hCR1218)
  obtain ⟨r, tb, kb, cd, N2, vs, rfl, N1218q, K1218q, Er, Fv, Fc, Vt, Cd⟩ := hQ1218
  have N1218 := Fr.app N1192 N1218q
  have K1220 : Go p e below T1218 (mkF m 61 #[.val (.int q0), .val (.int q1), .val (.int q2), .val (.int q3), .val (.int q4), .val (.int c0), .val (.int c1), .val (.int c2), .val (.int c3), .val (.int (Int32.ofNat n)), .val (.int (Int32.ofNat kk)), .unset, .unset] [(.ref r)]) G := fun tq kq => K1217 tq (st1218.trans kq)
  have K1221 : Go p e below T1218 (mkF m 63 #[.val (.int q0), .val (.int q1), .val (.int q2), .val (.int q3), .val (.int q4), .val (.int c0), .val (.int c1), .val (.int c2), .val (.int c3), .val (.int (Int32.ofNat n)), .val (.int (Int32.ofNat kk)), .val (.ref r), .unset] []) G := fun tq kq => K1220 tq (XS.astore X1218.here hx rfl (hb hby at_61) rfl rfl (l' := #[.val (.int q0), .val (.int q1), .val (.int q2), .val (.int q3), .val (.int q4), .val (.int c0), .val (.int c1), .val (.int c2), .val (.int c3), .val (.int (Int32.ofNat n)), .val (.int (Int32.ofNat kk)), .val (.ref r), .unset]) rfl kq)
  have K1222 : Go p e below T1218 (mkF m 65 #[.val (.int q0), .val (.int q1), .val (.int q2), .val (.int q3), .val (.int q4), .val (.int c0), .val (.int c1), .val (.int c2), .val (.int c3), .val (.int (Int32.ofNat n)), .val (.int (Int32.ofNat kk)), .val (.ref r), .unset] [(.int (Int32.ofNat n))]) G := fun tq kq => K1221 tq (XS.iload X1218.here hx rfl (hb hby at_63) rfl kq)
  have K1223 : Go p e below T1218 (mkF m 67 #[.val (.int q0), .val (.int q1), .val (.int q2), .val (.int q3), .val (.int q4), .val (.int c0), .val (.int c1), .val (.int c2), .val (.int c3), .val (.int (Int32.ofNat n)), .val (.int (Int32.ofNat kk)), .val (.ref r), .val (.int (Int32.ofNat n))] []) G := fun tq kq => K1222 tq (XS.istore X1218.here hx rfl (hb hby at_65) rfl (l' := #[.val (.int q0), .val (.int q1), .val (.int q2), .val (.int q3), .val (.int q4), .val (.int c0), .val (.int c1), .val (.int c2), .val (.int c3), .val (.int (Int32.ofNat n)), .val (.int (Int32.ofNat kk)), .val (.ref r), .val (.int (Int32.ofNat n))]) rfl kq)
  obtain ⟨Tj1224, Lj1224, rr3, Xj1224, ej1224, Nj1224, hj1224, Kj1224⟩ : ∃ (Tj : State) (Lj : List Loc) (rr3 : Int32), Stand p l e room_1 (s.setVm T1218.vm) m #[(.int q0), (.int q1), (.int q2), (.int q3), (.int q4)] below meth c Tj Lj 4 20 ∧ Tj.heap = T1218.heap ∧ Fr n0 Lj ∧ (own_J (3 : Int32) (Int32.ofNat kk) (Int32.ofNat n) c3 (Int32.ofNat n) rr3) ∧ Go p e below Tj (mkF m 90 #[.val (.int q0), .val (.int q1), .val (.int q2), .val (.int q3), .val (.int q4), .val (.int c0), .val (.int c1), .val (.int c2), .val (.int c3), .val (.int (Int32.ofNat n)), .val (.int (Int32.ofNat kk)), .val (.ref r), .val (.int rr3)] []) G := by
    have K1225 : Go p e below T1218 (mkF m 68 #[.val (.int q0), .val (.int q1), .val (.int q2), .val (.int q3), .val (.int q4), .val (.int c0), .val (.int c1), .val (.int c2), .val (.int c3), .val (.int (Int32.ofNat n)), .val (.int (Int32.ofNat kk)), .val (.ref r), .val (.int (Int32.ofNat n))] [(.int (3 : Int32))]) G := fun tq kq => K1223 tq (XS.iconst X1218.here hx rfl (hb hby at_67) kq)
    have K1226 : Go p e below T1218 (mkF m 70 #[.val (.int q0), .val (.int q1), .val (.int q2), .val (.int q3), .val (.int q4), .val (.int c0), .val (.int c1), .val (.int c2), .val (.int c3), .val (.int (Int32.ofNat n)), .val (.int (Int32.ofNat kk)), .val (.ref r), .val (.int (Int32.ofNat n))] [(.int (Int32.ofNat kk)), (.int (3 : Int32))]) G := fun tq kq => K1225 tq (XS.iload X1218.here hx rfl (hb hby at_68) rfl kq)
    by_cases hc1227 : (3 : Int32) < (Int32.ofNat kk)
    · skip
      have K1228 : Go p e below T1218 (mkF m 90 #[.val (.int q0), .val (.int q1), .val (.int q2), .val (.int q3), .val (.int q4), .val (.int c0), .val (.int c1), .val (.int c2), .val (.int c3), .val (.int (Int32.ofNat n)), .val (.int (Int32.ofNat kk)), .val (.ref r), .val (.int (Int32.ofNat n))] []) G := fun tq kq => K1226 tq (XS.icmpYes X1218.here hx rfl (pc0 := 70) (pc' := 90) rfl (hb hby at_70) rfl ((tlt hc1227).1) (by decide) (by decide) kq)
      refine ⟨T1218, _, (Int32.ofNat n), X1218, rfl, N1218, ?_, K1228⟩
      exact (if_neg (fun q => q.1 hc1227)).symm
    · skip
      have K1229 : Go p e below T1218 (mkF m 73 #[.val (.int q0), .val (.int q1), .val (.int q2), .val (.int q3), .val (.int q4), .val (.int c0), .val (.int c1), .val (.int c2), .val (.int c3), .val (.int (Int32.ofNat n)), .val (.int (Int32.ofNat kk)), .val (.ref r), .val (.int (Int32.ofNat n))] []) G := fun tq kq => K1226 tq (XS.icmpNo X1218.here hx rfl (hb hby at_70) rfl ((flt hc1227).1) kq)
      have K1230 : Go p e below T1218 (mkF m 74 #[.val (.int q0), .val (.int q1), .val (.int q2), .val (.int q3), .val (.int q4), .val (.int c0), .val (.int c1), .val (.int c2), .val (.int c3), .val (.int (Int32.ofNat n)), .val (.int (Int32.ofNat kk)), .val (.ref r), .val (.int (Int32.ofNat n))] [(.int (3 : Int32))]) G := fun tq kq => K1229 tq (XS.iconst X1218.here hx rfl (hb hby at_73) kq)
      have K1231 : Go p e below T1218 (mkF m 76 #[.val (.int q0), .val (.int q1), .val (.int q2), .val (.int q3), .val (.int q4), .val (.int c0), .val (.int c1), .val (.int c2), .val (.int c3), .val (.int (Int32.ofNat n)), .val (.int (Int32.ofNat kk)), .val (.ref r), .val (.int (Int32.ofNat n))] [(.int (Int32.ofNat n)), (.int (3 : Int32))]) G := fun tq kq => K1230 tq (XS.iload X1218.here hx rfl (hb hby at_74) rfl kq)
      by_cases hc1232 : (3 : Int32) < (Int32.ofNat n)
      · skip
        have K1233 : Go p e below T1218 (mkF m 79 #[.val (.int q0), .val (.int q1), .val (.int q2), .val (.int q3), .val (.int q4), .val (.int c0), .val (.int c1), .val (.int c2), .val (.int c3), .val (.int (Int32.ofNat n)), .val (.int (Int32.ofNat kk)), .val (.ref r), .val (.int (Int32.ofNat n))] []) G := fun tq kq => K1231 tq (XS.icmpNo X1218.here hx rfl (hb hby at_76) rfl ((tlt hc1232).2.1) kq)
        have K1234 : Go p e below T1218 (mkF m 81 #[.val (.int q0), .val (.int q1), .val (.int q2), .val (.int q3), .val (.int q4), .val (.int c0), .val (.int c1), .val (.int c2), .val (.int c3), .val (.int (Int32.ofNat n)), .val (.int (Int32.ofNat kk)), .val (.ref r), .val (.int (Int32.ofNat n))] [(.int c3)]) G := fun tq kq => K1233 tq (XS.iload X1218.here hx rfl (hb hby at_79) rfl kq)
        obtain ⟨v1235, _, ⟨T1235, L1235, k1235, n1235⟩, -, X1235, ⟨Lc1235, hQ1235, l1235, y1235, z1235⟩, st1235⟩ := Jvm.LawKit.callS X1218 hx (y := (⟨"com/example/tallyrule/tallyrule/DecimalsDigitsFromPinLaw", "dig", "(C)Z"⟩ : MethodName)) hown (mvT hZ (hW 55 _ rfl)) (mvT hZ (hW 56 _ rfl)) (mvT hZ (hW 2 _ rfl)) (mvT hZ (hW 57 _ rfl)) (by decide) (backOf (W := 0) (rmDG l Z a0 hw [] c3 T1218.heap n0 (Nat.le_trans Z0 K1218q.1)) hZ (hW 57 _ rfl) (hW 2 _ rfl) (by decide) (by decide)) (g := (mkF m 81 #[.val (.int q0), .val (.int q1), .val (.int q2), .val (.int q3), .val (.int q4), .val (.int c0), .val (.int c1), .val (.int c2), .val (.int c3), .val (.int (Int32.ofNat n)), .val (.int (Int32.ofNat kk)), .val (.ref r), .val (.int (Int32.ofNat n))] [(.int c3)])) rfl (by rw [hml]; rfl) (argsL := [(.int c3)]) (rest := []) (lenOf pd_426 rfl) rfl (by show 2 * 0 + _ ≤ _; exact Nat.le_of_eq rfl) (hb hby at_81) (fun _ _ => ⟨rfl, rfl, (by decide : 4 + 0 ≤ _), (by decide : 20 + 0 ≤ _)⟩)
        dsimp only [Pt.U, Pt.locs, Pt.cells, Pt.slots] at X1235 l1235 y1235 z1235 st1235 hQ1235
        subst l1235 y1235 z1235
        by_cases hc1236 : ¬ (c3 < (48 : Int32)) ∧ c3 < (58 : Int32)
        · skip
          rw [QDG, if_pos hc1236] at hQ1235
          obtain ⟨rfl, N1235q, E1235q⟩ := hQ1235
          have N1235 := Fr.app N1218 N1235q
          have K1237 : Go p e below T1235 (mkF m 84 #[.val (.int q0), .val (.int q1), .val (.int q2), .val (.int q3), .val (.int q4), .val (.int c0), .val (.int c1), .val (.int c2), .val (.int c3), .val (.int (Int32.ofNat n)), .val (.int (Int32.ofNat kk)), .val (.ref r), .val (.int (Int32.ofNat n))] [(.int (1 : Int32))]) G := fun tq kq => K1234 tq (st1235 tq kq)
          have K1238 : Go p e below T1235 (mkF m 90 #[.val (.int q0), .val (.int q1), .val (.int q2), .val (.int q3), .val (.int q4), .val (.int c0), .val (.int c1), .val (.int c2), .val (.int c3), .val (.int (Int32.ofNat n)), .val (.int (Int32.ofNat kk)), .val (.ref r), .val (.int (Int32.ofNat n))] []) G := fun tq kq => K1237 tq (XS.ifYes X1235.here hx rfl (pc0 := 84) (pc' := 90) rfl (hb hby at_84) rfl ((if0 _ _).trans (feq (by decide : ¬ ((1 : Int32) = (0 : Int32)))).2) (by decide) (by decide) kq)
          refine ⟨T1235, _, (Int32.ofNat n), X1235, E1235q, N1235, ?_, K1238⟩
          exact (if_neg (fun q => q.2.2 hc1236)).symm
        · skip
          rw [QDG, if_neg hc1236] at hQ1235
          obtain ⟨rfl, N1235q, E1235q⟩ := hQ1235
          have N1235 := Fr.app N1218 N1235q
          have K1239 : Go p e below T1235 (mkF m 84 #[.val (.int q0), .val (.int q1), .val (.int q2), .val (.int q3), .val (.int q4), .val (.int c0), .val (.int c1), .val (.int c2), .val (.int c3), .val (.int (Int32.ofNat n)), .val (.int (Int32.ofNat kk)), .val (.ref r), .val (.int (Int32.ofNat n))] [(.int (0 : Int32))]) G := fun tq kq => K1234 tq (st1235 tq kq)
          have K1240 : Go p e below T1235 (mkF m 87 #[.val (.int q0), .val (.int q1), .val (.int q2), .val (.int q3), .val (.int q4), .val (.int c0), .val (.int c1), .val (.int c2), .val (.int c3), .val (.int (Int32.ofNat n)), .val (.int (Int32.ofNat kk)), .val (.ref r), .val (.int (Int32.ofNat n))] []) G := fun tq kq => K1239 tq (XS.ifNo X1235.here hx rfl (hb hby at_84) rfl ((if0 _ _).trans (teq (by decide : (0 : Int32) = (0 : Int32))).2) kq)
          have K1241 : Go p e below T1235 (mkF m 88 #[.val (.int q0), .val (.int q1), .val (.int q2), .val (.int q3), .val (.int q4), .val (.int c0), .val (.int c1), .val (.int c2), .val (.int c3), .val (.int (Int32.ofNat n)), .val (.int (Int32.ofNat kk)), .val (.ref r), .val (.int (Int32.ofNat n))] [(.int (3 : Int32))]) G := fun tq kq => K1240 tq (XS.iconst X1235.here hx rfl (hb hby at_87) kq)
          have K1242 : Go p e below T1235 (mkF m 90 #[.val (.int q0), .val (.int q1), .val (.int q2), .val (.int q3), .val (.int q4), .val (.int c0), .val (.int c1), .val (.int c2), .val (.int c3), .val (.int (Int32.ofNat n)), .val (.int (Int32.ofNat kk)), .val (.ref r), .val (.int (3 : Int32))] []) G := fun tq kq => K1241 tq (XS.istore X1235.here hx rfl (hb hby at_88) rfl (l' := #[.val (.int q0), .val (.int q1), .val (.int q2), .val (.int q3), .val (.int q4), .val (.int c0), .val (.int c1), .val (.int c2), .val (.int c3), .val (.int (Int32.ofNat n)), .val (.int (Int32.ofNat kk)), .val (.ref r), .val (.int (3 : Int32))]) rfl kq)
          refine ⟨T1235, _, (3 : Int32), X1235, E1235q, N1235, ?_, K1242⟩
          exact (if_pos ⟨hc1227, hc1232, hc1236⟩).symm
      · skip
        have K1243 : Go p e below T1218 (mkF m 90 #[.val (.int q0), .val (.int q1), .val (.int q2), .val (.int q3), .val (.int q4), .val (.int c0), .val (.int c1), .val (.int c2), .val (.int c3), .val (.int (Int32.ofNat n)), .val (.int (Int32.ofNat kk)), .val (.ref r), .val (.int (Int32.ofNat n))] []) G := fun tq kq => K1231 tq (XS.icmpYes X1218.here hx rfl (pc0 := 76) (pc' := 90) rfl (hb hby at_76) rfl ((flt hc1232).2.1) (by decide) (by decide) kq)
        refine ⟨T1218, _, (Int32.ofNat n), X1218, rfl, N1218, ?_, K1243⟩
        exact (if_neg (fun q => hc1232 q.2.1)).symm
  have h_rr3 := hj1224
  obtain ⟨Tj1244, Lj1244, rr2, Xj1244, ej1244, Nj1244, hj1244, Kj1244⟩ : ∃ (Tj : State) (Lj : List Loc) (rr2 : Int32), Stand p l e room_1 (s.setVm T1218.vm) m #[(.int q0), (.int q1), (.int q2), (.int q3), (.int q4)] below meth c Tj Lj 4 20 ∧ Tj.heap = T1218.heap ∧ Fr n0 Lj ∧ (own_J (2 : Int32) (Int32.ofNat kk) (Int32.ofNat n) c2 rr3 rr2) ∧ Go p e below Tj (mkF m 113 #[.val (.int q0), .val (.int q1), .val (.int q2), .val (.int q3), .val (.int q4), .val (.int c0), .val (.int c1), .val (.int c2), .val (.int c3), .val (.int (Int32.ofNat n)), .val (.int (Int32.ofNat kk)), .val (.ref r), .val (.int rr2)] []) G := by
    have K1245 : Go p e below Tj1224 (mkF m 91 #[.val (.int q0), .val (.int q1), .val (.int q2), .val (.int q3), .val (.int q4), .val (.int c0), .val (.int c1), .val (.int c2), .val (.int c3), .val (.int (Int32.ofNat n)), .val (.int (Int32.ofNat kk)), .val (.ref r), .val (.int rr3)] [(.int (2 : Int32))]) G := fun tq kq => Kj1224 tq (XS.iconst Xj1224.here hx rfl (hb hby at_90) kq)
    have K1246 : Go p e below Tj1224 (mkF m 93 #[.val (.int q0), .val (.int q1), .val (.int q2), .val (.int q3), .val (.int q4), .val (.int c0), .val (.int c1), .val (.int c2), .val (.int c3), .val (.int (Int32.ofNat n)), .val (.int (Int32.ofNat kk)), .val (.ref r), .val (.int rr3)] [(.int (Int32.ofNat kk)), (.int (2 : Int32))]) G := fun tq kq => K1245 tq (XS.iload Xj1224.here hx rfl (hb hby at_91) rfl kq)
    by_cases hc1247 : (2 : Int32) < (Int32.ofNat kk)
    · skip
      have K1248 : Go p e below Tj1224 (mkF m 113 #[.val (.int q0), .val (.int q1), .val (.int q2), .val (.int q3), .val (.int q4), .val (.int c0), .val (.int c1), .val (.int c2), .val (.int c3), .val (.int (Int32.ofNat n)), .val (.int (Int32.ofNat kk)), .val (.ref r), .val (.int rr3)] []) G := fun tq kq => K1246 tq (XS.icmpYes Xj1224.here hx rfl (pc0 := 93) (pc' := 113) rfl (hb hby at_93) rfl ((tlt hc1247).1) (by decide) (by decide) kq)
      refine ⟨Tj1224, _, rr3, Xj1224, ej1224, Nj1224, ?_, K1248⟩
      exact (if_neg (fun q => q.1 hc1247)).symm
    · skip
      have K1249 : Go p e below Tj1224 (mkF m 96 #[.val (.int q0), .val (.int q1), .val (.int q2), .val (.int q3), .val (.int q4), .val (.int c0), .val (.int c1), .val (.int c2), .val (.int c3), .val (.int (Int32.ofNat n)), .val (.int (Int32.ofNat kk)), .val (.ref r), .val (.int rr3)] []) G := fun tq kq => K1246 tq (XS.icmpNo Xj1224.here hx rfl (hb hby at_93) rfl ((flt hc1247).1) kq)
      have K1250 : Go p e below Tj1224 (mkF m 97 #[.val (.int q0), .val (.int q1), .val (.int q2), .val (.int q3), .val (.int q4), .val (.int c0), .val (.int c1), .val (.int c2), .val (.int c3), .val (.int (Int32.ofNat n)), .val (.int (Int32.ofNat kk)), .val (.ref r), .val (.int rr3)] [(.int (2 : Int32))]) G := fun tq kq => K1249 tq (XS.iconst Xj1224.here hx rfl (hb hby at_96) kq)
      have K1251 : Go p e below Tj1224 (mkF m 99 #[.val (.int q0), .val (.int q1), .val (.int q2), .val (.int q3), .val (.int q4), .val (.int c0), .val (.int c1), .val (.int c2), .val (.int c3), .val (.int (Int32.ofNat n)), .val (.int (Int32.ofNat kk)), .val (.ref r), .val (.int rr3)] [(.int (Int32.ofNat n)), (.int (2 : Int32))]) G := fun tq kq => K1250 tq (XS.iload Xj1224.here hx rfl (hb hby at_97) rfl kq)
      by_cases hc1252 : (2 : Int32) < (Int32.ofNat n)
      · skip
        have K1253 : Go p e below Tj1224 (mkF m 102 #[.val (.int q0), .val (.int q1), .val (.int q2), .val (.int q3), .val (.int q4), .val (.int c0), .val (.int c1), .val (.int c2), .val (.int c3), .val (.int (Int32.ofNat n)), .val (.int (Int32.ofNat kk)), .val (.ref r), .val (.int rr3)] []) G := fun tq kq => K1251 tq (XS.icmpNo Xj1224.here hx rfl (hb hby at_99) rfl ((tlt hc1252).2.1) kq)
        have K1254 : Go p e below Tj1224 (mkF m 104 #[.val (.int q0), .val (.int q1), .val (.int q2), .val (.int q3), .val (.int q4), .val (.int c0), .val (.int c1), .val (.int c2), .val (.int c3), .val (.int (Int32.ofNat n)), .val (.int (Int32.ofNat kk)), .val (.ref r), .val (.int rr3)] [(.int c2)]) G := fun tq kq => K1253 tq (XS.iload Xj1224.here hx rfl (hb hby at_102) rfl kq)
        obtain ⟨v1255, _, ⟨T1255, L1255, k1255, n1255⟩, -, X1255, ⟨Lc1255, hQ1255, l1255, y1255, z1255⟩, st1255⟩ := Jvm.LawKit.callS Xj1224 hx (y := (⟨"com/example/tallyrule/tallyrule/DecimalsDigitsFromPinLaw", "dig", "(C)Z"⟩ : MethodName)) hown (mvT hZ (hW 55 _ rfl)) (mvT hZ (hW 56 _ rfl)) (mvT hZ (hW 2 _ rfl)) (mvT hZ (hW 57 _ rfl)) (by decide) (backOf (W := 0) (rmDG l Z a0 hw [] c2 T1218.heap n0 (Nat.le_trans Z0 K1218q.1)) hZ (hW 57 _ rfl) (hW 2 _ rfl) (by decide) (by decide)) (g := (mkF m 104 #[.val (.int q0), .val (.int q1), .val (.int q2), .val (.int q3), .val (.int q4), .val (.int c0), .val (.int c1), .val (.int c2), .val (.int c3), .val (.int (Int32.ofNat n)), .val (.int (Int32.ofNat kk)), .val (.ref r), .val (.int rr3)] [(.int c2)])) rfl (by rw [hml]; rfl) (argsL := [(.int c2)]) (rest := []) (lenOf pd_426 rfl) rfl (by show 2 * 0 + _ ≤ _; exact Nat.le_of_eq rfl) (hb hby at_104) (fun _ _ => ⟨rfl, ej1224, (by decide : 4 + 0 ≤ _), (by decide : 20 + 0 ≤ _)⟩)
        dsimp only [Pt.U, Pt.locs, Pt.cells, Pt.slots] at X1255 l1255 y1255 z1255 st1255 hQ1255
        subst l1255 y1255 z1255
        by_cases hc1256 : ¬ (c2 < (48 : Int32)) ∧ c2 < (58 : Int32)
        · skip
          rw [QDG, if_pos hc1256] at hQ1255
          obtain ⟨rfl, N1255q, E1255q⟩ := hQ1255
          have N1255 := Fr.app Nj1224 N1255q
          have K1257 : Go p e below T1255 (mkF m 107 #[.val (.int q0), .val (.int q1), .val (.int q2), .val (.int q3), .val (.int q4), .val (.int c0), .val (.int c1), .val (.int c2), .val (.int c3), .val (.int (Int32.ofNat n)), .val (.int (Int32.ofNat kk)), .val (.ref r), .val (.int rr3)] [(.int (1 : Int32))]) G := fun tq kq => K1254 tq (st1255 tq kq)
          have K1258 : Go p e below T1255 (mkF m 113 #[.val (.int q0), .val (.int q1), .val (.int q2), .val (.int q3), .val (.int q4), .val (.int c0), .val (.int c1), .val (.int c2), .val (.int c3), .val (.int (Int32.ofNat n)), .val (.int (Int32.ofNat kk)), .val (.ref r), .val (.int rr3)] []) G := fun tq kq => K1257 tq (XS.ifYes X1255.here hx rfl (pc0 := 107) (pc' := 113) rfl (hb hby at_107) rfl ((if0 _ _).trans (feq (by decide : ¬ ((1 : Int32) = (0 : Int32)))).2) (by decide) (by decide) kq)
          refine ⟨T1255, _, rr3, X1255, E1255q, N1255, ?_, K1258⟩
          exact (if_neg (fun q => q.2.2 hc1256)).symm
        · skip
          rw [QDG, if_neg hc1256] at hQ1255
          obtain ⟨rfl, N1255q, E1255q⟩ := hQ1255
          have N1255 := Fr.app Nj1224 N1255q
          have K1259 : Go p e below T1255 (mkF m 107 #[.val (.int q0), .val (.int q1), .val (.int q2), .val (.int q3), .val (.int q4), .val (.int c0), .val (.int c1), .val (.int c2), .val (.int c3), .val (.int (Int32.ofNat n)), .val (.int (Int32.ofNat kk)), .val (.ref r), .val (.int rr3)] [(.int (0 : Int32))]) G := fun tq kq => K1254 tq (st1255 tq kq)
          have K1260 : Go p e below T1255 (mkF m 110 #[.val (.int q0), .val (.int q1), .val (.int q2), .val (.int q3), .val (.int q4), .val (.int c0), .val (.int c1), .val (.int c2), .val (.int c3), .val (.int (Int32.ofNat n)), .val (.int (Int32.ofNat kk)), .val (.ref r), .val (.int rr3)] []) G := fun tq kq => K1259 tq (XS.ifNo X1255.here hx rfl (hb hby at_107) rfl ((if0 _ _).trans (teq (by decide : (0 : Int32) = (0 : Int32))).2) kq)
          have K1261 : Go p e below T1255 (mkF m 111 #[.val (.int q0), .val (.int q1), .val (.int q2), .val (.int q3), .val (.int q4), .val (.int c0), .val (.int c1), .val (.int c2), .val (.int c3), .val (.int (Int32.ofNat n)), .val (.int (Int32.ofNat kk)), .val (.ref r), .val (.int rr3)] [(.int (2 : Int32))]) G := fun tq kq => K1260 tq (XS.iconst X1255.here hx rfl (hb hby at_110) kq)
          have K1262 : Go p e below T1255 (mkF m 113 #[.val (.int q0), .val (.int q1), .val (.int q2), .val (.int q3), .val (.int q4), .val (.int c0), .val (.int c1), .val (.int c2), .val (.int c3), .val (.int (Int32.ofNat n)), .val (.int (Int32.ofNat kk)), .val (.ref r), .val (.int (2 : Int32))] []) G := fun tq kq => K1261 tq (XS.istore X1255.here hx rfl (hb hby at_111) rfl (l' := #[.val (.int q0), .val (.int q1), .val (.int q2), .val (.int q3), .val (.int q4), .val (.int c0), .val (.int c1), .val (.int c2), .val (.int c3), .val (.int (Int32.ofNat n)), .val (.int (Int32.ofNat kk)), .val (.ref r), .val (.int (2 : Int32))]) rfl kq)
          refine ⟨T1255, _, (2 : Int32), X1255, E1255q, N1255, ?_, K1262⟩
          exact (if_pos ⟨hc1247, hc1252, hc1256⟩).symm
      · skip
        have K1263 : Go p e below Tj1224 (mkF m 113 #[.val (.int q0), .val (.int q1), .val (.int q2), .val (.int q3), .val (.int q4), .val (.int c0), .val (.int c1), .val (.int c2), .val (.int c3), .val (.int (Int32.ofNat n)), .val (.int (Int32.ofNat kk)), .val (.ref r), .val (.int rr3)] []) G := fun tq kq => K1251 tq (XS.icmpYes Xj1224.here hx rfl (pc0 := 99) (pc' := 113) rfl (hb hby at_99) rfl ((flt hc1252).2.1) (by decide) (by decide) kq)
        refine ⟨Tj1224, _, rr3, Xj1224, ej1224, Nj1224, ?_, K1263⟩
        exact (if_neg (fun q => hc1252 q.2.1)).symm
  have h_rr2 := hj1244
  obtain ⟨Tj1264, Lj1264, rr1, Xj1264, ej1264, Nj1264, hj1264, Kj1264⟩ : ∃ (Tj : State) (Lj : List Loc) (rr1 : Int32), Stand p l e room_1 (s.setVm T1218.vm) m #[(.int q0), (.int q1), (.int q2), (.int q3), (.int q4)] below meth c Tj Lj 4 20 ∧ Tj.heap = T1218.heap ∧ Fr n0 Lj ∧ (own_J (1 : Int32) (Int32.ofNat kk) (Int32.ofNat n) c1 rr2 rr1) ∧ Go p e below Tj (mkF m 136 #[.val (.int q0), .val (.int q1), .val (.int q2), .val (.int q3), .val (.int q4), .val (.int c0), .val (.int c1), .val (.int c2), .val (.int c3), .val (.int (Int32.ofNat n)), .val (.int (Int32.ofNat kk)), .val (.ref r), .val (.int rr1)] []) G := by
    have K1265 : Go p e below Tj1244 (mkF m 114 #[.val (.int q0), .val (.int q1), .val (.int q2), .val (.int q3), .val (.int q4), .val (.int c0), .val (.int c1), .val (.int c2), .val (.int c3), .val (.int (Int32.ofNat n)), .val (.int (Int32.ofNat kk)), .val (.ref r), .val (.int rr2)] [(.int (1 : Int32))]) G := fun tq kq => Kj1244 tq (XS.iconst Xj1244.here hx rfl (hb hby at_113) kq)
    have K1266 : Go p e below Tj1244 (mkF m 116 #[.val (.int q0), .val (.int q1), .val (.int q2), .val (.int q3), .val (.int q4), .val (.int c0), .val (.int c1), .val (.int c2), .val (.int c3), .val (.int (Int32.ofNat n)), .val (.int (Int32.ofNat kk)), .val (.ref r), .val (.int rr2)] [(.int (Int32.ofNat kk)), (.int (1 : Int32))]) G := fun tq kq => K1265 tq (XS.iload Xj1244.here hx rfl (hb hby at_114) rfl kq)
    by_cases hc1267 : (1 : Int32) < (Int32.ofNat kk)
    · skip
      have K1268 : Go p e below Tj1244 (mkF m 136 #[.val (.int q0), .val (.int q1), .val (.int q2), .val (.int q3), .val (.int q4), .val (.int c0), .val (.int c1), .val (.int c2), .val (.int c3), .val (.int (Int32.ofNat n)), .val (.int (Int32.ofNat kk)), .val (.ref r), .val (.int rr2)] []) G := fun tq kq => K1266 tq (XS.icmpYes Xj1244.here hx rfl (pc0 := 116) (pc' := 136) rfl (hb hby at_116) rfl ((tlt hc1267).1) (by decide) (by decide) kq)
      refine ⟨Tj1244, _, rr2, Xj1244, ej1244, Nj1244, ?_, K1268⟩
      exact (if_neg (fun q => q.1 hc1267)).symm
    · skip
      have K1269 : Go p e below Tj1244 (mkF m 119 #[.val (.int q0), .val (.int q1), .val (.int q2), .val (.int q3), .val (.int q4), .val (.int c0), .val (.int c1), .val (.int c2), .val (.int c3), .val (.int (Int32.ofNat n)), .val (.int (Int32.ofNat kk)), .val (.ref r), .val (.int rr2)] []) G := fun tq kq => K1266 tq (XS.icmpNo Xj1244.here hx rfl (hb hby at_116) rfl ((flt hc1267).1) kq)
      have K1270 : Go p e below Tj1244 (mkF m 120 #[.val (.int q0), .val (.int q1), .val (.int q2), .val (.int q3), .val (.int q4), .val (.int c0), .val (.int c1), .val (.int c2), .val (.int c3), .val (.int (Int32.ofNat n)), .val (.int (Int32.ofNat kk)), .val (.ref r), .val (.int rr2)] [(.int (1 : Int32))]) G := fun tq kq => K1269 tq (XS.iconst Xj1244.here hx rfl (hb hby at_119) kq)
      have K1271 : Go p e below Tj1244 (mkF m 122 #[.val (.int q0), .val (.int q1), .val (.int q2), .val (.int q3), .val (.int q4), .val (.int c0), .val (.int c1), .val (.int c2), .val (.int c3), .val (.int (Int32.ofNat n)), .val (.int (Int32.ofNat kk)), .val (.ref r), .val (.int rr2)] [(.int (Int32.ofNat n)), (.int (1 : Int32))]) G := fun tq kq => K1270 tq (XS.iload Xj1244.here hx rfl (hb hby at_120) rfl kq)
      by_cases hc1272 : (1 : Int32) < (Int32.ofNat n)
      · skip
        have K1273 : Go p e below Tj1244 (mkF m 125 #[.val (.int q0), .val (.int q1), .val (.int q2), .val (.int q3), .val (.int q4), .val (.int c0), .val (.int c1), .val (.int c2), .val (.int c3), .val (.int (Int32.ofNat n)), .val (.int (Int32.ofNat kk)), .val (.ref r), .val (.int rr2)] []) G := fun tq kq => K1271 tq (XS.icmpNo Xj1244.here hx rfl (hb hby at_122) rfl ((tlt hc1272).2.1) kq)
        have K1274 : Go p e below Tj1244 (mkF m 127 #[.val (.int q0), .val (.int q1), .val (.int q2), .val (.int q3), .val (.int q4), .val (.int c0), .val (.int c1), .val (.int c2), .val (.int c3), .val (.int (Int32.ofNat n)), .val (.int (Int32.ofNat kk)), .val (.ref r), .val (.int rr2)] [(.int c1)]) G := fun tq kq => K1273 tq (XS.iload Xj1244.here hx rfl (hb hby at_125) rfl kq)
        obtain ⟨v1275, _, ⟨T1275, L1275, k1275, n1275⟩, -, X1275, ⟨Lc1275, hQ1275, l1275, y1275, z1275⟩, st1275⟩ := Jvm.LawKit.callS Xj1244 hx (y := (⟨"com/example/tallyrule/tallyrule/DecimalsDigitsFromPinLaw", "dig", "(C)Z"⟩ : MethodName)) hown (mvT hZ (hW 55 _ rfl)) (mvT hZ (hW 56 _ rfl)) (mvT hZ (hW 2 _ rfl)) (mvT hZ (hW 57 _ rfl)) (by decide) (backOf (W := 0) (rmDG l Z a0 hw [] c1 T1218.heap n0 (Nat.le_trans Z0 K1218q.1)) hZ (hW 57 _ rfl) (hW 2 _ rfl) (by decide) (by decide)) (g := (mkF m 127 #[.val (.int q0), .val (.int q1), .val (.int q2), .val (.int q3), .val (.int q4), .val (.int c0), .val (.int c1), .val (.int c2), .val (.int c3), .val (.int (Int32.ofNat n)), .val (.int (Int32.ofNat kk)), .val (.ref r), .val (.int rr2)] [(.int c1)])) rfl (by rw [hml]; rfl) (argsL := [(.int c1)]) (rest := []) (lenOf pd_426 rfl) rfl (by show 2 * 0 + _ ≤ _; exact Nat.le_of_eq rfl) (hb hby at_127) (fun _ _ => ⟨rfl, ej1244, (by decide : 4 + 0 ≤ _), (by decide : 20 + 0 ≤ _)⟩)
        dsimp only [Pt.U, Pt.locs, Pt.cells, Pt.slots] at X1275 l1275 y1275 z1275 st1275 hQ1275
        subst l1275 y1275 z1275
        by_cases hc1276 : ¬ (c1 < (48 : Int32)) ∧ c1 < (58 : Int32)
        · skip
          rw [QDG, if_pos hc1276] at hQ1275
          obtain ⟨rfl, N1275q, E1275q⟩ := hQ1275
          have N1275 := Fr.app Nj1244 N1275q
          have K1277 : Go p e below T1275 (mkF m 130 #[.val (.int q0), .val (.int q1), .val (.int q2), .val (.int q3), .val (.int q4), .val (.int c0), .val (.int c1), .val (.int c2), .val (.int c3), .val (.int (Int32.ofNat n)), .val (.int (Int32.ofNat kk)), .val (.ref r), .val (.int rr2)] [(.int (1 : Int32))]) G := fun tq kq => K1274 tq (st1275 tq kq)
          have K1278 : Go p e below T1275 (mkF m 136 #[.val (.int q0), .val (.int q1), .val (.int q2), .val (.int q3), .val (.int q4), .val (.int c0), .val (.int c1), .val (.int c2), .val (.int c3), .val (.int (Int32.ofNat n)), .val (.int (Int32.ofNat kk)), .val (.ref r), .val (.int rr2)] []) G := fun tq kq => K1277 tq (XS.ifYes X1275.here hx rfl (pc0 := 130) (pc' := 136) rfl (hb hby at_130) rfl ((if0 _ _).trans (feq (by decide : ¬ ((1 : Int32) = (0 : Int32)))).2) (by decide) (by decide) kq)
          refine ⟨T1275, _, rr2, X1275, E1275q, N1275, ?_, K1278⟩
          exact (if_neg (fun q => q.2.2 hc1276)).symm
        · skip
          rw [QDG, if_neg hc1276] at hQ1275
          obtain ⟨rfl, N1275q, E1275q⟩ := hQ1275
          have N1275 := Fr.app Nj1244 N1275q
          have K1279 : Go p e below T1275 (mkF m 130 #[.val (.int q0), .val (.int q1), .val (.int q2), .val (.int q3), .val (.int q4), .val (.int c0), .val (.int c1), .val (.int c2), .val (.int c3), .val (.int (Int32.ofNat n)), .val (.int (Int32.ofNat kk)), .val (.ref r), .val (.int rr2)] [(.int (0 : Int32))]) G := fun tq kq => K1274 tq (st1275 tq kq)
          have K1280 : Go p e below T1275 (mkF m 133 #[.val (.int q0), .val (.int q1), .val (.int q2), .val (.int q3), .val (.int q4), .val (.int c0), .val (.int c1), .val (.int c2), .val (.int c3), .val (.int (Int32.ofNat n)), .val (.int (Int32.ofNat kk)), .val (.ref r), .val (.int rr2)] []) G := fun tq kq => K1279 tq (XS.ifNo X1275.here hx rfl (hb hby at_130) rfl ((if0 _ _).trans (teq (by decide : (0 : Int32) = (0 : Int32))).2) kq)
          have K1281 : Go p e below T1275 (mkF m 134 #[.val (.int q0), .val (.int q1), .val (.int q2), .val (.int q3), .val (.int q4), .val (.int c0), .val (.int c1), .val (.int c2), .val (.int c3), .val (.int (Int32.ofNat n)), .val (.int (Int32.ofNat kk)), .val (.ref r), .val (.int rr2)] [(.int (1 : Int32))]) G := fun tq kq => K1280 tq (XS.iconst X1275.here hx rfl (hb hby at_133) kq)
          have K1282 : Go p e below T1275 (mkF m 136 #[.val (.int q0), .val (.int q1), .val (.int q2), .val (.int q3), .val (.int q4), .val (.int c0), .val (.int c1), .val (.int c2), .val (.int c3), .val (.int (Int32.ofNat n)), .val (.int (Int32.ofNat kk)), .val (.ref r), .val (.int (1 : Int32))] []) G := fun tq kq => K1281 tq (XS.istore X1275.here hx rfl (hb hby at_134) rfl (l' := #[.val (.int q0), .val (.int q1), .val (.int q2), .val (.int q3), .val (.int q4), .val (.int c0), .val (.int c1), .val (.int c2), .val (.int c3), .val (.int (Int32.ofNat n)), .val (.int (Int32.ofNat kk)), .val (.ref r), .val (.int (1 : Int32))]) rfl kq)
          refine ⟨T1275, _, (1 : Int32), X1275, E1275q, N1275, ?_, K1282⟩
          exact (if_pos ⟨hc1267, hc1272, hc1276⟩).symm
      · skip
        have K1283 : Go p e below Tj1244 (mkF m 136 #[.val (.int q0), .val (.int q1), .val (.int q2), .val (.int q3), .val (.int q4), .val (.int c0), .val (.int c1), .val (.int c2), .val (.int c3), .val (.int (Int32.ofNat n)), .val (.int (Int32.ofNat kk)), .val (.ref r), .val (.int rr2)] []) G := fun tq kq => K1271 tq (XS.icmpYes Xj1244.here hx rfl (pc0 := 122) (pc' := 136) rfl (hb hby at_122) rfl ((flt hc1272).2.1) (by decide) (by decide) kq)
        refine ⟨Tj1244, _, rr2, Xj1244, ej1244, Nj1244, ?_, K1283⟩
        exact (if_neg (fun q => hc1272 q.2.1)).symm
  have h_rr1 := hj1264
  obtain ⟨Tj1284, Lj1284, rr0, Xj1284, ej1284, Nj1284, hj1284, Kj1284⟩ : ∃ (Tj : State) (Lj : List Loc) (rr0 : Int32), Stand p l e room_1 (s.setVm T1218.vm) m #[(.int q0), (.int q1), (.int q2), (.int q3), (.int q4)] below meth c Tj Lj 4 20 ∧ Tj.heap = T1218.heap ∧ Fr n0 Lj ∧ (own_J (0 : Int32) (Int32.ofNat kk) (Int32.ofNat n) c0 rr1 rr0) ∧ Go p e below Tj (mkF m 159 #[.val (.int q0), .val (.int q1), .val (.int q2), .val (.int q3), .val (.int q4), .val (.int c0), .val (.int c1), .val (.int c2), .val (.int c3), .val (.int (Int32.ofNat n)), .val (.int (Int32.ofNat kk)), .val (.ref r), .val (.int rr0)] []) G := by
    have K1285 : Go p e below Tj1264 (mkF m 137 #[.val (.int q0), .val (.int q1), .val (.int q2), .val (.int q3), .val (.int q4), .val (.int c0), .val (.int c1), .val (.int c2), .val (.int c3), .val (.int (Int32.ofNat n)), .val (.int (Int32.ofNat kk)), .val (.ref r), .val (.int rr1)] [(.int (0 : Int32))]) G := fun tq kq => Kj1264 tq (XS.iconst Xj1264.here hx rfl (hb hby at_136) kq)
    have K1286 : Go p e below Tj1264 (mkF m 139 #[.val (.int q0), .val (.int q1), .val (.int q2), .val (.int q3), .val (.int q4), .val (.int c0), .val (.int c1), .val (.int c2), .val (.int c3), .val (.int (Int32.ofNat n)), .val (.int (Int32.ofNat kk)), .val (.ref r), .val (.int rr1)] [(.int (Int32.ofNat kk)), (.int (0 : Int32))]) G := fun tq kq => K1285 tq (XS.iload Xj1264.here hx rfl (hb hby at_137) rfl kq)
    by_cases hc1287 : (0 : Int32) < (Int32.ofNat kk)
    · skip
      have K1288 : Go p e below Tj1264 (mkF m 159 #[.val (.int q0), .val (.int q1), .val (.int q2), .val (.int q3), .val (.int q4), .val (.int c0), .val (.int c1), .val (.int c2), .val (.int c3), .val (.int (Int32.ofNat n)), .val (.int (Int32.ofNat kk)), .val (.ref r), .val (.int rr1)] []) G := fun tq kq => K1286 tq (XS.icmpYes Xj1264.here hx rfl (pc0 := 139) (pc' := 159) rfl (hb hby at_139) rfl ((tlt hc1287).1) (by decide) (by decide) kq)
      refine ⟨Tj1264, _, rr1, Xj1264, ej1264, Nj1264, ?_, K1288⟩
      exact (if_neg (fun q => q.1 hc1287)).symm
    · skip
      have K1289 : Go p e below Tj1264 (mkF m 142 #[.val (.int q0), .val (.int q1), .val (.int q2), .val (.int q3), .val (.int q4), .val (.int c0), .val (.int c1), .val (.int c2), .val (.int c3), .val (.int (Int32.ofNat n)), .val (.int (Int32.ofNat kk)), .val (.ref r), .val (.int rr1)] []) G := fun tq kq => K1286 tq (XS.icmpNo Xj1264.here hx rfl (hb hby at_139) rfl ((flt hc1287).1) kq)
      have K1290 : Go p e below Tj1264 (mkF m 143 #[.val (.int q0), .val (.int q1), .val (.int q2), .val (.int q3), .val (.int q4), .val (.int c0), .val (.int c1), .val (.int c2), .val (.int c3), .val (.int (Int32.ofNat n)), .val (.int (Int32.ofNat kk)), .val (.ref r), .val (.int rr1)] [(.int (0 : Int32))]) G := fun tq kq => K1289 tq (XS.iconst Xj1264.here hx rfl (hb hby at_142) kq)
      have K1291 : Go p e below Tj1264 (mkF m 145 #[.val (.int q0), .val (.int q1), .val (.int q2), .val (.int q3), .val (.int q4), .val (.int c0), .val (.int c1), .val (.int c2), .val (.int c3), .val (.int (Int32.ofNat n)), .val (.int (Int32.ofNat kk)), .val (.ref r), .val (.int rr1)] [(.int (Int32.ofNat n)), (.int (0 : Int32))]) G := fun tq kq => K1290 tq (XS.iload Xj1264.here hx rfl (hb hby at_143) rfl kq)
      by_cases hc1292 : (0 : Int32) < (Int32.ofNat n)
      · skip
        have K1293 : Go p e below Tj1264 (mkF m 148 #[.val (.int q0), .val (.int q1), .val (.int q2), .val (.int q3), .val (.int q4), .val (.int c0), .val (.int c1), .val (.int c2), .val (.int c3), .val (.int (Int32.ofNat n)), .val (.int (Int32.ofNat kk)), .val (.ref r), .val (.int rr1)] []) G := fun tq kq => K1291 tq (XS.icmpNo Xj1264.here hx rfl (hb hby at_145) rfl ((tlt hc1292).2.1) kq)
        have K1294 : Go p e below Tj1264 (mkF m 150 #[.val (.int q0), .val (.int q1), .val (.int q2), .val (.int q3), .val (.int q4), .val (.int c0), .val (.int c1), .val (.int c2), .val (.int c3), .val (.int (Int32.ofNat n)), .val (.int (Int32.ofNat kk)), .val (.ref r), .val (.int rr1)] [(.int c0)]) G := fun tq kq => K1293 tq (XS.iload Xj1264.here hx rfl (hb hby at_148) rfl kq)
        obtain ⟨v1295, _, ⟨T1295, L1295, k1295, n1295⟩, -, X1295, ⟨Lc1295, hQ1295, l1295, y1295, z1295⟩, st1295⟩ := Jvm.LawKit.callS Xj1264 hx (y := (⟨"com/example/tallyrule/tallyrule/DecimalsDigitsFromPinLaw", "dig", "(C)Z"⟩ : MethodName)) hown (mvT hZ (hW 55 _ rfl)) (mvT hZ (hW 56 _ rfl)) (mvT hZ (hW 2 _ rfl)) (mvT hZ (hW 57 _ rfl)) (by decide) (backOf (W := 0) (rmDG l Z a0 hw [] c0 T1218.heap n0 (Nat.le_trans Z0 K1218q.1)) hZ (hW 57 _ rfl) (hW 2 _ rfl) (by decide) (by decide)) (g := (mkF m 150 #[.val (.int q0), .val (.int q1), .val (.int q2), .val (.int q3), .val (.int q4), .val (.int c0), .val (.int c1), .val (.int c2), .val (.int c3), .val (.int (Int32.ofNat n)), .val (.int (Int32.ofNat kk)), .val (.ref r), .val (.int rr1)] [(.int c0)])) rfl (by rw [hml]; rfl) (argsL := [(.int c0)]) (rest := []) (lenOf pd_426 rfl) rfl (by show 2 * 0 + _ ≤ _; exact Nat.le_of_eq rfl) (hb hby at_150) (fun _ _ => ⟨rfl, ej1264, (by decide : 4 + 0 ≤ _), (by decide : 20 + 0 ≤ _)⟩)
        dsimp only [Pt.U, Pt.locs, Pt.cells, Pt.slots] at X1295 l1295 y1295 z1295 st1295 hQ1295
        subst l1295 y1295 z1295
        by_cases hc1296 : ¬ (c0 < (48 : Int32)) ∧ c0 < (58 : Int32)
        · skip
          rw [QDG, if_pos hc1296] at hQ1295
          obtain ⟨rfl, N1295q, E1295q⟩ := hQ1295
          have N1295 := Fr.app Nj1264 N1295q
          have K1297 : Go p e below T1295 (mkF m 153 #[.val (.int q0), .val (.int q1), .val (.int q2), .val (.int q3), .val (.int q4), .val (.int c0), .val (.int c1), .val (.int c2), .val (.int c3), .val (.int (Int32.ofNat n)), .val (.int (Int32.ofNat kk)), .val (.ref r), .val (.int rr1)] [(.int (1 : Int32))]) G := fun tq kq => K1294 tq (st1295 tq kq)
          have K1298 : Go p e below T1295 (mkF m 159 #[.val (.int q0), .val (.int q1), .val (.int q2), .val (.int q3), .val (.int q4), .val (.int c0), .val (.int c1), .val (.int c2), .val (.int c3), .val (.int (Int32.ofNat n)), .val (.int (Int32.ofNat kk)), .val (.ref r), .val (.int rr1)] []) G := fun tq kq => K1297 tq (XS.ifYes X1295.here hx rfl (pc0 := 153) (pc' := 159) rfl (hb hby at_153) rfl ((if0 _ _).trans (feq (by decide : ¬ ((1 : Int32) = (0 : Int32)))).2) (by decide) (by decide) kq)
          refine ⟨T1295, _, rr1, X1295, E1295q, N1295, ?_, K1298⟩
          exact (if_neg (fun q => q.2.2 hc1296)).symm
        · skip
          rw [QDG, if_neg hc1296] at hQ1295
          obtain ⟨rfl, N1295q, E1295q⟩ := hQ1295
          have N1295 := Fr.app Nj1264 N1295q
          have K1299 : Go p e below T1295 (mkF m 153 #[.val (.int q0), .val (.int q1), .val (.int q2), .val (.int q3), .val (.int q4), .val (.int c0), .val (.int c1), .val (.int c2), .val (.int c3), .val (.int (Int32.ofNat n)), .val (.int (Int32.ofNat kk)), .val (.ref r), .val (.int rr1)] [(.int (0 : Int32))]) G := fun tq kq => K1294 tq (st1295 tq kq)
          have K1300 : Go p e below T1295 (mkF m 156 #[.val (.int q0), .val (.int q1), .val (.int q2), .val (.int q3), .val (.int q4), .val (.int c0), .val (.int c1), .val (.int c2), .val (.int c3), .val (.int (Int32.ofNat n)), .val (.int (Int32.ofNat kk)), .val (.ref r), .val (.int rr1)] []) G := fun tq kq => K1299 tq (XS.ifNo X1295.here hx rfl (hb hby at_153) rfl ((if0 _ _).trans (teq (by decide : (0 : Int32) = (0 : Int32))).2) kq)
          have K1301 : Go p e below T1295 (mkF m 157 #[.val (.int q0), .val (.int q1), .val (.int q2), .val (.int q3), .val (.int q4), .val (.int c0), .val (.int c1), .val (.int c2), .val (.int c3), .val (.int (Int32.ofNat n)), .val (.int (Int32.ofNat kk)), .val (.ref r), .val (.int rr1)] [(.int (0 : Int32))]) G := fun tq kq => K1300 tq (XS.iconst X1295.here hx rfl (hb hby at_156) kq)
          have K1302 : Go p e below T1295 (mkF m 159 #[.val (.int q0), .val (.int q1), .val (.int q2), .val (.int q3), .val (.int q4), .val (.int c0), .val (.int c1), .val (.int c2), .val (.int c3), .val (.int (Int32.ofNat n)), .val (.int (Int32.ofNat kk)), .val (.ref r), .val (.int (0 : Int32))] []) G := fun tq kq => K1301 tq (XS.istore X1295.here hx rfl (hb hby at_157) rfl (l' := #[.val (.int q0), .val (.int q1), .val (.int q2), .val (.int q3), .val (.int q4), .val (.int c0), .val (.int c1), .val (.int c2), .val (.int c3), .val (.int (Int32.ofNat n)), .val (.int (Int32.ofNat kk)), .val (.ref r), .val (.int (0 : Int32))]) rfl kq)
          refine ⟨T1295, _, (0 : Int32), X1295, E1295q, N1295, ?_, K1302⟩
          exact (if_pos ⟨hc1287, hc1292, hc1296⟩).symm
      · skip
        have K1303 : Go p e below Tj1264 (mkF m 159 #[.val (.int q0), .val (.int q1), .val (.int q2), .val (.int q3), .val (.int q4), .val (.int c0), .val (.int c1), .val (.int c2), .val (.int c3), .val (.int (Int32.ofNat n)), .val (.int (Int32.ofNat kk)), .val (.ref r), .val (.int rr1)] []) G := fun tq kq => K1291 tq (XS.icmpYes Xj1264.here hx rfl (pc0 := 145) (pc' := 159) rfl (hb hby at_145) rfl ((flt hc1292).2.1) (by decide) (by decide) kq)
        refine ⟨Tj1264, _, rr1, Xj1264, ej1264, Nj1264, ?_, K1303⟩
        exact (if_neg (fun q => hc1292 q.2.1)).symm
  have h_rr0 := hj1284
  have hfin : (Int32.ofNat (kk + own_run (List.drop kk (own_tx (Int32.ofNat n) c0 c1 c2 c3)))) = rr0 := own_fin n kk c0 c1 c2 c3 rr3 rr2 rr1 rr0 hn4 hkn h_rr3 h_rr2 h_rr1 h_rr0
  have K1304 : Go p e below Tj1284 (mkF m 161 #[.val (.int q0), .val (.int q1), .val (.int q2), .val (.int q3), .val (.int q4), .val (.int c0), .val (.int c1), .val (.int c2), .val (.int c3), .val (.int (Int32.ofNat n)), .val (.int (Int32.ofNat kk)), .val (.ref r), .val (.int rr0)] [(.ref r)]) G := fun tq kq => Kj1284 tq (XS.aload Xj1284.here hx rfl (hb hby at_159) rfl rfl kq)
  have K1305 : Go p e below Tj1284 (mkF m 163 #[.val (.int q0), .val (.int q1), .val (.int q2), .val (.int q3), .val (.int q4), .val (.int c0), .val (.int c1), .val (.int c2), .val (.int c3), .val (.int (Int32.ofNat n)), .val (.int (Int32.ofNat kk)), .val (.ref r), .val (.int rr0)] [(.int (Int32.ofNat kk)), (.ref r)]) G := fun tq kq => K1304 tq (XS.iload Xj1284.here hx rfl (hb hby at_161) rfl kq)
  rcases own_cd Cd with hcd | hcd
  · skip
    subst hcd
    obtain ⟨v1306, _, ⟨T1306, L1306, k1306, n1306⟩, -, X1306, ⟨Lc1306, hQ1306, l1306, y1306, z1306⟩, st1306⟩ := Jvm.LawKit.callS Xj1284 hx (y := (⟨"com/example/tallyrule/tallyrule/Decimals", "digitsFrom", "(Ljava/lang/String;I)I"⟩ : MethodName)) hown (mvT hZ (hW 30 _ rfl)) (mvT hZ (hW 31 _ rfl)) (mvT hZ (hW 32 _ rfl)) (mvT hZ (hW 33 _ rfl)) (by decide) (backOf (W := 0) (rmDF0 l Z a0 hw [] r kk tb kb N2 vs (own_tx (Int32.ofNat n) c0 c1 c2 c3) cz fm T1218.heap n0 (Nat.le_trans Z0 K1218q.1) (O0.keep K1218q all0) S_cs hcz S_ad S_hi S_lo S_fm rfm Er Fv Fc Vt Cd hup (by rw [own_txl n hn4]; exact hn4) (by rw [own_txl n hn4]; exact hkn)) hZ (hW 33 _ rfl) (hW 32 _ rfl) (by decide) (by decide)) (g := (mkF m 163 #[.val (.int q0), .val (.int q1), .val (.int q2), .val (.int q3), .val (.int q4), .val (.int c0), .val (.int c1), .val (.int c2), .val (.int c3), .val (.int (Int32.ofNat n)), .val (.int (Int32.ofNat kk)), .val (.ref r), .val (.int rr0)] [(.int (Int32.ofNat kk)), (.ref r)])) rfl (by rw [hml]; rfl) (argsL := [(.ref r), (.int (Int32.ofNat kk))]) (rest := []) (lenOf pd_427 rfl) rfl (by show 2 * 0 + _ ≤ _; exact Nat.le_of_eq rfl) (hb hby at_163) (fun _ _ => ⟨rfl, ej1284, (by decide : 4 + 0 ≤ _), (by decide : 20 + 0 ≤ _)⟩)
    dsimp only [Pt.U, Pt.locs, Pt.cells, Pt.slots] at X1306 l1306 y1306 z1306 st1306 hQ1306
    subst l1306 y1306 z1306
    obtain ⟨rfl, N1306q, E1306q⟩ := hQ1306
    have N1306 := Fr.app Nj1284 N1306q
    have K1307 : Go p e below T1306 (mkF m 166 #[.val (.int q0), .val (.int q1), .val (.int q2), .val (.int q3), .val (.int q4), .val (.int c0), .val (.int c1), .val (.int c2), .val (.int c3), .val (.int (Int32.ofNat n)), .val (.int (Int32.ofNat kk)), .val (.ref r), .val (.int rr0)] [(.int (Int32.ofNat (kk + own_run (List.drop kk (own_tx (Int32.ofNat n) c0 c1 c2 c3)))))]) G := fun tq kq => K1305 tq (st1306 tq kq)
    have K1308 : Go p e below T1306 (mkF m 168 #[.val (.int q0), .val (.int q1), .val (.int q2), .val (.int q3), .val (.int q4), .val (.int c0), .val (.int c1), .val (.int c2), .val (.int c3), .val (.int (Int32.ofNat n)), .val (.int (Int32.ofNat kk)), .val (.ref r), .val (.int rr0)] [(.int rr0), (.int (Int32.ofNat (kk + own_run (List.drop kk (own_tx (Int32.ofNat n) c0 c1 c2 c3)))))]) G := fun tq kq => K1307 tq (XS.iload X1306.here hx rfl (hb hby at_166) rfl kq)
    have K1309 : Go p e below T1306 (mkF m 171 #[.val (.int q0), .val (.int q1), .val (.int q2), .val (.int q3), .val (.int q4), .val (.int c0), .val (.int c1), .val (.int c2), .val (.int c3), .val (.int (Int32.ofNat n)), .val (.int (Int32.ofNat kk)), .val (.ref r), .val (.int rr0)] []) G := fun tq kq => K1308 tq (XS.icmpNo X1306.here hx rfl (hb hby at_168) rfl ((teq hfin).2) kq)
    have K1310 : Go p e below T1306 (mkF m 172 #[.val (.int q0), .val (.int q1), .val (.int q2), .val (.int q3), .val (.int q4), .val (.int c0), .val (.int c1), .val (.int c2), .val (.int c3), .val (.int (Int32.ofNat n)), .val (.int (Int32.ofNat kk)), .val (.ref r), .val (.int rr0)] [(.int (1 : Int32))]) G := fun tq kq => K1309 tq (XS.iconst X1306.here hx rfl (hb hby at_171) kq)
    have K1311 : Go p e below T1306 (mkF m 176 #[.val (.int q0), .val (.int q1), .val (.int q2), .val (.int q3), .val (.int q4), .val (.int c0), .val (.int c1), .val (.int c2), .val (.int c3), .val (.int (Int32.ofNat n)), .val (.int (Int32.ofNat kk)), .val (.ref r), .val (.int rr0)] [(.int (1 : Int32))]) G := fun tq kq => K1310 tq (XS.goto X1306.here hx rfl (pc0 := 172) (pc' := 176) rfl (hb hby at_172) (by decide) (by decide) kq)
    obtain ⟨fs, hr, hrun, hended, hRE⟩ := X1306.leaveW (s := s) hSb1218 (by first | exact (Nat.le_refl _) | (rw [E1306q]; exact (Nat.le_refl _))) (v := some (.int (1 : Int32))) (fun h => by rw [Bd.returns] at h; cases h)
    have CRe := CR1219.trans (CHv.at X1306 hZ hEL CR1219.1)
    refine ⟨_, _, hG _ (K1311 _ (retN X1306 hx (t := .boolean) Bd.returns (by simp) (hb hby at_176) hr)), hrun, hended, _, _, rfl, ?_, (by show CHr Z own_EL s.vm s.heap T1306.vm T1306.heap; rw [hh, E1306q]; exact CRe), hRE.1, hRE.2.1, hRE.2.2.1, hRE.2.2.2.mono (by decide) (by decide)⟩
    show Q0 Z q0 q1 q2 q3 q4 cz fm h0 n0 _ T1306.heap _
    rw [E1306q]
    exact ⟨rfl, N1306⟩
  · skip
    subst hcd
    obtain ⟨v1312, _, ⟨T1312, L1312, k1312, n1312⟩, -, X1312, ⟨Lc1312, hQ1312, l1312, y1312, z1312⟩, st1312⟩ := Jvm.LawKit.callS Xj1284 hx (y := (⟨"com/example/tallyrule/tallyrule/Decimals", "digitsFrom", "(Ljava/lang/String;I)I"⟩ : MethodName)) hown (mvT hZ (hW 30 _ rfl)) (mvT hZ (hW 31 _ rfl)) (mvT hZ (hW 32 _ rfl)) (mvT hZ (hW 33 _ rfl)) (by decide) (backOf (W := 0) (rmDF1 l Z a0 hw [] r kk tb kb N2 vs (own_tx (Int32.ofNat n) c0 c1 c2 c3) cz fm T1218.heap n0 (Nat.le_trans Z0 K1218q.1) (O0.keep K1218q all0) S_cs hcz S_ad S_hi S_lo S_fm rfm Er Fv Fc Vt Cd hup (by rw [own_txl n hn4]; exact hn4) (by rw [own_txl n hn4]; exact hkn)) hZ (hW 33 _ rfl) (hW 32 _ rfl) (by decide) (by decide)) (g := (mkF m 163 #[.val (.int q0), .val (.int q1), .val (.int q2), .val (.int q3), .val (.int q4), .val (.int c0), .val (.int c1), .val (.int c2), .val (.int c3), .val (.int (Int32.ofNat n)), .val (.int (Int32.ofNat kk)), .val (.ref r), .val (.int rr0)] [(.int (Int32.ofNat kk)), (.ref r)])) rfl (by rw [hml]; rfl) (argsL := [(.ref r), (.int (Int32.ofNat kk))]) (rest := []) (lenOf pd_427 rfl) rfl (by show 2 * 0 + _ ≤ _; exact Nat.le_of_eq rfl) (hb hby at_163) (fun _ _ => ⟨rfl, ej1284, (by decide : 4 + 0 ≤ _), (by decide : 20 + 0 ≤ _)⟩)
    dsimp only [Pt.U, Pt.locs, Pt.cells, Pt.slots] at X1312 l1312 y1312 z1312 st1312 hQ1312
    subst l1312 y1312 z1312
    obtain ⟨rfl, N1312q, E1312q⟩ := hQ1312
    have N1312 := Fr.app Nj1284 N1312q
    have K1313 : Go p e below T1312 (mkF m 166 #[.val (.int q0), .val (.int q1), .val (.int q2), .val (.int q3), .val (.int q4), .val (.int c0), .val (.int c1), .val (.int c2), .val (.int c3), .val (.int (Int32.ofNat n)), .val (.int (Int32.ofNat kk)), .val (.ref r), .val (.int rr0)] [(.int (Int32.ofNat (kk + own_run (List.drop kk (own_tx (Int32.ofNat n) c0 c1 c2 c3)))))]) G := fun tq kq => K1305 tq (st1312 tq kq)
    have K1314 : Go p e below T1312 (mkF m 168 #[.val (.int q0), .val (.int q1), .val (.int q2), .val (.int q3), .val (.int q4), .val (.int c0), .val (.int c1), .val (.int c2), .val (.int c3), .val (.int (Int32.ofNat n)), .val (.int (Int32.ofNat kk)), .val (.ref r), .val (.int rr0)] [(.int rr0), (.int (Int32.ofNat (kk + own_run (List.drop kk (own_tx (Int32.ofNat n) c0 c1 c2 c3)))))]) G := fun tq kq => K1313 tq (XS.iload X1312.here hx rfl (hb hby at_166) rfl kq)
    have K1315 : Go p e below T1312 (mkF m 171 #[.val (.int q0), .val (.int q1), .val (.int q2), .val (.int q3), .val (.int q4), .val (.int c0), .val (.int c1), .val (.int c2), .val (.int c3), .val (.int (Int32.ofNat n)), .val (.int (Int32.ofNat kk)), .val (.ref r), .val (.int rr0)] []) G := fun tq kq => K1314 tq (XS.icmpNo X1312.here hx rfl (hb hby at_168) rfl ((teq hfin).2) kq)
    have K1316 : Go p e below T1312 (mkF m 172 #[.val (.int q0), .val (.int q1), .val (.int q2), .val (.int q3), .val (.int q4), .val (.int c0), .val (.int c1), .val (.int c2), .val (.int c3), .val (.int (Int32.ofNat n)), .val (.int (Int32.ofNat kk)), .val (.ref r), .val (.int rr0)] [(.int (1 : Int32))]) G := fun tq kq => K1315 tq (XS.iconst X1312.here hx rfl (hb hby at_171) kq)
    have K1317 : Go p e below T1312 (mkF m 176 #[.val (.int q0), .val (.int q1), .val (.int q2), .val (.int q3), .val (.int q4), .val (.int c0), .val (.int c1), .val (.int c2), .val (.int c3), .val (.int (Int32.ofNat n)), .val (.int (Int32.ofNat kk)), .val (.ref r), .val (.int rr0)] [(.int (1 : Int32))]) G := fun tq kq => K1316 tq (XS.goto X1312.here hx rfl (pc0 := 172) (pc' := 176) rfl (hb hby at_172) (by decide) (by decide) kq)
    obtain ⟨fs, hr, hrun, hended, hRE⟩ := X1312.leaveW (s := s) hSb1218 (by first | exact (Nat.le_refl _) | (rw [E1312q]; exact (Nat.le_refl _))) (v := some (.int (1 : Int32))) (fun h => by rw [Bd.returns] at h; cases h)
    have CRe := CR1219.trans (CHv.at X1312 hZ hEL CR1219.1)
    refine ⟨_, _, hG _ (K1317 _ (retN X1312 hx (t := .boolean) Bd.returns (by simp) (hb hby at_176) hr)), hrun, hended, _, _, rfl, ?_, (by show CHr Z own_EL s.vm s.heap T1312.vm T1312.heap; rw [hh, E1312q]; exact CRe), hRE.1, hRE.2.1, hRE.2.2.1, hRE.2.2.2.mono (by decide) (by decide)⟩
    show Q0 Z q0 q1 q2 q3 q4 cz fm h0 n0 _ T1312.heap _
    rw [E1312q]
    exact ⟨rfl, N1312⟩
set_option maxRecDepth 65536 in
set_option maxHeartbeats 40000000 in
theorem comes_1 {Post : Tables → Env → Array Value → State → Outcome → State → Prop} (hpost : ∀ tb e args s v u, (limb_1_1.after args s (.returned v) u = true ∧ limb_1_2.after args s (.returned v) u = true ∧ True) → ReturnedEndW s (.returned v) u (Jvm.fieldLocs frame_1_writes args s ++ Jvm.arrayLocs frame_1_arrays args s ++ Jvm.staticLocs frame_1_statics s) 24 1152 → Post tb e args s (.returned v) u) :
    ArmFor flags0 classFile x code maxLocals ret World_1 tables_1 room_1 Calls_1 rest_1 Pre_1 Post := by
  intro l hfl _ _ p e ha hc hk s m args below hf hA hF happ hP
  obtain ⟨hcalls, hrest, hpre⟩ := hP
  obtain ⟨-, -, -, hnamed, -, -, -, hat⟩ := (Spec.applies_iff hf).mp happ
  obtain ⟨hg, hn⟩ := and_e (Cond.before_iff.mp (show (Jvm.Cond.and given_1 narrow_1).before args s = true from hpre))
  obtain ⟨gg1, gg2⟩ := and_e hg
  obtain ⟨gg3, gg4⟩ := and_e gg2
  obtain ⟨gg5, gg6⟩ := and_e gg4
  obtain ⟨gg7, gg8⟩ := and_e gg6
  obtain ⟨gg9, gg10⟩ := and_e gg8
  obtain ⟨w0, w1, w2, w3, w4, rfl⟩ : ∃ w0 w1 w2 w3 w4 : Value, args = #[w0, w1, w2, w3, w4] := by
    have hs : args.size = 5 := by simpa [Cond.value, given_1] using gg1
    obtain ⟨L⟩ := args
    match L, hs with
    | [w0, w1, w2, w3, w4], _ => exact ⟨w0, w1, w2, w3, w4, rfl⟩
  have hw := fun d (hd : d ∈ tables_1) => atoms_spec (ws := Jvm.Cond.code x code maxLocals ret :: tables_1) hat d (List.mem_cons_of_mem _ hd)
  have hW : ∀ (k : Nat) (d : Jvm.Cond), tables_1[k]? = some d → d.before _ s = true := fun k d h => hw d (List.mem_of_getElem? h)
  have hfit : Fit s := fun {y c} hc i hi => by
    obtain ⟨ha, rfl⟩ := Array.getElem?_eq_some_iff.mp hc
    have q := List.all_eq_true.mp ((Array.all_eq_true_iff_forall_mem.mp hF) _ (Array.getElem_mem ha)) i (List.mem_range.mpr hi)
    simpa [Array.getElem?_eq_getElem hi] using q
  obtain ⟨hsets, hown0⟩ := atoms_of _ (rest_1_c_eq ▸ (show rest_1_c.before _ s = true from hrest))
  have hr0 := Cond.before_iff.mp hown0
  obtain ⟨i0, ei0⟩ := is_v gg3
  obtain rfl : w0 = (.int i0) := Option.some.inj ei0
  obtain ⟨i1, ei1⟩ := is_v gg5
  obtain rfl : w1 = (.int i1) := Option.some.inj ei1
  obtain ⟨i2, ei2⟩ := is_v gg7
  obtain rfl : w2 = (.int i2) := Option.some.inj ei2
  obtain ⟨i3, ei3⟩ := is_v gg9
  obtain rfl : w3 = (.int i3) := Option.some.inj ei3
  obtain ⟨i4, ei4⟩ := is_v gg10
  obtain rfl : w4 = (.int i4) := Option.some.inj ei4
  have hS : ∀ (k : Nat) (d : Jvm.Cond), jdkStatics_1[k]? = some d → d.before _ s = true := fun k d h => hsets d (List.mem_of_getElem? h)
  obtain ⟨cz, ecz⟩ := is_v (Cond.before_iff.mp (hS 1 _ rfl))
  have S_cs : Sta s s.heap "java/lang/String" "COMPACT_STRINGS" "Z" (.int cz) := Sta.start ecz (Or.inl (hS 0 _ rfl))
  have hcz : ¬ (cz = (0 : Int32)) := gotF (Cond.eq_ints ecz (Term.int_eval (0))) (not_v (Cond.before_iff.mp (hS 2 _ rfl)))
  obtain ⟨fm, efm, rfm⟩ := isR_v (Cond.before_iff.mp (hS 8 _ rfl))
  have S_fm : Sta s s.heap "jdk/internal/util/Preconditions" "SIOOBE_FORMATTER" "Ljava/util/function/BiFunction;" fm := Sta.start efm (Or.inl (hS 7 _ rfl))
  have S_ad : Sta s s.heap "java/lang/StringUTF16" "$assertionsDisabled" "Z" (.int (1 : Int32)) := Sta.start (own_eqv (hS 12 _ rfl)) (Or.inl (hS 11 _ rfl))
  have S_hi : Sta s s.heap "java/lang/StringUTF16" "HI_BYTE_SHIFT" "I" (.int (0 : Int32)) := Sta.start (own_eqv (hS 15 _ rfl)) (Or.inl (hS 14 _ rfl))
  have S_lo : Sta s s.heap "java/lang/StringUTF16" "LO_BYTE_SHIFT" "I" (.int (8 : Int32)) := Sta.start (own_eqv (hS 18 _ rfl)) (Or.inl (hS 17 _ rfl))
  have HC : CHv s own_EL s.vm s.heap := CHv.start (own_EW hW) (fun p hp => hcalls.1 p hp) (hS 2 _ rfl) (hW 23 _ rfl) (hW 9 _ rfl)
  obtain ⟨n, o, h1, h2, h3, _, L, rfl, ⟨rfl, N⟩, -, hq⟩ := rm0 l s _ hw tables_1 i0 i1 i2 i3 i4 cz fm s.heap s.heap.size (Nat.le_refl _) (Old.start s) S_cs hcz S_ad S_hi S_lo S_fm rfm p e ha hc hk s m _ below hf ((Spec.applies_iff_loose hf).mp happ).1 ⟨rfl, State.Warmed39.refl s, rfl, HC⟩ trivial
  refine ⟨n, _, h1, h2, h3, hpost _ _ _ _ _ _ ⟨Cond.after_iff.mpr rfl, Cond.after_iff.mpr (eq_i res_at (Term.int_eval (1)) rfl), trivial⟩ ⟨hq.1, hq.2.1, hq.2.2.1, (hq.2.2.2.sift fun y hy => Or.inr (N y hy)).mono (by decide) (by decide)⟩⟩
theorem main_1_1 : Claimed_1_1 := comes_1 fun _ _ _ _ _ _ h hF => ⟨h.1, hF⟩
theorem main_1_2 : Claimed_1_2 := comes_1 fun _ _ _ _ _ _ h hF => ⟨h.2.1, hF⟩
end Jvm.Pilot.@@N@@
namespace Jvm.Pilot.@@N@@
open Jvm Jvm.ClassFile Sem Op Lib Jvm.Free Jvm.Stand Jvm.Pilot.@@N@@.Jvm.D
/-! MADE BY PROGRAM (witnessworld.py) out of the Statement's table words and the real class files: 20 classes; the members and pool entries that the words name. The judged class is class 1, her method 4. -/
namespace start1
open Jvm.ClassFile
def u (s : String) : CpInfo := .utf8 (stringToUtf16 s)
/-- a pool by its gaps: so many unusable entries, then the entry; so many at the end -/
def gap : Nat → List CpInfo → List CpInfo
  | 0, r => r
  | n + 1, r => .unusable :: gap n r
def poolList (es : List (Nat × CpInfo)) (last : Nat) : List CpInfo := es.foldr (fun e r => gap e.1 (e.2 :: r)) (gap last [])
def pool (es : List (Nat × CpInfo)) (last : Nat) : Array CpInfo := ⟨poolList es last⟩
def fileOf (pool : Array CpInfo) (this : Nat) (attrs : Array Attribute := #[]) (ms : Array MethodInfo := #[]) (fl : Nat := 33) (sup : Nat := 0) (ifs : Array Nat := #[]) (fds : Array FieldInfo := #[]) : ClassFile where
  minorVersion := 0
  majorVersion := 65
  constantPool := pool
  accessFlags := fl
  thisClass := this
  superClass := sup
  interfaces := ifs
  fields := fds
  methods := ms
  attributes := attrs
def plain (name : String) (sup : Option ClassId) : Class where
  name := name
  kind := .ordinary
  loader := none
  accessFlags := 33
  super := sup
  interfaces := #[]
  cf := none
  fields := #[]
  methods := #[]
  instanceTypes := #[]
  staticTypes := #[]
  resolved := #[]
  callSites := []
  init := .initialized
  statics := none
  mirror := none

def pool0 : Array CpInfo := pool [(5, u "<init>"), (0, u "()V"), (1, .class_ 10), (1, u "java/lang/Object")] 113

def k0c0 : Code := { maxStack := 0, maxLocals := 1, code := object_method_1_code, exceptionTable := #[], attributes := #[] }
def k0m0 : Method := { name := "<init>", desc := "()V", sig := { parameters := [], returnType := none }, accessFlags := 1, code := some k0c0 }
/-- java/lang/Object -/
def k0 : Class := { plain "java/lang/Object" none with
  accessFlags := 33
  interfaces := #[]
  cf := some (fileOf pool0 8 #[] #[{ accessFlags := 1, nameIndex := 5, descriptorIndex := 6, attributes := #[] }] 33 0 #[] #[])
  fields := #[]
  methods := #[k0m0]
  instanceTypes := #[]
  staticTypes := #[]
  resolved := Array.replicate 124 none
  statics := none }

def pool1 : Array CpInfo := pool [(2, .class_ 4), (1, u "java/lang/Object"), (0, u "<init>"), (0, u "()V"), (0, .class_ 8), (0, u "java/lang/String"), (0, .methodref 7 10), (0, .nameAndType 5 11), (0, u "([C)V"), (0, .methodref 13 14), (0, .class_ 15), (0, .nameAndType 16 17), (0, u "com/example/tallyrule/tallyrule/DecimalsDigitsFromPinLaw"), (0, u "ch"), (0, u "(I)C"), (0, .integer 2147483647), (0, .methodref 13 20), (0, .nameAndType 21 22), (0, u "str"), (0, u "(CCCCI)Ljava/lang/String;"), (0, .methodref 13 24), (0, .nameAndType 25 26), (0, u "dig"), (0, u "(C)Z"), (0, .methodref 28 29), (0, .class_ 30), (0, .nameAndType 31 32), (0, u "com/example/tallyrule/tallyrule/Decimals"), (0, u "digitsFrom"), (0, u "(Ljava/lang/String;I)I"), (3, u "law"), (0, u "(IIIII)Z")] 2

def k1m0 : Method := { name := "<init>", desc := "()V", sig := { parameters := [], returnType := none }, accessFlags := 2, code := none }
def k1c1 : Code := { maxStack := 2, maxLocals := 2, code := method_2_code, exceptionTable := #[], attributes := #[] }
def k1m1 : Method := { name := "ch", desc := "(I)C", sig := { parameters := [.int], returnType := some .char }, accessFlags := 10, code := some k1c1 }
def k1c2 : Code := { maxStack := 2, maxLocals := 1, code := method_3_code, exceptionTable := #[], attributes := #[] }
def k1m2 : Method := { name := "dig", desc := "(C)Z", sig := { parameters := [.char], returnType := some .boolean }, accessFlags := 10, code := some k1c2 }
def k1c3 : Code := { maxStack := 6, maxLocals := 5, code := method_4_code, exceptionTable := #[], attributes := #[] }
def k1m3 : Method := { name := "str", desc := "(CCCCI)Ljava/lang/String;", sig := { parameters := [.char, .char, .char, .char, .int], returnType := some (.object "java/lang/String") }, accessFlags := 10, code := some k1c3 }
def k1c4 : Code := { maxStack := 5, maxLocals := 13, code := code, exceptionTable := #[], attributes := #[] }
def k1m4 : Method := { name := "law", desc := "(IIIII)Z", sig := { parameters := [.int, .int, .int, .int, .int], returnType := some .boolean }, accessFlags := 9, code := some k1c4 }
/-- com/example/tallyrule/tallyrule/DecimalsDigitsFromPinLaw -/
def k1 : Class := { plain "com/example/tallyrule/tallyrule/DecimalsDigitsFromPinLaw" (some 0) with
  accessFlags := 49
  interfaces := #[]
  cf := some (fileOf pool1 13 #[] #[{ accessFlags := 2, nameIndex := 5, descriptorIndex := 6, attributes := #[] }, { accessFlags := 10, nameIndex := 16, descriptorIndex := 17, attributes := #[] }, { accessFlags := 10, nameIndex := 25, descriptorIndex := 26, attributes := #[] }, { accessFlags := 10, nameIndex := 21, descriptorIndex := 22, attributes := #[] }, { accessFlags := 9, nameIndex := 36, descriptorIndex := 37, attributes := #[] }] 49 2 #[] #[])
  fields := #[]
  methods := #[k1m0, k1m1, k1m2, k1m3, k1m4]
  instanceTypes := #[]
  staticTypes := #[]
  resolved := Array.replicate 40 none
  statics := none }

def pool2 : Array CpInfo := pool [(1, .class_ 2), (0, u "java/io/Serializable"), (0, .class_ 4), (0, u "java/lang/Object")] 2

/-- java/io/Serializable -/
def k2 : Class := { plain "java/io/Serializable" (some 0) with
  accessFlags := 1537
  interfaces := #[]
  cf := some (fileOf pool2 1 #[] #[] 1537 3 #[] #[])
  fields := #[]
  methods := #[]
  instanceTypes := #[]
  staticTypes := #[]
  resolved := Array.replicate 7 none
  statics := none }

def pool3 : Array CpInfo := pool [(1, .class_ 2), (0, u "java/lang/Comparable"), (0, .class_ 4), (0, u "java/lang/Object")] 7

/-- java/lang/Comparable -/
def k3 : Class := { plain "java/lang/Comparable" (some 0) with
  accessFlags := 1537
  interfaces := #[]
  cf := some (fileOf pool3 1 #[] #[] 1537 3 #[] #[])
  fields := #[]
  methods := #[]
  instanceTypes := #[]
  staticTypes := #[]
  resolved := Array.replicate 12 none
  statics := none }

def pool4 : Array CpInfo := pool [(2, .class_ 4), (1, u "java/lang/CharSequence"), (42, .class_ 48), (0, u "java/lang/CharSequence$1CodePointIterator"), (10, .class_ 60), (0, u "java/lang/CharSequence$1CharIterator"), (5, .class_ 67), (0, u "java/lang/Object")] 63

/-- java/lang/CharSequence -/
def k4 : Class := { plain "java/lang/CharSequence" (some 0) with
  accessFlags := 1537
  interfaces := #[]
  cf := some (fileOf pool4 2 #[.nestMembers #[47, 59]] #[] 1537 66 #[] #[])
  fields := #[]
  methods := #[]
  instanceTypes := #[]
  staticTypes := #[]
  resolved := Array.replicate 131 none
  statics := none }

def pool5 : Array CpInfo := pool [(1, .class_ 2), (0, u "java/lang/constant/Constable"), (0, .class_ 4), (0, u "java/lang/Object")] 6

/-- java/lang/constant/Constable -/
def k5 : Class := { plain "java/lang/constant/Constable" (some 0) with
  accessFlags := 1537
  interfaces := #[]
  cf := some (fileOf pool5 1 #[] #[] 1537 3 #[] #[])
  fields := #[]
  methods := #[]
  instanceTypes := #[]
  staticTypes := #[]
  resolved := Array.replicate 11 none
  statics := none }

def pool6 : Array CpInfo := pool [(1, .class_ 2), (0, u "java/lang/constant/ConstantDesc"), (0, .class_ 4), (0, u "java/lang/Object")] 32

/-- java/lang/constant/ConstantDesc -/
def k6 : Class := { plain "java/lang/constant/ConstantDesc" (some 0) with
  accessFlags := 1537
  interfaces := #[]
  cf := some (fileOf pool6 1 #[] #[] 1537 3 #[] #[])
  fields := #[]
  methods := #[]
  instanceTypes := #[]
  staticTypes := #[]
  resolved := Array.replicate 37 none
  statics := none }

def pool7 : Array CpInfo := pool [(1, .methodref 2 3), (0, .class_ 4), (0, .nameAndType 5 6), (0, u "java/lang/Object"), (0, u "<init>"), (0, u "()V"), (0, .string 8), (0, u ""), (0, .fieldref 10 11), (0, .class_ 12), (0, .nameAndType 13 14), (0, u "java/lang/String"), (0, u "value"), (0, u "[B"), (0, .fieldref 10 16), (0, .nameAndType 17 18), (0, u "coder"), (0, u "B"), (2, u "hash"), (0, u "I"), (2, u "hashIsZero"), (0, u "Z"), (0, .methodref 10 28), (0, .nameAndType 5 29), (0, u "([CIILjava/lang/Void;)V"), (8, .fieldref 10 39), (0, .nameAndType 40 26), (0, u "COMPACT_STRINGS"), (1, .class_ 44), (1, u "java/lang/StringUTF16"), (0, u "compress"), (1, .methodref 42 48), (0, .nameAndType 49 50), (0, u "coderFromArrayLen"), (0, u "([BI)B"), (56, .class_ 109), (1, u "java/lang/StringLatin1"), (32, u "()Z"), (34, .methodref 42 178), (0, .nameAndType 45 179), (0, u "([CII)[B"), (154, u "()I"), (0, .methodref 10 336), (0, .nameAndType 17 337), (0, u "()B"), (25, u "([BI)C"), (27, u "(II)V"), (35, u "(I)C"), (64, .methodref 10 493), (0, .nameAndType 494 142), (0, u "isLatin1"), (0, .methodref 107 496), (0, .nameAndType 497 363), (0, u "charAt"), (0, .methodref 42 496), (2, u "checkIndex"), (5, u "length"), (67, .class_ 576), (0, u "java/lang/CharSequence"), (22, u "CASE_INSENSITIVE_ORDER"), (0, u "Ljava/util/Comparator;"), (409, u "([C)V"), (42, .fieldref 1054 1055), (0, .class_ 1056), (0, .nameAndType 1057 1058), (0, u "jdk/internal/util/Preconditions"), (0, u "SIOOBE_FORMATTER"), (0, u "Ljava/util/function/BiFunction;"), (0, .methodref 1054 1060), (0, .nameAndType 501 1061), (0, u "(IILjava/util/function/BiFunction;)I"), (39, u "serialPersistentFields"), (0, u "[Ljava/io/ObjectStreamField;"), (0, .class_ 1104), (0, u "java/lang/String$CaseInsensitiveComparator"), (1, .class_ 1107), (0, u "java/io/Serializable"), (0, .class_ 1109), (0, u "java/lang/Comparable"), (0, .class_ 1111), (0, u "java/lang/constant/Constable"), (0, .class_ 1113), (0, u "java/lang/constant/ConstantDesc"), (2, u "serialVersionUID"), (0, u "J"), (3, u "REPL"), (0, u "C"), (2, u "LATIN1"), (1, u "UTF16")] 323

def k7m0 : Method := { name := "<init>", desc := "()V", sig := { parameters := [], returnType := none }, accessFlags := 1, code := none }
def k7c1 : Code := { maxStack := 5, maxLocals := 2, code := jdk_42_method_3_code, exceptionTable := #[], attributes := #[] }
def k7m1 : Method := { name := "<init>", desc := "([C)V", sig := { parameters := [(.array .char)], returnType := none }, accessFlags := 1, code := some k7c1 }
def k7c2 : Code := { maxStack := 2, maxLocals := 1, code := jdk_42_method_54_code, exceptionTable := #[], attributes := #[] }
def k7m2 : Method := { name := "length", desc := "()I", sig := { parameters := [], returnType := some .int }, accessFlags := 1, code := some k7c2 }
def k7c3 : Code := { maxStack := 2, maxLocals := 2, code := jdk_42_method_56_code, exceptionTable := #[], attributes := #[] }
def k7m3 : Method := { name := "charAt", desc := "(I)C", sig := { parameters := [.int], returnType := some .char }, accessFlags := 1, code := some k7c3 }
def k7c4 : Code := { maxStack := 4, maxLocals := 6, code := jdk_42_method_149_code, exceptionTable := #[], attributes := #[] }
def k7m4 : Method := { name := "<init>", desc := "([CIILjava/lang/Void;)V", sig := { parameters := [(.array .char), .int, .int, (.object "java/lang/Void")], returnType := none }, accessFlags := 2, code := some k7c4 }
def k7c5 : Code := { maxStack := 1, maxLocals := 1, code := jdk_42_method_152_code, exceptionTable := #[], attributes := #[] }
def k7m5 : Method := { name := "coder", desc := "()B", sig := { parameters := [], returnType := some .byte }, accessFlags := 0, code := some k7c5 }
def k7c6 : Code := { maxStack := 1, maxLocals := 1, code := jdk_42_method_154_code, exceptionTable := #[], attributes := #[] }
def k7m6 : Method := { name := "isLatin1", desc := "()Z", sig := { parameters := [], returnType := some .boolean }, accessFlags := 0, code := some k7c6 }
def k7c7 : Code := { maxStack := 3, maxLocals := 2, code := jdk_42_method_155_code, exceptionTable := #[], attributes := #[] }
def k7m7 : Method := { name := "checkIndex", desc := "(II)V", sig := { parameters := [.int, .int], returnType := none }, accessFlags := 8, code := some k7c7 }
/-- java/lang/String -/
def k7 : Class := { plain "java/lang/String" (some 0) with
  accessFlags := 49
  interfaces := #[2, 3, 4, 5, 6]
  cf := some (fileOf pool7 10 #[.nestMembers #[1103]] #[{ accessFlags := 1, nameIndex := 5, descriptorIndex := 6, attributes := #[] }, { accessFlags := 1, nameIndex := 5, descriptorIndex := 1010, attributes := #[] }, { accessFlags := 1, nameIndex := 507, descriptorIndex := 334, attributes := #[] }, { accessFlags := 1, nameIndex := 497, descriptorIndex := 427, attributes := #[] }, { accessFlags := 2, nameIndex := 5, descriptorIndex := 29, attributes := #[] }, { accessFlags := 0, nameIndex := 17, descriptorIndex := 337, attributes := #[] }, { accessFlags := 0, nameIndex := 494, descriptorIndex := 142, attributes := #[] }, { accessFlags := 8, nameIndex := 501, descriptorIndex := 391, attributes := #[] }] 49 2 #[1106, 1108, 575, 1110, 1112] #[{ accessFlags := 18, nameIndex := 13, descriptorIndex := 14, attributes := #[] }, { accessFlags := 18, nameIndex := 17, descriptorIndex := 18, attributes := #[] }, { accessFlags := 2, nameIndex := 21, descriptorIndex := 22, attributes := #[] }, { accessFlags := 2, nameIndex := 25, descriptorIndex := 26, attributes := #[] }, { accessFlags := 26, nameIndex := 1116, descriptorIndex := 1117, attributes := #[] }, { accessFlags := 24, nameIndex := 40, descriptorIndex := 26, attributes := #[] }, { accessFlags := 26, nameIndex := 1101, descriptorIndex := 1102, attributes := #[] }, { accessFlags := 26, nameIndex := 1121, descriptorIndex := 1122, attributes := #[] }, { accessFlags := 25, nameIndex := 599, descriptorIndex := 600, attributes := #[] }, { accessFlags := 24, nameIndex := 1125, descriptorIndex := 18, attributes := #[] }, { accessFlags := 24, nameIndex := 1127, descriptorIndex := 18, attributes := #[] }])
  fields := #[{ name := "value", type := (.array .byte), accessFlags := 18, slot := 0, constantValue := 0 }, { name := "coder", type := .byte, accessFlags := 18, slot := 1, constantValue := 0 }, { name := "hash", type := .int, accessFlags := 2, slot := 2, constantValue := 0 }, { name := "hashIsZero", type := .boolean, accessFlags := 2, slot := 3, constantValue := 0 }, { name := "serialVersionUID", type := .long, accessFlags := 26, slot := 0, constantValue := 0 }, { name := "COMPACT_STRINGS", type := .boolean, accessFlags := 24, slot := 1, constantValue := 0 }, { name := "serialPersistentFields", type := (.array (.object "java/io/ObjectStreamField")), accessFlags := 26, slot := 2, constantValue := 0 }, { name := "REPL", type := .char, accessFlags := 26, slot := 3, constantValue := 0 }, { name := "CASE_INSENSITIVE_ORDER", type := (.object "java/util/Comparator"), accessFlags := 25, slot := 4, constantValue := 0 }, { name := "LATIN1", type := .byte, accessFlags := 24, slot := 5, constantValue := 0 }, { name := "UTF16", type := .byte, accessFlags := 24, slot := 6, constantValue := 0 }]
  methods := #[k7m0, k7m1, k7m2, k7m3, k7m4, k7m5, k7m6, k7m7]
  instanceTypes := #[(.array .byte), .byte, .int, .boolean]
  staticTypes := #[.long, .boolean, (.array (.object "java/io/ObjectStreamField")), .char, (.object "java/util/Comparator"), .byte, .byte]
  resolved := Array.replicate 1451 none
  statics := some 0 }

def pool8 : Array CpInfo := pool [(1, .class_ 2), (0, u "com/example/tallyrule/tallyrule/Decimals"), (1, .class_ 6), (1, u "java/lang/Object"), (0, u "<init>"), (0, u "()V"), (3, .class_ 14), (1, u "java/lang/String"), (4, u "digitsFrom"), (0, u "(Ljava/lang/String;I)I"), (0, .methodref 12 22), (0, .nameAndType 23 24), (0, u "length"), (0, u "()I"), (0, .methodref 12 26), (0, .nameAndType 27 28), (0, u "charAt"), (0, u "(I)C"), (31, u "MAX_DIGITS"), (0, u "I"), (2, u "MAX_PLACES"), (1, u "LONG_DIGITS"), (1, u "TOO_LONG"), (0, u "Ljava/lang/String;")] 9

def k8m0 : Method := { name := "<init>", desc := "()V", sig := { parameters := [], returnType := none }, accessFlags := 2, code := none }
def k8c1 : Code := { maxStack := 2, maxLocals := 3, code := prog_5_method_6_code, exceptionTable := #[], attributes := #[] }
def k8m1 : Method := { name := "digitsFrom", desc := "(Ljava/lang/String;I)I", sig := { parameters := [(.object "java/lang/String"), .int], returnType := some .int }, accessFlags := 8, code := some k8c1 }
/-- com/example/tallyrule/tallyrule/Decimals -/
def k8 : Class := { plain "com/example/tallyrule/tallyrule/Decimals" (some 0) with
  accessFlags := 33
  interfaces := #[]
  cf := some (fileOf pool8 1 #[] #[{ accessFlags := 2, nameIndex := 7, descriptorIndex := 8, attributes := #[] }, { accessFlags := 8, nameIndex := 19, descriptorIndex := 20, attributes := #[] }] 33 4 #[] #[{ accessFlags := 24, nameIndex := 60, descriptorIndex := 61, attributes := #[] }, { accessFlags := 24, nameIndex := 64, descriptorIndex := 61, attributes := #[] }, { accessFlags := 24, nameIndex := 66, descriptorIndex := 61, attributes := #[] }, { accessFlags := 24, nameIndex := 68, descriptorIndex := 69, attributes := #[] }])
  fields := #[{ name := "MAX_DIGITS", type := .int, accessFlags := 24, slot := 0, constantValue := 0 }, { name := "MAX_PLACES", type := .int, accessFlags := 24, slot := 1, constantValue := 0 }, { name := "LONG_DIGITS", type := .int, accessFlags := 24, slot := 2, constantValue := 0 }, { name := "TOO_LONG", type := (.object "java/lang/String"), accessFlags := 24, slot := 3, constantValue := 0 }]
  methods := #[k8m0, k8m1]
  instanceTypes := #[]
  staticTypes := #[.int, .int, .int, (.object "java/lang/String")]
  resolved := Array.replicate 79 none
  statics := none }

def pool9 : Array CpInfo := pool [(3, .class_ 4), (0, u "java/lang/String"), (1, .class_ 8), (1, u "java/lang/Object"), (0, u "<init>"), (0, u "()V"), (0, .methodref 12 13), (0, .class_ 14), (0, .nameAndType 15 16), (0, u "java/lang/StringUTF16"), (0, u "newBytesLength"), (0, u "(I)I"), (3, .integer 1073741823), (23, .fieldref 12 45), (0, .nameAndType 46 47), (0, u "$assertionsDisabled"), (0, u "Z"), (0, .methodref 12 49), (0, .nameAndType 50 51), (0, u "length"), (0, u "([B)I"), (7, .fieldref 12 60), (0, .nameAndType 61 62), (0, u "HI_BYTE_SHIFT"), (0, u "I"), (0, .fieldref 12 64), (0, .nameAndType 65 62), (0, u "LO_BYTE_SHIFT"), (1, .methodref 12 68), (0, .nameAndType 69 70), (0, u "checkIndex"), (0, u "(I[B)V"), (0, .methodref 12 72), (0, .nameAndType 73 74), (0, u "getChar"), (0, u "([BI)C"), (32, .methodref 12 108), (0, .nameAndType 109 110), (0, u "newBytesFor"), (0, u "(I)[B"), (0, .methodref 12 112), (0, .nameAndType 113 114), (0, u "putChar"), (0, u "([BII)V"), (0, .methodref 12 116), (0, .nameAndType 117 118), (0, u "compress"), (0, u "([CI[BII)I"), (0, .methodref 12 120), (0, .nameAndType 121 122), (0, u "toBytes"), (0, u "([CII)[B"), (138, u "coderFromArrayLen"), (0, u "([BI)B"), (106, .class_ 371), (1, u "java/lang/StringUTF16$LinesSpliterator"), (20, u "charAt"), (21, .methodref 3 415), (0, .nameAndType 69 416), (0, u "(II)V"), (13, u "MAX_LENGTH"), (196, .class_ 628), (0, u "java/lang/StringUTF16$CodePointsSpliterator"), (0, .class_ 630), (0, u "java/lang/StringUTF16$CharsSpliterator")] 4

def k9m0 : Method := { name := "<init>", desc := "()V", sig := { parameters := [], returnType := none }, accessFlags := 0, code := none }
def k9c1 : Code := { maxStack := 1, maxLocals := 1, code := jdk_52_method_2_code, exceptionTable := #[], attributes := #[] }
def k9m1 : Method := { name := "newBytesFor", desc := "(I)[B", sig := { parameters := [.int], returnType := some (.array .byte) }, accessFlags := 9, code := some k9c1 }
def k9c2 : Code := { maxStack := 4, maxLocals := 1, code := jdk_52_method_3_code, exceptionTable := #[], attributes := #[] }
def k9m2 : Method := { name := "newBytesLength", desc := "(I)I", sig := { parameters := [.int], returnType := some .int }, accessFlags := 9, code := some k9c2 }
def k9c3 : Code := { maxStack := 4, maxLocals := 3, code := jdk_52_method_4_code, exceptionTable := #[], attributes := #[] }
def k9m3 : Method := { name := "putChar", desc := "([BII)V", sig := { parameters := [(.array .byte), .int, .int], returnType := none }, accessFlags := 8, code := some k9c3 }
def k9c4 : Code := { maxStack := 3, maxLocals := 2, code := jdk_52_method_5_code, exceptionTable := #[], attributes := #[] }
def k9m4 : Method := { name := "getChar", desc := "([BI)C", sig := { parameters := [(.array .byte), .int], returnType := some .char }, accessFlags := 8, code := some k9c4 }
def k9c5 : Code := { maxStack := 2, maxLocals := 1, code := jdk_52_method_6_code, exceptionTable := #[], attributes := #[] }
def k9m5 : Method := { name := "length", desc := "([B)I", sig := { parameters := [(.array .byte)], returnType := some .int }, accessFlags := 9, code := some k9c5 }
def k9c6 : Code := { maxStack := 4, maxLocals := 5, code := jdk_52_method_14_code, exceptionTable := #[], attributes := #[] }
def k9m6 : Method := { name := "toBytes", desc := "([CII)[B", sig := { parameters := [(.array .char), .int, .int], returnType := some (.array .byte) }, accessFlags := 9, code := some k9c6 }
def k9c7 : Code := { maxStack := 2, maxLocals := 2, code := jdk_52_method_15_code, exceptionTable := #[], attributes := #[] }
def k9m7 : Method := { name := "coderFromArrayLen", desc := "([BI)B", sig := { parameters := [(.array .byte), .int], returnType := some .byte }, accessFlags := 8, code := some k9c7 }
def k9c8 : Code := { maxStack := 5, maxLocals := 6, code := jdk_52_method_16_code, exceptionTable := #[], attributes := #[] }
def k9m8 : Method := { name := "compress", desc := "([CII)[B", sig := { parameters := [(.array .char), .int, .int], returnType := some (.array .byte) }, accessFlags := 9, code := some k9c8 }
def k9c9 : Code := { maxStack := 3, maxLocals := 7, code := jdk_52_method_21_code, exceptionTable := #[], attributes := #[] }
def k9m9 : Method := { name := "compress", desc := "([CI[BII)I", sig := { parameters := [(.array .char), .int, (.array .byte), .int, .int], returnType := some .int }, accessFlags := 9, code := some k9c9 }
def k9c10 : Code := { maxStack := 2, maxLocals := 2, code := jdk_52_method_83_code, exceptionTable := #[], attributes := #[] }
def k9m10 : Method := { name := "charAt", desc := "([BI)C", sig := { parameters := [(.array .byte), .int], returnType := some .char }, accessFlags := 9, code := some k9c10 }
def k9c11 : Code := { maxStack := 2, maxLocals := 2, code := jdk_52_method_91_code, exceptionTable := #[], attributes := #[] }
def k9m11 : Method := { name := "checkIndex", desc := "(I[B)V", sig := { parameters := [.int, (.array .byte)], returnType := none }, accessFlags := 9, code := some k9c11 }
/-- java/lang/StringUTF16 -/
def k9 : Class := { plain "java/lang/StringUTF16" (some 0) with
  accessFlags := 48
  interfaces := #[]
  cf := some (fileOf pool9 12 #[.nestMembers #[627, 629, 369]] #[{ accessFlags := 0, nameIndex := 9, descriptorIndex := 10, attributes := #[] }, { accessFlags := 9, nameIndex := 109, descriptorIndex := 110, attributes := #[] }, { accessFlags := 9, nameIndex := 15, descriptorIndex := 16, attributes := #[] }, { accessFlags := 8, nameIndex := 113, descriptorIndex := 114, attributes := #[] }, { accessFlags := 8, nameIndex := 73, descriptorIndex := 74, attributes := #[] }, { accessFlags := 9, nameIndex := 50, descriptorIndex := 51, attributes := #[] }, { accessFlags := 9, nameIndex := 121, descriptorIndex := 122, attributes := #[] }, { accessFlags := 8, nameIndex := 261, descriptorIndex := 262, attributes := #[] }, { accessFlags := 9, nameIndex := 117, descriptorIndex := 122, attributes := #[] }, { accessFlags := 9, nameIndex := 117, descriptorIndex := 118, attributes := #[] }, { accessFlags := 9, nameIndex := 392, descriptorIndex := 74, attributes := #[] }, { accessFlags := 9, nameIndex := 69, descriptorIndex := 70, attributes := #[] }] 48 6 #[] #[{ accessFlags := 26, nameIndex := 61, descriptorIndex := 62, attributes := #[] }, { accessFlags := 26, nameIndex := 65, descriptorIndex := 62, attributes := #[] }, { accessFlags := 24, nameIndex := 430, descriptorIndex := 62, attributes := #[] }, { accessFlags := 4120, nameIndex := 46, descriptorIndex := 47, attributes := #[] }])
  fields := #[{ name := "HI_BYTE_SHIFT", type := .int, accessFlags := 26, slot := 0, constantValue := 0 }, { name := "LO_BYTE_SHIFT", type := .int, accessFlags := 26, slot := 1, constantValue := 0 }, { name := "MAX_LENGTH", type := .int, accessFlags := 24, slot := 2, constantValue := 0 }, { name := "$assertionsDisabled", type := .boolean, accessFlags := 4120, slot := 3, constantValue := 0 }]
  methods := #[k9m0, k9m1, k9m2, k9m3, k9m4, k9m5, k9m6, k9m7, k9m8, k9m9, k9m10, k9m11]
  instanceTypes := #[]
  staticTypes := #[.int, .int, .int, .boolean]
  resolved := Array.replicate 635 none
  statics := some 1 }

def pool10 : Array CpInfo := pool [(1, .class_ 2), (0, u "java/lang/String"), (1, .class_ 6), (1, u "java/lang/Object"), (0, u "<init>"), (0, u "()V"), (0, .methodref 1 10), (0, .nameAndType 11 12), (0, u "checkIndex"), (0, u "(II)V"), (1, .class_ 16), (1, u "java/lang/StringLatin1"), (36, u "([BI)C"), (67, u "$assertionsDisabled"), (0, u "Z"), (98, .class_ 223), (1, u "java/lang/StringLatin1$LinesSpliterator"), (28, u "charAt"), (137, .class_ 391), (0, u "java/lang/StringLatin1$CharsSpliterator")] 3

def k10m0 : Method := { name := "<init>", desc := "()V", sig := { parameters := [], returnType := none }, accessFlags := 0, code := none }
def k10c1 : Code := { maxStack := 2, maxLocals := 2, code := jdk_43_method_2_code, exceptionTable := #[], attributes := #[] }
def k10m1 : Method := { name := "charAt", desc := "([BI)C", sig := { parameters := [(.array .byte), .int], returnType := some .char }, accessFlags := 9, code := some k10c1 }
/-- java/lang/StringLatin1 -/
def k10 : Class := { plain "java/lang/StringLatin1" (some 0) with
  accessFlags := 48
  interfaces := #[]
  cf := some (fileOf pool10 14 #[.nestMembers #[390, 221]] #[{ accessFlags := 0, nameIndex := 7, descriptorIndex := 8, attributes := #[] }, { accessFlags := 9, nameIndex := 252, descriptorIndex := 53, attributes := #[] }] 48 4 #[] #[{ accessFlags := 4120, nameIndex := 121, descriptorIndex := 122, attributes := #[] }])
  fields := #[{ name := "$assertionsDisabled", type := .boolean, accessFlags := 4120, slot := 0, constantValue := 0 }]
  methods := #[k10m0, k10m1]
  instanceTypes := #[]
  staticTypes := #[.boolean]
  resolved := Array.replicate 395 none
  statics := none }

def pool11 : Array CpInfo := pool [(2, .class_ 4), (1, u "java/lang/Object"), (0, u "<init>"), (0, u "()V"), (17, .class_ 26), (1, u "jdk/internal/util/Preconditions"), (6, u "checkIndex"), (21, .class_ 56), (0, u "jdk/internal/util/Preconditions$4"), (57, .class_ 115), (0, u "jdk/internal/util/Preconditions$1"), (7, u "SIOOBE_FORMATTER"), (0, u "Ljava/util/function/BiFunction;"), (0, .class_ 126), (0, u "jdk/internal/util/Preconditions$2"), (3, u "AIOOBE_FORMATTER"), (0, .class_ 132), (0, u "jdk/internal/util/Preconditions$3"), (3, u "IOOBE_FORMATTER"), (41, u "(IILjava/util/function/BiFunction;)I")] 15

def k11m0 : Method := { name := "<init>", desc := "()V", sig := { parameters := [], returnType := none }, accessFlags := 1, code := none }
def k11c1 : Code := { maxStack := 3, maxLocals := 3, code := jdk_41_method_11_code, exceptionTable := #[], attributes := #[] }
def k11m1 : Method := { name := "checkIndex", desc := "(IILjava/util/function/BiFunction;)I", sig := { parameters := [.int, .int, (.object "java/util/function/BiFunction")], returnType := some .int }, accessFlags := 9, code := some k11c1 }
/-- jdk/internal/util/Preconditions -/
def k11 : Class := { plain "jdk/internal/util/Preconditions" (some 0) with
  accessFlags := 33
  interfaces := #[]
  cf := some (fileOf pool11 24 #[.nestMembers #[55, 131, 125, 114]] #[{ accessFlags := 1, nameIndex := 5, descriptorIndex := 6, attributes := #[] }, { accessFlags := 9, nameIndex := 33, descriptorIndex := 178, attributes := #[] }] 33 2 #[] #[{ accessFlags := 25, nameIndex := 123, descriptorIndex := 124, attributes := #[] }, { accessFlags := 25, nameIndex := 130, descriptorIndex := 124, attributes := #[] }, { accessFlags := 25, nameIndex := 136, descriptorIndex := 124, attributes := #[] }])
  fields := #[{ name := "SIOOBE_FORMATTER", type := (.object "java/util/function/BiFunction"), accessFlags := 25, slot := 0, constantValue := 0 }, { name := "AIOOBE_FORMATTER", type := (.object "java/util/function/BiFunction"), accessFlags := 25, slot := 1, constantValue := 0 }, { name := "IOOBE_FORMATTER", type := (.object "java/util/function/BiFunction"), accessFlags := 25, slot := 2, constantValue := 0 }]
  methods := #[k11m0, k11m1]
  instanceTypes := #[]
  staticTypes := #[(.object "java/util/function/BiFunction"), (.object "java/util/function/BiFunction"), (.object "java/util/function/BiFunction")]
  resolved := Array.replicate 194 none
  statics := some 2 }

def pool12 : Array CpInfo := pool [(9, u "<init>"), (6, .class_ 18), (1, u "java/lang/Object"), (0, u "()V"), (1, .class_ 23), (1, u "jdk/internal/util/ArraysSupport"), (0, u "LOG2_ARRAY_LONG_INDEX_SCALE"), (0, u "I"), (2, u "U"), (0, u "Ljdk/internal/misc/Unsafe;"), (8, u "BIG_ENDIAN"), (0, u "Z"), (8, u "LOG2_BYTE_BIT_SIZE"), (4, u "LOG2_ARRAY_INT_INDEX_SCALE"), (54, u "JLA"), (0, u "Ljdk/internal/access/JavaLangAccess;"), (11, u "LOG2_ARRAY_BOOLEAN_INDEX_SCALE"), (9, u "LOG2_ARRAY_BYTE_INDEX_SCALE"), (5, u "LOG2_ARRAY_CHAR_INDEX_SCALE"), (5, u "LOG2_ARRAY_SHORT_INDEX_SCALE"), (18, u "LOG2_ARRAY_FLOAT_INDEX_SCALE"), (24, u "LOG2_ARRAY_DOUBLE_INDEX_SCALE"), (89, u "T_BOOLEAN"), (2, u "T_CHAR"), (1, u "T_FLOAT"), (1, u "T_DOUBLE"), (1, u "T_BYTE"), (1, u "T_SHORT"), (1, u "T_INT"), (1, u "T_LONG"), (1, u "SOFT_MAX_ARRAY_LENGTH")] 83

def k12m0 : Method := { name := "<init>", desc := "()V", sig := { parameters := [], returnType := none }, accessFlags := 2, code := none }
/-- jdk/internal/util/ArraysSupport -/
def k12 : Class := { plain "jdk/internal/util/ArraysSupport" (some 0) with
  accessFlags := 33
  interfaces := #[]
  cf := some (fileOf pool12 21 #[] #[{ accessFlags := 2, nameIndex := 9, descriptorIndex := 19, attributes := #[] }] 33 16 #[] #[{ accessFlags := 24, nameIndex := 28, descriptorIndex := 29, attributes := #[] }, { accessFlags := 26, nameIndex := 38, descriptorIndex := 39, attributes := #[] }, { accessFlags := 25, nameIndex := 121, descriptorIndex := 25, attributes := #[] }, { accessFlags := 25, nameIndex := 131, descriptorIndex := 25, attributes := #[] }, { accessFlags := 25, nameIndex := 137, descriptorIndex := 25, attributes := #[] }, { accessFlags := 25, nameIndex := 143, descriptorIndex := 25, attributes := #[] }, { accessFlags := 25, nameIndex := 53, descriptorIndex := 25, attributes := #[] }, { accessFlags := 25, nameIndex := 24, descriptorIndex := 25, attributes := #[] }, { accessFlags := 25, nameIndex := 162, descriptorIndex := 25, attributes := #[] }, { accessFlags := 25, nameIndex := 187, descriptorIndex := 25, attributes := #[] }, { accessFlags := 26, nameIndex := 48, descriptorIndex := 25, attributes := #[] }, { accessFlags := 25, nameIndex := 277, descriptorIndex := 25, attributes := #[] }, { accessFlags := 25, nameIndex := 280, descriptorIndex := 25, attributes := #[] }, { accessFlags := 25, nameIndex := 282, descriptorIndex := 25, attributes := #[] }, { accessFlags := 25, nameIndex := 284, descriptorIndex := 25, attributes := #[] }, { accessFlags := 25, nameIndex := 286, descriptorIndex := 25, attributes := #[] }, { accessFlags := 25, nameIndex := 288, descriptorIndex := 25, attributes := #[] }, { accessFlags := 25, nameIndex := 290, descriptorIndex := 25, attributes := #[] }, { accessFlags := 25, nameIndex := 292, descriptorIndex := 25, attributes := #[] }, { accessFlags := 26, nameIndex := 108, descriptorIndex := 109, attributes := #[] }, { accessFlags := 25, nameIndex := 294, descriptorIndex := 25, attributes := #[] }])
  fields := #[{ name := "U", type := (.object "jdk/internal/misc/Unsafe"), accessFlags := 24, slot := 0, constantValue := 0 }, { name := "BIG_ENDIAN", type := .boolean, accessFlags := 26, slot := 1, constantValue := 0 }, { name := "LOG2_ARRAY_BOOLEAN_INDEX_SCALE", type := .int, accessFlags := 25, slot := 2, constantValue := 0 }, { name := "LOG2_ARRAY_BYTE_INDEX_SCALE", type := .int, accessFlags := 25, slot := 3, constantValue := 0 }, { name := "LOG2_ARRAY_CHAR_INDEX_SCALE", type := .int, accessFlags := 25, slot := 4, constantValue := 0 }, { name := "LOG2_ARRAY_SHORT_INDEX_SCALE", type := .int, accessFlags := 25, slot := 5, constantValue := 0 }, { name := "LOG2_ARRAY_INT_INDEX_SCALE", type := .int, accessFlags := 25, slot := 6, constantValue := 0 }, { name := "LOG2_ARRAY_LONG_INDEX_SCALE", type := .int, accessFlags := 25, slot := 7, constantValue := 0 }, { name := "LOG2_ARRAY_FLOAT_INDEX_SCALE", type := .int, accessFlags := 25, slot := 8, constantValue := 0 }, { name := "LOG2_ARRAY_DOUBLE_INDEX_SCALE", type := .int, accessFlags := 25, slot := 9, constantValue := 0 }, { name := "LOG2_BYTE_BIT_SIZE", type := .int, accessFlags := 26, slot := 10, constantValue := 0 }, { name := "T_BOOLEAN", type := .int, accessFlags := 25, slot := 11, constantValue := 0 }, { name := "T_CHAR", type := .int, accessFlags := 25, slot := 12, constantValue := 0 }, { name := "T_FLOAT", type := .int, accessFlags := 25, slot := 13, constantValue := 0 }, { name := "T_DOUBLE", type := .int, accessFlags := 25, slot := 14, constantValue := 0 }, { name := "T_BYTE", type := .int, accessFlags := 25, slot := 15, constantValue := 0 }, { name := "T_SHORT", type := .int, accessFlags := 25, slot := 16, constantValue := 0 }, { name := "T_INT", type := .int, accessFlags := 25, slot := 17, constantValue := 0 }, { name := "T_LONG", type := .int, accessFlags := 25, slot := 18, constantValue := 0 }, { name := "JLA", type := (.object "jdk/internal/access/JavaLangAccess"), accessFlags := 26, slot := 19, constantValue := 0 }, { name := "SOFT_MAX_ARRAY_LENGTH", type := .int, accessFlags := 25, slot := 20, constantValue := 0 }]
  methods := #[k12m0]
  instanceTypes := #[]
  staticTypes := #[(.object "jdk/internal/misc/Unsafe"), .boolean, .int, .int, .int, .int, .int, .int, .int, .int, .int, .int, .int, .int, .int, .int, .int, .int, .int, (.object "jdk/internal/access/JavaLangAccess"), .int]
  resolved := Array.replicate 378 none
  statics := none }

def pool13 : Array CpInfo := pool [(1, u "java/lang/Cloneable"), (0, .class_ 1), (0, u "java/lang/Object"), (0, .class_ 3)] 3

/-- java/lang/Cloneable -/
def k13 : Class := { plain "java/lang/Cloneable" (some 0) with
  accessFlags := 1537
  interfaces := #[]
  cf := some (fileOf pool13 2 #[] #[] 1537 4 #[] #[])
  fields := #[]
  methods := #[]
  instanceTypes := #[]
  staticTypes := #[]
  resolved := Array.replicate 8 none
  statics := none }

/-- the primitive byte -/
def k14 : Class := { plain "byte" none with kind := .primitive 'B', accessFlags := 0x411 }
/-- [B -/
def k15 : Class := { plain "[B" (some 0) with kind := .array 14 .byte, interfaces := #[13, 2], accessFlags := 1041 }

/-- the primitive char -/
def k16 : Class := { plain "char" none with kind := .primitive 'C', accessFlags := 0x411 }
/-- [C -/
def k17 : Class := { plain "[C" (some 0) with kind := .array 16 .char, interfaces := #[13, 2], accessFlags := 1041 }

/-- the primitive int -/
def k18 : Class := { plain "int" none with kind := .primitive 'I', accessFlags := 0x411 }
/-- [I -/
def k19 : Class := { plain "[I" (some 0) with kind := .array 18 .int, interfaces := #[13, 2], accessFlags := 1041 }

def heap : Heap := #[{ cls := 7, slots := #[.long 0, .int 1, .null, .int 0, .null, .int 0, .int 0], vm := .statics 7 },
  { cls := 9, slots := #[.int 0, .int 8, .int 0, .int 1], vm := .statics 9 },
  { cls := 11, slots := #[.null, .null, .null], vm := .statics 11 }]
def classes : Array Class := #[k0, k1, k2, k3, k4, k5, k6, k7, k8, k9, k10, k11, k12, k13, k14, k15, k16, k17, k18, k19]
def interned : List (Array UInt16 × Addr) := []
def slotsUsed : Nat := 14
def theMethod : MethodId := ⟨1, 4⟩
def args0 : Array Value := #[.int 5, .int 3, .int 4, .int 6, .int 7]
def aboutOver (below : List Frame) : State where
  vm := { classes := classes, interned := interned.toArray }
  heap := heap
  slotsUsed := slotsUsed
  threads := #[{ frames := .invoking theMethod args0 :: below }]
def below0 : List Frame := [.native { method := ⟨0, 0⟩, args := #[] }]
def about1 : State := aboutOver below0
def p0 : Program := .bare "" "" ""
def e0 : Env := launch0.env 0 0 0
theorem w_frames : about1.frames = Frame.invoking theMethod args0 :: below0 := rfl
set_option maxRecDepth 65536 in
theorem w_args : argsFit about1.vm theMethod args0 = true := by decide +kernel
set_option maxRecDepth 65536 in
theorem w_heap : heapFits about1 = true := by decide +kernel
set_option maxRecDepth 65536 in
theorem w_runnable : about1.curStatus? = some .runnable := by decide +kernel
set_option maxRecDepth 65536 in
theorem w_alone : about1.alone = true := by decide +kernel
set_option maxRecDepth 65536 in
theorem w_named : about1.methodNamed? x = some theMethod := by decide +kernel
set_option maxRecDepth 65536 in
theorem w_hears : about1.hears theMethod below0 = true := by decide +kernel
set_option maxRecDepth 65536 in
theorem w_ripe : about1.ripe theMethod args0 below0 = true := by decide +kernel
theorem w_running : about1.status = .running := rfl
set_option maxRecDepth 65536 in
theorem w_room : about1.hasRoom e0.platform room_1 = true :=
  launch0.hasRoom_least _ room_1 (by decide +kernel) (by decide +kernel) (by decide +kernel) (by decide +kernel) (by decide +kernel) (by decide +kernel)
theorem allAtoms_all (ts : List Jvm.Cond) (a : Array Jvm.Value) (st : Jvm.State) : (allAtoms ts).before a st = ts.all (fun c => c.before a st) := by
  induction ts with
  | nil => rfl
  | cons c t ih =>
    show (Jvm.Cond.and c (allAtoms t)).before a st = _
    rw [Jvm.Cond.before_and, ih, List.all_cons]
def words1 : List Jvm.Cond := Jvm.Cond.code x code maxLocals ret :: tables_1
/-- a 'code' word, met by the world's own term for the bytes: nothing is compared byte by byte -/
theorem code_word {y : MethodName} {bytes : ByteArray} {mx : Nat} {rt : Option FieldType} {a : Array Value} {s : State} {m : MethodId} {meth : Method} {c : Code} (h1 : s.methodNamed? y = some m) (h2 : s.vm.method? m = some meth) (h3 : meth.code = some c) (h4 : c.code = bytes)
    (h5 : (c.maxLocals == mx && c.exceptionTable.isEmpty && decide (c.maxStack ≤ mostOperands) && decide (meth.sig.returnType = rt) && !meth.locks && decide (parseMethodDescriptor y.desc = some meth.sig)) = true) : (Jvm.Cond.code y bytes mx rt).before a s = true := by
  simp only [Bool.and_eq_true, beq_iff_eq, Bool.not_eq_true', decide_eq_true_eq] at h5
  obtain ⟨⟨⟨⟨⟨g1, g2⟩, g3⟩, g4⟩, g5⟩, g6⟩ := h5
  simp [Cond.before, Cond.holds, Cond.value, h1, h2, h3, h4, g1, g2, g3, g4, g5, g6]
def isCode : Jvm.Cond → Bool
  | .code _ _ _ _ => true
  | _ => false
theorem all_split {L : List Jvm.Cond} {P : Jvm.Cond → Bool} (h1 : L.all (fun c => isCode c || P c) = true) (h2 : ∀ c ∈ L.filter isCode, P c = true) : L.all P = true := by
  refine List.all_eq_true.mpr fun c hc => ?_
  have h := List.all_eq_true.mp h1 c hc
  rcases Bool.eq_false_or_eq_true (isCode c) with hi | hi
  · exact h2 c (List.mem_filter.mpr ⟨hc, hi⟩)
  · simpa [hi] using h
set_option maxRecDepth 65536 in
theorem w_c0 : (Jvm.Cond.code x code maxLocals ret).before args0 about1 = true := code_word (m := ⟨1, 4⟩) (meth := k1m4) (c := k1c4) (by decide +kernel) rfl rfl rfl (by decide +kernel)
set_option maxRecDepth 65536 in
theorem w_c1 : (Jvm.Cond.code ({ cls := "com/example/tallyrule/tallyrule/DecimalsDigitsFromPinLaw", name := "ch", desc := "(I)C" } : Jvm.MethodName) method_2_code (2 : Nat) (Option.some Jvm.ClassFile.FieldType.char)).before args0 about1 = true := code_word (m := ⟨1, 1⟩) (meth := k1m1) (c := k1c1) (by decide +kernel) rfl rfl rfl (by decide +kernel)
set_option maxRecDepth 65536 in
theorem w_c2 : (Jvm.Cond.code ({ cls := "com/example/tallyrule/tallyrule/DecimalsDigitsFromPinLaw", name := "str", desc := "(CCCCI)Ljava/lang/String;" } : Jvm.MethodName) method_4_code (5 : Nat) (Option.some (Jvm.ClassFile.FieldType.object "java/lang/String"))).before args0 about1 = true := code_word (m := ⟨1, 3⟩) (meth := k1m3) (c := k1c3) (by decide +kernel) rfl rfl rfl (by decide +kernel)
set_option maxRecDepth 65536 in
theorem w_c3 : (Jvm.Cond.code ({ cls := "java/lang/String", name := "<init>", desc := "([C)V" } : Jvm.MethodName) jdk_42_method_3_code (2 : Nat) (Option.none : Option Jvm.ClassFile.FieldType)).before args0 about1 = true := code_word (m := ⟨7, 1⟩) (meth := k7m1) (c := k7c1) (by decide +kernel) rfl rfl rfl (by decide +kernel)
set_option maxRecDepth 65536 in
theorem w_c4 : (Jvm.Cond.code ({ cls := "java/lang/String", name := "<init>", desc := "([CIILjava/lang/Void;)V" } : Jvm.MethodName) jdk_42_method_149_code (6 : Nat) (Option.none : Option Jvm.ClassFile.FieldType)).before args0 about1 = true := code_word (m := ⟨7, 4⟩) (meth := k7m4) (c := k7c4) (by decide +kernel) rfl rfl rfl (by decide +kernel)
set_option maxRecDepth 65536 in
theorem w_c5 : (Jvm.Cond.code ({ cls := "java/lang/Object", name := "<init>", desc := "()V" } : Jvm.MethodName) object_method_1_code (1 : Nat) (Option.none : Option Jvm.ClassFile.FieldType)).before args0 about1 = true := code_word (m := ⟨0, 0⟩) (meth := k0m0) (c := k0c0) (by decide +kernel) rfl rfl rfl (by decide +kernel)
set_option maxRecDepth 65536 in
theorem w_c6 : (Jvm.Cond.code ({ cls := "com/example/tallyrule/tallyrule/Decimals", name := "digitsFrom", desc := "(Ljava/lang/String;I)I" } : Jvm.MethodName) prog_5_method_6_code (3 : Nat) (Option.some Jvm.ClassFile.FieldType.int)).before args0 about1 = true := code_word (m := ⟨8, 1⟩) (meth := k8m1) (c := k8c1) (by decide +kernel) rfl rfl rfl (by decide +kernel)
set_option maxRecDepth 65536 in
theorem w_c7 : (Jvm.Cond.code ({ cls := "java/lang/String", name := "length", desc := "()I" } : Jvm.MethodName) jdk_42_method_54_code (1 : Nat) (Option.some Jvm.ClassFile.FieldType.int)).before args0 about1 = true := code_word (m := ⟨7, 2⟩) (meth := k7m2) (c := k7c2) (by decide +kernel) rfl rfl rfl (by decide +kernel)
set_option maxRecDepth 65536 in
theorem w_c8 : (Jvm.Cond.code ({ cls := "java/lang/String", name := "coder", desc := "()B" } : Jvm.MethodName) jdk_42_method_152_code (1 : Nat) (Option.some Jvm.ClassFile.FieldType.byte)).before args0 about1 = true := code_word (m := ⟨7, 5⟩) (meth := k7m5) (c := k7c5) (by decide +kernel) rfl rfl rfl (by decide +kernel)
set_option maxRecDepth 65536 in
theorem w_c9 : (Jvm.Cond.code ({ cls := "java/lang/StringUTF16", name := "compress", desc := "([CII)[B" } : Jvm.MethodName) jdk_52_method_16_code (6 : Nat) (Option.some (Jvm.ClassFile.FieldType.array Jvm.ClassFile.FieldType.byte))).before args0 about1 = true := code_word (m := ⟨9, 8⟩) (meth := k9m8) (c := k9c8) (by decide +kernel) rfl rfl rfl (by decide +kernel)
set_option maxRecDepth 65536 in
theorem w_c10 : (Jvm.Cond.code ({ cls := "java/lang/StringUTF16", name := "compress", desc := "([CI[BII)I" } : Jvm.MethodName) jdk_52_method_21_code (7 : Nat) (Option.some Jvm.ClassFile.FieldType.int)).before args0 about1 = true := code_word (m := ⟨9, 9⟩) (meth := k9m9) (c := k9c9) (by decide +kernel) rfl rfl rfl (by decide +kernel)
set_option maxRecDepth 65536 in
theorem w_c11 : (Jvm.Cond.code ({ cls := "java/lang/StringUTF16", name := "coderFromArrayLen", desc := "([BI)B" } : Jvm.MethodName) jdk_52_method_15_code (2 : Nat) (Option.some Jvm.ClassFile.FieldType.byte)).before args0 about1 = true := code_word (m := ⟨9, 7⟩) (meth := k9m7) (c := k9c7) (by decide +kernel) rfl rfl rfl (by decide +kernel)
set_option maxRecDepth 65536 in
theorem w_c12 : (Jvm.Cond.code ({ cls := "com/example/tallyrule/tallyrule/DecimalsDigitsFromPinLaw", name := "dig", desc := "(C)Z" } : Jvm.MethodName) method_3_code (1 : Nat) (Option.some Jvm.ClassFile.FieldType.boolean)).before args0 about1 = true := code_word (m := ⟨1, 2⟩) (meth := k1m2) (c := k1c2) (by decide +kernel) rfl rfl rfl (by decide +kernel)
set_option maxRecDepth 65536 in
theorem w_c13 : (Jvm.Cond.code ({ cls := "java/lang/String", name := "charAt", desc := "(I)C" } : Jvm.MethodName) jdk_42_method_56_code (2 : Nat) (Option.some Jvm.ClassFile.FieldType.char)).before args0 about1 = true := code_word (m := ⟨7, 3⟩) (meth := k7m3) (c := k7c3) (by decide +kernel) rfl rfl rfl (by decide +kernel)
set_option maxRecDepth 65536 in
theorem w_c14 : (Jvm.Cond.code ({ cls := "java/lang/String", name := "isLatin1", desc := "()Z" } : Jvm.MethodName) jdk_42_method_154_code (1 : Nat) (Option.some Jvm.ClassFile.FieldType.boolean)).before args0 about1 = true := code_word (m := ⟨7, 6⟩) (meth := k7m6) (c := k7c6) (by decide +kernel) rfl rfl rfl (by decide +kernel)
set_option maxRecDepth 65536 in
theorem w_c15 : (Jvm.Cond.code ({ cls := "java/lang/StringLatin1", name := "charAt", desc := "([BI)C" } : Jvm.MethodName) jdk_43_method_2_code (2 : Nat) (Option.some Jvm.ClassFile.FieldType.char)).before args0 about1 = true := code_word (m := ⟨10, 1⟩) (meth := k10m1) (c := k10c1) (by decide +kernel) rfl rfl rfl (by decide +kernel)
set_option maxRecDepth 65536 in
theorem w_c16 : (Jvm.Cond.code ({ cls := "java/lang/String", name := "checkIndex", desc := "(II)V" } : Jvm.MethodName) jdk_42_method_155_code (2 : Nat) (Option.none : Option Jvm.ClassFile.FieldType)).before args0 about1 = true := code_word (m := ⟨7, 7⟩) (meth := k7m7) (c := k7c7) (by decide +kernel) rfl rfl rfl (by decide +kernel)
set_option maxRecDepth 65536 in
theorem w_c17 : (Jvm.Cond.code ({ cls := "jdk/internal/util/Preconditions", name := "checkIndex", desc := "(IILjava/util/function/BiFunction;)I" } : Jvm.MethodName) jdk_41_method_11_code (3 : Nat) (Option.some Jvm.ClassFile.FieldType.int)).before args0 about1 = true := code_word (m := ⟨11, 1⟩) (meth := k11m1) (c := k11c1) (by decide +kernel) rfl rfl rfl (by decide +kernel)
set_option maxRecDepth 65536 in
theorem w_c18 : (Jvm.Cond.code ({ cls := "java/lang/StringUTF16", name := "toBytes", desc := "([CII)[B" } : Jvm.MethodName) jdk_52_method_14_code (5 : Nat) (Option.some (Jvm.ClassFile.FieldType.array Jvm.ClassFile.FieldType.byte))).before args0 about1 = true := code_word (m := ⟨9, 6⟩) (meth := k9m6) (c := k9c6) (by decide +kernel) rfl rfl rfl (by decide +kernel)
set_option maxRecDepth 65536 in
theorem w_c19 : (Jvm.Cond.code ({ cls := "java/lang/StringUTF16", name := "newBytesFor", desc := "(I)[B" } : Jvm.MethodName) jdk_52_method_2_code (1 : Nat) (Option.some (Jvm.ClassFile.FieldType.array Jvm.ClassFile.FieldType.byte))).before args0 about1 = true := code_word (m := ⟨9, 1⟩) (meth := k9m1) (c := k9c1) (by decide +kernel) rfl rfl rfl (by decide +kernel)
set_option maxRecDepth 65536 in
theorem w_c20 : (Jvm.Cond.code ({ cls := "java/lang/StringUTF16", name := "newBytesLength", desc := "(I)I" } : Jvm.MethodName) jdk_52_method_3_code (1 : Nat) (Option.some Jvm.ClassFile.FieldType.int)).before args0 about1 = true := code_word (m := ⟨9, 2⟩) (meth := k9m2) (c := k9c2) (by decide +kernel) rfl rfl rfl (by decide +kernel)
set_option maxRecDepth 65536 in
theorem w_c21 : (Jvm.Cond.code ({ cls := "java/lang/StringUTF16", name := "putChar", desc := "([BII)V" } : Jvm.MethodName) jdk_52_method_4_code (3 : Nat) (Option.none : Option Jvm.ClassFile.FieldType)).before args0 about1 = true := code_word (m := ⟨9, 3⟩) (meth := k9m3) (c := k9c3) (by decide +kernel) rfl rfl rfl (by decide +kernel)
set_option maxRecDepth 65536 in
theorem w_c22 : (Jvm.Cond.code ({ cls := "java/lang/StringUTF16", name := "getChar", desc := "([BI)C" } : Jvm.MethodName) jdk_52_method_5_code (2 : Nat) (Option.some Jvm.ClassFile.FieldType.char)).before args0 about1 = true := code_word (m := ⟨9, 4⟩) (meth := k9m4) (c := k9c4) (by decide +kernel) rfl rfl rfl (by decide +kernel)
set_option maxRecDepth 65536 in
theorem w_c23 : (Jvm.Cond.code ({ cls := "java/lang/StringUTF16", name := "charAt", desc := "([BI)C" } : Jvm.MethodName) jdk_52_method_83_code (2 : Nat) (Option.some Jvm.ClassFile.FieldType.char)).before args0 about1 = true := code_word (m := ⟨9, 10⟩) (meth := k9m10) (c := k9c10) (by decide +kernel) rfl rfl rfl (by decide +kernel)
set_option maxRecDepth 65536 in
theorem w_c24 : (Jvm.Cond.code ({ cls := "java/lang/StringUTF16", name := "checkIndex", desc := "(I[B)V" } : Jvm.MethodName) jdk_52_method_91_code (2 : Nat) (Option.none : Option Jvm.ClassFile.FieldType)).before args0 about1 = true := code_word (m := ⟨9, 11⟩) (meth := k9m11) (c := k9c11) (by decide +kernel) rfl rfl rfl (by decide +kernel)
set_option maxRecDepth 65536 in
theorem w_c25 : (Jvm.Cond.code ({ cls := "java/lang/StringUTF16", name := "length", desc := "([B)I" } : Jvm.MethodName) jdk_52_method_6_code (1 : Nat) (Option.some Jvm.ClassFile.FieldType.int)).before args0 about1 = true := code_word (m := ⟨9, 5⟩) (meth := k9m5) (c := k9c5) (by decide +kernel) rfl rfl rfl (by decide +kernel)
def codes1 : List Jvm.Cond := [Jvm.Cond.code x code maxLocals ret, Jvm.Cond.code ({ cls := "com/example/tallyrule/tallyrule/DecimalsDigitsFromPinLaw", name := "ch", desc := "(I)C" } : Jvm.MethodName) method_2_code (2 : Nat) (Option.some Jvm.ClassFile.FieldType.char), Jvm.Cond.code ({ cls := "com/example/tallyrule/tallyrule/DecimalsDigitsFromPinLaw", name := "str", desc := "(CCCCI)Ljava/lang/String;" } : Jvm.MethodName) method_4_code (5 : Nat) (Option.some (Jvm.ClassFile.FieldType.object "java/lang/String")), Jvm.Cond.code ({ cls := "java/lang/String", name := "<init>", desc := "([C)V" } : Jvm.MethodName) jdk_42_method_3_code (2 : Nat) (Option.none : Option Jvm.ClassFile.FieldType), Jvm.Cond.code ({ cls := "java/lang/String", name := "<init>", desc := "([CIILjava/lang/Void;)V" } : Jvm.MethodName) jdk_42_method_149_code (6 : Nat) (Option.none : Option Jvm.ClassFile.FieldType), Jvm.Cond.code ({ cls := "java/lang/Object", name := "<init>", desc := "()V" } : Jvm.MethodName) object_method_1_code (1 : Nat) (Option.none : Option Jvm.ClassFile.FieldType), Jvm.Cond.code ({ cls := "com/example/tallyrule/tallyrule/Decimals", name := "digitsFrom", desc := "(Ljava/lang/String;I)I" } : Jvm.MethodName) prog_5_method_6_code (3 : Nat) (Option.some Jvm.ClassFile.FieldType.int), Jvm.Cond.code ({ cls := "java/lang/String", name := "length", desc := "()I" } : Jvm.MethodName) jdk_42_method_54_code (1 : Nat) (Option.some Jvm.ClassFile.FieldType.int), Jvm.Cond.code ({ cls := "java/lang/String", name := "coder", desc := "()B" } : Jvm.MethodName) jdk_42_method_152_code (1 : Nat) (Option.some Jvm.ClassFile.FieldType.byte), Jvm.Cond.code ({ cls := "java/lang/StringUTF16", name := "compress", desc := "([CII)[B" } : Jvm.MethodName) jdk_52_method_16_code (6 : Nat) (Option.some (Jvm.ClassFile.FieldType.array Jvm.ClassFile.FieldType.byte)), Jvm.Cond.code ({ cls := "java/lang/StringUTF16", name := "compress", desc := "([CI[BII)I" } : Jvm.MethodName) jdk_52_method_21_code (7 : Nat) (Option.some Jvm.ClassFile.FieldType.int), Jvm.Cond.code ({ cls := "java/lang/StringUTF16", name := "coderFromArrayLen", desc := "([BI)B" } : Jvm.MethodName) jdk_52_method_15_code (2 : Nat) (Option.some Jvm.ClassFile.FieldType.byte), Jvm.Cond.code ({ cls := "com/example/tallyrule/tallyrule/DecimalsDigitsFromPinLaw", name := "dig", desc := "(C)Z" } : Jvm.MethodName) method_3_code (1 : Nat) (Option.some Jvm.ClassFile.FieldType.boolean), Jvm.Cond.code ({ cls := "java/lang/String", name := "charAt", desc := "(I)C" } : Jvm.MethodName) jdk_42_method_56_code (2 : Nat) (Option.some Jvm.ClassFile.FieldType.char), Jvm.Cond.code ({ cls := "java/lang/String", name := "isLatin1", desc := "()Z" } : Jvm.MethodName) jdk_42_method_154_code (1 : Nat) (Option.some Jvm.ClassFile.FieldType.boolean), Jvm.Cond.code ({ cls := "java/lang/StringLatin1", name := "charAt", desc := "([BI)C" } : Jvm.MethodName) jdk_43_method_2_code (2 : Nat) (Option.some Jvm.ClassFile.FieldType.char), Jvm.Cond.code ({ cls := "java/lang/String", name := "checkIndex", desc := "(II)V" } : Jvm.MethodName) jdk_42_method_155_code (2 : Nat) (Option.none : Option Jvm.ClassFile.FieldType), Jvm.Cond.code ({ cls := "jdk/internal/util/Preconditions", name := "checkIndex", desc := "(IILjava/util/function/BiFunction;)I" } : Jvm.MethodName) jdk_41_method_11_code (3 : Nat) (Option.some Jvm.ClassFile.FieldType.int), Jvm.Cond.code ({ cls := "java/lang/StringUTF16", name := "toBytes", desc := "([CII)[B" } : Jvm.MethodName) jdk_52_method_14_code (5 : Nat) (Option.some (Jvm.ClassFile.FieldType.array Jvm.ClassFile.FieldType.byte)), Jvm.Cond.code ({ cls := "java/lang/StringUTF16", name := "newBytesFor", desc := "(I)[B" } : Jvm.MethodName) jdk_52_method_2_code (1 : Nat) (Option.some (Jvm.ClassFile.FieldType.array Jvm.ClassFile.FieldType.byte)), Jvm.Cond.code ({ cls := "java/lang/StringUTF16", name := "newBytesLength", desc := "(I)I" } : Jvm.MethodName) jdk_52_method_3_code (1 : Nat) (Option.some Jvm.ClassFile.FieldType.int), Jvm.Cond.code ({ cls := "java/lang/StringUTF16", name := "putChar", desc := "([BII)V" } : Jvm.MethodName) jdk_52_method_4_code (3 : Nat) (Option.none : Option Jvm.ClassFile.FieldType), Jvm.Cond.code ({ cls := "java/lang/StringUTF16", name := "getChar", desc := "([BI)C" } : Jvm.MethodName) jdk_52_method_5_code (2 : Nat) (Option.some Jvm.ClassFile.FieldType.char), Jvm.Cond.code ({ cls := "java/lang/StringUTF16", name := "charAt", desc := "([BI)C" } : Jvm.MethodName) jdk_52_method_83_code (2 : Nat) (Option.some Jvm.ClassFile.FieldType.char), Jvm.Cond.code ({ cls := "java/lang/StringUTF16", name := "checkIndex", desc := "(I[B)V" } : Jvm.MethodName) jdk_52_method_91_code (2 : Nat) (Option.none : Option Jvm.ClassFile.FieldType), Jvm.Cond.code ({ cls := "java/lang/StringUTF16", name := "length", desc := "([B)I" } : Jvm.MethodName) jdk_52_method_6_code (1 : Nat) (Option.some Jvm.ClassFile.FieldType.int)]
set_option maxRecDepth 65536 in
theorem codes_eq : words1.filter isCode = codes1 := rfl
theorem w_codes : ∀ c ∈ words1.filter isCode, c.before args0 about1 = true := by
  rw [codes_eq]
  intro c hc
  simp only [codes1, List.mem_cons, List.not_mem_nil, or_false] at hc
  rcases hc with rfl | rfl | rfl | rfl | rfl | rfl | rfl | rfl | rfl | rfl | rfl | rfl | rfl | rfl | rfl | rfl | rfl | rfl | rfl | rfl | rfl | rfl | rfl | rfl | rfl | rfl
  · exact w_c0
  · exact w_c1
  · exact w_c2
  · exact w_c3
  · exact w_c4
  · exact w_c5
  · exact w_c6
  · exact w_c7
  · exact w_c8
  · exact w_c9
  · exact w_c10
  · exact w_c11
  · exact w_c12
  · exact w_c13
  · exact w_c14
  · exact w_c15
  · exact w_c16
  · exact w_c17
  · exact w_c18
  · exact w_c19
  · exact w_c20
  · exact w_c21
  · exact w_c22
  · exact w_c23
  · exact w_c24
  · exact w_c25
set_option maxRecDepth 65536 in
theorem w_t1 : (words1.take 24).all (fun c => isCode c || c.before args0 about1) = true := by decide +kernel
set_option maxRecDepth 65536 in
theorem w_t2 : ((words1.drop 24).take 24).all (fun c => isCode c || c.before args0 about1) = true := by decide +kernel
set_option maxRecDepth 65536 in
theorem w_t3 : (((words1.drop 24).drop 24).take 24).all (fun c => isCode c || c.before args0 about1) = true := by decide +kernel
set_option maxRecDepth 65536 in
theorem w_t4 : ((((words1.drop 24).drop 24).drop 24).take 24).all (fun c => isCode c || c.before args0 about1) = true := by decide +kernel
set_option maxRecDepth 65536 in
theorem w_t5 : ((((words1.drop 24).drop 24).drop 24).drop 24).all (fun c => isCode c || c.before args0 about1) = true := by decide +kernel
theorem w_tables : (allAtoms (Jvm.Cond.code x code maxLocals ret :: tables_1)).before args0 about1 = true := by
  rw [allAtoms_all]
  show words1.all (fun c => c.before args0 about1) = true
  refine all_split ?_ w_codes
  rw [← List.take_append_drop 24 words1, List.all_append, w_t1, ← List.take_append_drop 24 (words1.drop 24), List.all_append, w_t2, ← List.take_append_drop 24 ((words1.drop 24).drop 24), List.all_append, w_t3, ← List.take_append_drop 24 (((words1.drop 24).drop 24).drop 24), List.all_append, w_t4, w_t5]
  rfl
set_option maxRecDepth 65536 in
theorem w_rest : rest_1_c.before args0 about1 = true := by decide +kernel
set_option maxRecDepth 65536 in
theorem w_case : (Jvm.Cond.and given_1 narrow_1).before args0 about1 = true := by decide +kernel
set_option maxRecDepth 65536 in
theorem w_consts : constsHeld consts_1 about1 := Jvm.Lit.constsHeldB_iff.mp (by decide +kernel)
theorem w_applies : (headSpec (Jvm.Cond.code x code maxLocals ret :: tables_1) room_1).applies x e0.platform about1 = true :=
  (Spec.applies_iff w_frames).mpr ⟨w_running, w_runnable, w_alone, w_named, w_hears, w_ripe, w_room, w_tables⟩
theorem atStart : AtStart classFile x code maxLocals ret World_1 tables_1 room_1 Calls_1 rest_1 Pre_1 launch0 p0 e0 about1 theMethod args0 below0 :=
  ⟨lists_1, trivial, launch0.admits_env _ _ _, launch0.least_env, fairChoices_fair.cas, fairChoices_fair.clock, w_frames, w_args, w_heap, w_applies, ⟨w_consts, trivial⟩, w_rest, w_case⟩
end start1
theorem witness_1 : WitnessClaimed_1 := ⟨start1.p0, start1.e0, start1.about1, start1.theMethod, start1.args0, start1.below0, start1.atStart⟩
end Jvm.Pilot.@@N@@
