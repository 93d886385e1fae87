import JvmDerived
import JvmDerived.Pilot.@@N@@Statement
import JvmDerived.Pilot.@@N@@Code
set_option linter.unusedVariables false
set_option linter.unusedSimpArgs false
namespace Jvm.Pilot.@@N@@
open Jvm Jvm.ClassFile Sem Op Lib Jvm.Free Jvm.Stand Jvm.LawKit Jvm.RoadKit Bundle Jvm.Pilot.@@N@@.Jvm.D
/-- every run that goes on from the frame g of T to t is one of G -/
abbrev Go (p : Program) (e : Env) (below : List Frame) (T : State) (g : JFrame) (G : State → Prop) : Prop := ∀ t, Steps p.tables e below (T.setTop g) t → G t
def own_off (p : Int64) (n : Int32) : Int64 := if (0 : Int64) < p then p - (1 : Int64) else n.toInt64 + p
def own_place (p : Int64) (n : Int32) : Int32 := if own_off p n < (0 : Int64) then (-1 : Int32) else if n.toInt64 < own_off p n then (-1 : Int32) else (own_off p n).toInt32
theorem pn_0 : plainName "com/example/goalpost/goalpost/runtime/Positions" = true := by first | (simp [plainName, overriddenIn]; done) | decide +kernel
theorem ef_prog_61_method_2_JI (m : MethodId) (x0 : Int64) (x1 : Int32) : entryFrame m #[(.long x0), (.int x1)] 5 = mkF m 0 #[.val (.long x0), .second, .val (.int x1), .unset, .unset] [] := by first | (simp [entryFrame, mkF, argsToLocals, Value.category]; done) | rfl
theorem d_prog_61_method_2_0 : decode prog_61_method_2_code 0 = .ok (.lload_n 0, 1) := by decide +kernel
theorem d_prog_61_method_2_1 : decode prog_61_method_2_code 1 = .ok (.lconst 0, 1) := by decide +kernel
theorem d_prog_61_method_2_2 : decode prog_61_method_2_code 2 = .ok (.lcmp, 1) := by decide +kernel
theorem d_prog_61_method_2_3 : decode prog_61_method_2_code 3 = .ok (.ifCond .le 9, 3) := by decide +kernel
theorem d_prog_61_method_2_6 : decode prog_61_method_2_code 6 = .ok (.lload_n 0, 1) := by decide +kernel
theorem d_prog_61_method_2_7 : decode prog_61_method_2_code 7 = .ok (.lconst 1, 1) := by decide +kernel
theorem d_prog_61_method_2_8 : decode prog_61_method_2_code 8 = .ok (.lsub, 1) := by decide +kernel
theorem d_prog_61_method_2_9 : decode prog_61_method_2_code 9 = .ok (.goto 7, 3) := by decide +kernel
theorem d_prog_61_method_2_12 : decode prog_61_method_2_code 12 = .ok (.iload_n 2, 1) := by decide +kernel
theorem d_prog_61_method_2_13 : decode prog_61_method_2_code 13 = .ok (.i2l, 1) := by decide +kernel
theorem d_prog_61_method_2_14 : decode prog_61_method_2_code 14 = .ok (.lload_n 0, 1) := by decide +kernel
theorem d_prog_61_method_2_15 : decode prog_61_method_2_code 15 = .ok (.ladd, 1) := by decide +kernel
theorem d_prog_61_method_2_16 : decode prog_61_method_2_code 16 = .ok (.lstore_n 3, 1) := by decide +kernel
theorem d_prog_61_method_2_17 : decode prog_61_method_2_code 17 = .ok (.lload_n 3, 1) := by decide +kernel
theorem d_prog_61_method_2_18 : decode prog_61_method_2_code 18 = .ok (.lconst 0, 1) := by decide +kernel
theorem d_prog_61_method_2_19 : decode prog_61_method_2_code 19 = .ok (.lcmp, 1) := by decide +kernel
theorem d_prog_61_method_2_20 : decode prog_61_method_2_code 20 = .ok (.ifCond .lt 15, 3) := by decide +kernel
theorem d_prog_61_method_2_23 : decode prog_61_method_2_code 23 = .ok (.lload_n 3, 1) := by decide +kernel
theorem d_prog_61_method_2_24 : decode prog_61_method_2_code 24 = .ok (.iload_n 2, 1) := by decide +kernel
theorem d_prog_61_method_2_25 : decode prog_61_method_2_code 25 = .ok (.i2l, 1) := by decide +kernel
theorem d_prog_61_method_2_26 : decode prog_61_method_2_code 26 = .ok (.lcmp, 1) := by decide +kernel
theorem d_prog_61_method_2_27 : decode prog_61_method_2_code 27 = .ok (.ifCond .gt 8, 3) := by decide +kernel
theorem d_prog_61_method_2_30 : decode prog_61_method_2_code 30 = .ok (.lload_n 3, 1) := by decide +kernel
theorem d_prog_61_method_2_31 : decode prog_61_method_2_code 31 = .ok (.l2i, 1) := by decide +kernel
theorem d_prog_61_method_2_32 : decode prog_61_method_2_code 32 = .ok (.goto 4, 3) := by decide +kernel
theorem d_prog_61_method_2_35 : decode prog_61_method_2_code 35 = .ok (.iconst (-1), 1) := by decide +kernel
theorem d_prog_61_method_2_36 : decode prog_61_method_2_code 36 = .ok (.ireturn, 1) := by decide +kernel
def Q1 (Z : State) (p0 : Int64) (n : Int32) (h0 : Heap) (n0 : Nat) (v : Option Value) (h : Heap) (L : List Loc) : Prop := v = some (.int (own_place p0 n)) ∧ Fr n0 L ∧ h = h0
set_option maxRecDepth 65536 in
set_option maxHeartbeats 40000000 in
theorem rm1 (l : Launch) (Z : State) (a0 : Array Value) (hw : ∀ d ∈ tables_1, d.before a0 Z = true) (ws : List Jvm.Cond) (p0 : Int64) (n : Int32) (h0 : Heap) (n0 : Nat) (Z0 : n0 ≤ h0.size) :
    MetFree l (⟨"com/example/goalpost/goalpost/runtime/Positions", "place", "(JI)I"⟩ : MethodName) (head1 (Jvm.Cond.code (⟨"com/example/goalpost/goalpost/runtime/Positions", "place", "(JI)I"⟩ : MethodName) prog_61_method_2_code 5 (some .int) :: ws) ({ frames := 0, cells := 0, slots := 0, locals := 0 } : Room)) (fun aa UU => aa = #[(.long p0), (.int n)] ∧ Z.Warmed39 UU.vm ∧ UU.heap = h0) (fun _ _ _ _ _ => True) (fun _ UU oo UU' => ∃ vv LL, oo = .returned vv ∧ Q1 Z p0 n h0 n0 vv UU'.heap LL ∧ FrameEnd UU oo UU' LL ({ frames := 0, cells := 0, slots := 0, locals := 0 } : Room).cells ({ frames := 0, cells := 0, slots := 0, locals := 0 } : Room).slots) := by
  refine MetFree.of_bodySF (plainFor_of_name pn_0) hisR ?_
  intro p e s m args below meth c s₁ Bd hml0 hP hK
  obtain ⟨rfl, hZ, hh⟩ := hP
  have hx := Bd.exec
  have hby := Bd.bytes
  have hml : c.maxLocals = 5 := hml0
  have hown : s.vm.findClass "com/example/goalpost/goalpost/runtime/Positions" = some m.cls := findClass_of_methodNamed Bd.named
  have hnm := (name_of_methodNamed Bd.named Bd.method).1
  have hW : ∀ (k : Nat) (d : Jvm.Cond), tables_1[k]? = some d → d.before a0 Z = true := fun k d h => hw d (List.mem_of_getElem? h)
  have X0 : Stand p l e ({ frames := 0, cells := 0, slots := 0, locals := 0 } : Room) s m #[(.long p0), (.int n)] below meth c s₁ [] 0 0 := Stand.of_body Bd
  have e0 : s₁.heap = h0 := by rw [← hh, Bd.state]; rfl
  have N0 := Fr.nil n0
  obtain ⟨G, hG, K0⟩ : ∃ G : State → Prop, (∀ t, G t → Steps p.tables e below (s₁.setTop (entryFrame m #[(.long p0), (.int n)] 5)) t) ∧ Go p e below s₁ (mkF m 0 #[.val (.long p0), .second, .val (.int n), .unset, .unset] []) G := ⟨fun t => Steps p.tables e below (s₁.setTop (entryFrame m #[(.long p0), (.int n)] 5)) t, fun _ h => h, fun t k => castTop (ef_prog_61_method_2_JI m p0 n) k⟩
  obtain ⟨o, hj1, Kj1⟩ : ∃ (o : Int64), (o = own_off p0 n) ∧ Go p e below s₁ (mkF m 16 #[.val (.long p0), .second, .val (.int n), .unset, .unset] [(.long o)]) G := by
    have K2 : Go p e below s₁ (mkF m 1 #[.val (.long p0), .second, .val (.int n), .unset, .unset] [(.long p0)]) G := fun t k => K0 t (XS.lloadN X0.here hx rfl (hb hby d_prog_61_method_2_0) rfl k)
    have K3 : Go p e below s₁ (mkF m 2 #[.val (.long p0), .second, .val (.int n), .unset, .unset] [(.long (0 : Int64)), (.long p0)]) G := fun t k => K2 t (XS.lconst X0.here hx rfl (hb hby d_prog_61_method_2_1) k)
    have K4 : Go p e below s₁ (mkF m 3 #[.val (.long p0), .second, .val (.int n), .unset, .unset] [(.int (lcmpW p0 (0 : Int64)))]) G := fun t k => K3 t (XS.lcmp X0.here hx rfl (hb hby d_prog_61_method_2_2) rfl k)
    by_cases hc5 : (0 : Int64) < p0
    · skip
      have K6 : Go p e below s₁ (mkF m 6 #[.val (.long p0), .second, .val (.int n), .unset, .unset] []) G := fun t k => K4 t (XS.ifNo X0.here hx rfl (hb hby d_prog_61_method_2_3) rfl ((if0 _ _).trans (tlt ((lw_gt _ _).mpr hc5)).2.2.2) k)
      have K7 : Go p e below s₁ (mkF m 7 #[.val (.long p0), .second, .val (.int n), .unset, .unset] [(.long p0)]) G := fun t k => K6 t (XS.lloadN X0.here hx rfl (hb hby d_prog_61_method_2_6) rfl k)
      have K8 : Go p e below s₁ (mkF m 8 #[.val (.long p0), .second, .val (.int n), .unset, .unset] [(.long (1 : Int64)), (.long p0)]) G := fun t k => K7 t (XS.lconst X0.here hx rfl (hb hby d_prog_61_method_2_7) k)
      have K9 : Go p e below s₁ (mkF m 9 #[.val (.long p0), .second, .val (.int n), .unset, .unset] [(.long (p0 - (1 : Int64)))]) G := fun t k => K8 t (XS.lsub X0.here hx rfl (hb hby d_prog_61_method_2_8) rfl k)
      have K10 : Go p e below s₁ (mkF m 16 #[.val (.long p0), .second, .val (.int n), .unset, .unset] [(.long (p0 - (1 : Int64)))]) G := fun t k => K9 t (XS.goto X0.here hx rfl (pc0 := 9) (pc' := 16) rfl (hb hby d_prog_61_method_2_9) (by decide) (by decide) k)
      refine ⟨(p0 - (1 : Int64)), ?_, K10⟩
      simp [own_off, hc5]
    · skip
      have K11 : Go p e below s₁ (mkF m 12 #[.val (.long p0), .second, .val (.int n), .unset, .unset] []) G := fun t k => K4 t (XS.ifYes X0.here hx rfl (pc0 := 3) (pc' := 12) rfl (hb hby d_prog_61_method_2_3) rfl ((if0 _ _).trans (flt (fun z => hc5 ((lw_gt _ _).mp z))).2.2.2) (by decide) (by decide) k)
      have K12 : Go p e below s₁ (mkF m 13 #[.val (.long p0), .second, .val (.int n), .unset, .unset] [(.int n)]) G := fun t k => K11 t (XS.iloadN X0.here hx rfl (hb hby d_prog_61_method_2_12) rfl k)
      have K13 : Go p e below s₁ (mkF m 14 #[.val (.long p0), .second, .val (.int n), .unset, .unset] [(.long (n.toInt64))]) G := fun t k => K12 t (XS.i2l X0.here hx rfl (hb hby d_prog_61_method_2_13) rfl k)
      have K14 : Go p e below s₁ (mkF m 15 #[.val (.long p0), .second, .val (.int n), .unset, .unset] [(.long p0), (.long (n.toInt64))]) G := fun t k => K13 t (XS.lloadN X0.here hx rfl (hb hby d_prog_61_method_2_14) rfl k)
      have K15 : Go p e below s₁ (mkF m 16 #[.val (.long p0), .second, .val (.int n), .unset, .unset] [(.long ((n.toInt64) + p0))]) G := fun t k => K14 t (XS.ladd X0.here hx rfl (hb hby d_prog_61_method_2_15) rfl k)
      refine ⟨((n.toInt64) + p0), ?_, K15⟩
      simp [own_off, hc5]
  have K16 : Go p e below s₁ (mkF m 17 #[.val (.long p0), .second, .val (.int n), .val (.long o), .second] []) G := fun t k => Kj1 t (XS.lstoreN X0.here hx rfl (hb hby d_prog_61_method_2_16) rfl (l' := #[.val (.long p0), .second, .val (.int n), .val (.long o), .second]) rfl k)
  have K17 : Go p e below s₁ (mkF m 18 #[.val (.long p0), .second, .val (.int n), .val (.long o), .second] [(.long o)]) G := fun t k => K16 t (XS.lloadN X0.here hx rfl (hb hby d_prog_61_method_2_17) rfl k)
  have K18 : Go p e below s₁ (mkF m 19 #[.val (.long p0), .second, .val (.int n), .val (.long o), .second] [(.long (0 : Int64)), (.long o)]) G := fun t k => K17 t (XS.lconst X0.here hx rfl (hb hby d_prog_61_method_2_18) k)
  have K19 : Go p e below s₁ (mkF m 20 #[.val (.long p0), .second, .val (.int n), .val (.long o), .second] [(.int (lcmpW o (0 : Int64)))]) G := fun t k => K18 t (XS.lcmp X0.here hx rfl (hb hby d_prog_61_method_2_19) rfl k)
  by_cases hc20 : o < (0 : Int64)
  · skip
    have K21 : Go p e below s₁ (mkF m 35 #[.val (.long p0), .second, .val (.int n), .val (.long o), .second] []) G := fun t k => K19 t (XS.ifYes X0.here hx rfl (pc0 := 20) (pc' := 35) rfl (hb hby d_prog_61_method_2_20) rfl ((if0 _ _).trans (tlt ((lw_lt _ _).mpr hc20)).1) (by decide) (by decide) k)
    have K22 : Go p e below s₁ (mkF m 36 #[.val (.long p0), .second, .val (.int n), .val (.long o), .second] [(.int (-1 : Int32))]) G := fun t k => K21 t (XS.iconst X0.here hx rfl (hb hby d_prog_61_method_2_35) k)
    obtain ⟨fs, hr, hrun, hended, hWW, hsame⟩ := X0.leave (v := some (.int (-1 : Int32))) (fun h => by rw [Bd.returns] at h; cases h)
    refine ⟨_, _, hG _ (K22 _ (retOut X0 hx Bd.returns rfl (Or.inl ⟨rfl, Or.inl rfl, _, rfl⟩) (hb hby d_prog_61_method_2_36) hr)), hrun, hended, _, _, rfl, ?_, ⟨_, rfl⟩, hWW, hsame.mono (by decide) (by decide)⟩
    show Q1 Z p0 n h0 n0 _ s₁.heap _
    rw [e0]
    exact ⟨by rw [own_place, ← hj1]; simp [hc20], N0, rfl⟩
  · skip
    have K23 : Go p e below s₁ (mkF m 23 #[.val (.long p0), .second, .val (.int n), .val (.long o), .second] []) G := fun t k => K19 t (XS.ifNo X0.here hx rfl (hb hby d_prog_61_method_2_20) rfl ((if0 _ _).trans (flt (fun z => hc20 ((lw_lt _ _).mp z))).1) k)
    have K24 : Go p e below s₁ (mkF m 24 #[.val (.long p0), .second, .val (.int n), .val (.long o), .second] [(.long o)]) G := fun t k => K23 t (XS.lloadN X0.here hx rfl (hb hby d_prog_61_method_2_23) rfl k)
    have K25 : Go p e below s₁ (mkF m 25 #[.val (.long p0), .second, .val (.int n), .val (.long o), .second] [(.int n), (.long o)]) G := fun t k => K24 t (XS.iloadN X0.here hx rfl (hb hby d_prog_61_method_2_24) rfl k)
    have K26 : Go p e below s₁ (mkF m 26 #[.val (.long p0), .second, .val (.int n), .val (.long o), .second] [(.long (n.toInt64)), (.long o)]) G := fun t k => K25 t (XS.i2l X0.here hx rfl (hb hby d_prog_61_method_2_25) rfl k)
    have K27 : Go p e below s₁ (mkF m 27 #[.val (.long p0), .second, .val (.int n), .val (.long o), .second] [(.int (lcmpW o (n.toInt64)))]) G := fun t k => K26 t (XS.lcmp X0.here hx rfl (hb hby d_prog_61_method_2_26) rfl k)
    by_cases hc28 : (n.toInt64) < o
    · skip
      have K29 : Go p e below s₁ (mkF m 35 #[.val (.long p0), .second, .val (.int n), .val (.long o), .second] []) G := fun t k => K27 t (XS.ifYes X0.here hx rfl (pc0 := 27) (pc' := 35) rfl (hb hby d_prog_61_method_2_27) rfl ((if0 _ _).trans (tlt ((lw_gt _ _).mpr hc28)).2.2.1) (by decide) (by decide) k)
      have K30 : Go p e below s₁ (mkF m 36 #[.val (.long p0), .second, .val (.int n), .val (.long o), .second] [(.int (-1 : Int32))]) G := fun t k => K29 t (XS.iconst X0.here hx rfl (hb hby d_prog_61_method_2_35) k)
      obtain ⟨fs, hr, hrun, hended, hWW, hsame⟩ := X0.leave (v := some (.int (-1 : Int32))) (fun h => by rw [Bd.returns] at h; cases h)
      refine ⟨_, _, hG _ (K30 _ (retOut X0 hx Bd.returns rfl (Or.inl ⟨rfl, Or.inl rfl, _, rfl⟩) (hb hby d_prog_61_method_2_36) hr)), hrun, hended, _, _, rfl, ?_, ⟨_, rfl⟩, hWW, hsame.mono (by decide) (by decide)⟩
      show Q1 Z p0 n h0 n0 _ s₁.heap _
      rw [e0]
      exact ⟨by rw [own_place, ← hj1]; simp [hc20, hc28], N0, rfl⟩
    · skip
      have K31 : Go p e below s₁ (mkF m 30 #[.val (.long p0), .second, .val (.int n), .val (.long o), .second] []) G := fun t k => K27 t (XS.ifNo X0.here hx rfl (hb hby d_prog_61_method_2_27) rfl ((if0 _ _).trans (flt (fun z => hc28 ((lw_gt _ _).mp z))).2.2.1) k)
      have K32 : Go p e below s₁ (mkF m 31 #[.val (.long p0), .second, .val (.int n), .val (.long o), .second] [(.long o)]) G := fun t k => K31 t (XS.lloadN X0.here hx rfl (hb hby d_prog_61_method_2_30) rfl k)
      have K33 : Go p e below s₁ (mkF m 32 #[.val (.long p0), .second, .val (.int n), .val (.long o), .second] [(.int (o.toInt32))]) G := fun t k => K32 t (XS.l2i X0.here hx rfl (hb hby d_prog_61_method_2_31) rfl k)
      have K34 : Go p e below s₁ (mkF m 36 #[.val (.long p0), .second, .val (.int n), .val (.long o), .second] [(.int (o.toInt32))]) G := fun t k => K33 t (XS.goto X0.here hx rfl (pc0 := 32) (pc' := 36) rfl (hb hby d_prog_61_method_2_32) (by decide) (by decide) k)
      obtain ⟨fs, hr, hrun, hended, hWW, hsame⟩ := X0.leave (v := some (.int (o.toInt32))) (fun h => by rw [Bd.returns] at h; cases h)
      refine ⟨_, _, hG _ (K34 _ (retOut X0 hx Bd.returns rfl (Or.inl ⟨rfl, Or.inl rfl, _, rfl⟩) (hb hby d_prog_61_method_2_36) hr)), hrun, hended, _, _, rfl, ?_, ⟨_, rfl⟩, hWW, hsame.mono (by decide) (by decide)⟩
      show Q1 Z p0 n h0 n0 _ s₁.heap _
      rw [e0]
      exact ⟨by rw [own_place, ← hj1]; simp [hc20, hc28], N0, rfl⟩
theorem own_J0 : (0 : Int64).toInt = 0 := by decide
theorem own_J1 : (1 : Int64).toInt = 1 := by decide
theorem own_J3 : (3 : Int64).toInt = 3 := by decide
theorem own_I0 : (0 : Int32).toInt = 0 := by decide
theorem own_Im1 : (-1 : Int32).toInt = -1 := by decide
theorem own_I15 : (15 : Int32).toInt = 15 := by decide
theorem own_I2147483647 : (2147483647 : Int32).toInt = 2147483647 := by decide
theorem own_spec (p : Int64) (n : Int32) (h : 0 ≤ n.toInt) : (1 ≤ p.toInt ∧ p.toInt ≤ n.toInt + 1 → (own_place p n).toInt = p.toInt - 1) ∧ (-n.toInt ≤ p.toInt ∧ p.toInt ≤ 0 → (own_place p n).toInt = n.toInt + p.toInt) ∧ (¬ (1 ≤ p.toInt ∧ p.toInt ≤ n.toInt + 1) → ¬ (-n.toInt ≤ p.toInt ∧ p.toInt ≤ 0) → (own_place p n).toInt = -1) := by
  have e : own_off p n = if (0 : Int64) < p then p - (1 : Int64) else n.toInt64 + p := rfl
  have rn := rng32 n
  have rp := rng64 p
  have q : (own_off p n).toInt = if 0 < p.toInt then p.toInt - 1 else n.toInt + p.toInt := by
    rw [e]
    by_cases hp : (0 : Int64) < p
    · rw [if_pos hp]
      rw [Int64.lt_iff_toInt_lt, own_J0] at hp
      rw [if_pos hp]
      have c := c_lsub p (1 : Int64)
      have r := rng64 (p - (1 : Int64))
      rw [own_J1] at c
      omega
    · rw [if_neg hp]
      rw [Int64.lt_iff_toInt_lt, own_J0] at hp
      rw [if_neg hp]
      have c := c_ladd n.toInt64 p
      have r := rng64 (n.toInt64 + p)
      rw [c_i2l] at c
      omega
  have c := c_l2i (own_off p n)
  have r := rng32 (own_off p n).toInt32
  have e2 : own_place p n = if own_off p n < (0 : Int64) then (-1 : Int32) else if n.toInt64 < own_off p n then (-1 : Int32) else (own_off p n).toInt32 := rfl
  rw [e2]
  by_cases h1 : own_off p n < (0 : Int64)
  · rw [if_pos h1, own_Im1]
    rw [Int64.lt_iff_toInt_lt, own_J0, q] at h1
    split at h1 <;> omega
  · rw [if_neg h1]
    rw [Int64.lt_iff_toInt_lt, own_J0, q] at h1
    by_cases h2 : n.toInt64 < own_off p n
    · rw [if_pos h2, own_Im1]
      rw [Int64.lt_iff_toInt_lt, c_i2l, q] at h2
      split at h1 <;> split at h2 <;> omega
    · rw [if_neg h2]
      rw [Int64.lt_iff_toInt_lt, c_i2l, q] at h2
      rw [q] at c
      split at h1 <;> split at h2 <;> split at c <;> omega
theorem own_s3 (n : Int32) (h : 0 ≤ n.toInt) : (n.toInt64 + (3 : Int64)) ≠ 0 := by
  intro q
  have c := c_ladd n.toInt64 (3 : Int64)
  rw [q, own_J3, own_J0, c_i2l] at c
  have r := rng32 n
  omega
theorem pn_36 : plainName "com/example/goalpost/goalpost/runtime/PositionsPlacePinLaw" = true := by first | (simp [plainName, overriddenIn]; done) | decide +kernel
theorem ef_code_JII (m : MethodId) (x0 : Int64) (x1 : Int32) (x2 : Int32) : entryFrame m #[(.long x0), (.int x1), (.int x2)] maxLocals = mkF m 0 #[.val (.long x0), .second, .val (.int x1), .val (.int x2), .unset, .unset, .unset, .unset, .unset, .unset, .unset, .unset, .unset, .unset] [] := by first | (simp [entryFrame, mkF, argsToLocals, Value.category, maxLocals]; done) | rfl
theorem pd_38 : parseMethodDescriptor "(JI)I" = some ⟨[.long, .int], some .int⟩ := by decide +kernel
def Q0 (Z : State) (q0 : Int64) (q1 : Int32) (q2 : Int32) (h0 : Heap) (n0 : Nat) (v : Option Value) (h : Heap) (L : List Loc) : Prop := v = some (.int 1) ∧ Fr n0 L
set_option maxRecDepth 65536 in
set_option maxHeartbeats 40000000 in
theorem rm0 (l : Launch) (Z : State) (a0 : Array Value) (hw : ∀ d ∈ tables_1, d.before a0 Z = true) (ws : List Jvm.Cond) (q0 : Int64) (q1 : Int32) (q2 : Int32) (h0 : Heap) (n0 : Nat) (Z0 : n0 ≤ h0.size) :
    MetFree l x (head1 (Jvm.Cond.code x code maxLocals ret :: ws) room_1) (fun aa UU => aa = #[(.long q0), (.int q1), (.int q2)] ∧ Z.Warmed39 UU.vm ∧ UU.heap = h0) (fun _ _ _ _ _ => True) (fun _ UU oo UU' => ∃ vv LL, oo = .returned vv ∧ Q0 Z q0 q1 q2 h0 n0 vv UU'.heap LL ∧ FrameEnd UU oo UU' LL 0 0) := by
  refine MetFree.of_bodySF (plainFor_of_name pn_36) hisR ?_
  intro p e s m args below meth c s₁ Bd hml0 hP hK
  obtain ⟨rfl, hZ, hh⟩ := hP
  have hx := Bd.exec
  have hby := Bd.bytes
  have hml : c.maxLocals = 14 := hml0
  have hown : s.vm.findClass "com/example/goalpost/goalpost/runtime/PositionsPlacePinLaw" = some m.cls := findClass_of_methodNamed Bd.named
  have hnm := (name_of_methodNamed Bd.named Bd.method).1
  have hW : ∀ (k : Nat) (d : Jvm.Cond), tables_1[k]? = some d → d.before a0 Z = true := fun k d h => hw d (List.mem_of_getElem? h)
  have X0 : Stand p l e room_1 s m #[(.long q0), (.int q1), (.int q2)] below meth c s₁ [] 0 0 := Stand.of_body Bd
  have e0 : s₁.heap = h0 := by rw [← hh, Bd.state]; rfl
  have N0 := Fr.nil n0
  obtain ⟨G, hG, K0⟩ : ∃ G : State → Prop, (∀ t, G t → Steps p.tables e below (s₁.setTop (entryFrame m #[(.long q0), (.int q1), (.int q2)] maxLocals)) t) ∧ Go p e below s₁ (mkF m 0 #[.val (.long q0), .second, .val (.int q1), .val (.int q2), .unset, .unset, .unset, .unset, .unset, .unset, .unset, .unset, .unset, .unset] []) G := ⟨fun t => Steps p.tables e below (s₁.setTop (entryFrame m #[(.long q0), (.int q1), (.int q2)] maxLocals)) t, fun _ h => h, fun t k => castTop (ef_code_JII m q0 q1 q2) k⟩
  obtain ⟨sz, hj35, Kj35⟩ : ∃ (sz : Int32), (0 ≤ sz.toInt) ∧ Go p e below s₁ (mkF m 17 #[.val (.long q0), .second, .val (.int q1), .val (.int q2), .unset, .unset, .unset, .unset, .unset, .unset, .unset, .unset, .unset, .unset] [(.int sz)]) G := by
    have K36 : Go p e below s₁ (mkF m 1 #[.val (.long q0), .second, .val (.int q1), .val (.int q2), .unset, .unset, .unset, .unset, .unset, .unset, .unset, .unset, .unset, .unset] [(.int q2)]) G := fun t k => K0 t (XS.iloadN X0.here hx rfl (hb hby at_0) rfl k)
    have K37 : Go p e below s₁ (mkF m 2 #[.val (.long q0), .second, .val (.int q1), .val (.int q2), .unset, .unset, .unset, .unset, .unset, .unset, .unset, .unset, .unset, .unset] [(.int (2 : Int32)), (.int q2)]) G := fun t k => K36 t (XS.iconst X0.here hx rfl (hb hby at_1) k)
    have K38 : Go p e below s₁ (mkF m 3 #[.val (.long q0), .second, .val (.int q1), .val (.int q2), .unset, .unset, .unset, .unset, .unset, .unset, .unset, .unset, .unset, .unset] [(.int (q2 &&& (2 : Int32)))]) G := fun t k => K37 t (XS.iand X0.here hx rfl (hb hby at_2) rfl k)
    by_cases hc39 : (q2 &&& (2 : Int32)) = (0 : Int32)
    · skip
      have K40 : Go p e below s₁ (mkF m 6 #[.val (.long q0), .second, .val (.int q1), .val (.int q2), .unset, .unset, .unset, .unset, .unset, .unset, .unset, .unset, .unset, .unset] []) G := fun t k => K38 t (XS.ifNo X0.here hx rfl (hb hby at_3) rfl ((if0 _ _).trans (teq hc39).2) k)
      have K41 : Go p e below s₁ (mkF m 7 #[.val (.long q0), .second, .val (.int q1), .val (.int q2), .unset, .unset, .unset, .unset, .unset, .unset, .unset, .unset, .unset, .unset] [(.int q1)]) G := fun t k => K40 t (XS.iloadN X0.here hx rfl (hb hby at_6) rfl k)
      have K42 : Go p e below s₁ (mkF m 9 #[.val (.long q0), .second, .val (.int q1), .val (.int q2), .unset, .unset, .unset, .unset, .unset, .unset, .unset, .unset, .unset, .unset] [(.int (2147483647 : Int32)), (.int q1)]) G := fun t k => K41 t (X0.ldcInt hx hown (mvT hZ (hW 0 _ rfl)) (g := (mkF m 7 #[.val (.long q0), .second, .val (.int q1), .val (.int q2), .unset, .unset, .unset, .unset, .unset, .unset, .unset, .unset, .unset, .unset] [(.int q1)])) rfl (hb hby at_7) _ k)
      have K43 : Go p e below s₁ (mkF m 10 #[.val (.long q0), .second, .val (.int q1), .val (.int q2), .unset, .unset, .unset, .unset, .unset, .unset, .unset, .unset, .unset, .unset] [(.int (q1 &&& (2147483647 : Int32)))]) G := fun t k => K42 t (XS.iand X0.here hx rfl (hb hby at_9) rfl k)
      have K44 : Go p e below s₁ (mkF m 17 #[.val (.long q0), .second, .val (.int q1), .val (.int q2), .unset, .unset, .unset, .unset, .unset, .unset, .unset, .unset, .unset, .unset] [(.int (q1 &&& (2147483647 : Int32)))]) G := fun t k => K43 t (XS.goto X0.here hx rfl (pc0 := 10) (pc' := 17) rfl (hb hby at_10) (by decide) (by decide) k)
      refine ⟨(q1 &&& (2147483647 : Int32)), ?_, K44⟩
      exact (c_and _ _ (by decide)).1
    · skip
      have K45 : Go p e below s₁ (mkF m 13 #[.val (.long q0), .second, .val (.int q1), .val (.int q2), .unset, .unset, .unset, .unset, .unset, .unset, .unset, .unset, .unset, .unset] []) G := fun t k => K38 t (XS.ifYes X0.here hx rfl (pc0 := 3) (pc' := 13) rfl (hb hby at_3) rfl ((if0 _ _).trans (feq hc39).2) (by decide) (by decide) k)
      have K46 : Go p e below s₁ (mkF m 14 #[.val (.long q0), .second, .val (.int q1), .val (.int q2), .unset, .unset, .unset, .unset, .unset, .unset, .unset, .unset, .unset, .unset] [(.int q1)]) G := fun t k => K45 t (XS.iloadN X0.here hx rfl (hb hby at_13) rfl k)
      have K47 : Go p e below s₁ (mkF m 16 #[.val (.long q0), .second, .val (.int q1), .val (.int q2), .unset, .unset, .unset, .unset, .unset, .unset, .unset, .unset, .unset, .unset] [(.int (15 : Int32)), (.int q1)]) G := fun t k => K46 t (XS.bipush X0.here hx rfl (hb hby at_14) k)
      have K48 : Go p e below s₁ (mkF m 17 #[.val (.long q0), .second, .val (.int q1), .val (.int q2), .unset, .unset, .unset, .unset, .unset, .unset, .unset, .unset, .unset, .unset] [(.int (q1 &&& (15 : Int32)))]) G := fun t k => K47 t (XS.iand X0.here hx rfl (hb hby at_16) rfl k)
      refine ⟨(q1 &&& (15 : Int32)), ?_, K48⟩
      exact (c_and _ _ (by decide)).1
  have K49 : Go p e below s₁ (mkF m 19 #[.val (.long q0), .second, .val (.int q1), .val (.int q2), .val (.int sz), .unset, .unset, .unset, .unset, .unset, .unset, .unset, .unset, .unset] []) G := fun t k => Kj35 t (XS.istore X0.here hx rfl (hb hby at_17) rfl (l' := #[.val (.long q0), .second, .val (.int q1), .val (.int q2), .val (.int sz), .unset, .unset, .unset, .unset, .unset, .unset, .unset, .unset, .unset]) rfl k)
  have K50 : Go p e below s₁ (mkF m 21 #[.val (.long q0), .second, .val (.int q1), .val (.int q2), .val (.int sz), .unset, .unset, .unset, .unset, .unset, .unset, .unset, .unset, .unset] [(.int sz)]) G := fun t k => K49 t (XS.iload X0.here hx rfl (hb hby at_19) rfl k)
  have K51 : Go p e below s₁ (mkF m 22 #[.val (.long q0), .second, .val (.int q1), .val (.int q2), .val (.int sz), .unset, .unset, .unset, .unset, .unset, .unset, .unset, .unset, .unset] [(.long (sz.toInt64))]) G := fun t k => K50 t (XS.i2l X0.here hx rfl (hb hby at_21) rfl k)
  have K52 : Go p e below s₁ (mkF m 24 #[.val (.long q0), .second, .val (.int q1), .val (.int q2), .val (.int sz), .val (.long (sz.toInt64)), .second, .unset, .unset, .unset, .unset, .unset, .unset, .unset] []) G := fun t k => K51 t (XS.lstore X0.here hx rfl (hb hby at_22) rfl (l' := #[.val (.long q0), .second, .val (.int q1), .val (.int q2), .val (.int sz), .val (.long (sz.toInt64)), .second, .unset, .unset, .unset, .unset, .unset, .unset, .unset]) rfl k)
  have hs3 := own_s3 sz hj35
  obtain ⟨pos, Kj53⟩ : ∃ (pos : Int64), Go p e below s₁ (mkF m 42 #[.val (.long q0), .second, .val (.int q1), .val (.int q2), .val (.int sz), .val (.long (sz.toInt64)), .second, .unset, .unset, .unset, .unset, .unset, .unset, .unset] [(.long pos)]) G := by
    have K54 : Go p e below s₁ (mkF m 25 #[.val (.long q0), .second, .val (.int q1), .val (.int q2), .val (.int sz), .val (.long (sz.toInt64)), .second, .unset, .unset, .unset, .unset, .unset, .unset, .unset] [(.int q2)]) G := fun t k => K52 t (XS.iloadN X0.here hx rfl (hb hby at_24) rfl k)
    have K55 : Go p e below s₁ (mkF m 26 #[.val (.long q0), .second, .val (.int q1), .val (.int q2), .val (.int sz), .val (.long (sz.toInt64)), .second, .unset, .unset, .unset, .unset, .unset, .unset, .unset] [(.int (1 : Int32)), (.int q2)]) G := fun t k => K54 t (XS.iconst X0.here hx rfl (hb hby at_25) k)
    have K56 : Go p e below s₁ (mkF m 27 #[.val (.long q0), .second, .val (.int q1), .val (.int q2), .val (.int sz), .val (.long (sz.toInt64)), .second, .unset, .unset, .unset, .unset, .unset, .unset, .unset] [(.int (q2 &&& (1 : Int32)))]) G := fun t k => K55 t (XS.iand X0.here hx rfl (hb hby at_26) rfl k)
    by_cases hc57 : (q2 &&& (1 : Int32)) = (0 : Int32)
    · skip
      have K58 : Go p e below s₁ (mkF m 30 #[.val (.long q0), .second, .val (.int q1), .val (.int q2), .val (.int sz), .val (.long (sz.toInt64)), .second, .unset, .unset, .unset, .unset, .unset, .unset, .unset] []) G := fun t k => K56 t (XS.ifNo X0.here hx rfl (hb hby at_27) rfl ((if0 _ _).trans (teq hc57).2) k)
      have K59 : Go p e below s₁ (mkF m 31 #[.val (.long q0), .second, .val (.int q1), .val (.int q2), .val (.int sz), .val (.long (sz.toInt64)), .second, .unset, .unset, .unset, .unset, .unset, .unset, .unset] [(.long q0)]) G := fun t k => K58 t (XS.lloadN X0.here hx rfl (hb hby at_30) rfl k)
      have K60 : Go p e below s₁ (mkF m 42 #[.val (.long q0), .second, .val (.int q1), .val (.int q2), .val (.int sz), .val (.long (sz.toInt64)), .second, .unset, .unset, .unset, .unset, .unset, .unset, .unset] [(.long q0)]) G := fun t k => K59 t (XS.goto X0.here hx rfl (pc0 := 31) (pc' := 42) rfl (hb hby at_31) (by decide) (by decide) k)
      exact ⟨q0, K60⟩
    · skip
      have K61 : Go p e below s₁ (mkF m 34 #[.val (.long q0), .second, .val (.int q1), .val (.int q2), .val (.int sz), .val (.long (sz.toInt64)), .second, .unset, .unset, .unset, .unset, .unset, .unset, .unset] []) G := fun t k => K56 t (XS.ifYes X0.here hx rfl (pc0 := 27) (pc' := 34) rfl (hb hby at_27) rfl ((if0 _ _).trans (feq hc57).2) (by decide) (by decide) k)
      have K62 : Go p e below s₁ (mkF m 35 #[.val (.long q0), .second, .val (.int q1), .val (.int q2), .val (.int sz), .val (.long (sz.toInt64)), .second, .unset, .unset, .unset, .unset, .unset, .unset, .unset] [(.long q0)]) G := fun t k => K61 t (XS.lloadN X0.here hx rfl (hb hby at_34) rfl k)
      have K63 : Go p e below s₁ (mkF m 37 #[.val (.long q0), .second, .val (.int q1), .val (.int q2), .val (.int sz), .val (.long (sz.toInt64)), .second, .unset, .unset, .unset, .unset, .unset, .unset, .unset] [(.long (sz.toInt64)), (.long q0)]) G := fun t k => K62 t (XS.lload X0.here hx rfl (hb hby at_35) rfl k)
      have K64 : Go p e below s₁ (mkF m 40 #[.val (.long q0), .second, .val (.int q1), .val (.int q2), .val (.int sz), .val (.long (sz.toInt64)), .second, .unset, .unset, .unset, .unset, .unset, .unset, .unset] [(.long (3 : Int64)), (.long (sz.toInt64)), (.long q0)]) G := fun t k => K63 t (X0.ldc2Long hx hown (mvT hZ (hW 1 _ rfl)) (g := (mkF m 37 #[.val (.long q0), .second, .val (.int q1), .val (.int q2), .val (.int sz), .val (.long (sz.toInt64)), .second, .unset, .unset, .unset, .unset, .unset, .unset, .unset] [(.long (sz.toInt64)), (.long q0)])) rfl (hb hby at_37) _ k)
      have K65 : Go p e below s₁ (mkF m 41 #[.val (.long q0), .second, .val (.int q1), .val (.int q2), .val (.int sz), .val (.long (sz.toInt64)), .second, .unset, .unset, .unset, .unset, .unset, .unset, .unset] [(.long ((sz.toInt64) + (3 : Int64))), (.long q0)]) G := fun t k => K64 t (XS.ladd X0.here hx rfl (hb hby at_40) rfl k)
      have K66 : Go p e below s₁ (mkF m 42 #[.val (.long q0), .second, .val (.int q1), .val (.int q2), .val (.int sz), .val (.long (sz.toInt64)), .second, .unset, .unset, .unset, .unset, .unset, .unset, .unset] [(.long (q0 - (q0 / ((sz.toInt64) + (3 : Int64))) * ((sz.toInt64) + (3 : Int64))))]) G := fun t k => K65 t (XS.lrem X0.here hx rfl (hb hby at_41) rfl hs3 k)
      exact ⟨(q0 - (q0 / ((sz.toInt64) + (3 : Int64))) * ((sz.toInt64) + (3 : Int64))), K66⟩
  have K67 : Go p e below s₁ (mkF m 44 #[.val (.long q0), .second, .val (.int q1), .val (.int q2), .val (.int sz), .val (.long (sz.toInt64)), .second, .val (.long pos), .second, .unset, .unset, .unset, .unset, .unset] []) G := fun t k => Kj53 t (XS.lstore X0.here hx rfl (hb hby at_42) rfl (l' := #[.val (.long q0), .second, .val (.int q1), .val (.int q2), .val (.int sz), .val (.long (sz.toInt64)), .second, .val (.long pos), .second, .unset, .unset, .unset, .unset, .unset]) rfl k)
  have K68 : Go p e below s₁ (mkF m 46 #[.val (.long q0), .second, .val (.int q1), .val (.int q2), .val (.int sz), .val (.long (sz.toInt64)), .second, .val (.long pos), .second, .unset, .unset, .unset, .unset, .unset] [(.long pos)]) G := fun t k => K67 t (XS.lload X0.here hx rfl (hb hby at_44) rfl k)
  have K69 : Go p e below s₁ (mkF m 48 #[.val (.long q0), .second, .val (.int q1), .val (.int q2), .val (.int sz), .val (.long (sz.toInt64)), .second, .val (.long pos), .second, .unset, .unset, .unset, .unset, .unset] [(.int sz), (.long pos)]) G := fun t k => K68 t (XS.iload X0.here hx rfl (hb hby at_46) rfl k)
  obtain ⟨v70, _, ⟨T70, L70, k70, n70⟩, -, X70, ⟨Lc70, hQ70, l70, y70, z70⟩, st70⟩ := Jvm.LawKit.callS X0 hx (y := (⟨"com/example/goalpost/goalpost/runtime/Positions", "place", "(JI)I"⟩ : MethodName)) hown (mvT hZ (hW 2 _ rfl)) (mvT hZ (hW 3 _ rfl)) (mvT hZ (hW 4 _ rfl)) (mvT hZ (hW 5 _ rfl)) (by decide) (backOf (W := 0) (rm1 l Z a0 hw [] pos sz h0 n0 Z0) hZ (hW 5 _ rfl) (hW 4 _ rfl) (by decide) (by decide)) (g := (mkF m 48 #[.val (.long q0), .second, .val (.int q1), .val (.int q2), .val (.int sz), .val (.long (sz.toInt64)), .second, .val (.long pos), .second, .unset, .unset, .unset, .unset, .unset] [(.int sz), (.long pos)])) rfl (by rw [hml]; rfl) (argsL := [(.long pos), (.int sz)]) (rest := []) (lenOf pd_38 rfl) rfl (by show 2 * 0 + _ ≤ _; exact Nat.le_of_eq rfl) (hb hby at_48) (fun _ _ => ⟨rfl, e0, (by decide : 0 + 0 ≤ _), (by decide : 0 + 0 ≤ _)⟩)
  dsimp only [Pt.U, Pt.locs, Pt.cells, Pt.slots] at X70 l70 y70 z70 st70 hQ70
  subst l70 y70 z70
  obtain ⟨rfl, N70q, E70q⟩ := hQ70
  have N70 := Fr.app N0 N70q
  have K71 : Go p e below T70 (mkF m 51 #[.val (.long q0), .second, .val (.int q1), .val (.int q2), .val (.int sz), .val (.long (sz.toInt64)), .second, .val (.long pos), .second, .unset, .unset, .unset, .unset, .unset] [(.int (own_place pos sz))]) G := fun t k => K69 t (st70 t k)
  have K72 : Go p e below T70 (mkF m 53 #[.val (.long q0), .second, .val (.int q1), .val (.int q2), .val (.int sz), .val (.long (sz.toInt64)), .second, .val (.long pos), .second, .val (.int (own_place pos sz)), .unset, .unset, .unset, .unset] []) G := fun t k => K71 t (XS.istore X70.here hx rfl (hb hby at_51) rfl (l' := #[.val (.long q0), .second, .val (.int q1), .val (.int q2), .val (.int sz), .val (.long (sz.toInt64)), .second, .val (.long pos), .second, .val (.int (own_place pos sz)), .unset, .unset, .unset, .unset]) rfl k)
  obtain ⟨r, h_r⟩ : ∃ z, z = (own_place pos sz) := ⟨_, rfl⟩
  have K73 : Go p e below T70 (mkF m 53 #[.val (.long q0), .second, .val (.int q1), .val (.int q2), .val (.int sz), .val (.long (sz.toInt64)), .second, .val (.long pos), .second, .val (.int r), .unset, .unset, .unset, .unset] []) G := by rw [h_r]; exact K72
  have sp := own_spec pos sz hj35
  rw [← h_r] at sp
  have g1 := c_ladd sz.toInt64 (1 : Int64)
  have g2 := rng64 (sz.toInt64 + (1 : Int64))
  have g3 := c_lneg sz.toInt64
  have g4 := rng64 (-sz.toInt64)
  have g5 := c_ladd r.toInt64 (1 : Int64)
  have g6 := rng64 (r.toInt64 + (1 : Int64))
  have g7 := c_lsub r.toInt64 sz.toInt64
  have g8 := rng64 (r.toInt64 - sz.toInt64)
  have g9 := rng32 sz
  have g10 := rng32 r
  have g11 := rng64 pos
  rw [c_i2l] at g1 g3 g5 g7
  rw [c_i2l] at g7
  rw [own_J1] at g1 g5
  have K74 : Go p e below T70 (mkF m 55 #[.val (.long q0), .second, .val (.int q1), .val (.int q2), .val (.int sz), .val (.long (sz.toInt64)), .second, .val (.long pos), .second, .val (.int r), .unset, .unset, .unset, .unset] [(.long pos)]) G := fun t k => K73 t (XS.lload X70.here hx rfl (hb hby at_53) rfl k)
  have K75 : Go p e below T70 (mkF m 56 #[.val (.long q0), .second, .val (.int q1), .val (.int q2), .val (.int sz), .val (.long (sz.toInt64)), .second, .val (.long pos), .second, .val (.int r), .unset, .unset, .unset, .unset] [(.long (1 : Int64)), (.long pos)]) G := fun t k => K74 t (XS.lconst X70.here hx rfl (hb hby at_55) k)
  have K76 : Go p e below T70 (mkF m 57 #[.val (.long q0), .second, .val (.int q1), .val (.int q2), .val (.int sz), .val (.long (sz.toInt64)), .second, .val (.long pos), .second, .val (.int r), .unset, .unset, .unset, .unset] [(.int (lcmpW pos (1 : Int64)))]) G := fun t k => K75 t (XS.lcmp X70.here hx rfl (hb hby at_56) rfl k)
  by_cases hc77 : pos < (1 : Int64)
  · skip
    have K78 : Go p e below T70 (mkF m 74 #[.val (.long q0), .second, .val (.int q1), .val (.int q2), .val (.int sz), .val (.long (sz.toInt64)), .second, .val (.long pos), .second, .val (.int r), .unset, .unset, .unset, .unset] []) G := fun t k => K76 t (XS.ifYes X70.here hx rfl (pc0 := 57) (pc' := 74) rfl (hb hby at_57) rfl ((if0 _ _).trans (tlt ((lw_lt _ _).mpr hc77)).1) (by decide) (by decide) k)
    have K79 : Go p e below T70 (mkF m 75 #[.val (.long q0), .second, .val (.int q1), .val (.int q2), .val (.int sz), .val (.long (sz.toInt64)), .second, .val (.long pos), .second, .val (.int r), .unset, .unset, .unset, .unset] [(.int (0 : Int32))]) G := fun t k => K78 t (XS.iconst X70.here hx rfl (hb hby at_74) k)
    have K80 : Go p e below T70 (mkF m 77 #[.val (.long q0), .second, .val (.int q1), .val (.int q2), .val (.int sz), .val (.long (sz.toInt64)), .second, .val (.long pos), .second, .val (.int r), .val (.int (0 : Int32)), .unset, .unset, .unset] []) G := fun t k => K79 t (XS.istore X70.here hx rfl (hb hby at_75) rfl (l' := #[.val (.long q0), .second, .val (.int q1), .val (.int q2), .val (.int sz), .val (.long (sz.toInt64)), .second, .val (.long pos), .second, .val (.int r), .val (.int (0 : Int32)), .unset, .unset, .unset]) rfl k)
    have K81 : Go p e below T70 (mkF m 79 #[.val (.long q0), .second, .val (.int q1), .val (.int q2), .val (.int sz), .val (.long (sz.toInt64)), .second, .val (.long pos), .second, .val (.int r), .val (.int (0 : Int32)), .unset, .unset, .unset] [(.long pos)]) G := fun t k => K80 t (XS.lload X70.here hx rfl (hb hby at_77) rfl k)
    have K82 : Go p e below T70 (mkF m 81 #[.val (.long q0), .second, .val (.int q1), .val (.int q2), .val (.int sz), .val (.long (sz.toInt64)), .second, .val (.long pos), .second, .val (.int r), .val (.int (0 : Int32)), .unset, .unset, .unset] [(.long (sz.toInt64)), (.long pos)]) G := fun t k => K81 t (XS.lload X70.here hx rfl (hb hby at_79) rfl k)
    have K83 : Go p e below T70 (mkF m 82 #[.val (.long q0), .second, .val (.int q1), .val (.int q2), .val (.int sz), .val (.long (sz.toInt64)), .second, .val (.long pos), .second, .val (.int r), .val (.int (0 : Int32)), .unset, .unset, .unset] [(.long (-(sz.toInt64))), (.long pos)]) G := fun t k => K82 t (XS.lneg X70.here hx rfl (hb hby at_81) rfl k)
    have K84 : Go p e below T70 (mkF m 83 #[.val (.long q0), .second, .val (.int q1), .val (.int q2), .val (.int sz), .val (.long (sz.toInt64)), .second, .val (.long pos), .second, .val (.int r), .val (.int (0 : Int32)), .unset, .unset, .unset] [(.int (lcmpW pos (-(sz.toInt64))))]) G := fun t k => K83 t (XS.lcmp X70.here hx rfl (hb hby at_82) rfl k)
    by_cases hc85 : pos < (-(sz.toInt64))
    · skip
      have K86 : Go p e below T70 (mkF m 97 #[.val (.long q0), .second, .val (.int q1), .val (.int q2), .val (.int sz), .val (.long (sz.toInt64)), .second, .val (.long pos), .second, .val (.int r), .val (.int (0 : Int32)), .unset, .unset, .unset] []) G := fun t k => K84 t (XS.ifYes X70.here hx rfl (pc0 := 83) (pc' := 97) rfl (hb hby at_83) rfl ((if0 _ _).trans (tlt ((lw_lt _ _).mpr hc85)).1) (by decide) (by decide) k)
      have K87 : Go p e below T70 (mkF m 98 #[.val (.long q0), .second, .val (.int q1), .val (.int q2), .val (.int sz), .val (.long (sz.toInt64)), .second, .val (.long pos), .second, .val (.int r), .val (.int (0 : Int32)), .unset, .unset, .unset] [(.int (0 : Int32))]) G := fun t k => K86 t (XS.iconst X70.here hx rfl (hb hby at_97) k)
      have K88 : Go p e below T70 (mkF m 100 #[.val (.long q0), .second, .val (.int q1), .val (.int q2), .val (.int sz), .val (.long (sz.toInt64)), .second, .val (.long pos), .second, .val (.int r), .val (.int (0 : Int32)), .val (.int (0 : Int32)), .unset, .unset] []) G := fun t k => K87 t (XS.istore X70.here hx rfl (hb hby at_98) rfl (l' := #[.val (.long q0), .second, .val (.int q1), .val (.int q2), .val (.int sz), .val (.long (sz.toInt64)), .second, .val (.long pos), .second, .val (.int r), .val (.int (0 : Int32)), .val (.int (0 : Int32)), .unset, .unset]) rfl k)
      have K89 : Go p e below T70 (mkF m 102 #[.val (.long q0), .second, .val (.int q1), .val (.int q2), .val (.int sz), .val (.long (sz.toInt64)), .second, .val (.long pos), .second, .val (.int r), .val (.int (0 : Int32)), .val (.int (0 : Int32)), .unset, .unset] [(.int (0 : Int32))]) G := fun t k => K88 t (XS.iload X70.here hx rfl (hb hby at_100) rfl k)
      have K90 : Go p e below T70 (mkF m 105 #[.val (.long q0), .second, .val (.int q1), .val (.int q2), .val (.int sz), .val (.long (sz.toInt64)), .second, .val (.long pos), .second, .val (.int r), .val (.int (0 : Int32)), .val (.int (0 : Int32)), .unset, .unset] []) G := fun t k => K89 t (XS.ifNo X70.here hx rfl (hb hby at_102) rfl ((if0 _ _).trans (teq (by decide : (0 : Int32) = (0 : Int32))).2) k)
      have K91 : Go p e below T70 (mkF m 107 #[.val (.long q0), .second, .val (.int q1), .val (.int q2), .val (.int sz), .val (.long (sz.toInt64)), .second, .val (.long pos), .second, .val (.int r), .val (.int (0 : Int32)), .val (.int (0 : Int32)), .unset, .unset] [(.int (0 : Int32))]) G := fun t k => K90 t (XS.iload X70.here hx rfl (hb hby at_105) rfl k)
      have K92 : Go p e below T70 (mkF m 110 #[.val (.long q0), .second, .val (.int q1), .val (.int q2), .val (.int sz), .val (.long (sz.toInt64)), .second, .val (.long pos), .second, .val (.int r), .val (.int (0 : Int32)), .val (.int (0 : Int32)), .unset, .unset] []) G := fun t k => K91 t (XS.ifNo X70.here hx rfl (hb hby at_107) rfl ((if0 _ _).trans (teq (by decide : (0 : Int32) = (0 : Int32))).2) k)
      have K93 : Go p e below T70 (mkF m 112 #[.val (.long q0), .second, .val (.int q1), .val (.int q2), .val (.int sz), .val (.long (sz.toInt64)), .second, .val (.long pos), .second, .val (.int r), .val (.int (0 : Int32)), .val (.int (0 : Int32)), .unset, .unset] [(.int r)]) G := fun t k => K92 t (XS.iload X70.here hx rfl (hb hby at_110) rfl k)
      have K94 : Go p e below T70 (mkF m 113 #[.val (.long q0), .second, .val (.int q1), .val (.int q2), .val (.int sz), .val (.long (sz.toInt64)), .second, .val (.long pos), .second, .val (.int r), .val (.int (0 : Int32)), .val (.int (0 : Int32)), .unset, .unset] [(.int (-1 : Int32)), (.int r)]) G := fun t k => K93 t (XS.iconst X70.here hx rfl (hb hby at_112) k)
      by_cases hc95 : r = (-1 : Int32)
      · skip
        have K96 : Go p e below T70 (mkF m 116 #[.val (.long q0), .second, .val (.int q1), .val (.int q2), .val (.int sz), .val (.long (sz.toInt64)), .second, .val (.long pos), .second, .val (.int r), .val (.int (0 : Int32)), .val (.int (0 : Int32)), .unset, .unset] []) G := fun t k => K94 t (XS.icmpNo X70.here hx rfl (hb hby at_113) rfl ((teq hc95).2) k)
        have K97 : Go p e below T70 (mkF m 117 #[.val (.long q0), .second, .val (.int q1), .val (.int q2), .val (.int sz), .val (.long (sz.toInt64)), .second, .val (.long pos), .second, .val (.int r), .val (.int (0 : Int32)), .val (.int (0 : Int32)), .unset, .unset] [(.int (1 : Int32))]) G := fun t k => K96 t (XS.iconst X70.here hx rfl (hb hby at_116) k)
        have K98 : Go p e below T70 (mkF m 121 #[.val (.long q0), .second, .val (.int q1), .val (.int q2), .val (.int sz), .val (.long (sz.toInt64)), .second, .val (.long pos), .second, .val (.int r), .val (.int (0 : Int32)), .val (.int (0 : Int32)), .unset, .unset] [(.int (1 : Int32))]) G := fun t k => K97 t (XS.goto X70.here hx rfl (pc0 := 117) (pc' := 121) rfl (hb hby at_117) (by decide) (by decide) k)
        obtain ⟨fs, hr, hrun, hended, hWW, hsame⟩ := X70.leave (v := some (.int (1 : Int32))) (fun h => by rw [Bd.returns] at h; cases h)
        refine ⟨_, _, hG _ (K98 _ (retN X70 hx (t := .boolean) Bd.returns (by simp) (hb hby at_121) hr)), hrun, hended, _, _, rfl, ?_, ⟨_, rfl⟩, hWW, hsame.mono (by decide) (by decide)⟩
        show Q0 Z q0 q1 q2 h0 n0 _ T70.heap _
        rw [E70q]
        exact ⟨rfl, N70⟩
      · skip
        have K99 : Go p e below T70 (mkF m 120 #[.val (.long q0), .second, .val (.int q1), .val (.int q2), .val (.int sz), .val (.long (sz.toInt64)), .second, .val (.long pos), .second, .val (.int r), .val (.int (0 : Int32)), .val (.int (0 : Int32)), .unset, .unset] []) G := fun t k => K94 t (XS.icmpYes X70.here hx rfl (pc0 := 113) (pc' := 120) rfl (hb hby at_113) rfl ((feq hc95).2) (by decide) (by decide) k)
        have K100 : Go p e below T70 (mkF m 121 #[.val (.long q0), .second, .val (.int q1), .val (.int q2), .val (.int sz), .val (.long (sz.toInt64)), .second, .val (.long pos), .second, .val (.int r), .val (.int (0 : Int32)), .val (.int (0 : Int32)), .unset, .unset] [(.int (0 : Int32))]) G := fun t k => K99 t (XS.iconst X70.here hx rfl (hb hby at_120) k)
        exfalso
        simp only [Int64.lt_iff_toInt_lt, Int32.lt_iff_toInt_lt, ← Int64.toInt_inj, ← Int32.toInt_inj, own_J0, own_J1, own_J3, own_I0, own_Im1, own_I15, own_I2147483647] at hc77 hc85 hc95
        omega
    · skip
      have K101 : Go p e below T70 (mkF m 86 #[.val (.long q0), .second, .val (.int q1), .val (.int q2), .val (.int sz), .val (.long (sz.toInt64)), .second, .val (.long pos), .second, .val (.int r), .val (.int (0 : Int32)), .unset, .unset, .unset] []) G := fun t k => K84 t (XS.ifNo X70.here hx rfl (hb hby at_83) rfl ((if0 _ _).trans (flt (fun z => hc85 ((lw_lt _ _).mp z))).1) k)
      have K102 : Go p e below T70 (mkF m 88 #[.val (.long q0), .second, .val (.int q1), .val (.int q2), .val (.int sz), .val (.long (sz.toInt64)), .second, .val (.long pos), .second, .val (.int r), .val (.int (0 : Int32)), .unset, .unset, .unset] [(.long pos)]) G := fun t k => K101 t (XS.lload X70.here hx rfl (hb hby at_86) rfl k)
      have K103 : Go p e below T70 (mkF m 89 #[.val (.long q0), .second, .val (.int q1), .val (.int q2), .val (.int sz), .val (.long (sz.toInt64)), .second, .val (.long pos), .second, .val (.int r), .val (.int (0 : Int32)), .unset, .unset, .unset] [(.long (0 : Int64)), (.long pos)]) G := fun t k => K102 t (XS.lconst X70.here hx rfl (hb hby at_88) k)
      have K104 : Go p e below T70 (mkF m 90 #[.val (.long q0), .second, .val (.int q1), .val (.int q2), .val (.int sz), .val (.long (sz.toInt64)), .second, .val (.long pos), .second, .val (.int r), .val (.int (0 : Int32)), .unset, .unset, .unset] [(.int (lcmpW pos (0 : Int64)))]) G := fun t k => K103 t (XS.lcmp X70.here hx rfl (hb hby at_89) rfl k)
      by_cases hc105 : (0 : Int64) < pos
      · skip
        have K106 : Go p e below T70 (mkF m 97 #[.val (.long q0), .second, .val (.int q1), .val (.int q2), .val (.int sz), .val (.long (sz.toInt64)), .second, .val (.long pos), .second, .val (.int r), .val (.int (0 : Int32)), .unset, .unset, .unset] []) G := fun t k => K104 t (XS.ifYes X70.here hx rfl (pc0 := 90) (pc' := 97) rfl (hb hby at_90) rfl ((if0 _ _).trans (tlt ((lw_gt _ _).mpr hc105)).2.2.1) (by decide) (by decide) k)
        have K107 : Go p e below T70 (mkF m 98 #[.val (.long q0), .second, .val (.int q1), .val (.int q2), .val (.int sz), .val (.long (sz.toInt64)), .second, .val (.long pos), .second, .val (.int r), .val (.int (0 : Int32)), .unset, .unset, .unset] [(.int (0 : Int32))]) G := fun t k => K106 t (XS.iconst X70.here hx rfl (hb hby at_97) k)
        have K108 : Go p e below T70 (mkF m 100 #[.val (.long q0), .second, .val (.int q1), .val (.int q2), .val (.int sz), .val (.long (sz.toInt64)), .second, .val (.long pos), .second, .val (.int r), .val (.int (0 : Int32)), .val (.int (0 : Int32)), .unset, .unset] []) G := fun t k => K107 t (XS.istore X70.here hx rfl (hb hby at_98) rfl (l' := #[.val (.long q0), .second, .val (.int q1), .val (.int q2), .val (.int sz), .val (.long (sz.toInt64)), .second, .val (.long pos), .second, .val (.int r), .val (.int (0 : Int32)), .val (.int (0 : Int32)), .unset, .unset]) rfl k)
        have K109 : Go p e below T70 (mkF m 102 #[.val (.long q0), .second, .val (.int q1), .val (.int q2), .val (.int sz), .val (.long (sz.toInt64)), .second, .val (.long pos), .second, .val (.int r), .val (.int (0 : Int32)), .val (.int (0 : Int32)), .unset, .unset] [(.int (0 : Int32))]) G := fun t k => K108 t (XS.iload X70.here hx rfl (hb hby at_100) rfl k)
        have K110 : Go p e below T70 (mkF m 105 #[.val (.long q0), .second, .val (.int q1), .val (.int q2), .val (.int sz), .val (.long (sz.toInt64)), .second, .val (.long pos), .second, .val (.int r), .val (.int (0 : Int32)), .val (.int (0 : Int32)), .unset, .unset] []) G := fun t k => K109 t (XS.ifNo X70.here hx rfl (hb hby at_102) rfl ((if0 _ _).trans (teq (by decide : (0 : Int32) = (0 : Int32))).2) k)
        have K111 : Go p e below T70 (mkF m 107 #[.val (.long q0), .second, .val (.int q1), .val (.int q2), .val (.int sz), .val (.long (sz.toInt64)), .second, .val (.long pos), .second, .val (.int r), .val (.int (0 : Int32)), .val (.int (0 : Int32)), .unset, .unset] [(.int (0 : Int32))]) G := fun t k => K110 t (XS.iload X70.here hx rfl (hb hby at_105) rfl k)
        have K112 : Go p e below T70 (mkF m 110 #[.val (.long q0), .second, .val (.int q1), .val (.int q2), .val (.int sz), .val (.long (sz.toInt64)), .second, .val (.long pos), .second, .val (.int r), .val (.int (0 : Int32)), .val (.int (0 : Int32)), .unset, .unset] []) G := fun t k => K111 t (XS.ifNo X70.here hx rfl (hb hby at_107) rfl ((if0 _ _).trans (teq (by decide : (0 : Int32) = (0 : Int32))).2) k)
        have K113 : Go p e below T70 (mkF m 112 #[.val (.long q0), .second, .val (.int q1), .val (.int q2), .val (.int sz), .val (.long (sz.toInt64)), .second, .val (.long pos), .second, .val (.int r), .val (.int (0 : Int32)), .val (.int (0 : Int32)), .unset, .unset] [(.int r)]) G := fun t k => K112 t (XS.iload X70.here hx rfl (hb hby at_110) rfl k)
        have K114 : Go p e below T70 (mkF m 113 #[.val (.long q0), .second, .val (.int q1), .val (.int q2), .val (.int sz), .val (.long (sz.toInt64)), .second, .val (.long pos), .second, .val (.int r), .val (.int (0 : Int32)), .val (.int (0 : Int32)), .unset, .unset] [(.int (-1 : Int32)), (.int r)]) G := fun t k => K113 t (XS.iconst X70.here hx rfl (hb hby at_112) k)
        by_cases hc115 : r = (-1 : Int32)
        · skip
          have K116 : Go p e below T70 (mkF m 116 #[.val (.long q0), .second, .val (.int q1), .val (.int q2), .val (.int sz), .val (.long (sz.toInt64)), .second, .val (.long pos), .second, .val (.int r), .val (.int (0 : Int32)), .val (.int (0 : Int32)), .unset, .unset] []) G := fun t k => K114 t (XS.icmpNo X70.here hx rfl (hb hby at_113) rfl ((teq hc115).2) k)
          have K117 : Go p e below T70 (mkF m 117 #[.val (.long q0), .second, .val (.int q1), .val (.int q2), .val (.int sz), .val (.long (sz.toInt64)), .second, .val (.long pos), .second, .val (.int r), .val (.int (0 : Int32)), .val (.int (0 : Int32)), .unset, .unset] [(.int (1 : Int32))]) G := fun t k => K116 t (XS.iconst X70.here hx rfl (hb hby at_116) k)
          have K118 : Go p e below T70 (mkF m 121 #[.val (.long q0), .second, .val (.int q1), .val (.int q2), .val (.int sz), .val (.long (sz.toInt64)), .second, .val (.long pos), .second, .val (.int r), .val (.int (0 : Int32)), .val (.int (0 : Int32)), .unset, .unset] [(.int (1 : Int32))]) G := fun t k => K117 t (XS.goto X70.here hx rfl (pc0 := 117) (pc' := 121) rfl (hb hby at_117) (by decide) (by decide) k)
          obtain ⟨fs, hr, hrun, hended, hWW, hsame⟩ := X70.leave (v := some (.int (1 : Int32))) (fun h => by rw [Bd.returns] at h; cases h)
          refine ⟨_, _, hG _ (K118 _ (retN X70 hx (t := .boolean) Bd.returns (by simp) (hb hby at_121) hr)), hrun, hended, _, _, rfl, ?_, ⟨_, rfl⟩, hWW, hsame.mono (by decide) (by decide)⟩
          show Q0 Z q0 q1 q2 h0 n0 _ T70.heap _
          rw [E70q]
          exact ⟨rfl, N70⟩
        · skip
          have K119 : Go p e below T70 (mkF m 120 #[.val (.long q0), .second, .val (.int q1), .val (.int q2), .val (.int sz), .val (.long (sz.toInt64)), .second, .val (.long pos), .second, .val (.int r), .val (.int (0 : Int32)), .val (.int (0 : Int32)), .unset, .unset] []) G := fun t k => K114 t (XS.icmpYes X70.here hx rfl (pc0 := 113) (pc' := 120) rfl (hb hby at_113) rfl ((feq hc115).2) (by decide) (by decide) k)
          have K120 : Go p e below T70 (mkF m 121 #[.val (.long q0), .second, .val (.int q1), .val (.int q2), .val (.int sz), .val (.long (sz.toInt64)), .second, .val (.long pos), .second, .val (.int r), .val (.int (0 : Int32)), .val (.int (0 : Int32)), .unset, .unset] [(.int (0 : Int32))]) G := fun t k => K119 t (XS.iconst X70.here hx rfl (hb hby at_120) k)
          exfalso
          simp only [Int64.lt_iff_toInt_lt, Int32.lt_iff_toInt_lt, ← Int64.toInt_inj, ← Int32.toInt_inj, own_J0, own_J1, own_J3, own_I0, own_Im1, own_I15, own_I2147483647] at hc77 hc85 hc105 hc115
          omega
      · skip
        have K121 : Go p e below T70 (mkF m 93 #[.val (.long q0), .second, .val (.int q1), .val (.int q2), .val (.int sz), .val (.long (sz.toInt64)), .second, .val (.long pos), .second, .val (.int r), .val (.int (0 : Int32)), .unset, .unset, .unset] []) G := fun t k => K104 t (XS.ifNo X70.here hx rfl (hb hby at_90) rfl ((if0 _ _).trans (flt (fun z => hc105 ((lw_gt _ _).mp z))).2.2.1) k)
        have K122 : Go p e below T70 (mkF m 94 #[.val (.long q0), .second, .val (.int q1), .val (.int q2), .val (.int sz), .val (.long (sz.toInt64)), .second, .val (.long pos), .second, .val (.int r), .val (.int (0 : Int32)), .unset, .unset, .unset] [(.int (1 : Int32))]) G := fun t k => K121 t (XS.iconst X70.here hx rfl (hb hby at_93) k)
        have K123 : Go p e below T70 (mkF m 98 #[.val (.long q0), .second, .val (.int q1), .val (.int q2), .val (.int sz), .val (.long (sz.toInt64)), .second, .val (.long pos), .second, .val (.int r), .val (.int (0 : Int32)), .unset, .unset, .unset] [(.int (1 : Int32))]) G := fun t k => K122 t (XS.goto X70.here hx rfl (pc0 := 94) (pc' := 98) rfl (hb hby at_94) (by decide) (by decide) k)
        have K124 : Go p e below T70 (mkF m 100 #[.val (.long q0), .second, .val (.int q1), .val (.int q2), .val (.int sz), .val (.long (sz.toInt64)), .second, .val (.long pos), .second, .val (.int r), .val (.int (0 : Int32)), .val (.int (1 : Int32)), .unset, .unset] []) G := fun t k => K123 t (XS.istore X70.here hx rfl (hb hby at_98) rfl (l' := #[.val (.long q0), .second, .val (.int q1), .val (.int q2), .val (.int sz), .val (.long (sz.toInt64)), .second, .val (.long pos), .second, .val (.int r), .val (.int (0 : Int32)), .val (.int (1 : Int32)), .unset, .unset]) rfl k)
        have K125 : Go p e below T70 (mkF m 102 #[.val (.long q0), .second, .val (.int q1), .val (.int q2), .val (.int sz), .val (.long (sz.toInt64)), .second, .val (.long pos), .second, .val (.int r), .val (.int (0 : Int32)), .val (.int (1 : Int32)), .unset, .unset] [(.int (0 : Int32))]) G := fun t k => K124 t (XS.iload X70.here hx rfl (hb hby at_100) rfl k)
        have K126 : Go p e below T70 (mkF m 105 #[.val (.long q0), .second, .val (.int q1), .val (.int q2), .val (.int sz), .val (.long (sz.toInt64)), .second, .val (.long pos), .second, .val (.int r), .val (.int (0 : Int32)), .val (.int (1 : Int32)), .unset, .unset] []) G := fun t k => K125 t (XS.ifNo X70.here hx rfl (hb hby at_102) rfl ((if0 _ _).trans (teq (by decide : (0 : Int32) = (0 : Int32))).2) k)
        have K127 : Go p e below T70 (mkF m 107 #[.val (.long q0), .second, .val (.int q1), .val (.int q2), .val (.int sz), .val (.long (sz.toInt64)), .second, .val (.long pos), .second, .val (.int r), .val (.int (0 : Int32)), .val (.int (1 : Int32)), .unset, .unset] [(.int (1 : Int32))]) G := fun t k => K126 t (XS.iload X70.here hx rfl (hb hby at_105) rfl k)
        have K128 : Go p e below T70 (mkF m 122 #[.val (.long q0), .second, .val (.int q1), .val (.int q2), .val (.int sz), .val (.long (sz.toInt64)), .second, .val (.long pos), .second, .val (.int r), .val (.int (0 : Int32)), .val (.int (1 : Int32)), .unset, .unset] []) G := fun t k => K127 t (XS.ifYes X70.here hx rfl (pc0 := 107) (pc' := 122) rfl (hb hby at_107) rfl ((if0 _ _).trans (feq (by decide : ¬ ((1 : Int32) = (0 : Int32)))).2) (by decide) (by decide) k)
        have K129 : Go p e below T70 (mkF m 124 #[.val (.long q0), .second, .val (.int q1), .val (.int q2), .val (.int sz), .val (.long (sz.toInt64)), .second, .val (.long pos), .second, .val (.int r), .val (.int (0 : Int32)), .val (.int (1 : Int32)), .unset, .unset] [(.int r)]) G := fun t k => K128 t (XS.iload X70.here hx rfl (hb hby at_122) rfl k)
        by_cases hc130 : r < (0 : Int32)
        · skip
          have K131 : Go p e below T70 (mkF m 134 #[.val (.long q0), .second, .val (.int q1), .val (.int q2), .val (.int sz), .val (.long (sz.toInt64)), .second, .val (.long pos), .second, .val (.int r), .val (.int (0 : Int32)), .val (.int (1 : Int32)), .unset, .unset] []) G := fun t k => K129 t (XS.ifYes X70.here hx rfl (pc0 := 124) (pc' := 134) rfl (hb hby at_124) rfl ((if0 _ _).trans (tlt hc130).1) (by decide) (by decide) k)
          have K132 : Go p e below T70 (mkF m 135 #[.val (.long q0), .second, .val (.int q1), .val (.int q2), .val (.int sz), .val (.long (sz.toInt64)), .second, .val (.long pos), .second, .val (.int r), .val (.int (0 : Int32)), .val (.int (1 : Int32)), .unset, .unset] [(.int (0 : Int32))]) G := fun t k => K131 t (XS.iconst X70.here hx rfl (hb hby at_134) k)
          exfalso
          simp only [Int64.lt_iff_toInt_lt, Int32.lt_iff_toInt_lt, ← Int64.toInt_inj, ← Int32.toInt_inj, own_J0, own_J1, own_J3, own_I0, own_Im1, own_I15, own_I2147483647] at hc77 hc85 hc105 hc130
          omega
        · skip
          have K133 : Go p e below T70 (mkF m 127 #[.val (.long q0), .second, .val (.int q1), .val (.int q2), .val (.int sz), .val (.long (sz.toInt64)), .second, .val (.long pos), .second, .val (.int r), .val (.int (0 : Int32)), .val (.int (1 : Int32)), .unset, .unset] []) G := fun t k => K129 t (XS.ifNo X70.here hx rfl (hb hby at_124) rfl ((if0 _ _).trans (flt hc130).1) k)
          have K134 : Go p e below T70 (mkF m 129 #[.val (.long q0), .second, .val (.int q1), .val (.int q2), .val (.int sz), .val (.long (sz.toInt64)), .second, .val (.long pos), .second, .val (.int r), .val (.int (0 : Int32)), .val (.int (1 : Int32)), .unset, .unset] [(.int r)]) G := fun t k => K133 t (XS.iload X70.here hx rfl (hb hby at_127) rfl k)
          have K135 : Go p e below T70 (mkF m 131 #[.val (.long q0), .second, .val (.int q1), .val (.int q2), .val (.int sz), .val (.long (sz.toInt64)), .second, .val (.long pos), .second, .val (.int r), .val (.int (0 : Int32)), .val (.int (1 : Int32)), .unset, .unset] [(.int sz), (.int r)]) G := fun t k => K134 t (XS.iload X70.here hx rfl (hb hby at_129) rfl k)
          by_cases hc136 : sz < r
          · skip
            have K137 : Go p e below T70 (mkF m 134 #[.val (.long q0), .second, .val (.int q1), .val (.int q2), .val (.int sz), .val (.long (sz.toInt64)), .second, .val (.long pos), .second, .val (.int r), .val (.int (0 : Int32)), .val (.int (1 : Int32)), .unset, .unset] []) G := fun t k => K135 t (XS.icmpNo X70.here hx rfl (hb hby at_131) rfl ((tlt hc136).2.2.2) k)
            have K138 : Go p e below T70 (mkF m 135 #[.val (.long q0), .second, .val (.int q1), .val (.int q2), .val (.int sz), .val (.long (sz.toInt64)), .second, .val (.long pos), .second, .val (.int r), .val (.int (0 : Int32)), .val (.int (1 : Int32)), .unset, .unset] [(.int (0 : Int32))]) G := fun t k => K137 t (XS.iconst X70.here hx rfl (hb hby at_134) k)
            exfalso
            simp only [Int64.lt_iff_toInt_lt, Int32.lt_iff_toInt_lt, ← Int64.toInt_inj, ← Int32.toInt_inj, own_J0, own_J1, own_J3, own_I0, own_Im1, own_I15, own_I2147483647] at hc77 hc85 hc105 hc130 hc136
            omega
          · skip
            have K139 : Go p e below T70 (mkF m 136 #[.val (.long q0), .second, .val (.int q1), .val (.int q2), .val (.int sz), .val (.long (sz.toInt64)), .second, .val (.long pos), .second, .val (.int r), .val (.int (0 : Int32)), .val (.int (1 : Int32)), .unset, .unset] []) G := fun t k => K135 t (XS.icmpYes X70.here hx rfl (pc0 := 131) (pc' := 136) rfl (hb hby at_131) rfl ((flt hc136).2.2.2) (by decide) (by decide) k)
            have K140 : Go p e below T70 (mkF m 138 #[.val (.long q0), .second, .val (.int q1), .val (.int q2), .val (.int sz), .val (.long (sz.toInt64)), .second, .val (.long pos), .second, .val (.int r), .val (.int (0 : Int32)), .val (.int (1 : Int32)), .unset, .unset] [(.int r)]) G := fun t k => K139 t (XS.iload X70.here hx rfl (hb hby at_136) rfl k)
            have K141 : Go p e below T70 (mkF m 139 #[.val (.long q0), .second, .val (.int q1), .val (.int q2), .val (.int sz), .val (.long (sz.toInt64)), .second, .val (.long pos), .second, .val (.int r), .val (.int (0 : Int32)), .val (.int (1 : Int32)), .unset, .unset] [(.long (r.toInt64))]) G := fun t k => K140 t (XS.i2l X70.here hx rfl (hb hby at_138) rfl k)
            have K142 : Go p e below T70 (mkF m 141 #[.val (.long q0), .second, .val (.int q1), .val (.int q2), .val (.int sz), .val (.long (sz.toInt64)), .second, .val (.long pos), .second, .val (.int r), .val (.int (0 : Int32)), .val (.int (1 : Int32)), .val (.long (r.toInt64)), .second] []) G := fun t k => K141 t (XS.lstore X70.here hx rfl (hb hby at_139) rfl (l' := #[.val (.long q0), .second, .val (.int q1), .val (.int q2), .val (.int sz), .val (.long (sz.toInt64)), .second, .val (.long pos), .second, .val (.int r), .val (.int (0 : Int32)), .val (.int (1 : Int32)), .val (.long (r.toInt64)), .second]) rfl k)
            have K143 : Go p e below T70 (mkF m 143 #[.val (.long q0), .second, .val (.int q1), .val (.int q2), .val (.int sz), .val (.long (sz.toInt64)), .second, .val (.long pos), .second, .val (.int r), .val (.int (0 : Int32)), .val (.int (1 : Int32)), .val (.long (r.toInt64)), .second] [(.int (0 : Int32))]) G := fun t k => K142 t (XS.iload X70.here hx rfl (hb hby at_141) rfl k)
            have K144 : Go p e below T70 (mkF m 162 #[.val (.long q0), .second, .val (.int q1), .val (.int q2), .val (.int sz), .val (.long (sz.toInt64)), .second, .val (.long pos), .second, .val (.int r), .val (.int (0 : Int32)), .val (.int (1 : Int32)), .val (.long (r.toInt64)), .second] []) G := fun t k => K143 t (XS.ifYes X70.here hx rfl (pc0 := 143) (pc' := 162) rfl (hb hby at_143) rfl ((if0 _ _).trans (teq (by decide : (0 : Int32) = (0 : Int32))).1) (by decide) (by decide) k)
            have K145 : Go p e below T70 (mkF m 164 #[.val (.long q0), .second, .val (.int q1), .val (.int q2), .val (.int sz), .val (.long (sz.toInt64)), .second, .val (.long pos), .second, .val (.int r), .val (.int (0 : Int32)), .val (.int (1 : Int32)), .val (.long (r.toInt64)), .second] [(.long pos)]) G := fun t k => K144 t (XS.lload X70.here hx rfl (hb hby at_162) rfl k)
            have K146 : Go p e below T70 (mkF m 166 #[.val (.long q0), .second, .val (.int q1), .val (.int q2), .val (.int sz), .val (.long (sz.toInt64)), .second, .val (.long pos), .second, .val (.int r), .val (.int (0 : Int32)), .val (.int (1 : Int32)), .val (.long (r.toInt64)), .second] [(.long (r.toInt64)), (.long pos)]) G := fun t k => K145 t (XS.lload X70.here hx rfl (hb hby at_164) rfl k)
            have K147 : Go p e below T70 (mkF m 168 #[.val (.long q0), .second, .val (.int q1), .val (.int q2), .val (.int sz), .val (.long (sz.toInt64)), .second, .val (.long pos), .second, .val (.int r), .val (.int (0 : Int32)), .val (.int (1 : Int32)), .val (.long (r.toInt64)), .second] [(.long (sz.toInt64)), (.long (r.toInt64)), (.long pos)]) G := fun t k => K146 t (XS.lload X70.here hx rfl (hb hby at_166) rfl k)
            have K148 : Go p e below T70 (mkF m 169 #[.val (.long q0), .second, .val (.int q1), .val (.int q2), .val (.int sz), .val (.long (sz.toInt64)), .second, .val (.long pos), .second, .val (.int r), .val (.int (0 : Int32)), .val (.int (1 : Int32)), .val (.long (r.toInt64)), .second] [(.long ((r.toInt64) - (sz.toInt64))), (.long pos)]) G := fun t k => K147 t (XS.lsub X70.here hx rfl (hb hby at_168) rfl k)
            have K149 : Go p e below T70 (mkF m 170 #[.val (.long q0), .second, .val (.int q1), .val (.int q2), .val (.int sz), .val (.long (sz.toInt64)), .second, .val (.long pos), .second, .val (.int r), .val (.int (0 : Int32)), .val (.int (1 : Int32)), .val (.long (r.toInt64)), .second] [(.int (lcmpW pos ((r.toInt64) - (sz.toInt64))))]) G := fun t k => K148 t (XS.lcmp X70.here hx rfl (hb hby at_169) rfl k)
            by_cases hc150 : pos = ((r.toInt64) - (sz.toInt64))
            · skip
              have K151 : Go p e below T70 (mkF m 173 #[.val (.long q0), .second, .val (.int q1), .val (.int q2), .val (.int sz), .val (.long (sz.toInt64)), .second, .val (.long pos), .second, .val (.int r), .val (.int (0 : Int32)), .val (.int (1 : Int32)), .val (.long (r.toInt64)), .second] []) G := fun t k => K149 t (XS.ifNo X70.here hx rfl (hb hby at_170) rfl ((if0 _ _).trans (teq ((lw_eq _ _).mpr hc150)).2) k)
              have K152 : Go p e below T70 (mkF m 174 #[.val (.long q0), .second, .val (.int q1), .val (.int q2), .val (.int sz), .val (.long (sz.toInt64)), .second, .val (.long pos), .second, .val (.int r), .val (.int (0 : Int32)), .val (.int (1 : Int32)), .val (.long (r.toInt64)), .second] [(.int (1 : Int32))]) G := fun t k => K151 t (XS.iconst X70.here hx rfl (hb hby at_173) k)
              have K153 : Go p e below T70 (mkF m 178 #[.val (.long q0), .second, .val (.int q1), .val (.int q2), .val (.int sz), .val (.long (sz.toInt64)), .second, .val (.long pos), .second, .val (.int r), .val (.int (0 : Int32)), .val (.int (1 : Int32)), .val (.long (r.toInt64)), .second] [(.int (1 : Int32))]) G := fun t k => K152 t (XS.goto X70.here hx rfl (pc0 := 174) (pc' := 178) rfl (hb hby at_174) (by decide) (by decide) k)
              obtain ⟨fs, hr, hrun, hended, hWW, hsame⟩ := X70.leave (v := some (.int (1 : Int32))) (fun h => by rw [Bd.returns] at h; cases h)
              refine ⟨_, _, hG _ (K153 _ (retN X70 hx (t := .boolean) Bd.returns (by simp) (hb hby at_178) hr)), hrun, hended, _, _, rfl, ?_, ⟨_, rfl⟩, hWW, hsame.mono (by decide) (by decide)⟩
              show Q0 Z q0 q1 q2 h0 n0 _ T70.heap _
              rw [E70q]
              exact ⟨rfl, N70⟩
            · skip
              have K154 : Go p e below T70 (mkF m 177 #[.val (.long q0), .second, .val (.int q1), .val (.int q2), .val (.int sz), .val (.long (sz.toInt64)), .second, .val (.long pos), .second, .val (.int r), .val (.int (0 : Int32)), .val (.int (1 : Int32)), .val (.long (r.toInt64)), .second] []) G := fun t k => K149 t (XS.ifYes X70.here hx rfl (pc0 := 170) (pc' := 177) rfl (hb hby at_170) rfl ((if0 _ _).trans (feq (fun z => hc150 ((lw_eq _ _).mp z))).2) (by decide) (by decide) k)
              have K155 : Go p e below T70 (mkF m 178 #[.val (.long q0), .second, .val (.int q1), .val (.int q2), .val (.int sz), .val (.long (sz.toInt64)), .second, .val (.long pos), .second, .val (.int r), .val (.int (0 : Int32)), .val (.int (1 : Int32)), .val (.long (r.toInt64)), .second] [(.int (0 : Int32))]) G := fun t k => K154 t (XS.iconst X70.here hx rfl (hb hby at_177) k)
              exfalso
              simp only [Int64.lt_iff_toInt_lt, Int32.lt_iff_toInt_lt, ← Int64.toInt_inj, ← Int32.toInt_inj, own_J0, own_J1, own_J3, own_I0, own_Im1, own_I15, own_I2147483647] at hc77 hc85 hc105 hc130 hc136 hc150
              omega
  · skip
    have K156 : Go p e below T70 (mkF m 60 #[.val (.long q0), .second, .val (.int q1), .val (.int q2), .val (.int sz), .val (.long (sz.toInt64)), .second, .val (.long pos), .second, .val (.int r), .unset, .unset, .unset, .unset] []) G := fun t k => K76 t (XS.ifNo X70.here hx rfl (hb hby at_57) rfl ((if0 _ _).trans (flt (fun z => hc77 ((lw_lt _ _).mp z))).1) k)
    have K157 : Go p e below T70 (mkF m 62 #[.val (.long q0), .second, .val (.int q1), .val (.int q2), .val (.int sz), .val (.long (sz.toInt64)), .second, .val (.long pos), .second, .val (.int r), .unset, .unset, .unset, .unset] [(.long pos)]) G := fun t k => K156 t (XS.lload X70.here hx rfl (hb hby at_60) rfl k)
    have K158 : Go p e below T70 (mkF m 64 #[.val (.long q0), .second, .val (.int q1), .val (.int q2), .val (.int sz), .val (.long (sz.toInt64)), .second, .val (.long pos), .second, .val (.int r), .unset, .unset, .unset, .unset] [(.long (sz.toInt64)), (.long pos)]) G := fun t k => K157 t (XS.lload X70.here hx rfl (hb hby at_62) rfl k)
    have K159 : Go p e below T70 (mkF m 65 #[.val (.long q0), .second, .val (.int q1), .val (.int q2), .val (.int sz), .val (.long (sz.toInt64)), .second, .val (.long pos), .second, .val (.int r), .unset, .unset, .unset, .unset] [(.long (1 : Int64)), (.long (sz.toInt64)), (.long pos)]) G := fun t k => K158 t (XS.lconst X70.here hx rfl (hb hby at_64) k)
    have K160 : Go p e below T70 (mkF m 66 #[.val (.long q0), .second, .val (.int q1), .val (.int q2), .val (.int sz), .val (.long (sz.toInt64)), .second, .val (.long pos), .second, .val (.int r), .unset, .unset, .unset, .unset] [(.long ((sz.toInt64) + (1 : Int64))), (.long pos)]) G := fun t k => K159 t (XS.ladd X70.here hx rfl (hb hby at_65) rfl k)
    have K161 : Go p e below T70 (mkF m 67 #[.val (.long q0), .second, .val (.int q1), .val (.int q2), .val (.int sz), .val (.long (sz.toInt64)), .second, .val (.long pos), .second, .val (.int r), .unset, .unset, .unset, .unset] [(.int (lcmpW pos ((sz.toInt64) + (1 : Int64))))]) G := fun t k => K160 t (XS.lcmp X70.here hx rfl (hb hby at_66) rfl k)
    by_cases hc162 : ((sz.toInt64) + (1 : Int64)) < pos
    · skip
      have K163 : Go p e below T70 (mkF m 74 #[.val (.long q0), .second, .val (.int q1), .val (.int q2), .val (.int sz), .val (.long (sz.toInt64)), .second, .val (.long pos), .second, .val (.int r), .unset, .unset, .unset, .unset] []) G := fun t k => K161 t (XS.ifYes X70.here hx rfl (pc0 := 67) (pc' := 74) rfl (hb hby at_67) rfl ((if0 _ _).trans (tlt ((lw_gt _ _).mpr hc162)).2.2.1) (by decide) (by decide) k)
      have K164 : Go p e below T70 (mkF m 75 #[.val (.long q0), .second, .val (.int q1), .val (.int q2), .val (.int sz), .val (.long (sz.toInt64)), .second, .val (.long pos), .second, .val (.int r), .unset, .unset, .unset, .unset] [(.int (0 : Int32))]) G := fun t k => K163 t (XS.iconst X70.here hx rfl (hb hby at_74) k)
      have K165 : Go p e below T70 (mkF m 77 #[.val (.long q0), .second, .val (.int q1), .val (.int q2), .val (.int sz), .val (.long (sz.toInt64)), .second, .val (.long pos), .second, .val (.int r), .val (.int (0 : Int32)), .unset, .unset, .unset] []) G := fun t k => K164 t (XS.istore X70.here hx rfl (hb hby at_75) rfl (l' := #[.val (.long q0), .second, .val (.int q1), .val (.int q2), .val (.int sz), .val (.long (sz.toInt64)), .second, .val (.long pos), .second, .val (.int r), .val (.int (0 : Int32)), .unset, .unset, .unset]) rfl k)
      have K166 : Go p e below T70 (mkF m 79 #[.val (.long q0), .second, .val (.int q1), .val (.int q2), .val (.int sz), .val (.long (sz.toInt64)), .second, .val (.long pos), .second, .val (.int r), .val (.int (0 : Int32)), .unset, .unset, .unset] [(.long pos)]) G := fun t k => K165 t (XS.lload X70.here hx rfl (hb hby at_77) rfl k)
      have K167 : Go p e below T70 (mkF m 81 #[.val (.long q0), .second, .val (.int q1), .val (.int q2), .val (.int sz), .val (.long (sz.toInt64)), .second, .val (.long pos), .second, .val (.int r), .val (.int (0 : Int32)), .unset, .unset, .unset] [(.long (sz.toInt64)), (.long pos)]) G := fun t k => K166 t (XS.lload X70.here hx rfl (hb hby at_79) rfl k)
      have K168 : Go p e below T70 (mkF m 82 #[.val (.long q0), .second, .val (.int q1), .val (.int q2), .val (.int sz), .val (.long (sz.toInt64)), .second, .val (.long pos), .second, .val (.int r), .val (.int (0 : Int32)), .unset, .unset, .unset] [(.long (-(sz.toInt64))), (.long pos)]) G := fun t k => K167 t (XS.lneg X70.here hx rfl (hb hby at_81) rfl k)
      have K169 : Go p e below T70 (mkF m 83 #[.val (.long q0), .second, .val (.int q1), .val (.int q2), .val (.int sz), .val (.long (sz.toInt64)), .second, .val (.long pos), .second, .val (.int r), .val (.int (0 : Int32)), .unset, .unset, .unset] [(.int (lcmpW pos (-(sz.toInt64))))]) G := fun t k => K168 t (XS.lcmp X70.here hx rfl (hb hby at_82) rfl k)
      by_cases hc170 : pos < (-(sz.toInt64))
      · skip
        have K171 : Go p e below T70 (mkF m 97 #[.val (.long q0), .second, .val (.int q1), .val (.int q2), .val (.int sz), .val (.long (sz.toInt64)), .second, .val (.long pos), .second, .val (.int r), .val (.int (0 : Int32)), .unset, .unset, .unset] []) G := fun t k => K169 t (XS.ifYes X70.here hx rfl (pc0 := 83) (pc' := 97) rfl (hb hby at_83) rfl ((if0 _ _).trans (tlt ((lw_lt _ _).mpr hc170)).1) (by decide) (by decide) k)
        have K172 : Go p e below T70 (mkF m 98 #[.val (.long q0), .second, .val (.int q1), .val (.int q2), .val (.int sz), .val (.long (sz.toInt64)), .second, .val (.long pos), .second, .val (.int r), .val (.int (0 : Int32)), .unset, .unset, .unset] [(.int (0 : Int32))]) G := fun t k => K171 t (XS.iconst X70.here hx rfl (hb hby at_97) k)
        have K173 : Go p e below T70 (mkF m 100 #[.val (.long q0), .second, .val (.int q1), .val (.int q2), .val (.int sz), .val (.long (sz.toInt64)), .second, .val (.long pos), .second, .val (.int r), .val (.int (0 : Int32)), .val (.int (0 : Int32)), .unset, .unset] []) G := fun t k => K172 t (XS.istore X70.here hx rfl (hb hby at_98) rfl (l' := #[.val (.long q0), .second, .val (.int q1), .val (.int q2), .val (.int sz), .val (.long (sz.toInt64)), .second, .val (.long pos), .second, .val (.int r), .val (.int (0 : Int32)), .val (.int (0 : Int32)), .unset, .unset]) rfl k)
        have K174 : Go p e below T70 (mkF m 102 #[.val (.long q0), .second, .val (.int q1), .val (.int q2), .val (.int sz), .val (.long (sz.toInt64)), .second, .val (.long pos), .second, .val (.int r), .val (.int (0 : Int32)), .val (.int (0 : Int32)), .unset, .unset] [(.int (0 : Int32))]) G := fun t k => K173 t (XS.iload X70.here hx rfl (hb hby at_100) rfl k)
        have K175 : Go p e below T70 (mkF m 105 #[.val (.long q0), .second, .val (.int q1), .val (.int q2), .val (.int sz), .val (.long (sz.toInt64)), .second, .val (.long pos), .second, .val (.int r), .val (.int (0 : Int32)), .val (.int (0 : Int32)), .unset, .unset] []) G := fun t k => K174 t (XS.ifNo X70.here hx rfl (hb hby at_102) rfl ((if0 _ _).trans (teq (by decide : (0 : Int32) = (0 : Int32))).2) k)
        have K176 : Go p e below T70 (mkF m 107 #[.val (.long q0), .second, .val (.int q1), .val (.int q2), .val (.int sz), .val (.long (sz.toInt64)), .second, .val (.long pos), .second, .val (.int r), .val (.int (0 : Int32)), .val (.int (0 : Int32)), .unset, .unset] [(.int (0 : Int32))]) G := fun t k => K175 t (XS.iload X70.here hx rfl (hb hby at_105) rfl k)
        have K177 : Go p e below T70 (mkF m 110 #[.val (.long q0), .second, .val (.int q1), .val (.int q2), .val (.int sz), .val (.long (sz.toInt64)), .second, .val (.long pos), .second, .val (.int r), .val (.int (0 : Int32)), .val (.int (0 : Int32)), .unset, .unset] []) G := fun t k => K176 t (XS.ifNo X70.here hx rfl (hb hby at_107) rfl ((if0 _ _).trans (teq (by decide : (0 : Int32) = (0 : Int32))).2) k)
        have K178 : Go p e below T70 (mkF m 112 #[.val (.long q0), .second, .val (.int q1), .val (.int q2), .val (.int sz), .val (.long (sz.toInt64)), .second, .val (.long pos), .second, .val (.int r), .val (.int (0 : Int32)), .val (.int (0 : Int32)), .unset, .unset] [(.int r)]) G := fun t k => K177 t (XS.iload X70.here hx rfl (hb hby at_110) rfl k)
        have K179 : Go p e below T70 (mkF m 113 #[.val (.long q0), .second, .val (.int q1), .val (.int q2), .val (.int sz), .val (.long (sz.toInt64)), .second, .val (.long pos), .second, .val (.int r), .val (.int (0 : Int32)), .val (.int (0 : Int32)), .unset, .unset] [(.int (-1 : Int32)), (.int r)]) G := fun t k => K178 t (XS.iconst X70.here hx rfl (hb hby at_112) k)
        by_cases hc180 : r = (-1 : Int32)
        · skip
          have K181 : Go p e below T70 (mkF m 116 #[.val (.long q0), .second, .val (.int q1), .val (.int q2), .val (.int sz), .val (.long (sz.toInt64)), .second, .val (.long pos), .second, .val (.int r), .val (.int (0 : Int32)), .val (.int (0 : Int32)), .unset, .unset] []) G := fun t k => K179 t (XS.icmpNo X70.here hx rfl (hb hby at_113) rfl ((teq hc180).2) k)
          have K182 : Go p e below T70 (mkF m 117 #[.val (.long q0), .second, .val (.int q1), .val (.int q2), .val (.int sz), .val (.long (sz.toInt64)), .second, .val (.long pos), .second, .val (.int r), .val (.int (0 : Int32)), .val (.int (0 : Int32)), .unset, .unset] [(.int (1 : Int32))]) G := fun t k => K181 t (XS.iconst X70.here hx rfl (hb hby at_116) k)
          have K183 : Go p e below T70 (mkF m 121 #[.val (.long q0), .second, .val (.int q1), .val (.int q2), .val (.int sz), .val (.long (sz.toInt64)), .second, .val (.long pos), .second, .val (.int r), .val (.int (0 : Int32)), .val (.int (0 : Int32)), .unset, .unset] [(.int (1 : Int32))]) G := fun t k => K182 t (XS.goto X70.here hx rfl (pc0 := 117) (pc' := 121) rfl (hb hby at_117) (by decide) (by decide) k)
          obtain ⟨fs, hr, hrun, hended, hWW, hsame⟩ := X70.leave (v := some (.int (1 : Int32))) (fun h => by rw [Bd.returns] at h; cases h)
          refine ⟨_, _, hG _ (K183 _ (retN X70 hx (t := .boolean) Bd.returns (by simp) (hb hby at_121) hr)), hrun, hended, _, _, rfl, ?_, ⟨_, rfl⟩, hWW, hsame.mono (by decide) (by decide)⟩
          show Q0 Z q0 q1 q2 h0 n0 _ T70.heap _
          rw [E70q]
          exact ⟨rfl, N70⟩
        · skip
          have K184 : Go p e below T70 (mkF m 120 #[.val (.long q0), .second, .val (.int q1), .val (.int q2), .val (.int sz), .val (.long (sz.toInt64)), .second, .val (.long pos), .second, .val (.int r), .val (.int (0 : Int32)), .val (.int (0 : Int32)), .unset, .unset] []) G := fun t k => K179 t (XS.icmpYes X70.here hx rfl (pc0 := 113) (pc' := 120) rfl (hb hby at_113) rfl ((feq hc180).2) (by decide) (by decide) k)
          have K185 : Go p e below T70 (mkF m 121 #[.val (.long q0), .second, .val (.int q1), .val (.int q2), .val (.int sz), .val (.long (sz.toInt64)), .second, .val (.long pos), .second, .val (.int r), .val (.int (0 : Int32)), .val (.int (0 : Int32)), .unset, .unset] [(.int (0 : Int32))]) G := fun t k => K184 t (XS.iconst X70.here hx rfl (hb hby at_120) k)
          exfalso
          simp only [Int64.lt_iff_toInt_lt, Int32.lt_iff_toInt_lt, ← Int64.toInt_inj, ← Int32.toInt_inj, own_J0, own_J1, own_J3, own_I0, own_Im1, own_I15, own_I2147483647] at hc77 hc162 hc170 hc180
          omega
      · skip
        have K186 : Go p e below T70 (mkF m 86 #[.val (.long q0), .second, .val (.int q1), .val (.int q2), .val (.int sz), .val (.long (sz.toInt64)), .second, .val (.long pos), .second, .val (.int r), .val (.int (0 : Int32)), .unset, .unset, .unset] []) G := fun t k => K169 t (XS.ifNo X70.here hx rfl (hb hby at_83) rfl ((if0 _ _).trans (flt (fun z => hc170 ((lw_lt _ _).mp z))).1) k)
        have K187 : Go p e below T70 (mkF m 88 #[.val (.long q0), .second, .val (.int q1), .val (.int q2), .val (.int sz), .val (.long (sz.toInt64)), .second, .val (.long pos), .second, .val (.int r), .val (.int (0 : Int32)), .unset, .unset, .unset] [(.long pos)]) G := fun t k => K186 t (XS.lload X70.here hx rfl (hb hby at_86) rfl k)
        have K188 : Go p e below T70 (mkF m 89 #[.val (.long q0), .second, .val (.int q1), .val (.int q2), .val (.int sz), .val (.long (sz.toInt64)), .second, .val (.long pos), .second, .val (.int r), .val (.int (0 : Int32)), .unset, .unset, .unset] [(.long (0 : Int64)), (.long pos)]) G := fun t k => K187 t (XS.lconst X70.here hx rfl (hb hby at_88) k)
        have K189 : Go p e below T70 (mkF m 90 #[.val (.long q0), .second, .val (.int q1), .val (.int q2), .val (.int sz), .val (.long (sz.toInt64)), .second, .val (.long pos), .second, .val (.int r), .val (.int (0 : Int32)), .unset, .unset, .unset] [(.int (lcmpW pos (0 : Int64)))]) G := fun t k => K188 t (XS.lcmp X70.here hx rfl (hb hby at_89) rfl k)
        by_cases hc190 : (0 : Int64) < pos
        · skip
          have K191 : Go p e below T70 (mkF m 97 #[.val (.long q0), .second, .val (.int q1), .val (.int q2), .val (.int sz), .val (.long (sz.toInt64)), .second, .val (.long pos), .second, .val (.int r), .val (.int (0 : Int32)), .unset, .unset, .unset] []) G := fun t k => K189 t (XS.ifYes X70.here hx rfl (pc0 := 90) (pc' := 97) rfl (hb hby at_90) rfl ((if0 _ _).trans (tlt ((lw_gt _ _).mpr hc190)).2.2.1) (by decide) (by decide) k)
          have K192 : Go p e below T70 (mkF m 98 #[.val (.long q0), .second, .val (.int q1), .val (.int q2), .val (.int sz), .val (.long (sz.toInt64)), .second, .val (.long pos), .second, .val (.int r), .val (.int (0 : Int32)), .unset, .unset, .unset] [(.int (0 : Int32))]) G := fun t k => K191 t (XS.iconst X70.here hx rfl (hb hby at_97) k)
          have K193 : Go p e below T70 (mkF m 100 #[.val (.long q0), .second, .val (.int q1), .val (.int q2), .val (.int sz), .val (.long (sz.toInt64)), .second, .val (.long pos), .second, .val (.int r), .val (.int (0 : Int32)), .val (.int (0 : Int32)), .unset, .unset] []) G := fun t k => K192 t (XS.istore X70.here hx rfl (hb hby at_98) rfl (l' := #[.val (.long q0), .second, .val (.int q1), .val (.int q2), .val (.int sz), .val (.long (sz.toInt64)), .second, .val (.long pos), .second, .val (.int r), .val (.int (0 : Int32)), .val (.int (0 : Int32)), .unset, .unset]) rfl k)
          have K194 : Go p e below T70 (mkF m 102 #[.val (.long q0), .second, .val (.int q1), .val (.int q2), .val (.int sz), .val (.long (sz.toInt64)), .second, .val (.long pos), .second, .val (.int r), .val (.int (0 : Int32)), .val (.int (0 : Int32)), .unset, .unset] [(.int (0 : Int32))]) G := fun t k => K193 t (XS.iload X70.here hx rfl (hb hby at_100) rfl k)
          have K195 : Go p e below T70 (mkF m 105 #[.val (.long q0), .second, .val (.int q1), .val (.int q2), .val (.int sz), .val (.long (sz.toInt64)), .second, .val (.long pos), .second, .val (.int r), .val (.int (0 : Int32)), .val (.int (0 : Int32)), .unset, .unset] []) G := fun t k => K194 t (XS.ifNo X70.here hx rfl (hb hby at_102) rfl ((if0 _ _).trans (teq (by decide : (0 : Int32) = (0 : Int32))).2) k)
          have K196 : Go p e below T70 (mkF m 107 #[.val (.long q0), .second, .val (.int q1), .val (.int q2), .val (.int sz), .val (.long (sz.toInt64)), .second, .val (.long pos), .second, .val (.int r), .val (.int (0 : Int32)), .val (.int (0 : Int32)), .unset, .unset] [(.int (0 : Int32))]) G := fun t k => K195 t (XS.iload X70.here hx rfl (hb hby at_105) rfl k)
          have K197 : Go p e below T70 (mkF m 110 #[.val (.long q0), .second, .val (.int q1), .val (.int q2), .val (.int sz), .val (.long (sz.toInt64)), .second, .val (.long pos), .second, .val (.int r), .val (.int (0 : Int32)), .val (.int (0 : Int32)), .unset, .unset] []) G := fun t k => K196 t (XS.ifNo X70.here hx rfl (hb hby at_107) rfl ((if0 _ _).trans (teq (by decide : (0 : Int32) = (0 : Int32))).2) k)
          have K198 : Go p e below T70 (mkF m 112 #[.val (.long q0), .second, .val (.int q1), .val (.int q2), .val (.int sz), .val (.long (sz.toInt64)), .second, .val (.long pos), .second, .val (.int r), .val (.int (0 : Int32)), .val (.int (0 : Int32)), .unset, .unset] [(.int r)]) G := fun t k => K197 t (XS.iload X70.here hx rfl (hb hby at_110) rfl k)
          have K199 : Go p e below T70 (mkF m 113 #[.val (.long q0), .second, .val (.int q1), .val (.int q2), .val (.int sz), .val (.long (sz.toInt64)), .second, .val (.long pos), .second, .val (.int r), .val (.int (0 : Int32)), .val (.int (0 : Int32)), .unset, .unset] [(.int (-1 : Int32)), (.int r)]) G := fun t k => K198 t (XS.iconst X70.here hx rfl (hb hby at_112) k)
          by_cases hc200 : r = (-1 : Int32)
          · skip
            have K201 : Go p e below T70 (mkF m 116 #[.val (.long q0), .second, .val (.int q1), .val (.int q2), .val (.int sz), .val (.long (sz.toInt64)), .second, .val (.long pos), .second, .val (.int r), .val (.int (0 : Int32)), .val (.int (0 : Int32)), .unset, .unset] []) G := fun t k => K199 t (XS.icmpNo X70.here hx rfl (hb hby at_113) rfl ((teq hc200).2) k)
            have K202 : Go p e below T70 (mkF m 117 #[.val (.long q0), .second, .val (.int q1), .val (.int q2), .val (.int sz), .val (.long (sz.toInt64)), .second, .val (.long pos), .second, .val (.int r), .val (.int (0 : Int32)), .val (.int (0 : Int32)), .unset, .unset] [(.int (1 : Int32))]) G := fun t k => K201 t (XS.iconst X70.here hx rfl (hb hby at_116) k)
            have K203 : Go p e below T70 (mkF m 121 #[.val (.long q0), .second, .val (.int q1), .val (.int q2), .val (.int sz), .val (.long (sz.toInt64)), .second, .val (.long pos), .second, .val (.int r), .val (.int (0 : Int32)), .val (.int (0 : Int32)), .unset, .unset] [(.int (1 : Int32))]) G := fun t k => K202 t (XS.goto X70.here hx rfl (pc0 := 117) (pc' := 121) rfl (hb hby at_117) (by decide) (by decide) k)
            obtain ⟨fs, hr, hrun, hended, hWW, hsame⟩ := X70.leave (v := some (.int (1 : Int32))) (fun h => by rw [Bd.returns] at h; cases h)
            refine ⟨_, _, hG _ (K203 _ (retN X70 hx (t := .boolean) Bd.returns (by simp) (hb hby at_121) hr)), hrun, hended, _, _, rfl, ?_, ⟨_, rfl⟩, hWW, hsame.mono (by decide) (by decide)⟩
            show Q0 Z q0 q1 q2 h0 n0 _ T70.heap _
            rw [E70q]
            exact ⟨rfl, N70⟩
          · skip
            have K204 : Go p e below T70 (mkF m 120 #[.val (.long q0), .second, .val (.int q1), .val (.int q2), .val (.int sz), .val (.long (sz.toInt64)), .second, .val (.long pos), .second, .val (.int r), .val (.int (0 : Int32)), .val (.int (0 : Int32)), .unset, .unset] []) G := fun t k => K199 t (XS.icmpYes X70.here hx rfl (pc0 := 113) (pc' := 120) rfl (hb hby at_113) rfl ((feq hc200).2) (by decide) (by decide) k)
            have K205 : Go p e below T70 (mkF m 121 #[.val (.long q0), .second, .val (.int q1), .val (.int q2), .val (.int sz), .val (.long (sz.toInt64)), .second, .val (.long pos), .second, .val (.int r), .val (.int (0 : Int32)), .val (.int (0 : Int32)), .unset, .unset] [(.int (0 : Int32))]) G := fun t k => K204 t (XS.iconst X70.here hx rfl (hb hby at_120) k)
            exfalso
            simp only [Int64.lt_iff_toInt_lt, Int32.lt_iff_toInt_lt, ← Int64.toInt_inj, ← Int32.toInt_inj, own_J0, own_J1, own_J3, own_I0, own_Im1, own_I15, own_I2147483647] at hc77 hc162 hc170 hc190 hc200
            omega
        · skip
          have K206 : Go p e below T70 (mkF m 93 #[.val (.long q0), .second, .val (.int q1), .val (.int q2), .val (.int sz), .val (.long (sz.toInt64)), .second, .val (.long pos), .second, .val (.int r), .val (.int (0 : Int32)), .unset, .unset, .unset] []) G := fun t k => K189 t (XS.ifNo X70.here hx rfl (hb hby at_90) rfl ((if0 _ _).trans (flt (fun z => hc190 ((lw_gt _ _).mp z))).2.2.1) k)
          have K207 : Go p e below T70 (mkF m 94 #[.val (.long q0), .second, .val (.int q1), .val (.int q2), .val (.int sz), .val (.long (sz.toInt64)), .second, .val (.long pos), .second, .val (.int r), .val (.int (0 : Int32)), .unset, .unset, .unset] [(.int (1 : Int32))]) G := fun t k => K206 t (XS.iconst X70.here hx rfl (hb hby at_93) k)
          have K208 : Go p e below T70 (mkF m 98 #[.val (.long q0), .second, .val (.int q1), .val (.int q2), .val (.int sz), .val (.long (sz.toInt64)), .second, .val (.long pos), .second, .val (.int r), .val (.int (0 : Int32)), .unset, .unset, .unset] [(.int (1 : Int32))]) G := fun t k => K207 t (XS.goto X70.here hx rfl (pc0 := 94) (pc' := 98) rfl (hb hby at_94) (by decide) (by decide) k)
          have K209 : Go p e below T70 (mkF m 100 #[.val (.long q0), .second, .val (.int q1), .val (.int q2), .val (.int sz), .val (.long (sz.toInt64)), .second, .val (.long pos), .second, .val (.int r), .val (.int (0 : Int32)), .val (.int (1 : Int32)), .unset, .unset] []) G := fun t k => K208 t (XS.istore X70.here hx rfl (hb hby at_98) rfl (l' := #[.val (.long q0), .second, .val (.int q1), .val (.int q2), .val (.int sz), .val (.long (sz.toInt64)), .second, .val (.long pos), .second, .val (.int r), .val (.int (0 : Int32)), .val (.int (1 : Int32)), .unset, .unset]) rfl k)
          have K210 : Go p e below T70 (mkF m 102 #[.val (.long q0), .second, .val (.int q1), .val (.int q2), .val (.int sz), .val (.long (sz.toInt64)), .second, .val (.long pos), .second, .val (.int r), .val (.int (0 : Int32)), .val (.int (1 : Int32)), .unset, .unset] [(.int (0 : Int32))]) G := fun t k => K209 t (XS.iload X70.here hx rfl (hb hby at_100) rfl k)
          have K211 : Go p e below T70 (mkF m 105 #[.val (.long q0), .second, .val (.int q1), .val (.int q2), .val (.int sz), .val (.long (sz.toInt64)), .second, .val (.long pos), .second, .val (.int r), .val (.int (0 : Int32)), .val (.int (1 : Int32)), .unset, .unset] []) G := fun t k => K210 t (XS.ifNo X70.here hx rfl (hb hby at_102) rfl ((if0 _ _).trans (teq (by decide : (0 : Int32) = (0 : Int32))).2) k)
          have K212 : Go p e below T70 (mkF m 107 #[.val (.long q0), .second, .val (.int q1), .val (.int q2), .val (.int sz), .val (.long (sz.toInt64)), .second, .val (.long pos), .second, .val (.int r), .val (.int (0 : Int32)), .val (.int (1 : Int32)), .unset, .unset] [(.int (1 : Int32))]) G := fun t k => K211 t (XS.iload X70.here hx rfl (hb hby at_105) rfl k)
          have K213 : Go p e below T70 (mkF m 122 #[.val (.long q0), .second, .val (.int q1), .val (.int q2), .val (.int sz), .val (.long (sz.toInt64)), .second, .val (.long pos), .second, .val (.int r), .val (.int (0 : Int32)), .val (.int (1 : Int32)), .unset, .unset] []) G := fun t k => K212 t (XS.ifYes X70.here hx rfl (pc0 := 107) (pc' := 122) rfl (hb hby at_107) rfl ((if0 _ _).trans (feq (by decide : ¬ ((1 : Int32) = (0 : Int32)))).2) (by decide) (by decide) k)
          have K214 : Go p e below T70 (mkF m 124 #[.val (.long q0), .second, .val (.int q1), .val (.int q2), .val (.int sz), .val (.long (sz.toInt64)), .second, .val (.long pos), .second, .val (.int r), .val (.int (0 : Int32)), .val (.int (1 : Int32)), .unset, .unset] [(.int r)]) G := fun t k => K213 t (XS.iload X70.here hx rfl (hb hby at_122) rfl k)
          by_cases hc215 : r < (0 : Int32)
          · skip
            have K216 : Go p e below T70 (mkF m 134 #[.val (.long q0), .second, .val (.int q1), .val (.int q2), .val (.int sz), .val (.long (sz.toInt64)), .second, .val (.long pos), .second, .val (.int r), .val (.int (0 : Int32)), .val (.int (1 : Int32)), .unset, .unset] []) G := fun t k => K214 t (XS.ifYes X70.here hx rfl (pc0 := 124) (pc' := 134) rfl (hb hby at_124) rfl ((if0 _ _).trans (tlt hc215).1) (by decide) (by decide) k)
            have K217 : Go p e below T70 (mkF m 135 #[.val (.long q0), .second, .val (.int q1), .val (.int q2), .val (.int sz), .val (.long (sz.toInt64)), .second, .val (.long pos), .second, .val (.int r), .val (.int (0 : Int32)), .val (.int (1 : Int32)), .unset, .unset] [(.int (0 : Int32))]) G := fun t k => K216 t (XS.iconst X70.here hx rfl (hb hby at_134) k)
            exfalso
            simp only [Int64.lt_iff_toInt_lt, Int32.lt_iff_toInt_lt, ← Int64.toInt_inj, ← Int32.toInt_inj, own_J0, own_J1, own_J3, own_I0, own_Im1, own_I15, own_I2147483647] at hc77 hc162 hc170 hc190 hc215
            omega
          · skip
            have K218 : Go p e below T70 (mkF m 127 #[.val (.long q0), .second, .val (.int q1), .val (.int q2), .val (.int sz), .val (.long (sz.toInt64)), .second, .val (.long pos), .second, .val (.int r), .val (.int (0 : Int32)), .val (.int (1 : Int32)), .unset, .unset] []) G := fun t k => K214 t (XS.ifNo X70.here hx rfl (hb hby at_124) rfl ((if0 _ _).trans (flt hc215).1) k)
            have K219 : Go p e below T70 (mkF m 129 #[.val (.long q0), .second, .val (.int q1), .val (.int q2), .val (.int sz), .val (.long (sz.toInt64)), .second, .val (.long pos), .second, .val (.int r), .val (.int (0 : Int32)), .val (.int (1 : Int32)), .unset, .unset] [(.int r)]) G := fun t k => K218 t (XS.iload X70.here hx rfl (hb hby at_127) rfl k)
            have K220 : Go p e below T70 (mkF m 131 #[.val (.long q0), .second, .val (.int q1), .val (.int q2), .val (.int sz), .val (.long (sz.toInt64)), .second, .val (.long pos), .second, .val (.int r), .val (.int (0 : Int32)), .val (.int (1 : Int32)), .unset, .unset] [(.int sz), (.int r)]) G := fun t k => K219 t (XS.iload X70.here hx rfl (hb hby at_129) rfl k)
            by_cases hc221 : sz < r
            · skip
              have K222 : Go p e below T70 (mkF m 134 #[.val (.long q0), .second, .val (.int q1), .val (.int q2), .val (.int sz), .val (.long (sz.toInt64)), .second, .val (.long pos), .second, .val (.int r), .val (.int (0 : Int32)), .val (.int (1 : Int32)), .unset, .unset] []) G := fun t k => K220 t (XS.icmpNo X70.here hx rfl (hb hby at_131) rfl ((tlt hc221).2.2.2) k)
              have K223 : Go p e below T70 (mkF m 135 #[.val (.long q0), .second, .val (.int q1), .val (.int q2), .val (.int sz), .val (.long (sz.toInt64)), .second, .val (.long pos), .second, .val (.int r), .val (.int (0 : Int32)), .val (.int (1 : Int32)), .unset, .unset] [(.int (0 : Int32))]) G := fun t k => K222 t (XS.iconst X70.here hx rfl (hb hby at_134) k)
              exfalso
              simp only [Int64.lt_iff_toInt_lt, Int32.lt_iff_toInt_lt, ← Int64.toInt_inj, ← Int32.toInt_inj, own_J0, own_J1, own_J3, own_I0, own_Im1, own_I15, own_I2147483647] at hc77 hc162 hc170 hc190 hc215 hc221
              omega
            · skip
              have K224 : Go p e below T70 (mkF m 136 #[.val (.long q0), .second, .val (.int q1), .val (.int q2), .val (.int sz), .val (.long (sz.toInt64)), .second, .val (.long pos), .second, .val (.int r), .val (.int (0 : Int32)), .val (.int (1 : Int32)), .unset, .unset] []) G := fun t k => K220 t (XS.icmpYes X70.here hx rfl (pc0 := 131) (pc' := 136) rfl (hb hby at_131) rfl ((flt hc221).2.2.2) (by decide) (by decide) k)
              have K225 : Go p e below T70 (mkF m 138 #[.val (.long q0), .second, .val (.int q1), .val (.int q2), .val (.int sz), .val (.long (sz.toInt64)), .second, .val (.long pos), .second, .val (.int r), .val (.int (0 : Int32)), .val (.int (1 : Int32)), .unset, .unset] [(.int r)]) G := fun t k => K224 t (XS.iload X70.here hx rfl (hb hby at_136) rfl k)
              have K226 : Go p e below T70 (mkF m 139 #[.val (.long q0), .second, .val (.int q1), .val (.int q2), .val (.int sz), .val (.long (sz.toInt64)), .second, .val (.long pos), .second, .val (.int r), .val (.int (0 : Int32)), .val (.int (1 : Int32)), .unset, .unset] [(.long (r.toInt64))]) G := fun t k => K225 t (XS.i2l X70.here hx rfl (hb hby at_138) rfl k)
              have K227 : Go p e below T70 (mkF m 141 #[.val (.long q0), .second, .val (.int q1), .val (.int q2), .val (.int sz), .val (.long (sz.toInt64)), .second, .val (.long pos), .second, .val (.int r), .val (.int (0 : Int32)), .val (.int (1 : Int32)), .val (.long (r.toInt64)), .second] []) G := fun t k => K226 t (XS.lstore X70.here hx rfl (hb hby at_139) rfl (l' := #[.val (.long q0), .second, .val (.int q1), .val (.int q2), .val (.int sz), .val (.long (sz.toInt64)), .second, .val (.long pos), .second, .val (.int r), .val (.int (0 : Int32)), .val (.int (1 : Int32)), .val (.long (r.toInt64)), .second]) rfl k)
              have K228 : Go p e below T70 (mkF m 143 #[.val (.long q0), .second, .val (.int q1), .val (.int q2), .val (.int sz), .val (.long (sz.toInt64)), .second, .val (.long pos), .second, .val (.int r), .val (.int (0 : Int32)), .val (.int (1 : Int32)), .val (.long (r.toInt64)), .second] [(.int (0 : Int32))]) G := fun t k => K227 t (XS.iload X70.here hx rfl (hb hby at_141) rfl k)
              have K229 : Go p e below T70 (mkF m 162 #[.val (.long q0), .second, .val (.int q1), .val (.int q2), .val (.int sz), .val (.long (sz.toInt64)), .second, .val (.long pos), .second, .val (.int r), .val (.int (0 : Int32)), .val (.int (1 : Int32)), .val (.long (r.toInt64)), .second] []) G := fun t k => K228 t (XS.ifYes X70.here hx rfl (pc0 := 143) (pc' := 162) rfl (hb hby at_143) rfl ((if0 _ _).trans (teq (by decide : (0 : Int32) = (0 : Int32))).1) (by decide) (by decide) k)
              have K230 : Go p e below T70 (mkF m 164 #[.val (.long q0), .second, .val (.int q1), .val (.int q2), .val (.int sz), .val (.long (sz.toInt64)), .second, .val (.long pos), .second, .val (.int r), .val (.int (0 : Int32)), .val (.int (1 : Int32)), .val (.long (r.toInt64)), .second] [(.long pos)]) G := fun t k => K229 t (XS.lload X70.here hx rfl (hb hby at_162) rfl k)
              have K231 : Go p e below T70 (mkF m 166 #[.val (.long q0), .second, .val (.int q1), .val (.int q2), .val (.int sz), .val (.long (sz.toInt64)), .second, .val (.long pos), .second, .val (.int r), .val (.int (0 : Int32)), .val (.int (1 : Int32)), .val (.long (r.toInt64)), .second] [(.long (r.toInt64)), (.long pos)]) G := fun t k => K230 t (XS.lload X70.here hx rfl (hb hby at_164) rfl k)
              have K232 : Go p e below T70 (mkF m 168 #[.val (.long q0), .second, .val (.int q1), .val (.int q2), .val (.int sz), .val (.long (sz.toInt64)), .second, .val (.long pos), .second, .val (.int r), .val (.int (0 : Int32)), .val (.int (1 : Int32)), .val (.long (r.toInt64)), .second] [(.long (sz.toInt64)), (.long (r.toInt64)), (.long pos)]) G := fun t k => K231 t (XS.lload X70.here hx rfl (hb hby at_166) rfl k)
              have K233 : Go p e below T70 (mkF m 169 #[.val (.long q0), .second, .val (.int q1), .val (.int q2), .val (.int sz), .val (.long (sz.toInt64)), .second, .val (.long pos), .second, .val (.int r), .val (.int (0 : Int32)), .val (.int (1 : Int32)), .val (.long (r.toInt64)), .second] [(.long ((r.toInt64) - (sz.toInt64))), (.long pos)]) G := fun t k => K232 t (XS.lsub X70.here hx rfl (hb hby at_168) rfl k)
              have K234 : Go p e below T70 (mkF m 170 #[.val (.long q0), .second, .val (.int q1), .val (.int q2), .val (.int sz), .val (.long (sz.toInt64)), .second, .val (.long pos), .second, .val (.int r), .val (.int (0 : Int32)), .val (.int (1 : Int32)), .val (.long (r.toInt64)), .second] [(.int (lcmpW pos ((r.toInt64) - (sz.toInt64))))]) G := fun t k => K233 t (XS.lcmp X70.here hx rfl (hb hby at_169) rfl k)
              by_cases hc235 : pos = ((r.toInt64) - (sz.toInt64))
              · skip
                have K236 : Go p e below T70 (mkF m 173 #[.val (.long q0), .second, .val (.int q1), .val (.int q2), .val (.int sz), .val (.long (sz.toInt64)), .second, .val (.long pos), .second, .val (.int r), .val (.int (0 : Int32)), .val (.int (1 : Int32)), .val (.long (r.toInt64)), .second] []) G := fun t k => K234 t (XS.ifNo X70.here hx rfl (hb hby at_170) rfl ((if0 _ _).trans (teq ((lw_eq _ _).mpr hc235)).2) k)
                have K237 : Go p e below T70 (mkF m 174 #[.val (.long q0), .second, .val (.int q1), .val (.int q2), .val (.int sz), .val (.long (sz.toInt64)), .second, .val (.long pos), .second, .val (.int r), .val (.int (0 : Int32)), .val (.int (1 : Int32)), .val (.long (r.toInt64)), .second] [(.int (1 : Int32))]) G := fun t k => K236 t (XS.iconst X70.here hx rfl (hb hby at_173) k)
                have K238 : Go p e below T70 (mkF m 178 #[.val (.long q0), .second, .val (.int q1), .val (.int q2), .val (.int sz), .val (.long (sz.toInt64)), .second, .val (.long pos), .second, .val (.int r), .val (.int (0 : Int32)), .val (.int (1 : Int32)), .val (.long (r.toInt64)), .second] [(.int (1 : Int32))]) G := fun t k => K237 t (XS.goto X70.here hx rfl (pc0 := 174) (pc' := 178) rfl (hb hby at_174) (by decide) (by decide) k)
                obtain ⟨fs, hr, hrun, hended, hWW, hsame⟩ := X70.leave (v := some (.int (1 : Int32))) (fun h => by rw [Bd.returns] at h; cases h)
                refine ⟨_, _, hG _ (K238 _ (retN X70 hx (t := .boolean) Bd.returns (by simp) (hb hby at_178) hr)), hrun, hended, _, _, rfl, ?_, ⟨_, rfl⟩, hWW, hsame.mono (by decide) (by decide)⟩
                show Q0 Z q0 q1 q2 h0 n0 _ T70.heap _
                rw [E70q]
                exact ⟨rfl, N70⟩
              · skip
                have K239 : Go p e below T70 (mkF m 177 #[.val (.long q0), .second, .val (.int q1), .val (.int q2), .val (.int sz), .val (.long (sz.toInt64)), .second, .val (.long pos), .second, .val (.int r), .val (.int (0 : Int32)), .val (.int (1 : Int32)), .val (.long (r.toInt64)), .second] []) G := fun t k => K234 t (XS.ifYes X70.here hx rfl (pc0 := 170) (pc' := 177) rfl (hb hby at_170) rfl ((if0 _ _).trans (feq (fun z => hc235 ((lw_eq _ _).mp z))).2) (by decide) (by decide) k)
                have K240 : Go p e below T70 (mkF m 178 #[.val (.long q0), .second, .val (.int q1), .val (.int q2), .val (.int sz), .val (.long (sz.toInt64)), .second, .val (.long pos), .second, .val (.int r), .val (.int (0 : Int32)), .val (.int (1 : Int32)), .val (.long (r.toInt64)), .second] [(.int (0 : Int32))]) G := fun t k => K239 t (XS.iconst X70.here hx rfl (hb hby at_177) k)
                exfalso
                simp only [Int64.lt_iff_toInt_lt, Int32.lt_iff_toInt_lt, ← Int64.toInt_inj, ← Int32.toInt_inj, own_J0, own_J1, own_J3, own_I0, own_Im1, own_I15, own_I2147483647] at hc77 hc162 hc170 hc190 hc215 hc221 hc235
                omega
    · skip
      have K241 : Go p e below T70 (mkF m 70 #[.val (.long q0), .second, .val (.int q1), .val (.int q2), .val (.int sz), .val (.long (sz.toInt64)), .second, .val (.long pos), .second, .val (.int r), .unset, .unset, .unset, .unset] []) G := fun t k => K161 t (XS.ifNo X70.here hx rfl (hb hby at_67) rfl ((if0 _ _).trans (flt (fun z => hc162 ((lw_gt _ _).mp z))).2.2.1) k)
      have K242 : Go p e below T70 (mkF m 71 #[.val (.long q0), .second, .val (.int q1), .val (.int q2), .val (.int sz), .val (.long (sz.toInt64)), .second, .val (.long pos), .second, .val (.int r), .unset, .unset, .unset, .unset] [(.int (1 : Int32))]) G := fun t k => K241 t (XS.iconst X70.here hx rfl (hb hby at_70) k)
      have K243 : Go p e below T70 (mkF m 75 #[.val (.long q0), .second, .val (.int q1), .val (.int q2), .val (.int sz), .val (.long (sz.toInt64)), .second, .val (.long pos), .second, .val (.int r), .unset, .unset, .unset, .unset] [(.int (1 : Int32))]) G := fun t k => K242 t (XS.goto X70.here hx rfl (pc0 := 71) (pc' := 75) rfl (hb hby at_71) (by decide) (by decide) k)
      have K244 : Go p e below T70 (mkF m 77 #[.val (.long q0), .second, .val (.int q1), .val (.int q2), .val (.int sz), .val (.long (sz.toInt64)), .second, .val (.long pos), .second, .val (.int r), .val (.int (1 : Int32)), .unset, .unset, .unset] []) G := fun t k => K243 t (XS.istore X70.here hx rfl (hb hby at_75) rfl (l' := #[.val (.long q0), .second, .val (.int q1), .val (.int q2), .val (.int sz), .val (.long (sz.toInt64)), .second, .val (.long pos), .second, .val (.int r), .val (.int (1 : Int32)), .unset, .unset, .unset]) rfl k)
      have K245 : Go p e below T70 (mkF m 79 #[.val (.long q0), .second, .val (.int q1), .val (.int q2), .val (.int sz), .val (.long (sz.toInt64)), .second, .val (.long pos), .second, .val (.int r), .val (.int (1 : Int32)), .unset, .unset, .unset] [(.long pos)]) G := fun t k => K244 t (XS.lload X70.here hx rfl (hb hby at_77) rfl k)
      have K246 : Go p e below T70 (mkF m 81 #[.val (.long q0), .second, .val (.int q1), .val (.int q2), .val (.int sz), .val (.long (sz.toInt64)), .second, .val (.long pos), .second, .val (.int r), .val (.int (1 : Int32)), .unset, .unset, .unset] [(.long (sz.toInt64)), (.long pos)]) G := fun t k => K245 t (XS.lload X70.here hx rfl (hb hby at_79) rfl k)
      have K247 : Go p e below T70 (mkF m 82 #[.val (.long q0), .second, .val (.int q1), .val (.int q2), .val (.int sz), .val (.long (sz.toInt64)), .second, .val (.long pos), .second, .val (.int r), .val (.int (1 : Int32)), .unset, .unset, .unset] [(.long (-(sz.toInt64))), (.long pos)]) G := fun t k => K246 t (XS.lneg X70.here hx rfl (hb hby at_81) rfl k)
      have K248 : Go p e below T70 (mkF m 83 #[.val (.long q0), .second, .val (.int q1), .val (.int q2), .val (.int sz), .val (.long (sz.toInt64)), .second, .val (.long pos), .second, .val (.int r), .val (.int (1 : Int32)), .unset, .unset, .unset] [(.int (lcmpW pos (-(sz.toInt64))))]) G := fun t k => K247 t (XS.lcmp X70.here hx rfl (hb hby at_82) rfl k)
      by_cases hc249 : pos < (-(sz.toInt64))
      · skip
        have K250 : Go p e below T70 (mkF m 97 #[.val (.long q0), .second, .val (.int q1), .val (.int q2), .val (.int sz), .val (.long (sz.toInt64)), .second, .val (.long pos), .second, .val (.int r), .val (.int (1 : Int32)), .unset, .unset, .unset] []) G := fun t k => K248 t (XS.ifYes X70.here hx rfl (pc0 := 83) (pc' := 97) rfl (hb hby at_83) rfl ((if0 _ _).trans (tlt ((lw_lt _ _).mpr hc249)).1) (by decide) (by decide) k)
        have K251 : Go p e below T70 (mkF m 98 #[.val (.long q0), .second, .val (.int q1), .val (.int q2), .val (.int sz), .val (.long (sz.toInt64)), .second, .val (.long pos), .second, .val (.int r), .val (.int (1 : Int32)), .unset, .unset, .unset] [(.int (0 : Int32))]) G := fun t k => K250 t (XS.iconst X70.here hx rfl (hb hby at_97) k)
        have K252 : Go p e below T70 (mkF m 100 #[.val (.long q0), .second, .val (.int q1), .val (.int q2), .val (.int sz), .val (.long (sz.toInt64)), .second, .val (.long pos), .second, .val (.int r), .val (.int (1 : Int32)), .val (.int (0 : Int32)), .unset, .unset] []) G := fun t k => K251 t (XS.istore X70.here hx rfl (hb hby at_98) rfl (l' := #[.val (.long q0), .second, .val (.int q1), .val (.int q2), .val (.int sz), .val (.long (sz.toInt64)), .second, .val (.long pos), .second, .val (.int r), .val (.int (1 : Int32)), .val (.int (0 : Int32)), .unset, .unset]) rfl k)
        have K253 : Go p e below T70 (mkF m 102 #[.val (.long q0), .second, .val (.int q1), .val (.int q2), .val (.int sz), .val (.long (sz.toInt64)), .second, .val (.long pos), .second, .val (.int r), .val (.int (1 : Int32)), .val (.int (0 : Int32)), .unset, .unset] [(.int (1 : Int32))]) G := fun t k => K252 t (XS.iload X70.here hx rfl (hb hby at_100) rfl k)
        have K254 : Go p e below T70 (mkF m 122 #[.val (.long q0), .second, .val (.int q1), .val (.int q2), .val (.int sz), .val (.long (sz.toInt64)), .second, .val (.long pos), .second, .val (.int r), .val (.int (1 : Int32)), .val (.int (0 : Int32)), .unset, .unset] []) G := fun t k => K253 t (XS.ifYes X70.here hx rfl (pc0 := 102) (pc' := 122) rfl (hb hby at_102) rfl ((if0 _ _).trans (feq (by decide : ¬ ((1 : Int32) = (0 : Int32)))).2) (by decide) (by decide) k)
        have K255 : Go p e below T70 (mkF m 124 #[.val (.long q0), .second, .val (.int q1), .val (.int q2), .val (.int sz), .val (.long (sz.toInt64)), .second, .val (.long pos), .second, .val (.int r), .val (.int (1 : Int32)), .val (.int (0 : Int32)), .unset, .unset] [(.int r)]) G := fun t k => K254 t (XS.iload X70.here hx rfl (hb hby at_122) rfl k)
        by_cases hc256 : r < (0 : Int32)
        · skip
          have K257 : Go p e below T70 (mkF m 134 #[.val (.long q0), .second, .val (.int q1), .val (.int q2), .val (.int sz), .val (.long (sz.toInt64)), .second, .val (.long pos), .second, .val (.int r), .val (.int (1 : Int32)), .val (.int (0 : Int32)), .unset, .unset] []) G := fun t k => K255 t (XS.ifYes X70.here hx rfl (pc0 := 124) (pc' := 134) rfl (hb hby at_124) rfl ((if0 _ _).trans (tlt hc256).1) (by decide) (by decide) k)
          have K258 : Go p e below T70 (mkF m 135 #[.val (.long q0), .second, .val (.int q1), .val (.int q2), .val (.int sz), .val (.long (sz.toInt64)), .second, .val (.long pos), .second, .val (.int r), .val (.int (1 : Int32)), .val (.int (0 : Int32)), .unset, .unset] [(.int (0 : Int32))]) G := fun t k => K257 t (XS.iconst X70.here hx rfl (hb hby at_134) k)
          exfalso
          simp only [Int64.lt_iff_toInt_lt, Int32.lt_iff_toInt_lt, ← Int64.toInt_inj, ← Int32.toInt_inj, own_J0, own_J1, own_J3, own_I0, own_Im1, own_I15, own_I2147483647] at hc77 hc162 hc249 hc256
          omega
        · skip
          have K259 : Go p e below T70 (mkF m 127 #[.val (.long q0), .second, .val (.int q1), .val (.int q2), .val (.int sz), .val (.long (sz.toInt64)), .second, .val (.long pos), .second, .val (.int r), .val (.int (1 : Int32)), .val (.int (0 : Int32)), .unset, .unset] []) G := fun t k => K255 t (XS.ifNo X70.here hx rfl (hb hby at_124) rfl ((if0 _ _).trans (flt hc256).1) k)
          have K260 : Go p e below T70 (mkF m 129 #[.val (.long q0), .second, .val (.int q1), .val (.int q2), .val (.int sz), .val (.long (sz.toInt64)), .second, .val (.long pos), .second, .val (.int r), .val (.int (1 : Int32)), .val (.int (0 : Int32)), .unset, .unset] [(.int r)]) G := fun t k => K259 t (XS.iload X70.here hx rfl (hb hby at_127) rfl k)
          have K261 : Go p e below T70 (mkF m 131 #[.val (.long q0), .second, .val (.int q1), .val (.int q2), .val (.int sz), .val (.long (sz.toInt64)), .second, .val (.long pos), .second, .val (.int r), .val (.int (1 : Int32)), .val (.int (0 : Int32)), .unset, .unset] [(.int sz), (.int r)]) G := fun t k => K260 t (XS.iload X70.here hx rfl (hb hby at_129) rfl k)
          by_cases hc262 : sz < r
          · skip
            have K263 : Go p e below T70 (mkF m 134 #[.val (.long q0), .second, .val (.int q1), .val (.int q2), .val (.int sz), .val (.long (sz.toInt64)), .second, .val (.long pos), .second, .val (.int r), .val (.int (1 : Int32)), .val (.int (0 : Int32)), .unset, .unset] []) G := fun t k => K261 t (XS.icmpNo X70.here hx rfl (hb hby at_131) rfl ((tlt hc262).2.2.2) k)
            have K264 : Go p e below T70 (mkF m 135 #[.val (.long q0), .second, .val (.int q1), .val (.int q2), .val (.int sz), .val (.long (sz.toInt64)), .second, .val (.long pos), .second, .val (.int r), .val (.int (1 : Int32)), .val (.int (0 : Int32)), .unset, .unset] [(.int (0 : Int32))]) G := fun t k => K263 t (XS.iconst X70.here hx rfl (hb hby at_134) k)
            exfalso
            simp only [Int64.lt_iff_toInt_lt, Int32.lt_iff_toInt_lt, ← Int64.toInt_inj, ← Int32.toInt_inj, own_J0, own_J1, own_J3, own_I0, own_Im1, own_I15, own_I2147483647] at hc77 hc162 hc249 hc256 hc262
            omega
          · skip
            have K265 : Go p e below T70 (mkF m 136 #[.val (.long q0), .second, .val (.int q1), .val (.int q2), .val (.int sz), .val (.long (sz.toInt64)), .second, .val (.long pos), .second, .val (.int r), .val (.int (1 : Int32)), .val (.int (0 : Int32)), .unset, .unset] []) G := fun t k => K261 t (XS.icmpYes X70.here hx rfl (pc0 := 131) (pc' := 136) rfl (hb hby at_131) rfl ((flt hc262).2.2.2) (by decide) (by decide) k)
            have K266 : Go p e below T70 (mkF m 138 #[.val (.long q0), .second, .val (.int q1), .val (.int q2), .val (.int sz), .val (.long (sz.toInt64)), .second, .val (.long pos), .second, .val (.int r), .val (.int (1 : Int32)), .val (.int (0 : Int32)), .unset, .unset] [(.int r)]) G := fun t k => K265 t (XS.iload X70.here hx rfl (hb hby at_136) rfl k)
            have K267 : Go p e below T70 (mkF m 139 #[.val (.long q0), .second, .val (.int q1), .val (.int q2), .val (.int sz), .val (.long (sz.toInt64)), .second, .val (.long pos), .second, .val (.int r), .val (.int (1 : Int32)), .val (.int (0 : Int32)), .unset, .unset] [(.long (r.toInt64))]) G := fun t k => K266 t (XS.i2l X70.here hx rfl (hb hby at_138) rfl k)
            have K268 : Go p e below T70 (mkF m 141 #[.val (.long q0), .second, .val (.int q1), .val (.int q2), .val (.int sz), .val (.long (sz.toInt64)), .second, .val (.long pos), .second, .val (.int r), .val (.int (1 : Int32)), .val (.int (0 : Int32)), .val (.long (r.toInt64)), .second] []) G := fun t k => K267 t (XS.lstore X70.here hx rfl (hb hby at_139) rfl (l' := #[.val (.long q0), .second, .val (.int q1), .val (.int q2), .val (.int sz), .val (.long (sz.toInt64)), .second, .val (.long pos), .second, .val (.int r), .val (.int (1 : Int32)), .val (.int (0 : Int32)), .val (.long (r.toInt64)), .second]) rfl k)
            have K269 : Go p e below T70 (mkF m 143 #[.val (.long q0), .second, .val (.int q1), .val (.int q2), .val (.int sz), .val (.long (sz.toInt64)), .second, .val (.long pos), .second, .val (.int r), .val (.int (1 : Int32)), .val (.int (0 : Int32)), .val (.long (r.toInt64)), .second] [(.int (1 : Int32))]) G := fun t k => K268 t (XS.iload X70.here hx rfl (hb hby at_141) rfl k)
            have K270 : Go p e below T70 (mkF m 146 #[.val (.long q0), .second, .val (.int q1), .val (.int q2), .val (.int sz), .val (.long (sz.toInt64)), .second, .val (.long pos), .second, .val (.int r), .val (.int (1 : Int32)), .val (.int (0 : Int32)), .val (.long (r.toInt64)), .second] []) G := fun t k => K269 t (XS.ifNo X70.here hx rfl (hb hby at_143) rfl ((if0 _ _).trans (feq (by decide : ¬ ((1 : Int32) = (0 : Int32)))).1) k)
            have K271 : Go p e below T70 (mkF m 148 #[.val (.long q0), .second, .val (.int q1), .val (.int q2), .val (.int sz), .val (.long (sz.toInt64)), .second, .val (.long pos), .second, .val (.int r), .val (.int (1 : Int32)), .val (.int (0 : Int32)), .val (.long (r.toInt64)), .second] [(.long pos)]) G := fun t k => K270 t (XS.lload X70.here hx rfl (hb hby at_146) rfl k)
            have K272 : Go p e below T70 (mkF m 150 #[.val (.long q0), .second, .val (.int q1), .val (.int q2), .val (.int sz), .val (.long (sz.toInt64)), .second, .val (.long pos), .second, .val (.int r), .val (.int (1 : Int32)), .val (.int (0 : Int32)), .val (.long (r.toInt64)), .second] [(.long (r.toInt64)), (.long pos)]) G := fun t k => K271 t (XS.lload X70.here hx rfl (hb hby at_148) rfl k)
            have K273 : Go p e below T70 (mkF m 151 #[.val (.long q0), .second, .val (.int q1), .val (.int q2), .val (.int sz), .val (.long (sz.toInt64)), .second, .val (.long pos), .second, .val (.int r), .val (.int (1 : Int32)), .val (.int (0 : Int32)), .val (.long (r.toInt64)), .second] [(.long (1 : Int64)), (.long (r.toInt64)), (.long pos)]) G := fun t k => K272 t (XS.lconst X70.here hx rfl (hb hby at_150) k)
            have K274 : Go p e below T70 (mkF m 152 #[.val (.long q0), .second, .val (.int q1), .val (.int q2), .val (.int sz), .val (.long (sz.toInt64)), .second, .val (.long pos), .second, .val (.int r), .val (.int (1 : Int32)), .val (.int (0 : Int32)), .val (.long (r.toInt64)), .second] [(.long ((r.toInt64) + (1 : Int64))), (.long pos)]) G := fun t k => K273 t (XS.ladd X70.here hx rfl (hb hby at_151) rfl k)
            have K275 : Go p e below T70 (mkF m 153 #[.val (.long q0), .second, .val (.int q1), .val (.int q2), .val (.int sz), .val (.long (sz.toInt64)), .second, .val (.long pos), .second, .val (.int r), .val (.int (1 : Int32)), .val (.int (0 : Int32)), .val (.long (r.toInt64)), .second] [(.int (lcmpW pos ((r.toInt64) + (1 : Int64))))]) G := fun t k => K274 t (XS.lcmp X70.here hx rfl (hb hby at_152) rfl k)
            by_cases hc276 : pos = ((r.toInt64) + (1 : Int64))
            · skip
              have K277 : Go p e below T70 (mkF m 156 #[.val (.long q0), .second, .val (.int q1), .val (.int q2), .val (.int sz), .val (.long (sz.toInt64)), .second, .val (.long pos), .second, .val (.int r), .val (.int (1 : Int32)), .val (.int (0 : Int32)), .val (.long (r.toInt64)), .second] []) G := fun t k => K275 t (XS.ifNo X70.here hx rfl (hb hby at_153) rfl ((if0 _ _).trans (teq ((lw_eq _ _).mpr hc276)).2) k)
              have K278 : Go p e below T70 (mkF m 157 #[.val (.long q0), .second, .val (.int q1), .val (.int q2), .val (.int sz), .val (.long (sz.toInt64)), .second, .val (.long pos), .second, .val (.int r), .val (.int (1 : Int32)), .val (.int (0 : Int32)), .val (.long (r.toInt64)), .second] [(.int (1 : Int32))]) G := fun t k => K277 t (XS.iconst X70.here hx rfl (hb hby at_156) k)
              have K279 : Go p e below T70 (mkF m 161 #[.val (.long q0), .second, .val (.int q1), .val (.int q2), .val (.int sz), .val (.long (sz.toInt64)), .second, .val (.long pos), .second, .val (.int r), .val (.int (1 : Int32)), .val (.int (0 : Int32)), .val (.long (r.toInt64)), .second] [(.int (1 : Int32))]) G := fun t k => K278 t (XS.goto X70.here hx rfl (pc0 := 157) (pc' := 161) rfl (hb hby at_157) (by decide) (by decide) k)
              obtain ⟨fs, hr, hrun, hended, hWW, hsame⟩ := X70.leave (v := some (.int (1 : Int32))) (fun h => by rw [Bd.returns] at h; cases h)
              refine ⟨_, _, hG _ (K279 _ (retN X70 hx (t := .boolean) Bd.returns (by simp) (hb hby at_161) hr)), hrun, hended, _, _, rfl, ?_, ⟨_, rfl⟩, hWW, hsame.mono (by decide) (by decide)⟩
              show Q0 Z q0 q1 q2 h0 n0 _ T70.heap _
              rw [E70q]
              exact ⟨rfl, N70⟩
            · skip
              have K280 : Go p e below T70 (mkF m 160 #[.val (.long q0), .second, .val (.int q1), .val (.int q2), .val (.int sz), .val (.long (sz.toInt64)), .second, .val (.long pos), .second, .val (.int r), .val (.int (1 : Int32)), .val (.int (0 : Int32)), .val (.long (r.toInt64)), .second] []) G := fun t k => K275 t (XS.ifYes X70.here hx rfl (pc0 := 153) (pc' := 160) rfl (hb hby at_153) rfl ((if0 _ _).trans (feq (fun z => hc276 ((lw_eq _ _).mp z))).2) (by decide) (by decide) k)
              have K281 : Go p e below T70 (mkF m 161 #[.val (.long q0), .second, .val (.int q1), .val (.int q2), .val (.int sz), .val (.long (sz.toInt64)), .second, .val (.long pos), .second, .val (.int r), .val (.int (1 : Int32)), .val (.int (0 : Int32)), .val (.long (r.toInt64)), .second] [(.int (0 : Int32))]) G := fun t k => K280 t (XS.iconst X70.here hx rfl (hb hby at_160) k)
              exfalso
              simp only [Int64.lt_iff_toInt_lt, Int32.lt_iff_toInt_lt, ← Int64.toInt_inj, ← Int32.toInt_inj, own_J0, own_J1, own_J3, own_I0, own_Im1, own_I15, own_I2147483647] at hc77 hc162 hc249 hc256 hc262 hc276
              omega
      · skip
        have K282 : Go p e below T70 (mkF m 86 #[.val (.long q0), .second, .val (.int q1), .val (.int q2), .val (.int sz), .val (.long (sz.toInt64)), .second, .val (.long pos), .second, .val (.int r), .val (.int (1 : Int32)), .unset, .unset, .unset] []) G := fun t k => K248 t (XS.ifNo X70.here hx rfl (hb hby at_83) rfl ((if0 _ _).trans (flt (fun z => hc249 ((lw_lt _ _).mp z))).1) k)
        have K283 : Go p e below T70 (mkF m 88 #[.val (.long q0), .second, .val (.int q1), .val (.int q2), .val (.int sz), .val (.long (sz.toInt64)), .second, .val (.long pos), .second, .val (.int r), .val (.int (1 : Int32)), .unset, .unset, .unset] [(.long pos)]) G := fun t k => K282 t (XS.lload X70.here hx rfl (hb hby at_86) rfl k)
        have K284 : Go p e below T70 (mkF m 89 #[.val (.long q0), .second, .val (.int q1), .val (.int q2), .val (.int sz), .val (.long (sz.toInt64)), .second, .val (.long pos), .second, .val (.int r), .val (.int (1 : Int32)), .unset, .unset, .unset] [(.long (0 : Int64)), (.long pos)]) G := fun t k => K283 t (XS.lconst X70.here hx rfl (hb hby at_88) k)
        have K285 : Go p e below T70 (mkF m 90 #[.val (.long q0), .second, .val (.int q1), .val (.int q2), .val (.int sz), .val (.long (sz.toInt64)), .second, .val (.long pos), .second, .val (.int r), .val (.int (1 : Int32)), .unset, .unset, .unset] [(.int (lcmpW pos (0 : Int64)))]) G := fun t k => K284 t (XS.lcmp X70.here hx rfl (hb hby at_89) rfl k)
        by_cases hc286 : (0 : Int64) < pos
        · skip
          have K287 : Go p e below T70 (mkF m 97 #[.val (.long q0), .second, .val (.int q1), .val (.int q2), .val (.int sz), .val (.long (sz.toInt64)), .second, .val (.long pos), .second, .val (.int r), .val (.int (1 : Int32)), .unset, .unset, .unset] []) G := fun t k => K285 t (XS.ifYes X70.here hx rfl (pc0 := 90) (pc' := 97) rfl (hb hby at_90) rfl ((if0 _ _).trans (tlt ((lw_gt _ _).mpr hc286)).2.2.1) (by decide) (by decide) k)
          have K288 : Go p e below T70 (mkF m 98 #[.val (.long q0), .second, .val (.int q1), .val (.int q2), .val (.int sz), .val (.long (sz.toInt64)), .second, .val (.long pos), .second, .val (.int r), .val (.int (1 : Int32)), .unset, .unset, .unset] [(.int (0 : Int32))]) G := fun t k => K287 t (XS.iconst X70.here hx rfl (hb hby at_97) k)
          have K289 : Go p e below T70 (mkF m 100 #[.val (.long q0), .second, .val (.int q1), .val (.int q2), .val (.int sz), .val (.long (sz.toInt64)), .second, .val (.long pos), .second, .val (.int r), .val (.int (1 : Int32)), .val (.int (0 : Int32)), .unset, .unset] []) G := fun t k => K288 t (XS.istore X70.here hx rfl (hb hby at_98) rfl (l' := #[.val (.long q0), .second, .val (.int q1), .val (.int q2), .val (.int sz), .val (.long (sz.toInt64)), .second, .val (.long pos), .second, .val (.int r), .val (.int (1 : Int32)), .val (.int (0 : Int32)), .unset, .unset]) rfl k)
          have K290 : Go p e below T70 (mkF m 102 #[.val (.long q0), .second, .val (.int q1), .val (.int q2), .val (.int sz), .val (.long (sz.toInt64)), .second, .val (.long pos), .second, .val (.int r), .val (.int (1 : Int32)), .val (.int (0 : Int32)), .unset, .unset] [(.int (1 : Int32))]) G := fun t k => K289 t (XS.iload X70.here hx rfl (hb hby at_100) rfl k)
          have K291 : Go p e below T70 (mkF m 122 #[.val (.long q0), .second, .val (.int q1), .val (.int q2), .val (.int sz), .val (.long (sz.toInt64)), .second, .val (.long pos), .second, .val (.int r), .val (.int (1 : Int32)), .val (.int (0 : Int32)), .unset, .unset] []) G := fun t k => K290 t (XS.ifYes X70.here hx rfl (pc0 := 102) (pc' := 122) rfl (hb hby at_102) rfl ((if0 _ _).trans (feq (by decide : ¬ ((1 : Int32) = (0 : Int32)))).2) (by decide) (by decide) k)
          have K292 : Go p e below T70 (mkF m 124 #[.val (.long q0), .second, .val (.int q1), .val (.int q2), .val (.int sz), .val (.long (sz.toInt64)), .second, .val (.long pos), .second, .val (.int r), .val (.int (1 : Int32)), .val (.int (0 : Int32)), .unset, .unset] [(.int r)]) G := fun t k => K291 t (XS.iload X70.here hx rfl (hb hby at_122) rfl k)
          by_cases hc293 : r < (0 : Int32)
          · skip
            have K294 : Go p e below T70 (mkF m 134 #[.val (.long q0), .second, .val (.int q1), .val (.int q2), .val (.int sz), .val (.long (sz.toInt64)), .second, .val (.long pos), .second, .val (.int r), .val (.int (1 : Int32)), .val (.int (0 : Int32)), .unset, .unset] []) G := fun t k => K292 t (XS.ifYes X70.here hx rfl (pc0 := 124) (pc' := 134) rfl (hb hby at_124) rfl ((if0 _ _).trans (tlt hc293).1) (by decide) (by decide) k)
            have K295 : Go p e below T70 (mkF m 135 #[.val (.long q0), .second, .val (.int q1), .val (.int q2), .val (.int sz), .val (.long (sz.toInt64)), .second, .val (.long pos), .second, .val (.int r), .val (.int (1 : Int32)), .val (.int (0 : Int32)), .unset, .unset] [(.int (0 : Int32))]) G := fun t k => K294 t (XS.iconst X70.here hx rfl (hb hby at_134) k)
            exfalso
            simp only [Int64.lt_iff_toInt_lt, Int32.lt_iff_toInt_lt, ← Int64.toInt_inj, ← Int32.toInt_inj, own_J0, own_J1, own_J3, own_I0, own_Im1, own_I15, own_I2147483647] at hc77 hc162 hc249 hc286 hc293
            omega
          · skip
            have K296 : Go p e below T70 (mkF m 127 #[.val (.long q0), .second, .val (.int q1), .val (.int q2), .val (.int sz), .val (.long (sz.toInt64)), .second, .val (.long pos), .second, .val (.int r), .val (.int (1 : Int32)), .val (.int (0 : Int32)), .unset, .unset] []) G := fun t k => K292 t (XS.ifNo X70.here hx rfl (hb hby at_124) rfl ((if0 _ _).trans (flt hc293).1) k)
            have K297 : Go p e below T70 (mkF m 129 #[.val (.long q0), .second, .val (.int q1), .val (.int q2), .val (.int sz), .val (.long (sz.toInt64)), .second, .val (.long pos), .second, .val (.int r), .val (.int (1 : Int32)), .val (.int (0 : Int32)), .unset, .unset] [(.int r)]) G := fun t k => K296 t (XS.iload X70.here hx rfl (hb hby at_127) rfl k)
            have K298 : Go p e below T70 (mkF m 131 #[.val (.long q0), .second, .val (.int q1), .val (.int q2), .val (.int sz), .val (.long (sz.toInt64)), .second, .val (.long pos), .second, .val (.int r), .val (.int (1 : Int32)), .val (.int (0 : Int32)), .unset, .unset] [(.int sz), (.int r)]) G := fun t k => K297 t (XS.iload X70.here hx rfl (hb hby at_129) rfl k)
            by_cases hc299 : sz < r
            · skip
              have K300 : Go p e below T70 (mkF m 134 #[.val (.long q0), .second, .val (.int q1), .val (.int q2), .val (.int sz), .val (.long (sz.toInt64)), .second, .val (.long pos), .second, .val (.int r), .val (.int (1 : Int32)), .val (.int (0 : Int32)), .unset, .unset] []) G := fun t k => K298 t (XS.icmpNo X70.here hx rfl (hb hby at_131) rfl ((tlt hc299).2.2.2) k)
              have K301 : Go p e below T70 (mkF m 135 #[.val (.long q0), .second, .val (.int q1), .val (.int q2), .val (.int sz), .val (.long (sz.toInt64)), .second, .val (.long pos), .second, .val (.int r), .val (.int (1 : Int32)), .val (.int (0 : Int32)), .unset, .unset] [(.int (0 : Int32))]) G := fun t k => K300 t (XS.iconst X70.here hx rfl (hb hby at_134) k)
              exfalso
              simp only [Int64.lt_iff_toInt_lt, Int32.lt_iff_toInt_lt, ← Int64.toInt_inj, ← Int32.toInt_inj, own_J0, own_J1, own_J3, own_I0, own_Im1, own_I15, own_I2147483647] at hc77 hc162 hc249 hc286 hc293 hc299
              omega
            · skip
              have K302 : Go p e below T70 (mkF m 136 #[.val (.long q0), .second, .val (.int q1), .val (.int q2), .val (.int sz), .val (.long (sz.toInt64)), .second, .val (.long pos), .second, .val (.int r), .val (.int (1 : Int32)), .val (.int (0 : Int32)), .unset, .unset] []) G := fun t k => K298 t (XS.icmpYes X70.here hx rfl (pc0 := 131) (pc' := 136) rfl (hb hby at_131) rfl ((flt hc299).2.2.2) (by decide) (by decide) k)
              have K303 : Go p e below T70 (mkF m 138 #[.val (.long q0), .second, .val (.int q1), .val (.int q2), .val (.int sz), .val (.long (sz.toInt64)), .second, .val (.long pos), .second, .val (.int r), .val (.int (1 : Int32)), .val (.int (0 : Int32)), .unset, .unset] [(.int r)]) G := fun t k => K302 t (XS.iload X70.here hx rfl (hb hby at_136) rfl k)
              have K304 : Go p e below T70 (mkF m 139 #[.val (.long q0), .second, .val (.int q1), .val (.int q2), .val (.int sz), .val (.long (sz.toInt64)), .second, .val (.long pos), .second, .val (.int r), .val (.int (1 : Int32)), .val (.int (0 : Int32)), .unset, .unset] [(.long (r.toInt64))]) G := fun t k => K303 t (XS.i2l X70.here hx rfl (hb hby at_138) rfl k)
              have K305 : Go p e below T70 (mkF m 141 #[.val (.long q0), .second, .val (.int q1), .val (.int q2), .val (.int sz), .val (.long (sz.toInt64)), .second, .val (.long pos), .second, .val (.int r), .val (.int (1 : Int32)), .val (.int (0 : Int32)), .val (.long (r.toInt64)), .second] []) G := fun t k => K304 t (XS.lstore X70.here hx rfl (hb hby at_139) rfl (l' := #[.val (.long q0), .second, .val (.int q1), .val (.int q2), .val (.int sz), .val (.long (sz.toInt64)), .second, .val (.long pos), .second, .val (.int r), .val (.int (1 : Int32)), .val (.int (0 : Int32)), .val (.long (r.toInt64)), .second]) rfl k)
              have K306 : Go p e below T70 (mkF m 143 #[.val (.long q0), .second, .val (.int q1), .val (.int q2), .val (.int sz), .val (.long (sz.toInt64)), .second, .val (.long pos), .second, .val (.int r), .val (.int (1 : Int32)), .val (.int (0 : Int32)), .val (.long (r.toInt64)), .second] [(.int (1 : Int32))]) G := fun t k => K305 t (XS.iload X70.here hx rfl (hb hby at_141) rfl k)
              have K307 : Go p e below T70 (mkF m 146 #[.val (.long q0), .second, .val (.int q1), .val (.int q2), .val (.int sz), .val (.long (sz.toInt64)), .second, .val (.long pos), .second, .val (.int r), .val (.int (1 : Int32)), .val (.int (0 : Int32)), .val (.long (r.toInt64)), .second] []) G := fun t k => K306 t (XS.ifNo X70.here hx rfl (hb hby at_143) rfl ((if0 _ _).trans (feq (by decide : ¬ ((1 : Int32) = (0 : Int32)))).1) k)
              have K308 : Go p e below T70 (mkF m 148 #[.val (.long q0), .second, .val (.int q1), .val (.int q2), .val (.int sz), .val (.long (sz.toInt64)), .second, .val (.long pos), .second, .val (.int r), .val (.int (1 : Int32)), .val (.int (0 : Int32)), .val (.long (r.toInt64)), .second] [(.long pos)]) G := fun t k => K307 t (XS.lload X70.here hx rfl (hb hby at_146) rfl k)
              have K309 : Go p e below T70 (mkF m 150 #[.val (.long q0), .second, .val (.int q1), .val (.int q2), .val (.int sz), .val (.long (sz.toInt64)), .second, .val (.long pos), .second, .val (.int r), .val (.int (1 : Int32)), .val (.int (0 : Int32)), .val (.long (r.toInt64)), .second] [(.long (r.toInt64)), (.long pos)]) G := fun t k => K308 t (XS.lload X70.here hx rfl (hb hby at_148) rfl k)
              have K310 : Go p e below T70 (mkF m 151 #[.val (.long q0), .second, .val (.int q1), .val (.int q2), .val (.int sz), .val (.long (sz.toInt64)), .second, .val (.long pos), .second, .val (.int r), .val (.int (1 : Int32)), .val (.int (0 : Int32)), .val (.long (r.toInt64)), .second] [(.long (1 : Int64)), (.long (r.toInt64)), (.long pos)]) G := fun t k => K309 t (XS.lconst X70.here hx rfl (hb hby at_150) k)
              have K311 : Go p e below T70 (mkF m 152 #[.val (.long q0), .second, .val (.int q1), .val (.int q2), .val (.int sz), .val (.long (sz.toInt64)), .second, .val (.long pos), .second, .val (.int r), .val (.int (1 : Int32)), .val (.int (0 : Int32)), .val (.long (r.toInt64)), .second] [(.long ((r.toInt64) + (1 : Int64))), (.long pos)]) G := fun t k => K310 t (XS.ladd X70.here hx rfl (hb hby at_151) rfl k)
              have K312 : Go p e below T70 (mkF m 153 #[.val (.long q0), .second, .val (.int q1), .val (.int q2), .val (.int sz), .val (.long (sz.toInt64)), .second, .val (.long pos), .second, .val (.int r), .val (.int (1 : Int32)), .val (.int (0 : Int32)), .val (.long (r.toInt64)), .second] [(.int (lcmpW pos ((r.toInt64) + (1 : Int64))))]) G := fun t k => K311 t (XS.lcmp X70.here hx rfl (hb hby at_152) rfl k)
              by_cases hc313 : pos = ((r.toInt64) + (1 : Int64))
              · skip
                have K314 : Go p e below T70 (mkF m 156 #[.val (.long q0), .second, .val (.int q1), .val (.int q2), .val (.int sz), .val (.long (sz.toInt64)), .second, .val (.long pos), .second, .val (.int r), .val (.int (1 : Int32)), .val (.int (0 : Int32)), .val (.long (r.toInt64)), .second] []) G := fun t k => K312 t (XS.ifNo X70.here hx rfl (hb hby at_153) rfl ((if0 _ _).trans (teq ((lw_eq _ _).mpr hc313)).2) k)
                have K315 : Go p e below T70 (mkF m 157 #[.val (.long q0), .second, .val (.int q1), .val (.int q2), .val (.int sz), .val (.long (sz.toInt64)), .second, .val (.long pos), .second, .val (.int r), .val (.int (1 : Int32)), .val (.int (0 : Int32)), .val (.long (r.toInt64)), .second] [(.int (1 : Int32))]) G := fun t k => K314 t (XS.iconst X70.here hx rfl (hb hby at_156) k)
                have K316 : Go p e below T70 (mkF m 161 #[.val (.long q0), .second, .val (.int q1), .val (.int q2), .val (.int sz), .val (.long (sz.toInt64)), .second, .val (.long pos), .second, .val (.int r), .val (.int (1 : Int32)), .val (.int (0 : Int32)), .val (.long (r.toInt64)), .second] [(.int (1 : Int32))]) G := fun t k => K315 t (XS.goto X70.here hx rfl (pc0 := 157) (pc' := 161) rfl (hb hby at_157) (by decide) (by decide) k)
                obtain ⟨fs, hr, hrun, hended, hWW, hsame⟩ := X70.leave (v := some (.int (1 : Int32))) (fun h => by rw [Bd.returns] at h; cases h)
                refine ⟨_, _, hG _ (K316 _ (retN X70 hx (t := .boolean) Bd.returns (by simp) (hb hby at_161) hr)), hrun, hended, _, _, rfl, ?_, ⟨_, rfl⟩, hWW, hsame.mono (by decide) (by decide)⟩
                show Q0 Z q0 q1 q2 h0 n0 _ T70.heap _
                rw [E70q]
                exact ⟨rfl, N70⟩
              · skip
                have K317 : Go p e below T70 (mkF m 160 #[.val (.long q0), .second, .val (.int q1), .val (.int q2), .val (.int sz), .val (.long (sz.toInt64)), .second, .val (.long pos), .second, .val (.int r), .val (.int (1 : Int32)), .val (.int (0 : Int32)), .val (.long (r.toInt64)), .second] []) G := fun t k => K312 t (XS.ifYes X70.here hx rfl (pc0 := 153) (pc' := 160) rfl (hb hby at_153) rfl ((if0 _ _).trans (feq (fun z => hc313 ((lw_eq _ _).mp z))).2) (by decide) (by decide) k)
                have K318 : Go p e below T70 (mkF m 161 #[.val (.long q0), .second, .val (.int q1), .val (.int q2), .val (.int sz), .val (.long (sz.toInt64)), .second, .val (.long pos), .second, .val (.int r), .val (.int (1 : Int32)), .val (.int (0 : Int32)), .val (.long (r.toInt64)), .second] [(.int (0 : Int32))]) G := fun t k => K317 t (XS.iconst X70.here hx rfl (hb hby at_160) k)
                exfalso
                simp only [Int64.lt_iff_toInt_lt, Int32.lt_iff_toInt_lt, ← Int64.toInt_inj, ← Int32.toInt_inj, own_J0, own_J1, own_J3, own_I0, own_Im1, own_I15, own_I2147483647] at hc77 hc162 hc249 hc286 hc293 hc299 hc313
                omega
        · skip
          have K319 : Go p e below T70 (mkF m 93 #[.val (.long q0), .second, .val (.int q1), .val (.int q2), .val (.int sz), .val (.long (sz.toInt64)), .second, .val (.long pos), .second, .val (.int r), .val (.int (1 : Int32)), .unset, .unset, .unset] []) G := fun t k => K285 t (XS.ifNo X70.here hx rfl (hb hby at_90) rfl ((if0 _ _).trans (flt (fun z => hc286 ((lw_gt _ _).mp z))).2.2.1) k)
          have K320 : Go p e below T70 (mkF m 94 #[.val (.long q0), .second, .val (.int q1), .val (.int q2), .val (.int sz), .val (.long (sz.toInt64)), .second, .val (.long pos), .second, .val (.int r), .val (.int (1 : Int32)), .unset, .unset, .unset] [(.int (1 : Int32))]) G := fun t k => K319 t (XS.iconst X70.here hx rfl (hb hby at_93) k)
          have K321 : Go p e below T70 (mkF m 98 #[.val (.long q0), .second, .val (.int q1), .val (.int q2), .val (.int sz), .val (.long (sz.toInt64)), .second, .val (.long pos), .second, .val (.int r), .val (.int (1 : Int32)), .unset, .unset, .unset] [(.int (1 : Int32))]) G := fun t k => K320 t (XS.goto X70.here hx rfl (pc0 := 94) (pc' := 98) rfl (hb hby at_94) (by decide) (by decide) k)
          have K322 : Go p e below T70 (mkF m 100 #[.val (.long q0), .second, .val (.int q1), .val (.int q2), .val (.int sz), .val (.long (sz.toInt64)), .second, .val (.long pos), .second, .val (.int r), .val (.int (1 : Int32)), .val (.int (1 : Int32)), .unset, .unset] []) G := fun t k => K321 t (XS.istore X70.here hx rfl (hb hby at_98) rfl (l' := #[.val (.long q0), .second, .val (.int q1), .val (.int q2), .val (.int sz), .val (.long (sz.toInt64)), .second, .val (.long pos), .second, .val (.int r), .val (.int (1 : Int32)), .val (.int (1 : Int32)), .unset, .unset]) rfl k)
          have K323 : Go p e below T70 (mkF m 102 #[.val (.long q0), .second, .val (.int q1), .val (.int q2), .val (.int sz), .val (.long (sz.toInt64)), .second, .val (.long pos), .second, .val (.int r), .val (.int (1 : Int32)), .val (.int (1 : Int32)), .unset, .unset] [(.int (1 : Int32))]) G := fun t k => K322 t (XS.iload X70.here hx rfl (hb hby at_100) rfl k)
          have K324 : Go p e below T70 (mkF m 122 #[.val (.long q0), .second, .val (.int q1), .val (.int q2), .val (.int sz), .val (.long (sz.toInt64)), .second, .val (.long pos), .second, .val (.int r), .val (.int (1 : Int32)), .val (.int (1 : Int32)), .unset, .unset] []) G := fun t k => K323 t (XS.ifYes X70.here hx rfl (pc0 := 102) (pc' := 122) rfl (hb hby at_102) rfl ((if0 _ _).trans (feq (by decide : ¬ ((1 : Int32) = (0 : Int32)))).2) (by decide) (by decide) k)
          have K325 : Go p e below T70 (mkF m 124 #[.val (.long q0), .second, .val (.int q1), .val (.int q2), .val (.int sz), .val (.long (sz.toInt64)), .second, .val (.long pos), .second, .val (.int r), .val (.int (1 : Int32)), .val (.int (1 : Int32)), .unset, .unset] [(.int r)]) G := fun t k => K324 t (XS.iload X70.here hx rfl (hb hby at_122) rfl k)
          by_cases hc326 : r < (0 : Int32)
          · skip
            have K327 : Go p e below T70 (mkF m 134 #[.val (.long q0), .second, .val (.int q1), .val (.int q2), .val (.int sz), .val (.long (sz.toInt64)), .second, .val (.long pos), .second, .val (.int r), .val (.int (1 : Int32)), .val (.int (1 : Int32)), .unset, .unset] []) G := fun t k => K325 t (XS.ifYes X70.here hx rfl (pc0 := 124) (pc' := 134) rfl (hb hby at_124) rfl ((if0 _ _).trans (tlt hc326).1) (by decide) (by decide) k)
            have K328 : Go p e below T70 (mkF m 135 #[.val (.long q0), .second, .val (.int q1), .val (.int q2), .val (.int sz), .val (.long (sz.toInt64)), .second, .val (.long pos), .second, .val (.int r), .val (.int (1 : Int32)), .val (.int (1 : Int32)), .unset, .unset] [(.int (0 : Int32))]) G := fun t k => K327 t (XS.iconst X70.here hx rfl (hb hby at_134) k)
            exfalso
            simp only [Int64.lt_iff_toInt_lt, Int32.lt_iff_toInt_lt, ← Int64.toInt_inj, ← Int32.toInt_inj, own_J0, own_J1, own_J3, own_I0, own_Im1, own_I15, own_I2147483647] at hc77 hc162 hc249 hc286 hc326
            omega
          · skip
            have K329 : Go p e below T70 (mkF m 127 #[.val (.long q0), .second, .val (.int q1), .val (.int q2), .val (.int sz), .val (.long (sz.toInt64)), .second, .val (.long pos), .second, .val (.int r), .val (.int (1 : Int32)), .val (.int (1 : Int32)), .unset, .unset] []) G := fun t k => K325 t (XS.ifNo X70.here hx rfl (hb hby at_124) rfl ((if0 _ _).trans (flt hc326).1) k)
            have K330 : Go p e below T70 (mkF m 129 #[.val (.long q0), .second, .val (.int q1), .val (.int q2), .val (.int sz), .val (.long (sz.toInt64)), .second, .val (.long pos), .second, .val (.int r), .val (.int (1 : Int32)), .val (.int (1 : Int32)), .unset, .unset] [(.int r)]) G := fun t k => K329 t (XS.iload X70.here hx rfl (hb hby at_127) rfl k)
            have K331 : Go p e below T70 (mkF m 131 #[.val (.long q0), .second, .val (.int q1), .val (.int q2), .val (.int sz), .val (.long (sz.toInt64)), .second, .val (.long pos), .second, .val (.int r), .val (.int (1 : Int32)), .val (.int (1 : Int32)), .unset, .unset] [(.int sz), (.int r)]) G := fun t k => K330 t (XS.iload X70.here hx rfl (hb hby at_129) rfl k)
            by_cases hc332 : sz < r
            · skip
              have K333 : Go p e below T70 (mkF m 134 #[.val (.long q0), .second, .val (.int q1), .val (.int q2), .val (.int sz), .val (.long (sz.toInt64)), .second, .val (.long pos), .second, .val (.int r), .val (.int (1 : Int32)), .val (.int (1 : Int32)), .unset, .unset] []) G := fun t k => K331 t (XS.icmpNo X70.here hx rfl (hb hby at_131) rfl ((tlt hc332).2.2.2) k)
              have K334 : Go p e below T70 (mkF m 135 #[.val (.long q0), .second, .val (.int q1), .val (.int q2), .val (.int sz), .val (.long (sz.toInt64)), .second, .val (.long pos), .second, .val (.int r), .val (.int (1 : Int32)), .val (.int (1 : Int32)), .unset, .unset] [(.int (0 : Int32))]) G := fun t k => K333 t (XS.iconst X70.here hx rfl (hb hby at_134) k)
              exfalso
              simp only [Int64.lt_iff_toInt_lt, Int32.lt_iff_toInt_lt, ← Int64.toInt_inj, ← Int32.toInt_inj, own_J0, own_J1, own_J3, own_I0, own_Im1, own_I15, own_I2147483647] at hc77 hc162 hc249 hc286 hc326 hc332
              omega
            · skip
              have K335 : Go p e below T70 (mkF m 136 #[.val (.long q0), .second, .val (.int q1), .val (.int q2), .val (.int sz), .val (.long (sz.toInt64)), .second, .val (.long pos), .second, .val (.int r), .val (.int (1 : Int32)), .val (.int (1 : Int32)), .unset, .unset] []) G := fun t k => K331 t (XS.icmpYes X70.here hx rfl (pc0 := 131) (pc' := 136) rfl (hb hby at_131) rfl ((flt hc332).2.2.2) (by decide) (by decide) k)
              have K336 : Go p e below T70 (mkF m 138 #[.val (.long q0), .second, .val (.int q1), .val (.int q2), .val (.int sz), .val (.long (sz.toInt64)), .second, .val (.long pos), .second, .val (.int r), .val (.int (1 : Int32)), .val (.int (1 : Int32)), .unset, .unset] [(.int r)]) G := fun t k => K335 t (XS.iload X70.here hx rfl (hb hby at_136) rfl k)
              have K337 : Go p e below T70 (mkF m 139 #[.val (.long q0), .second, .val (.int q1), .val (.int q2), .val (.int sz), .val (.long (sz.toInt64)), .second, .val (.long pos), .second, .val (.int r), .val (.int (1 : Int32)), .val (.int (1 : Int32)), .unset, .unset] [(.long (r.toInt64))]) G := fun t k => K336 t (XS.i2l X70.here hx rfl (hb hby at_138) rfl k)
              have K338 : Go p e below T70 (mkF m 141 #[.val (.long q0), .second, .val (.int q1), .val (.int q2), .val (.int sz), .val (.long (sz.toInt64)), .second, .val (.long pos), .second, .val (.int r), .val (.int (1 : Int32)), .val (.int (1 : Int32)), .val (.long (r.toInt64)), .second] []) G := fun t k => K337 t (XS.lstore X70.here hx rfl (hb hby at_139) rfl (l' := #[.val (.long q0), .second, .val (.int q1), .val (.int q2), .val (.int sz), .val (.long (sz.toInt64)), .second, .val (.long pos), .second, .val (.int r), .val (.int (1 : Int32)), .val (.int (1 : Int32)), .val (.long (r.toInt64)), .second]) rfl k)
              have K339 : Go p e below T70 (mkF m 143 #[.val (.long q0), .second, .val (.int q1), .val (.int q2), .val (.int sz), .val (.long (sz.toInt64)), .second, .val (.long pos), .second, .val (.int r), .val (.int (1 : Int32)), .val (.int (1 : Int32)), .val (.long (r.toInt64)), .second] [(.int (1 : Int32))]) G := fun t k => K338 t (XS.iload X70.here hx rfl (hb hby at_141) rfl k)
              have K340 : Go p e below T70 (mkF m 146 #[.val (.long q0), .second, .val (.int q1), .val (.int q2), .val (.int sz), .val (.long (sz.toInt64)), .second, .val (.long pos), .second, .val (.int r), .val (.int (1 : Int32)), .val (.int (1 : Int32)), .val (.long (r.toInt64)), .second] []) G := fun t k => K339 t (XS.ifNo X70.here hx rfl (hb hby at_143) rfl ((if0 _ _).trans (feq (by decide : ¬ ((1 : Int32) = (0 : Int32)))).1) k)
              have K341 : Go p e below T70 (mkF m 148 #[.val (.long q0), .second, .val (.int q1), .val (.int q2), .val (.int sz), .val (.long (sz.toInt64)), .second, .val (.long pos), .second, .val (.int r), .val (.int (1 : Int32)), .val (.int (1 : Int32)), .val (.long (r.toInt64)), .second] [(.long pos)]) G := fun t k => K340 t (XS.lload X70.here hx rfl (hb hby at_146) rfl k)
              have K342 : Go p e below T70 (mkF m 150 #[.val (.long q0), .second, .val (.int q1), .val (.int q2), .val (.int sz), .val (.long (sz.toInt64)), .second, .val (.long pos), .second, .val (.int r), .val (.int (1 : Int32)), .val (.int (1 : Int32)), .val (.long (r.toInt64)), .second] [(.long (r.toInt64)), (.long pos)]) G := fun t k => K341 t (XS.lload X70.here hx rfl (hb hby at_148) rfl k)
              have K343 : Go p e below T70 (mkF m 151 #[.val (.long q0), .second, .val (.int q1), .val (.int q2), .val (.int sz), .val (.long (sz.toInt64)), .second, .val (.long pos), .second, .val (.int r), .val (.int (1 : Int32)), .val (.int (1 : Int32)), .val (.long (r.toInt64)), .second] [(.long (1 : Int64)), (.long (r.toInt64)), (.long pos)]) G := fun t k => K342 t (XS.lconst X70.here hx rfl (hb hby at_150) k)
              have K344 : Go p e below T70 (mkF m 152 #[.val (.long q0), .second, .val (.int q1), .val (.int q2), .val (.int sz), .val (.long (sz.toInt64)), .second, .val (.long pos), .second, .val (.int r), .val (.int (1 : Int32)), .val (.int (1 : Int32)), .val (.long (r.toInt64)), .second] [(.long ((r.toInt64) + (1 : Int64))), (.long pos)]) G := fun t k => K343 t (XS.ladd X70.here hx rfl (hb hby at_151) rfl k)
              have K345 : Go p e below T70 (mkF m 153 #[.val (.long q0), .second, .val (.int q1), .val (.int q2), .val (.int sz), .val (.long (sz.toInt64)), .second, .val (.long pos), .second, .val (.int r), .val (.int (1 : Int32)), .val (.int (1 : Int32)), .val (.long (r.toInt64)), .second] [(.int (lcmpW pos ((r.toInt64) + (1 : Int64))))]) G := fun t k => K344 t (XS.lcmp X70.here hx rfl (hb hby at_152) rfl k)
              by_cases hc346 : pos = ((r.toInt64) + (1 : Int64))
              · skip
                have K347 : Go p e below T70 (mkF m 156 #[.val (.long q0), .second, .val (.int q1), .val (.int q2), .val (.int sz), .val (.long (sz.toInt64)), .second, .val (.long pos), .second, .val (.int r), .val (.int (1 : Int32)), .val (.int (1 : Int32)), .val (.long (r.toInt64)), .second] []) G := fun t k => K345 t (XS.ifNo X70.here hx rfl (hb hby at_153) rfl ((if0 _ _).trans (teq ((lw_eq _ _).mpr hc346)).2) k)
                have K348 : Go p e below T70 (mkF m 157 #[.val (.long q0), .second, .val (.int q1), .val (.int q2), .val (.int sz), .val (.long (sz.toInt64)), .second, .val (.long pos), .second, .val (.int r), .val (.int (1 : Int32)), .val (.int (1 : Int32)), .val (.long (r.toInt64)), .second] [(.int (1 : Int32))]) G := fun t k => K347 t (XS.iconst X70.here hx rfl (hb hby at_156) k)
                have K349 : Go p e below T70 (mkF m 161 #[.val (.long q0), .second, .val (.int q1), .val (.int q2), .val (.int sz), .val (.long (sz.toInt64)), .second, .val (.long pos), .second, .val (.int r), .val (.int (1 : Int32)), .val (.int (1 : Int32)), .val (.long (r.toInt64)), .second] [(.int (1 : Int32))]) G := fun t k => K348 t (XS.goto X70.here hx rfl (pc0 := 157) (pc' := 161) rfl (hb hby at_157) (by decide) (by decide) k)
                obtain ⟨fs, hr, hrun, hended, hWW, hsame⟩ := X70.leave (v := some (.int (1 : Int32))) (fun h => by rw [Bd.returns] at h; cases h)
                refine ⟨_, _, hG _ (K349 _ (retN X70 hx (t := .boolean) Bd.returns (by simp) (hb hby at_161) hr)), hrun, hended, _, _, rfl, ?_, ⟨_, rfl⟩, hWW, hsame.mono (by decide) (by decide)⟩
                show Q0 Z q0 q1 q2 h0 n0 _ T70.heap _
                rw [E70q]
                exact ⟨rfl, N70⟩
              · skip
                have K350 : Go p e below T70 (mkF m 160 #[.val (.long q0), .second, .val (.int q1), .val (.int q2), .val (.int sz), .val (.long (sz.toInt64)), .second, .val (.long pos), .second, .val (.int r), .val (.int (1 : Int32)), .val (.int (1 : Int32)), .val (.long (r.toInt64)), .second] []) G := fun t k => K345 t (XS.ifYes X70.here hx rfl (pc0 := 153) (pc' := 160) rfl (hb hby at_153) rfl ((if0 _ _).trans (feq (fun z => hc346 ((lw_eq _ _).mp z))).2) (by decide) (by decide) k)
                have K351 : Go p e below T70 (mkF m 161 #[.val (.long q0), .second, .val (.int q1), .val (.int q2), .val (.int sz), .val (.long (sz.toInt64)), .second, .val (.long pos), .second, .val (.int r), .val (.int (1 : Int32)), .val (.int (1 : Int32)), .val (.long (r.toInt64)), .second] [(.int (0 : Int32))]) G := fun t k => K350 t (XS.iconst X70.here hx rfl (hb hby at_160) k)
                exfalso
                simp only [Int64.lt_iff_toInt_lt, Int32.lt_iff_toInt_lt, ← Int64.toInt_inj, ← Int32.toInt_inj, own_J0, own_J1, own_J3, own_I0, own_Im1, own_I15, own_I2147483647] at hc77 hc162 hc249 hc286 hc326 hc332 hc346
                omega
set_option maxRecDepth 65536 in
set_option maxHeartbeats 40000000 in
theorem comes_1 {Post : Tables → Env → Array Value → State → Outcome → State → Prop} (hpost : ∀ tb e args s v u, (limb_1_1.after args s (.returned v) u = true ∧ limb_1_2.after args s (.returned v) u = true ∧ True) → FrameEnd s (.returned v) u (Jvm.fieldLocs frame_1_writes args s ++ Jvm.arrayLocs frame_1_arrays args s ++ Jvm.staticLocs frame_1_statics s) 0 0 → Post tb e args s (.returned v) u) :
    ArmFor flags0 classFile x code maxLocals ret World_1 tables_1 room_1 Calls_1 rest_1 Pre_1 Post := by
  intro l hfl _ _ p e ha hc hk s m args below hf hA hF happ hP
  obtain ⟨hcalls, hrest, hpre⟩ := hP
  obtain ⟨-, -, -, hnamed, -, -, -, hat⟩ := (Spec.applies_iff hf).mp happ
  obtain ⟨hg, hn⟩ := and_e (Cond.before_iff.mp (show (Jvm.Cond.and given_1 narrow_1).before args s = true from hpre))
  obtain ⟨gg1, gg2⟩ := and_e hg
  obtain ⟨gg3, gg4⟩ := and_e gg2
  obtain ⟨gg5, gg6⟩ := and_e gg4
  obtain ⟨w0, w1, w2, rfl⟩ : ∃ w0 w1 w2 : Value, args = #[w0, w1, w2] := by
    have hs : args.size = 3 := by simpa [Cond.value, given_1] using gg1
    obtain ⟨L⟩ := args
    match L, hs with
    | [w0, w1, w2], _ => exact ⟨w0, w1, w2, rfl⟩
  have hw := fun d (hd : d ∈ tables_1) => atoms_spec (ws := Jvm.Cond.code x code maxLocals ret :: tables_1) hat d (List.mem_cons_of_mem _ hd)
  have hW : ∀ (k : Nat) (d : Jvm.Cond), tables_1[k]? = some d → d.before _ s = true := fun k d h => hw d (List.mem_of_getElem? h)
  have hfit : Fit s := fun {y c} hc i hi => by
    obtain ⟨ha, rfl⟩ := Array.getElem?_eq_some_iff.mp hc
    have q := List.all_eq_true.mp ((Array.all_eq_true_iff_forall_mem.mp hF) _ (Array.getElem_mem ha)) i (List.mem_range.mpr hi)
    simpa [Array.getElem?_eq_getElem hi] using q
  obtain ⟨i0, ei0⟩ := isL_v gg3
  obtain rfl : w0 = (.long i0) := Option.some.inj ei0
  obtain ⟨i1, ei1⟩ := is_v gg5
  obtain rfl : w1 = (.int i1) := Option.some.inj ei1
  obtain ⟨i2, ei2⟩ := is_v gg6
  obtain rfl : w2 = (.int i2) := Option.some.inj ei2
  obtain ⟨n, o, h1, h2, h3, _, L, rfl, ⟨rfl, N⟩, hq⟩ := rm0 l s _ hw tables_1 i0 i1 i2  s.heap s.heap.size (Nat.le_refl _)  p e ha hc hk s m _ below hf ((Spec.applies_iff_loose hf).mp happ).1 ⟨rfl, State.Warmed39.refl s, rfl⟩ trivial
  refine ⟨n, _, h1, h2, h3, hpost _ _ _ _ _ _ ⟨Cond.after_iff.mpr rfl, Cond.after_iff.mpr (eq_i res_at (Term.int_eval (1)) rfl), trivial⟩ ⟨hq.1, hq.2.1, (hq.2.2.sift fun y hy => Or.inr (N y hy)).mono (by decide) (by decide)⟩⟩
theorem main_1_1 : Claimed_1_1 := comes_1 fun _ _ _ _ _ _ h hF => ⟨h.1, hF⟩
theorem main_1_2 : Claimed_1_2 := comes_1 fun _ _ _ _ _ _ h hF => ⟨h.2.1, hF⟩
end Jvm.Pilot.@@N@@
namespace Jvm.Pilot.@@N@@
open Jvm Jvm.ClassFile Sem Op Lib Jvm.Free Jvm.Stand Jvm.Pilot.@@N@@.Jvm.D
/-! MADE BY PROGRAM (witnessworld.py) out of the Statement's table words and the real class files: 9 classes; the members and pool entries that the words name. The judged class is class 1, her method 1. -/
namespace start1
open Jvm.ClassFile
def u (s : String) : CpInfo := .utf8 (stringToUtf16 s)
/-- a pool by its gaps: so many unusable entries, then the entry; so many at the end -/
def gap : Nat → List CpInfo → List CpInfo
  | 0, r => r
  | n + 1, r => .unusable :: gap n r
def poolList (es : List (Nat × CpInfo)) (last : Nat) : List CpInfo := es.foldr (fun e r => gap e.1 (e.2 :: r)) (gap last [])
def pool (es : List (Nat × CpInfo)) (last : Nat) : Array CpInfo := ⟨poolList es last⟩
def fileOf (pool : Array CpInfo) (this : Nat) (attrs : Array Attribute := #[]) (ms : Array MethodInfo := #[]) (fl : Nat := 33) (sup : Nat := 0) (ifs : Array Nat := #[]) (fds : Array FieldInfo := #[]) : ClassFile where
  minorVersion := 0
  majorVersion := 65
  constantPool := pool
  accessFlags := fl
  thisClass := this
  superClass := sup
  interfaces := ifs
  fields := fds
  methods := ms
  attributes := attrs
def plain (name : String) (sup : Option ClassId) : Class where
  name := name
  kind := .ordinary
  loader := none
  accessFlags := 33
  super := sup
  interfaces := #[]
  cf := none
  fields := #[]
  methods := #[]
  instanceTypes := #[]
  staticTypes := #[]
  resolved := #[]
  callSites := []
  init := .initialized
  statics := none
  mirror := none

def pool0 : Array CpInfo := pool [(5, u "<init>"), (0, u "()V"), (1, .class_ 10), (1, u "java/lang/Object")] 113

def k0m0 : Method := { name := "<init>", desc := "()V", sig := { parameters := [], returnType := none }, accessFlags := 1, code := none }
/-- java/lang/Object -/
def k0 : Class := { plain "java/lang/Object" none with
  accessFlags := 33
  interfaces := #[]
  cf := some (fileOf pool0 8 #[] #[{ accessFlags := 1, nameIndex := 5, descriptorIndex := 6, attributes := #[] }] 33 0 #[] #[])
  fields := #[]
  methods := #[k0m0]
  instanceTypes := #[]
  staticTypes := #[]
  resolved := Array.replicate 124 none
  statics := none }

def pool1 : Array CpInfo := pool [(2, .class_ 4), (1, u "java/lang/Object"), (0, u "<init>"), (0, u "()V"), (0, .integer 2147483647), (0, .long 3), (1, .methodref 11 12), (0, .class_ 13), (0, .nameAndType 14 15), (0, u "com/example/goalpost/goalpost/runtime/Positions"), (0, u "place"), (0, u "(JI)I"), (0, .class_ 17), (0, u "com/example/goalpost/goalpost/runtime/PositionsPlacePinLaw"), (2, u "law"), (0, u "(JII)Z")] 3

def k1m0 : Method := { name := "<init>", desc := "()V", sig := { parameters := [], returnType := none }, accessFlags := 2, code := none }
def k1c1 : Code := { maxStack := 6, maxLocals := 14, code := code, exceptionTable := #[], attributes := #[] }
def k1m1 : Method := { name := "law", desc := "(JII)Z", sig := { parameters := [.long, .int, .int], returnType := some .boolean }, accessFlags := 9, code := some k1c1 }
/-- com/example/goalpost/goalpost/runtime/PositionsPlacePinLaw -/
def k1 : Class := { plain "com/example/goalpost/goalpost/runtime/PositionsPlacePinLaw" (some 0) with
  accessFlags := 49
  interfaces := #[]
  cf := some (fileOf pool1 16 #[] #[{ accessFlags := 2, nameIndex := 5, descriptorIndex := 6, attributes := #[] }, { accessFlags := 9, nameIndex := 20, descriptorIndex := 21, attributes := #[] }] 49 2 #[] #[])
  fields := #[]
  methods := #[k1m0, k1m1]
  instanceTypes := #[]
  staticTypes := #[]
  resolved := Array.replicate 25 none
  statics := none }

def pool2 : Array CpInfo := pool [(2, .class_ 4), (1, u "java/lang/Object"), (0, u "<init>"), (0, u "()V"), (1, .class_ 10), (1, u "com/example/goalpost/goalpost/runtime/Positions"), (0, u "place"), (0, u "(JI)I")] 6

def k2m0 : Method := { name := "<init>", desc := "()V", sig := { parameters := [], returnType := none }, accessFlags := 2, code := none }
def k2c1 : Code := { maxStack := 4, maxLocals := 5, code := prog_61_method_2_code, exceptionTable := #[], attributes := #[] }
def k2m1 : Method := { name := "place", desc := "(JI)I", sig := { parameters := [.long, .int], returnType := some .int }, accessFlags := 8, code := some k2c1 }
/-- com/example/goalpost/goalpost/runtime/Positions -/
def k2 : Class := { plain "com/example/goalpost/goalpost/runtime/Positions" (some 0) with
  accessFlags := 48
  interfaces := #[]
  cf := some (fileOf pool2 8 #[] #[{ accessFlags := 2, nameIndex := 5, descriptorIndex := 6, attributes := #[] }, { accessFlags := 8, nameIndex := 11, descriptorIndex := 12, attributes := #[] }] 48 2 #[] #[])
  fields := #[]
  methods := #[k2m0, k2m1]
  instanceTypes := #[]
  staticTypes := #[]
  resolved := Array.replicate 19 none
  statics := none }

def pool3 : Array CpInfo := pool [(1, u "java/lang/Cloneable"), (0, .class_ 1), (0, u "java/lang/Object"), (0, .class_ 3)] 3

/-- java/lang/Cloneable -/
def k3 : Class := { plain "java/lang/Cloneable" (some 0) with
  accessFlags := 1537
  interfaces := #[]
  cf := some (fileOf pool3 2 #[] #[] 1537 4 #[] #[])
  fields := #[]
  methods := #[]
  instanceTypes := #[]
  staticTypes := #[]
  resolved := Array.replicate 8 none
  statics := none }

def pool4 : Array CpInfo := pool [(1, u "java/io/Serializable"), (0, .class_ 1), (0, u "java/lang/Object"), (0, .class_ 3)] 3

/-- java/io/Serializable -/
def k4 : Class := { plain "java/io/Serializable" (some 0) with
  accessFlags := 1537
  interfaces := #[]
  cf := some (fileOf pool4 2 #[] #[] 1537 4 #[] #[])
  fields := #[]
  methods := #[]
  instanceTypes := #[]
  staticTypes := #[]
  resolved := Array.replicate 8 none
  statics := none }

/-- the primitive byte -/
def k5 : Class := { plain "byte" none with kind := .primitive 'B', accessFlags := 0x411 }
/-- [B -/
def k6 : Class := { plain "[B" (some 0) with kind := .array 5 .byte, interfaces := #[3, 4], accessFlags := 1041 }

/-- the primitive int -/
def k7 : Class := { plain "int" none with kind := .primitive 'I', accessFlags := 0x411 }
/-- [I -/
def k8 : Class := { plain "[I" (some 0) with kind := .array 7 .int, interfaces := #[3, 4], accessFlags := 1041 }

def heap : Heap := #[]
def classes : Array Class := #[k0, k1, k2, k3, k4, k5, k6, k7, k8]
def interned : List (Array UInt16 × Addr) := []
def slotsUsed : Nat := 0
def theMethod : MethodId := ⟨1, 1⟩
def args0 : Array Value := #[.long 5, .int 9, .int 3]
def aboutOver (below : List Frame) : State where
  vm := { classes := classes, interned := interned.toArray }
  heap := heap
  slotsUsed := slotsUsed
  threads := #[{ frames := .invoking theMethod args0 :: below }]
def below0 : List Frame := [.native { method := ⟨0, 0⟩, args := #[] }]
def about1 : State := aboutOver below0
def p0 : Program := .bare "" "" ""
def e0 : Env := launch0.env 0 0 0
theorem w_frames : about1.frames = Frame.invoking theMethod args0 :: below0 := rfl
set_option maxRecDepth 65536 in
theorem w_args : argsFit about1.vm theMethod args0 = true := by decide +kernel
set_option maxRecDepth 65536 in
theorem w_heap : heapFits about1 = true := by decide +kernel
set_option maxRecDepth 65536 in
theorem w_runnable : about1.curStatus? = some .runnable := by decide +kernel
set_option maxRecDepth 65536 in
theorem w_alone : about1.alone = true := by decide +kernel
set_option maxRecDepth 65536 in
theorem w_named : about1.methodNamed? x = some theMethod := by decide +kernel
set_option maxRecDepth 65536 in
theorem w_hears : about1.hears theMethod below0 = true := by decide +kernel
set_option maxRecDepth 65536 in
theorem w_ripe : about1.ripe theMethod args0 below0 = true := by decide +kernel
theorem w_running : about1.status = .running := rfl
set_option maxRecDepth 65536 in
theorem w_room : about1.hasRoom e0.platform room_1 = true :=
  launch0.hasRoom_least _ room_1 (by decide +kernel) (by decide +kernel) (by decide +kernel) (by decide +kernel) (by decide +kernel) (by decide +kernel)
theorem allAtoms_all (ts : List Jvm.Cond) (a : Array Jvm.Value) (st : Jvm.State) : (allAtoms ts).before a st = ts.all (fun c => c.before a st) := by
  induction ts with
  | nil => rfl
  | cons c t ih =>
    show (Jvm.Cond.and c (allAtoms t)).before a st = _
    rw [Jvm.Cond.before_and, ih, List.all_cons]
def words1 : List Jvm.Cond := Jvm.Cond.code x code maxLocals ret :: tables_1
/-- a 'code' word, met by the world's own term for the bytes: nothing is compared byte by byte -/
theorem code_word {y : MethodName} {bytes : ByteArray} {mx : Nat} {rt : Option FieldType} {a : Array Value} {s : State} {m : MethodId} {meth : Method} {c : Code} (h1 : s.methodNamed? y = some m) (h2 : s.vm.method? m = some meth) (h3 : meth.code = some c) (h4 : c.code = bytes)
    (h5 : (c.maxLocals == mx && c.exceptionTable.isEmpty && decide (c.maxStack ≤ mostOperands) && decide (meth.sig.returnType = rt) && !meth.locks && decide (parseMethodDescriptor y.desc = some meth.sig)) = true) : (Jvm.Cond.code y bytes mx rt).before a s = true := by
  simp only [Bool.and_eq_true, beq_iff_eq, Bool.not_eq_true', decide_eq_true_eq] at h5
  obtain ⟨⟨⟨⟨⟨g1, g2⟩, g3⟩, g4⟩, g5⟩, g6⟩ := h5
  simp [Cond.before, Cond.holds, Cond.value, h1, h2, h3, h4, g1, g2, g3, g4, g5, g6]
def isCode : Jvm.Cond → Bool
  | .code _ _ _ _ => true
  | _ => false
theorem all_split {L : List Jvm.Cond} {P : Jvm.Cond → Bool} (h1 : L.all (fun c => isCode c || P c) = true) (h2 : ∀ c ∈ L.filter isCode, P c = true) : L.all P = true := by
  refine List.all_eq_true.mpr fun c hc => ?_
  have h := List.all_eq_true.mp h1 c hc
  rcases Bool.eq_false_or_eq_true (isCode c) with hi | hi
  · exact h2 c (List.mem_filter.mpr ⟨hc, hi⟩)
  · simpa [hi] using h
set_option maxRecDepth 65536 in
theorem w_c0 : (Jvm.Cond.code x code maxLocals ret).before args0 about1 = true := code_word (m := ⟨1, 1⟩) (meth := k1m1) (c := k1c1) (by decide +kernel) rfl rfl rfl (by decide +kernel)
set_option maxRecDepth 65536 in
theorem w_c1 : (Jvm.Cond.code ({ cls := "com/example/goalpost/goalpost/runtime/Positions", name := "place", desc := "(JI)I" } : Jvm.MethodName) prog_61_method_2_code (5 : Nat) (Option.some Jvm.ClassFile.FieldType.int)).before args0 about1 = true := code_word (m := ⟨2, 1⟩) (meth := k2m1) (c := k2c1) (by decide +kernel) rfl rfl rfl (by decide +kernel)
def codes1 : List Jvm.Cond := [Jvm.Cond.code x code maxLocals ret, Jvm.Cond.code ({ cls := "com/example/goalpost/goalpost/runtime/Positions", name := "place", desc := "(JI)I" } : Jvm.MethodName) prog_61_method_2_code (5 : Nat) (Option.some Jvm.ClassFile.FieldType.int)]
set_option maxRecDepth 65536 in
theorem codes_eq : words1.filter isCode = codes1 := rfl
theorem w_codes : ∀ c ∈ words1.filter isCode, c.before args0 about1 = true := by
  rw [codes_eq]
  intro c hc
  simp only [codes1, List.mem_cons, List.not_mem_nil, or_false] at hc
  rcases hc with rfl | rfl
  · exact w_c0
  · exact w_c1
set_option maxRecDepth 65536 in
theorem w_t1 : words1.all (fun c => isCode c || c.before args0 about1) = true := by decide +kernel
theorem w_tables : (allAtoms (Jvm.Cond.code x code maxLocals ret :: tables_1)).before args0 about1 = true := by
  rw [allAtoms_all]
  show words1.all (fun c => c.before args0 about1) = true
  refine all_split ?_ w_codes
  rw [w_t1]
set_option maxRecDepth 65536 in
theorem w_case : (Jvm.Cond.and given_1 narrow_1).before args0 about1 = true := by decide +kernel
theorem w_applies : (headSpec (Jvm.Cond.code x code maxLocals ret :: tables_1) room_1).applies x e0.platform about1 = true :=
  (Spec.applies_iff w_frames).mpr ⟨w_running, w_runnable, w_alone, w_named, w_hears, w_ripe, w_room, w_tables⟩
theorem atStart : AtStart classFile x code maxLocals ret World_1 tables_1 room_1 Calls_1 rest_1 Pre_1 launch0 p0 e0 about1 theMethod args0 below0 :=
  ⟨lists_1, trivial, launch0.admits_env _ _ _, launch0.least_env, fairChoices_fair.cas, fairChoices_fair.clock, w_frames, w_args, w_heap, w_applies, trivial, trivial, w_case⟩
end start1
theorem witness_1 : WitnessClaimed_1 := ⟨start1.p0, start1.e0, start1.about1, start1.theMethod, start1.args0, start1.below0, start1.atStart⟩
end Jvm.Pilot.@@N@@
