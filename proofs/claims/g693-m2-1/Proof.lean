import JvmDerived
import JvmDerived.Pilot.@@N@@Statement
import JvmDerived.Pilot.@@N@@Code
set_option linter.unusedVariables false
set_option linter.unusedSimpArgs false
namespace Jvm.Pilot.@@N@@
open Jvm Jvm.ClassFile Sem Op Lib Jvm.Free Jvm.Stand Jvm.LawKit Jvm.RoadKit Bundle Jvm.Pilot.@@N@@.Jvm.D
/-- every run that goes on from the frame g of T to t is one of G -/
abbrev Go (p : Program) (e : Env) (below : List Frame) (T : State) (g : JFrame) (G : State → Prop) : Prop := ∀ t, Steps p.tables e below (T.setTop g) t → G t
theorem own_I0 : (0 : Int32).toInt = 0 := by decide
theorem own_I1 : (1 : Int32).toInt = 1 := by decide
theorem own_I2 : (2 : Int32).toInt = 2 := by decide
theorem own_I3 : (3 : Int32).toInt = 3 := by decide
theorem own_I4 : (4 : Int32).toInt = 4 := by decide
theorem own_I5 : (5 : Int32).toInt = 5 := by decide
theorem own_I6 : (6 : Int32).toInt = 6 := by decide
theorem own_I7 : (7 : Int32).toInt = 7 := by decide
theorem own_I8 : (8 : Int32).toInt = 8 := by decide
theorem own_I9 : (9 : Int32).toInt = 9 := by decide
theorem own_I10 : (10 : Int32).toInt = 10 := by decide
theorem own_I11 : (11 : Int32).toInt = 11 := by decide
theorem own_I12 : (12 : Int32).toInt = 12 := by decide
theorem own_I13 : (13 : Int32).toInt = 13 := by decide
theorem own_I14 : (14 : Int32).toInt = 14 := by decide
theorem own_I15 : (15 : Int32).toInt = 15 := by decide
theorem own_I16 : (16 : Int32).toInt = 16 := by decide
theorem own_I128 : (128 : Int32).toInt = 128 := by decide
theorem own_I2147483647 : (2147483647 : Int32).toInt = 2147483647 := by decide
def own_Cells (Z : State) (h : Heap) (cs : List (Addr × Addr)) : Prop := ∀ p ∈ cs, Exa Z h p.1 "com/example/goalpost/goalpost/runtime/Cell" ∧ Fld Z h p.1 "com/example/goalpost/goalpost/runtime/Cell" "value" "Ljava/lang/Object;" (.ref p.2)
def own_Ring (vs : List Value) (m f : Nat) (cs : List (Addr × Addr)) : Prop := vs.length = m ∧ f < m ∧ cs.length ≤ m ∧ ∀ i p, cs[i]? = some p → vs.getD ((f + i) % m) .null = .ref p.1
def own_B (m f : Int32) : Prop := 1 ≤ m.toInt ∧ m.toInt ≤ 8 ∧ 0 ≤ f.toInt ∧ f.toInt < m.toInt
def own_Dq (Z : State) (h : Heap) (n0 : Nat) (a r : Addr) (k : ClassId) (m f : Int32) (vs : List Value) (cs : List (Addr × Addr)) : Prop :=
  Exa Z h a "com/example/goalpost/goalpost/runtime/ListValue" ∧ Fld Z h a "com/example/goalpost/goalpost/runtime/ListValue" "ring" "[Lcom/example/goalpost/goalpost/runtime/Cell;" (.ref r) ∧ Fld Z h a "com/example/goalpost/goalpost/runtime/ListValue" "front" "I" (.int f) ∧ Fld Z h a "com/example/goalpost/goalpost/runtime/ListValue" "size" "I" (.int (Int32.ofNat cs.length)) ∧ Arv Z h r k (.object "com/example/goalpost/goalpost/runtime/Cell") m vs .null ∧ Ovr Z k "com/example/goalpost/goalpost/runtime/Cell" ∧ n0 ≤ a ∧ n0 ≤ r ∧ own_B m f ∧ own_Ring vs m.toNatClampNeg f.toNatClampNeg cs ∧ own_Cells Z h cs
theorem own_nat (j : Int32) (h : 0 ≤ j.toInt) : (j.toNatClampNeg : Int) = j.toInt := by
  refine (nat_of ?_).symm
  rw [Int32.lt_iff_toInt_lt, own_I0]
  omega
theorem own_ofNat (a : Nat) (h : a ≤ 4000) : (Int32.ofNat a).toInt = a := Int32.toInt_ofNat_small (by omega)
theorem own_ix (x m : Int32) (z : Nat) (hx : x.toInt = z) (hm : 1 ≤ m.toInt) : (x % m).toNatClampNeg = z % m.toNatClampNeg ∧ ¬ (x % m) < 0 ∧ (x % m) < m ∧ (x % m).toInt = ((z % m.toNatClampNeg : Nat) : Int) := by
  have cm := own_nat m (by omega)
  have h := (c_irem x m m.toInt rfl).1 (by omega)
  rw [hx, ← cm, ← Int.natCast_emod] at h
  have hlt : z % m.toNatClampNeg < m.toNatClampNeg := Nat.mod_lt _ (by omega)
  have c2 := own_nat (x % m) (by omega)
  refine ⟨by omega, ?_, ?_, h⟩
  · rw [Int32.lt_iff_toInt_lt, own_I0]; omega
  · rw [Int32.lt_iff_toInt_lt]; omega
theorem own_modw (a m : Nat) (hm : 0 < m) (h : a < 2 * m) : a % m = if a < m then a else a - m := by
  split
  · exact Nat.mod_eq_of_lt ‹_›
  · rw [Nat.mod_eq_sub_mod (by omega), Nat.mod_eq_of_lt (by omega)]
theorem own_cellsK {Z : State} {h h' : Heap} {a r : Addr} {k : ClassId} {m : Int32} {vs : List Value} {cs : List (Addr × Addr)} {ws : List Addr} (hC : own_Cells Z h cs) (K : Keep h h' ws) (hn : ∀ p ∈ cs, p.1 ∉ ws) : own_Cells Z h' cs := fun p hp => ⟨(hC p hp).1.keep K, (hC p hp).2.keep K (hn p hp)⟩
theorem own_getset (vs : List Value) (j q : Nat) (v : Value) (hj : j < vs.length) : (vs.set j v).getD q .null = if q = j then v else vs.getD q .null := by
  simp only [List.getD_eq_getElem?_getD, List.getElem?_set]
  by_cases h : j = q
  · subst h; simp [hj]
  · simp [h, Ne.symm h]
theorem own_ringPut {vs : List Value} {m f : Nat} {cs : List (Addr × Addr)} (c x : Addr) (h : own_Ring vs m f cs) (hl : cs.length < m) : own_Ring (vs.set ((f + cs.length) % m) (.ref c)) m f (cs ++ [(c, x)]) := by
  obtain ⟨h1, h2, h3, h4⟩ := h
  have e := own_modw (f + cs.length) m (by omega) (by omega)
  have lt : (f + cs.length) % m < vs.length := by rw [h1]; exact Nat.mod_lt _ (by omega)
  refine ⟨by simp [h1], h2, by simp; omega, fun i p hp => ?_⟩
  rw [own_getset _ _ _ _ lt]
  by_cases hi : i < cs.length
  · rw [List.getElem?_append_left hi] at hp
    have e2 := own_modw (f + i) m (by omega) (by omega)
    rw [if_neg (by rw [e, e2]; split <;> split <;> omega)]
    exact h4 i p hp
  · rw [List.getElem?_append_right (by omega)] at hp
    have : i = cs.length := by
      have := (List.getElem?_eq_some_iff.mp hp).1
      simp at this
      omega
    subst this
    simp at hp
    rw [if_pos rfl, ← hp]
theorem own_ringPush {vs : List Value} {m f : Nat} {cs : List (Addr × Addr)} (c x : Addr) (h : own_Ring vs m f cs) (hl : cs.length < m) : own_Ring (vs.set ((f + m - 1) % m) (.ref c)) m ((f + m - 1) % m) ((c, x) :: cs) := by
  obtain ⟨h1, h2, h3, h4⟩ := h
  have e := own_modw (f + m - 1) m (by omega) (by omega)
  have lt : (f + m - 1) % m < m := Nat.mod_lt _ (by omega)
  refine ⟨by simp [h1], lt, by simp; omega, fun i p hp => ?_⟩
  rw [own_getset _ _ _ _ (by rw [h1]; exact lt)]
  cases i with
  | zero =>
    simp at hp
    rw [if_pos (by rw [Nat.add_zero, Nat.mod_eq_of_lt lt]), ← hp]
  | succ i =>
    simp at hp
    have hi := (List.getElem?_eq_some_iff.mp hp).1
    have e2 := own_modw (f + i) m (by omega) (by omega)
    have e3 := own_modw ((f + m - 1) % m + (i + 1)) m (by omega) (by omega)
    have e4 : ((f + m - 1) % m + (i + 1)) % m = (f + i) % m := by
      rw [e3, e2, e]; split <;> split <;> split <;> omega
    rw [e4, if_neg (by rw [e2, e]; split <;> split <;> omega)]
    exact h4 i p hp
theorem own_ringGet {vs : List Value} {m f : Nat} {cs : List (Addr × Addr)} {q : Addr × Addr} (h : own_Ring vs m f (q :: cs)) : own_Ring (vs.set f .null) m ((f + 1) % m) cs := by
  obtain ⟨h1, h2, h3, h4⟩ := h
  simp at h3
  have e := own_modw (f + 1) m (by omega) (by omega)
  have lt : (f + 1) % m < m := Nat.mod_lt _ (by omega)
  refine ⟨by simp [h1], lt, by omega, fun i p hp => ?_⟩
  have hi := (List.getElem?_eq_some_iff.mp hp).1
  have e2 := own_modw (f + (i + 1)) m (by omega) (by omega)
  have e3 := own_modw ((f + 1) % m + i) m (by omega) (by omega)
  have e4 : ((f + 1) % m + i) % m = (f + (i + 1)) % m := by rw [e3, e2, e]; split <;> split <;> split <;> omega
  rw [own_getset _ _ _ _ (by omega), e4, if_neg (by rw [e2]; split <;> omega)]
  exact h4 (i + 1) p (by simpa using hp)
theorem own_ringPull {vs : List Value} {m f : Nat} {cs : List (Addr × Addr)} {q : Addr × Addr} (h : own_Ring vs m f (cs ++ [q])) : own_Ring (vs.set ((f + cs.length) % m) .null) m f cs := by
  obtain ⟨h1, h2, h3, h4⟩ := h
  simp at h3
  have e := own_modw (f + cs.length) m (by omega) (by omega)
  have lt : (f + cs.length) % m < m := Nat.mod_lt _ (by omega)
  refine ⟨by simp [h1], h2, by omega, fun i p hp => ?_⟩
  have hi := (List.getElem?_eq_some_iff.mp hp).1
  have e2 := own_modw (f + i) m (by omega) (by omega)
  rw [own_getset _ _ _ _ (by omega), if_neg (by rw [e2, e]; split <;> split <;> omega)]
  exact h4 i p (by rw [List.getElem?_append_left hi]; exact hp)
theorem own_first {vs : List Value} {m f : Nat} {cs : List (Addr × Addr)} {q : Addr × Addr} (h : own_Ring vs m f (q :: cs)) : vs.getD f .null = .ref q.1 := by
  have z := h.2.2.2 0 q rfl
  rwa [Nat.add_zero, Nat.mod_eq_of_lt h.2.1] at z
theorem own_last {vs : List Value} {m f : Nat} {cs : List (Addr × Addr)} {q : Addr × Addr} (h : own_Ring vs m f (cs ++ [q])) : vs.getD ((f + cs.length) % m) .null = .ref q.1 := h.2.2.2 cs.length q (by simp)
theorem pn_19 : plainName "com/example/goalpost/goalpost/runtime/Variable" = true := by first | (simp [plainName, overriddenIn]; done) | decide +kernel
theorem ef_prog_119_method_1_R (m : MethodId) (x0 : Addr) : entryFrame m #[(.ref x0)] 1 = mkF m 0 #[.val (.ref x0)] [] := by first | (simp [entryFrame, mkF, argsToLocals, Value.category]; done) | rfl
theorem d_prog_119_method_1_0 : decode prog_119_method_1_code 0 = .ok (.aload_n 0, 1) := by decide +kernel
theorem d_prog_119_method_1_1 : decode prog_119_method_1_code 1 = .ok (.invokespecial 1, 3) := by decide +kernel
theorem d_prog_119_method_1_4 : decode prog_119_method_1_code 4 = .ok (.return_, 1) := by decide +kernel
def QVar (Z : State) (a : Addr) (h0 : Heap) (n0 : Nat) (v : Option Value) (h : Heap) (L : List Loc) : Prop := v = none ∧ Fr n0 L ∧ h = h0
set_option maxRecDepth 65536 in
set_option maxHeartbeats 40000000 in
theorem rmVar (l : Launch) (Z : State) (a0 : Array Value) (hw : ∀ d ∈ tables_1, d.before a0 Z = true) (ws : List Jvm.Cond) (a : Addr) (h0 : Heap) (n0 : Nat) (Z0 : n0 ≤ h0.size) :
    MetFree l (⟨"com/example/goalpost/goalpost/runtime/Variable", "<init>", "()V"⟩ : MethodName) (head1 (Jvm.Cond.code (⟨"com/example/goalpost/goalpost/runtime/Variable", "<init>", "()V"⟩ : MethodName) prog_119_method_1_code 1 none :: ws) ({ frames := 1, cells := 0, slots := 0, locals := 12 } : Room)) (fun aa UU => aa = #[(.ref a)] ∧ Z.Warmed39 UU.vm ∧ UU.heap = h0) (fun _ _ _ _ _ => True) (fun _ UU oo UU' => ∃ vv LL, oo = .returned vv ∧ QVar Z a h0 n0 vv UU'.heap LL ∧ FrameEnd UU oo UU' LL ({ frames := 1, cells := 0, slots := 0, locals := 12 } : Room).cells ({ frames := 1, cells := 0, slots := 0, locals := 12 } : Room).slots) := by
  refine MetFree.of_bodySF (plainFor_of_name pn_19) hisR ?_
  intro p e s m args below meth c s₁ Bd hml0 hP hK
  obtain ⟨rfl, hZ, hh⟩ := hP
  have hx := Bd.exec
  have hby := Bd.bytes
  have hml : c.maxLocals = 1 := hml0
  have hown : s.vm.findClass "com/example/goalpost/goalpost/runtime/Variable" = some m.cls := findClass_of_methodNamed Bd.named
  have hnm := (name_of_methodNamed Bd.named Bd.method).1
  have hW : ∀ (k : Nat) (d : Jvm.Cond), tables_1[k]? = some d → d.before a0 Z = true := fun k d h => hw d (List.mem_of_getElem? h)
  have X0 : Stand p l e ({ frames := 1, cells := 0, slots := 0, locals := 12 } : Room) s m #[(.ref a)] below meth c s₁ [] 0 0 := Stand.of_body Bd
  have e0 : s₁.heap = h0 := by rw [← hh, Bd.state]; rfl
  have N0 := Fr.nil n0
  obtain ⟨G, hG, K0⟩ : ∃ G : State → Prop, (∀ tq, G tq → Steps p.tables e below (s₁.setTop (entryFrame m #[(.ref a)] 1)) tq) ∧ Go p e below s₁ (mkF m 0 #[.val (.ref a)] []) G := ⟨fun tq => Steps p.tables e below (s₁.setTop (entryFrame m #[(.ref a)] 1)) tq, fun _ h => h, fun tq kq => castTop (ef_prog_119_method_1_R m a) kq⟩
  have K1 : Go p e below s₁ (mkF m 1 #[.val (.ref a)] [(.ref a)]) G := fun tq kq => K0 tq (XS.aloadN X0.here hx rfl (hb hby d_prog_119_method_1_0) rfl rfl kq)
  obtain ⟨T2, X2, e2, st2⟩ := initO X0 hx hZ hown (hW 57 _ rfl) (hW 26 _ rfl) (hW 27 _ rfl) e0 (g := (mkF m 1 #[.val (.ref a)] [(.ref a)])) rfl (by rw [hml]; rfl) rfl (hb hby d_prog_119_method_1_1) (by decide) (W := 0) (by show 2 * 0 + _ ≤ _; exact Nat.le_of_eq rfl) (by decide)
  have K3 : Go p e below T2 (mkF m 4 #[.val (.ref a)] []) G := fun tq kq => K1 tq (st2 tq kq)
  obtain ⟨fs, hr, hrun, hended, hWW, hsame⟩ := X2.leave (v := none) (fun _ => rfl)
  refine ⟨_, _, hG _ (K3 _ (X2.returnOut hx Bd.returns (hb hby d_prog_119_method_1_4) hr)), hrun, hended, _, _, rfl, ?_, ⟨_, rfl⟩, hWW, hsame.mono (by decide) (by decide)⟩
  show QVar Z a h0 n0 _ T2.heap _
  rw [e2]
  exact ⟨rfl, N0, rfl⟩
theorem pn_24 : plainName "com/example/goalpost/goalpost/runtime/Cell" = true := by first | (simp [plainName, overriddenIn]; done) | decide +kernel
theorem ef_prog_16_method_1_RR (m : MethodId) (x0 : Addr) (x1 : Addr) : entryFrame m #[(.ref x0), (.ref x1)] 2 = mkF m 0 #[.val (.ref x0), .val (.ref x1)] [] := by first | (simp [entryFrame, mkF, argsToLocals, Value.category]; done) | rfl
theorem pd_26 : parseMethodDescriptor "()V" = some ⟨[], none⟩ := by decide +kernel
theorem d_prog_16_method_1_0 : decode prog_16_method_1_code 0 = .ok (.aload_n 0, 1) := by decide +kernel
theorem d_prog_16_method_1_1 : decode prog_16_method_1_code 1 = .ok (.invokespecial 1, 3) := by decide +kernel
theorem d_prog_16_method_1_4 : decode prog_16_method_1_code 4 = .ok (.aload_n 0, 1) := by decide +kernel
theorem d_prog_16_method_1_5 : decode prog_16_method_1_code 5 = .ok (.aload_n 1, 1) := by decide +kernel
theorem d_prog_16_method_1_6 : decode prog_16_method_1_code 6 = .ok (.putfield 7, 3) := by decide +kernel
theorem d_prog_16_method_1_9 : decode prog_16_method_1_code 9 = .ok (.return_, 1) := by decide +kernel
def QCI (Z : State) (a : Addr) (x : Addr) (h0 : Heap) (n0 : Nat) (v : Option Value) (h : Heap) (L : List Loc) : Prop := v = none ∧ Fr n0 L ∧ Keep h0 h [a] ∧ Exa Z h a "com/example/goalpost/goalpost/runtime/Cell" ∧ Fld Z h a "com/example/goalpost/goalpost/runtime/Cell" "value" "Ljava/lang/Object;" (.ref x)
set_option maxRecDepth 65536 in
set_option maxHeartbeats 40000000 in
theorem rmCI (l : Launch) (Z : State) (a0 : Array Value) (hw : ∀ d ∈ tables_1, d.before a0 Z = true) (ws : List Jvm.Cond) (a : Addr) (x : Addr) (h0 : Heap) (n0 : Nat) (Z0 : n0 ≤ h0.size) (F_value_a : Fld Z h0 a "com/example/goalpost/goalpost/runtime/Cell" "value" "Ljava/lang/Object;" .null) (E_a : Exa Z h0 a "com/example/goalpost/goalpost/runtime/Cell") (ge_a : n0 ≤ a) :
    MetFree l (⟨"com/example/goalpost/goalpost/runtime/Cell", "<init>", "(Ljava/lang/Object;)V"⟩ : MethodName) (head1 (Jvm.Cond.code (⟨"com/example/goalpost/goalpost/runtime/Cell", "<init>", "(Ljava/lang/Object;)V"⟩ : MethodName) prog_16_method_1_code 2 none :: ws) ({ frames := 2, cells := 0, slots := 0, locals := 24 } : Room)) (fun aa UU => aa = #[(.ref a), (.ref x)] ∧ Z.Warmed39 UU.vm ∧ UU.heap = h0) (fun _ _ _ _ _ => True) (fun _ UU oo UU' => ∃ vv LL, oo = .returned vv ∧ QCI Z a x h0 n0 vv UU'.heap LL ∧ FrameEnd UU oo UU' LL ({ frames := 2, cells := 0, slots := 0, locals := 24 } : Room).cells ({ frames := 2, cells := 0, slots := 0, locals := 24 } : Room).slots) := by
  refine MetFree.of_bodySF (plainFor_of_name pn_24) hisR ?_
  intro p e s m args below meth c s₁ Bd hml0 hP hK
  obtain ⟨rfl, hZ, hh⟩ := hP
  have hx := Bd.exec
  have hby := Bd.bytes
  have hml : c.maxLocals = 2 := hml0
  have hown : s.vm.findClass "com/example/goalpost/goalpost/runtime/Cell" = some m.cls := findClass_of_methodNamed Bd.named
  have hnm := (name_of_methodNamed Bd.named Bd.method).1
  have hW : ∀ (k : Nat) (d : Jvm.Cond), tables_1[k]? = some d → d.before a0 Z = true := fun k d h => hw d (List.mem_of_getElem? h)
  have X0 : Stand p l e ({ frames := 2, cells := 0, slots := 0, locals := 24 } : Room) s m #[(.ref a), (.ref x)] below meth c s₁ [] 0 0 := Stand.of_body Bd
  have e0 : s₁.heap = h0 := by rw [← hh, Bd.state]; rfl
  have N0 := Fr.nil n0
  obtain ⟨G, hG, K0⟩ : ∃ G : State → Prop, (∀ tq, G tq → Steps p.tables e below (s₁.setTop (entryFrame m #[(.ref a), (.ref x)] 2)) tq) ∧ Go p e below s₁ (mkF m 0 #[.val (.ref a), .val (.ref x)] []) G := ⟨fun tq => Steps p.tables e below (s₁.setTop (entryFrame m #[(.ref a), (.ref x)] 2)) tq, fun _ h => h, fun tq kq => castTop (ef_prog_16_method_1_RR m a x) kq⟩
  have K4 : Go p e below s₁ (mkF m 1 #[.val (.ref a), .val (.ref x)] [(.ref a)]) G := fun tq kq => K0 tq (XS.aloadN X0.here hx rfl (hb hby d_prog_16_method_1_0) rfl rfl kq)
  obtain ⟨v5, _, ⟨T5, L5, k5, n5⟩, -, X5, ⟨Lc5, hQ5, l5, y5, z5⟩, st5⟩ := X0.specialBack hx (y := (⟨"com/example/goalpost/goalpost/runtime/Variable", "<init>", "()V"⟩ : MethodName)) rfl hown (mvT hZ (hW 52 _ rfl)) (mvT hZ (hW 53 _ rfl)) (mvT hZ (hW 56 _ rfl)) (by decide) (backOf (W := 0) (rmVar l Z a0 hw [] a h0 n0 Z0) hZ (hW 56 _ rfl) (hW 55 _ rfl) (by decide) (by decide)) (g := (mkF m 1 #[.val (.ref a), .val (.ref x)] [(.ref a)])) rfl (by rw [hml]; rfl) (Steps.refl _) (a := a) (argsL := []) (rest := []) (lenOf pd_26 rfl) rfl (by show 2 * 0 + _ ≤ _; exact Nat.le_of_eq rfl) (hb hby d_prog_16_method_1_1) (fun _ _ => ⟨rfl, e0, (by decide : 0 + 0 ≤ _), (by decide : 0 + 0 ≤ _)⟩)
  dsimp only [Pt.U, Pt.locs, Pt.cells, Pt.slots] at X5 l5 y5 z5 st5 hQ5
  subst l5 y5 z5
  obtain ⟨rfl, N5q, E5q⟩ := hQ5
  have N5 := Fr.app N0 N5q
  have K6 : Go p e below T5 (mkF m 4 #[.val (.ref a), .val (.ref x)] []) G := fun tq kq => K4 tq (st5.trans kq)
  have K7 : Go p e below T5 (mkF m 5 #[.val (.ref a), .val (.ref x)] [(.ref a)]) G := fun tq kq => K6 tq (XS.aloadN X5.here hx rfl (hb hby d_prog_16_method_1_4) rfl rfl kq)
  have K8 : Go p e below T5 (mkF m 6 #[.val (.ref a), .val (.ref x)] [(.ref x), (.ref a)]) G := fun tq kq => K7 tq (XS.aloadN X5.here hx rfl (hb hby d_prog_16_method_1_5) rfl rfl kq)
  obtain ⟨T9, h9, X9, e9, W9, st9⟩ := putF X5 hx hZ hown (host := "") (Or.inl (hW 58 _ rfl)) Via.refl E5q F_value_a E_a (Or.inl (hW 59 _ rfl)) (hW 47 _ rfl) (ty := (.object "java/lang/Object")) (by decide) rfl rfl (g := (mkF m 6 #[.val (.ref a), .val (.ref x)] [(.ref x), (.ref a)])) rfl rfl (hb hby d_prog_16_method_1_6)
  have N9 := Fr.snoc X9 N5 ge_a
  have F9 := Fld.same W9 F_value_a
  have K10 : Go p e below T9 (mkF m 9 #[.val (.ref a), .val (.ref x)] []) G := fun tq kq => K8 tq (st9 tq kq)
  obtain ⟨fs, hr, hrun, hended, hWW, hsame⟩ := X9.leave (v := none) (fun _ => rfl)
  refine ⟨_, _, hG _ (K10 _ (X9.returnOut hx Bd.returns (hb hby d_prog_16_method_1_9) hr)), hrun, hended, _, _, rfl, ?_, ⟨_, rfl⟩, hWW, hsame.mono (by decide) (by decide)⟩
  show QCI Z a x h0 n0 _ T9.heap _
  rw [e9]
  exact ⟨rfl, N9, ((Keep.refl h0 [a]).wr W9 (Or.inl (List.mem_of_getElem? (i := 0) rfl))), (E_a.wr W9), F9⟩
theorem ef_prog_16_method_2_R (m : MethodId) (x0 : Addr) : entryFrame m #[(.ref x0)] 1 = mkF m 0 #[.val (.ref x0)] [] := by first | (simp [entryFrame, mkF, argsToLocals, Value.category]; done) | rfl
theorem d_prog_16_method_2_0 : decode prog_16_method_2_code 0 = .ok (.aload_n 0, 1) := by decide +kernel
theorem d_prog_16_method_2_1 : decode prog_16_method_2_code 1 = .ok (.getfield 7, 3) := by decide +kernel
theorem d_prog_16_method_2_4 : decode prog_16_method_2_code 4 = .ok (.areturn, 1) := by decide +kernel
def QCG (Z : State) (a : Addr) (x : Addr) (h0 : Heap) (n0 : Nat) (v : Option Value) (h : Heap) (L : List Loc) : Prop := v = some (.ref x) ∧ Fr n0 L ∧ h = h0
set_option maxRecDepth 65536 in
set_option maxHeartbeats 40000000 in
theorem rmCG (l : Launch) (Z : State) (a0 : Array Value) (hw : ∀ d ∈ tables_1, d.before a0 Z = true) (ws : List Jvm.Cond) (a : Addr) (x : Addr) (h0 : Heap) (n0 : Nat) (Z0 : n0 ≤ h0.size) (F_value_a : Fld Z h0 a "com/example/goalpost/goalpost/runtime/Cell" "value" "Ljava/lang/Object;" (.ref x)) :
    MetFree l (⟨"com/example/goalpost/goalpost/runtime/Cell", "get", "()Ljava/lang/Object;"⟩ : MethodName) (head1 (Jvm.Cond.code (⟨"com/example/goalpost/goalpost/runtime/Cell", "get", "()Ljava/lang/Object;"⟩ : MethodName) prog_16_method_2_code 1 (some (.object "java/lang/Object")) :: ws) ({ frames := 0, cells := 0, slots := 0, locals := 0 } : Room)) (fun aa UU => aa = #[(.ref a)] ∧ Z.Warmed39 UU.vm ∧ UU.heap = h0) (fun _ _ _ _ _ => True) (fun _ UU oo UU' => ∃ vv LL, oo = .returned vv ∧ QCG Z a x h0 n0 vv UU'.heap LL ∧ FrameEnd UU oo UU' LL ({ frames := 0, cells := 0, slots := 0, locals := 0 } : Room).cells ({ frames := 0, cells := 0, slots := 0, locals := 0 } : Room).slots) := by
  refine MetFree.of_bodySF (plainFor_of_name pn_24) hisR ?_
  intro p e s m args below meth c s₁ Bd hml0 hP hK
  obtain ⟨rfl, hZ, hh⟩ := hP
  have hx := Bd.exec
  have hby := Bd.bytes
  have hml : c.maxLocals = 1 := hml0
  have hown : s.vm.findClass "com/example/goalpost/goalpost/runtime/Cell" = some m.cls := findClass_of_methodNamed Bd.named
  have hnm := (name_of_methodNamed Bd.named Bd.method).1
  have hW : ∀ (k : Nat) (d : Jvm.Cond), tables_1[k]? = some d → d.before a0 Z = true := fun k d h => hw d (List.mem_of_getElem? h)
  have X0 : Stand p l e ({ frames := 0, cells := 0, slots := 0, locals := 0 } : Room) s m #[(.ref a)] below meth c s₁ [] 0 0 := Stand.of_body Bd
  have e0 : s₁.heap = h0 := by rw [← hh, Bd.state]; rfl
  have N0 := Fr.nil n0
  obtain ⟨G, hG, K0⟩ : ∃ G : State → Prop, (∀ tq, G tq → Steps p.tables e below (s₁.setTop (entryFrame m #[(.ref a)] 1)) tq) ∧ Go p e below s₁ (mkF m 0 #[.val (.ref a)] []) G := ⟨fun tq => Steps p.tables e below (s₁.setTop (entryFrame m #[(.ref a)] 1)) tq, fun _ h => h, fun tq kq => castTop (ef_prog_16_method_2_R m a) kq⟩
  have K11 : Go p e below s₁ (mkF m 1 #[.val (.ref a)] [(.ref a)]) G := fun tq kq => K0 tq (XS.aloadN X0.here hx rfl (hb hby d_prog_16_method_2_0) rfl rfl kq)
  obtain ⟨T12, X12, e12, st12⟩ := getF X0 hx hZ hown (host := "") (Or.inl (hW 58 _ rfl)) Via.refl e0 F_value_a (g := (mkF m 1 #[.val (.ref a)] [(.ref a)])) rfl rfl (hb hby d_prog_16_method_2_1)
  have K13 : Go p e below T12 (mkF m 4 #[.val (.ref a)] [(.ref x)]) G := fun tq kq => K11 tq (st12 tq kq)
  obtain ⟨fs, hr, hrun, hended, hWW, hsame⟩ := X12.leave (v := some (.ref x)) (fun h => by rw [Bd.returns] at h; cases h)
  refine ⟨_, _, hG _ (K13 _ (retOut X12 hx Bd.returns rfl (Or.inr (Or.inr (Or.inr (Or.inr ⟨rfl, rfl, rfl⟩)))) (hb hby d_prog_16_method_2_4) hr)), hrun, hended, _, _, rfl, ?_, ⟨_, rfl⟩, hWW, hsame.mono (by decide) (by decide)⟩
  show QCG Z a x h0 n0 _ T12.heap _
  rw [e12]
  exact ⟨rfl, N0, rfl⟩
theorem ef_jdk_29_method_65_II (m : MethodId) (x0 : Int32) (x1 : Int32) : entryFrame m #[(.int x0), (.int x1)] 2 = mkF m 0 #[.val (.int x0), .val (.int x1)] [] := by first | (simp [entryFrame, mkF, argsToLocals, Value.category]; done) | rfl
theorem d_jdk_29_method_65_0 : decode jdk_29_method_65_code 0 = .ok (.iload_n 0, 1) := by decide +kernel
theorem d_jdk_29_method_65_1 : decode jdk_29_method_65_code 1 = .ok (.iload_n 1, 1) := by decide +kernel
theorem d_jdk_29_method_65_2 : decode jdk_29_method_65_code 2 = .ok (.if_icmp .lt 7, 3) := by decide +kernel
theorem d_jdk_29_method_65_5 : decode jdk_29_method_65_code 5 = .ok (.iload_n 0, 1) := by decide +kernel
theorem d_jdk_29_method_65_6 : decode jdk_29_method_65_code 6 = .ok (.goto 4, 3) := by decide +kernel
theorem d_jdk_29_method_65_9 : decode jdk_29_method_65_code 9 = .ok (.iload_n 1, 1) := by decide +kernel
theorem d_jdk_29_method_65_10 : decode jdk_29_method_65_code 10 = .ok (.ireturn, 1) := by decide +kernel
def QMX (Z : State) (x : Int32) (y : Int32) (h0 : Heap) (n0 : Nat) (v : Option Value) (h : Heap) (L : List Loc) : Prop := v = some (.int (if x < y then y else x)) ∧ Fr n0 L ∧ h = h0
set_option maxRecDepth 65536 in
set_option maxHeartbeats 40000000 in
theorem rmMX (l : Launch) (Z : State) (a0 : Array Value) (hw : ∀ d ∈ tables_1, d.before a0 Z = true) (ws : List Jvm.Cond) (x : Int32) (y : Int32) (h0 : Heap) (n0 : Nat) (Z0 : n0 ≤ h0.size) :
    MetFree l (⟨"java/lang/Math", "max", "(II)I"⟩ : MethodName) (head1 (Jvm.Cond.code (⟨"java/lang/Math", "max", "(II)I"⟩ : MethodName) jdk_29_method_65_code 2 (some .int) :: ws) ({ frames := 0, cells := 0, slots := 0, locals := 0 } : Room)) (fun aa UU => aa = #[(.int x), (.int y)] ∧ Z.Warmed39 UU.vm ∧ UU.heap = h0) (fun _ _ _ _ _ => True) (fun _ UU oo UU' => ∃ vv LL, oo = .returned vv ∧ QMX Z x y h0 n0 vv UU'.heap LL ∧ FrameEnd UU oo UU' LL ({ frames := 0, cells := 0, slots := 0, locals := 0 } : Room).cells ({ frames := 0, cells := 0, slots := 0, locals := 0 } : Room).slots) := by
  refine MetFree.of_bodySF (Jvm.Free.JP.mathPlain rfl (by decide +kernel)) hisR ?_
  intro p e s m args below meth c s₁ Bd hml0 hP hK
  obtain ⟨rfl, hZ, hh⟩ := hP
  have hx := Bd.exec
  have hby := Bd.bytes
  have hml : c.maxLocals = 2 := hml0
  have hown : s.vm.findClass "java/lang/Math" = some m.cls := findClass_of_methodNamed Bd.named
  have hnm := (name_of_methodNamed Bd.named Bd.method).1
  have hW : ∀ (k : Nat) (d : Jvm.Cond), tables_1[k]? = some d → d.before a0 Z = true := fun k d h => hw d (List.mem_of_getElem? h)
  have X0 : Stand p l e ({ frames := 0, cells := 0, slots := 0, locals := 0 } : Room) s m #[(.int x), (.int y)] below meth c s₁ [] 0 0 := Stand.of_body Bd
  have e0 : s₁.heap = h0 := by rw [← hh, Bd.state]; rfl
  have N0 := Fr.nil n0
  obtain ⟨G, hG, K0⟩ : ∃ G : State → Prop, (∀ tq, G tq → Steps p.tables e below (s₁.setTop (entryFrame m #[(.int x), (.int y)] 2)) tq) ∧ Go p e below s₁ (mkF m 0 #[.val (.int x), .val (.int y)] []) G := ⟨fun tq => Steps p.tables e below (s₁.setTop (entryFrame m #[(.int x), (.int y)] 2)) tq, fun _ h => h, fun tq kq => castTop (ef_jdk_29_method_65_II m x y) kq⟩
  have K14 : Go p e below s₁ (mkF m 1 #[.val (.int x), .val (.int y)] [(.int x)]) G := fun tq kq => K0 tq (XS.iloadN X0.here hx rfl (hb hby d_jdk_29_method_65_0) rfl kq)
  have K15 : Go p e below s₁ (mkF m 2 #[.val (.int x), .val (.int y)] [(.int y), (.int x)]) G := fun tq kq => K14 tq (XS.iloadN X0.here hx rfl (hb hby d_jdk_29_method_65_1) rfl kq)
  by_cases hc16 : x < y
  · skip
    have K17 : Go p e below s₁ (mkF m 9 #[.val (.int x), .val (.int y)] []) G := fun tq kq => K15 tq (XS.icmpYes X0.here hx rfl (pc0 := 2) (pc' := 9) rfl (hb hby d_jdk_29_method_65_2) rfl ((tlt hc16).1) (by decide) (by decide) kq)
    have K18 : Go p e below s₁ (mkF m 10 #[.val (.int x), .val (.int y)] [(.int y)]) G := fun tq kq => K17 tq (XS.iloadN X0.here hx rfl (hb hby d_jdk_29_method_65_9) rfl kq)
    obtain ⟨fs, hr, hrun, hended, hWW, hsame⟩ := X0.leave (v := some (.int y)) (fun h => by rw [Bd.returns] at h; cases h)
    refine ⟨_, _, hG _ (K18 _ (retOut X0 hx Bd.returns rfl (Or.inl ⟨rfl, Or.inl rfl, _, rfl⟩) (hb hby d_jdk_29_method_65_10) hr)), hrun, hended, _, _, rfl, ?_, ⟨_, rfl⟩, hWW, hsame.mono (by decide) (by decide)⟩
    show QMX Z x y h0 n0 _ s₁.heap _
    rw [e0]
    exact ⟨by simp [hc16], N0, rfl⟩
  · skip
    have K19 : Go p e below s₁ (mkF m 5 #[.val (.int x), .val (.int y)] []) G := fun tq kq => K15 tq (XS.icmpNo X0.here hx rfl (hb hby d_jdk_29_method_65_2) rfl ((flt hc16).1) kq)
    have K20 : Go p e below s₁ (mkF m 6 #[.val (.int x), .val (.int y)] [(.int x)]) G := fun tq kq => K19 tq (XS.iloadN X0.here hx rfl (hb hby d_jdk_29_method_65_5) rfl kq)
    have K21 : Go p e below s₁ (mkF m 10 #[.val (.int x), .val (.int y)] [(.int x)]) G := fun tq kq => K20 tq (XS.goto X0.here hx rfl (pc0 := 6) (pc' := 10) rfl (hb hby d_jdk_29_method_65_6) (by decide) (by decide) kq)
    obtain ⟨fs, hr, hrun, hended, hWW, hsame⟩ := X0.leave (v := some (.int x)) (fun h => by rw [Bd.returns] at h; cases h)
    refine ⟨_, _, hG _ (K21 _ (retOut X0 hx Bd.returns rfl (Or.inl ⟨rfl, Or.inl rfl, _, rfl⟩) (hb hby d_jdk_29_method_65_10) hr)), hrun, hended, _, _, rfl, ?_, ⟨_, rfl⟩, hWW, hsame.mono (by decide) (by decide)⟩
    show QMX Z x y h0 n0 _ s₁.heap _
    rw [e0]
    exact ⟨by simp [hc16], N0, rfl⟩
theorem pn_45 : plainName "com/example/goalpost/goalpost/runtime/Structure" = true := by first | (simp [plainName, overriddenIn]; done) | decide +kernel
theorem ef_prog_96_method_1_RI (m : MethodId) (x0 : Addr) (x1 : Int32) : entryFrame m #[(.ref x0), (.int x1)] 2 = mkF m 0 #[.val (.ref x0), .val (.int x1)] [] := by first | (simp [entryFrame, mkF, argsToLocals, Value.category]; done) | rfl
theorem d_prog_96_method_1_0 : decode prog_96_method_1_code 0 = .ok (.aload_n 0, 1) := by decide +kernel
theorem d_prog_96_method_1_1 : decode prog_96_method_1_code 1 = .ok (.invokespecial 1, 3) := by decide +kernel
theorem d_prog_96_method_1_4 : decode prog_96_method_1_code 4 = .ok (.aload_n 0, 1) := by decide +kernel
theorem d_prog_96_method_1_5 : decode prog_96_method_1_code 5 = .ok (.iload_n 1, 1) := by decide +kernel
theorem d_prog_96_method_1_6 : decode prog_96_method_1_code 6 = .ok (.putfield 7, 3) := by decide +kernel
theorem d_prog_96_method_1_9 : decode prog_96_method_1_code 9 = .ok (.return_, 1) := by decide +kernel
def QSI (Z : State) (a : Addr) (p1 : Int32) (h0 : Heap) (n0 : Nat) (v : Option Value) (h : Heap) (L : List Loc) : Prop := v = none ∧ Fr n0 L ∧ Keep h0 h [a] ∧ Exa Z h a "com/example/goalpost/goalpost/runtime/ListValue" ∧ Fld Z h a "com/example/goalpost/goalpost/runtime/ListValue" "ring" "[Lcom/example/goalpost/goalpost/runtime/Cell;" .null ∧ Fld Z h a "com/example/goalpost/goalpost/runtime/ListValue" "front" "I" (.int (0 : Int32)) ∧ Fld Z h a "com/example/goalpost/goalpost/runtime/ListValue" "size" "I" (.int (0 : Int32))
set_option maxRecDepth 65536 in
set_option maxHeartbeats 40000000 in
theorem rmSI (l : Launch) (Z : State) (a0 : Array Value) (hw : ∀ d ∈ tables_1, d.before a0 Z = true) (ws : List Jvm.Cond) (a : Addr) (p1 : Int32) (h0 : Heap) (n0 : Nat) (Z0 : n0 ≤ h0.size) (F_ring_a : Fld Z h0 a "com/example/goalpost/goalpost/runtime/ListValue" "ring" "[Lcom/example/goalpost/goalpost/runtime/Cell;" .null) (F_front_a : Fld Z h0 a "com/example/goalpost/goalpost/runtime/ListValue" "front" "I" (.int (0 : Int32))) (F_size_a : Fld Z h0 a "com/example/goalpost/goalpost/runtime/ListValue" "size" "I" (.int (0 : Int32))) (F_serial_a : Fld Z h0 a "com/example/goalpost/goalpost/runtime/Structure" "serial" "I" (.int (0 : Int32))) (E_a : Exa Z h0 a "com/example/goalpost/goalpost/runtime/ListValue") (ge_a : n0 ≤ a) :
    MetFree l (⟨"com/example/goalpost/goalpost/runtime/Structure", "<init>", "(I)V"⟩ : MethodName) (head1 (Jvm.Cond.code (⟨"com/example/goalpost/goalpost/runtime/Structure", "<init>", "(I)V"⟩ : MethodName) prog_96_method_1_code 2 none :: ws) ({ frames := 1, cells := 0, slots := 0, locals := 12 } : Room)) (fun aa UU => aa = #[(.ref a), (.int p1)] ∧ Z.Warmed39 UU.vm ∧ UU.heap = h0) (fun _ _ _ _ _ => True) (fun _ UU oo UU' => ∃ vv LL, oo = .returned vv ∧ QSI Z a p1 h0 n0 vv UU'.heap LL ∧ FrameEnd UU oo UU' LL ({ frames := 1, cells := 0, slots := 0, locals := 12 } : Room).cells ({ frames := 1, cells := 0, slots := 0, locals := 12 } : Room).slots) := by
  refine MetFree.of_bodySF (plainFor_of_name pn_45) hisR ?_
  intro p e s m args below meth c s₁ Bd hml0 hP hK
  obtain ⟨rfl, hZ, hh⟩ := hP
  have hx := Bd.exec
  have hby := Bd.bytes
  have hml : c.maxLocals = 2 := hml0
  have hown : s.vm.findClass "com/example/goalpost/goalpost/runtime/Structure" = some m.cls := findClass_of_methodNamed Bd.named
  have hnm := (name_of_methodNamed Bd.named Bd.method).1
  have hW : ∀ (k : Nat) (d : Jvm.Cond), tables_1[k]? = some d → d.before a0 Z = true := fun k d h => hw d (List.mem_of_getElem? h)
  have X0 : Stand p l e ({ frames := 1, cells := 0, slots := 0, locals := 12 } : Room) s m #[(.ref a), (.int p1)] below meth c s₁ [] 0 0 := Stand.of_body Bd
  have e0 : s₁.heap = h0 := by rw [← hh, Bd.state]; rfl
  have N0 := Fr.nil n0
  obtain ⟨G, hG, K0⟩ : ∃ G : State → Prop, (∀ tq, G tq → Steps p.tables e below (s₁.setTop (entryFrame m #[(.ref a), (.int p1)] 2)) tq) ∧ Go p e below s₁ (mkF m 0 #[.val (.ref a), .val (.int p1)] []) G := ⟨fun tq => Steps p.tables e below (s₁.setTop (entryFrame m #[(.ref a), (.int p1)] 2)) tq, fun _ h => h, fun tq kq => castTop (ef_prog_96_method_1_RI m a p1) kq⟩
  have K22 : Go p e below s₁ (mkF m 1 #[.val (.ref a), .val (.int p1)] [(.ref a)]) G := fun tq kq => K0 tq (XS.aloadN X0.here hx rfl (hb hby d_prog_96_method_1_0) rfl rfl kq)
  obtain ⟨T23, X23, e23, st23⟩ := initO X0 hx hZ hown (hW 25 _ rfl) (hW 26 _ rfl) (hW 27 _ rfl) e0 (g := (mkF m 1 #[.val (.ref a), .val (.int p1)] [(.ref a)])) rfl (by rw [hml]; rfl) rfl (hb hby d_prog_96_method_1_1) (by decide) (W := 0) (by show 2 * 0 + _ ≤ _; exact Nat.le_of_eq rfl) (by decide)
  have K24 : Go p e below T23 (mkF m 4 #[.val (.ref a), .val (.int p1)] []) G := fun tq kq => K22 tq (st23 tq kq)
  have K25 : Go p e below T23 (mkF m 5 #[.val (.ref a), .val (.int p1)] [(.ref a)]) G := fun tq kq => K24 tq (XS.aloadN X23.here hx rfl (hb hby d_prog_96_method_1_4) rfl rfl kq)
  have K26 : Go p e below T23 (mkF m 6 #[.val (.ref a), .val (.int p1)] [(.int p1), (.ref a)]) G := fun tq kq => K25 tq (XS.iloadN X23.here hx rfl (hb hby d_prog_96_method_1_5) rfl kq)
  obtain ⟨T27, h27, X27, e27, W27, st27⟩ := putF X23 hx hZ hown (host := "") (Or.inl (hW 28 _ rfl)) Via.refl e23 F_serial_a E_a (Or.inr ⟨(hW 29 _ rfl), rfl, hnm⟩) (hW 15 _ rfl) (ty := .int) (by decide) rfl rfl (g := (mkF m 6 #[.val (.ref a), .val (.int p1)] [(.int p1), (.ref a)])) rfl rfl (hb hby d_prog_96_method_1_6)
  have N27 := Fr.snoc X27 N0 ge_a
  have F27 := Fld.same W27 F_serial_a
  have K28 : Go p e below T27 (mkF m 9 #[.val (.ref a), .val (.int p1)] []) G := fun tq kq => K26 tq (st27 tq kq)
  obtain ⟨fs, hr, hrun, hended, hWW, hsame⟩ := X27.leave (v := none) (fun _ => rfl)
  refine ⟨_, _, hG _ (K28 _ (X27.returnOut hx Bd.returns (hb hby d_prog_96_method_1_9) hr)), hrun, hended, _, _, rfl, ?_, ⟨_, rfl⟩, hWW, hsame.mono (by decide) (by decide)⟩
  show QSI Z a p1 h0 n0 _ T27.heap _
  rw [e27]
  exact ⟨rfl, N27, ((Keep.refl h0 [a]).wr W27 (Or.inl (List.mem_of_getElem? (i := 0) rfl))), (E_a.wr W27), (F_ring_a.other W27 (Or.inr (slot_ne (Or.inl (hW 37 _ rfl)) (Or.inr (hW 29 _ rfl)) (by decide) (t := (.array (.object "com/example/goalpost/goalpost/runtime/Cell"))) (t' := .int) (by decide) (by decide)))), (F_front_a.other W27 (Or.inr (slot_ne (Or.inl (hW 46 _ rfl)) (Or.inr (hW 29 _ rfl)) (by decide) (t := .int) (t' := .int) (by decide) (by decide)))), (F_size_a.other W27 (Or.inr (slot_ne (Or.inl (hW 44 _ rfl)) (Or.inr (hW 29 _ rfl)) (by decide) (t := .int) (t' := .int) (by decide) (by decide))))⟩
theorem own_cap (c : Int32) (h0 : 0 ≤ c.toInt) (h1 : c.toInt ≤ 7) : 1 ≤ (if c < (1 : Int32) then (1 : Int32) else c).toInt ∧ (if c < (1 : Int32) then (1 : Int32) else c).toInt ≤ 7 := by
  by_cases h : c < (1 : Int32)
  · rw [if_pos h, own_I1]; omega
  · rw [if_neg h]
    rw [Int32.lt_iff_toInt_lt, own_I1] at h
    omega
theorem own_ring0 (m : Int32) (h : 1 ≤ m.toInt) : own_Ring (List.replicate m.toNatClampNeg Value.null) m.toNatClampNeg (0 : Int32).toNatClampNeg [] := by
  have c := own_nat m (by omega)
  have e0 : (0 : Int32).toNatClampNeg = 0 := rfl
  refine ⟨by simp, by rw [e0]; omega, by simp, fun i p hp => ?_⟩
  simp at hp
theorem pn_53 : plainName "com/example/goalpost/goalpost/runtime/ListValue" = true := by first | (simp [plainName, overriddenIn]; done) | decide +kernel
theorem ef_prog_46_method_1_RII (m : MethodId) (x0 : Addr) (x1 : Int32) (x2 : Int32) : entryFrame m #[(.ref x0), (.int x1), (.int x2)] 3 = mkF m 0 #[.val (.ref x0), .val (.int x1), .val (.int x2)] [] := by first | (simp [entryFrame, mkF, argsToLocals, Value.category]; done) | rfl
theorem pd_55 : parseMethodDescriptor "(I)V" = some ⟨[.int], none⟩ := by decide +kernel
theorem pd_56 : parseMethodDescriptor "(II)I" = some ⟨[.int, .int], some .int⟩ := by decide +kernel
theorem d_prog_46_method_1_0 : decode prog_46_method_1_code 0 = .ok (.aload_n 0, 1) := by decide +kernel
theorem d_prog_46_method_1_1 : decode prog_46_method_1_code 1 = .ok (.iload_n 1, 1) := by decide +kernel
theorem d_prog_46_method_1_2 : decode prog_46_method_1_code 2 = .ok (.invokespecial 1, 3) := by decide +kernel
theorem d_prog_46_method_1_5 : decode prog_46_method_1_code 5 = .ok (.aload_n 0, 1) := by decide +kernel
theorem d_prog_46_method_1_6 : decode prog_46_method_1_code 6 = .ok (.iload_n 2, 1) := by decide +kernel
theorem d_prog_46_method_1_7 : decode prog_46_method_1_code 7 = .ok (.iconst 1, 1) := by decide +kernel
theorem d_prog_46_method_1_8 : decode prog_46_method_1_code 8 = .ok (.invokestatic 7, 3) := by decide +kernel
theorem d_prog_46_method_1_11 : decode prog_46_method_1_code 11 = .ok (.anewarray 13, 3) := by decide +kernel
theorem d_prog_46_method_1_14 : decode prog_46_method_1_code 14 = .ok (.putfield 15, 3) := by decide +kernel
theorem d_prog_46_method_1_17 : decode prog_46_method_1_code 17 = .ok (.return_, 1) := by decide +kernel
def QIni (Z : State) (a : Addr) (p1 : Int32) (p2 : Int32) (h0 : Heap) (n0 : Nat) (v : Option Value) (h : Heap) (L : List Loc) : Prop := v = none ∧ Fr n0 L ∧ Keep h0 h [a] ∧ ∃ (r : Addr) (k : ClassId) (m : Int32) (vs : List Value), h0.size ≤ r ∧ own_Dq Z h n0 a r k m (0 : Int32) vs []
set_option maxRecDepth 65536 in
set_option maxHeartbeats 40000000 in
theorem rmIni (l : Launch) (Z : State) (a0 : Array Value) (hw : ∀ d ∈ tables_1, d.before a0 Z = true) (ws : List Jvm.Cond) (a : Addr) (p1 : Int32) (p2 : Int32) (h0 : Heap) (n0 : Nat) (Z0 : n0 ≤ h0.size) (F_ring_a : Fld Z h0 a "com/example/goalpost/goalpost/runtime/ListValue" "ring" "[Lcom/example/goalpost/goalpost/runtime/Cell;" .null) (F_front_a : Fld Z h0 a "com/example/goalpost/goalpost/runtime/ListValue" "front" "I" (.int (0 : Int32))) (F_size_a : Fld Z h0 a "com/example/goalpost/goalpost/runtime/ListValue" "size" "I" (.int (0 : Int32))) (F_serial_a : Fld Z h0 a "com/example/goalpost/goalpost/runtime/Structure" "serial" "I" (.int (0 : Int32))) (E_a : Exa Z h0 a "com/example/goalpost/goalpost/runtime/ListValue") (ge_a : n0 ≤ a) (hp : 0 ≤ p2.toInt ∧ p2.toInt ≤ 7) :
    MetFree l (⟨"com/example/goalpost/goalpost/runtime/ListValue", "<init>", "(II)V"⟩ : MethodName) (head1 (Jvm.Cond.code (⟨"com/example/goalpost/goalpost/runtime/ListValue", "<init>", "(II)V"⟩ : MethodName) prog_46_method_1_code 3 none :: ws) ({ frames := 2, cells := 1, slots := 7, locals := 25 } : Room)) (fun aa UU => aa = #[(.ref a), (.int p1), (.int p2)] ∧ Z.Warmed39 UU.vm ∧ UU.heap = h0) (fun _ _ _ _ _ => True) (fun _ UU oo UU' => ∃ vv LL, oo = .returned vv ∧ QIni Z a p1 p2 h0 n0 vv UU'.heap LL ∧ FrameEnd UU oo UU' LL ({ frames := 2, cells := 1, slots := 7, locals := 25 } : Room).cells ({ frames := 2, cells := 1, slots := 7, locals := 25 } : Room).slots) := by
  refine MetFree.of_bodySF (plainFor_of_name pn_53) hisR ?_
  intro p e s m args below meth c s₁ Bd hml0 hP hK
  obtain ⟨rfl, hZ, hh⟩ := hP
  have hx := Bd.exec
  have hby := Bd.bytes
  have hml : c.maxLocals = 3 := hml0
  have hown : s.vm.findClass "com/example/goalpost/goalpost/runtime/ListValue" = some m.cls := findClass_of_methodNamed Bd.named
  have hnm := (name_of_methodNamed Bd.named Bd.method).1
  have hW : ∀ (k : Nat) (d : Jvm.Cond), tables_1[k]? = some d → d.before a0 Z = true := fun k d h => hw d (List.mem_of_getElem? h)
  have X0 : Stand p l e ({ frames := 2, cells := 1, slots := 7, locals := 25 } : Room) s m #[(.ref a), (.int p1), (.int p2)] below meth c s₁ [] 0 0 := Stand.of_body Bd
  have e0 : s₁.heap = h0 := by rw [← hh, Bd.state]; rfl
  have N0 := Fr.nil n0
  obtain ⟨G, hG, K0⟩ : ∃ G : State → Prop, (∀ tq, G tq → Steps p.tables e below (s₁.setTop (entryFrame m #[(.ref a), (.int p1), (.int p2)] 3)) tq) ∧ Go p e below s₁ (mkF m 0 #[.val (.ref a), .val (.int p1), .val (.int p2)] []) G := ⟨fun tq => Steps p.tables e below (s₁.setTop (entryFrame m #[(.ref a), (.int p1), (.int p2)] 3)) tq, fun _ h => h, fun tq kq => castTop (ef_prog_46_method_1_RII m a p1 p2) kq⟩
  have K29 : Go p e below s₁ (mkF m 1 #[.val (.ref a), .val (.int p1), .val (.int p2)] [(.ref a)]) G := fun tq kq => K0 tq (XS.aloadN X0.here hx rfl (hb hby d_prog_46_method_1_0) rfl rfl kq)
  have K30 : Go p e below s₁ (mkF m 2 #[.val (.ref a), .val (.int p1), .val (.int p2)] [(.int p1), (.ref a)]) G := fun tq kq => K29 tq (XS.iloadN X0.here hx rfl (hb hby d_prog_46_method_1_1) rfl kq)
  obtain ⟨v31, _, ⟨T31, L31, k31, n31⟩, -, X31, ⟨Lc31, hQ31, l31, y31, z31⟩, st31⟩ := X0.specialBack hx (y := (⟨"com/example/goalpost/goalpost/runtime/Structure", "<init>", "(I)V"⟩ : MethodName)) rfl hown (mvT hZ (hW 20 _ rfl)) (mvT hZ (hW 21 _ rfl)) (mvT hZ (hW 24 _ rfl)) (by decide) (backOf (W := 0) (rmSI l Z a0 hw [] a p1 h0 n0 Z0 F_ring_a F_front_a F_size_a F_serial_a E_a ge_a) hZ (hW 24 _ rfl) (hW 23 _ rfl) (by decide) (by decide)) (g := (mkF m 2 #[.val (.ref a), .val (.int p1), .val (.int p2)] [(.int p1), (.ref a)])) rfl (by rw [hml]; rfl) (Steps.refl _) (a := a) (argsL := [(.int p1)]) (rest := []) (lenOf pd_55 rfl) rfl (by show 2 * 0 + _ ≤ _; exact Nat.le_of_eq rfl) (hb hby d_prog_46_method_1_2) (fun _ _ => ⟨rfl, e0, (by decide : 0 + 0 ≤ _), (by decide : 0 + 0 ≤ _)⟩)
  dsimp only [Pt.U, Pt.locs, Pt.cells, Pt.slots] at X31 l31 y31 z31 st31 hQ31
  subst l31 y31 z31
  obtain ⟨rfl, N31q, K31q, E31q, F31q_ring, F31q_front, F31q_size⟩ := hQ31
  have N31 := Fr.app N0 N31q
  have K32 : Go p e below T31 (mkF m 5 #[.val (.ref a), .val (.int p1), .val (.int p2)] []) G := fun tq kq => K30 tq (st31.trans kq)
  have K33 : Go p e below T31 (mkF m 6 #[.val (.ref a), .val (.int p1), .val (.int p2)] [(.ref a)]) G := fun tq kq => K32 tq (XS.aloadN X31.here hx rfl (hb hby d_prog_46_method_1_5) rfl rfl kq)
  have K34 : Go p e below T31 (mkF m 7 #[.val (.ref a), .val (.int p1), .val (.int p2)] [(.int p2), (.ref a)]) G := fun tq kq => K33 tq (XS.iloadN X31.here hx rfl (hb hby d_prog_46_method_1_6) rfl kq)
  have K35 : Go p e below T31 (mkF m 8 #[.val (.ref a), .val (.int p1), .val (.int p2)] [(.int (1 : Int32)), (.int p2), (.ref a)]) G := fun tq kq => K34 tq (XS.iconst X31.here hx rfl (hb hby d_prog_46_method_1_7) kq)
  obtain ⟨v36, _, ⟨T36, L36, k36, n36⟩, -, X36, ⟨Lc36, hQ36, l36, y36, z36⟩, st36⟩ := Jvm.LawKit.callS X31 hx (y := (⟨"java/lang/Math", "max", "(II)I"⟩ : MethodName)) hown (mvT hZ (hW 30 _ rfl)) (mvT hZ (hW 31 _ rfl)) (mvT hZ (hW 32 _ rfl)) (mvT hZ (hW 33 _ rfl)) (by decide) (backOf (W := 1) (rmMX l Z a0 hw [] p2 (1 : Int32) T31.heap n0 (Nat.le_trans Z0 K31q.1)) hZ (hW 33 _ rfl) (hW 32 _ rfl) (by decide) (by decide)) (g := (mkF m 8 #[.val (.ref a), .val (.int p1), .val (.int p2)] [(.int (1 : Int32)), (.int p2), (.ref a)])) rfl (by rw [hml]; rfl) (argsL := [(.int p2), (.int (1 : Int32))]) (rest := [(.ref a)]) (lenOf pd_56 rfl) rfl (by show 2 * 0 + _ ≤ _; exact Nat.le_of_eq rfl) (hb hby d_prog_46_method_1_8) (fun _ _ => ⟨rfl, rfl, (by decide : 0 + 0 ≤ _), (by decide : 0 + 0 ≤ _)⟩)
  dsimp only [Pt.U, Pt.locs, Pt.cells, Pt.slots] at X36 l36 y36 z36 st36 hQ36
  subst l36 y36 z36
  obtain ⟨rfl, N36q, E36q⟩ := hQ36
  have N36 := Fr.app N31 N36q
  have K37 : Go p e below T36 (mkF m 11 #[.val (.ref a), .val (.int p1), .val (.int p2)] [(.int (if p2 < (1 : Int32) then (1 : Int32) else p2)), (.ref a)]) G := fun tq kq => K35 tq (st36 tq kq)
  obtain ⟨mm, h_mm⟩ : ∃ z, z = (if p2 < (1 : Int32) then (1 : Int32) else p2) := ⟨_, rfl⟩
  have K38 : Go p e below T36 (mkF m 11 #[.val (.ref a), .val (.int p1), .val (.int p2)] [(.int mm), (.ref a)]) G := by rw [h_mm]; exact K37
  have m1 : 1 ≤ mm.toInt ∧ mm.toInt ≤ 7 := by rw [h_mm]; exact own_cap p2 hp.1 hp.2
  have m0 : ¬ mm < 0 := by
    rw [Int32.lt_iff_toInt_lt, own_I0]
    omega
  have cm := own_nat mm (by omega)
  obtain ⟨T39, h39, k39, X39, e39, E39, A39, O39, st39⟩ := newR X36 hx hZ hown (hW 34 _ rfl) (hW 35 _ rfl) E36q (g := (mkF m 11 #[.val (.ref a), .val (.int p1), .val (.int p2)] [(.int mm), (.ref a)])) rfl (hb hby d_prog_46_method_1_11) rfl m0 (cap := 7) (by omega) (by decide) (by decide) (by decide)
  obtain ⟨b39, g39⟩ : ∃ z, z = T31.heap.size := ⟨_, rfl⟩
  rw [← g39] at A39 st39
  have ne39_a : a ≠ b39 := Nat.ne_of_lt (Nat.lt_of_lt_of_le F31q_ring.lt (Nat.le_of_eq g39.symm))
  have ge_b39 : n0 ≤ b39 := Nat.le_trans (Nat.le_trans Z0 K31q.1) (Nat.le_of_eq g39.symm)
  have sz_b39 : h0.size ≤ b39 := Nat.le_trans (((Keep.refl h0 [a]).trans K31q (allS (Or.inl (List.mem_of_getElem? (i := 0) rfl)) all0))).1 (Nat.le_of_eq g39.symm)
  have V39 : Arv Z h39 b39 k39 (.object "com/example/goalpost/goalpost/runtime/Cell") mm (List.replicate mm.toNatClampNeg Value.null) .null := (Arv.new A39 m0).pad (pad_rep [] .null mm.toNatClampNeg)
  have K40 : Go p e below T39 (mkF m 14 #[.val (.ref a), .val (.int p1), .val (.int p2)] [(.ref b39), (.ref a)]) G := fun tq kq => K38 tq (st39 tq kq)
  obtain ⟨T41, h41, X41, e41, W41, st41⟩ := putF X39 hx hZ hown (host := "") (Or.inl (hW 36 _ rfl)) Via.refl e39 (F31q_ring.ext E39) (E31q.ext E39) (Or.inl (hW 37 _ rfl)) (hW 15 _ rfl) (ty := (.array (.object "com/example/goalpost/goalpost/runtime/Cell"))) (by decide) rfl rfl (g := (mkF m 14 #[.val (.ref a), .val (.int p1), .val (.int p2)] [(.ref b39), (.ref a)])) rfl rfl (hb hby d_prog_46_method_1_14)
  have N41 := Fr.snoc X41 N36 ge_a
  have F41 := Fld.same W41 (F31q_ring.ext E39)
  have K42 : Go p e below T41 (mkF m 17 #[.val (.ref a), .val (.int p1), .val (.int p2)] []) G := fun tq kq => K40 tq (st41 tq kq)
  obtain ⟨fs, hr, hrun, hended, hWW, hsame⟩ := X41.leave (v := none) (fun _ => rfl)
  refine ⟨_, _, hG _ (K42 _ (X41.returnOut hx Bd.returns (hb hby d_prog_46_method_1_17) hr)), hrun, hended, _, _, rfl, ?_, ⟨_, rfl⟩, hWW, hsame.mono (by decide) (by decide)⟩
  show QIni Z a p1 p2 h0 n0 _ T41.heap _
  rw [e41]
  exact ⟨rfl, N41, ((((Keep.refl h0 [a]).trans K31q (allS (Or.inl (List.mem_of_getElem? (i := 0) rfl)) all0)).ext E39).wr W41 (Or.inl (List.mem_of_getElem? (i := 0) rfl))), b39, k39, mm, _, sz_b39, ⟨((E31q.ext E39).wr W41), F41, ((F31q_front.ext E39).other W41 (Or.inr (slot_ne (Or.inl (hW 46 _ rfl)) (Or.inl (hW 37 _ rfl)) (by decide) (t := .int) (t' := (.array (.object "com/example/goalpost/goalpost/runtime/Cell"))) (by decide) (by decide)))), ((F31q_size.ext E39).other W41 (Or.inr (slot_ne (Or.inl (hW 44 _ rfl)) (Or.inl (hW 37 _ rfl)) (by decide) (t := .int) (t' := (.array (.object "com/example/goalpost/goalpost/runtime/Cell"))) (by decide) (by decide)))), (V39.other W41 (Ne.symm ne39_a)), O39, ge_a, ge_b39, ⟨by omega, by omega, by decide, by rw [own_I0]; omega⟩, own_ring0 mm m1.1, fun p hp => nomatch hp⟩⟩
theorem own_fi (f i : Int32) (hf : 0 ≤ f.toInt) (hf2 : f.toInt ≤ 8) (hi : 0 ≤ i.toInt) (hi2 : i.toInt ≤ 8) : (f + i).toInt = ((f.toNatClampNeg + i.toNatClampNeg : Nat) : Int) := by
  have c := c_iadd f i
  have r := rng32 (f + i)
  have c1 := own_nat f hf
  have c2 := own_nat i hi
  omega
theorem ef_prog_46_method_3_RI (m : MethodId) (x0 : Addr) (x1 : Int32) : entryFrame m #[(.ref x0), (.int x1)] 2 = mkF m 0 #[.val (.ref x0), .val (.int x1)] [] := by first | (simp [entryFrame, mkF, argsToLocals, Value.category]; done) | rfl
theorem d_prog_46_method_3_0 : decode prog_46_method_3_code 0 = .ok (.aload_n 0, 1) := by decide +kernel
theorem d_prog_46_method_3_1 : decode prog_46_method_3_code 1 = .ok (.getfield 15, 3) := by decide +kernel
theorem d_prog_46_method_3_4 : decode prog_46_method_3_code 4 = .ok (.aload_n 0, 1) := by decide +kernel
theorem d_prog_46_method_3_5 : decode prog_46_method_3_code 5 = .ok (.getfield 25, 3) := by decide +kernel
theorem d_prog_46_method_3_8 : decode prog_46_method_3_code 8 = .ok (.iload_n 1, 1) := by decide +kernel
theorem d_prog_46_method_3_9 : decode prog_46_method_3_code 9 = .ok (.iadd, 1) := by decide +kernel
theorem d_prog_46_method_3_10 : decode prog_46_method_3_code 10 = .ok (.aload_n 0, 1) := by decide +kernel
theorem d_prog_46_method_3_11 : decode prog_46_method_3_code 11 = .ok (.getfield 15, 3) := by decide +kernel
theorem d_prog_46_method_3_14 : decode prog_46_method_3_code 14 = .ok (.arraylength, 1) := by decide +kernel
theorem d_prog_46_method_3_15 : decode prog_46_method_3_code 15 = .ok (.irem, 1) := by decide +kernel
theorem d_prog_46_method_3_16 : decode prog_46_method_3_code 16 = .ok (.aaload, 1) := by decide +kernel
theorem d_prog_46_method_3_17 : decode prog_46_method_3_code 17 = .ok (.areturn, 1) := by decide +kernel
def QAT (Z : State) (a : Addr) (i : Int32) (r : Addr) (k : ClassId) (mm : Int32) (f : Int32) (vs : List Value) (ce : Addr) (h0 : Heap) (n0 : Nat) (v : Option Value) (h : Heap) (L : List Loc) : Prop := v = some (.ref ce) ∧ Fr n0 L ∧ h = h0
set_option maxRecDepth 65536 in
set_option maxHeartbeats 40000000 in
theorem rmAT (l : Launch) (Z : State) (a0 : Array Value) (hw : ∀ d ∈ tables_1, d.before a0 Z = true) (ws : List Jvm.Cond) (a : Addr) (i : Int32) (r : Addr) (k : ClassId) (mm : Int32) (f : Int32) (vs : List Value) (ce : Addr) (h0 : Heap) (n0 : Nat) (Z0 : n0 ≤ h0.size) (F_ring : Fld Z h0 a "com/example/goalpost/goalpost/runtime/ListValue" "ring" "[Lcom/example/goalpost/goalpost/runtime/Cell;" (.ref r)) (F_front : Fld Z h0 a "com/example/goalpost/goalpost/runtime/ListValue" "front" "I" (.int f)) (V_r : Arv Z h0 r k (.object "com/example/goalpost/goalpost/runtime/Cell") mm vs .null) (hB : own_B mm f) (hi : 0 ≤ i.toInt ∧ i.toInt ≤ 8) (hv : vs.getD ((f.toNatClampNeg + i.toNatClampNeg) % mm.toNatClampNeg) .null = .ref ce) :
    MetFree l (⟨"com/example/goalpost/goalpost/runtime/ListValue", "at", "(I)Lcom/example/goalpost/goalpost/runtime/Cell;"⟩ : MethodName) (head1 (Jvm.Cond.code (⟨"com/example/goalpost/goalpost/runtime/ListValue", "at", "(I)Lcom/example/goalpost/goalpost/runtime/Cell;"⟩ : MethodName) prog_46_method_3_code 2 (some (.object "com/example/goalpost/goalpost/runtime/Cell")) :: ws) ({ frames := 0, cells := 0, slots := 0, locals := 0 } : Room)) (fun aa UU => aa = #[(.ref a), (.int i)] ∧ Z.Warmed39 UU.vm ∧ UU.heap = h0) (fun _ _ _ _ _ => True) (fun _ UU oo UU' => ∃ vv LL, oo = .returned vv ∧ QAT Z a i r k mm f vs ce h0 n0 vv UU'.heap LL ∧ FrameEnd UU oo UU' LL ({ frames := 0, cells := 0, slots := 0, locals := 0 } : Room).cells ({ frames := 0, cells := 0, slots := 0, locals := 0 } : Room).slots) := by
  refine MetFree.of_bodySF (plainFor_of_name pn_53) hisR ?_
  intro p e s m args below meth c s₁ Bd hml0 hP hK
  obtain ⟨rfl, hZ, hh⟩ := hP
  have hx := Bd.exec
  have hby := Bd.bytes
  have hml : c.maxLocals = 2 := hml0
  have hown : s.vm.findClass "com/example/goalpost/goalpost/runtime/ListValue" = some m.cls := findClass_of_methodNamed Bd.named
  have hnm := (name_of_methodNamed Bd.named Bd.method).1
  have hW : ∀ (k : Nat) (d : Jvm.Cond), tables_1[k]? = some d → d.before a0 Z = true := fun k d h => hw d (List.mem_of_getElem? h)
  have X0 : Stand p l e ({ frames := 0, cells := 0, slots := 0, locals := 0 } : Room) s m #[(.ref a), (.int i)] below meth c s₁ [] 0 0 := Stand.of_body Bd
  have e0 : s₁.heap = h0 := by rw [← hh, Bd.state]; rfl
  have N0 := Fr.nil n0
  obtain ⟨G, hG, K0⟩ : ∃ G : State → Prop, (∀ tq, G tq → Steps p.tables e below (s₁.setTop (entryFrame m #[(.ref a), (.int i)] 2)) tq) ∧ Go p e below s₁ (mkF m 0 #[.val (.ref a), .val (.int i)] []) G := ⟨fun tq => Steps p.tables e below (s₁.setTop (entryFrame m #[(.ref a), (.int i)] 2)) tq, fun _ h => h, fun tq kq => castTop (ef_prog_46_method_3_RI m a i) kq⟩
  obtain ⟨b1, b2, b3, b4⟩ := hB
  have hx1 := own_ix (f + i) mm _ (own_fi f i b3 (by omega) hi.1 hi.2) b1
  have m0 : mm ≠ 0 := by
    intro q
    rw [q, own_I0] at b1
    omega
  have K43 : Go p e below s₁ (mkF m 1 #[.val (.ref a), .val (.int i)] [(.ref a)]) G := fun tq kq => K0 tq (XS.aloadN X0.here hx rfl (hb hby d_prog_46_method_3_0) rfl rfl kq)
  obtain ⟨T44, X44, e44, st44⟩ := getF X0 hx hZ hown (host := "") (Or.inl (hW 36 _ rfl)) Via.refl e0 F_ring (g := (mkF m 1 #[.val (.ref a), .val (.int i)] [(.ref a)])) rfl rfl (hb hby d_prog_46_method_3_1)
  have K45 : Go p e below T44 (mkF m 4 #[.val (.ref a), .val (.int i)] [(.ref r)]) G := fun tq kq => K43 tq (st44 tq kq)
  have K46 : Go p e below T44 (mkF m 5 #[.val (.ref a), .val (.int i)] [(.ref a), (.ref r)]) G := fun tq kq => K45 tq (XS.aloadN X44.here hx rfl (hb hby d_prog_46_method_3_4) rfl rfl kq)
  obtain ⟨T47, X47, e47, st47⟩ := getF X44 hx hZ hown (host := "") (Or.inl (hW 45 _ rfl)) Via.refl e44 F_front (g := (mkF m 5 #[.val (.ref a), .val (.int i)] [(.ref a), (.ref r)])) rfl rfl (hb hby d_prog_46_method_3_5)
  have K48 : Go p e below T47 (mkF m 8 #[.val (.ref a), .val (.int i)] [(.int f), (.ref r)]) G := fun tq kq => K46 tq (st47 tq kq)
  have K49 : Go p e below T47 (mkF m 9 #[.val (.ref a), .val (.int i)] [(.int i), (.int f), (.ref r)]) G := fun tq kq => K48 tq (XS.iloadN X47.here hx rfl (hb hby d_prog_46_method_3_8) rfl kq)
  have K50 : Go p e below T47 (mkF m 10 #[.val (.ref a), .val (.int i)] [(.int (f + i)), (.ref r)]) G := fun tq kq => K49 tq (XS.iadd X47.here hx rfl (hb hby d_prog_46_method_3_9) rfl kq)
  have K51 : Go p e below T47 (mkF m 11 #[.val (.ref a), .val (.int i)] [(.ref a), (.int (f + i)), (.ref r)]) G := fun tq kq => K50 tq (XS.aloadN X47.here hx rfl (hb hby d_prog_46_method_3_10) rfl rfl kq)
  obtain ⟨T52, X52, e52, st52⟩ := getF X47 hx hZ hown (host := "") (Or.inl (hW 36 _ rfl)) Via.refl e47 F_ring (g := (mkF m 11 #[.val (.ref a), .val (.int i)] [(.ref a), (.int (f + i)), (.ref r)])) rfl rfl (hb hby d_prog_46_method_3_11)
  have K53 : Go p e below T52 (mkF m 14 #[.val (.ref a), .val (.int i)] [(.ref r), (.int (f + i)), (.ref r)]) G := fun tq kq => K51 tq (st52 tq kq)
  obtain ⟨cl54, Ar54, q54, S54, Nn54, Hh54, Gg54⟩ := id V_r
  have K55 : Go p e below T52 (mkF m 15 #[.val (.ref a), .val (.int i)] [(.int mm), (.int (f + i)), (.ref r)]) G := fun tq kq => K53 tq (X52.arraylength hx (by rw [e52]; exact Ar54.1) (State.isArrayOf_alike hZ.alike Ar54.2.1) (g := (mkF m 14 #[.val (.ref a), .val (.int i)] [(.ref r), (.int (f + i)), (.ref r)])) rfl rfl (hb hby d_prog_46_method_3_14) _ (by rw [len_of S54 Nn54]; exact kq))
  have K56 : Go p e below T52 (mkF m 16 #[.val (.ref a), .val (.int i)] [(.int ((f + i) % mm)), (.ref r)]) G := fun tq kq => K55 tq (iremM X52 hx rfl (hb hby d_prog_46_method_3_15) rfl m0 kq)
  obtain ⟨cl57, Ar57, q57, S57, Nn57, Hh57, Gg57⟩ := id V_r
  have hin57 : ¬ (((f + i) % mm) < 0 ∨ cl57.slots.size ≤ (((f + i) % mm)).toNatClampNeg) := inb_of S57 ⟨hx1.2.1, hx1.2.2.1⟩
  have hat57 := Has.at (v := (.ref ce)) Hh57 hin57 (by rw [hx1.1]; exact hv)
  have K58 : Go p e below T52 (mkF m 17 #[.val (.ref a), .val (.int i)] [(.ref ce)]) G := fun tq kq => K56 tq (X52.aaload hx (j := ((f + i) % mm)) (v := (.ref ce)) (by rw [e52]; exact Ar57.1) (State.isArrayOf_alike hZ.alike Ar57.2.1) rfl Ar57.2.2 hin57 hat57 (g := (mkF m 16 #[.val (.ref a), .val (.int i)] [(.int ((f + i) % mm)), (.ref r)])) rfl rfl (hb hby d_prog_46_method_3_16) _ kq)
  obtain ⟨fs, hr, hrun, hended, hWW, hsame⟩ := X52.leave (v := some (.ref ce)) (fun h => by rw [Bd.returns] at h; cases h)
  refine ⟨_, _, hG _ (K58 _ (retOut X52 hx Bd.returns rfl (Or.inr (Or.inr (Or.inr (Or.inr ⟨rfl, rfl, rfl⟩)))) (hb hby d_prog_46_method_3_17) hr)), hrun, hended, _, _, rfl, ?_, ⟨_, rfl⟩, hWW, hsame.mono (by decide) (by decide)⟩
  show QAT Z a i r k mm f vs ce h0 n0 _ T52.heap _
  rw [e52]
  exact ⟨rfl, N0, rfl⟩
theorem own_sel {Z : State} {a0 : Array Value} (hW : ∀ (k : Nat) (d : Jvm.Cond), tables_1[k]? = some d → d.before a0 Z = true) : (Cond.selects "com/example/goalpost/goalpost/runtime/ListValue" (⟨"com/example/goalpost/goalpost/runtime/ListValue", "grow", "()V"⟩ : MethodName) (⟨"com/example/goalpost/goalpost/runtime/ListValue", "grow", "()V"⟩ : MethodName)).before a0 Z = true := by
  obtain ⟨mk, methM, hnamed, hmethM, -, -⟩ := Cond.instanceMethod_spec (hW 63 _ rfl)
  have hp := Cond.privateMethod_at (hW 64 _ rfl) mk methM hnamed hmethM
  have hc := findClass_of_methodNamed hnamed
  obtain ⟨c, k, g0, g2, -, g6, -⟩ := Cond.instantiable_spec (hW 15 _ rfl)
  cases hc.symm.trans g0
  have g7 : k.isInterface = false := (Bool.or_eq_false_iff.mp g6).1
  have hf := State.methodFound?_of_named hnamed (by decide)
  have hs := selectMethod_private (p := {}) (c := mk.cls) hmethM hp
  simp [Cond.before, Cond.holds, Cond.value, g0, hf, hnamed, hs, g2, g7]
theorem ef_prog_46_method_14_R (m : MethodId) (x0 : Addr) : entryFrame m #[(.ref x0)] 3 = mkF m 0 #[.val (.ref x0), .unset, .unset] [] := by first | (simp [entryFrame, mkF, argsToLocals, Value.category]; done) | rfl
theorem pd_81 : parseMethodDescriptor "(I)Lcom/example/goalpost/goalpost/runtime/Cell;" = some ⟨[.int], some (.object "com/example/goalpost/goalpost/runtime/Cell")⟩ := by decide +kernel
theorem d_prog_46_method_14_0 : decode prog_46_method_14_code 0 = .ok (.aload_n 0, 1) := by decide +kernel
theorem d_prog_46_method_14_1 : decode prog_46_method_14_code 1 = .ok (.getfield 15, 3) := by decide +kernel
theorem d_prog_46_method_14_4 : decode prog_46_method_14_code 4 = .ok (.arraylength, 1) := by decide +kernel
theorem d_prog_46_method_14_5 : decode prog_46_method_14_code 5 = .ok (.iconst 2, 1) := by decide +kernel
theorem d_prog_46_method_14_6 : decode prog_46_method_14_code 6 = .ok (.imul, 1) := by decide +kernel
theorem d_prog_46_method_14_7 : decode prog_46_method_14_code 7 = .ok (.anewarray 13, 3) := by decide +kernel
theorem d_prog_46_method_14_10 : decode prog_46_method_14_code 10 = .ok (.astore_n 1, 1) := by decide +kernel
theorem d_prog_46_method_14_11 : decode prog_46_method_14_code 11 = .ok (.iconst 0, 1) := by decide +kernel
theorem d_prog_46_method_14_12 : decode prog_46_method_14_code 12 = .ok (.istore_n 2, 1) := by decide +kernel
theorem d_prog_46_method_14_13 : decode prog_46_method_14_code 13 = .ok (.iload_n 2, 1) := by decide +kernel
theorem d_prog_46_method_14_14 : decode prog_46_method_14_code 14 = .ok (.aload_n 0, 1) := by decide +kernel
theorem d_prog_46_method_14_15 : decode prog_46_method_14_code 15 = .ok (.getfield 21, 3) := by decide +kernel
theorem d_prog_46_method_14_18 : decode prog_46_method_14_code 18 = .ok (.if_icmp .ge 17, 3) := by decide +kernel
theorem d_prog_46_method_14_21 : decode prog_46_method_14_code 21 = .ok (.aload_n 1, 1) := by decide +kernel
theorem d_prog_46_method_14_22 : decode prog_46_method_14_code 22 = .ok (.iload_n 2, 1) := by decide +kernel
theorem d_prog_46_method_14_23 : decode prog_46_method_14_code 23 = .ok (.aload_n 0, 1) := by decide +kernel
theorem d_prog_46_method_14_24 : decode prog_46_method_14_code 24 = .ok (.iload_n 2, 1) := by decide +kernel
theorem d_prog_46_method_14_25 : decode prog_46_method_14_code 25 = .ok (.invokevirtual 34, 3) := by decide +kernel
theorem d_prog_46_method_14_28 : decode prog_46_method_14_code 28 = .ok (.aastore, 1) := by decide +kernel
theorem d_prog_46_method_14_29 : decode prog_46_method_14_code 29 = .ok (.iinc 2 1, 3) := by decide +kernel
theorem d_prog_46_method_14_32 : decode prog_46_method_14_code 32 = .ok (.goto (-19), 3) := by decide +kernel
theorem d_prog_46_method_14_35 : decode prog_46_method_14_code 35 = .ok (.aload_n 0, 1) := by decide +kernel
theorem d_prog_46_method_14_36 : decode prog_46_method_14_code 36 = .ok (.aload_n 1, 1) := by decide +kernel
theorem d_prog_46_method_14_37 : decode prog_46_method_14_code 37 = .ok (.putfield 15, 3) := by decide +kernel
theorem d_prog_46_method_14_40 : decode prog_46_method_14_code 40 = .ok (.aload_n 0, 1) := by decide +kernel
theorem d_prog_46_method_14_41 : decode prog_46_method_14_code 41 = .ok (.iconst 0, 1) := by decide +kernel
theorem d_prog_46_method_14_42 : decode prog_46_method_14_code 42 = .ok (.putfield 25, 3) := by decide +kernel
theorem d_prog_46_method_14_45 : decode prog_46_method_14_code 45 = .ok (.return_, 1) := by decide +kernel
def QGR10 (Z : State) (a : Addr) (r : Addr) (k : ClassId) (ce0 : Addr) (h0 : Heap) (n0 : Nat) (v : Option Value) (h : Heap) (L : List Loc) : Prop := v = none ∧ Fr n0 L ∧ Keep h0 h [a] ∧ Exa Z h a "com/example/goalpost/goalpost/runtime/ListValue" ∧ ∃ (b : Addr) (k2 : ClassId), h0.size ≤ b ∧ n0 ≤ b ∧ Fld Z h a "com/example/goalpost/goalpost/runtime/ListValue" "ring" "[Lcom/example/goalpost/goalpost/runtime/Cell;" (.ref b) ∧ Fld Z h a "com/example/goalpost/goalpost/runtime/ListValue" "front" "I" (.int (0 : Int32)) ∧ Fld Z h a "com/example/goalpost/goalpost/runtime/ListValue" "size" "I" (.int (1 : Int32)) ∧ Arv Z h b k2 (.object "com/example/goalpost/goalpost/runtime/Cell") (2 : Int32) [(.ref ce0), .null] .null ∧ Ovr Z k2 "com/example/goalpost/goalpost/runtime/Cell"
set_option maxRecDepth 65536 in
set_option maxHeartbeats 40000000 in
theorem rmGR10 (l : Launch) (Z : State) (a0 : Array Value) (hw : ∀ d ∈ tables_1, d.before a0 Z = true) (ws : List Jvm.Cond) (a : Addr) (r : Addr) (k : ClassId) (ce0 : Addr) (h0 : Heap) (n0 : Nat) (Z0 : n0 ≤ h0.size) (F_ring_a : Fld Z h0 a "com/example/goalpost/goalpost/runtime/ListValue" "ring" "[Lcom/example/goalpost/goalpost/runtime/Cell;" (.ref r)) (F_front_a : Fld Z h0 a "com/example/goalpost/goalpost/runtime/ListValue" "front" "I" (.int (0 : Int32))) (F_size_a : Fld Z h0 a "com/example/goalpost/goalpost/runtime/ListValue" "size" "I" (.int (1 : Int32))) (E_a : Exa Z h0 a "com/example/goalpost/goalpost/runtime/ListValue") (ge_a : n0 ≤ a) (V_r : Arv Z h0 r k (.object "com/example/goalpost/goalpost/runtime/Cell") (1 : Int32) [(.ref ce0)] .null) (E_ce0 : Exa Z h0 ce0 "com/example/goalpost/goalpost/runtime/Cell") :
    MetFree l (⟨"com/example/goalpost/goalpost/runtime/ListValue", "grow", "()V"⟩ : MethodName) (head1 (Jvm.Cond.code (⟨"com/example/goalpost/goalpost/runtime/ListValue", "grow", "()V"⟩ : MethodName) prog_46_method_14_code 3 none :: ws) ({ frames := 1, cells := 1, slots := 2, locals := 15 } : Room)) (fun aa UU => aa = #[(.ref a)] ∧ Z.Warmed39 UU.vm ∧ UU.heap = h0) (fun _ _ _ _ _ => True) (fun _ UU oo UU' => ∃ vv LL, oo = .returned vv ∧ QGR10 Z a r k ce0 h0 n0 vv UU'.heap LL ∧ FrameEnd UU oo UU' LL ({ frames := 1, cells := 1, slots := 2, locals := 15 } : Room).cells ({ frames := 1, cells := 1, slots := 2, locals := 15 } : Room).slots) := by
  refine MetFree.of_bodySF (plainFor_of_name pn_53) hisR ?_
  intro p e s m args below meth c s₁ Bd hml0 hP hK
  obtain ⟨rfl, hZ, hh⟩ := hP
  have hx := Bd.exec
  have hby := Bd.bytes
  have hml : c.maxLocals = 3 := hml0
  have hown : s.vm.findClass "com/example/goalpost/goalpost/runtime/ListValue" = some m.cls := findClass_of_methodNamed Bd.named
  have hnm := (name_of_methodNamed Bd.named Bd.method).1
  have hW : ∀ (k : Nat) (d : Jvm.Cond), tables_1[k]? = some d → d.before a0 Z = true := fun k d h => hw d (List.mem_of_getElem? h)
  have X0 : Stand p l e ({ frames := 1, cells := 1, slots := 2, locals := 15 } : Room) s m #[(.ref a)] below meth c s₁ [] 0 0 := Stand.of_body Bd
  have e0 : s₁.heap = h0 := by rw [← hh, Bd.state]; rfl
  have N0 := Fr.nil n0
  obtain ⟨G, hG, K0⟩ : ∃ G : State → Prop, (∀ tq, G tq → Steps p.tables e below (s₁.setTop (entryFrame m #[(.ref a)] 3)) tq) ∧ Go p e below s₁ (mkF m 0 #[.val (.ref a), .unset, .unset] []) G := ⟨fun tq => Steps p.tables e below (s₁.setTop (entryFrame m #[(.ref a)] 3)) tq, fun _ h => h, fun tq kq => castTop (ef_prog_46_method_14_R m a) kq⟩
  have K59 : Go p e below s₁ (mkF m 1 #[.val (.ref a), .unset, .unset] [(.ref a)]) G := fun tq kq => K0 tq (XS.aloadN X0.here hx rfl (hb hby d_prog_46_method_14_0) rfl rfl kq)
  obtain ⟨T60, X60, e60, st60⟩ := getF X0 hx hZ hown (host := "") (Or.inl (hW 36 _ rfl)) Via.refl e0 F_ring_a (g := (mkF m 1 #[.val (.ref a), .unset, .unset] [(.ref a)])) rfl rfl (hb hby d_prog_46_method_14_1)
  have K61 : Go p e below T60 (mkF m 4 #[.val (.ref a), .unset, .unset] [(.ref r)]) G := fun tq kq => K59 tq (st60 tq kq)
  obtain ⟨cl62, Ar62, q62, S62, Nn62, Hh62, Gg62⟩ := id V_r
  have K63 : Go p e below T60 (mkF m 5 #[.val (.ref a), .unset, .unset] [(.int (1 : Int32))]) G := fun tq kq => K61 tq (X60.arraylength hx (by rw [e60]; exact Ar62.1) (State.isArrayOf_alike hZ.alike Ar62.2.1) (g := (mkF m 4 #[.val (.ref a), .unset, .unset] [(.ref r)])) rfl rfl (hb hby d_prog_46_method_14_4) _ (by rw [len_of S62 Nn62]; exact kq))
  have K64 : Go p e below T60 (mkF m 6 #[.val (.ref a), .unset, .unset] [(.int (2 : Int32)), (.int (1 : Int32))]) G := fun tq kq => K63 tq (XS.iconst X60.here hx rfl (hb hby d_prog_46_method_14_5) kq)
  have K65 : Go p e below T60 (mkF m 7 #[.val (.ref a), .unset, .unset] [(.int (2 : Int32))]) G := fun tq kq => K64 tq (XS.imul X60.here hx rfl (hb hby d_prog_46_method_14_6) rfl kq)
  obtain ⟨T66, h66, k66, X66, e66, E66, A66, O66, st66⟩ := newR X60 hx hZ hown (hW 34 _ rfl) (hW 35 _ rfl) e60 (g := (mkF m 7 #[.val (.ref a), .unset, .unset] [(.int (2 : Int32))])) rfl (hb hby d_prog_46_method_14_7) rfl (by decide) (cap := 2) (by decide) (by decide) (by decide) (by decide)
  obtain ⟨b66, g66⟩ : ∃ z, z = h0.size := ⟨_, rfl⟩
  rw [← g66] at A66 st66
  have ne66_a : a ≠ b66 := Nat.ne_of_lt (Nat.lt_of_lt_of_le F_ring_a.lt (Nat.le_of_eq g66.symm))
  have ne66_r : r ≠ b66 := Nat.ne_of_lt (Nat.lt_of_lt_of_le V_r.lt (Nat.le_of_eq g66.symm))
  have ne66_ce0 : ce0 ≠ b66 := Nat.ne_of_lt (Nat.lt_of_lt_of_le E_ce0.lt (Nat.le_of_eq g66.symm))
  have ge_b66 : n0 ≤ b66 := Nat.le_trans Z0 (Nat.le_of_eq g66.symm)
  have sz_b66 : h0.size ≤ b66 := Nat.le_trans ((Keep.refl h0 [a])).1 (Nat.le_of_eq g66.symm)
  have V66 : Arv Z h66 b66 k66 (.object "com/example/goalpost/goalpost/runtime/Cell") (2 : Int32) [.null, .null] .null := (Arv.new A66 (by decide)).pad (pad_rep [] .null 2)
  have K67 : Go p e below T66 (mkF m 10 #[.val (.ref a), .unset, .unset] [(.ref b66)]) G := fun tq kq => K65 tq (st66 tq kq)
  have K68 : Go p e below T66 (mkF m 11 #[.val (.ref a), .val (.ref b66), .unset] []) G := fun tq kq => K67 tq (XS.astoreN X66.here hx rfl (hb hby d_prog_46_method_14_10) rfl rfl (l' := #[.val (.ref a), .val (.ref b66), .unset]) rfl kq)
  have K69 : Go p e below T66 (mkF m 12 #[.val (.ref a), .val (.ref b66), .unset] [(.int (0 : Int32))]) G := fun tq kq => K68 tq (XS.iconst X66.here hx rfl (hb hby d_prog_46_method_14_11) kq)
  have K70 : Go p e below T66 (mkF m 13 #[.val (.ref a), .val (.ref b66), .val (.int (0 : Int32))] []) G := fun tq kq => K69 tq (XS.istoreN X66.here hx rfl (hb hby d_prog_46_method_14_12) rfl (l' := #[.val (.ref a), .val (.ref b66), .val (.int (0 : Int32))]) rfl kq)
  have K71 : Go p e below T66 (mkF m 14 #[.val (.ref a), .val (.ref b66), .val (.int (0 : Int32))] [(.int (0 : Int32))]) G := fun tq kq => K70 tq (XS.iloadN X66.here hx rfl (hb hby d_prog_46_method_14_13) rfl kq)
  have K72 : Go p e below T66 (mkF m 15 #[.val (.ref a), .val (.ref b66), .val (.int (0 : Int32))] [(.ref a), (.int (0 : Int32))]) G := fun tq kq => K71 tq (XS.aloadN X66.here hx rfl (hb hby d_prog_46_method_14_14) rfl rfl kq)
  obtain ⟨T73, X73, e73, st73⟩ := getF X66 hx hZ hown (host := "") (Or.inl (hW 43 _ rfl)) Via.refl e66 (F_size_a.ext E66) (g := (mkF m 15 #[.val (.ref a), .val (.ref b66), .val (.int (0 : Int32))] [(.ref a), (.int (0 : Int32))])) rfl rfl (hb hby d_prog_46_method_14_15)
  have K74 : Go p e below T73 (mkF m 18 #[.val (.ref a), .val (.ref b66), .val (.int (0 : Int32))] [(.int (1 : Int32)), (.int (0 : Int32))]) G := fun tq kq => K72 tq (st73 tq kq)
  have K75 : Go p e below T73 (mkF m 21 #[.val (.ref a), .val (.ref b66), .val (.int (0 : Int32))] []) G := fun tq kq => K74 tq (XS.icmpNo X73.here hx rfl (hb hby d_prog_46_method_14_18) rfl ((tlt (by decide : (0 : Int32) < (1 : Int32))).2.1) kq)
  have K76 : Go p e below T73 (mkF m 22 #[.val (.ref a), .val (.ref b66), .val (.int (0 : Int32))] [(.ref b66)]) G := fun tq kq => K75 tq (XS.aloadN X73.here hx rfl (hb hby d_prog_46_method_14_21) rfl rfl kq)
  have K77 : Go p e below T73 (mkF m 23 #[.val (.ref a), .val (.ref b66), .val (.int (0 : Int32))] [(.int (0 : Int32)), (.ref b66)]) G := fun tq kq => K76 tq (XS.iloadN X73.here hx rfl (hb hby d_prog_46_method_14_22) rfl kq)
  have K78 : Go p e below T73 (mkF m 24 #[.val (.ref a), .val (.ref b66), .val (.int (0 : Int32))] [(.ref a), (.int (0 : Int32)), (.ref b66)]) G := fun tq kq => K77 tq (XS.aloadN X73.here hx rfl (hb hby d_prog_46_method_14_23) rfl rfl kq)
  have K79 : Go p e below T73 (mkF m 25 #[.val (.ref a), .val (.ref b66), .val (.int (0 : Int32))] [(.int (0 : Int32)), (.ref a), (.int (0 : Int32)), (.ref b66)]) G := fun tq kq => K78 tq (XS.iloadN X73.here hx rfl (hb hby d_prog_46_method_14_24) rfl kq)
  obtain ⟨cq80, kq80, q80a, q80b, q80c⟩ := isOf hZ e73 (E_a.ext E66)
  obtain ⟨v80, _, ⟨T80, L80, k80, n80⟩, -, X80, ⟨Lc80, hQ80, l80, y80, z80⟩, st80⟩ := X73.virtualBack hx (y := (⟨"com/example/goalpost/goalpost/runtime/ListValue", "at", "(I)Lcom/example/goalpost/goalpost/runtime/Cell;"⟩ : MethodName)) (z := (⟨"com/example/goalpost/goalpost/runtime/ListValue", "at", "(I)Lcom/example/goalpost/goalpost/runtime/Cell;"⟩ : MethodName)) hown (mvT hZ (hW 66 _ rfl)) (mvT hZ (hW 67 _ rfl)) (notFace_of_selects (args := #[]) (mvT hZ (hW 69 _ rfl))) (mvT hZ (hW 69 _ rfl)) (mvT hZ (hW 68 _ rfl)) (by decide) (backOf (W := 2) (rmAT l Z a0 hw [] a (0 : Int32) r k (1 : Int32) (0 : Int32) [(.ref ce0)] ce0 h66 n0 (Nat.le_trans Z0 E66.1) (F_ring_a.ext E66) (F_front_a.ext E66) (V_r.ext E66) (by unfold own_B; decide) (by decide) rfl) hZ (hW 70 _ rfl) (hW 16 _ rfl) (by decide) (by decide)) q80a q80c (g := (mkF m 25 #[.val (.ref a), .val (.ref b66), .val (.int (0 : Int32))] [(.int (0 : Int32)), (.ref a), (.int (0 : Int32)), (.ref b66)])) rfl (by rw [hml]; rfl) (Steps.refl _) (argsL := [(.int (0 : Int32))]) (rest := [(.int (0 : Int32)), (.ref b66)]) (lenOf pd_81 rfl) rfl (by show 2 * 0 + _ ≤ _; exact Nat.le_of_eq rfl) (hb hby d_prog_46_method_14_25) (fun _ _ => ⟨rfl, e73, (by decide : 1 + 0 ≤ _), (by decide : 2 + 0 ≤ _)⟩)
  dsimp only [Pt.U, Pt.locs, Pt.cells, Pt.slots] at X80 l80 y80 z80 st80 hQ80
  subst l80 y80 z80
  obtain ⟨rfl, N80q, E80q⟩ := hQ80
  have N80 := Fr.app N0 N80q
  have K81 : Go p e below T80 (mkF m 28 #[.val (.ref a), .val (.ref b66), .val (.int (0 : Int32))] [(.ref ce0), (.int (0 : Int32)), (.ref b66)]) G := fun tq kq => K79 tq (st80.trans kq)
  obtain ⟨cl82, Ar82, q82, S82, Nn82, Hh82, Gg82⟩ := id V66
  have hin82 : ¬ ((0 : Int32) < 0 ∨ cl82.slots.size ≤ ((0 : Int32)).toNatClampNeg) := inb_of S82 ⟨by decide, by decide⟩
  obtain ⟨T82, h82, X82, e82, W82, st82⟩ := stR X80 hx hZ E80q Ar82 (j := (0 : Int32)) hin82 rfl (Sto.ofV Ar82 q82 O66 (Ins.self (E_ce0.ext E66))) (g := (mkF m 28 #[.val (.ref a), .val (.ref b66), .val (.int (0 : Int32))] [(.ref ce0), (.int (0 : Int32)), (.ref b66)])) rfl rfl (hb hby d_prog_46_method_14_28)
  have V82 : Arv Z h82 b66 k66 (.object "com/example/goalpost/goalpost/runtime/Cell") (2 : Int32) [(.ref ce0), .null] .null := Arv.set Ar82 q82 S82 Nn82 Hh82 Gg82 rfl W82 0 rfl (Nat.le_of_ble_eq_true rfl)
  have N82 := Fr.snoc X82 N80 ge_b66
  have K83 : Go p e below T82 (mkF m 29 #[.val (.ref a), .val (.ref b66), .val (.int (0 : Int32))] []) G := fun tq kq => K81 tq (st82 tq kq)
  have K84 : Go p e below T82 (mkF m 32 #[.val (.ref a), .val (.ref b66), .val (.int (1 : Int32))] []) G := fun tq kq => K83 tq (XS.iinc X82.here hx rfl (hb hby d_prog_46_method_14_29) rfl (l' := #[.val (.ref a), .val (.ref b66), .val (.int (1 : Int32))]) rfl kq)
  have K85 : Go p e below T82 (mkF m 13 #[.val (.ref a), .val (.ref b66), .val (.int (1 : Int32))] []) G := fun tq kq => K84 tq (XS.goto X82.here hx rfl (pc0 := 32) (pc' := 13) rfl (hb hby d_prog_46_method_14_32) (by decide) (by decide) kq)
  have K86 : Go p e below T82 (mkF m 14 #[.val (.ref a), .val (.ref b66), .val (.int (1 : Int32))] [(.int (1 : Int32))]) G := fun tq kq => K85 tq (XS.iloadN X82.here hx rfl (hb hby d_prog_46_method_14_13) rfl kq)
  have K87 : Go p e below T82 (mkF m 15 #[.val (.ref a), .val (.ref b66), .val (.int (1 : Int32))] [(.ref a), (.int (1 : Int32))]) G := fun tq kq => K86 tq (XS.aloadN X82.here hx rfl (hb hby d_prog_46_method_14_14) rfl rfl kq)
  obtain ⟨T88, X88, e88, st88⟩ := getF X82 hx hZ hown (host := "") (Or.inl (hW 43 _ rfl)) Via.refl e82 ((F_size_a.ext E66).other W82 (Or.inl ne66_a)) (g := (mkF m 15 #[.val (.ref a), .val (.ref b66), .val (.int (1 : Int32))] [(.ref a), (.int (1 : Int32))])) rfl rfl (hb hby d_prog_46_method_14_15)
  have K89 : Go p e below T88 (mkF m 18 #[.val (.ref a), .val (.ref b66), .val (.int (1 : Int32))] [(.int (1 : Int32)), (.int (1 : Int32))]) G := fun tq kq => K87 tq (st88 tq kq)
  have K90 : Go p e below T88 (mkF m 35 #[.val (.ref a), .val (.ref b66), .val (.int (1 : Int32))] []) G := fun tq kq => K89 tq (XS.icmpYes X88.here hx rfl (pc0 := 18) (pc' := 35) rfl (hb hby d_prog_46_method_14_18) rfl ((flt (by decide : ¬ ((1 : Int32) < (1 : Int32)))).2.1) (by decide) (by decide) kq)
  have K91 : Go p e below T88 (mkF m 36 #[.val (.ref a), .val (.ref b66), .val (.int (1 : Int32))] [(.ref a)]) G := fun tq kq => K90 tq (XS.aloadN X88.here hx rfl (hb hby d_prog_46_method_14_35) rfl rfl kq)
  have K92 : Go p e below T88 (mkF m 37 #[.val (.ref a), .val (.ref b66), .val (.int (1 : Int32))] [(.ref b66), (.ref a)]) G := fun tq kq => K91 tq (XS.aloadN X88.here hx rfl (hb hby d_prog_46_method_14_36) rfl rfl kq)
  obtain ⟨T93, h93, X93, e93, W93, st93⟩ := putF X88 hx hZ hown (host := "") (Or.inl (hW 36 _ rfl)) Via.refl e88 ((F_ring_a.ext E66).other W82 (Or.inl ne66_a)) ((E_a.ext E66).wr W82) (Or.inl (hW 37 _ rfl)) (hW 15 _ rfl) (ty := (.array (.object "com/example/goalpost/goalpost/runtime/Cell"))) (by decide) rfl rfl (g := (mkF m 37 #[.val (.ref a), .val (.ref b66), .val (.int (1 : Int32))] [(.ref b66), (.ref a)])) rfl rfl (hb hby d_prog_46_method_14_37)
  have N93 := Fr.snoc X93 N82 ge_a
  have F93 := Fld.same W93 ((F_ring_a.ext E66).other W82 (Or.inl ne66_a))
  have K94 : Go p e below T93 (mkF m 40 #[.val (.ref a), .val (.ref b66), .val (.int (1 : Int32))] []) G := fun tq kq => K92 tq (st93 tq kq)
  have K95 : Go p e below T93 (mkF m 41 #[.val (.ref a), .val (.ref b66), .val (.int (1 : Int32))] [(.ref a)]) G := fun tq kq => K94 tq (XS.aloadN X93.here hx rfl (hb hby d_prog_46_method_14_40) rfl rfl kq)
  have K96 : Go p e below T93 (mkF m 42 #[.val (.ref a), .val (.ref b66), .val (.int (1 : Int32))] [(.int (0 : Int32)), (.ref a)]) G := fun tq kq => K95 tq (XS.iconst X93.here hx rfl (hb hby d_prog_46_method_14_41) kq)
  obtain ⟨T97, h97, X97, e97, W97, st97⟩ := putF X93 hx hZ hown (host := "") (Or.inl (hW 45 _ rfl)) Via.refl e93 (((F_front_a.ext E66).other W82 (Or.inl ne66_a)).other W93 (Or.inr (slot_ne (Or.inl (hW 46 _ rfl)) (Or.inl (hW 37 _ rfl)) (by decide) (t := .int) (t' := (.array (.object "com/example/goalpost/goalpost/runtime/Cell"))) (by decide) (by decide)))) (((E_a.ext E66).wr W82).wr W93) (Or.inl (hW 46 _ rfl)) (hW 15 _ rfl) (ty := .int) (by decide) rfl rfl (g := (mkF m 42 #[.val (.ref a), .val (.ref b66), .val (.int (1 : Int32))] [(.int (0 : Int32)), (.ref a)])) rfl rfl (hb hby d_prog_46_method_14_42)
  have N97 := Fr.snoc X97 N93 ge_a
  have F97 := Fld.same W97 (((F_front_a.ext E66).other W82 (Or.inl ne66_a)).other W93 (Or.inr (slot_ne (Or.inl (hW 46 _ rfl)) (Or.inl (hW 37 _ rfl)) (by decide) (t := .int) (t' := (.array (.object "com/example/goalpost/goalpost/runtime/Cell"))) (by decide) (by decide))))
  have K98 : Go p e below T97 (mkF m 45 #[.val (.ref a), .val (.ref b66), .val (.int (1 : Int32))] []) G := fun tq kq => K96 tq (st97 tq kq)
  obtain ⟨fs, hr, hrun, hended, hWW, hsame⟩ := X97.leave (v := none) (fun _ => rfl)
  refine ⟨_, _, hG _ (K98 _ (X97.returnOut hx Bd.returns (hb hby d_prog_46_method_14_45) hr)), hrun, hended, _, _, rfl, ?_, ⟨_, rfl⟩, hWW, hsame.mono (by decide) (by decide)⟩
  show QGR10 Z a r k ce0 h0 n0 _ T97.heap _
  rw [e97]
  exact ⟨rfl, N97, (((((Keep.refl h0 [a]).ext E66).wr W82 (Or.inr sz_b66)).wr W93 (Or.inl (List.mem_of_getElem? (i := 0) rfl))).wr W97 (Or.inl (List.mem_of_getElem? (i := 0) rfl))), ((((E_a.ext E66).wr W82).wr W93).wr W97), b66, k66, sz_b66, ge_b66, (F93.other W97 (Or.inr (slot_ne (Or.inl (hW 37 _ rfl)) (Or.inl (hW 46 _ rfl)) (by decide) (t := (.array (.object "com/example/goalpost/goalpost/runtime/Cell"))) (t' := .int) (by decide) (by decide)))), F97, ((((F_size_a.ext E66).other W82 (Or.inl ne66_a)).other W93 (Or.inr (slot_ne (Or.inl (hW 44 _ rfl)) (Or.inl (hW 37 _ rfl)) (by decide) (t := .int) (t' := (.array (.object "com/example/goalpost/goalpost/runtime/Cell"))) (by decide) (by decide)))).other W97 (Or.inr (slot_ne (Or.inl (hW 44 _ rfl)) (Or.inl (hW 46 _ rfl)) (by decide) (t := .int) (t' := .int) (by decide) (by decide)))), ((V82.other W93 (Ne.symm ne66_a)).other W97 (Ne.symm ne66_a)), O66⟩
theorem own_lit10 {vs : List Value} {cs : List (Addr × Addr)} (h : own_Ring vs 1 0 cs) (hl : cs.length = 1) : ∃ p0 : Addr × Addr, cs = [p0] ∧ vs = [(.ref p0.1)] := by
  obtain ⟨h1, -, -, h4⟩ := h
  match cs, hl, vs, h1 with
  | [p0], _, [v0], _ =>
    refine ⟨p0, rfl, ?_⟩
    have q0 := h4 0 p0 rfl
    simp at q0
    simp [q0]
theorem own_rg10 {p0 : Addr × Addr} : own_Ring [(.ref p0.1), .null] 2 0 [p0] := by
  refine ⟨rfl, by decide, by simp, fun i p hp => ?_⟩
  match i, hp with
  | 0, hp => simp at hp; subst hp; rfl
  | i + 1, hp => simp at hp
def QGR20 (Z : State) (a : Addr) (r : Addr) (k : ClassId) (ce0 : Addr) (ce1 : Addr) (h0 : Heap) (n0 : Nat) (v : Option Value) (h : Heap) (L : List Loc) : Prop := v = none ∧ Fr n0 L ∧ Keep h0 h [a] ∧ Exa Z h a "com/example/goalpost/goalpost/runtime/ListValue" ∧ ∃ (b : Addr) (k2 : ClassId), h0.size ≤ b ∧ n0 ≤ b ∧ Fld Z h a "com/example/goalpost/goalpost/runtime/ListValue" "ring" "[Lcom/example/goalpost/goalpost/runtime/Cell;" (.ref b) ∧ Fld Z h a "com/example/goalpost/goalpost/runtime/ListValue" "front" "I" (.int (0 : Int32)) ∧ Fld Z h a "com/example/goalpost/goalpost/runtime/ListValue" "size" "I" (.int (2 : Int32)) ∧ Arv Z h b k2 (.object "com/example/goalpost/goalpost/runtime/Cell") (4 : Int32) [(.ref ce0), (.ref ce1), .null, .null] .null ∧ Ovr Z k2 "com/example/goalpost/goalpost/runtime/Cell"
set_option maxRecDepth 65536 in
set_option maxHeartbeats 40000000 in
theorem rmGR20 (l : Launch) (Z : State) (a0 : Array Value) (hw : ∀ d ∈ tables_1, d.before a0 Z = true) (ws : List Jvm.Cond) (a : Addr) (r : Addr) (k : ClassId) (ce0 : Addr) (ce1 : Addr) (h0 : Heap) (n0 : Nat) (Z0 : n0 ≤ h0.size) (F_ring_a : Fld Z h0 a "com/example/goalpost/goalpost/runtime/ListValue" "ring" "[Lcom/example/goalpost/goalpost/runtime/Cell;" (.ref r)) (F_front_a : Fld Z h0 a "com/example/goalpost/goalpost/runtime/ListValue" "front" "I" (.int (0 : Int32))) (F_size_a : Fld Z h0 a "com/example/goalpost/goalpost/runtime/ListValue" "size" "I" (.int (2 : Int32))) (E_a : Exa Z h0 a "com/example/goalpost/goalpost/runtime/ListValue") (ge_a : n0 ≤ a) (V_r : Arv Z h0 r k (.object "com/example/goalpost/goalpost/runtime/Cell") (2 : Int32) [(.ref ce0), (.ref ce1)] .null) (E_ce0 : Exa Z h0 ce0 "com/example/goalpost/goalpost/runtime/Cell") (E_ce1 : Exa Z h0 ce1 "com/example/goalpost/goalpost/runtime/Cell") :
    MetFree l (⟨"com/example/goalpost/goalpost/runtime/ListValue", "grow", "()V"⟩ : MethodName) (head1 (Jvm.Cond.code (⟨"com/example/goalpost/goalpost/runtime/ListValue", "grow", "()V"⟩ : MethodName) prog_46_method_14_code 3 none :: ws) ({ frames := 1, cells := 1, slots := 4, locals := 15 } : Room)) (fun aa UU => aa = #[(.ref a)] ∧ Z.Warmed39 UU.vm ∧ UU.heap = h0) (fun _ _ _ _ _ => True) (fun _ UU oo UU' => ∃ vv LL, oo = .returned vv ∧ QGR20 Z a r k ce0 ce1 h0 n0 vv UU'.heap LL ∧ FrameEnd UU oo UU' LL ({ frames := 1, cells := 1, slots := 4, locals := 15 } : Room).cells ({ frames := 1, cells := 1, slots := 4, locals := 15 } : Room).slots) := by
  refine MetFree.of_bodySF (plainFor_of_name pn_53) hisR ?_
  intro p e s m args below meth c s₁ Bd hml0 hP hK
  obtain ⟨rfl, hZ, hh⟩ := hP
  have hx := Bd.exec
  have hby := Bd.bytes
  have hml : c.maxLocals = 3 := hml0
  have hown : s.vm.findClass "com/example/goalpost/goalpost/runtime/ListValue" = some m.cls := findClass_of_methodNamed Bd.named
  have hnm := (name_of_methodNamed Bd.named Bd.method).1
  have hW : ∀ (k : Nat) (d : Jvm.Cond), tables_1[k]? = some d → d.before a0 Z = true := fun k d h => hw d (List.mem_of_getElem? h)
  have X0 : Stand p l e ({ frames := 1, cells := 1, slots := 4, locals := 15 } : Room) s m #[(.ref a)] below meth c s₁ [] 0 0 := Stand.of_body Bd
  have e0 : s₁.heap = h0 := by rw [← hh, Bd.state]; rfl
  have N0 := Fr.nil n0
  obtain ⟨G, hG, K0⟩ : ∃ G : State → Prop, (∀ tq, G tq → Steps p.tables e below (s₁.setTop (entryFrame m #[(.ref a)] 3)) tq) ∧ Go p e below s₁ (mkF m 0 #[.val (.ref a), .unset, .unset] []) G := ⟨fun tq => Steps p.tables e below (s₁.setTop (entryFrame m #[(.ref a)] 3)) tq, fun _ h => h, fun tq kq => castTop (ef_prog_46_method_14_R m a) kq⟩
  have K99 : Go p e below s₁ (mkF m 1 #[.val (.ref a), .unset, .unset] [(.ref a)]) G := fun tq kq => K0 tq (XS.aloadN X0.here hx rfl (hb hby d_prog_46_method_14_0) rfl rfl kq)
  obtain ⟨T100, X100, e100, st100⟩ := getF X0 hx hZ hown (host := "") (Or.inl (hW 36 _ rfl)) Via.refl e0 F_ring_a (g := (mkF m 1 #[.val (.ref a), .unset, .unset] [(.ref a)])) rfl rfl (hb hby d_prog_46_method_14_1)
  have K101 : Go p e below T100 (mkF m 4 #[.val (.ref a), .unset, .unset] [(.ref r)]) G := fun tq kq => K99 tq (st100 tq kq)
  obtain ⟨cl102, Ar102, q102, S102, Nn102, Hh102, Gg102⟩ := id V_r
  have K103 : Go p e below T100 (mkF m 5 #[.val (.ref a), .unset, .unset] [(.int (2 : Int32))]) G := fun tq kq => K101 tq (X100.arraylength hx (by rw [e100]; exact Ar102.1) (State.isArrayOf_alike hZ.alike Ar102.2.1) (g := (mkF m 4 #[.val (.ref a), .unset, .unset] [(.ref r)])) rfl rfl (hb hby d_prog_46_method_14_4) _ (by rw [len_of S102 Nn102]; exact kq))
  have K104 : Go p e below T100 (mkF m 6 #[.val (.ref a), .unset, .unset] [(.int (2 : Int32)), (.int (2 : Int32))]) G := fun tq kq => K103 tq (XS.iconst X100.here hx rfl (hb hby d_prog_46_method_14_5) kq)
  have K105 : Go p e below T100 (mkF m 7 #[.val (.ref a), .unset, .unset] [(.int (4 : Int32))]) G := fun tq kq => K104 tq (XS.imul X100.here hx rfl (hb hby d_prog_46_method_14_6) rfl kq)
  obtain ⟨T106, h106, k106, X106, e106, E106, A106, O106, st106⟩ := newR X100 hx hZ hown (hW 34 _ rfl) (hW 35 _ rfl) e100 (g := (mkF m 7 #[.val (.ref a), .unset, .unset] [(.int (4 : Int32))])) rfl (hb hby d_prog_46_method_14_7) rfl (by decide) (cap := 4) (by decide) (by decide) (by decide) (by decide)
  obtain ⟨b106, g106⟩ : ∃ z, z = h0.size := ⟨_, rfl⟩
  rw [← g106] at A106 st106
  have ne106_a : a ≠ b106 := Nat.ne_of_lt (Nat.lt_of_lt_of_le F_ring_a.lt (Nat.le_of_eq g106.symm))
  have ne106_r : r ≠ b106 := Nat.ne_of_lt (Nat.lt_of_lt_of_le V_r.lt (Nat.le_of_eq g106.symm))
  have ne106_ce0 : ce0 ≠ b106 := Nat.ne_of_lt (Nat.lt_of_lt_of_le E_ce0.lt (Nat.le_of_eq g106.symm))
  have ne106_ce1 : ce1 ≠ b106 := Nat.ne_of_lt (Nat.lt_of_lt_of_le E_ce1.lt (Nat.le_of_eq g106.symm))
  have ge_b106 : n0 ≤ b106 := Nat.le_trans Z0 (Nat.le_of_eq g106.symm)
  have sz_b106 : h0.size ≤ b106 := Nat.le_trans ((Keep.refl h0 [a])).1 (Nat.le_of_eq g106.symm)
  have V106 : Arv Z h106 b106 k106 (.object "com/example/goalpost/goalpost/runtime/Cell") (4 : Int32) [.null, .null, .null, .null] .null := (Arv.new A106 (by decide)).pad (pad_rep [] .null 4)
  have K107 : Go p e below T106 (mkF m 10 #[.val (.ref a), .unset, .unset] [(.ref b106)]) G := fun tq kq => K105 tq (st106 tq kq)
  have K108 : Go p e below T106 (mkF m 11 #[.val (.ref a), .val (.ref b106), .unset] []) G := fun tq kq => K107 tq (XS.astoreN X106.here hx rfl (hb hby d_prog_46_method_14_10) rfl rfl (l' := #[.val (.ref a), .val (.ref b106), .unset]) rfl kq)
  have K109 : Go p e below T106 (mkF m 12 #[.val (.ref a), .val (.ref b106), .unset] [(.int (0 : Int32))]) G := fun tq kq => K108 tq (XS.iconst X106.here hx rfl (hb hby d_prog_46_method_14_11) kq)
  have K110 : Go p e below T106 (mkF m 13 #[.val (.ref a), .val (.ref b106), .val (.int (0 : Int32))] []) G := fun tq kq => K109 tq (XS.istoreN X106.here hx rfl (hb hby d_prog_46_method_14_12) rfl (l' := #[.val (.ref a), .val (.ref b106), .val (.int (0 : Int32))]) rfl kq)
  have K111 : Go p e below T106 (mkF m 14 #[.val (.ref a), .val (.ref b106), .val (.int (0 : Int32))] [(.int (0 : Int32))]) G := fun tq kq => K110 tq (XS.iloadN X106.here hx rfl (hb hby d_prog_46_method_14_13) rfl kq)
  have K112 : Go p e below T106 (mkF m 15 #[.val (.ref a), .val (.ref b106), .val (.int (0 : Int32))] [(.ref a), (.int (0 : Int32))]) G := fun tq kq => K111 tq (XS.aloadN X106.here hx rfl (hb hby d_prog_46_method_14_14) rfl rfl kq)
  obtain ⟨T113, X113, e113, st113⟩ := getF X106 hx hZ hown (host := "") (Or.inl (hW 43 _ rfl)) Via.refl e106 (F_size_a.ext E106) (g := (mkF m 15 #[.val (.ref a), .val (.ref b106), .val (.int (0 : Int32))] [(.ref a), (.int (0 : Int32))])) rfl rfl (hb hby d_prog_46_method_14_15)
  have K114 : Go p e below T113 (mkF m 18 #[.val (.ref a), .val (.ref b106), .val (.int (0 : Int32))] [(.int (2 : Int32)), (.int (0 : Int32))]) G := fun tq kq => K112 tq (st113 tq kq)
  have K115 : Go p e below T113 (mkF m 21 #[.val (.ref a), .val (.ref b106), .val (.int (0 : Int32))] []) G := fun tq kq => K114 tq (XS.icmpNo X113.here hx rfl (hb hby d_prog_46_method_14_18) rfl ((tlt (by decide : (0 : Int32) < (2 : Int32))).2.1) kq)
  have K116 : Go p e below T113 (mkF m 22 #[.val (.ref a), .val (.ref b106), .val (.int (0 : Int32))] [(.ref b106)]) G := fun tq kq => K115 tq (XS.aloadN X113.here hx rfl (hb hby d_prog_46_method_14_21) rfl rfl kq)
  have K117 : Go p e below T113 (mkF m 23 #[.val (.ref a), .val (.ref b106), .val (.int (0 : Int32))] [(.int (0 : Int32)), (.ref b106)]) G := fun tq kq => K116 tq (XS.iloadN X113.here hx rfl (hb hby d_prog_46_method_14_22) rfl kq)
  have K118 : Go p e below T113 (mkF m 24 #[.val (.ref a), .val (.ref b106), .val (.int (0 : Int32))] [(.ref a), (.int (0 : Int32)), (.ref b106)]) G := fun tq kq => K117 tq (XS.aloadN X113.here hx rfl (hb hby d_prog_46_method_14_23) rfl rfl kq)
  have K119 : Go p e below T113 (mkF m 25 #[.val (.ref a), .val (.ref b106), .val (.int (0 : Int32))] [(.int (0 : Int32)), (.ref a), (.int (0 : Int32)), (.ref b106)]) G := fun tq kq => K118 tq (XS.iloadN X113.here hx rfl (hb hby d_prog_46_method_14_24) rfl kq)
  obtain ⟨cq120, kq120, q120a, q120b, q120c⟩ := isOf hZ e113 (E_a.ext E106)
  obtain ⟨v120, _, ⟨T120, L120, k120, n120⟩, -, X120, ⟨Lc120, hQ120, l120, y120, z120⟩, st120⟩ := X113.virtualBack hx (y := (⟨"com/example/goalpost/goalpost/runtime/ListValue", "at", "(I)Lcom/example/goalpost/goalpost/runtime/Cell;"⟩ : MethodName)) (z := (⟨"com/example/goalpost/goalpost/runtime/ListValue", "at", "(I)Lcom/example/goalpost/goalpost/runtime/Cell;"⟩ : MethodName)) hown (mvT hZ (hW 66 _ rfl)) (mvT hZ (hW 67 _ rfl)) (notFace_of_selects (args := #[]) (mvT hZ (hW 69 _ rfl))) (mvT hZ (hW 69 _ rfl)) (mvT hZ (hW 68 _ rfl)) (by decide) (backOf (W := 2) (rmAT l Z a0 hw [] a (0 : Int32) r k (2 : Int32) (0 : Int32) [(.ref ce0), (.ref ce1)] ce0 h106 n0 (Nat.le_trans Z0 E106.1) (F_ring_a.ext E106) (F_front_a.ext E106) (V_r.ext E106) (by unfold own_B; decide) (by decide) rfl) hZ (hW 70 _ rfl) (hW 16 _ rfl) (by decide) (by decide)) q120a q120c (g := (mkF m 25 #[.val (.ref a), .val (.ref b106), .val (.int (0 : Int32))] [(.int (0 : Int32)), (.ref a), (.int (0 : Int32)), (.ref b106)])) rfl (by rw [hml]; rfl) (Steps.refl _) (argsL := [(.int (0 : Int32))]) (rest := [(.int (0 : Int32)), (.ref b106)]) (lenOf pd_81 rfl) rfl (by show 2 * 0 + _ ≤ _; exact Nat.le_of_eq rfl) (hb hby d_prog_46_method_14_25) (fun _ _ => ⟨rfl, e113, (by decide : 1 + 0 ≤ _), (by decide : 4 + 0 ≤ _)⟩)
  dsimp only [Pt.U, Pt.locs, Pt.cells, Pt.slots] at X120 l120 y120 z120 st120 hQ120
  subst l120 y120 z120
  obtain ⟨rfl, N120q, E120q⟩ := hQ120
  have N120 := Fr.app N0 N120q
  have K121 : Go p e below T120 (mkF m 28 #[.val (.ref a), .val (.ref b106), .val (.int (0 : Int32))] [(.ref ce0), (.int (0 : Int32)), (.ref b106)]) G := fun tq kq => K119 tq (st120.trans kq)
  obtain ⟨cl122, Ar122, q122, S122, Nn122, Hh122, Gg122⟩ := id V106
  have hin122 : ¬ ((0 : Int32) < 0 ∨ cl122.slots.size ≤ ((0 : Int32)).toNatClampNeg) := inb_of S122 ⟨by decide, by decide⟩
  obtain ⟨T122, h122, X122, e122, W122, st122⟩ := stR X120 hx hZ E120q Ar122 (j := (0 : Int32)) hin122 rfl (Sto.ofV Ar122 q122 O106 (Ins.self (E_ce0.ext E106))) (g := (mkF m 28 #[.val (.ref a), .val (.ref b106), .val (.int (0 : Int32))] [(.ref ce0), (.int (0 : Int32)), (.ref b106)])) rfl rfl (hb hby d_prog_46_method_14_28)
  have V122 : Arv Z h122 b106 k106 (.object "com/example/goalpost/goalpost/runtime/Cell") (4 : Int32) [(.ref ce0), .null, .null, .null] .null := Arv.set Ar122 q122 S122 Nn122 Hh122 Gg122 rfl W122 0 rfl (Nat.le_of_ble_eq_true rfl)
  have N122 := Fr.snoc X122 N120 ge_b106
  have K123 : Go p e below T122 (mkF m 29 #[.val (.ref a), .val (.ref b106), .val (.int (0 : Int32))] []) G := fun tq kq => K121 tq (st122 tq kq)
  have K124 : Go p e below T122 (mkF m 32 #[.val (.ref a), .val (.ref b106), .val (.int (1 : Int32))] []) G := fun tq kq => K123 tq (XS.iinc X122.here hx rfl (hb hby d_prog_46_method_14_29) rfl (l' := #[.val (.ref a), .val (.ref b106), .val (.int (1 : Int32))]) rfl kq)
  have K125 : Go p e below T122 (mkF m 13 #[.val (.ref a), .val (.ref b106), .val (.int (1 : Int32))] []) G := fun tq kq => K124 tq (XS.goto X122.here hx rfl (pc0 := 32) (pc' := 13) rfl (hb hby d_prog_46_method_14_32) (by decide) (by decide) kq)
  have K126 : Go p e below T122 (mkF m 14 #[.val (.ref a), .val (.ref b106), .val (.int (1 : Int32))] [(.int (1 : Int32))]) G := fun tq kq => K125 tq (XS.iloadN X122.here hx rfl (hb hby d_prog_46_method_14_13) rfl kq)
  have K127 : Go p e below T122 (mkF m 15 #[.val (.ref a), .val (.ref b106), .val (.int (1 : Int32))] [(.ref a), (.int (1 : Int32))]) G := fun tq kq => K126 tq (XS.aloadN X122.here hx rfl (hb hby d_prog_46_method_14_14) rfl rfl kq)
  obtain ⟨T128, X128, e128, st128⟩ := getF X122 hx hZ hown (host := "") (Or.inl (hW 43 _ rfl)) Via.refl e122 ((F_size_a.ext E106).other W122 (Or.inl ne106_a)) (g := (mkF m 15 #[.val (.ref a), .val (.ref b106), .val (.int (1 : Int32))] [(.ref a), (.int (1 : Int32))])) rfl rfl (hb hby d_prog_46_method_14_15)
  have K129 : Go p e below T128 (mkF m 18 #[.val (.ref a), .val (.ref b106), .val (.int (1 : Int32))] [(.int (2 : Int32)), (.int (1 : Int32))]) G := fun tq kq => K127 tq (st128 tq kq)
  have K130 : Go p e below T128 (mkF m 21 #[.val (.ref a), .val (.ref b106), .val (.int (1 : Int32))] []) G := fun tq kq => K129 tq (XS.icmpNo X128.here hx rfl (hb hby d_prog_46_method_14_18) rfl ((tlt (by decide : (1 : Int32) < (2 : Int32))).2.1) kq)
  have K131 : Go p e below T128 (mkF m 22 #[.val (.ref a), .val (.ref b106), .val (.int (1 : Int32))] [(.ref b106)]) G := fun tq kq => K130 tq (XS.aloadN X128.here hx rfl (hb hby d_prog_46_method_14_21) rfl rfl kq)
  have K132 : Go p e below T128 (mkF m 23 #[.val (.ref a), .val (.ref b106), .val (.int (1 : Int32))] [(.int (1 : Int32)), (.ref b106)]) G := fun tq kq => K131 tq (XS.iloadN X128.here hx rfl (hb hby d_prog_46_method_14_22) rfl kq)
  have K133 : Go p e below T128 (mkF m 24 #[.val (.ref a), .val (.ref b106), .val (.int (1 : Int32))] [(.ref a), (.int (1 : Int32)), (.ref b106)]) G := fun tq kq => K132 tq (XS.aloadN X128.here hx rfl (hb hby d_prog_46_method_14_23) rfl rfl kq)
  have K134 : Go p e below T128 (mkF m 25 #[.val (.ref a), .val (.ref b106), .val (.int (1 : Int32))] [(.int (1 : Int32)), (.ref a), (.int (1 : Int32)), (.ref b106)]) G := fun tq kq => K133 tq (XS.iloadN X128.here hx rfl (hb hby d_prog_46_method_14_24) rfl kq)
  obtain ⟨cq135, kq135, q135a, q135b, q135c⟩ := isOf hZ e128 ((E_a.ext E106).wr W122)
  obtain ⟨v135, _, ⟨T135, L135, k135, n135⟩, -, X135, ⟨Lc135, hQ135, l135, y135, z135⟩, st135⟩ := X128.virtualBack hx (y := (⟨"com/example/goalpost/goalpost/runtime/ListValue", "at", "(I)Lcom/example/goalpost/goalpost/runtime/Cell;"⟩ : MethodName)) (z := (⟨"com/example/goalpost/goalpost/runtime/ListValue", "at", "(I)Lcom/example/goalpost/goalpost/runtime/Cell;"⟩ : MethodName)) hown (mvT hZ (hW 66 _ rfl)) (mvT hZ (hW 67 _ rfl)) (notFace_of_selects (args := #[]) (mvT hZ (hW 69 _ rfl))) (mvT hZ (hW 69 _ rfl)) (mvT hZ (hW 68 _ rfl)) (by decide) (backOf (W := 2) (rmAT l Z a0 hw [] a (1 : Int32) r k (2 : Int32) (0 : Int32) [(.ref ce0), (.ref ce1)] ce1 h122 n0 (Nat.le_trans (Nat.le_trans Z0 E106.1) (Keep.of_wr W122).1) ((F_ring_a.ext E106).other W122 (Or.inl ne106_a)) ((F_front_a.ext E106).other W122 (Or.inl ne106_a)) ((V_r.ext E106).other W122 ne106_r) (by unfold own_B; decide) (by decide) rfl) hZ (hW 70 _ rfl) (hW 16 _ rfl) (by decide) (by decide)) q135a q135c (g := (mkF m 25 #[.val (.ref a), .val (.ref b106), .val (.int (1 : Int32))] [(.int (1 : Int32)), (.ref a), (.int (1 : Int32)), (.ref b106)])) rfl (by rw [hml]; rfl) (Steps.refl _) (argsL := [(.int (1 : Int32))]) (rest := [(.int (1 : Int32)), (.ref b106)]) (lenOf pd_81 rfl) rfl (by show 2 * 0 + _ ≤ _; exact Nat.le_of_eq rfl) (hb hby d_prog_46_method_14_25) (fun _ _ => ⟨rfl, e128, (by decide : 1 + 0 ≤ _), (by decide : 4 + 0 ≤ _)⟩)
  dsimp only [Pt.U, Pt.locs, Pt.cells, Pt.slots] at X135 l135 y135 z135 st135 hQ135
  subst l135 y135 z135
  obtain ⟨rfl, N135q, E135q⟩ := hQ135
  have N135 := Fr.app N122 N135q
  have K136 : Go p e below T135 (mkF m 28 #[.val (.ref a), .val (.ref b106), .val (.int (1 : Int32))] [(.ref ce1), (.int (1 : Int32)), (.ref b106)]) G := fun tq kq => K134 tq (st135.trans kq)
  obtain ⟨cl137, Ar137, q137, S137, Nn137, Hh137, Gg137⟩ := id V122
  have hin137 : ¬ ((1 : Int32) < 0 ∨ cl137.slots.size ≤ ((1 : Int32)).toNatClampNeg) := inb_of S137 ⟨by decide, by decide⟩
  obtain ⟨T137, h137, X137, e137, W137, st137⟩ := stR X135 hx hZ E135q Ar137 (j := (1 : Int32)) hin137 rfl (Sto.ofV Ar137 q137 O106 (Ins.self ((E_ce1.ext E106).wr W122))) (g := (mkF m 28 #[.val (.ref a), .val (.ref b106), .val (.int (1 : Int32))] [(.ref ce1), (.int (1 : Int32)), (.ref b106)])) rfl rfl (hb hby d_prog_46_method_14_28)
  have V137 : Arv Z h137 b106 k106 (.object "com/example/goalpost/goalpost/runtime/Cell") (4 : Int32) [(.ref ce0), (.ref ce1), .null, .null] .null := Arv.set Ar137 q137 S137 Nn137 Hh137 Gg137 rfl W137 1 rfl (Nat.le_of_ble_eq_true rfl)
  have N137 := Fr.snoc X137 N135 ge_b106
  have K138 : Go p e below T137 (mkF m 29 #[.val (.ref a), .val (.ref b106), .val (.int (1 : Int32))] []) G := fun tq kq => K136 tq (st137 tq kq)
  have K139 : Go p e below T137 (mkF m 32 #[.val (.ref a), .val (.ref b106), .val (.int (2 : Int32))] []) G := fun tq kq => K138 tq (XS.iinc X137.here hx rfl (hb hby d_prog_46_method_14_29) rfl (l' := #[.val (.ref a), .val (.ref b106), .val (.int (2 : Int32))]) rfl kq)
  have K140 : Go p e below T137 (mkF m 13 #[.val (.ref a), .val (.ref b106), .val (.int (2 : Int32))] []) G := fun tq kq => K139 tq (XS.goto X137.here hx rfl (pc0 := 32) (pc' := 13) rfl (hb hby d_prog_46_method_14_32) (by decide) (by decide) kq)
  have K141 : Go p e below T137 (mkF m 14 #[.val (.ref a), .val (.ref b106), .val (.int (2 : Int32))] [(.int (2 : Int32))]) G := fun tq kq => K140 tq (XS.iloadN X137.here hx rfl (hb hby d_prog_46_method_14_13) rfl kq)
  have K142 : Go p e below T137 (mkF m 15 #[.val (.ref a), .val (.ref b106), .val (.int (2 : Int32))] [(.ref a), (.int (2 : Int32))]) G := fun tq kq => K141 tq (XS.aloadN X137.here hx rfl (hb hby d_prog_46_method_14_14) rfl rfl kq)
  obtain ⟨T143, X143, e143, st143⟩ := getF X137 hx hZ hown (host := "") (Or.inl (hW 43 _ rfl)) Via.refl e137 (((F_size_a.ext E106).other W122 (Or.inl ne106_a)).other W137 (Or.inl ne106_a)) (g := (mkF m 15 #[.val (.ref a), .val (.ref b106), .val (.int (2 : Int32))] [(.ref a), (.int (2 : Int32))])) rfl rfl (hb hby d_prog_46_method_14_15)
  have K144 : Go p e below T143 (mkF m 18 #[.val (.ref a), .val (.ref b106), .val (.int (2 : Int32))] [(.int (2 : Int32)), (.int (2 : Int32))]) G := fun tq kq => K142 tq (st143 tq kq)
  have K145 : Go p e below T143 (mkF m 35 #[.val (.ref a), .val (.ref b106), .val (.int (2 : Int32))] []) G := fun tq kq => K144 tq (XS.icmpYes X143.here hx rfl (pc0 := 18) (pc' := 35) rfl (hb hby d_prog_46_method_14_18) rfl ((flt (by decide : ¬ ((2 : Int32) < (2 : Int32)))).2.1) (by decide) (by decide) kq)
  have K146 : Go p e below T143 (mkF m 36 #[.val (.ref a), .val (.ref b106), .val (.int (2 : Int32))] [(.ref a)]) G := fun tq kq => K145 tq (XS.aloadN X143.here hx rfl (hb hby d_prog_46_method_14_35) rfl rfl kq)
  have K147 : Go p e below T143 (mkF m 37 #[.val (.ref a), .val (.ref b106), .val (.int (2 : Int32))] [(.ref b106), (.ref a)]) G := fun tq kq => K146 tq (XS.aloadN X143.here hx rfl (hb hby d_prog_46_method_14_36) rfl rfl kq)
  obtain ⟨T148, h148, X148, e148, W148, st148⟩ := putF X143 hx hZ hown (host := "") (Or.inl (hW 36 _ rfl)) Via.refl e143 (((F_ring_a.ext E106).other W122 (Or.inl ne106_a)).other W137 (Or.inl ne106_a)) (((E_a.ext E106).wr W122).wr W137) (Or.inl (hW 37 _ rfl)) (hW 15 _ rfl) (ty := (.array (.object "com/example/goalpost/goalpost/runtime/Cell"))) (by decide) rfl rfl (g := (mkF m 37 #[.val (.ref a), .val (.ref b106), .val (.int (2 : Int32))] [(.ref b106), (.ref a)])) rfl rfl (hb hby d_prog_46_method_14_37)
  have N148 := Fr.snoc X148 N137 ge_a
  have F148 := Fld.same W148 (((F_ring_a.ext E106).other W122 (Or.inl ne106_a)).other W137 (Or.inl ne106_a))
  have K149 : Go p e below T148 (mkF m 40 #[.val (.ref a), .val (.ref b106), .val (.int (2 : Int32))] []) G := fun tq kq => K147 tq (st148 tq kq)
  have K150 : Go p e below T148 (mkF m 41 #[.val (.ref a), .val (.ref b106), .val (.int (2 : Int32))] [(.ref a)]) G := fun tq kq => K149 tq (XS.aloadN X148.here hx rfl (hb hby d_prog_46_method_14_40) rfl rfl kq)
  have K151 : Go p e below T148 (mkF m 42 #[.val (.ref a), .val (.ref b106), .val (.int (2 : Int32))] [(.int (0 : Int32)), (.ref a)]) G := fun tq kq => K150 tq (XS.iconst X148.here hx rfl (hb hby d_prog_46_method_14_41) kq)
  obtain ⟨T152, h152, X152, e152, W152, st152⟩ := putF X148 hx hZ hown (host := "") (Or.inl (hW 45 _ rfl)) Via.refl e148 ((((F_front_a.ext E106).other W122 (Or.inl ne106_a)).other W137 (Or.inl ne106_a)).other W148 (Or.inr (slot_ne (Or.inl (hW 46 _ rfl)) (Or.inl (hW 37 _ rfl)) (by decide) (t := .int) (t' := (.array (.object "com/example/goalpost/goalpost/runtime/Cell"))) (by decide) (by decide)))) ((((E_a.ext E106).wr W122).wr W137).wr W148) (Or.inl (hW 46 _ rfl)) (hW 15 _ rfl) (ty := .int) (by decide) rfl rfl (g := (mkF m 42 #[.val (.ref a), .val (.ref b106), .val (.int (2 : Int32))] [(.int (0 : Int32)), (.ref a)])) rfl rfl (hb hby d_prog_46_method_14_42)
  have N152 := Fr.snoc X152 N148 ge_a
  have F152 := Fld.same W152 ((((F_front_a.ext E106).other W122 (Or.inl ne106_a)).other W137 (Or.inl ne106_a)).other W148 (Or.inr (slot_ne (Or.inl (hW 46 _ rfl)) (Or.inl (hW 37 _ rfl)) (by decide) (t := .int) (t' := (.array (.object "com/example/goalpost/goalpost/runtime/Cell"))) (by decide) (by decide))))
  have K153 : Go p e below T152 (mkF m 45 #[.val (.ref a), .val (.ref b106), .val (.int (2 : Int32))] []) G := fun tq kq => K151 tq (st152 tq kq)
  obtain ⟨fs, hr, hrun, hended, hWW, hsame⟩ := X152.leave (v := none) (fun _ => rfl)
  refine ⟨_, _, hG _ (K153 _ (X152.returnOut hx Bd.returns (hb hby d_prog_46_method_14_45) hr)), hrun, hended, _, _, rfl, ?_, ⟨_, rfl⟩, hWW, hsame.mono (by decide) (by decide)⟩
  show QGR20 Z a r k ce0 ce1 h0 n0 _ T152.heap _
  rw [e152]
  exact ⟨rfl, N152, ((((((Keep.refl h0 [a]).ext E106).wr W122 (Or.inr sz_b106)).wr W137 (Or.inr sz_b106)).wr W148 (Or.inl (List.mem_of_getElem? (i := 0) rfl))).wr W152 (Or.inl (List.mem_of_getElem? (i := 0) rfl))), (((((E_a.ext E106).wr W122).wr W137).wr W148).wr W152), b106, k106, sz_b106, ge_b106, (F148.other W152 (Or.inr (slot_ne (Or.inl (hW 37 _ rfl)) (Or.inl (hW 46 _ rfl)) (by decide) (t := (.array (.object "com/example/goalpost/goalpost/runtime/Cell"))) (t' := .int) (by decide) (by decide)))), F152, (((((F_size_a.ext E106).other W122 (Or.inl ne106_a)).other W137 (Or.inl ne106_a)).other W148 (Or.inr (slot_ne (Or.inl (hW 44 _ rfl)) (Or.inl (hW 37 _ rfl)) (by decide) (t := .int) (t' := (.array (.object "com/example/goalpost/goalpost/runtime/Cell"))) (by decide) (by decide)))).other W152 (Or.inr (slot_ne (Or.inl (hW 44 _ rfl)) (Or.inl (hW 46 _ rfl)) (by decide) (t := .int) (t' := .int) (by decide) (by decide)))), ((V137.other W148 (Ne.symm ne106_a)).other W152 (Ne.symm ne106_a)), O106⟩
theorem own_lit20 {vs : List Value} {cs : List (Addr × Addr)} (h : own_Ring vs 2 0 cs) (hl : cs.length = 2) : ∃ p0 p1 : Addr × Addr, cs = [p0, p1] ∧ vs = [(.ref p0.1), (.ref p1.1)] := by
  obtain ⟨h1, -, -, h4⟩ := h
  match cs, hl, vs, h1 with
  | [p0, p1], _, [v0, v1], _ =>
    refine ⟨p0, p1, rfl, ?_⟩
    have q0 := h4 0 p0 rfl
    have q1 := h4 1 p1 rfl
    simp at q0 q1
    simp [q0, q1]
theorem own_rg20 {p0 p1 : Addr × Addr} : own_Ring [(.ref p0.1), (.ref p1.1), .null, .null] 4 0 [p0, p1] := by
  refine ⟨rfl, by decide, by simp, fun i p hp => ?_⟩
  match i, hp with
  | 0, hp => simp at hp; subst hp; rfl
  | 1, hp => simp at hp; subst hp; rfl
  | i + 2, hp => simp at hp
def QGR21 (Z : State) (a : Addr) (r : Addr) (k : ClassId) (ce0 : Addr) (ce1 : Addr) (h0 : Heap) (n0 : Nat) (v : Option Value) (h : Heap) (L : List Loc) : Prop := v = none ∧ Fr n0 L ∧ Keep h0 h [a] ∧ Exa Z h a "com/example/goalpost/goalpost/runtime/ListValue" ∧ ∃ (b : Addr) (k2 : ClassId), h0.size ≤ b ∧ n0 ≤ b ∧ Fld Z h a "com/example/goalpost/goalpost/runtime/ListValue" "ring" "[Lcom/example/goalpost/goalpost/runtime/Cell;" (.ref b) ∧ Fld Z h a "com/example/goalpost/goalpost/runtime/ListValue" "front" "I" (.int (0 : Int32)) ∧ Fld Z h a "com/example/goalpost/goalpost/runtime/ListValue" "size" "I" (.int (2 : Int32)) ∧ Arv Z h b k2 (.object "com/example/goalpost/goalpost/runtime/Cell") (4 : Int32) [(.ref ce0), (.ref ce1), .null, .null] .null ∧ Ovr Z k2 "com/example/goalpost/goalpost/runtime/Cell"
set_option maxRecDepth 65536 in
set_option maxHeartbeats 40000000 in
theorem rmGR21 (l : Launch) (Z : State) (a0 : Array Value) (hw : ∀ d ∈ tables_1, d.before a0 Z = true) (ws : List Jvm.Cond) (a : Addr) (r : Addr) (k : ClassId) (ce0 : Addr) (ce1 : Addr) (h0 : Heap) (n0 : Nat) (Z0 : n0 ≤ h0.size) (F_ring_a : Fld Z h0 a "com/example/goalpost/goalpost/runtime/ListValue" "ring" "[Lcom/example/goalpost/goalpost/runtime/Cell;" (.ref r)) (F_front_a : Fld Z h0 a "com/example/goalpost/goalpost/runtime/ListValue" "front" "I" (.int (1 : Int32))) (F_size_a : Fld Z h0 a "com/example/goalpost/goalpost/runtime/ListValue" "size" "I" (.int (2 : Int32))) (E_a : Exa Z h0 a "com/example/goalpost/goalpost/runtime/ListValue") (ge_a : n0 ≤ a) (V_r : Arv Z h0 r k (.object "com/example/goalpost/goalpost/runtime/Cell") (2 : Int32) [(.ref ce1), (.ref ce0)] .null) (E_ce0 : Exa Z h0 ce0 "com/example/goalpost/goalpost/runtime/Cell") (E_ce1 : Exa Z h0 ce1 "com/example/goalpost/goalpost/runtime/Cell") :
    MetFree l (⟨"com/example/goalpost/goalpost/runtime/ListValue", "grow", "()V"⟩ : MethodName) (head1 (Jvm.Cond.code (⟨"com/example/goalpost/goalpost/runtime/ListValue", "grow", "()V"⟩ : MethodName) prog_46_method_14_code 3 none :: ws) ({ frames := 1, cells := 1, slots := 4, locals := 15 } : Room)) (fun aa UU => aa = #[(.ref a)] ∧ Z.Warmed39 UU.vm ∧ UU.heap = h0) (fun _ _ _ _ _ => True) (fun _ UU oo UU' => ∃ vv LL, oo = .returned vv ∧ QGR21 Z a r k ce0 ce1 h0 n0 vv UU'.heap LL ∧ FrameEnd UU oo UU' LL ({ frames := 1, cells := 1, slots := 4, locals := 15 } : Room).cells ({ frames := 1, cells := 1, slots := 4, locals := 15 } : Room).slots) := by
  refine MetFree.of_bodySF (plainFor_of_name pn_53) hisR ?_
  intro p e s m args below meth c s₁ Bd hml0 hP hK
  obtain ⟨rfl, hZ, hh⟩ := hP
  have hx := Bd.exec
  have hby := Bd.bytes
  have hml : c.maxLocals = 3 := hml0
  have hown : s.vm.findClass "com/example/goalpost/goalpost/runtime/ListValue" = some m.cls := findClass_of_methodNamed Bd.named
  have hnm := (name_of_methodNamed Bd.named Bd.method).1
  have hW : ∀ (k : Nat) (d : Jvm.Cond), tables_1[k]? = some d → d.before a0 Z = true := fun k d h => hw d (List.mem_of_getElem? h)
  have X0 : Stand p l e ({ frames := 1, cells := 1, slots := 4, locals := 15 } : Room) s m #[(.ref a)] below meth c s₁ [] 0 0 := Stand.of_body Bd
  have e0 : s₁.heap = h0 := by rw [← hh, Bd.state]; rfl
  have N0 := Fr.nil n0
  obtain ⟨G, hG, K0⟩ : ∃ G : State → Prop, (∀ tq, G tq → Steps p.tables e below (s₁.setTop (entryFrame m #[(.ref a)] 3)) tq) ∧ Go p e below s₁ (mkF m 0 #[.val (.ref a), .unset, .unset] []) G := ⟨fun tq => Steps p.tables e below (s₁.setTop (entryFrame m #[(.ref a)] 3)) tq, fun _ h => h, fun tq kq => castTop (ef_prog_46_method_14_R m a) kq⟩
  have K154 : Go p e below s₁ (mkF m 1 #[.val (.ref a), .unset, .unset] [(.ref a)]) G := fun tq kq => K0 tq (XS.aloadN X0.here hx rfl (hb hby d_prog_46_method_14_0) rfl rfl kq)
  obtain ⟨T155, X155, e155, st155⟩ := getF X0 hx hZ hown (host := "") (Or.inl (hW 36 _ rfl)) Via.refl e0 F_ring_a (g := (mkF m 1 #[.val (.ref a), .unset, .unset] [(.ref a)])) rfl rfl (hb hby d_prog_46_method_14_1)
  have K156 : Go p e below T155 (mkF m 4 #[.val (.ref a), .unset, .unset] [(.ref r)]) G := fun tq kq => K154 tq (st155 tq kq)
  obtain ⟨cl157, Ar157, q157, S157, Nn157, Hh157, Gg157⟩ := id V_r
  have K158 : Go p e below T155 (mkF m 5 #[.val (.ref a), .unset, .unset] [(.int (2 : Int32))]) G := fun tq kq => K156 tq (X155.arraylength hx (by rw [e155]; exact Ar157.1) (State.isArrayOf_alike hZ.alike Ar157.2.1) (g := (mkF m 4 #[.val (.ref a), .unset, .unset] [(.ref r)])) rfl rfl (hb hby d_prog_46_method_14_4) _ (by rw [len_of S157 Nn157]; exact kq))
  have K159 : Go p e below T155 (mkF m 6 #[.val (.ref a), .unset, .unset] [(.int (2 : Int32)), (.int (2 : Int32))]) G := fun tq kq => K158 tq (XS.iconst X155.here hx rfl (hb hby d_prog_46_method_14_5) kq)
  have K160 : Go p e below T155 (mkF m 7 #[.val (.ref a), .unset, .unset] [(.int (4 : Int32))]) G := fun tq kq => K159 tq (XS.imul X155.here hx rfl (hb hby d_prog_46_method_14_6) rfl kq)
  obtain ⟨T161, h161, k161, X161, e161, E161, A161, O161, st161⟩ := newR X155 hx hZ hown (hW 34 _ rfl) (hW 35 _ rfl) e155 (g := (mkF m 7 #[.val (.ref a), .unset, .unset] [(.int (4 : Int32))])) rfl (hb hby d_prog_46_method_14_7) rfl (by decide) (cap := 4) (by decide) (by decide) (by decide) (by decide)
  obtain ⟨b161, g161⟩ : ∃ z, z = h0.size := ⟨_, rfl⟩
  rw [← g161] at A161 st161
  have ne161_a : a ≠ b161 := Nat.ne_of_lt (Nat.lt_of_lt_of_le F_ring_a.lt (Nat.le_of_eq g161.symm))
  have ne161_r : r ≠ b161 := Nat.ne_of_lt (Nat.lt_of_lt_of_le V_r.lt (Nat.le_of_eq g161.symm))
  have ne161_ce0 : ce0 ≠ b161 := Nat.ne_of_lt (Nat.lt_of_lt_of_le E_ce0.lt (Nat.le_of_eq g161.symm))
  have ne161_ce1 : ce1 ≠ b161 := Nat.ne_of_lt (Nat.lt_of_lt_of_le E_ce1.lt (Nat.le_of_eq g161.symm))
  have ge_b161 : n0 ≤ b161 := Nat.le_trans Z0 (Nat.le_of_eq g161.symm)
  have sz_b161 : h0.size ≤ b161 := Nat.le_trans ((Keep.refl h0 [a])).1 (Nat.le_of_eq g161.symm)
  have V161 : Arv Z h161 b161 k161 (.object "com/example/goalpost/goalpost/runtime/Cell") (4 : Int32) [.null, .null, .null, .null] .null := (Arv.new A161 (by decide)).pad (pad_rep [] .null 4)
  have K162 : Go p e below T161 (mkF m 10 #[.val (.ref a), .unset, .unset] [(.ref b161)]) G := fun tq kq => K160 tq (st161 tq kq)
  have K163 : Go p e below T161 (mkF m 11 #[.val (.ref a), .val (.ref b161), .unset] []) G := fun tq kq => K162 tq (XS.astoreN X161.here hx rfl (hb hby d_prog_46_method_14_10) rfl rfl (l' := #[.val (.ref a), .val (.ref b161), .unset]) rfl kq)
  have K164 : Go p e below T161 (mkF m 12 #[.val (.ref a), .val (.ref b161), .unset] [(.int (0 : Int32))]) G := fun tq kq => K163 tq (XS.iconst X161.here hx rfl (hb hby d_prog_46_method_14_11) kq)
  have K165 : Go p e below T161 (mkF m 13 #[.val (.ref a), .val (.ref b161), .val (.int (0 : Int32))] []) G := fun tq kq => K164 tq (XS.istoreN X161.here hx rfl (hb hby d_prog_46_method_14_12) rfl (l' := #[.val (.ref a), .val (.ref b161), .val (.int (0 : Int32))]) rfl kq)
  have K166 : Go p e below T161 (mkF m 14 #[.val (.ref a), .val (.ref b161), .val (.int (0 : Int32))] [(.int (0 : Int32))]) G := fun tq kq => K165 tq (XS.iloadN X161.here hx rfl (hb hby d_prog_46_method_14_13) rfl kq)
  have K167 : Go p e below T161 (mkF m 15 #[.val (.ref a), .val (.ref b161), .val (.int (0 : Int32))] [(.ref a), (.int (0 : Int32))]) G := fun tq kq => K166 tq (XS.aloadN X161.here hx rfl (hb hby d_prog_46_method_14_14) rfl rfl kq)
  obtain ⟨T168, X168, e168, st168⟩ := getF X161 hx hZ hown (host := "") (Or.inl (hW 43 _ rfl)) Via.refl e161 (F_size_a.ext E161) (g := (mkF m 15 #[.val (.ref a), .val (.ref b161), .val (.int (0 : Int32))] [(.ref a), (.int (0 : Int32))])) rfl rfl (hb hby d_prog_46_method_14_15)
  have K169 : Go p e below T168 (mkF m 18 #[.val (.ref a), .val (.ref b161), .val (.int (0 : Int32))] [(.int (2 : Int32)), (.int (0 : Int32))]) G := fun tq kq => K167 tq (st168 tq kq)
  have K170 : Go p e below T168 (mkF m 21 #[.val (.ref a), .val (.ref b161), .val (.int (0 : Int32))] []) G := fun tq kq => K169 tq (XS.icmpNo X168.here hx rfl (hb hby d_prog_46_method_14_18) rfl ((tlt (by decide : (0 : Int32) < (2 : Int32))).2.1) kq)
  have K171 : Go p e below T168 (mkF m 22 #[.val (.ref a), .val (.ref b161), .val (.int (0 : Int32))] [(.ref b161)]) G := fun tq kq => K170 tq (XS.aloadN X168.here hx rfl (hb hby d_prog_46_method_14_21) rfl rfl kq)
  have K172 : Go p e below T168 (mkF m 23 #[.val (.ref a), .val (.ref b161), .val (.int (0 : Int32))] [(.int (0 : Int32)), (.ref b161)]) G := fun tq kq => K171 tq (XS.iloadN X168.here hx rfl (hb hby d_prog_46_method_14_22) rfl kq)
  have K173 : Go p e below T168 (mkF m 24 #[.val (.ref a), .val (.ref b161), .val (.int (0 : Int32))] [(.ref a), (.int (0 : Int32)), (.ref b161)]) G := fun tq kq => K172 tq (XS.aloadN X168.here hx rfl (hb hby d_prog_46_method_14_23) rfl rfl kq)
  have K174 : Go p e below T168 (mkF m 25 #[.val (.ref a), .val (.ref b161), .val (.int (0 : Int32))] [(.int (0 : Int32)), (.ref a), (.int (0 : Int32)), (.ref b161)]) G := fun tq kq => K173 tq (XS.iloadN X168.here hx rfl (hb hby d_prog_46_method_14_24) rfl kq)
  obtain ⟨cq175, kq175, q175a, q175b, q175c⟩ := isOf hZ e168 (E_a.ext E161)
  obtain ⟨v175, _, ⟨T175, L175, k175, n175⟩, -, X175, ⟨Lc175, hQ175, l175, y175, z175⟩, st175⟩ := X168.virtualBack hx (y := (⟨"com/example/goalpost/goalpost/runtime/ListValue", "at", "(I)Lcom/example/goalpost/goalpost/runtime/Cell;"⟩ : MethodName)) (z := (⟨"com/example/goalpost/goalpost/runtime/ListValue", "at", "(I)Lcom/example/goalpost/goalpost/runtime/Cell;"⟩ : MethodName)) hown (mvT hZ (hW 66 _ rfl)) (mvT hZ (hW 67 _ rfl)) (notFace_of_selects (args := #[]) (mvT hZ (hW 69 _ rfl))) (mvT hZ (hW 69 _ rfl)) (mvT hZ (hW 68 _ rfl)) (by decide) (backOf (W := 2) (rmAT l Z a0 hw [] a (0 : Int32) r k (2 : Int32) (1 : Int32) [(.ref ce1), (.ref ce0)] ce0 h161 n0 (Nat.le_trans Z0 E161.1) (F_ring_a.ext E161) (F_front_a.ext E161) (V_r.ext E161) (by unfold own_B; decide) (by decide) rfl) hZ (hW 70 _ rfl) (hW 16 _ rfl) (by decide) (by decide)) q175a q175c (g := (mkF m 25 #[.val (.ref a), .val (.ref b161), .val (.int (0 : Int32))] [(.int (0 : Int32)), (.ref a), (.int (0 : Int32)), (.ref b161)])) rfl (by rw [hml]; rfl) (Steps.refl _) (argsL := [(.int (0 : Int32))]) (rest := [(.int (0 : Int32)), (.ref b161)]) (lenOf pd_81 rfl) rfl (by show 2 * 0 + _ ≤ _; exact Nat.le_of_eq rfl) (hb hby d_prog_46_method_14_25) (fun _ _ => ⟨rfl, e168, (by decide : 1 + 0 ≤ _), (by decide : 4 + 0 ≤ _)⟩)
  dsimp only [Pt.U, Pt.locs, Pt.cells, Pt.slots] at X175 l175 y175 z175 st175 hQ175
  subst l175 y175 z175
  obtain ⟨rfl, N175q, E175q⟩ := hQ175
  have N175 := Fr.app N0 N175q
  have K176 : Go p e below T175 (mkF m 28 #[.val (.ref a), .val (.ref b161), .val (.int (0 : Int32))] [(.ref ce0), (.int (0 : Int32)), (.ref b161)]) G := fun tq kq => K174 tq (st175.trans kq)
  obtain ⟨cl177, Ar177, q177, S177, Nn177, Hh177, Gg177⟩ := id V161
  have hin177 : ¬ ((0 : Int32) < 0 ∨ cl177.slots.size ≤ ((0 : Int32)).toNatClampNeg) := inb_of S177 ⟨by decide, by decide⟩
  obtain ⟨T177, h177, X177, e177, W177, st177⟩ := stR X175 hx hZ E175q Ar177 (j := (0 : Int32)) hin177 rfl (Sto.ofV Ar177 q177 O161 (Ins.self (E_ce0.ext E161))) (g := (mkF m 28 #[.val (.ref a), .val (.ref b161), .val (.int (0 : Int32))] [(.ref ce0), (.int (0 : Int32)), (.ref b161)])) rfl rfl (hb hby d_prog_46_method_14_28)
  have V177 : Arv Z h177 b161 k161 (.object "com/example/goalpost/goalpost/runtime/Cell") (4 : Int32) [(.ref ce0), .null, .null, .null] .null := Arv.set Ar177 q177 S177 Nn177 Hh177 Gg177 rfl W177 0 rfl (Nat.le_of_ble_eq_true rfl)
  have N177 := Fr.snoc X177 N175 ge_b161
  have K178 : Go p e below T177 (mkF m 29 #[.val (.ref a), .val (.ref b161), .val (.int (0 : Int32))] []) G := fun tq kq => K176 tq (st177 tq kq)
  have K179 : Go p e below T177 (mkF m 32 #[.val (.ref a), .val (.ref b161), .val (.int (1 : Int32))] []) G := fun tq kq => K178 tq (XS.iinc X177.here hx rfl (hb hby d_prog_46_method_14_29) rfl (l' := #[.val (.ref a), .val (.ref b161), .val (.int (1 : Int32))]) rfl kq)
  have K180 : Go p e below T177 (mkF m 13 #[.val (.ref a), .val (.ref b161), .val (.int (1 : Int32))] []) G := fun tq kq => K179 tq (XS.goto X177.here hx rfl (pc0 := 32) (pc' := 13) rfl (hb hby d_prog_46_method_14_32) (by decide) (by decide) kq)
  have K181 : Go p e below T177 (mkF m 14 #[.val (.ref a), .val (.ref b161), .val (.int (1 : Int32))] [(.int (1 : Int32))]) G := fun tq kq => K180 tq (XS.iloadN X177.here hx rfl (hb hby d_prog_46_method_14_13) rfl kq)
  have K182 : Go p e below T177 (mkF m 15 #[.val (.ref a), .val (.ref b161), .val (.int (1 : Int32))] [(.ref a), (.int (1 : Int32))]) G := fun tq kq => K181 tq (XS.aloadN X177.here hx rfl (hb hby d_prog_46_method_14_14) rfl rfl kq)
  obtain ⟨T183, X183, e183, st183⟩ := getF X177 hx hZ hown (host := "") (Or.inl (hW 43 _ rfl)) Via.refl e177 ((F_size_a.ext E161).other W177 (Or.inl ne161_a)) (g := (mkF m 15 #[.val (.ref a), .val (.ref b161), .val (.int (1 : Int32))] [(.ref a), (.int (1 : Int32))])) rfl rfl (hb hby d_prog_46_method_14_15)
  have K184 : Go p e below T183 (mkF m 18 #[.val (.ref a), .val (.ref b161), .val (.int (1 : Int32))] [(.int (2 : Int32)), (.int (1 : Int32))]) G := fun tq kq => K182 tq (st183 tq kq)
  have K185 : Go p e below T183 (mkF m 21 #[.val (.ref a), .val (.ref b161), .val (.int (1 : Int32))] []) G := fun tq kq => K184 tq (XS.icmpNo X183.here hx rfl (hb hby d_prog_46_method_14_18) rfl ((tlt (by decide : (1 : Int32) < (2 : Int32))).2.1) kq)
  have K186 : Go p e below T183 (mkF m 22 #[.val (.ref a), .val (.ref b161), .val (.int (1 : Int32))] [(.ref b161)]) G := fun tq kq => K185 tq (XS.aloadN X183.here hx rfl (hb hby d_prog_46_method_14_21) rfl rfl kq)
  have K187 : Go p e below T183 (mkF m 23 #[.val (.ref a), .val (.ref b161), .val (.int (1 : Int32))] [(.int (1 : Int32)), (.ref b161)]) G := fun tq kq => K186 tq (XS.iloadN X183.here hx rfl (hb hby d_prog_46_method_14_22) rfl kq)
  have K188 : Go p e below T183 (mkF m 24 #[.val (.ref a), .val (.ref b161), .val (.int (1 : Int32))] [(.ref a), (.int (1 : Int32)), (.ref b161)]) G := fun tq kq => K187 tq (XS.aloadN X183.here hx rfl (hb hby d_prog_46_method_14_23) rfl rfl kq)
  have K189 : Go p e below T183 (mkF m 25 #[.val (.ref a), .val (.ref b161), .val (.int (1 : Int32))] [(.int (1 : Int32)), (.ref a), (.int (1 : Int32)), (.ref b161)]) G := fun tq kq => K188 tq (XS.iloadN X183.here hx rfl (hb hby d_prog_46_method_14_24) rfl kq)
  obtain ⟨cq190, kq190, q190a, q190b, q190c⟩ := isOf hZ e183 ((E_a.ext E161).wr W177)
  obtain ⟨v190, _, ⟨T190, L190, k190, n190⟩, -, X190, ⟨Lc190, hQ190, l190, y190, z190⟩, st190⟩ := X183.virtualBack hx (y := (⟨"com/example/goalpost/goalpost/runtime/ListValue", "at", "(I)Lcom/example/goalpost/goalpost/runtime/Cell;"⟩ : MethodName)) (z := (⟨"com/example/goalpost/goalpost/runtime/ListValue", "at", "(I)Lcom/example/goalpost/goalpost/runtime/Cell;"⟩ : MethodName)) hown (mvT hZ (hW 66 _ rfl)) (mvT hZ (hW 67 _ rfl)) (notFace_of_selects (args := #[]) (mvT hZ (hW 69 _ rfl))) (mvT hZ (hW 69 _ rfl)) (mvT hZ (hW 68 _ rfl)) (by decide) (backOf (W := 2) (rmAT l Z a0 hw [] a (1 : Int32) r k (2 : Int32) (1 : Int32) [(.ref ce1), (.ref ce0)] ce1 h177 n0 (Nat.le_trans (Nat.le_trans Z0 E161.1) (Keep.of_wr W177).1) ((F_ring_a.ext E161).other W177 (Or.inl ne161_a)) ((F_front_a.ext E161).other W177 (Or.inl ne161_a)) ((V_r.ext E161).other W177 ne161_r) (by unfold own_B; decide) (by decide) rfl) hZ (hW 70 _ rfl) (hW 16 _ rfl) (by decide) (by decide)) q190a q190c (g := (mkF m 25 #[.val (.ref a), .val (.ref b161), .val (.int (1 : Int32))] [(.int (1 : Int32)), (.ref a), (.int (1 : Int32)), (.ref b161)])) rfl (by rw [hml]; rfl) (Steps.refl _) (argsL := [(.int (1 : Int32))]) (rest := [(.int (1 : Int32)), (.ref b161)]) (lenOf pd_81 rfl) rfl (by show 2 * 0 + _ ≤ _; exact Nat.le_of_eq rfl) (hb hby d_prog_46_method_14_25) (fun _ _ => ⟨rfl, e183, (by decide : 1 + 0 ≤ _), (by decide : 4 + 0 ≤ _)⟩)
  dsimp only [Pt.U, Pt.locs, Pt.cells, Pt.slots] at X190 l190 y190 z190 st190 hQ190
  subst l190 y190 z190
  obtain ⟨rfl, N190q, E190q⟩ := hQ190
  have N190 := Fr.app N177 N190q
  have K191 : Go p e below T190 (mkF m 28 #[.val (.ref a), .val (.ref b161), .val (.int (1 : Int32))] [(.ref ce1), (.int (1 : Int32)), (.ref b161)]) G := fun tq kq => K189 tq (st190.trans kq)
  obtain ⟨cl192, Ar192, q192, S192, Nn192, Hh192, Gg192⟩ := id V177
  have hin192 : ¬ ((1 : Int32) < 0 ∨ cl192.slots.size ≤ ((1 : Int32)).toNatClampNeg) := inb_of S192 ⟨by decide, by decide⟩
  obtain ⟨T192, h192, X192, e192, W192, st192⟩ := stR X190 hx hZ E190q Ar192 (j := (1 : Int32)) hin192 rfl (Sto.ofV Ar192 q192 O161 (Ins.self ((E_ce1.ext E161).wr W177))) (g := (mkF m 28 #[.val (.ref a), .val (.ref b161), .val (.int (1 : Int32))] [(.ref ce1), (.int (1 : Int32)), (.ref b161)])) rfl rfl (hb hby d_prog_46_method_14_28)
  have V192 : Arv Z h192 b161 k161 (.object "com/example/goalpost/goalpost/runtime/Cell") (4 : Int32) [(.ref ce0), (.ref ce1), .null, .null] .null := Arv.set Ar192 q192 S192 Nn192 Hh192 Gg192 rfl W192 1 rfl (Nat.le_of_ble_eq_true rfl)
  have N192 := Fr.snoc X192 N190 ge_b161
  have K193 : Go p e below T192 (mkF m 29 #[.val (.ref a), .val (.ref b161), .val (.int (1 : Int32))] []) G := fun tq kq => K191 tq (st192 tq kq)
  have K194 : Go p e below T192 (mkF m 32 #[.val (.ref a), .val (.ref b161), .val (.int (2 : Int32))] []) G := fun tq kq => K193 tq (XS.iinc X192.here hx rfl (hb hby d_prog_46_method_14_29) rfl (l' := #[.val (.ref a), .val (.ref b161), .val (.int (2 : Int32))]) rfl kq)
  have K195 : Go p e below T192 (mkF m 13 #[.val (.ref a), .val (.ref b161), .val (.int (2 : Int32))] []) G := fun tq kq => K194 tq (XS.goto X192.here hx rfl (pc0 := 32) (pc' := 13) rfl (hb hby d_prog_46_method_14_32) (by decide) (by decide) kq)
  have K196 : Go p e below T192 (mkF m 14 #[.val (.ref a), .val (.ref b161), .val (.int (2 : Int32))] [(.int (2 : Int32))]) G := fun tq kq => K195 tq (XS.iloadN X192.here hx rfl (hb hby d_prog_46_method_14_13) rfl kq)
  have K197 : Go p e below T192 (mkF m 15 #[.val (.ref a), .val (.ref b161), .val (.int (2 : Int32))] [(.ref a), (.int (2 : Int32))]) G := fun tq kq => K196 tq (XS.aloadN X192.here hx rfl (hb hby d_prog_46_method_14_14) rfl rfl kq)
  obtain ⟨T198, X198, e198, st198⟩ := getF X192 hx hZ hown (host := "") (Or.inl (hW 43 _ rfl)) Via.refl e192 (((F_size_a.ext E161).other W177 (Or.inl ne161_a)).other W192 (Or.inl ne161_a)) (g := (mkF m 15 #[.val (.ref a), .val (.ref b161), .val (.int (2 : Int32))] [(.ref a), (.int (2 : Int32))])) rfl rfl (hb hby d_prog_46_method_14_15)
  have K199 : Go p e below T198 (mkF m 18 #[.val (.ref a), .val (.ref b161), .val (.int (2 : Int32))] [(.int (2 : Int32)), (.int (2 : Int32))]) G := fun tq kq => K197 tq (st198 tq kq)
  have K200 : Go p e below T198 (mkF m 35 #[.val (.ref a), .val (.ref b161), .val (.int (2 : Int32))] []) G := fun tq kq => K199 tq (XS.icmpYes X198.here hx rfl (pc0 := 18) (pc' := 35) rfl (hb hby d_prog_46_method_14_18) rfl ((flt (by decide : ¬ ((2 : Int32) < (2 : Int32)))).2.1) (by decide) (by decide) kq)
  have K201 : Go p e below T198 (mkF m 36 #[.val (.ref a), .val (.ref b161), .val (.int (2 : Int32))] [(.ref a)]) G := fun tq kq => K200 tq (XS.aloadN X198.here hx rfl (hb hby d_prog_46_method_14_35) rfl rfl kq)
  have K202 : Go p e below T198 (mkF m 37 #[.val (.ref a), .val (.ref b161), .val (.int (2 : Int32))] [(.ref b161), (.ref a)]) G := fun tq kq => K201 tq (XS.aloadN X198.here hx rfl (hb hby d_prog_46_method_14_36) rfl rfl kq)
  obtain ⟨T203, h203, X203, e203, W203, st203⟩ := putF X198 hx hZ hown (host := "") (Or.inl (hW 36 _ rfl)) Via.refl e198 (((F_ring_a.ext E161).other W177 (Or.inl ne161_a)).other W192 (Or.inl ne161_a)) (((E_a.ext E161).wr W177).wr W192) (Or.inl (hW 37 _ rfl)) (hW 15 _ rfl) (ty := (.array (.object "com/example/goalpost/goalpost/runtime/Cell"))) (by decide) rfl rfl (g := (mkF m 37 #[.val (.ref a), .val (.ref b161), .val (.int (2 : Int32))] [(.ref b161), (.ref a)])) rfl rfl (hb hby d_prog_46_method_14_37)
  have N203 := Fr.snoc X203 N192 ge_a
  have F203 := Fld.same W203 (((F_ring_a.ext E161).other W177 (Or.inl ne161_a)).other W192 (Or.inl ne161_a))
  have K204 : Go p e below T203 (mkF m 40 #[.val (.ref a), .val (.ref b161), .val (.int (2 : Int32))] []) G := fun tq kq => K202 tq (st203 tq kq)
  have K205 : Go p e below T203 (mkF m 41 #[.val (.ref a), .val (.ref b161), .val (.int (2 : Int32))] [(.ref a)]) G := fun tq kq => K204 tq (XS.aloadN X203.here hx rfl (hb hby d_prog_46_method_14_40) rfl rfl kq)
  have K206 : Go p e below T203 (mkF m 42 #[.val (.ref a), .val (.ref b161), .val (.int (2 : Int32))] [(.int (0 : Int32)), (.ref a)]) G := fun tq kq => K205 tq (XS.iconst X203.here hx rfl (hb hby d_prog_46_method_14_41) kq)
  obtain ⟨T207, h207, X207, e207, W207, st207⟩ := putF X203 hx hZ hown (host := "") (Or.inl (hW 45 _ rfl)) Via.refl e203 ((((F_front_a.ext E161).other W177 (Or.inl ne161_a)).other W192 (Or.inl ne161_a)).other W203 (Or.inr (slot_ne (Or.inl (hW 46 _ rfl)) (Or.inl (hW 37 _ rfl)) (by decide) (t := .int) (t' := (.array (.object "com/example/goalpost/goalpost/runtime/Cell"))) (by decide) (by decide)))) ((((E_a.ext E161).wr W177).wr W192).wr W203) (Or.inl (hW 46 _ rfl)) (hW 15 _ rfl) (ty := .int) (by decide) rfl rfl (g := (mkF m 42 #[.val (.ref a), .val (.ref b161), .val (.int (2 : Int32))] [(.int (0 : Int32)), (.ref a)])) rfl rfl (hb hby d_prog_46_method_14_42)
  have N207 := Fr.snoc X207 N203 ge_a
  have F207 := Fld.same W207 ((((F_front_a.ext E161).other W177 (Or.inl ne161_a)).other W192 (Or.inl ne161_a)).other W203 (Or.inr (slot_ne (Or.inl (hW 46 _ rfl)) (Or.inl (hW 37 _ rfl)) (by decide) (t := .int) (t' := (.array (.object "com/example/goalpost/goalpost/runtime/Cell"))) (by decide) (by decide))))
  have K208 : Go p e below T207 (mkF m 45 #[.val (.ref a), .val (.ref b161), .val (.int (2 : Int32))] []) G := fun tq kq => K206 tq (st207 tq kq)
  obtain ⟨fs, hr, hrun, hended, hWW, hsame⟩ := X207.leave (v := none) (fun _ => rfl)
  refine ⟨_, _, hG _ (K208 _ (X207.returnOut hx Bd.returns (hb hby d_prog_46_method_14_45) hr)), hrun, hended, _, _, rfl, ?_, ⟨_, rfl⟩, hWW, hsame.mono (by decide) (by decide)⟩
  show QGR21 Z a r k ce0 ce1 h0 n0 _ T207.heap _
  rw [e207]
  exact ⟨rfl, N207, ((((((Keep.refl h0 [a]).ext E161).wr W177 (Or.inr sz_b161)).wr W192 (Or.inr sz_b161)).wr W203 (Or.inl (List.mem_of_getElem? (i := 0) rfl))).wr W207 (Or.inl (List.mem_of_getElem? (i := 0) rfl))), (((((E_a.ext E161).wr W177).wr W192).wr W203).wr W207), b161, k161, sz_b161, ge_b161, (F203.other W207 (Or.inr (slot_ne (Or.inl (hW 37 _ rfl)) (Or.inl (hW 46 _ rfl)) (by decide) (t := (.array (.object "com/example/goalpost/goalpost/runtime/Cell"))) (t' := .int) (by decide) (by decide)))), F207, (((((F_size_a.ext E161).other W177 (Or.inl ne161_a)).other W192 (Or.inl ne161_a)).other W203 (Or.inr (slot_ne (Or.inl (hW 44 _ rfl)) (Or.inl (hW 37 _ rfl)) (by decide) (t := .int) (t' := (.array (.object "com/example/goalpost/goalpost/runtime/Cell"))) (by decide) (by decide)))).other W207 (Or.inr (slot_ne (Or.inl (hW 44 _ rfl)) (Or.inl (hW 46 _ rfl)) (by decide) (t := .int) (t' := .int) (by decide) (by decide)))), ((V192.other W203 (Ne.symm ne161_a)).other W207 (Ne.symm ne161_a)), O161⟩
theorem own_lit21 {vs : List Value} {cs : List (Addr × Addr)} (h : own_Ring vs 2 1 cs) (hl : cs.length = 2) : ∃ p0 p1 : Addr × Addr, cs = [p0, p1] ∧ vs = [(.ref p1.1), (.ref p0.1)] := by
  obtain ⟨h1, -, -, h4⟩ := h
  match cs, hl, vs, h1 with
  | [p0, p1], _, [v0, v1], _ =>
    refine ⟨p0, p1, rfl, ?_⟩
    have q0 := h4 0 p0 rfl
    have q1 := h4 1 p1 rfl
    simp at q0 q1
    simp [q0, q1]
theorem own_rg21 {p0 p1 : Addr × Addr} : own_Ring [(.ref p0.1), (.ref p1.1), .null, .null] 4 0 [p0, p1] := by
  refine ⟨rfl, by decide, by simp, fun i p hp => ?_⟩
  match i, hp with
  | 0, hp => simp at hp; subst hp; rfl
  | 1, hp => simp at hp; subst hp; rfl
  | i + 2, hp => simp at hp
def QGR30 (Z : State) (a : Addr) (r : Addr) (k : ClassId) (ce0 : Addr) (ce1 : Addr) (ce2 : Addr) (h0 : Heap) (n0 : Nat) (v : Option Value) (h : Heap) (L : List Loc) : Prop := v = none ∧ Fr n0 L ∧ Keep h0 h [a] ∧ Exa Z h a "com/example/goalpost/goalpost/runtime/ListValue" ∧ ∃ (b : Addr) (k2 : ClassId), h0.size ≤ b ∧ n0 ≤ b ∧ Fld Z h a "com/example/goalpost/goalpost/runtime/ListValue" "ring" "[Lcom/example/goalpost/goalpost/runtime/Cell;" (.ref b) ∧ Fld Z h a "com/example/goalpost/goalpost/runtime/ListValue" "front" "I" (.int (0 : Int32)) ∧ Fld Z h a "com/example/goalpost/goalpost/runtime/ListValue" "size" "I" (.int (3 : Int32)) ∧ Arv Z h b k2 (.object "com/example/goalpost/goalpost/runtime/Cell") (6 : Int32) [(.ref ce0), (.ref ce1), (.ref ce2), .null, .null, .null] .null ∧ Ovr Z k2 "com/example/goalpost/goalpost/runtime/Cell"
set_option maxRecDepth 65536 in
set_option maxHeartbeats 40000000 in
theorem rmGR30 (l : Launch) (Z : State) (a0 : Array Value) (hw : ∀ d ∈ tables_1, d.before a0 Z = true) (ws : List Jvm.Cond) (a : Addr) (r : Addr) (k : ClassId) (ce0 : Addr) (ce1 : Addr) (ce2 : Addr) (h0 : Heap) (n0 : Nat) (Z0 : n0 ≤ h0.size) (F_ring_a : Fld Z h0 a "com/example/goalpost/goalpost/runtime/ListValue" "ring" "[Lcom/example/goalpost/goalpost/runtime/Cell;" (.ref r)) (F_front_a : Fld Z h0 a "com/example/goalpost/goalpost/runtime/ListValue" "front" "I" (.int (0 : Int32))) (F_size_a : Fld Z h0 a "com/example/goalpost/goalpost/runtime/ListValue" "size" "I" (.int (3 : Int32))) (E_a : Exa Z h0 a "com/example/goalpost/goalpost/runtime/ListValue") (ge_a : n0 ≤ a) (V_r : Arv Z h0 r k (.object "com/example/goalpost/goalpost/runtime/Cell") (3 : Int32) [(.ref ce0), (.ref ce1), (.ref ce2)] .null) (E_ce0 : Exa Z h0 ce0 "com/example/goalpost/goalpost/runtime/Cell") (E_ce1 : Exa Z h0 ce1 "com/example/goalpost/goalpost/runtime/Cell") (E_ce2 : Exa Z h0 ce2 "com/example/goalpost/goalpost/runtime/Cell") :
    MetFree l (⟨"com/example/goalpost/goalpost/runtime/ListValue", "grow", "()V"⟩ : MethodName) (head1 (Jvm.Cond.code (⟨"com/example/goalpost/goalpost/runtime/ListValue", "grow", "()V"⟩ : MethodName) prog_46_method_14_code 3 none :: ws) ({ frames := 1, cells := 1, slots := 6, locals := 15 } : Room)) (fun aa UU => aa = #[(.ref a)] ∧ Z.Warmed39 UU.vm ∧ UU.heap = h0) (fun _ _ _ _ _ => True) (fun _ UU oo UU' => ∃ vv LL, oo = .returned vv ∧ QGR30 Z a r k ce0 ce1 ce2 h0 n0 vv UU'.heap LL ∧ FrameEnd UU oo UU' LL ({ frames := 1, cells := 1, slots := 6, locals := 15 } : Room).cells ({ frames := 1, cells := 1, slots := 6, locals := 15 } : Room).slots) := by
  refine MetFree.of_bodySF (plainFor_of_name pn_53) hisR ?_
  intro p e s m args below meth c s₁ Bd hml0 hP hK
  obtain ⟨rfl, hZ, hh⟩ := hP
  have hx := Bd.exec
  have hby := Bd.bytes
  have hml : c.maxLocals = 3 := hml0
  have hown : s.vm.findClass "com/example/goalpost/goalpost/runtime/ListValue" = some m.cls := findClass_of_methodNamed Bd.named
  have hnm := (name_of_methodNamed Bd.named Bd.method).1
  have hW : ∀ (k : Nat) (d : Jvm.Cond), tables_1[k]? = some d → d.before a0 Z = true := fun k d h => hw d (List.mem_of_getElem? h)
  have X0 : Stand p l e ({ frames := 1, cells := 1, slots := 6, locals := 15 } : Room) s m #[(.ref a)] below meth c s₁ [] 0 0 := Stand.of_body Bd
  have e0 : s₁.heap = h0 := by rw [← hh, Bd.state]; rfl
  have N0 := Fr.nil n0
  obtain ⟨G, hG, K0⟩ : ∃ G : State → Prop, (∀ tq, G tq → Steps p.tables e below (s₁.setTop (entryFrame m #[(.ref a)] 3)) tq) ∧ Go p e below s₁ (mkF m 0 #[.val (.ref a), .unset, .unset] []) G := ⟨fun tq => Steps p.tables e below (s₁.setTop (entryFrame m #[(.ref a)] 3)) tq, fun _ h => h, fun tq kq => castTop (ef_prog_46_method_14_R m a) kq⟩
  have K209 : Go p e below s₁ (mkF m 1 #[.val (.ref a), .unset, .unset] [(.ref a)]) G := fun tq kq => K0 tq (XS.aloadN X0.here hx rfl (hb hby d_prog_46_method_14_0) rfl rfl kq)
  obtain ⟨T210, X210, e210, st210⟩ := getF X0 hx hZ hown (host := "") (Or.inl (hW 36 _ rfl)) Via.refl e0 F_ring_a (g := (mkF m 1 #[.val (.ref a), .unset, .unset] [(.ref a)])) rfl rfl (hb hby d_prog_46_method_14_1)
  have K211 : Go p e below T210 (mkF m 4 #[.val (.ref a), .unset, .unset] [(.ref r)]) G := fun tq kq => K209 tq (st210 tq kq)
  obtain ⟨cl212, Ar212, q212, S212, Nn212, Hh212, Gg212⟩ := id V_r
  have K213 : Go p e below T210 (mkF m 5 #[.val (.ref a), .unset, .unset] [(.int (3 : Int32))]) G := fun tq kq => K211 tq (X210.arraylength hx (by rw [e210]; exact Ar212.1) (State.isArrayOf_alike hZ.alike Ar212.2.1) (g := (mkF m 4 #[.val (.ref a), .unset, .unset] [(.ref r)])) rfl rfl (hb hby d_prog_46_method_14_4) _ (by rw [len_of S212 Nn212]; exact kq))
  have K214 : Go p e below T210 (mkF m 6 #[.val (.ref a), .unset, .unset] [(.int (2 : Int32)), (.int (3 : Int32))]) G := fun tq kq => K213 tq (XS.iconst X210.here hx rfl (hb hby d_prog_46_method_14_5) kq)
  have K215 : Go p e below T210 (mkF m 7 #[.val (.ref a), .unset, .unset] [(.int (6 : Int32))]) G := fun tq kq => K214 tq (XS.imul X210.here hx rfl (hb hby d_prog_46_method_14_6) rfl kq)
  obtain ⟨T216, h216, k216, X216, e216, E216, A216, O216, st216⟩ := newR X210 hx hZ hown (hW 34 _ rfl) (hW 35 _ rfl) e210 (g := (mkF m 7 #[.val (.ref a), .unset, .unset] [(.int (6 : Int32))])) rfl (hb hby d_prog_46_method_14_7) rfl (by decide) (cap := 6) (by decide) (by decide) (by decide) (by decide)
  obtain ⟨b216, g216⟩ : ∃ z, z = h0.size := ⟨_, rfl⟩
  rw [← g216] at A216 st216
  have ne216_a : a ≠ b216 := Nat.ne_of_lt (Nat.lt_of_lt_of_le F_ring_a.lt (Nat.le_of_eq g216.symm))
  have ne216_r : r ≠ b216 := Nat.ne_of_lt (Nat.lt_of_lt_of_le V_r.lt (Nat.le_of_eq g216.symm))
  have ne216_ce0 : ce0 ≠ b216 := Nat.ne_of_lt (Nat.lt_of_lt_of_le E_ce0.lt (Nat.le_of_eq g216.symm))
  have ne216_ce1 : ce1 ≠ b216 := Nat.ne_of_lt (Nat.lt_of_lt_of_le E_ce1.lt (Nat.le_of_eq g216.symm))
  have ne216_ce2 : ce2 ≠ b216 := Nat.ne_of_lt (Nat.lt_of_lt_of_le E_ce2.lt (Nat.le_of_eq g216.symm))
  have ge_b216 : n0 ≤ b216 := Nat.le_trans Z0 (Nat.le_of_eq g216.symm)
  have sz_b216 : h0.size ≤ b216 := Nat.le_trans ((Keep.refl h0 [a])).1 (Nat.le_of_eq g216.symm)
  have V216 : Arv Z h216 b216 k216 (.object "com/example/goalpost/goalpost/runtime/Cell") (6 : Int32) [.null, .null, .null, .null, .null, .null] .null := (Arv.new A216 (by decide)).pad (pad_rep [] .null 6)
  have K217 : Go p e below T216 (mkF m 10 #[.val (.ref a), .unset, .unset] [(.ref b216)]) G := fun tq kq => K215 tq (st216 tq kq)
  have K218 : Go p e below T216 (mkF m 11 #[.val (.ref a), .val (.ref b216), .unset] []) G := fun tq kq => K217 tq (XS.astoreN X216.here hx rfl (hb hby d_prog_46_method_14_10) rfl rfl (l' := #[.val (.ref a), .val (.ref b216), .unset]) rfl kq)
  have K219 : Go p e below T216 (mkF m 12 #[.val (.ref a), .val (.ref b216), .unset] [(.int (0 : Int32))]) G := fun tq kq => K218 tq (XS.iconst X216.here hx rfl (hb hby d_prog_46_method_14_11) kq)
  have K220 : Go p e below T216 (mkF m 13 #[.val (.ref a), .val (.ref b216), .val (.int (0 : Int32))] []) G := fun tq kq => K219 tq (XS.istoreN X216.here hx rfl (hb hby d_prog_46_method_14_12) rfl (l' := #[.val (.ref a), .val (.ref b216), .val (.int (0 : Int32))]) rfl kq)
  have K221 : Go p e below T216 (mkF m 14 #[.val (.ref a), .val (.ref b216), .val (.int (0 : Int32))] [(.int (0 : Int32))]) G := fun tq kq => K220 tq (XS.iloadN X216.here hx rfl (hb hby d_prog_46_method_14_13) rfl kq)
  have K222 : Go p e below T216 (mkF m 15 #[.val (.ref a), .val (.ref b216), .val (.int (0 : Int32))] [(.ref a), (.int (0 : Int32))]) G := fun tq kq => K221 tq (XS.aloadN X216.here hx rfl (hb hby d_prog_46_method_14_14) rfl rfl kq)
  obtain ⟨T223, X223, e223, st223⟩ := getF X216 hx hZ hown (host := "") (Or.inl (hW 43 _ rfl)) Via.refl e216 (F_size_a.ext E216) (g := (mkF m 15 #[.val (.ref a), .val (.ref b216), .val (.int (0 : Int32))] [(.ref a), (.int (0 : Int32))])) rfl rfl (hb hby d_prog_46_method_14_15)
  have K224 : Go p e below T223 (mkF m 18 #[.val (.ref a), .val (.ref b216), .val (.int (0 : Int32))] [(.int (3 : Int32)), (.int (0 : Int32))]) G := fun tq kq => K222 tq (st223 tq kq)
  have K225 : Go p e below T223 (mkF m 21 #[.val (.ref a), .val (.ref b216), .val (.int (0 : Int32))] []) G := fun tq kq => K224 tq (XS.icmpNo X223.here hx rfl (hb hby d_prog_46_method_14_18) rfl ((tlt (by decide : (0 : Int32) < (3 : Int32))).2.1) kq)
  have K226 : Go p e below T223 (mkF m 22 #[.val (.ref a), .val (.ref b216), .val (.int (0 : Int32))] [(.ref b216)]) G := fun tq kq => K225 tq (XS.aloadN X223.here hx rfl (hb hby d_prog_46_method_14_21) rfl rfl kq)
  have K227 : Go p e below T223 (mkF m 23 #[.val (.ref a), .val (.ref b216), .val (.int (0 : Int32))] [(.int (0 : Int32)), (.ref b216)]) G := fun tq kq => K226 tq (XS.iloadN X223.here hx rfl (hb hby d_prog_46_method_14_22) rfl kq)
  have K228 : Go p e below T223 (mkF m 24 #[.val (.ref a), .val (.ref b216), .val (.int (0 : Int32))] [(.ref a), (.int (0 : Int32)), (.ref b216)]) G := fun tq kq => K227 tq (XS.aloadN X223.here hx rfl (hb hby d_prog_46_method_14_23) rfl rfl kq)
  have K229 : Go p e below T223 (mkF m 25 #[.val (.ref a), .val (.ref b216), .val (.int (0 : Int32))] [(.int (0 : Int32)), (.ref a), (.int (0 : Int32)), (.ref b216)]) G := fun tq kq => K228 tq (XS.iloadN X223.here hx rfl (hb hby d_prog_46_method_14_24) rfl kq)
  obtain ⟨cq230, kq230, q230a, q230b, q230c⟩ := isOf hZ e223 (E_a.ext E216)
  obtain ⟨v230, _, ⟨T230, L230, k230, n230⟩, -, X230, ⟨Lc230, hQ230, l230, y230, z230⟩, st230⟩ := X223.virtualBack hx (y := (⟨"com/example/goalpost/goalpost/runtime/ListValue", "at", "(I)Lcom/example/goalpost/goalpost/runtime/Cell;"⟩ : MethodName)) (z := (⟨"com/example/goalpost/goalpost/runtime/ListValue", "at", "(I)Lcom/example/goalpost/goalpost/runtime/Cell;"⟩ : MethodName)) hown (mvT hZ (hW 66 _ rfl)) (mvT hZ (hW 67 _ rfl)) (notFace_of_selects (args := #[]) (mvT hZ (hW 69 _ rfl))) (mvT hZ (hW 69 _ rfl)) (mvT hZ (hW 68 _ rfl)) (by decide) (backOf (W := 2) (rmAT l Z a0 hw [] a (0 : Int32) r k (3 : Int32) (0 : Int32) [(.ref ce0), (.ref ce1), (.ref ce2)] ce0 h216 n0 (Nat.le_trans Z0 E216.1) (F_ring_a.ext E216) (F_front_a.ext E216) (V_r.ext E216) (by unfold own_B; decide) (by decide) rfl) hZ (hW 70 _ rfl) (hW 16 _ rfl) (by decide) (by decide)) q230a q230c (g := (mkF m 25 #[.val (.ref a), .val (.ref b216), .val (.int (0 : Int32))] [(.int (0 : Int32)), (.ref a), (.int (0 : Int32)), (.ref b216)])) rfl (by rw [hml]; rfl) (Steps.refl _) (argsL := [(.int (0 : Int32))]) (rest := [(.int (0 : Int32)), (.ref b216)]) (lenOf pd_81 rfl) rfl (by show 2 * 0 + _ ≤ _; exact Nat.le_of_eq rfl) (hb hby d_prog_46_method_14_25) (fun _ _ => ⟨rfl, e223, (by decide : 1 + 0 ≤ _), (by decide : 6 + 0 ≤ _)⟩)
  dsimp only [Pt.U, Pt.locs, Pt.cells, Pt.slots] at X230 l230 y230 z230 st230 hQ230
  subst l230 y230 z230
  obtain ⟨rfl, N230q, E230q⟩ := hQ230
  have N230 := Fr.app N0 N230q
  have K231 : Go p e below T230 (mkF m 28 #[.val (.ref a), .val (.ref b216), .val (.int (0 : Int32))] [(.ref ce0), (.int (0 : Int32)), (.ref b216)]) G := fun tq kq => K229 tq (st230.trans kq)
  obtain ⟨cl232, Ar232, q232, S232, Nn232, Hh232, Gg232⟩ := id V216
  have hin232 : ¬ ((0 : Int32) < 0 ∨ cl232.slots.size ≤ ((0 : Int32)).toNatClampNeg) := inb_of S232 ⟨by decide, by decide⟩
  obtain ⟨T232, h232, X232, e232, W232, st232⟩ := stR X230 hx hZ E230q Ar232 (j := (0 : Int32)) hin232 rfl (Sto.ofV Ar232 q232 O216 (Ins.self (E_ce0.ext E216))) (g := (mkF m 28 #[.val (.ref a), .val (.ref b216), .val (.int (0 : Int32))] [(.ref ce0), (.int (0 : Int32)), (.ref b216)])) rfl rfl (hb hby d_prog_46_method_14_28)
  have V232 : Arv Z h232 b216 k216 (.object "com/example/goalpost/goalpost/runtime/Cell") (6 : Int32) [(.ref ce0), .null, .null, .null, .null, .null] .null := Arv.set Ar232 q232 S232 Nn232 Hh232 Gg232 rfl W232 0 rfl (Nat.le_of_ble_eq_true rfl)
  have N232 := Fr.snoc X232 N230 ge_b216
  have K233 : Go p e below T232 (mkF m 29 #[.val (.ref a), .val (.ref b216), .val (.int (0 : Int32))] []) G := fun tq kq => K231 tq (st232 tq kq)
  have K234 : Go p e below T232 (mkF m 32 #[.val (.ref a), .val (.ref b216), .val (.int (1 : Int32))] []) G := fun tq kq => K233 tq (XS.iinc X232.here hx rfl (hb hby d_prog_46_method_14_29) rfl (l' := #[.val (.ref a), .val (.ref b216), .val (.int (1 : Int32))]) rfl kq)
  have K235 : Go p e below T232 (mkF m 13 #[.val (.ref a), .val (.ref b216), .val (.int (1 : Int32))] []) G := fun tq kq => K234 tq (XS.goto X232.here hx rfl (pc0 := 32) (pc' := 13) rfl (hb hby d_prog_46_method_14_32) (by decide) (by decide) kq)
  have K236 : Go p e below T232 (mkF m 14 #[.val (.ref a), .val (.ref b216), .val (.int (1 : Int32))] [(.int (1 : Int32))]) G := fun tq kq => K235 tq (XS.iloadN X232.here hx rfl (hb hby d_prog_46_method_14_13) rfl kq)
  have K237 : Go p e below T232 (mkF m 15 #[.val (.ref a), .val (.ref b216), .val (.int (1 : Int32))] [(.ref a), (.int (1 : Int32))]) G := fun tq kq => K236 tq (XS.aloadN X232.here hx rfl (hb hby d_prog_46_method_14_14) rfl rfl kq)
  obtain ⟨T238, X238, e238, st238⟩ := getF X232 hx hZ hown (host := "") (Or.inl (hW 43 _ rfl)) Via.refl e232 ((F_size_a.ext E216).other W232 (Or.inl ne216_a)) (g := (mkF m 15 #[.val (.ref a), .val (.ref b216), .val (.int (1 : Int32))] [(.ref a), (.int (1 : Int32))])) rfl rfl (hb hby d_prog_46_method_14_15)
  have K239 : Go p e below T238 (mkF m 18 #[.val (.ref a), .val (.ref b216), .val (.int (1 : Int32))] [(.int (3 : Int32)), (.int (1 : Int32))]) G := fun tq kq => K237 tq (st238 tq kq)
  have K240 : Go p e below T238 (mkF m 21 #[.val (.ref a), .val (.ref b216), .val (.int (1 : Int32))] []) G := fun tq kq => K239 tq (XS.icmpNo X238.here hx rfl (hb hby d_prog_46_method_14_18) rfl ((tlt (by decide : (1 : Int32) < (3 : Int32))).2.1) kq)
  have K241 : Go p e below T238 (mkF m 22 #[.val (.ref a), .val (.ref b216), .val (.int (1 : Int32))] [(.ref b216)]) G := fun tq kq => K240 tq (XS.aloadN X238.here hx rfl (hb hby d_prog_46_method_14_21) rfl rfl kq)
  have K242 : Go p e below T238 (mkF m 23 #[.val (.ref a), .val (.ref b216), .val (.int (1 : Int32))] [(.int (1 : Int32)), (.ref b216)]) G := fun tq kq => K241 tq (XS.iloadN X238.here hx rfl (hb hby d_prog_46_method_14_22) rfl kq)
  have K243 : Go p e below T238 (mkF m 24 #[.val (.ref a), .val (.ref b216), .val (.int (1 : Int32))] [(.ref a), (.int (1 : Int32)), (.ref b216)]) G := fun tq kq => K242 tq (XS.aloadN X238.here hx rfl (hb hby d_prog_46_method_14_23) rfl rfl kq)
  have K244 : Go p e below T238 (mkF m 25 #[.val (.ref a), .val (.ref b216), .val (.int (1 : Int32))] [(.int (1 : Int32)), (.ref a), (.int (1 : Int32)), (.ref b216)]) G := fun tq kq => K243 tq (XS.iloadN X238.here hx rfl (hb hby d_prog_46_method_14_24) rfl kq)
  obtain ⟨cq245, kq245, q245a, q245b, q245c⟩ := isOf hZ e238 ((E_a.ext E216).wr W232)
  obtain ⟨v245, _, ⟨T245, L245, k245, n245⟩, -, X245, ⟨Lc245, hQ245, l245, y245, z245⟩, st245⟩ := X238.virtualBack hx (y := (⟨"com/example/goalpost/goalpost/runtime/ListValue", "at", "(I)Lcom/example/goalpost/goalpost/runtime/Cell;"⟩ : MethodName)) (z := (⟨"com/example/goalpost/goalpost/runtime/ListValue", "at", "(I)Lcom/example/goalpost/goalpost/runtime/Cell;"⟩ : MethodName)) hown (mvT hZ (hW 66 _ rfl)) (mvT hZ (hW 67 _ rfl)) (notFace_of_selects (args := #[]) (mvT hZ (hW 69 _ rfl))) (mvT hZ (hW 69 _ rfl)) (mvT hZ (hW 68 _ rfl)) (by decide) (backOf (W := 2) (rmAT l Z a0 hw [] a (1 : Int32) r k (3 : Int32) (0 : Int32) [(.ref ce0), (.ref ce1), (.ref ce2)] ce1 h232 n0 (Nat.le_trans (Nat.le_trans Z0 E216.1) (Keep.of_wr W232).1) ((F_ring_a.ext E216).other W232 (Or.inl ne216_a)) ((F_front_a.ext E216).other W232 (Or.inl ne216_a)) ((V_r.ext E216).other W232 ne216_r) (by unfold own_B; decide) (by decide) rfl) hZ (hW 70 _ rfl) (hW 16 _ rfl) (by decide) (by decide)) q245a q245c (g := (mkF m 25 #[.val (.ref a), .val (.ref b216), .val (.int (1 : Int32))] [(.int (1 : Int32)), (.ref a), (.int (1 : Int32)), (.ref b216)])) rfl (by rw [hml]; rfl) (Steps.refl _) (argsL := [(.int (1 : Int32))]) (rest := [(.int (1 : Int32)), (.ref b216)]) (lenOf pd_81 rfl) rfl (by show 2 * 0 + _ ≤ _; exact Nat.le_of_eq rfl) (hb hby d_prog_46_method_14_25) (fun _ _ => ⟨rfl, e238, (by decide : 1 + 0 ≤ _), (by decide : 6 + 0 ≤ _)⟩)
  dsimp only [Pt.U, Pt.locs, Pt.cells, Pt.slots] at X245 l245 y245 z245 st245 hQ245
  subst l245 y245 z245
  obtain ⟨rfl, N245q, E245q⟩ := hQ245
  have N245 := Fr.app N232 N245q
  have K246 : Go p e below T245 (mkF m 28 #[.val (.ref a), .val (.ref b216), .val (.int (1 : Int32))] [(.ref ce1), (.int (1 : Int32)), (.ref b216)]) G := fun tq kq => K244 tq (st245.trans kq)
  obtain ⟨cl247, Ar247, q247, S247, Nn247, Hh247, Gg247⟩ := id V232
  have hin247 : ¬ ((1 : Int32) < 0 ∨ cl247.slots.size ≤ ((1 : Int32)).toNatClampNeg) := inb_of S247 ⟨by decide, by decide⟩
  obtain ⟨T247, h247, X247, e247, W247, st247⟩ := stR X245 hx hZ E245q Ar247 (j := (1 : Int32)) hin247 rfl (Sto.ofV Ar247 q247 O216 (Ins.self ((E_ce1.ext E216).wr W232))) (g := (mkF m 28 #[.val (.ref a), .val (.ref b216), .val (.int (1 : Int32))] [(.ref ce1), (.int (1 : Int32)), (.ref b216)])) rfl rfl (hb hby d_prog_46_method_14_28)
  have V247 : Arv Z h247 b216 k216 (.object "com/example/goalpost/goalpost/runtime/Cell") (6 : Int32) [(.ref ce0), (.ref ce1), .null, .null, .null, .null] .null := Arv.set Ar247 q247 S247 Nn247 Hh247 Gg247 rfl W247 1 rfl (Nat.le_of_ble_eq_true rfl)
  have N247 := Fr.snoc X247 N245 ge_b216
  have K248 : Go p e below T247 (mkF m 29 #[.val (.ref a), .val (.ref b216), .val (.int (1 : Int32))] []) G := fun tq kq => K246 tq (st247 tq kq)
  have K249 : Go p e below T247 (mkF m 32 #[.val (.ref a), .val (.ref b216), .val (.int (2 : Int32))] []) G := fun tq kq => K248 tq (XS.iinc X247.here hx rfl (hb hby d_prog_46_method_14_29) rfl (l' := #[.val (.ref a), .val (.ref b216), .val (.int (2 : Int32))]) rfl kq)
  have K250 : Go p e below T247 (mkF m 13 #[.val (.ref a), .val (.ref b216), .val (.int (2 : Int32))] []) G := fun tq kq => K249 tq (XS.goto X247.here hx rfl (pc0 := 32) (pc' := 13) rfl (hb hby d_prog_46_method_14_32) (by decide) (by decide) kq)
  have K251 : Go p e below T247 (mkF m 14 #[.val (.ref a), .val (.ref b216), .val (.int (2 : Int32))] [(.int (2 : Int32))]) G := fun tq kq => K250 tq (XS.iloadN X247.here hx rfl (hb hby d_prog_46_method_14_13) rfl kq)
  have K252 : Go p e below T247 (mkF m 15 #[.val (.ref a), .val (.ref b216), .val (.int (2 : Int32))] [(.ref a), (.int (2 : Int32))]) G := fun tq kq => K251 tq (XS.aloadN X247.here hx rfl (hb hby d_prog_46_method_14_14) rfl rfl kq)
  obtain ⟨T253, X253, e253, st253⟩ := getF X247 hx hZ hown (host := "") (Or.inl (hW 43 _ rfl)) Via.refl e247 (((F_size_a.ext E216).other W232 (Or.inl ne216_a)).other W247 (Or.inl ne216_a)) (g := (mkF m 15 #[.val (.ref a), .val (.ref b216), .val (.int (2 : Int32))] [(.ref a), (.int (2 : Int32))])) rfl rfl (hb hby d_prog_46_method_14_15)
  have K254 : Go p e below T253 (mkF m 18 #[.val (.ref a), .val (.ref b216), .val (.int (2 : Int32))] [(.int (3 : Int32)), (.int (2 : Int32))]) G := fun tq kq => K252 tq (st253 tq kq)
  have K255 : Go p e below T253 (mkF m 21 #[.val (.ref a), .val (.ref b216), .val (.int (2 : Int32))] []) G := fun tq kq => K254 tq (XS.icmpNo X253.here hx rfl (hb hby d_prog_46_method_14_18) rfl ((tlt (by decide : (2 : Int32) < (3 : Int32))).2.1) kq)
  have K256 : Go p e below T253 (mkF m 22 #[.val (.ref a), .val (.ref b216), .val (.int (2 : Int32))] [(.ref b216)]) G := fun tq kq => K255 tq (XS.aloadN X253.here hx rfl (hb hby d_prog_46_method_14_21) rfl rfl kq)
  have K257 : Go p e below T253 (mkF m 23 #[.val (.ref a), .val (.ref b216), .val (.int (2 : Int32))] [(.int (2 : Int32)), (.ref b216)]) G := fun tq kq => K256 tq (XS.iloadN X253.here hx rfl (hb hby d_prog_46_method_14_22) rfl kq)
  have K258 : Go p e below T253 (mkF m 24 #[.val (.ref a), .val (.ref b216), .val (.int (2 : Int32))] [(.ref a), (.int (2 : Int32)), (.ref b216)]) G := fun tq kq => K257 tq (XS.aloadN X253.here hx rfl (hb hby d_prog_46_method_14_23) rfl rfl kq)
  have K259 : Go p e below T253 (mkF m 25 #[.val (.ref a), .val (.ref b216), .val (.int (2 : Int32))] [(.int (2 : Int32)), (.ref a), (.int (2 : Int32)), (.ref b216)]) G := fun tq kq => K258 tq (XS.iloadN X253.here hx rfl (hb hby d_prog_46_method_14_24) rfl kq)
  obtain ⟨cq260, kq260, q260a, q260b, q260c⟩ := isOf hZ e253 (((E_a.ext E216).wr W232).wr W247)
  obtain ⟨v260, _, ⟨T260, L260, k260, n260⟩, -, X260, ⟨Lc260, hQ260, l260, y260, z260⟩, st260⟩ := X253.virtualBack hx (y := (⟨"com/example/goalpost/goalpost/runtime/ListValue", "at", "(I)Lcom/example/goalpost/goalpost/runtime/Cell;"⟩ : MethodName)) (z := (⟨"com/example/goalpost/goalpost/runtime/ListValue", "at", "(I)Lcom/example/goalpost/goalpost/runtime/Cell;"⟩ : MethodName)) hown (mvT hZ (hW 66 _ rfl)) (mvT hZ (hW 67 _ rfl)) (notFace_of_selects (args := #[]) (mvT hZ (hW 69 _ rfl))) (mvT hZ (hW 69 _ rfl)) (mvT hZ (hW 68 _ rfl)) (by decide) (backOf (W := 2) (rmAT l Z a0 hw [] a (2 : Int32) r k (3 : Int32) (0 : Int32) [(.ref ce0), (.ref ce1), (.ref ce2)] ce2 h247 n0 (Nat.le_trans (Nat.le_trans (Nat.le_trans Z0 E216.1) (Keep.of_wr W232).1) (Keep.of_wr W247).1) (((F_ring_a.ext E216).other W232 (Or.inl ne216_a)).other W247 (Or.inl ne216_a)) (((F_front_a.ext E216).other W232 (Or.inl ne216_a)).other W247 (Or.inl ne216_a)) (((V_r.ext E216).other W232 ne216_r).other W247 ne216_r) (by unfold own_B; decide) (by decide) rfl) hZ (hW 70 _ rfl) (hW 16 _ rfl) (by decide) (by decide)) q260a q260c (g := (mkF m 25 #[.val (.ref a), .val (.ref b216), .val (.int (2 : Int32))] [(.int (2 : Int32)), (.ref a), (.int (2 : Int32)), (.ref b216)])) rfl (by rw [hml]; rfl) (Steps.refl _) (argsL := [(.int (2 : Int32))]) (rest := [(.int (2 : Int32)), (.ref b216)]) (lenOf pd_81 rfl) rfl (by show 2 * 0 + _ ≤ _; exact Nat.le_of_eq rfl) (hb hby d_prog_46_method_14_25) (fun _ _ => ⟨rfl, e253, (by decide : 1 + 0 ≤ _), (by decide : 6 + 0 ≤ _)⟩)
  dsimp only [Pt.U, Pt.locs, Pt.cells, Pt.slots] at X260 l260 y260 z260 st260 hQ260
  subst l260 y260 z260
  obtain ⟨rfl, N260q, E260q⟩ := hQ260
  have N260 := Fr.app N247 N260q
  have K261 : Go p e below T260 (mkF m 28 #[.val (.ref a), .val (.ref b216), .val (.int (2 : Int32))] [(.ref ce2), (.int (2 : Int32)), (.ref b216)]) G := fun tq kq => K259 tq (st260.trans kq)
  obtain ⟨cl262, Ar262, q262, S262, Nn262, Hh262, Gg262⟩ := id V247
  have hin262 : ¬ ((2 : Int32) < 0 ∨ cl262.slots.size ≤ ((2 : Int32)).toNatClampNeg) := inb_of S262 ⟨by decide, by decide⟩
  obtain ⟨T262, h262, X262, e262, W262, st262⟩ := stR X260 hx hZ E260q Ar262 (j := (2 : Int32)) hin262 rfl (Sto.ofV Ar262 q262 O216 (Ins.self (((E_ce2.ext E216).wr W232).wr W247))) (g := (mkF m 28 #[.val (.ref a), .val (.ref b216), .val (.int (2 : Int32))] [(.ref ce2), (.int (2 : Int32)), (.ref b216)])) rfl rfl (hb hby d_prog_46_method_14_28)
  have V262 : Arv Z h262 b216 k216 (.object "com/example/goalpost/goalpost/runtime/Cell") (6 : Int32) [(.ref ce0), (.ref ce1), (.ref ce2), .null, .null, .null] .null := Arv.set Ar262 q262 S262 Nn262 Hh262 Gg262 rfl W262 2 rfl (Nat.le_of_ble_eq_true rfl)
  have N262 := Fr.snoc X262 N260 ge_b216
  have K263 : Go p e below T262 (mkF m 29 #[.val (.ref a), .val (.ref b216), .val (.int (2 : Int32))] []) G := fun tq kq => K261 tq (st262 tq kq)
  have K264 : Go p e below T262 (mkF m 32 #[.val (.ref a), .val (.ref b216), .val (.int (3 : Int32))] []) G := fun tq kq => K263 tq (XS.iinc X262.here hx rfl (hb hby d_prog_46_method_14_29) rfl (l' := #[.val (.ref a), .val (.ref b216), .val (.int (3 : Int32))]) rfl kq)
  have K265 : Go p e below T262 (mkF m 13 #[.val (.ref a), .val (.ref b216), .val (.int (3 : Int32))] []) G := fun tq kq => K264 tq (XS.goto X262.here hx rfl (pc0 := 32) (pc' := 13) rfl (hb hby d_prog_46_method_14_32) (by decide) (by decide) kq)
  have K266 : Go p e below T262 (mkF m 14 #[.val (.ref a), .val (.ref b216), .val (.int (3 : Int32))] [(.int (3 : Int32))]) G := fun tq kq => K265 tq (XS.iloadN X262.here hx rfl (hb hby d_prog_46_method_14_13) rfl kq)
  have K267 : Go p e below T262 (mkF m 15 #[.val (.ref a), .val (.ref b216), .val (.int (3 : Int32))] [(.ref a), (.int (3 : Int32))]) G := fun tq kq => K266 tq (XS.aloadN X262.here hx rfl (hb hby d_prog_46_method_14_14) rfl rfl kq)
  obtain ⟨T268, X268, e268, st268⟩ := getF X262 hx hZ hown (host := "") (Or.inl (hW 43 _ rfl)) Via.refl e262 ((((F_size_a.ext E216).other W232 (Or.inl ne216_a)).other W247 (Or.inl ne216_a)).other W262 (Or.inl ne216_a)) (g := (mkF m 15 #[.val (.ref a), .val (.ref b216), .val (.int (3 : Int32))] [(.ref a), (.int (3 : Int32))])) rfl rfl (hb hby d_prog_46_method_14_15)
  have K269 : Go p e below T268 (mkF m 18 #[.val (.ref a), .val (.ref b216), .val (.int (3 : Int32))] [(.int (3 : Int32)), (.int (3 : Int32))]) G := fun tq kq => K267 tq (st268 tq kq)
  have K270 : Go p e below T268 (mkF m 35 #[.val (.ref a), .val (.ref b216), .val (.int (3 : Int32))] []) G := fun tq kq => K269 tq (XS.icmpYes X268.here hx rfl (pc0 := 18) (pc' := 35) rfl (hb hby d_prog_46_method_14_18) rfl ((flt (by decide : ¬ ((3 : Int32) < (3 : Int32)))).2.1) (by decide) (by decide) kq)
  have K271 : Go p e below T268 (mkF m 36 #[.val (.ref a), .val (.ref b216), .val (.int (3 : Int32))] [(.ref a)]) G := fun tq kq => K270 tq (XS.aloadN X268.here hx rfl (hb hby d_prog_46_method_14_35) rfl rfl kq)
  have K272 : Go p e below T268 (mkF m 37 #[.val (.ref a), .val (.ref b216), .val (.int (3 : Int32))] [(.ref b216), (.ref a)]) G := fun tq kq => K271 tq (XS.aloadN X268.here hx rfl (hb hby d_prog_46_method_14_36) rfl rfl kq)
  obtain ⟨T273, h273, X273, e273, W273, st273⟩ := putF X268 hx hZ hown (host := "") (Or.inl (hW 36 _ rfl)) Via.refl e268 ((((F_ring_a.ext E216).other W232 (Or.inl ne216_a)).other W247 (Or.inl ne216_a)).other W262 (Or.inl ne216_a)) ((((E_a.ext E216).wr W232).wr W247).wr W262) (Or.inl (hW 37 _ rfl)) (hW 15 _ rfl) (ty := (.array (.object "com/example/goalpost/goalpost/runtime/Cell"))) (by decide) rfl rfl (g := (mkF m 37 #[.val (.ref a), .val (.ref b216), .val (.int (3 : Int32))] [(.ref b216), (.ref a)])) rfl rfl (hb hby d_prog_46_method_14_37)
  have N273 := Fr.snoc X273 N262 ge_a
  have F273 := Fld.same W273 ((((F_ring_a.ext E216).other W232 (Or.inl ne216_a)).other W247 (Or.inl ne216_a)).other W262 (Or.inl ne216_a))
  have K274 : Go p e below T273 (mkF m 40 #[.val (.ref a), .val (.ref b216), .val (.int (3 : Int32))] []) G := fun tq kq => K272 tq (st273 tq kq)
  have K275 : Go p e below T273 (mkF m 41 #[.val (.ref a), .val (.ref b216), .val (.int (3 : Int32))] [(.ref a)]) G := fun tq kq => K274 tq (XS.aloadN X273.here hx rfl (hb hby d_prog_46_method_14_40) rfl rfl kq)
  have K276 : Go p e below T273 (mkF m 42 #[.val (.ref a), .val (.ref b216), .val (.int (3 : Int32))] [(.int (0 : Int32)), (.ref a)]) G := fun tq kq => K275 tq (XS.iconst X273.here hx rfl (hb hby d_prog_46_method_14_41) kq)
  obtain ⟨T277, h277, X277, e277, W277, st277⟩ := putF X273 hx hZ hown (host := "") (Or.inl (hW 45 _ rfl)) Via.refl e273 (((((F_front_a.ext E216).other W232 (Or.inl ne216_a)).other W247 (Or.inl ne216_a)).other W262 (Or.inl ne216_a)).other W273 (Or.inr (slot_ne (Or.inl (hW 46 _ rfl)) (Or.inl (hW 37 _ rfl)) (by decide) (t := .int) (t' := (.array (.object "com/example/goalpost/goalpost/runtime/Cell"))) (by decide) (by decide)))) (((((E_a.ext E216).wr W232).wr W247).wr W262).wr W273) (Or.inl (hW 46 _ rfl)) (hW 15 _ rfl) (ty := .int) (by decide) rfl rfl (g := (mkF m 42 #[.val (.ref a), .val (.ref b216), .val (.int (3 : Int32))] [(.int (0 : Int32)), (.ref a)])) rfl rfl (hb hby d_prog_46_method_14_42)
  have N277 := Fr.snoc X277 N273 ge_a
  have F277 := Fld.same W277 (((((F_front_a.ext E216).other W232 (Or.inl ne216_a)).other W247 (Or.inl ne216_a)).other W262 (Or.inl ne216_a)).other W273 (Or.inr (slot_ne (Or.inl (hW 46 _ rfl)) (Or.inl (hW 37 _ rfl)) (by decide) (t := .int) (t' := (.array (.object "com/example/goalpost/goalpost/runtime/Cell"))) (by decide) (by decide))))
  have K278 : Go p e below T277 (mkF m 45 #[.val (.ref a), .val (.ref b216), .val (.int (3 : Int32))] []) G := fun tq kq => K276 tq (st277 tq kq)
  obtain ⟨fs, hr, hrun, hended, hWW, hsame⟩ := X277.leave (v := none) (fun _ => rfl)
  refine ⟨_, _, hG _ (K278 _ (X277.returnOut hx Bd.returns (hb hby d_prog_46_method_14_45) hr)), hrun, hended, _, _, rfl, ?_, ⟨_, rfl⟩, hWW, hsame.mono (by decide) (by decide)⟩
  show QGR30 Z a r k ce0 ce1 ce2 h0 n0 _ T277.heap _
  rw [e277]
  exact ⟨rfl, N277, (((((((Keep.refl h0 [a]).ext E216).wr W232 (Or.inr sz_b216)).wr W247 (Or.inr sz_b216)).wr W262 (Or.inr sz_b216)).wr W273 (Or.inl (List.mem_of_getElem? (i := 0) rfl))).wr W277 (Or.inl (List.mem_of_getElem? (i := 0) rfl))), ((((((E_a.ext E216).wr W232).wr W247).wr W262).wr W273).wr W277), b216, k216, sz_b216, ge_b216, (F273.other W277 (Or.inr (slot_ne (Or.inl (hW 37 _ rfl)) (Or.inl (hW 46 _ rfl)) (by decide) (t := (.array (.object "com/example/goalpost/goalpost/runtime/Cell"))) (t' := .int) (by decide) (by decide)))), F277, ((((((F_size_a.ext E216).other W232 (Or.inl ne216_a)).other W247 (Or.inl ne216_a)).other W262 (Or.inl ne216_a)).other W273 (Or.inr (slot_ne (Or.inl (hW 44 _ rfl)) (Or.inl (hW 37 _ rfl)) (by decide) (t := .int) (t' := (.array (.object "com/example/goalpost/goalpost/runtime/Cell"))) (by decide) (by decide)))).other W277 (Or.inr (slot_ne (Or.inl (hW 44 _ rfl)) (Or.inl (hW 46 _ rfl)) (by decide) (t := .int) (t' := .int) (by decide) (by decide)))), ((V262.other W273 (Ne.symm ne216_a)).other W277 (Ne.symm ne216_a)), O216⟩
theorem own_lit30 {vs : List Value} {cs : List (Addr × Addr)} (h : own_Ring vs 3 0 cs) (hl : cs.length = 3) : ∃ p0 p1 p2 : Addr × Addr, cs = [p0, p1, p2] ∧ vs = [(.ref p0.1), (.ref p1.1), (.ref p2.1)] := by
  obtain ⟨h1, -, -, h4⟩ := h
  match cs, hl, vs, h1 with
  | [p0, p1, p2], _, [v0, v1, v2], _ =>
    refine ⟨p0, p1, p2, rfl, ?_⟩
    have q0 := h4 0 p0 rfl
    have q1 := h4 1 p1 rfl
    have q2 := h4 2 p2 rfl
    simp at q0 q1 q2
    simp [q0, q1, q2]
theorem own_rg30 {p0 p1 p2 : Addr × Addr} : own_Ring [(.ref p0.1), (.ref p1.1), (.ref p2.1), .null, .null, .null] 6 0 [p0, p1, p2] := by
  refine ⟨rfl, by decide, by simp, fun i p hp => ?_⟩
  match i, hp with
  | 0, hp => simp at hp; subst hp; rfl
  | 1, hp => simp at hp; subst hp; rfl
  | 2, hp => simp at hp; subst hp; rfl
  | i + 3, hp => simp at hp
def QGR31 (Z : State) (a : Addr) (r : Addr) (k : ClassId) (ce0 : Addr) (ce1 : Addr) (ce2 : Addr) (h0 : Heap) (n0 : Nat) (v : Option Value) (h : Heap) (L : List Loc) : Prop := v = none ∧ Fr n0 L ∧ Keep h0 h [a] ∧ Exa Z h a "com/example/goalpost/goalpost/runtime/ListValue" ∧ ∃ (b : Addr) (k2 : ClassId), h0.size ≤ b ∧ n0 ≤ b ∧ Fld Z h a "com/example/goalpost/goalpost/runtime/ListValue" "ring" "[Lcom/example/goalpost/goalpost/runtime/Cell;" (.ref b) ∧ Fld Z h a "com/example/goalpost/goalpost/runtime/ListValue" "front" "I" (.int (0 : Int32)) ∧ Fld Z h a "com/example/goalpost/goalpost/runtime/ListValue" "size" "I" (.int (3 : Int32)) ∧ Arv Z h b k2 (.object "com/example/goalpost/goalpost/runtime/Cell") (6 : Int32) [(.ref ce0), (.ref ce1), (.ref ce2), .null, .null, .null] .null ∧ Ovr Z k2 "com/example/goalpost/goalpost/runtime/Cell"
set_option maxRecDepth 65536 in
set_option maxHeartbeats 40000000 in
theorem rmGR31 (l : Launch) (Z : State) (a0 : Array Value) (hw : ∀ d ∈ tables_1, d.before a0 Z = true) (ws : List Jvm.Cond) (a : Addr) (r : Addr) (k : ClassId) (ce0 : Addr) (ce1 : Addr) (ce2 : Addr) (h0 : Heap) (n0 : Nat) (Z0 : n0 ≤ h0.size) (F_ring_a : Fld Z h0 a "com/example/goalpost/goalpost/runtime/ListValue" "ring" "[Lcom/example/goalpost/goalpost/runtime/Cell;" (.ref r)) (F_front_a : Fld Z h0 a "com/example/goalpost/goalpost/runtime/ListValue" "front" "I" (.int (1 : Int32))) (F_size_a : Fld Z h0 a "com/example/goalpost/goalpost/runtime/ListValue" "size" "I" (.int (3 : Int32))) (E_a : Exa Z h0 a "com/example/goalpost/goalpost/runtime/ListValue") (ge_a : n0 ≤ a) (V_r : Arv Z h0 r k (.object "com/example/goalpost/goalpost/runtime/Cell") (3 : Int32) [(.ref ce2), (.ref ce0), (.ref ce1)] .null) (E_ce0 : Exa Z h0 ce0 "com/example/goalpost/goalpost/runtime/Cell") (E_ce1 : Exa Z h0 ce1 "com/example/goalpost/goalpost/runtime/Cell") (E_ce2 : Exa Z h0 ce2 "com/example/goalpost/goalpost/runtime/Cell") :
    MetFree l (⟨"com/example/goalpost/goalpost/runtime/ListValue", "grow", "()V"⟩ : MethodName) (head1 (Jvm.Cond.code (⟨"com/example/goalpost/goalpost/runtime/ListValue", "grow", "()V"⟩ : MethodName) prog_46_method_14_code 3 none :: ws) ({ frames := 1, cells := 1, slots := 6, locals := 15 } : Room)) (fun aa UU => aa = #[(.ref a)] ∧ Z.Warmed39 UU.vm ∧ UU.heap = h0) (fun _ _ _ _ _ => True) (fun _ UU oo UU' => ∃ vv LL, oo = .returned vv ∧ QGR31 Z a r k ce0 ce1 ce2 h0 n0 vv UU'.heap LL ∧ FrameEnd UU oo UU' LL ({ frames := 1, cells := 1, slots := 6, locals := 15 } : Room).cells ({ frames := 1, cells := 1, slots := 6, locals := 15 } : Room).slots) := by
  refine MetFree.of_bodySF (plainFor_of_name pn_53) hisR ?_
  intro p e s m args below meth c s₁ Bd hml0 hP hK
  obtain ⟨rfl, hZ, hh⟩ := hP
  have hx := Bd.exec
  have hby := Bd.bytes
  have hml : c.maxLocals = 3 := hml0
  have hown : s.vm.findClass "com/example/goalpost/goalpost/runtime/ListValue" = some m.cls := findClass_of_methodNamed Bd.named
  have hnm := (name_of_methodNamed Bd.named Bd.method).1
  have hW : ∀ (k : Nat) (d : Jvm.Cond), tables_1[k]? = some d → d.before a0 Z = true := fun k d h => hw d (List.mem_of_getElem? h)
  have X0 : Stand p l e ({ frames := 1, cells := 1, slots := 6, locals := 15 } : Room) s m #[(.ref a)] below meth c s₁ [] 0 0 := Stand.of_body Bd
  have e0 : s₁.heap = h0 := by rw [← hh, Bd.state]; rfl
  have N0 := Fr.nil n0
  obtain ⟨G, hG, K0⟩ : ∃ G : State → Prop, (∀ tq, G tq → Steps p.tables e below (s₁.setTop (entryFrame m #[(.ref a)] 3)) tq) ∧ Go p e below s₁ (mkF m 0 #[.val (.ref a), .unset, .unset] []) G := ⟨fun tq => Steps p.tables e below (s₁.setTop (entryFrame m #[(.ref a)] 3)) tq, fun _ h => h, fun tq kq => castTop (ef_prog_46_method_14_R m a) kq⟩
  have K279 : Go p e below s₁ (mkF m 1 #[.val (.ref a), .unset, .unset] [(.ref a)]) G := fun tq kq => K0 tq (XS.aloadN X0.here hx rfl (hb hby d_prog_46_method_14_0) rfl rfl kq)
  obtain ⟨T280, X280, e280, st280⟩ := getF X0 hx hZ hown (host := "") (Or.inl (hW 36 _ rfl)) Via.refl e0 F_ring_a (g := (mkF m 1 #[.val (.ref a), .unset, .unset] [(.ref a)])) rfl rfl (hb hby d_prog_46_method_14_1)
  have K281 : Go p e below T280 (mkF m 4 #[.val (.ref a), .unset, .unset] [(.ref r)]) G := fun tq kq => K279 tq (st280 tq kq)
  obtain ⟨cl282, Ar282, q282, S282, Nn282, Hh282, Gg282⟩ := id V_r
  have K283 : Go p e below T280 (mkF m 5 #[.val (.ref a), .unset, .unset] [(.int (3 : Int32))]) G := fun tq kq => K281 tq (X280.arraylength hx (by rw [e280]; exact Ar282.1) (State.isArrayOf_alike hZ.alike Ar282.2.1) (g := (mkF m 4 #[.val (.ref a), .unset, .unset] [(.ref r)])) rfl rfl (hb hby d_prog_46_method_14_4) _ (by rw [len_of S282 Nn282]; exact kq))
  have K284 : Go p e below T280 (mkF m 6 #[.val (.ref a), .unset, .unset] [(.int (2 : Int32)), (.int (3 : Int32))]) G := fun tq kq => K283 tq (XS.iconst X280.here hx rfl (hb hby d_prog_46_method_14_5) kq)
  have K285 : Go p e below T280 (mkF m 7 #[.val (.ref a), .unset, .unset] [(.int (6 : Int32))]) G := fun tq kq => K284 tq (XS.imul X280.here hx rfl (hb hby d_prog_46_method_14_6) rfl kq)
  obtain ⟨T286, h286, k286, X286, e286, E286, A286, O286, st286⟩ := newR X280 hx hZ hown (hW 34 _ rfl) (hW 35 _ rfl) e280 (g := (mkF m 7 #[.val (.ref a), .unset, .unset] [(.int (6 : Int32))])) rfl (hb hby d_prog_46_method_14_7) rfl (by decide) (cap := 6) (by decide) (by decide) (by decide) (by decide)
  obtain ⟨b286, g286⟩ : ∃ z, z = h0.size := ⟨_, rfl⟩
  rw [← g286] at A286 st286
  have ne286_a : a ≠ b286 := Nat.ne_of_lt (Nat.lt_of_lt_of_le F_ring_a.lt (Nat.le_of_eq g286.symm))
  have ne286_r : r ≠ b286 := Nat.ne_of_lt (Nat.lt_of_lt_of_le V_r.lt (Nat.le_of_eq g286.symm))
  have ne286_ce0 : ce0 ≠ b286 := Nat.ne_of_lt (Nat.lt_of_lt_of_le E_ce0.lt (Nat.le_of_eq g286.symm))
  have ne286_ce1 : ce1 ≠ b286 := Nat.ne_of_lt (Nat.lt_of_lt_of_le E_ce1.lt (Nat.le_of_eq g286.symm))
  have ne286_ce2 : ce2 ≠ b286 := Nat.ne_of_lt (Nat.lt_of_lt_of_le E_ce2.lt (Nat.le_of_eq g286.symm))
  have ge_b286 : n0 ≤ b286 := Nat.le_trans Z0 (Nat.le_of_eq g286.symm)
  have sz_b286 : h0.size ≤ b286 := Nat.le_trans ((Keep.refl h0 [a])).1 (Nat.le_of_eq g286.symm)
  have V286 : Arv Z h286 b286 k286 (.object "com/example/goalpost/goalpost/runtime/Cell") (6 : Int32) [.null, .null, .null, .null, .null, .null] .null := (Arv.new A286 (by decide)).pad (pad_rep [] .null 6)
  have K287 : Go p e below T286 (mkF m 10 #[.val (.ref a), .unset, .unset] [(.ref b286)]) G := fun tq kq => K285 tq (st286 tq kq)
  have K288 : Go p e below T286 (mkF m 11 #[.val (.ref a), .val (.ref b286), .unset] []) G := fun tq kq => K287 tq (XS.astoreN X286.here hx rfl (hb hby d_prog_46_method_14_10) rfl rfl (l' := #[.val (.ref a), .val (.ref b286), .unset]) rfl kq)
  have K289 : Go p e below T286 (mkF m 12 #[.val (.ref a), .val (.ref b286), .unset] [(.int (0 : Int32))]) G := fun tq kq => K288 tq (XS.iconst X286.here hx rfl (hb hby d_prog_46_method_14_11) kq)
  have K290 : Go p e below T286 (mkF m 13 #[.val (.ref a), .val (.ref b286), .val (.int (0 : Int32))] []) G := fun tq kq => K289 tq (XS.istoreN X286.here hx rfl (hb hby d_prog_46_method_14_12) rfl (l' := #[.val (.ref a), .val (.ref b286), .val (.int (0 : Int32))]) rfl kq)
  have K291 : Go p e below T286 (mkF m 14 #[.val (.ref a), .val (.ref b286), .val (.int (0 : Int32))] [(.int (0 : Int32))]) G := fun tq kq => K290 tq (XS.iloadN X286.here hx rfl (hb hby d_prog_46_method_14_13) rfl kq)
  have K292 : Go p e below T286 (mkF m 15 #[.val (.ref a), .val (.ref b286), .val (.int (0 : Int32))] [(.ref a), (.int (0 : Int32))]) G := fun tq kq => K291 tq (XS.aloadN X286.here hx rfl (hb hby d_prog_46_method_14_14) rfl rfl kq)
  obtain ⟨T293, X293, e293, st293⟩ := getF X286 hx hZ hown (host := "") (Or.inl (hW 43 _ rfl)) Via.refl e286 (F_size_a.ext E286) (g := (mkF m 15 #[.val (.ref a), .val (.ref b286), .val (.int (0 : Int32))] [(.ref a), (.int (0 : Int32))])) rfl rfl (hb hby d_prog_46_method_14_15)
  have K294 : Go p e below T293 (mkF m 18 #[.val (.ref a), .val (.ref b286), .val (.int (0 : Int32))] [(.int (3 : Int32)), (.int (0 : Int32))]) G := fun tq kq => K292 tq (st293 tq kq)
  have K295 : Go p e below T293 (mkF m 21 #[.val (.ref a), .val (.ref b286), .val (.int (0 : Int32))] []) G := fun tq kq => K294 tq (XS.icmpNo X293.here hx rfl (hb hby d_prog_46_method_14_18) rfl ((tlt (by decide : (0 : Int32) < (3 : Int32))).2.1) kq)
  have K296 : Go p e below T293 (mkF m 22 #[.val (.ref a), .val (.ref b286), .val (.int (0 : Int32))] [(.ref b286)]) G := fun tq kq => K295 tq (XS.aloadN X293.here hx rfl (hb hby d_prog_46_method_14_21) rfl rfl kq)
  have K297 : Go p e below T293 (mkF m 23 #[.val (.ref a), .val (.ref b286), .val (.int (0 : Int32))] [(.int (0 : Int32)), (.ref b286)]) G := fun tq kq => K296 tq (XS.iloadN X293.here hx rfl (hb hby d_prog_46_method_14_22) rfl kq)
  have K298 : Go p e below T293 (mkF m 24 #[.val (.ref a), .val (.ref b286), .val (.int (0 : Int32))] [(.ref a), (.int (0 : Int32)), (.ref b286)]) G := fun tq kq => K297 tq (XS.aloadN X293.here hx rfl (hb hby d_prog_46_method_14_23) rfl rfl kq)
  have K299 : Go p e below T293 (mkF m 25 #[.val (.ref a), .val (.ref b286), .val (.int (0 : Int32))] [(.int (0 : Int32)), (.ref a), (.int (0 : Int32)), (.ref b286)]) G := fun tq kq => K298 tq (XS.iloadN X293.here hx rfl (hb hby d_prog_46_method_14_24) rfl kq)
  obtain ⟨cq300, kq300, q300a, q300b, q300c⟩ := isOf hZ e293 (E_a.ext E286)
  obtain ⟨v300, _, ⟨T300, L300, k300, n300⟩, -, X300, ⟨Lc300, hQ300, l300, y300, z300⟩, st300⟩ := X293.virtualBack hx (y := (⟨"com/example/goalpost/goalpost/runtime/ListValue", "at", "(I)Lcom/example/goalpost/goalpost/runtime/Cell;"⟩ : MethodName)) (z := (⟨"com/example/goalpost/goalpost/runtime/ListValue", "at", "(I)Lcom/example/goalpost/goalpost/runtime/Cell;"⟩ : MethodName)) hown (mvT hZ (hW 66 _ rfl)) (mvT hZ (hW 67 _ rfl)) (notFace_of_selects (args := #[]) (mvT hZ (hW 69 _ rfl))) (mvT hZ (hW 69 _ rfl)) (mvT hZ (hW 68 _ rfl)) (by decide) (backOf (W := 2) (rmAT l Z a0 hw [] a (0 : Int32) r k (3 : Int32) (1 : Int32) [(.ref ce2), (.ref ce0), (.ref ce1)] ce0 h286 n0 (Nat.le_trans Z0 E286.1) (F_ring_a.ext E286) (F_front_a.ext E286) (V_r.ext E286) (by unfold own_B; decide) (by decide) rfl) hZ (hW 70 _ rfl) (hW 16 _ rfl) (by decide) (by decide)) q300a q300c (g := (mkF m 25 #[.val (.ref a), .val (.ref b286), .val (.int (0 : Int32))] [(.int (0 : Int32)), (.ref a), (.int (0 : Int32)), (.ref b286)])) rfl (by rw [hml]; rfl) (Steps.refl _) (argsL := [(.int (0 : Int32))]) (rest := [(.int (0 : Int32)), (.ref b286)]) (lenOf pd_81 rfl) rfl (by show 2 * 0 + _ ≤ _; exact Nat.le_of_eq rfl) (hb hby d_prog_46_method_14_25) (fun _ _ => ⟨rfl, e293, (by decide : 1 + 0 ≤ _), (by decide : 6 + 0 ≤ _)⟩)
  dsimp only [Pt.U, Pt.locs, Pt.cells, Pt.slots] at X300 l300 y300 z300 st300 hQ300
  subst l300 y300 z300
  obtain ⟨rfl, N300q, E300q⟩ := hQ300
  have N300 := Fr.app N0 N300q
  have K301 : Go p e below T300 (mkF m 28 #[.val (.ref a), .val (.ref b286), .val (.int (0 : Int32))] [(.ref ce0), (.int (0 : Int32)), (.ref b286)]) G := fun tq kq => K299 tq (st300.trans kq)
  obtain ⟨cl302, Ar302, q302, S302, Nn302, Hh302, Gg302⟩ := id V286
  have hin302 : ¬ ((0 : Int32) < 0 ∨ cl302.slots.size ≤ ((0 : Int32)).toNatClampNeg) := inb_of S302 ⟨by decide, by decide⟩
  obtain ⟨T302, h302, X302, e302, W302, st302⟩ := stR X300 hx hZ E300q Ar302 (j := (0 : Int32)) hin302 rfl (Sto.ofV Ar302 q302 O286 (Ins.self (E_ce0.ext E286))) (g := (mkF m 28 #[.val (.ref a), .val (.ref b286), .val (.int (0 : Int32))] [(.ref ce0), (.int (0 : Int32)), (.ref b286)])) rfl rfl (hb hby d_prog_46_method_14_28)
  have V302 : Arv Z h302 b286 k286 (.object "com/example/goalpost/goalpost/runtime/Cell") (6 : Int32) [(.ref ce0), .null, .null, .null, .null, .null] .null := Arv.set Ar302 q302 S302 Nn302 Hh302 Gg302 rfl W302 0 rfl (Nat.le_of_ble_eq_true rfl)
  have N302 := Fr.snoc X302 N300 ge_b286
  have K303 : Go p e below T302 (mkF m 29 #[.val (.ref a), .val (.ref b286), .val (.int (0 : Int32))] []) G := fun tq kq => K301 tq (st302 tq kq)
  have K304 : Go p e below T302 (mkF m 32 #[.val (.ref a), .val (.ref b286), .val (.int (1 : Int32))] []) G := fun tq kq => K303 tq (XS.iinc X302.here hx rfl (hb hby d_prog_46_method_14_29) rfl (l' := #[.val (.ref a), .val (.ref b286), .val (.int (1 : Int32))]) rfl kq)
  have K305 : Go p e below T302 (mkF m 13 #[.val (.ref a), .val (.ref b286), .val (.int (1 : Int32))] []) G := fun tq kq => K304 tq (XS.goto X302.here hx rfl (pc0 := 32) (pc' := 13) rfl (hb hby d_prog_46_method_14_32) (by decide) (by decide) kq)
  have K306 : Go p e below T302 (mkF m 14 #[.val (.ref a), .val (.ref b286), .val (.int (1 : Int32))] [(.int (1 : Int32))]) G := fun tq kq => K305 tq (XS.iloadN X302.here hx rfl (hb hby d_prog_46_method_14_13) rfl kq)
  have K307 : Go p e below T302 (mkF m 15 #[.val (.ref a), .val (.ref b286), .val (.int (1 : Int32))] [(.ref a), (.int (1 : Int32))]) G := fun tq kq => K306 tq (XS.aloadN X302.here hx rfl (hb hby d_prog_46_method_14_14) rfl rfl kq)
  obtain ⟨T308, X308, e308, st308⟩ := getF X302 hx hZ hown (host := "") (Or.inl (hW 43 _ rfl)) Via.refl e302 ((F_size_a.ext E286).other W302 (Or.inl ne286_a)) (g := (mkF m 15 #[.val (.ref a), .val (.ref b286), .val (.int (1 : Int32))] [(.ref a), (.int (1 : Int32))])) rfl rfl (hb hby d_prog_46_method_14_15)
  have K309 : Go p e below T308 (mkF m 18 #[.val (.ref a), .val (.ref b286), .val (.int (1 : Int32))] [(.int (3 : Int32)), (.int (1 : Int32))]) G := fun tq kq => K307 tq (st308 tq kq)
  have K310 : Go p e below T308 (mkF m 21 #[.val (.ref a), .val (.ref b286), .val (.int (1 : Int32))] []) G := fun tq kq => K309 tq (XS.icmpNo X308.here hx rfl (hb hby d_prog_46_method_14_18) rfl ((tlt (by decide : (1 : Int32) < (3 : Int32))).2.1) kq)
  have K311 : Go p e below T308 (mkF m 22 #[.val (.ref a), .val (.ref b286), .val (.int (1 : Int32))] [(.ref b286)]) G := fun tq kq => K310 tq (XS.aloadN X308.here hx rfl (hb hby d_prog_46_method_14_21) rfl rfl kq)
  have K312 : Go p e below T308 (mkF m 23 #[.val (.ref a), .val (.ref b286), .val (.int (1 : Int32))] [(.int (1 : Int32)), (.ref b286)]) G := fun tq kq => K311 tq (XS.iloadN X308.here hx rfl (hb hby d_prog_46_method_14_22) rfl kq)
  have K313 : Go p e below T308 (mkF m 24 #[.val (.ref a), .val (.ref b286), .val (.int (1 : Int32))] [(.ref a), (.int (1 : Int32)), (.ref b286)]) G := fun tq kq => K312 tq (XS.aloadN X308.here hx rfl (hb hby d_prog_46_method_14_23) rfl rfl kq)
  have K314 : Go p e below T308 (mkF m 25 #[.val (.ref a), .val (.ref b286), .val (.int (1 : Int32))] [(.int (1 : Int32)), (.ref a), (.int (1 : Int32)), (.ref b286)]) G := fun tq kq => K313 tq (XS.iloadN X308.here hx rfl (hb hby d_prog_46_method_14_24) rfl kq)
  obtain ⟨cq315, kq315, q315a, q315b, q315c⟩ := isOf hZ e308 ((E_a.ext E286).wr W302)
  obtain ⟨v315, _, ⟨T315, L315, k315, n315⟩, -, X315, ⟨Lc315, hQ315, l315, y315, z315⟩, st315⟩ := X308.virtualBack hx (y := (⟨"com/example/goalpost/goalpost/runtime/ListValue", "at", "(I)Lcom/example/goalpost/goalpost/runtime/Cell;"⟩ : MethodName)) (z := (⟨"com/example/goalpost/goalpost/runtime/ListValue", "at", "(I)Lcom/example/goalpost/goalpost/runtime/Cell;"⟩ : MethodName)) hown (mvT hZ (hW 66 _ rfl)) (mvT hZ (hW 67 _ rfl)) (notFace_of_selects (args := #[]) (mvT hZ (hW 69 _ rfl))) (mvT hZ (hW 69 _ rfl)) (mvT hZ (hW 68 _ rfl)) (by decide) (backOf (W := 2) (rmAT l Z a0 hw [] a (1 : Int32) r k (3 : Int32) (1 : Int32) [(.ref ce2), (.ref ce0), (.ref ce1)] ce1 h302 n0 (Nat.le_trans (Nat.le_trans Z0 E286.1) (Keep.of_wr W302).1) ((F_ring_a.ext E286).other W302 (Or.inl ne286_a)) ((F_front_a.ext E286).other W302 (Or.inl ne286_a)) ((V_r.ext E286).other W302 ne286_r) (by unfold own_B; decide) (by decide) rfl) hZ (hW 70 _ rfl) (hW 16 _ rfl) (by decide) (by decide)) q315a q315c (g := (mkF m 25 #[.val (.ref a), .val (.ref b286), .val (.int (1 : Int32))] [(.int (1 : Int32)), (.ref a), (.int (1 : Int32)), (.ref b286)])) rfl (by rw [hml]; rfl) (Steps.refl _) (argsL := [(.int (1 : Int32))]) (rest := [(.int (1 : Int32)), (.ref b286)]) (lenOf pd_81 rfl) rfl (by show 2 * 0 + _ ≤ _; exact Nat.le_of_eq rfl) (hb hby d_prog_46_method_14_25) (fun _ _ => ⟨rfl, e308, (by decide : 1 + 0 ≤ _), (by decide : 6 + 0 ≤ _)⟩)
  dsimp only [Pt.U, Pt.locs, Pt.cells, Pt.slots] at X315 l315 y315 z315 st315 hQ315
  subst l315 y315 z315
  obtain ⟨rfl, N315q, E315q⟩ := hQ315
  have N315 := Fr.app N302 N315q
  have K316 : Go p e below T315 (mkF m 28 #[.val (.ref a), .val (.ref b286), .val (.int (1 : Int32))] [(.ref ce1), (.int (1 : Int32)), (.ref b286)]) G := fun tq kq => K314 tq (st315.trans kq)
  obtain ⟨cl317, Ar317, q317, S317, Nn317, Hh317, Gg317⟩ := id V302
  have hin317 : ¬ ((1 : Int32) < 0 ∨ cl317.slots.size ≤ ((1 : Int32)).toNatClampNeg) := inb_of S317 ⟨by decide, by decide⟩
  obtain ⟨T317, h317, X317, e317, W317, st317⟩ := stR X315 hx hZ E315q Ar317 (j := (1 : Int32)) hin317 rfl (Sto.ofV Ar317 q317 O286 (Ins.self ((E_ce1.ext E286).wr W302))) (g := (mkF m 28 #[.val (.ref a), .val (.ref b286), .val (.int (1 : Int32))] [(.ref ce1), (.int (1 : Int32)), (.ref b286)])) rfl rfl (hb hby d_prog_46_method_14_28)
  have V317 : Arv Z h317 b286 k286 (.object "com/example/goalpost/goalpost/runtime/Cell") (6 : Int32) [(.ref ce0), (.ref ce1), .null, .null, .null, .null] .null := Arv.set Ar317 q317 S317 Nn317 Hh317 Gg317 rfl W317 1 rfl (Nat.le_of_ble_eq_true rfl)
  have N317 := Fr.snoc X317 N315 ge_b286
  have K318 : Go p e below T317 (mkF m 29 #[.val (.ref a), .val (.ref b286), .val (.int (1 : Int32))] []) G := fun tq kq => K316 tq (st317 tq kq)
  have K319 : Go p e below T317 (mkF m 32 #[.val (.ref a), .val (.ref b286), .val (.int (2 : Int32))] []) G := fun tq kq => K318 tq (XS.iinc X317.here hx rfl (hb hby d_prog_46_method_14_29) rfl (l' := #[.val (.ref a), .val (.ref b286), .val (.int (2 : Int32))]) rfl kq)
  have K320 : Go p e below T317 (mkF m 13 #[.val (.ref a), .val (.ref b286), .val (.int (2 : Int32))] []) G := fun tq kq => K319 tq (XS.goto X317.here hx rfl (pc0 := 32) (pc' := 13) rfl (hb hby d_prog_46_method_14_32) (by decide) (by decide) kq)
  have K321 : Go p e below T317 (mkF m 14 #[.val (.ref a), .val (.ref b286), .val (.int (2 : Int32))] [(.int (2 : Int32))]) G := fun tq kq => K320 tq (XS.iloadN X317.here hx rfl (hb hby d_prog_46_method_14_13) rfl kq)
  have K322 : Go p e below T317 (mkF m 15 #[.val (.ref a), .val (.ref b286), .val (.int (2 : Int32))] [(.ref a), (.int (2 : Int32))]) G := fun tq kq => K321 tq (XS.aloadN X317.here hx rfl (hb hby d_prog_46_method_14_14) rfl rfl kq)
  obtain ⟨T323, X323, e323, st323⟩ := getF X317 hx hZ hown (host := "") (Or.inl (hW 43 _ rfl)) Via.refl e317 (((F_size_a.ext E286).other W302 (Or.inl ne286_a)).other W317 (Or.inl ne286_a)) (g := (mkF m 15 #[.val (.ref a), .val (.ref b286), .val (.int (2 : Int32))] [(.ref a), (.int (2 : Int32))])) rfl rfl (hb hby d_prog_46_method_14_15)
  have K324 : Go p e below T323 (mkF m 18 #[.val (.ref a), .val (.ref b286), .val (.int (2 : Int32))] [(.int (3 : Int32)), (.int (2 : Int32))]) G := fun tq kq => K322 tq (st323 tq kq)
  have K325 : Go p e below T323 (mkF m 21 #[.val (.ref a), .val (.ref b286), .val (.int (2 : Int32))] []) G := fun tq kq => K324 tq (XS.icmpNo X323.here hx rfl (hb hby d_prog_46_method_14_18) rfl ((tlt (by decide : (2 : Int32) < (3 : Int32))).2.1) kq)
  have K326 : Go p e below T323 (mkF m 22 #[.val (.ref a), .val (.ref b286), .val (.int (2 : Int32))] [(.ref b286)]) G := fun tq kq => K325 tq (XS.aloadN X323.here hx rfl (hb hby d_prog_46_method_14_21) rfl rfl kq)
  have K327 : Go p e below T323 (mkF m 23 #[.val (.ref a), .val (.ref b286), .val (.int (2 : Int32))] [(.int (2 : Int32)), (.ref b286)]) G := fun tq kq => K326 tq (XS.iloadN X323.here hx rfl (hb hby d_prog_46_method_14_22) rfl kq)
  have K328 : Go p e below T323 (mkF m 24 #[.val (.ref a), .val (.ref b286), .val (.int (2 : Int32))] [(.ref a), (.int (2 : Int32)), (.ref b286)]) G := fun tq kq => K327 tq (XS.aloadN X323.here hx rfl (hb hby d_prog_46_method_14_23) rfl rfl kq)
  have K329 : Go p e below T323 (mkF m 25 #[.val (.ref a), .val (.ref b286), .val (.int (2 : Int32))] [(.int (2 : Int32)), (.ref a), (.int (2 : Int32)), (.ref b286)]) G := fun tq kq => K328 tq (XS.iloadN X323.here hx rfl (hb hby d_prog_46_method_14_24) rfl kq)
  obtain ⟨cq330, kq330, q330a, q330b, q330c⟩ := isOf hZ e323 (((E_a.ext E286).wr W302).wr W317)
  obtain ⟨v330, _, ⟨T330, L330, k330, n330⟩, -, X330, ⟨Lc330, hQ330, l330, y330, z330⟩, st330⟩ := X323.virtualBack hx (y := (⟨"com/example/goalpost/goalpost/runtime/ListValue", "at", "(I)Lcom/example/goalpost/goalpost/runtime/Cell;"⟩ : MethodName)) (z := (⟨"com/example/goalpost/goalpost/runtime/ListValue", "at", "(I)Lcom/example/goalpost/goalpost/runtime/Cell;"⟩ : MethodName)) hown (mvT hZ (hW 66 _ rfl)) (mvT hZ (hW 67 _ rfl)) (notFace_of_selects (args := #[]) (mvT hZ (hW 69 _ rfl))) (mvT hZ (hW 69 _ rfl)) (mvT hZ (hW 68 _ rfl)) (by decide) (backOf (W := 2) (rmAT l Z a0 hw [] a (2 : Int32) r k (3 : Int32) (1 : Int32) [(.ref ce2), (.ref ce0), (.ref ce1)] ce2 h317 n0 (Nat.le_trans (Nat.le_trans (Nat.le_trans Z0 E286.1) (Keep.of_wr W302).1) (Keep.of_wr W317).1) (((F_ring_a.ext E286).other W302 (Or.inl ne286_a)).other W317 (Or.inl ne286_a)) (((F_front_a.ext E286).other W302 (Or.inl ne286_a)).other W317 (Or.inl ne286_a)) (((V_r.ext E286).other W302 ne286_r).other W317 ne286_r) (by unfold own_B; decide) (by decide) rfl) hZ (hW 70 _ rfl) (hW 16 _ rfl) (by decide) (by decide)) q330a q330c (g := (mkF m 25 #[.val (.ref a), .val (.ref b286), .val (.int (2 : Int32))] [(.int (2 : Int32)), (.ref a), (.int (2 : Int32)), (.ref b286)])) rfl (by rw [hml]; rfl) (Steps.refl _) (argsL := [(.int (2 : Int32))]) (rest := [(.int (2 : Int32)), (.ref b286)]) (lenOf pd_81 rfl) rfl (by show 2 * 0 + _ ≤ _; exact Nat.le_of_eq rfl) (hb hby d_prog_46_method_14_25) (fun _ _ => ⟨rfl, e323, (by decide : 1 + 0 ≤ _), (by decide : 6 + 0 ≤ _)⟩)
  dsimp only [Pt.U, Pt.locs, Pt.cells, Pt.slots] at X330 l330 y330 z330 st330 hQ330
  subst l330 y330 z330
  obtain ⟨rfl, N330q, E330q⟩ := hQ330
  have N330 := Fr.app N317 N330q
  have K331 : Go p e below T330 (mkF m 28 #[.val (.ref a), .val (.ref b286), .val (.int (2 : Int32))] [(.ref ce2), (.int (2 : Int32)), (.ref b286)]) G := fun tq kq => K329 tq (st330.trans kq)
  obtain ⟨cl332, Ar332, q332, S332, Nn332, Hh332, Gg332⟩ := id V317
  have hin332 : ¬ ((2 : Int32) < 0 ∨ cl332.slots.size ≤ ((2 : Int32)).toNatClampNeg) := inb_of S332 ⟨by decide, by decide⟩
  obtain ⟨T332, h332, X332, e332, W332, st332⟩ := stR X330 hx hZ E330q Ar332 (j := (2 : Int32)) hin332 rfl (Sto.ofV Ar332 q332 O286 (Ins.self (((E_ce2.ext E286).wr W302).wr W317))) (g := (mkF m 28 #[.val (.ref a), .val (.ref b286), .val (.int (2 : Int32))] [(.ref ce2), (.int (2 : Int32)), (.ref b286)])) rfl rfl (hb hby d_prog_46_method_14_28)
  have V332 : Arv Z h332 b286 k286 (.object "com/example/goalpost/goalpost/runtime/Cell") (6 : Int32) [(.ref ce0), (.ref ce1), (.ref ce2), .null, .null, .null] .null := Arv.set Ar332 q332 S332 Nn332 Hh332 Gg332 rfl W332 2 rfl (Nat.le_of_ble_eq_true rfl)
  have N332 := Fr.snoc X332 N330 ge_b286
  have K333 : Go p e below T332 (mkF m 29 #[.val (.ref a), .val (.ref b286), .val (.int (2 : Int32))] []) G := fun tq kq => K331 tq (st332 tq kq)
  have K334 : Go p e below T332 (mkF m 32 #[.val (.ref a), .val (.ref b286), .val (.int (3 : Int32))] []) G := fun tq kq => K333 tq (XS.iinc X332.here hx rfl (hb hby d_prog_46_method_14_29) rfl (l' := #[.val (.ref a), .val (.ref b286), .val (.int (3 : Int32))]) rfl kq)
  have K335 : Go p e below T332 (mkF m 13 #[.val (.ref a), .val (.ref b286), .val (.int (3 : Int32))] []) G := fun tq kq => K334 tq (XS.goto X332.here hx rfl (pc0 := 32) (pc' := 13) rfl (hb hby d_prog_46_method_14_32) (by decide) (by decide) kq)
  have K336 : Go p e below T332 (mkF m 14 #[.val (.ref a), .val (.ref b286), .val (.int (3 : Int32))] [(.int (3 : Int32))]) G := fun tq kq => K335 tq (XS.iloadN X332.here hx rfl (hb hby d_prog_46_method_14_13) rfl kq)
  have K337 : Go p e below T332 (mkF m 15 #[.val (.ref a), .val (.ref b286), .val (.int (3 : Int32))] [(.ref a), (.int (3 : Int32))]) G := fun tq kq => K336 tq (XS.aloadN X332.here hx rfl (hb hby d_prog_46_method_14_14) rfl rfl kq)
  obtain ⟨T338, X338, e338, st338⟩ := getF X332 hx hZ hown (host := "") (Or.inl (hW 43 _ rfl)) Via.refl e332 ((((F_size_a.ext E286).other W302 (Or.inl ne286_a)).other W317 (Or.inl ne286_a)).other W332 (Or.inl ne286_a)) (g := (mkF m 15 #[.val (.ref a), .val (.ref b286), .val (.int (3 : Int32))] [(.ref a), (.int (3 : Int32))])) rfl rfl (hb hby d_prog_46_method_14_15)
  have K339 : Go p e below T338 (mkF m 18 #[.val (.ref a), .val (.ref b286), .val (.int (3 : Int32))] [(.int (3 : Int32)), (.int (3 : Int32))]) G := fun tq kq => K337 tq (st338 tq kq)
  have K340 : Go p e below T338 (mkF m 35 #[.val (.ref a), .val (.ref b286), .val (.int (3 : Int32))] []) G := fun tq kq => K339 tq (XS.icmpYes X338.here hx rfl (pc0 := 18) (pc' := 35) rfl (hb hby d_prog_46_method_14_18) rfl ((flt (by decide : ¬ ((3 : Int32) < (3 : Int32)))).2.1) (by decide) (by decide) kq)
  have K341 : Go p e below T338 (mkF m 36 #[.val (.ref a), .val (.ref b286), .val (.int (3 : Int32))] [(.ref a)]) G := fun tq kq => K340 tq (XS.aloadN X338.here hx rfl (hb hby d_prog_46_method_14_35) rfl rfl kq)
  have K342 : Go p e below T338 (mkF m 37 #[.val (.ref a), .val (.ref b286), .val (.int (3 : Int32))] [(.ref b286), (.ref a)]) G := fun tq kq => K341 tq (XS.aloadN X338.here hx rfl (hb hby d_prog_46_method_14_36) rfl rfl kq)
  obtain ⟨T343, h343, X343, e343, W343, st343⟩ := putF X338 hx hZ hown (host := "") (Or.inl (hW 36 _ rfl)) Via.refl e338 ((((F_ring_a.ext E286).other W302 (Or.inl ne286_a)).other W317 (Or.inl ne286_a)).other W332 (Or.inl ne286_a)) ((((E_a.ext E286).wr W302).wr W317).wr W332) (Or.inl (hW 37 _ rfl)) (hW 15 _ rfl) (ty := (.array (.object "com/example/goalpost/goalpost/runtime/Cell"))) (by decide) rfl rfl (g := (mkF m 37 #[.val (.ref a), .val (.ref b286), .val (.int (3 : Int32))] [(.ref b286), (.ref a)])) rfl rfl (hb hby d_prog_46_method_14_37)
  have N343 := Fr.snoc X343 N332 ge_a
  have F343 := Fld.same W343 ((((F_ring_a.ext E286).other W302 (Or.inl ne286_a)).other W317 (Or.inl ne286_a)).other W332 (Or.inl ne286_a))
  have K344 : Go p e below T343 (mkF m 40 #[.val (.ref a), .val (.ref b286), .val (.int (3 : Int32))] []) G := fun tq kq => K342 tq (st343 tq kq)
  have K345 : Go p e below T343 (mkF m 41 #[.val (.ref a), .val (.ref b286), .val (.int (3 : Int32))] [(.ref a)]) G := fun tq kq => K344 tq (XS.aloadN X343.here hx rfl (hb hby d_prog_46_method_14_40) rfl rfl kq)
  have K346 : Go p e below T343 (mkF m 42 #[.val (.ref a), .val (.ref b286), .val (.int (3 : Int32))] [(.int (0 : Int32)), (.ref a)]) G := fun tq kq => K345 tq (XS.iconst X343.here hx rfl (hb hby d_prog_46_method_14_41) kq)
  obtain ⟨T347, h347, X347, e347, W347, st347⟩ := putF X343 hx hZ hown (host := "") (Or.inl (hW 45 _ rfl)) Via.refl e343 (((((F_front_a.ext E286).other W302 (Or.inl ne286_a)).other W317 (Or.inl ne286_a)).other W332 (Or.inl ne286_a)).other W343 (Or.inr (slot_ne (Or.inl (hW 46 _ rfl)) (Or.inl (hW 37 _ rfl)) (by decide) (t := .int) (t' := (.array (.object "com/example/goalpost/goalpost/runtime/Cell"))) (by decide) (by decide)))) (((((E_a.ext E286).wr W302).wr W317).wr W332).wr W343) (Or.inl (hW 46 _ rfl)) (hW 15 _ rfl) (ty := .int) (by decide) rfl rfl (g := (mkF m 42 #[.val (.ref a), .val (.ref b286), .val (.int (3 : Int32))] [(.int (0 : Int32)), (.ref a)])) rfl rfl (hb hby d_prog_46_method_14_42)
  have N347 := Fr.snoc X347 N343 ge_a
  have F347 := Fld.same W347 (((((F_front_a.ext E286).other W302 (Or.inl ne286_a)).other W317 (Or.inl ne286_a)).other W332 (Or.inl ne286_a)).other W343 (Or.inr (slot_ne (Or.inl (hW 46 _ rfl)) (Or.inl (hW 37 _ rfl)) (by decide) (t := .int) (t' := (.array (.object "com/example/goalpost/goalpost/runtime/Cell"))) (by decide) (by decide))))
  have K348 : Go p e below T347 (mkF m 45 #[.val (.ref a), .val (.ref b286), .val (.int (3 : Int32))] []) G := fun tq kq => K346 tq (st347 tq kq)
  obtain ⟨fs, hr, hrun, hended, hWW, hsame⟩ := X347.leave (v := none) (fun _ => rfl)
  refine ⟨_, _, hG _ (K348 _ (X347.returnOut hx Bd.returns (hb hby d_prog_46_method_14_45) hr)), hrun, hended, _, _, rfl, ?_, ⟨_, rfl⟩, hWW, hsame.mono (by decide) (by decide)⟩
  show QGR31 Z a r k ce0 ce1 ce2 h0 n0 _ T347.heap _
  rw [e347]
  exact ⟨rfl, N347, (((((((Keep.refl h0 [a]).ext E286).wr W302 (Or.inr sz_b286)).wr W317 (Or.inr sz_b286)).wr W332 (Or.inr sz_b286)).wr W343 (Or.inl (List.mem_of_getElem? (i := 0) rfl))).wr W347 (Or.inl (List.mem_of_getElem? (i := 0) rfl))), ((((((E_a.ext E286).wr W302).wr W317).wr W332).wr W343).wr W347), b286, k286, sz_b286, ge_b286, (F343.other W347 (Or.inr (slot_ne (Or.inl (hW 37 _ rfl)) (Or.inl (hW 46 _ rfl)) (by decide) (t := (.array (.object "com/example/goalpost/goalpost/runtime/Cell"))) (t' := .int) (by decide) (by decide)))), F347, ((((((F_size_a.ext E286).other W302 (Or.inl ne286_a)).other W317 (Or.inl ne286_a)).other W332 (Or.inl ne286_a)).other W343 (Or.inr (slot_ne (Or.inl (hW 44 _ rfl)) (Or.inl (hW 37 _ rfl)) (by decide) (t := .int) (t' := (.array (.object "com/example/goalpost/goalpost/runtime/Cell"))) (by decide) (by decide)))).other W347 (Or.inr (slot_ne (Or.inl (hW 44 _ rfl)) (Or.inl (hW 46 _ rfl)) (by decide) (t := .int) (t' := .int) (by decide) (by decide)))), ((V332.other W343 (Ne.symm ne286_a)).other W347 (Ne.symm ne286_a)), O286⟩
theorem own_lit31 {vs : List Value} {cs : List (Addr × Addr)} (h : own_Ring vs 3 1 cs) (hl : cs.length = 3) : ∃ p0 p1 p2 : Addr × Addr, cs = [p0, p1, p2] ∧ vs = [(.ref p2.1), (.ref p0.1), (.ref p1.1)] := by
  obtain ⟨h1, -, -, h4⟩ := h
  match cs, hl, vs, h1 with
  | [p0, p1, p2], _, [v0, v1, v2], _ =>
    refine ⟨p0, p1, p2, rfl, ?_⟩
    have q0 := h4 0 p0 rfl
    have q1 := h4 1 p1 rfl
    have q2 := h4 2 p2 rfl
    simp at q0 q1 q2
    simp [q0, q1, q2]
theorem own_rg31 {p0 p1 p2 : Addr × Addr} : own_Ring [(.ref p0.1), (.ref p1.1), (.ref p2.1), .null, .null, .null] 6 0 [p0, p1, p2] := by
  refine ⟨rfl, by decide, by simp, fun i p hp => ?_⟩
  match i, hp with
  | 0, hp => simp at hp; subst hp; rfl
  | 1, hp => simp at hp; subst hp; rfl
  | 2, hp => simp at hp; subst hp; rfl
  | i + 3, hp => simp at hp
def QGR32 (Z : State) (a : Addr) (r : Addr) (k : ClassId) (ce0 : Addr) (ce1 : Addr) (ce2 : Addr) (h0 : Heap) (n0 : Nat) (v : Option Value) (h : Heap) (L : List Loc) : Prop := v = none ∧ Fr n0 L ∧ Keep h0 h [a] ∧ Exa Z h a "com/example/goalpost/goalpost/runtime/ListValue" ∧ ∃ (b : Addr) (k2 : ClassId), h0.size ≤ b ∧ n0 ≤ b ∧ Fld Z h a "com/example/goalpost/goalpost/runtime/ListValue" "ring" "[Lcom/example/goalpost/goalpost/runtime/Cell;" (.ref b) ∧ Fld Z h a "com/example/goalpost/goalpost/runtime/ListValue" "front" "I" (.int (0 : Int32)) ∧ Fld Z h a "com/example/goalpost/goalpost/runtime/ListValue" "size" "I" (.int (3 : Int32)) ∧ Arv Z h b k2 (.object "com/example/goalpost/goalpost/runtime/Cell") (6 : Int32) [(.ref ce0), (.ref ce1), (.ref ce2), .null, .null, .null] .null ∧ Ovr Z k2 "com/example/goalpost/goalpost/runtime/Cell"
set_option maxRecDepth 65536 in
set_option maxHeartbeats 40000000 in
theorem rmGR32 (l : Launch) (Z : State) (a0 : Array Value) (hw : ∀ d ∈ tables_1, d.before a0 Z = true) (ws : List Jvm.Cond) (a : Addr) (r : Addr) (k : ClassId) (ce0 : Addr) (ce1 : Addr) (ce2 : Addr) (h0 : Heap) (n0 : Nat) (Z0 : n0 ≤ h0.size) (F_ring_a : Fld Z h0 a "com/example/goalpost/goalpost/runtime/ListValue" "ring" "[Lcom/example/goalpost/goalpost/runtime/Cell;" (.ref r)) (F_front_a : Fld Z h0 a "com/example/goalpost/goalpost/runtime/ListValue" "front" "I" (.int (2 : Int32))) (F_size_a : Fld Z h0 a "com/example/goalpost/goalpost/runtime/ListValue" "size" "I" (.int (3 : Int32))) (E_a : Exa Z h0 a "com/example/goalpost/goalpost/runtime/ListValue") (ge_a : n0 ≤ a) (V_r : Arv Z h0 r k (.object "com/example/goalpost/goalpost/runtime/Cell") (3 : Int32) [(.ref ce1), (.ref ce2), (.ref ce0)] .null) (E_ce0 : Exa Z h0 ce0 "com/example/goalpost/goalpost/runtime/Cell") (E_ce1 : Exa Z h0 ce1 "com/example/goalpost/goalpost/runtime/Cell") (E_ce2 : Exa Z h0 ce2 "com/example/goalpost/goalpost/runtime/Cell") :
    MetFree l (⟨"com/example/goalpost/goalpost/runtime/ListValue", "grow", "()V"⟩ : MethodName) (head1 (Jvm.Cond.code (⟨"com/example/goalpost/goalpost/runtime/ListValue", "grow", "()V"⟩ : MethodName) prog_46_method_14_code 3 none :: ws) ({ frames := 1, cells := 1, slots := 6, locals := 15 } : Room)) (fun aa UU => aa = #[(.ref a)] ∧ Z.Warmed39 UU.vm ∧ UU.heap = h0) (fun _ _ _ _ _ => True) (fun _ UU oo UU' => ∃ vv LL, oo = .returned vv ∧ QGR32 Z a r k ce0 ce1 ce2 h0 n0 vv UU'.heap LL ∧ FrameEnd UU oo UU' LL ({ frames := 1, cells := 1, slots := 6, locals := 15 } : Room).cells ({ frames := 1, cells := 1, slots := 6, locals := 15 } : Room).slots) := by
  refine MetFree.of_bodySF (plainFor_of_name pn_53) hisR ?_
  intro p e s m args below meth c s₁ Bd hml0 hP hK
  obtain ⟨rfl, hZ, hh⟩ := hP
  have hx := Bd.exec
  have hby := Bd.bytes
  have hml : c.maxLocals = 3 := hml0
  have hown : s.vm.findClass "com/example/goalpost/goalpost/runtime/ListValue" = some m.cls := findClass_of_methodNamed Bd.named
  have hnm := (name_of_methodNamed Bd.named Bd.method).1
  have hW : ∀ (k : Nat) (d : Jvm.Cond), tables_1[k]? = some d → d.before a0 Z = true := fun k d h => hw d (List.mem_of_getElem? h)
  have X0 : Stand p l e ({ frames := 1, cells := 1, slots := 6, locals := 15 } : Room) s m #[(.ref a)] below meth c s₁ [] 0 0 := Stand.of_body Bd
  have e0 : s₁.heap = h0 := by rw [← hh, Bd.state]; rfl
  have N0 := Fr.nil n0
  obtain ⟨G, hG, K0⟩ : ∃ G : State → Prop, (∀ tq, G tq → Steps p.tables e below (s₁.setTop (entryFrame m #[(.ref a)] 3)) tq) ∧ Go p e below s₁ (mkF m 0 #[.val (.ref a), .unset, .unset] []) G := ⟨fun tq => Steps p.tables e below (s₁.setTop (entryFrame m #[(.ref a)] 3)) tq, fun _ h => h, fun tq kq => castTop (ef_prog_46_method_14_R m a) kq⟩
  have K349 : Go p e below s₁ (mkF m 1 #[.val (.ref a), .unset, .unset] [(.ref a)]) G := fun tq kq => K0 tq (XS.aloadN X0.here hx rfl (hb hby d_prog_46_method_14_0) rfl rfl kq)
  obtain ⟨T350, X350, e350, st350⟩ := getF X0 hx hZ hown (host := "") (Or.inl (hW 36 _ rfl)) Via.refl e0 F_ring_a (g := (mkF m 1 #[.val (.ref a), .unset, .unset] [(.ref a)])) rfl rfl (hb hby d_prog_46_method_14_1)
  have K351 : Go p e below T350 (mkF m 4 #[.val (.ref a), .unset, .unset] [(.ref r)]) G := fun tq kq => K349 tq (st350 tq kq)
  obtain ⟨cl352, Ar352, q352, S352, Nn352, Hh352, Gg352⟩ := id V_r
  have K353 : Go p e below T350 (mkF m 5 #[.val (.ref a), .unset, .unset] [(.int (3 : Int32))]) G := fun tq kq => K351 tq (X350.arraylength hx (by rw [e350]; exact Ar352.1) (State.isArrayOf_alike hZ.alike Ar352.2.1) (g := (mkF m 4 #[.val (.ref a), .unset, .unset] [(.ref r)])) rfl rfl (hb hby d_prog_46_method_14_4) _ (by rw [len_of S352 Nn352]; exact kq))
  have K354 : Go p e below T350 (mkF m 6 #[.val (.ref a), .unset, .unset] [(.int (2 : Int32)), (.int (3 : Int32))]) G := fun tq kq => K353 tq (XS.iconst X350.here hx rfl (hb hby d_prog_46_method_14_5) kq)
  have K355 : Go p e below T350 (mkF m 7 #[.val (.ref a), .unset, .unset] [(.int (6 : Int32))]) G := fun tq kq => K354 tq (XS.imul X350.here hx rfl (hb hby d_prog_46_method_14_6) rfl kq)
  obtain ⟨T356, h356, k356, X356, e356, E356, A356, O356, st356⟩ := newR X350 hx hZ hown (hW 34 _ rfl) (hW 35 _ rfl) e350 (g := (mkF m 7 #[.val (.ref a), .unset, .unset] [(.int (6 : Int32))])) rfl (hb hby d_prog_46_method_14_7) rfl (by decide) (cap := 6) (by decide) (by decide) (by decide) (by decide)
  obtain ⟨b356, g356⟩ : ∃ z, z = h0.size := ⟨_, rfl⟩
  rw [← g356] at A356 st356
  have ne356_a : a ≠ b356 := Nat.ne_of_lt (Nat.lt_of_lt_of_le F_ring_a.lt (Nat.le_of_eq g356.symm))
  have ne356_r : r ≠ b356 := Nat.ne_of_lt (Nat.lt_of_lt_of_le V_r.lt (Nat.le_of_eq g356.symm))
  have ne356_ce0 : ce0 ≠ b356 := Nat.ne_of_lt (Nat.lt_of_lt_of_le E_ce0.lt (Nat.le_of_eq g356.symm))
  have ne356_ce1 : ce1 ≠ b356 := Nat.ne_of_lt (Nat.lt_of_lt_of_le E_ce1.lt (Nat.le_of_eq g356.symm))
  have ne356_ce2 : ce2 ≠ b356 := Nat.ne_of_lt (Nat.lt_of_lt_of_le E_ce2.lt (Nat.le_of_eq g356.symm))
  have ge_b356 : n0 ≤ b356 := Nat.le_trans Z0 (Nat.le_of_eq g356.symm)
  have sz_b356 : h0.size ≤ b356 := Nat.le_trans ((Keep.refl h0 [a])).1 (Nat.le_of_eq g356.symm)
  have V356 : Arv Z h356 b356 k356 (.object "com/example/goalpost/goalpost/runtime/Cell") (6 : Int32) [.null, .null, .null, .null, .null, .null] .null := (Arv.new A356 (by decide)).pad (pad_rep [] .null 6)
  have K357 : Go p e below T356 (mkF m 10 #[.val (.ref a), .unset, .unset] [(.ref b356)]) G := fun tq kq => K355 tq (st356 tq kq)
  have K358 : Go p e below T356 (mkF m 11 #[.val (.ref a), .val (.ref b356), .unset] []) G := fun tq kq => K357 tq (XS.astoreN X356.here hx rfl (hb hby d_prog_46_method_14_10) rfl rfl (l' := #[.val (.ref a), .val (.ref b356), .unset]) rfl kq)
  have K359 : Go p e below T356 (mkF m 12 #[.val (.ref a), .val (.ref b356), .unset] [(.int (0 : Int32))]) G := fun tq kq => K358 tq (XS.iconst X356.here hx rfl (hb hby d_prog_46_method_14_11) kq)
  have K360 : Go p e below T356 (mkF m 13 #[.val (.ref a), .val (.ref b356), .val (.int (0 : Int32))] []) G := fun tq kq => K359 tq (XS.istoreN X356.here hx rfl (hb hby d_prog_46_method_14_12) rfl (l' := #[.val (.ref a), .val (.ref b356), .val (.int (0 : Int32))]) rfl kq)
  have K361 : Go p e below T356 (mkF m 14 #[.val (.ref a), .val (.ref b356), .val (.int (0 : Int32))] [(.int (0 : Int32))]) G := fun tq kq => K360 tq (XS.iloadN X356.here hx rfl (hb hby d_prog_46_method_14_13) rfl kq)
  have K362 : Go p e below T356 (mkF m 15 #[.val (.ref a), .val (.ref b356), .val (.int (0 : Int32))] [(.ref a), (.int (0 : Int32))]) G := fun tq kq => K361 tq (XS.aloadN X356.here hx rfl (hb hby d_prog_46_method_14_14) rfl rfl kq)
  obtain ⟨T363, X363, e363, st363⟩ := getF X356 hx hZ hown (host := "") (Or.inl (hW 43 _ rfl)) Via.refl e356 (F_size_a.ext E356) (g := (mkF m 15 #[.val (.ref a), .val (.ref b356), .val (.int (0 : Int32))] [(.ref a), (.int (0 : Int32))])) rfl rfl (hb hby d_prog_46_method_14_15)
  have K364 : Go p e below T363 (mkF m 18 #[.val (.ref a), .val (.ref b356), .val (.int (0 : Int32))] [(.int (3 : Int32)), (.int (0 : Int32))]) G := fun tq kq => K362 tq (st363 tq kq)
  have K365 : Go p e below T363 (mkF m 21 #[.val (.ref a), .val (.ref b356), .val (.int (0 : Int32))] []) G := fun tq kq => K364 tq (XS.icmpNo X363.here hx rfl (hb hby d_prog_46_method_14_18) rfl ((tlt (by decide : (0 : Int32) < (3 : Int32))).2.1) kq)
  have K366 : Go p e below T363 (mkF m 22 #[.val (.ref a), .val (.ref b356), .val (.int (0 : Int32))] [(.ref b356)]) G := fun tq kq => K365 tq (XS.aloadN X363.here hx rfl (hb hby d_prog_46_method_14_21) rfl rfl kq)
  have K367 : Go p e below T363 (mkF m 23 #[.val (.ref a), .val (.ref b356), .val (.int (0 : Int32))] [(.int (0 : Int32)), (.ref b356)]) G := fun tq kq => K366 tq (XS.iloadN X363.here hx rfl (hb hby d_prog_46_method_14_22) rfl kq)
  have K368 : Go p e below T363 (mkF m 24 #[.val (.ref a), .val (.ref b356), .val (.int (0 : Int32))] [(.ref a), (.int (0 : Int32)), (.ref b356)]) G := fun tq kq => K367 tq (XS.aloadN X363.here hx rfl (hb hby d_prog_46_method_14_23) rfl rfl kq)
  have K369 : Go p e below T363 (mkF m 25 #[.val (.ref a), .val (.ref b356), .val (.int (0 : Int32))] [(.int (0 : Int32)), (.ref a), (.int (0 : Int32)), (.ref b356)]) G := fun tq kq => K368 tq (XS.iloadN X363.here hx rfl (hb hby d_prog_46_method_14_24) rfl kq)
  obtain ⟨cq370, kq370, q370a, q370b, q370c⟩ := isOf hZ e363 (E_a.ext E356)
  obtain ⟨v370, _, ⟨T370, L370, k370, n370⟩, -, X370, ⟨Lc370, hQ370, l370, y370, z370⟩, st370⟩ := X363.virtualBack hx (y := (⟨"com/example/goalpost/goalpost/runtime/ListValue", "at", "(I)Lcom/example/goalpost/goalpost/runtime/Cell;"⟩ : MethodName)) (z := (⟨"com/example/goalpost/goalpost/runtime/ListValue", "at", "(I)Lcom/example/goalpost/goalpost/runtime/Cell;"⟩ : MethodName)) hown (mvT hZ (hW 66 _ rfl)) (mvT hZ (hW 67 _ rfl)) (notFace_of_selects (args := #[]) (mvT hZ (hW 69 _ rfl))) (mvT hZ (hW 69 _ rfl)) (mvT hZ (hW 68 _ rfl)) (by decide) (backOf (W := 2) (rmAT l Z a0 hw [] a (0 : Int32) r k (3 : Int32) (2 : Int32) [(.ref ce1), (.ref ce2), (.ref ce0)] ce0 h356 n0 (Nat.le_trans Z0 E356.1) (F_ring_a.ext E356) (F_front_a.ext E356) (V_r.ext E356) (by unfold own_B; decide) (by decide) rfl) hZ (hW 70 _ rfl) (hW 16 _ rfl) (by decide) (by decide)) q370a q370c (g := (mkF m 25 #[.val (.ref a), .val (.ref b356), .val (.int (0 : Int32))] [(.int (0 : Int32)), (.ref a), (.int (0 : Int32)), (.ref b356)])) rfl (by rw [hml]; rfl) (Steps.refl _) (argsL := [(.int (0 : Int32))]) (rest := [(.int (0 : Int32)), (.ref b356)]) (lenOf pd_81 rfl) rfl (by show 2 * 0 + _ ≤ _; exact Nat.le_of_eq rfl) (hb hby d_prog_46_method_14_25) (fun _ _ => ⟨rfl, e363, (by decide : 1 + 0 ≤ _), (by decide : 6 + 0 ≤ _)⟩)
  dsimp only [Pt.U, Pt.locs, Pt.cells, Pt.slots] at X370 l370 y370 z370 st370 hQ370
  subst l370 y370 z370
  obtain ⟨rfl, N370q, E370q⟩ := hQ370
  have N370 := Fr.app N0 N370q
  have K371 : Go p e below T370 (mkF m 28 #[.val (.ref a), .val (.ref b356), .val (.int (0 : Int32))] [(.ref ce0), (.int (0 : Int32)), (.ref b356)]) G := fun tq kq => K369 tq (st370.trans kq)
  obtain ⟨cl372, Ar372, q372, S372, Nn372, Hh372, Gg372⟩ := id V356
  have hin372 : ¬ ((0 : Int32) < 0 ∨ cl372.slots.size ≤ ((0 : Int32)).toNatClampNeg) := inb_of S372 ⟨by decide, by decide⟩
  obtain ⟨T372, h372, X372, e372, W372, st372⟩ := stR X370 hx hZ E370q Ar372 (j := (0 : Int32)) hin372 rfl (Sto.ofV Ar372 q372 O356 (Ins.self (E_ce0.ext E356))) (g := (mkF m 28 #[.val (.ref a), .val (.ref b356), .val (.int (0 : Int32))] [(.ref ce0), (.int (0 : Int32)), (.ref b356)])) rfl rfl (hb hby d_prog_46_method_14_28)
  have V372 : Arv Z h372 b356 k356 (.object "com/example/goalpost/goalpost/runtime/Cell") (6 : Int32) [(.ref ce0), .null, .null, .null, .null, .null] .null := Arv.set Ar372 q372 S372 Nn372 Hh372 Gg372 rfl W372 0 rfl (Nat.le_of_ble_eq_true rfl)
  have N372 := Fr.snoc X372 N370 ge_b356
  have K373 : Go p e below T372 (mkF m 29 #[.val (.ref a), .val (.ref b356), .val (.int (0 : Int32))] []) G := fun tq kq => K371 tq (st372 tq kq)
  have K374 : Go p e below T372 (mkF m 32 #[.val (.ref a), .val (.ref b356), .val (.int (1 : Int32))] []) G := fun tq kq => K373 tq (XS.iinc X372.here hx rfl (hb hby d_prog_46_method_14_29) rfl (l' := #[.val (.ref a), .val (.ref b356), .val (.int (1 : Int32))]) rfl kq)
  have K375 : Go p e below T372 (mkF m 13 #[.val (.ref a), .val (.ref b356), .val (.int (1 : Int32))] []) G := fun tq kq => K374 tq (XS.goto X372.here hx rfl (pc0 := 32) (pc' := 13) rfl (hb hby d_prog_46_method_14_32) (by decide) (by decide) kq)
  have K376 : Go p e below T372 (mkF m 14 #[.val (.ref a), .val (.ref b356), .val (.int (1 : Int32))] [(.int (1 : Int32))]) G := fun tq kq => K375 tq (XS.iloadN X372.here hx rfl (hb hby d_prog_46_method_14_13) rfl kq)
  have K377 : Go p e below T372 (mkF m 15 #[.val (.ref a), .val (.ref b356), .val (.int (1 : Int32))] [(.ref a), (.int (1 : Int32))]) G := fun tq kq => K376 tq (XS.aloadN X372.here hx rfl (hb hby d_prog_46_method_14_14) rfl rfl kq)
  obtain ⟨T378, X378, e378, st378⟩ := getF X372 hx hZ hown (host := "") (Or.inl (hW 43 _ rfl)) Via.refl e372 ((F_size_a.ext E356).other W372 (Or.inl ne356_a)) (g := (mkF m 15 #[.val (.ref a), .val (.ref b356), .val (.int (1 : Int32))] [(.ref a), (.int (1 : Int32))])) rfl rfl (hb hby d_prog_46_method_14_15)
  have K379 : Go p e below T378 (mkF m 18 #[.val (.ref a), .val (.ref b356), .val (.int (1 : Int32))] [(.int (3 : Int32)), (.int (1 : Int32))]) G := fun tq kq => K377 tq (st378 tq kq)
  have K380 : Go p e below T378 (mkF m 21 #[.val (.ref a), .val (.ref b356), .val (.int (1 : Int32))] []) G := fun tq kq => K379 tq (XS.icmpNo X378.here hx rfl (hb hby d_prog_46_method_14_18) rfl ((tlt (by decide : (1 : Int32) < (3 : Int32))).2.1) kq)
  have K381 : Go p e below T378 (mkF m 22 #[.val (.ref a), .val (.ref b356), .val (.int (1 : Int32))] [(.ref b356)]) G := fun tq kq => K380 tq (XS.aloadN X378.here hx rfl (hb hby d_prog_46_method_14_21) rfl rfl kq)
  have K382 : Go p e below T378 (mkF m 23 #[.val (.ref a), .val (.ref b356), .val (.int (1 : Int32))] [(.int (1 : Int32)), (.ref b356)]) G := fun tq kq => K381 tq (XS.iloadN X378.here hx rfl (hb hby d_prog_46_method_14_22) rfl kq)
  have K383 : Go p e below T378 (mkF m 24 #[.val (.ref a), .val (.ref b356), .val (.int (1 : Int32))] [(.ref a), (.int (1 : Int32)), (.ref b356)]) G := fun tq kq => K382 tq (XS.aloadN X378.here hx rfl (hb hby d_prog_46_method_14_23) rfl rfl kq)
  have K384 : Go p e below T378 (mkF m 25 #[.val (.ref a), .val (.ref b356), .val (.int (1 : Int32))] [(.int (1 : Int32)), (.ref a), (.int (1 : Int32)), (.ref b356)]) G := fun tq kq => K383 tq (XS.iloadN X378.here hx rfl (hb hby d_prog_46_method_14_24) rfl kq)
  obtain ⟨cq385, kq385, q385a, q385b, q385c⟩ := isOf hZ e378 ((E_a.ext E356).wr W372)
  obtain ⟨v385, _, ⟨T385, L385, k385, n385⟩, -, X385, ⟨Lc385, hQ385, l385, y385, z385⟩, st385⟩ := X378.virtualBack hx (y := (⟨"com/example/goalpost/goalpost/runtime/ListValue", "at", "(I)Lcom/example/goalpost/goalpost/runtime/Cell;"⟩ : MethodName)) (z := (⟨"com/example/goalpost/goalpost/runtime/ListValue", "at", "(I)Lcom/example/goalpost/goalpost/runtime/Cell;"⟩ : MethodName)) hown (mvT hZ (hW 66 _ rfl)) (mvT hZ (hW 67 _ rfl)) (notFace_of_selects (args := #[]) (mvT hZ (hW 69 _ rfl))) (mvT hZ (hW 69 _ rfl)) (mvT hZ (hW 68 _ rfl)) (by decide) (backOf (W := 2) (rmAT l Z a0 hw [] a (1 : Int32) r k (3 : Int32) (2 : Int32) [(.ref ce1), (.ref ce2), (.ref ce0)] ce1 h372 n0 (Nat.le_trans (Nat.le_trans Z0 E356.1) (Keep.of_wr W372).1) ((F_ring_a.ext E356).other W372 (Or.inl ne356_a)) ((F_front_a.ext E356).other W372 (Or.inl ne356_a)) ((V_r.ext E356).other W372 ne356_r) (by unfold own_B; decide) (by decide) rfl) hZ (hW 70 _ rfl) (hW 16 _ rfl) (by decide) (by decide)) q385a q385c (g := (mkF m 25 #[.val (.ref a), .val (.ref b356), .val (.int (1 : Int32))] [(.int (1 : Int32)), (.ref a), (.int (1 : Int32)), (.ref b356)])) rfl (by rw [hml]; rfl) (Steps.refl _) (argsL := [(.int (1 : Int32))]) (rest := [(.int (1 : Int32)), (.ref b356)]) (lenOf pd_81 rfl) rfl (by show 2 * 0 + _ ≤ _; exact Nat.le_of_eq rfl) (hb hby d_prog_46_method_14_25) (fun _ _ => ⟨rfl, e378, (by decide : 1 + 0 ≤ _), (by decide : 6 + 0 ≤ _)⟩)
  dsimp only [Pt.U, Pt.locs, Pt.cells, Pt.slots] at X385 l385 y385 z385 st385 hQ385
  subst l385 y385 z385
  obtain ⟨rfl, N385q, E385q⟩ := hQ385
  have N385 := Fr.app N372 N385q
  have K386 : Go p e below T385 (mkF m 28 #[.val (.ref a), .val (.ref b356), .val (.int (1 : Int32))] [(.ref ce1), (.int (1 : Int32)), (.ref b356)]) G := fun tq kq => K384 tq (st385.trans kq)
  obtain ⟨cl387, Ar387, q387, S387, Nn387, Hh387, Gg387⟩ := id V372
  have hin387 : ¬ ((1 : Int32) < 0 ∨ cl387.slots.size ≤ ((1 : Int32)).toNatClampNeg) := inb_of S387 ⟨by decide, by decide⟩
  obtain ⟨T387, h387, X387, e387, W387, st387⟩ := stR X385 hx hZ E385q Ar387 (j := (1 : Int32)) hin387 rfl (Sto.ofV Ar387 q387 O356 (Ins.self ((E_ce1.ext E356).wr W372))) (g := (mkF m 28 #[.val (.ref a), .val (.ref b356), .val (.int (1 : Int32))] [(.ref ce1), (.int (1 : Int32)), (.ref b356)])) rfl rfl (hb hby d_prog_46_method_14_28)
  have V387 : Arv Z h387 b356 k356 (.object "com/example/goalpost/goalpost/runtime/Cell") (6 : Int32) [(.ref ce0), (.ref ce1), .null, .null, .null, .null] .null := Arv.set Ar387 q387 S387 Nn387 Hh387 Gg387 rfl W387 1 rfl (Nat.le_of_ble_eq_true rfl)
  have N387 := Fr.snoc X387 N385 ge_b356
  have K388 : Go p e below T387 (mkF m 29 #[.val (.ref a), .val (.ref b356), .val (.int (1 : Int32))] []) G := fun tq kq => K386 tq (st387 tq kq)
  have K389 : Go p e below T387 (mkF m 32 #[.val (.ref a), .val (.ref b356), .val (.int (2 : Int32))] []) G := fun tq kq => K388 tq (XS.iinc X387.here hx rfl (hb hby d_prog_46_method_14_29) rfl (l' := #[.val (.ref a), .val (.ref b356), .val (.int (2 : Int32))]) rfl kq)
  have K390 : Go p e below T387 (mkF m 13 #[.val (.ref a), .val (.ref b356), .val (.int (2 : Int32))] []) G := fun tq kq => K389 tq (XS.goto X387.here hx rfl (pc0 := 32) (pc' := 13) rfl (hb hby d_prog_46_method_14_32) (by decide) (by decide) kq)
  have K391 : Go p e below T387 (mkF m 14 #[.val (.ref a), .val (.ref b356), .val (.int (2 : Int32))] [(.int (2 : Int32))]) G := fun tq kq => K390 tq (XS.iloadN X387.here hx rfl (hb hby d_prog_46_method_14_13) rfl kq)
  have K392 : Go p e below T387 (mkF m 15 #[.val (.ref a), .val (.ref b356), .val (.int (2 : Int32))] [(.ref a), (.int (2 : Int32))]) G := fun tq kq => K391 tq (XS.aloadN X387.here hx rfl (hb hby d_prog_46_method_14_14) rfl rfl kq)
  obtain ⟨T393, X393, e393, st393⟩ := getF X387 hx hZ hown (host := "") (Or.inl (hW 43 _ rfl)) Via.refl e387 (((F_size_a.ext E356).other W372 (Or.inl ne356_a)).other W387 (Or.inl ne356_a)) (g := (mkF m 15 #[.val (.ref a), .val (.ref b356), .val (.int (2 : Int32))] [(.ref a), (.int (2 : Int32))])) rfl rfl (hb hby d_prog_46_method_14_15)
  have K394 : Go p e below T393 (mkF m 18 #[.val (.ref a), .val (.ref b356), .val (.int (2 : Int32))] [(.int (3 : Int32)), (.int (2 : Int32))]) G := fun tq kq => K392 tq (st393 tq kq)
  have K395 : Go p e below T393 (mkF m 21 #[.val (.ref a), .val (.ref b356), .val (.int (2 : Int32))] []) G := fun tq kq => K394 tq (XS.icmpNo X393.here hx rfl (hb hby d_prog_46_method_14_18) rfl ((tlt (by decide : (2 : Int32) < (3 : Int32))).2.1) kq)
  have K396 : Go p e below T393 (mkF m 22 #[.val (.ref a), .val (.ref b356), .val (.int (2 : Int32))] [(.ref b356)]) G := fun tq kq => K395 tq (XS.aloadN X393.here hx rfl (hb hby d_prog_46_method_14_21) rfl rfl kq)
  have K397 : Go p e below T393 (mkF m 23 #[.val (.ref a), .val (.ref b356), .val (.int (2 : Int32))] [(.int (2 : Int32)), (.ref b356)]) G := fun tq kq => K396 tq (XS.iloadN X393.here hx rfl (hb hby d_prog_46_method_14_22) rfl kq)
  have K398 : Go p e below T393 (mkF m 24 #[.val (.ref a), .val (.ref b356), .val (.int (2 : Int32))] [(.ref a), (.int (2 : Int32)), (.ref b356)]) G := fun tq kq => K397 tq (XS.aloadN X393.here hx rfl (hb hby d_prog_46_method_14_23) rfl rfl kq)
  have K399 : Go p e below T393 (mkF m 25 #[.val (.ref a), .val (.ref b356), .val (.int (2 : Int32))] [(.int (2 : Int32)), (.ref a), (.int (2 : Int32)), (.ref b356)]) G := fun tq kq => K398 tq (XS.iloadN X393.here hx rfl (hb hby d_prog_46_method_14_24) rfl kq)
  obtain ⟨cq400, kq400, q400a, q400b, q400c⟩ := isOf hZ e393 (((E_a.ext E356).wr W372).wr W387)
  obtain ⟨v400, _, ⟨T400, L400, k400, n400⟩, -, X400, ⟨Lc400, hQ400, l400, y400, z400⟩, st400⟩ := X393.virtualBack hx (y := (⟨"com/example/goalpost/goalpost/runtime/ListValue", "at", "(I)Lcom/example/goalpost/goalpost/runtime/Cell;"⟩ : MethodName)) (z := (⟨"com/example/goalpost/goalpost/runtime/ListValue", "at", "(I)Lcom/example/goalpost/goalpost/runtime/Cell;"⟩ : MethodName)) hown (mvT hZ (hW 66 _ rfl)) (mvT hZ (hW 67 _ rfl)) (notFace_of_selects (args := #[]) (mvT hZ (hW 69 _ rfl))) (mvT hZ (hW 69 _ rfl)) (mvT hZ (hW 68 _ rfl)) (by decide) (backOf (W := 2) (rmAT l Z a0 hw [] a (2 : Int32) r k (3 : Int32) (2 : Int32) [(.ref ce1), (.ref ce2), (.ref ce0)] ce2 h387 n0 (Nat.le_trans (Nat.le_trans (Nat.le_trans Z0 E356.1) (Keep.of_wr W372).1) (Keep.of_wr W387).1) (((F_ring_a.ext E356).other W372 (Or.inl ne356_a)).other W387 (Or.inl ne356_a)) (((F_front_a.ext E356).other W372 (Or.inl ne356_a)).other W387 (Or.inl ne356_a)) (((V_r.ext E356).other W372 ne356_r).other W387 ne356_r) (by unfold own_B; decide) (by decide) rfl) hZ (hW 70 _ rfl) (hW 16 _ rfl) (by decide) (by decide)) q400a q400c (g := (mkF m 25 #[.val (.ref a), .val (.ref b356), .val (.int (2 : Int32))] [(.int (2 : Int32)), (.ref a), (.int (2 : Int32)), (.ref b356)])) rfl (by rw [hml]; rfl) (Steps.refl _) (argsL := [(.int (2 : Int32))]) (rest := [(.int (2 : Int32)), (.ref b356)]) (lenOf pd_81 rfl) rfl (by show 2 * 0 + _ ≤ _; exact Nat.le_of_eq rfl) (hb hby d_prog_46_method_14_25) (fun _ _ => ⟨rfl, e393, (by decide : 1 + 0 ≤ _), (by decide : 6 + 0 ≤ _)⟩)
  dsimp only [Pt.U, Pt.locs, Pt.cells, Pt.slots] at X400 l400 y400 z400 st400 hQ400
  subst l400 y400 z400
  obtain ⟨rfl, N400q, E400q⟩ := hQ400
  have N400 := Fr.app N387 N400q
  have K401 : Go p e below T400 (mkF m 28 #[.val (.ref a), .val (.ref b356), .val (.int (2 : Int32))] [(.ref ce2), (.int (2 : Int32)), (.ref b356)]) G := fun tq kq => K399 tq (st400.trans kq)
  obtain ⟨cl402, Ar402, q402, S402, Nn402, Hh402, Gg402⟩ := id V387
  have hin402 : ¬ ((2 : Int32) < 0 ∨ cl402.slots.size ≤ ((2 : Int32)).toNatClampNeg) := inb_of S402 ⟨by decide, by decide⟩
  obtain ⟨T402, h402, X402, e402, W402, st402⟩ := stR X400 hx hZ E400q Ar402 (j := (2 : Int32)) hin402 rfl (Sto.ofV Ar402 q402 O356 (Ins.self (((E_ce2.ext E356).wr W372).wr W387))) (g := (mkF m 28 #[.val (.ref a), .val (.ref b356), .val (.int (2 : Int32))] [(.ref ce2), (.int (2 : Int32)), (.ref b356)])) rfl rfl (hb hby d_prog_46_method_14_28)
  have V402 : Arv Z h402 b356 k356 (.object "com/example/goalpost/goalpost/runtime/Cell") (6 : Int32) [(.ref ce0), (.ref ce1), (.ref ce2), .null, .null, .null] .null := Arv.set Ar402 q402 S402 Nn402 Hh402 Gg402 rfl W402 2 rfl (Nat.le_of_ble_eq_true rfl)
  have N402 := Fr.snoc X402 N400 ge_b356
  have K403 : Go p e below T402 (mkF m 29 #[.val (.ref a), .val (.ref b356), .val (.int (2 : Int32))] []) G := fun tq kq => K401 tq (st402 tq kq)
  have K404 : Go p e below T402 (mkF m 32 #[.val (.ref a), .val (.ref b356), .val (.int (3 : Int32))] []) G := fun tq kq => K403 tq (XS.iinc X402.here hx rfl (hb hby d_prog_46_method_14_29) rfl (l' := #[.val (.ref a), .val (.ref b356), .val (.int (3 : Int32))]) rfl kq)
  have K405 : Go p e below T402 (mkF m 13 #[.val (.ref a), .val (.ref b356), .val (.int (3 : Int32))] []) G := fun tq kq => K404 tq (XS.goto X402.here hx rfl (pc0 := 32) (pc' := 13) rfl (hb hby d_prog_46_method_14_32) (by decide) (by decide) kq)
  have K406 : Go p e below T402 (mkF m 14 #[.val (.ref a), .val (.ref b356), .val (.int (3 : Int32))] [(.int (3 : Int32))]) G := fun tq kq => K405 tq (XS.iloadN X402.here hx rfl (hb hby d_prog_46_method_14_13) rfl kq)
  have K407 : Go p e below T402 (mkF m 15 #[.val (.ref a), .val (.ref b356), .val (.int (3 : Int32))] [(.ref a), (.int (3 : Int32))]) G := fun tq kq => K406 tq (XS.aloadN X402.here hx rfl (hb hby d_prog_46_method_14_14) rfl rfl kq)
  obtain ⟨T408, X408, e408, st408⟩ := getF X402 hx hZ hown (host := "") (Or.inl (hW 43 _ rfl)) Via.refl e402 ((((F_size_a.ext E356).other W372 (Or.inl ne356_a)).other W387 (Or.inl ne356_a)).other W402 (Or.inl ne356_a)) (g := (mkF m 15 #[.val (.ref a), .val (.ref b356), .val (.int (3 : Int32))] [(.ref a), (.int (3 : Int32))])) rfl rfl (hb hby d_prog_46_method_14_15)
  have K409 : Go p e below T408 (mkF m 18 #[.val (.ref a), .val (.ref b356), .val (.int (3 : Int32))] [(.int (3 : Int32)), (.int (3 : Int32))]) G := fun tq kq => K407 tq (st408 tq kq)
  have K410 : Go p e below T408 (mkF m 35 #[.val (.ref a), .val (.ref b356), .val (.int (3 : Int32))] []) G := fun tq kq => K409 tq (XS.icmpYes X408.here hx rfl (pc0 := 18) (pc' := 35) rfl (hb hby d_prog_46_method_14_18) rfl ((flt (by decide : ¬ ((3 : Int32) < (3 : Int32)))).2.1) (by decide) (by decide) kq)
  have K411 : Go p e below T408 (mkF m 36 #[.val (.ref a), .val (.ref b356), .val (.int (3 : Int32))] [(.ref a)]) G := fun tq kq => K410 tq (XS.aloadN X408.here hx rfl (hb hby d_prog_46_method_14_35) rfl rfl kq)
  have K412 : Go p e below T408 (mkF m 37 #[.val (.ref a), .val (.ref b356), .val (.int (3 : Int32))] [(.ref b356), (.ref a)]) G := fun tq kq => K411 tq (XS.aloadN X408.here hx rfl (hb hby d_prog_46_method_14_36) rfl rfl kq)
  obtain ⟨T413, h413, X413, e413, W413, st413⟩ := putF X408 hx hZ hown (host := "") (Or.inl (hW 36 _ rfl)) Via.refl e408 ((((F_ring_a.ext E356).other W372 (Or.inl ne356_a)).other W387 (Or.inl ne356_a)).other W402 (Or.inl ne356_a)) ((((E_a.ext E356).wr W372).wr W387).wr W402) (Or.inl (hW 37 _ rfl)) (hW 15 _ rfl) (ty := (.array (.object "com/example/goalpost/goalpost/runtime/Cell"))) (by decide) rfl rfl (g := (mkF m 37 #[.val (.ref a), .val (.ref b356), .val (.int (3 : Int32))] [(.ref b356), (.ref a)])) rfl rfl (hb hby d_prog_46_method_14_37)
  have N413 := Fr.snoc X413 N402 ge_a
  have F413 := Fld.same W413 ((((F_ring_a.ext E356).other W372 (Or.inl ne356_a)).other W387 (Or.inl ne356_a)).other W402 (Or.inl ne356_a))
  have K414 : Go p e below T413 (mkF m 40 #[.val (.ref a), .val (.ref b356), .val (.int (3 : Int32))] []) G := fun tq kq => K412 tq (st413 tq kq)
  have K415 : Go p e below T413 (mkF m 41 #[.val (.ref a), .val (.ref b356), .val (.int (3 : Int32))] [(.ref a)]) G := fun tq kq => K414 tq (XS.aloadN X413.here hx rfl (hb hby d_prog_46_method_14_40) rfl rfl kq)
  have K416 : Go p e below T413 (mkF m 42 #[.val (.ref a), .val (.ref b356), .val (.int (3 : Int32))] [(.int (0 : Int32)), (.ref a)]) G := fun tq kq => K415 tq (XS.iconst X413.here hx rfl (hb hby d_prog_46_method_14_41) kq)
  obtain ⟨T417, h417, X417, e417, W417, st417⟩ := putF X413 hx hZ hown (host := "") (Or.inl (hW 45 _ rfl)) Via.refl e413 (((((F_front_a.ext E356).other W372 (Or.inl ne356_a)).other W387 (Or.inl ne356_a)).other W402 (Or.inl ne356_a)).other W413 (Or.inr (slot_ne (Or.inl (hW 46 _ rfl)) (Or.inl (hW 37 _ rfl)) (by decide) (t := .int) (t' := (.array (.object "com/example/goalpost/goalpost/runtime/Cell"))) (by decide) (by decide)))) (((((E_a.ext E356).wr W372).wr W387).wr W402).wr W413) (Or.inl (hW 46 _ rfl)) (hW 15 _ rfl) (ty := .int) (by decide) rfl rfl (g := (mkF m 42 #[.val (.ref a), .val (.ref b356), .val (.int (3 : Int32))] [(.int (0 : Int32)), (.ref a)])) rfl rfl (hb hby d_prog_46_method_14_42)
  have N417 := Fr.snoc X417 N413 ge_a
  have F417 := Fld.same W417 (((((F_front_a.ext E356).other W372 (Or.inl ne356_a)).other W387 (Or.inl ne356_a)).other W402 (Or.inl ne356_a)).other W413 (Or.inr (slot_ne (Or.inl (hW 46 _ rfl)) (Or.inl (hW 37 _ rfl)) (by decide) (t := .int) (t' := (.array (.object "com/example/goalpost/goalpost/runtime/Cell"))) (by decide) (by decide))))
  have K418 : Go p e below T417 (mkF m 45 #[.val (.ref a), .val (.ref b356), .val (.int (3 : Int32))] []) G := fun tq kq => K416 tq (st417 tq kq)
  obtain ⟨fs, hr, hrun, hended, hWW, hsame⟩ := X417.leave (v := none) (fun _ => rfl)
  refine ⟨_, _, hG _ (K418 _ (X417.returnOut hx Bd.returns (hb hby d_prog_46_method_14_45) hr)), hrun, hended, _, _, rfl, ?_, ⟨_, rfl⟩, hWW, hsame.mono (by decide) (by decide)⟩
  show QGR32 Z a r k ce0 ce1 ce2 h0 n0 _ T417.heap _
  rw [e417]
  exact ⟨rfl, N417, (((((((Keep.refl h0 [a]).ext E356).wr W372 (Or.inr sz_b356)).wr W387 (Or.inr sz_b356)).wr W402 (Or.inr sz_b356)).wr W413 (Or.inl (List.mem_of_getElem? (i := 0) rfl))).wr W417 (Or.inl (List.mem_of_getElem? (i := 0) rfl))), ((((((E_a.ext E356).wr W372).wr W387).wr W402).wr W413).wr W417), b356, k356, sz_b356, ge_b356, (F413.other W417 (Or.inr (slot_ne (Or.inl (hW 37 _ rfl)) (Or.inl (hW 46 _ rfl)) (by decide) (t := (.array (.object "com/example/goalpost/goalpost/runtime/Cell"))) (t' := .int) (by decide) (by decide)))), F417, ((((((F_size_a.ext E356).other W372 (Or.inl ne356_a)).other W387 (Or.inl ne356_a)).other W402 (Or.inl ne356_a)).other W413 (Or.inr (slot_ne (Or.inl (hW 44 _ rfl)) (Or.inl (hW 37 _ rfl)) (by decide) (t := .int) (t' := (.array (.object "com/example/goalpost/goalpost/runtime/Cell"))) (by decide) (by decide)))).other W417 (Or.inr (slot_ne (Or.inl (hW 44 _ rfl)) (Or.inl (hW 46 _ rfl)) (by decide) (t := .int) (t' := .int) (by decide) (by decide)))), ((V402.other W413 (Ne.symm ne356_a)).other W417 (Ne.symm ne356_a)), O356⟩
theorem own_lit32 {vs : List Value} {cs : List (Addr × Addr)} (h : own_Ring vs 3 2 cs) (hl : cs.length = 3) : ∃ p0 p1 p2 : Addr × Addr, cs = [p0, p1, p2] ∧ vs = [(.ref p1.1), (.ref p2.1), (.ref p0.1)] := by
  obtain ⟨h1, -, -, h4⟩ := h
  match cs, hl, vs, h1 with
  | [p0, p1, p2], _, [v0, v1, v2], _ =>
    refine ⟨p0, p1, p2, rfl, ?_⟩
    have q0 := h4 0 p0 rfl
    have q1 := h4 1 p1 rfl
    have q2 := h4 2 p2 rfl
    simp at q0 q1 q2
    simp [q0, q1, q2]
theorem own_rg32 {p0 p1 p2 : Addr × Addr} : own_Ring [(.ref p0.1), (.ref p1.1), (.ref p2.1), .null, .null, .null] 6 0 [p0, p1, p2] := by
  refine ⟨rfl, by decide, by simp, fun i p hp => ?_⟩
  match i, hp with
  | 0, hp => simp at hp; subst hp; rfl
  | 1, hp => simp at hp; subst hp; rfl
  | 2, hp => simp at hp; subst hp; rfl
  | i + 3, hp => simp at hp
theorem own_six (mm f : Int32) (n : Nat) (hB : own_B mm f) (hn : Int32.ofNat n = mm) (h3 : n ≤ 3) : (mm = 1 ∧ f = 0) ∨ (mm = 2 ∧ f = 0) ∨ (mm = 2 ∧ f = 1) ∨ (mm = 3 ∧ f = 0) ∨ (mm = 3 ∧ f = 1) ∨ (mm = 3 ∧ f = 2) := by
  obtain ⟨b1, b2, b3, b4⟩ := hB
  have e := own_ofNat n (by omega)
  rw [hn] at e
  simp only [← Int32.toInt_inj, own_I0, own_I1, own_I2, own_I3]
  omega
theorem own_len (n : Nat) (mm : Int32) (hn : Int32.ofNat n = mm) (h3 : n ≤ 3) : (n : Int) = mm.toInt := by rw [← hn, own_ofNat n (by omega)]
theorem own_ltm (n : Nat) (mm : Int32) (h1 : 0 ≤ mm.toInt) (h2 : n ≤ mm.toNatClampNeg) (h3 : n ≤ 4000) (hn : ¬ (Int32.ofNat n = mm)) : n < mm.toNatClampNeg := by
  rcases Nat.lt_or_ge n mm.toNatClampNeg with h | h
  · exact h
  · exfalso
    apply hn
    rw [← Int32.toInt_inj, own_ofNat n h3]
    have c := own_nat mm h1
    omega
theorem own_fn (f : Int32) (n : Nat) (h0 : 0 ≤ f.toInt) (h1 : f.toInt ≤ 8) (hn : n ≤ 8) : (f + Int32.ofNat n).toInt = ((f.toNatClampNeg + n : Nat) : Int) := by
  have c := c_iadd f (Int32.ofNat n)
  rw [own_ofNat n (by omega)] at c
  have r := rng32 (f + Int32.ofNat n)
  have c1 := own_nat f h0
  omega
theorem own_fm (f mm : Int32) (h0 : 0 ≤ f.toInt) (h1 : f.toInt ≤ 8) (h2 : 1 ≤ mm.toInt) (h3 : mm.toInt ≤ 8) : ((f + mm) - (1 : Int32)).toInt = ((f.toNatClampNeg + mm.toNatClampNeg - 1 : Nat) : Int) := by
  have c := c_iadd f mm
  have r := rng32 (f + mm)
  have d := c_isub (f + mm) (1 : Int32)
  have r2 := rng32 ((f + mm) - (1 : Int32))
  rw [own_I1] at d
  have c1 := own_nat f h0
  have c2 := own_nat mm (by omega)
  omega
theorem own_up1 (n : Nat) (h : n < 4000) : Int32.ofNat n + (1 : Int32) = Int32.ofNat (n + 1) := by
  rw [← Int32.toInt_inj, own_ofNat (n + 1) (by omega)]
  have c := c_iadd (Int32.ofNat n) (1 : Int32)
  rw [own_ofNat n (by omega), own_I1] at c
  have r := rng32 (Int32.ofNat n + (1 : Int32))
  omega
theorem own_dn1 (n : Nat) (h : n < 4000) : Int32.ofNat (n + 1) - (1 : Int32) = Int32.ofNat n := by
  rw [← Int32.toInt_inj, own_ofNat n (by omega)]
  have c := c_isub (Int32.ofNat (n + 1)) (1 : Int32)
  rw [own_ofNat (n + 1) (by omega), own_I1] at c
  have r := rng32 (Int32.ofNat (n + 1) - (1 : Int32))
  omega
theorem own_cellsA {Z : State} {h : Heap} {cs : List (Addr × Addr)} {c x : Addr} (hC : own_Cells Z h cs) (E : Exa Z h c "com/example/goalpost/goalpost/runtime/Cell") (F : Fld Z h c "com/example/goalpost/goalpost/runtime/Cell" "value" "Ljava/lang/Object;" (.ref x)) : own_Cells Z h (cs ++ [(c, x)]) := by
  intro p hp
  rcases List.mem_append.mp hp with q | q
  · exact hC p q
  · simp at q; subst q; exact ⟨E, F⟩
theorem own_cellsC {Z : State} {h : Heap} {cs : List (Addr × Addr)} {c x : Addr} (hC : own_Cells Z h cs) (E : Exa Z h c "com/example/goalpost/goalpost/runtime/Cell") (F : Fld Z h c "com/example/goalpost/goalpost/runtime/Cell" "value" "Ljava/lang/Object;" (.ref x)) : own_Cells Z h ((c, x) :: cs) := by
  intro p hp
  rcases List.mem_cons.mp hp with q | q
  · subst q; exact ⟨E, F⟩
  · exact hC p q
theorem ef_prog_46_method_5_RR (m : MethodId) (x0 : Addr) (x1 : Addr) : entryFrame m #[(.ref x0), (.ref x1)] 2 = mkF m 0 #[.val (.ref x0), .val (.ref x1)] [] := by first | (simp [entryFrame, mkF, argsToLocals, Value.category]; done) | rfl
theorem pd_111 : parseMethodDescriptor "(Ljava/lang/Object;)V" = some ⟨[(.object "java/lang/Object")], none⟩ := by decide +kernel
theorem d_prog_46_method_5_0 : decode prog_46_method_5_code 0 = .ok (.aload_n 0, 1) := by decide +kernel
theorem d_prog_46_method_5_1 : decode prog_46_method_5_code 1 = .ok (.getfield 21, 3) := by decide +kernel
theorem d_prog_46_method_5_4 : decode prog_46_method_5_code 4 = .ok (.aload_n 0, 1) := by decide +kernel
theorem d_prog_46_method_5_5 : decode prog_46_method_5_code 5 = .ok (.getfield 15, 3) := by decide +kernel
theorem d_prog_46_method_5_8 : decode prog_46_method_5_code 8 = .ok (.arraylength, 1) := by decide +kernel
theorem d_prog_46_method_5_9 : decode prog_46_method_5_code 9 = .ok (.if_icmp .ne 7, 3) := by decide +kernel
theorem d_prog_46_method_5_12 : decode prog_46_method_5_code 12 = .ok (.aload_n 0, 1) := by decide +kernel
theorem d_prog_46_method_5_13 : decode prog_46_method_5_code 13 = .ok (.invokevirtual 38, 3) := by decide +kernel
theorem d_prog_46_method_5_16 : decode prog_46_method_5_code 16 = .ok (.aload_n 0, 1) := by decide +kernel
theorem d_prog_46_method_5_17 : decode prog_46_method_5_code 17 = .ok (.getfield 15, 3) := by decide +kernel
theorem d_prog_46_method_5_20 : decode prog_46_method_5_code 20 = .ok (.aload_n 0, 1) := by decide +kernel
theorem d_prog_46_method_5_21 : decode prog_46_method_5_code 21 = .ok (.getfield 25, 3) := by decide +kernel
theorem d_prog_46_method_5_24 : decode prog_46_method_5_code 24 = .ok (.aload_n 0, 1) := by decide +kernel
theorem d_prog_46_method_5_25 : decode prog_46_method_5_code 25 = .ok (.getfield 21, 3) := by decide +kernel
theorem d_prog_46_method_5_28 : decode prog_46_method_5_code 28 = .ok (.iadd, 1) := by decide +kernel
theorem d_prog_46_method_5_29 : decode prog_46_method_5_code 29 = .ok (.aload_n 0, 1) := by decide +kernel
theorem d_prog_46_method_5_30 : decode prog_46_method_5_code 30 = .ok (.getfield 15, 3) := by decide +kernel
theorem d_prog_46_method_5_33 : decode prog_46_method_5_code 33 = .ok (.arraylength, 1) := by decide +kernel
theorem d_prog_46_method_5_34 : decode prog_46_method_5_code 34 = .ok (.irem, 1) := by decide +kernel
theorem d_prog_46_method_5_35 : decode prog_46_method_5_code 35 = .ok (.new 13, 3) := by decide +kernel
theorem d_prog_46_method_5_38 : decode prog_46_method_5_code 38 = .ok (.dup, 1) := by decide +kernel
theorem d_prog_46_method_5_39 : decode prog_46_method_5_code 39 = .ok (.aload_n 1, 1) := by decide +kernel
theorem d_prog_46_method_5_40 : decode prog_46_method_5_code 40 = .ok (.invokespecial 42, 3) := by decide +kernel
theorem d_prog_46_method_5_43 : decode prog_46_method_5_code 43 = .ok (.aastore, 1) := by decide +kernel
theorem d_prog_46_method_5_44 : decode prog_46_method_5_code 44 = .ok (.aload_n 0, 1) := by decide +kernel
theorem d_prog_46_method_5_45 : decode prog_46_method_5_code 45 = .ok (.dup, 1) := by decide +kernel
theorem d_prog_46_method_5_46 : decode prog_46_method_5_code 46 = .ok (.getfield 21, 3) := by decide +kernel
theorem d_prog_46_method_5_49 : decode prog_46_method_5_code 49 = .ok (.iconst 1, 1) := by decide +kernel
theorem d_prog_46_method_5_50 : decode prog_46_method_5_code 50 = .ok (.iadd, 1) := by decide +kernel
theorem d_prog_46_method_5_51 : decode prog_46_method_5_code 51 = .ok (.putfield 21, 3) := by decide +kernel
theorem d_prog_46_method_5_54 : decode prog_46_method_5_code 54 = .ok (.return_, 1) := by decide +kernel
def QPU (Z : State) (a : Addr) (x : Addr) (r : Addr) (k : ClassId) (mm : Int32) (f : Int32) (vs : List Value) (cs : List (Addr × Addr)) (h0 : Heap) (n0 : Nat) (v : Option Value) (h : Heap) (L : List Loc) : Prop := v = none ∧ Fr n0 L ∧ Keep h0 h [a, r] ∧ ∃ (r2 : Addr) (k2 : ClassId) (m2 : Int32) (f2 : Int32) (v2 : List Value) (c : Addr), (r2 = r ∨ h0.size ≤ r2) ∧ own_Dq Z h n0 a r2 k2 m2 f2 v2 (cs ++ [(c, x)])
set_option maxRecDepth 65536 in
set_option maxHeartbeats 40000000 in
theorem rmPU (l : Launch) (Z : State) (a0 : Array Value) (hw : ∀ d ∈ tables_1, d.before a0 Z = true) (ws : List Jvm.Cond) (a : Addr) (x : Addr) (r : Addr) (k : ClassId) (mm : Int32) (f : Int32) (vs : List Value) (cs : List (Addr × Addr)) (h0 : Heap) (n0 : Nat) (Z0 : n0 ≤ h0.size) (D : own_Dq Z h0 n0 a r k mm f vs cs) (hlen : cs.length ≤ 3) :
    MetFree l (⟨"com/example/goalpost/goalpost/runtime/ListValue", "put", "(Ljava/lang/Object;)V"⟩ : MethodName) (head1 (Jvm.Cond.code (⟨"com/example/goalpost/goalpost/runtime/ListValue", "put", "(Ljava/lang/Object;)V"⟩ : MethodName) prog_46_method_5_code 2 none :: ws) ({ frames := 3, cells := 2, slots := 7, locals := 40 } : Room)) (fun aa UU => aa = #[(.ref a), (.ref x)] ∧ Z.Warmed39 UU.vm ∧ UU.heap = h0) (fun _ _ _ _ _ => True) (fun _ UU oo UU' => ∃ vv LL, oo = .returned vv ∧ QPU Z a x r k mm f vs cs h0 n0 vv UU'.heap LL ∧ FrameEnd UU oo UU' LL ({ frames := 3, cells := 2, slots := 7, locals := 40 } : Room).cells ({ frames := 3, cells := 2, slots := 7, locals := 40 } : Room).slots) := by
  refine MetFree.of_bodySF (plainFor_of_name pn_53) hisR ?_
  intro p e s m args below meth c s₁ Bd hml0 hP hK
  obtain ⟨rfl, hZ, hh⟩ := hP
  have hx := Bd.exec
  have hby := Bd.bytes
  have hml : c.maxLocals = 2 := hml0
  have hown : s.vm.findClass "com/example/goalpost/goalpost/runtime/ListValue" = some m.cls := findClass_of_methodNamed Bd.named
  have hnm := (name_of_methodNamed Bd.named Bd.method).1
  have hW : ∀ (k : Nat) (d : Jvm.Cond), tables_1[k]? = some d → d.before a0 Z = true := fun k d h => hw d (List.mem_of_getElem? h)
  have X0 : Stand p l e ({ frames := 3, cells := 2, slots := 7, locals := 40 } : Room) s m #[(.ref a), (.ref x)] below meth c s₁ [] 0 0 := Stand.of_body Bd
  have e0 : s₁.heap = h0 := by rw [← hh, Bd.state]; rfl
  have N0 := Fr.nil n0
  obtain ⟨G, hG, K0⟩ : ∃ G : State → Prop, (∀ tq, G tq → Steps p.tables e below (s₁.setTop (entryFrame m #[(.ref a), (.ref x)] 2)) tq) ∧ Go p e below s₁ (mkF m 0 #[.val (.ref a), .val (.ref x)] []) G := ⟨fun tq => Steps p.tables e below (s₁.setTop (entryFrame m #[(.ref a), (.ref x)] 2)) tq, fun _ h => h, fun tq kq => castTop (ef_prog_46_method_5_RR m a x) kq⟩
  obtain ⟨E_a, F_ring, F_front, F_size, V_r, O_r, ge_a, ge_r, hB, hR, hC⟩ := D
  have ne_ar : a ≠ r := Exa.neArv E_a V_r (hW 15 _ rfl)
  obtain ⟨Tj, hj, Lj, rj, kj, mj, fj, vj, Xj, ej, Nj, Zj, Kj, hrj, Dj, hlt, Kj419⟩ : ∃ (Tj : State) (hj : Heap) (Lj : List Loc) (rj : Addr) (kj : ClassId) (mj : Int32) (fj : Int32) (vj : List Value), Stand p l e ({ frames := 3, cells := 2, slots := 7, locals := 40 } : Room) s m #[(.ref a), (.ref x)] below meth c Tj Lj 1 6 ∧ Tj.heap = hj ∧ Fr n0 Lj ∧ n0 ≤ hj.size ∧ Keep h0 hj [a, r] ∧ (rj = r ∨ h0.size ≤ rj) ∧ own_Dq Z hj n0 a rj kj mj fj vj cs ∧ cs.length < mj.toNatClampNeg ∧ Go p e below Tj (mkF m 16 #[.val (.ref a), .val (.ref x)] []) G := by
    have K420 : Go p e below s₁ (mkF m 1 #[.val (.ref a), .val (.ref x)] [(.ref a)]) G := fun tq kq => K0 tq (XS.aloadN X0.here hx rfl (hb hby d_prog_46_method_5_0) rfl rfl kq)
    obtain ⟨T421, X421, e421, st421⟩ := getF X0 hx hZ hown (host := "") (Or.inl (hW 43 _ rfl)) Via.refl e0 F_size (g := (mkF m 1 #[.val (.ref a), .val (.ref x)] [(.ref a)])) rfl rfl (hb hby d_prog_46_method_5_1)
    have K422 : Go p e below T421 (mkF m 4 #[.val (.ref a), .val (.ref x)] [(.int (Int32.ofNat cs.length))]) G := fun tq kq => K420 tq (st421 tq kq)
    have K423 : Go p e below T421 (mkF m 5 #[.val (.ref a), .val (.ref x)] [(.ref a), (.int (Int32.ofNat cs.length))]) G := fun tq kq => K422 tq (XS.aloadN X421.here hx rfl (hb hby d_prog_46_method_5_4) rfl rfl kq)
    obtain ⟨T424, X424, e424, st424⟩ := getF X421 hx hZ hown (host := "") (Or.inl (hW 36 _ rfl)) Via.refl e421 F_ring (g := (mkF m 5 #[.val (.ref a), .val (.ref x)] [(.ref a), (.int (Int32.ofNat cs.length))])) rfl rfl (hb hby d_prog_46_method_5_5)
    have K425 : Go p e below T424 (mkF m 8 #[.val (.ref a), .val (.ref x)] [(.ref r), (.int (Int32.ofNat cs.length))]) G := fun tq kq => K423 tq (st424 tq kq)
    obtain ⟨cl426, Ar426, q426, S426, Nn426, Hh426, Gg426⟩ := id V_r
    have K427 : Go p e below T424 (mkF m 9 #[.val (.ref a), .val (.ref x)] [(.int mm), (.int (Int32.ofNat cs.length))]) G := fun tq kq => K425 tq (X424.arraylength hx (by rw [e424]; exact Ar426.1) (State.isArrayOf_alike hZ.alike Ar426.2.1) (g := (mkF m 8 #[.val (.ref a), .val (.ref x)] [(.ref r), (.int (Int32.ofNat cs.length))])) rfl rfl (hb hby d_prog_46_method_5_8) _ (by rw [len_of S426 Nn426]; exact kq))
    by_cases hc428 : (Int32.ofNat cs.length) = mm
    · skip
      have K429 : Go p e below T424 (mkF m 12 #[.val (.ref a), .val (.ref x)] []) G := fun tq kq => K427 tq (XS.icmpNo X424.here hx rfl (hb hby d_prog_46_method_5_9) rfl ((teq hc428).2) kq)
      have K430 : Go p e below T424 (mkF m 13 #[.val (.ref a), .val (.ref x)] [(.ref a)]) G := fun tq kq => K429 tq (XS.aloadN X424.here hx rfl (hb hby d_prog_46_method_5_12) rfl rfl kq)
      rcases own_six mm f cs.length hB hc428 hlen with ⟨hm, hf⟩ | ⟨hm, hf⟩ | ⟨hm, hf⟩ | ⟨hm, hf⟩ | ⟨hm, hf⟩ | ⟨hm, hf⟩
      · skip
        have hcl : cs.length = 1 := by
          have q := own_len cs.length mm hc428 hlen
          rw [hm] at q
          exact Int.ofNat.inj q
        have hR' : own_Ring vs 1 0 cs := by
          have q := hR
          rw [hm, hf] at q
          exact q
        obtain ⟨p0, hcs, hvs⟩ := own_lit10 hR' hcl
        have hsz : (Int32.ofNat cs.length) = (1 : Int32) := by rw [hc428, hm]
        have V_r' := V_r
        rw [hm, hvs] at V_r'
        have F_f' := F_front
        rw [hf] at F_f'
        have F_s' := F_size
        rw [hsz] at F_s'
        have Ec0 := (hC p0 (by rw [hcs]; simp)).1
        obtain ⟨cq431, q431, q431'⟩ := E_a.cell
        obtain ⟨v431, _, ⟨T431, L431, k431, n431⟩, -, X431, ⟨Lc431, hQ431, l431, y431, z431⟩, st431⟩ := X424.privateBack hx (y := (⟨"com/example/goalpost/goalpost/runtime/ListValue", "grow", "()V"⟩ : MethodName)) hown (mvT hZ (hW 62 _ rfl)) (mvT hZ (hW 63 _ rfl)) (mvT hZ (own_sel hW)) (Cond.privateMethod_at (mvP hZ (hW 64 _ rfl) (args := #[]))) (mvT hZ (hW 65 _ rfl)) (by decide) (backOf (W := 0) (rmGR10 l Z a0 hw [] a r k p0.1 h0 n0 Z0 F_ring F_f' F_s' E_a ge_a V_r' Ec0) hZ (hW 65 _ rfl) (hW 16 _ rfl) (by decide) (by decide)) (g := (mkF m 13 #[.val (.ref a), .val (.ref x)] [(.ref a)])) rfl (by rw [hml]; rfl) (Steps.refl _) (a := a) (by rw [e424]; exact q431) q431' (argsL := []) (rest := []) (lenOf pd_26 rfl) rfl (by show 2 * 0 + _ ≤ _; exact Nat.le_of_eq rfl) (hb hby d_prog_46_method_5_13) (fun _ _ => ⟨rfl, e424, (by decide : 0 + 1 ≤ _), (by decide : 0 + 2 ≤ _)⟩)
        dsimp only [Pt.U, Pt.locs, Pt.cells, Pt.slots] at X431 l431 y431 z431 st431 hQ431
        subst l431 y431 z431
        obtain ⟨rfl, N431q, K431q, E431q, b431, k2431, szb431, geb431, FR431, FF431, FS431, VB431, OB431⟩ := hQ431
        have N431 := Fr.app N0 N431q
        have K432 : Go p e below T431 (mkF m 16 #[.val (.ref a), .val (.ref x)] []) G := fun tq kq => K430 tq (st431.trans kq)
        refine ⟨T431, T431.heap, _, b431, k2431, (2 : Int32), (0 : Int32), _, X431.more (by decide) (by decide), rfl, N431, (Nat.le_trans Z0 K431q.1), ((Keep.refl h0 [a, r]).trans K431q (allS (Or.inl (List.mem_of_getElem? (i := 0) rfl)) all0)), Or.inr szb431, ⟨E431q, FR431, FF431, by rw [hsz]; exact FS431, VB431, OB431, ge_a, geb431, by unfold own_B; decide, by rw [hcs]; exact own_rg10, own_cellsK (a := a) (r := r) (k := k) (m := mm) (vs := vs) hC K431q (fun p hp => ninS (Exa.ne (hC p hp).1 E_a (by decide)) nin0)⟩, by rw [hcl]; decide, K432⟩
      · skip
        have hcl : cs.length = 2 := by
          have q := own_len cs.length mm hc428 hlen
          rw [hm] at q
          exact Int.ofNat.inj q
        have hR' : own_Ring vs 2 0 cs := by
          have q := hR
          rw [hm, hf] at q
          exact q
        obtain ⟨p0, p1, hcs, hvs⟩ := own_lit20 hR' hcl
        have hsz : (Int32.ofNat cs.length) = (2 : Int32) := by rw [hc428, hm]
        have V_r' := V_r
        rw [hm, hvs] at V_r'
        have F_f' := F_front
        rw [hf] at F_f'
        have F_s' := F_size
        rw [hsz] at F_s'
        have Ec0 := (hC p0 (by rw [hcs]; simp)).1
        have Ec1 := (hC p1 (by rw [hcs]; simp)).1
        obtain ⟨cq433, q433, q433'⟩ := E_a.cell
        obtain ⟨v433, _, ⟨T433, L433, k433, n433⟩, -, X433, ⟨Lc433, hQ433, l433, y433, z433⟩, st433⟩ := X424.privateBack hx (y := (⟨"com/example/goalpost/goalpost/runtime/ListValue", "grow", "()V"⟩ : MethodName)) hown (mvT hZ (hW 62 _ rfl)) (mvT hZ (hW 63 _ rfl)) (mvT hZ (own_sel hW)) (Cond.privateMethod_at (mvP hZ (hW 64 _ rfl) (args := #[]))) (mvT hZ (hW 65 _ rfl)) (by decide) (backOf (W := 0) (rmGR20 l Z a0 hw [] a r k p0.1 p1.1 h0 n0 Z0 F_ring F_f' F_s' E_a ge_a V_r' Ec0 Ec1) hZ (hW 65 _ rfl) (hW 16 _ rfl) (by decide) (by decide)) (g := (mkF m 13 #[.val (.ref a), .val (.ref x)] [(.ref a)])) rfl (by rw [hml]; rfl) (Steps.refl _) (a := a) (by rw [e424]; exact q433) q433' (argsL := []) (rest := []) (lenOf pd_26 rfl) rfl (by show 2 * 0 + _ ≤ _; exact Nat.le_of_eq rfl) (hb hby d_prog_46_method_5_13) (fun _ _ => ⟨rfl, e424, (by decide : 0 + 1 ≤ _), (by decide : 0 + 4 ≤ _)⟩)
        dsimp only [Pt.U, Pt.locs, Pt.cells, Pt.slots] at X433 l433 y433 z433 st433 hQ433
        subst l433 y433 z433
        obtain ⟨rfl, N433q, K433q, E433q, b433, k2433, szb433, geb433, FR433, FF433, FS433, VB433, OB433⟩ := hQ433
        have N433 := Fr.app N0 N433q
        have K434 : Go p e below T433 (mkF m 16 #[.val (.ref a), .val (.ref x)] []) G := fun tq kq => K430 tq (st433.trans kq)
        refine ⟨T433, T433.heap, _, b433, k2433, (4 : Int32), (0 : Int32), _, X433.more (by decide) (by decide), rfl, N433, (Nat.le_trans Z0 K433q.1), ((Keep.refl h0 [a, r]).trans K433q (allS (Or.inl (List.mem_of_getElem? (i := 0) rfl)) all0)), Or.inr szb433, ⟨E433q, FR433, FF433, by rw [hsz]; exact FS433, VB433, OB433, ge_a, geb433, by unfold own_B; decide, by rw [hcs]; exact own_rg20, own_cellsK (a := a) (r := r) (k := k) (m := mm) (vs := vs) hC K433q (fun p hp => ninS (Exa.ne (hC p hp).1 E_a (by decide)) nin0)⟩, by rw [hcl]; decide, K434⟩
      · skip
        have hcl : cs.length = 2 := by
          have q := own_len cs.length mm hc428 hlen
          rw [hm] at q
          exact Int.ofNat.inj q
        have hR' : own_Ring vs 2 1 cs := by
          have q := hR
          rw [hm, hf] at q
          exact q
        obtain ⟨p0, p1, hcs, hvs⟩ := own_lit21 hR' hcl
        have hsz : (Int32.ofNat cs.length) = (2 : Int32) := by rw [hc428, hm]
        have V_r' := V_r
        rw [hm, hvs] at V_r'
        have F_f' := F_front
        rw [hf] at F_f'
        have F_s' := F_size
        rw [hsz] at F_s'
        have Ec0 := (hC p0 (by rw [hcs]; simp)).1
        have Ec1 := (hC p1 (by rw [hcs]; simp)).1
        obtain ⟨cq435, q435, q435'⟩ := E_a.cell
        obtain ⟨v435, _, ⟨T435, L435, k435, n435⟩, -, X435, ⟨Lc435, hQ435, l435, y435, z435⟩, st435⟩ := X424.privateBack hx (y := (⟨"com/example/goalpost/goalpost/runtime/ListValue", "grow", "()V"⟩ : MethodName)) hown (mvT hZ (hW 62 _ rfl)) (mvT hZ (hW 63 _ rfl)) (mvT hZ (own_sel hW)) (Cond.privateMethod_at (mvP hZ (hW 64 _ rfl) (args := #[]))) (mvT hZ (hW 65 _ rfl)) (by decide) (backOf (W := 0) (rmGR21 l Z a0 hw [] a r k p0.1 p1.1 h0 n0 Z0 F_ring F_f' F_s' E_a ge_a V_r' Ec0 Ec1) hZ (hW 65 _ rfl) (hW 16 _ rfl) (by decide) (by decide)) (g := (mkF m 13 #[.val (.ref a), .val (.ref x)] [(.ref a)])) rfl (by rw [hml]; rfl) (Steps.refl _) (a := a) (by rw [e424]; exact q435) q435' (argsL := []) (rest := []) (lenOf pd_26 rfl) rfl (by show 2 * 0 + _ ≤ _; exact Nat.le_of_eq rfl) (hb hby d_prog_46_method_5_13) (fun _ _ => ⟨rfl, e424, (by decide : 0 + 1 ≤ _), (by decide : 0 + 4 ≤ _)⟩)
        dsimp only [Pt.U, Pt.locs, Pt.cells, Pt.slots] at X435 l435 y435 z435 st435 hQ435
        subst l435 y435 z435
        obtain ⟨rfl, N435q, K435q, E435q, b435, k2435, szb435, geb435, FR435, FF435, FS435, VB435, OB435⟩ := hQ435
        have N435 := Fr.app N0 N435q
        have K436 : Go p e below T435 (mkF m 16 #[.val (.ref a), .val (.ref x)] []) G := fun tq kq => K430 tq (st435.trans kq)
        refine ⟨T435, T435.heap, _, b435, k2435, (4 : Int32), (0 : Int32), _, X435.more (by decide) (by decide), rfl, N435, (Nat.le_trans Z0 K435q.1), ((Keep.refl h0 [a, r]).trans K435q (allS (Or.inl (List.mem_of_getElem? (i := 0) rfl)) all0)), Or.inr szb435, ⟨E435q, FR435, FF435, by rw [hsz]; exact FS435, VB435, OB435, ge_a, geb435, by unfold own_B; decide, by rw [hcs]; exact own_rg20, own_cellsK (a := a) (r := r) (k := k) (m := mm) (vs := vs) hC K435q (fun p hp => ninS (Exa.ne (hC p hp).1 E_a (by decide)) nin0)⟩, by rw [hcl]; decide, K436⟩
      · skip
        have hcl : cs.length = 3 := by
          have q := own_len cs.length mm hc428 hlen
          rw [hm] at q
          exact Int.ofNat.inj q
        have hR' : own_Ring vs 3 0 cs := by
          have q := hR
          rw [hm, hf] at q
          exact q
        obtain ⟨p0, p1, p2, hcs, hvs⟩ := own_lit30 hR' hcl
        have hsz : (Int32.ofNat cs.length) = (3 : Int32) := by rw [hc428, hm]
        have V_r' := V_r
        rw [hm, hvs] at V_r'
        have F_f' := F_front
        rw [hf] at F_f'
        have F_s' := F_size
        rw [hsz] at F_s'
        have Ec0 := (hC p0 (by rw [hcs]; simp)).1
        have Ec1 := (hC p1 (by rw [hcs]; simp)).1
        have Ec2 := (hC p2 (by rw [hcs]; simp)).1
        obtain ⟨cq437, q437, q437'⟩ := E_a.cell
        obtain ⟨v437, _, ⟨T437, L437, k437, n437⟩, -, X437, ⟨Lc437, hQ437, l437, y437, z437⟩, st437⟩ := X424.privateBack hx (y := (⟨"com/example/goalpost/goalpost/runtime/ListValue", "grow", "()V"⟩ : MethodName)) hown (mvT hZ (hW 62 _ rfl)) (mvT hZ (hW 63 _ rfl)) (mvT hZ (own_sel hW)) (Cond.privateMethod_at (mvP hZ (hW 64 _ rfl) (args := #[]))) (mvT hZ (hW 65 _ rfl)) (by decide) (backOf (W := 0) (rmGR30 l Z a0 hw [] a r k p0.1 p1.1 p2.1 h0 n0 Z0 F_ring F_f' F_s' E_a ge_a V_r' Ec0 Ec1 Ec2) hZ (hW 65 _ rfl) (hW 16 _ rfl) (by decide) (by decide)) (g := (mkF m 13 #[.val (.ref a), .val (.ref x)] [(.ref a)])) rfl (by rw [hml]; rfl) (Steps.refl _) (a := a) (by rw [e424]; exact q437) q437' (argsL := []) (rest := []) (lenOf pd_26 rfl) rfl (by show 2 * 0 + _ ≤ _; exact Nat.le_of_eq rfl) (hb hby d_prog_46_method_5_13) (fun _ _ => ⟨rfl, e424, (by decide : 0 + 1 ≤ _), (by decide : 0 + 6 ≤ _)⟩)
        dsimp only [Pt.U, Pt.locs, Pt.cells, Pt.slots] at X437 l437 y437 z437 st437 hQ437
        subst l437 y437 z437
        obtain ⟨rfl, N437q, K437q, E437q, b437, k2437, szb437, geb437, FR437, FF437, FS437, VB437, OB437⟩ := hQ437
        have N437 := Fr.app N0 N437q
        have K438 : Go p e below T437 (mkF m 16 #[.val (.ref a), .val (.ref x)] []) G := fun tq kq => K430 tq (st437.trans kq)
        refine ⟨T437, T437.heap, _, b437, k2437, (6 : Int32), (0 : Int32), _, X437.more (by decide) (by decide), rfl, N437, (Nat.le_trans Z0 K437q.1), ((Keep.refl h0 [a, r]).trans K437q (allS (Or.inl (List.mem_of_getElem? (i := 0) rfl)) all0)), Or.inr szb437, ⟨E437q, FR437, FF437, by rw [hsz]; exact FS437, VB437, OB437, ge_a, geb437, by unfold own_B; decide, by rw [hcs]; exact own_rg30, own_cellsK (a := a) (r := r) (k := k) (m := mm) (vs := vs) hC K437q (fun p hp => ninS (Exa.ne (hC p hp).1 E_a (by decide)) nin0)⟩, by rw [hcl]; decide, K438⟩
      · skip
        have hcl : cs.length = 3 := by
          have q := own_len cs.length mm hc428 hlen
          rw [hm] at q
          exact Int.ofNat.inj q
        have hR' : own_Ring vs 3 1 cs := by
          have q := hR
          rw [hm, hf] at q
          exact q
        obtain ⟨p0, p1, p2, hcs, hvs⟩ := own_lit31 hR' hcl
        have hsz : (Int32.ofNat cs.length) = (3 : Int32) := by rw [hc428, hm]
        have V_r' := V_r
        rw [hm, hvs] at V_r'
        have F_f' := F_front
        rw [hf] at F_f'
        have F_s' := F_size
        rw [hsz] at F_s'
        have Ec0 := (hC p0 (by rw [hcs]; simp)).1
        have Ec1 := (hC p1 (by rw [hcs]; simp)).1
        have Ec2 := (hC p2 (by rw [hcs]; simp)).1
        obtain ⟨cq439, q439, q439'⟩ := E_a.cell
        obtain ⟨v439, _, ⟨T439, L439, k439, n439⟩, -, X439, ⟨Lc439, hQ439, l439, y439, z439⟩, st439⟩ := X424.privateBack hx (y := (⟨"com/example/goalpost/goalpost/runtime/ListValue", "grow", "()V"⟩ : MethodName)) hown (mvT hZ (hW 62 _ rfl)) (mvT hZ (hW 63 _ rfl)) (mvT hZ (own_sel hW)) (Cond.privateMethod_at (mvP hZ (hW 64 _ rfl) (args := #[]))) (mvT hZ (hW 65 _ rfl)) (by decide) (backOf (W := 0) (rmGR31 l Z a0 hw [] a r k p0.1 p1.1 p2.1 h0 n0 Z0 F_ring F_f' F_s' E_a ge_a V_r' Ec0 Ec1 Ec2) hZ (hW 65 _ rfl) (hW 16 _ rfl) (by decide) (by decide)) (g := (mkF m 13 #[.val (.ref a), .val (.ref x)] [(.ref a)])) rfl (by rw [hml]; rfl) (Steps.refl _) (a := a) (by rw [e424]; exact q439) q439' (argsL := []) (rest := []) (lenOf pd_26 rfl) rfl (by show 2 * 0 + _ ≤ _; exact Nat.le_of_eq rfl) (hb hby d_prog_46_method_5_13) (fun _ _ => ⟨rfl, e424, (by decide : 0 + 1 ≤ _), (by decide : 0 + 6 ≤ _)⟩)
        dsimp only [Pt.U, Pt.locs, Pt.cells, Pt.slots] at X439 l439 y439 z439 st439 hQ439
        subst l439 y439 z439
        obtain ⟨rfl, N439q, K439q, E439q, b439, k2439, szb439, geb439, FR439, FF439, FS439, VB439, OB439⟩ := hQ439
        have N439 := Fr.app N0 N439q
        have K440 : Go p e below T439 (mkF m 16 #[.val (.ref a), .val (.ref x)] []) G := fun tq kq => K430 tq (st439.trans kq)
        refine ⟨T439, T439.heap, _, b439, k2439, (6 : Int32), (0 : Int32), _, X439.more (by decide) (by decide), rfl, N439, (Nat.le_trans Z0 K439q.1), ((Keep.refl h0 [a, r]).trans K439q (allS (Or.inl (List.mem_of_getElem? (i := 0) rfl)) all0)), Or.inr szb439, ⟨E439q, FR439, FF439, by rw [hsz]; exact FS439, VB439, OB439, ge_a, geb439, by unfold own_B; decide, by rw [hcs]; exact own_rg30, own_cellsK (a := a) (r := r) (k := k) (m := mm) (vs := vs) hC K439q (fun p hp => ninS (Exa.ne (hC p hp).1 E_a (by decide)) nin0)⟩, by rw [hcl]; decide, K440⟩
      · skip
        have hcl : cs.length = 3 := by
          have q := own_len cs.length mm hc428 hlen
          rw [hm] at q
          exact Int.ofNat.inj q
        have hR' : own_Ring vs 3 2 cs := by
          have q := hR
          rw [hm, hf] at q
          exact q
        obtain ⟨p0, p1, p2, hcs, hvs⟩ := own_lit32 hR' hcl
        have hsz : (Int32.ofNat cs.length) = (3 : Int32) := by rw [hc428, hm]
        have V_r' := V_r
        rw [hm, hvs] at V_r'
        have F_f' := F_front
        rw [hf] at F_f'
        have F_s' := F_size
        rw [hsz] at F_s'
        have Ec0 := (hC p0 (by rw [hcs]; simp)).1
        have Ec1 := (hC p1 (by rw [hcs]; simp)).1
        have Ec2 := (hC p2 (by rw [hcs]; simp)).1
        obtain ⟨cq441, q441, q441'⟩ := E_a.cell
        obtain ⟨v441, _, ⟨T441, L441, k441, n441⟩, -, X441, ⟨Lc441, hQ441, l441, y441, z441⟩, st441⟩ := X424.privateBack hx (y := (⟨"com/example/goalpost/goalpost/runtime/ListValue", "grow", "()V"⟩ : MethodName)) hown (mvT hZ (hW 62 _ rfl)) (mvT hZ (hW 63 _ rfl)) (mvT hZ (own_sel hW)) (Cond.privateMethod_at (mvP hZ (hW 64 _ rfl) (args := #[]))) (mvT hZ (hW 65 _ rfl)) (by decide) (backOf (W := 0) (rmGR32 l Z a0 hw [] a r k p0.1 p1.1 p2.1 h0 n0 Z0 F_ring F_f' F_s' E_a ge_a V_r' Ec0 Ec1 Ec2) hZ (hW 65 _ rfl) (hW 16 _ rfl) (by decide) (by decide)) (g := (mkF m 13 #[.val (.ref a), .val (.ref x)] [(.ref a)])) rfl (by rw [hml]; rfl) (Steps.refl _) (a := a) (by rw [e424]; exact q441) q441' (argsL := []) (rest := []) (lenOf pd_26 rfl) rfl (by show 2 * 0 + _ ≤ _; exact Nat.le_of_eq rfl) (hb hby d_prog_46_method_5_13) (fun _ _ => ⟨rfl, e424, (by decide : 0 + 1 ≤ _), (by decide : 0 + 6 ≤ _)⟩)
        dsimp only [Pt.U, Pt.locs, Pt.cells, Pt.slots] at X441 l441 y441 z441 st441 hQ441
        subst l441 y441 z441
        obtain ⟨rfl, N441q, K441q, E441q, b441, k2441, szb441, geb441, FR441, FF441, FS441, VB441, OB441⟩ := hQ441
        have N441 := Fr.app N0 N441q
        have K442 : Go p e below T441 (mkF m 16 #[.val (.ref a), .val (.ref x)] []) G := fun tq kq => K430 tq (st441.trans kq)
        refine ⟨T441, T441.heap, _, b441, k2441, (6 : Int32), (0 : Int32), _, X441.more (by decide) (by decide), rfl, N441, (Nat.le_trans Z0 K441q.1), ((Keep.refl h0 [a, r]).trans K441q (allS (Or.inl (List.mem_of_getElem? (i := 0) rfl)) all0)), Or.inr szb441, ⟨E441q, FR441, FF441, by rw [hsz]; exact FS441, VB441, OB441, ge_a, geb441, by unfold own_B; decide, by rw [hcs]; exact own_rg30, own_cellsK (a := a) (r := r) (k := k) (m := mm) (vs := vs) hC K441q (fun p hp => ninS (Exa.ne (hC p hp).1 E_a (by decide)) nin0)⟩, by rw [hcl]; decide, K442⟩
    · skip
      have K443 : Go p e below T424 (mkF m 16 #[.val (.ref a), .val (.ref x)] []) G := fun tq kq => K427 tq (XS.icmpYes X424.here hx rfl (pc0 := 9) (pc' := 16) rfl (hb hby d_prog_46_method_5_9) rfl ((feq hc428).2) (by decide) (by decide) kq)
      refine ⟨T424, h0, _, r, k, mm, f, vs, X424.more (by decide) (by decide), e424, N0, Z0, Keep.refl h0 _, Or.inl rfl, ⟨E_a, F_ring, F_front, F_size, V_r, O_r, ge_a, ge_r, hB, hR, hC⟩, own_ltm cs.length mm (by have q := hB.1; omega) hR.2.2.1 (by omega) hc428, K443⟩
  obtain ⟨E2, F2r, F2f, F2s, V2, O2, -, ge_rj, B2, R2, C2⟩ := Dj
  obtain ⟨b1, b2, b3, b4⟩ := B2
  have ne2 : a ≠ rj := Exa.neArv E2 V2 (hW 15 _ rfl)
  have cmj := own_nat mj (by omega)
  have hmj0 : mj ≠ 0 := by
    intro q
    rw [q, own_I0] at b1
    omega
  have hx1 := own_ix (fj + (Int32.ofNat cs.length)) mj _ (own_fn fj cs.length b3 (by omega) (by omega)) b1
  have K444 : Go p e below Tj (mkF m 17 #[.val (.ref a), .val (.ref x)] [(.ref a)]) G := fun tq kq => Kj419 tq (XS.aloadN Xj.here hx rfl (hb hby d_prog_46_method_5_16) rfl rfl kq)
  obtain ⟨T445, X445, e445, st445⟩ := getF Xj hx hZ hown (host := "") (Or.inl (hW 36 _ rfl)) Via.refl ej F2r (g := (mkF m 17 #[.val (.ref a), .val (.ref x)] [(.ref a)])) rfl rfl (hb hby d_prog_46_method_5_17)
  have K446 : Go p e below T445 (mkF m 20 #[.val (.ref a), .val (.ref x)] [(.ref rj)]) G := fun tq kq => K444 tq (st445 tq kq)
  have K447 : Go p e below T445 (mkF m 21 #[.val (.ref a), .val (.ref x)] [(.ref a), (.ref rj)]) G := fun tq kq => K446 tq (XS.aloadN X445.here hx rfl (hb hby d_prog_46_method_5_20) rfl rfl kq)
  obtain ⟨T448, X448, e448, st448⟩ := getF X445 hx hZ hown (host := "") (Or.inl (hW 45 _ rfl)) Via.refl e445 F2f (g := (mkF m 21 #[.val (.ref a), .val (.ref x)] [(.ref a), (.ref rj)])) rfl rfl (hb hby d_prog_46_method_5_21)
  have K449 : Go p e below T448 (mkF m 24 #[.val (.ref a), .val (.ref x)] [(.int fj), (.ref rj)]) G := fun tq kq => K447 tq (st448 tq kq)
  have K450 : Go p e below T448 (mkF m 25 #[.val (.ref a), .val (.ref x)] [(.ref a), (.int fj), (.ref rj)]) G := fun tq kq => K449 tq (XS.aloadN X448.here hx rfl (hb hby d_prog_46_method_5_24) rfl rfl kq)
  obtain ⟨T451, X451, e451, st451⟩ := getF X448 hx hZ hown (host := "") (Or.inl (hW 43 _ rfl)) Via.refl e448 F2s (g := (mkF m 25 #[.val (.ref a), .val (.ref x)] [(.ref a), (.int fj), (.ref rj)])) rfl rfl (hb hby d_prog_46_method_5_25)
  have K452 : Go p e below T451 (mkF m 28 #[.val (.ref a), .val (.ref x)] [(.int (Int32.ofNat cs.length)), (.int fj), (.ref rj)]) G := fun tq kq => K450 tq (st451 tq kq)
  have K453 : Go p e below T451 (mkF m 29 #[.val (.ref a), .val (.ref x)] [(.int (fj + (Int32.ofNat cs.length))), (.ref rj)]) G := fun tq kq => K452 tq (XS.iadd X451.here hx rfl (hb hby d_prog_46_method_5_28) rfl kq)
  have K454 : Go p e below T451 (mkF m 30 #[.val (.ref a), .val (.ref x)] [(.ref a), (.int (fj + (Int32.ofNat cs.length))), (.ref rj)]) G := fun tq kq => K453 tq (XS.aloadN X451.here hx rfl (hb hby d_prog_46_method_5_29) rfl rfl kq)
  obtain ⟨T455, X455, e455, st455⟩ := getF X451 hx hZ hown (host := "") (Or.inl (hW 36 _ rfl)) Via.refl e451 F2r (g := (mkF m 30 #[.val (.ref a), .val (.ref x)] [(.ref a), (.int (fj + (Int32.ofNat cs.length))), (.ref rj)])) rfl rfl (hb hby d_prog_46_method_5_30)
  have K456 : Go p e below T455 (mkF m 33 #[.val (.ref a), .val (.ref x)] [(.ref rj), (.int (fj + (Int32.ofNat cs.length))), (.ref rj)]) G := fun tq kq => K454 tq (st455 tq kq)
  obtain ⟨cl457, Ar457, q457, S457, Nn457, Hh457, Gg457⟩ := id V2
  have K458 : Go p e below T455 (mkF m 34 #[.val (.ref a), .val (.ref x)] [(.int mj), (.int (fj + (Int32.ofNat cs.length))), (.ref rj)]) G := fun tq kq => K456 tq (X455.arraylength hx (by rw [e455]; exact Ar457.1) (State.isArrayOf_alike hZ.alike Ar457.2.1) (g := (mkF m 33 #[.val (.ref a), .val (.ref x)] [(.ref rj), (.int (fj + (Int32.ofNat cs.length))), (.ref rj)])) rfl rfl (hb hby d_prog_46_method_5_33) _ (by rw [len_of S457 Nn457]; exact kq))
  have K459 : Go p e below T455 (mkF m 35 #[.val (.ref a), .val (.ref x)] [(.int ((fj + (Int32.ofNat cs.length)) % mj)), (.ref rj)]) G := fun tq kq => K458 tq (iremM X455 hx rfl (hb hby d_prog_46_method_5_34) rfl hmj0 kq)
  obtain ⟨T460, h460, X460, e460, E460, A460, D460, -, st460⟩ := newO X455 hx hZ hown (hW 34 _ rfl) (hW 47 _ rfl) (hW 48 _ rfl) e455 (g := (mkF m 35 #[.val (.ref a), .val (.ref x)] [(.int ((fj + (Int32.ofNat cs.length)) % mj)), (.ref rj)])) rfl (hb hby d_prog_46_method_5_35) (by decide) (by decide)
  obtain ⟨b460, g460⟩ : ∃ z, z = hj.size := ⟨_, rfl⟩
  rw [← g460] at A460 D460 st460
  have ne460_a : a ≠ b460 := Nat.ne_of_lt (Nat.lt_of_lt_of_le E2.lt (Nat.le_of_eq g460.symm))
  have ne460_rj : rj ≠ b460 := Nat.ne_of_lt (Nat.lt_of_lt_of_le V2.lt (Nat.le_of_eq g460.symm))
  have ge_b460 : n0 ≤ b460 := Nat.le_trans Zj (Nat.le_of_eq g460.symm)
  have sz_b460 : hj.size ≤ b460 := Nat.le_trans ((Keep.refl hj [a, rj])).1 (Nat.le_of_eq g460.symm)
  have F460_value : Fld Z h460 b460 "com/example/goalpost/goalpost/runtime/Cell" "value" "Ljava/lang/Object;" .null := D460 (Or.inl (hW 59 _ rfl)) (ty := (.object "java/lang/Object")) (by decide)
  have K461 : Go p e below T460 (mkF m 38 #[.val (.ref a), .val (.ref x)] [(.ref b460), (.int ((fj + (Int32.ofNat cs.length)) % mj)), (.ref rj)]) G := fun tq kq => K459 tq (st460 tq kq)
  have K462 : Go p e below T460 (mkF m 39 #[.val (.ref a), .val (.ref x)] [(.ref b460), (.ref b460), (.int ((fj + (Int32.ofNat cs.length)) % mj)), (.ref rj)]) G := fun tq kq => K461 tq (XS.dup X460.here hx rfl (hb hby d_prog_46_method_5_38) rfl rfl kq)
  have K463 : Go p e below T460 (mkF m 40 #[.val (.ref a), .val (.ref x)] [(.ref x), (.ref b460), (.ref b460), (.int ((fj + (Int32.ofNat cs.length)) % mj)), (.ref rj)]) G := fun tq kq => K462 tq (XS.aloadN X460.here hx rfl (hb hby d_prog_46_method_5_39) rfl rfl kq)
  obtain ⟨v464, _, ⟨T464, L464, k464, n464⟩, -, X464, ⟨Lc464, hQ464, l464, y464, z464⟩, st464⟩ := X460.specialBack hx (y := (⟨"com/example/goalpost/goalpost/runtime/Cell", "<init>", "(Ljava/lang/Object;)V"⟩ : MethodName)) rfl hown (mvT hZ (hW 49 _ rfl)) (mvT hZ (hW 50 _ rfl)) (mvT hZ (hW 51 _ rfl)) (by decide) (backOf (W := 3) (rmCI l Z a0 hw [] b460 x h460 n0 (Nat.le_trans Zj E460.1) F460_value A460 ge_b460) hZ (hW 51 _ rfl) (hW 48 _ rfl) (by decide) (by decide)) (g := (mkF m 40 #[.val (.ref a), .val (.ref x)] [(.ref x), (.ref b460), (.ref b460), (.int ((fj + (Int32.ofNat cs.length)) % mj)), (.ref rj)])) rfl (by rw [hml]; rfl) (Steps.refl _) (a := b460) (argsL := [(.ref x)]) (rest := [(.ref b460), (.int ((fj + (Int32.ofNat cs.length)) % mj)), (.ref rj)]) (lenOf pd_111 rfl) rfl (by show 2 * 0 + _ ≤ _; exact Nat.le_of_eq rfl) (hb hby d_prog_46_method_5_40) (fun _ _ => ⟨rfl, e460, (by decide : 2 + 0 ≤ _), (by decide : 7 + 0 ≤ _)⟩)
  dsimp only [Pt.U, Pt.locs, Pt.cells, Pt.slots] at X464 l464 y464 z464 st464 hQ464
  subst l464 y464 z464
  obtain ⟨rfl, N464q, K464q, E464q, F464q_value⟩ := hQ464
  have N464 := Fr.app Nj N464q
  have K465 : Go p e below T464 (mkF m 43 #[.val (.ref a), .val (.ref x)] [(.ref b460), (.int ((fj + (Int32.ofNat cs.length)) % mj)), (.ref rj)]) G := fun tq kq => K463 tq (st464.trans kq)
  obtain ⟨cl466, Ar466, q466, S466, Nn466, Hh466, Gg466⟩ := id ((V2.ext E460).keep K464q (ninS ne460_rj nin0))
  have hin466 : ¬ (((fj + (Int32.ofNat cs.length)) % mj) < 0 ∨ cl466.slots.size ≤ (((fj + (Int32.ofNat cs.length)) % mj)).toNatClampNeg) := inb_of S466 ⟨hx1.2.1, hx1.2.2.1⟩
  obtain ⟨T466, h466, X466, e466, W466, st466⟩ := stR X464 hx hZ rfl Ar466 (j := ((fj + (Int32.ofNat cs.length)) % mj)) hin466 rfl (Sto.ofV Ar466 q466 O2 (Ins.self E464q)) (g := (mkF m 43 #[.val (.ref a), .val (.ref x)] [(.ref b460), (.int ((fj + (Int32.ofNat cs.length)) % mj)), (.ref rj)])) rfl rfl (hb hby d_prog_46_method_5_43)
  have V466 : Arv Z h466 rj kj (.object "com/example/goalpost/goalpost/runtime/Cell") mj (vj.set ((fj.toNatClampNeg + cs.length) % mj.toNatClampNeg) (.ref b460)) .null := Arv.set Ar466 q466 S466 Nn466 Hh466 Gg466 rfl W466 ((fj.toNatClampNeg + cs.length) % mj.toNatClampNeg) hx1.1 (by rw [R2.1]; exact Nat.mod_lt _ (by omega))
  have N466 := Fr.snoc X466 N464 ge_rj
  have K467 : Go p e below T466 (mkF m 44 #[.val (.ref a), .val (.ref x)] []) G := fun tq kq => K465 tq (st466 tq kq)
  have K468 : Go p e below T466 (mkF m 45 #[.val (.ref a), .val (.ref x)] [(.ref a)]) G := fun tq kq => K467 tq (XS.aloadN X466.here hx rfl (hb hby d_prog_46_method_5_44) rfl rfl kq)
  have K469 : Go p e below T466 (mkF m 46 #[.val (.ref a), .val (.ref x)] [(.ref a), (.ref a)]) G := fun tq kq => K468 tq (XS.dup X466.here hx rfl (hb hby d_prog_46_method_5_45) rfl rfl kq)
  obtain ⟨T470, X470, e470, st470⟩ := getF X466 hx hZ hown (host := "") (Or.inl (hW 43 _ rfl)) Via.refl e466 (((F2s.ext E460).keep K464q (ninS ne460_a nin0)).other W466 (Or.inl ne2)) (g := (mkF m 46 #[.val (.ref a), .val (.ref x)] [(.ref a), (.ref a)])) rfl rfl (hb hby d_prog_46_method_5_46)
  have K471 : Go p e below T470 (mkF m 49 #[.val (.ref a), .val (.ref x)] [(.int (Int32.ofNat cs.length)), (.ref a)]) G := fun tq kq => K469 tq (st470 tq kq)
  have K472 : Go p e below T470 (mkF m 50 #[.val (.ref a), .val (.ref x)] [(.int (1 : Int32)), (.int (Int32.ofNat cs.length)), (.ref a)]) G := fun tq kq => K471 tq (XS.iconst X470.here hx rfl (hb hby d_prog_46_method_5_49) kq)
  have K473 : Go p e below T470 (mkF m 51 #[.val (.ref a), .val (.ref x)] [(.int ((Int32.ofNat cs.length) + (1 : Int32))), (.ref a)]) G := fun tq kq => K472 tq (XS.iadd X470.here hx rfl (hb hby d_prog_46_method_5_50) rfl kq)
  obtain ⟨T474, h474, X474, e474, W474, st474⟩ := putF X470 hx hZ hown (host := "") (Or.inl (hW 43 _ rfl)) Via.refl e470 (((F2s.ext E460).keep K464q (ninS ne460_a nin0)).other W466 (Or.inl ne2)) (((E2.ext E460).keep K464q).wr W466) (Or.inl (hW 44 _ rfl)) (hW 15 _ rfl) (ty := .int) (by decide) rfl rfl (g := (mkF m 51 #[.val (.ref a), .val (.ref x)] [(.int ((Int32.ofNat cs.length) + (1 : Int32))), (.ref a)])) rfl rfl (hb hby d_prog_46_method_5_51)
  have N474 := Fr.snoc X474 N466 ge_a
  have F474 := Fld.same W474 (((F2s.ext E460).keep K464q (ninS ne460_a nin0)).other W466 (Or.inl ne2))
  have K475 : Go p e below T474 (mkF m 54 #[.val (.ref a), .val (.ref x)] []) G := fun tq kq => K473 tq (st474 tq kq)
  have hs1 : (Int32.ofNat cs.length) + (1 : Int32) = Int32.ofNat (cs ++ [(b460, x)]).length := by rw [own_up1 cs.length (by omega)]; exact congrArg Int32.ofNat (by simp)
  have KK := Kj.trans (((((Keep.refl hj [a, rj]).ext E460).trans K464q (allS (Or.inr sz_b460) all0)).wr W466 (Or.inl (List.mem_of_getElem? (i := 1) rfl))).wr W474 (Or.inl (List.mem_of_getElem? (i := 0) rfl))) (allS (Or.inl (List.mem_of_getElem? (i := 0) rfl)) (allS (hrj.imp (fun q => by rw [q]; exact List.mem_of_getElem? (i := 1) rfl) id) all0))
  have FSn := F474
  rw [hs1] at FSn
  obtain ⟨fs, hr, hrun, hended, hWW, hsame⟩ := X474.leave (v := none) (fun _ => rfl)
  refine ⟨_, _, hG _ (K475 _ (X474.returnOut hx Bd.returns (hb hby d_prog_46_method_5_54) hr)), hrun, hended, _, _, rfl, ?_, ⟨_, rfl⟩, hWW, hsame.mono (by decide) (by decide)⟩
  show QPU Z a x r k mm f vs cs h0 n0 _ T474.heap _
  rw [e474]
  exact ⟨rfl, N474, KK, rj, kj, mj, fj, _, b460, hrj, ⟨((((E2.ext E460).keep K464q).wr W466).wr W474), ((((F2r.ext E460).keep K464q (ninS ne460_a nin0)).other W466 (Or.inl ne2)).other W474 (Or.inr (slot_ne (Or.inl (hW 37 _ rfl)) (Or.inl (hW 44 _ rfl)) (by decide) (t := (.array (.object "com/example/goalpost/goalpost/runtime/Cell"))) (t' := .int) (by decide) (by decide)))), ((((F2f.ext E460).keep K464q (ninS ne460_a nin0)).other W466 (Or.inl ne2)).other W474 (Or.inr (slot_ne (Or.inl (hW 46 _ rfl)) (Or.inl (hW 44 _ rfl)) (by decide) (t := .int) (t' := .int) (by decide) (by decide)))), FSn, (V466.other W474 (Ne.symm ne2)), O2, ge_a, ge_rj, ⟨b1, b2, b3, b4⟩, own_ringPut b460 x R2 hlt, own_cellsA (own_cellsK (a := a) (r := r) (k := k) (m := mm) (vs := vs) C2 (((((Keep.refl hj [a, rj]).ext E460).trans K464q (allS (Or.inr sz_b460) all0)).wr W466 (Or.inl (List.mem_of_getElem? (i := 1) rfl))).wr W474 (Or.inl (List.mem_of_getElem? (i := 0) rfl))) (fun p hp => ninS (Exa.ne (C2 p hp).1 E2 (by decide)) (ninS (Exa.neArv (C2 p hp).1 V2 (hW 47 _ rfl)) nin0))) ((E464q.wr W466).wr W474) ((F464q_value.other W466 (Or.inl (Ne.symm ne460_rj))).other W474 (Or.inl (Ne.symm ne460_a)))⟩⟩
theorem ef_prog_46_method_6_RR (m : MethodId) (x0 : Addr) (x1 : Addr) : entryFrame m #[(.ref x0), (.ref x1)] 2 = mkF m 0 #[.val (.ref x0), .val (.ref x1)] [] := by first | (simp [entryFrame, mkF, argsToLocals, Value.category]; done) | rfl
theorem d_prog_46_method_6_0 : decode prog_46_method_6_code 0 = .ok (.aload_n 0, 1) := by decide +kernel
theorem d_prog_46_method_6_1 : decode prog_46_method_6_code 1 = .ok (.getfield 21, 3) := by decide +kernel
theorem d_prog_46_method_6_4 : decode prog_46_method_6_code 4 = .ok (.aload_n 0, 1) := by decide +kernel
theorem d_prog_46_method_6_5 : decode prog_46_method_6_code 5 = .ok (.getfield 15, 3) := by decide +kernel
theorem d_prog_46_method_6_8 : decode prog_46_method_6_code 8 = .ok (.arraylength, 1) := by decide +kernel
theorem d_prog_46_method_6_9 : decode prog_46_method_6_code 9 = .ok (.if_icmp .ne 7, 3) := by decide +kernel
theorem d_prog_46_method_6_12 : decode prog_46_method_6_code 12 = .ok (.aload_n 0, 1) := by decide +kernel
theorem d_prog_46_method_6_13 : decode prog_46_method_6_code 13 = .ok (.invokevirtual 38, 3) := by decide +kernel
theorem d_prog_46_method_6_16 : decode prog_46_method_6_code 16 = .ok (.aload_n 0, 1) := by decide +kernel
theorem d_prog_46_method_6_17 : decode prog_46_method_6_code 17 = .ok (.aload_n 0, 1) := by decide +kernel
theorem d_prog_46_method_6_18 : decode prog_46_method_6_code 18 = .ok (.getfield 25, 3) := by decide +kernel
theorem d_prog_46_method_6_21 : decode prog_46_method_6_code 21 = .ok (.aload_n 0, 1) := by decide +kernel
theorem d_prog_46_method_6_22 : decode prog_46_method_6_code 22 = .ok (.getfield 15, 3) := by decide +kernel
theorem d_prog_46_method_6_25 : decode prog_46_method_6_code 25 = .ok (.arraylength, 1) := by decide +kernel
theorem d_prog_46_method_6_26 : decode prog_46_method_6_code 26 = .ok (.iadd, 1) := by decide +kernel
theorem d_prog_46_method_6_27 : decode prog_46_method_6_code 27 = .ok (.iconst 1, 1) := by decide +kernel
theorem d_prog_46_method_6_28 : decode prog_46_method_6_code 28 = .ok (.isub, 1) := by decide +kernel
theorem d_prog_46_method_6_29 : decode prog_46_method_6_code 29 = .ok (.aload_n 0, 1) := by decide +kernel
theorem d_prog_46_method_6_30 : decode prog_46_method_6_code 30 = .ok (.getfield 15, 3) := by decide +kernel
theorem d_prog_46_method_6_33 : decode prog_46_method_6_code 33 = .ok (.arraylength, 1) := by decide +kernel
theorem d_prog_46_method_6_34 : decode prog_46_method_6_code 34 = .ok (.irem, 1) := by decide +kernel
theorem d_prog_46_method_6_35 : decode prog_46_method_6_code 35 = .ok (.putfield 25, 3) := by decide +kernel
theorem d_prog_46_method_6_38 : decode prog_46_method_6_code 38 = .ok (.aload_n 0, 1) := by decide +kernel
theorem d_prog_46_method_6_39 : decode prog_46_method_6_code 39 = .ok (.getfield 15, 3) := by decide +kernel
theorem d_prog_46_method_6_42 : decode prog_46_method_6_code 42 = .ok (.aload_n 0, 1) := by decide +kernel
theorem d_prog_46_method_6_43 : decode prog_46_method_6_code 43 = .ok (.getfield 25, 3) := by decide +kernel
theorem d_prog_46_method_6_46 : decode prog_46_method_6_code 46 = .ok (.new 13, 3) := by decide +kernel
theorem d_prog_46_method_6_49 : decode prog_46_method_6_code 49 = .ok (.dup, 1) := by decide +kernel
theorem d_prog_46_method_6_50 : decode prog_46_method_6_code 50 = .ok (.aload_n 1, 1) := by decide +kernel
theorem d_prog_46_method_6_51 : decode prog_46_method_6_code 51 = .ok (.invokespecial 42, 3) := by decide +kernel
theorem d_prog_46_method_6_54 : decode prog_46_method_6_code 54 = .ok (.aastore, 1) := by decide +kernel
theorem d_prog_46_method_6_55 : decode prog_46_method_6_code 55 = .ok (.aload_n 0, 1) := by decide +kernel
theorem d_prog_46_method_6_56 : decode prog_46_method_6_code 56 = .ok (.dup, 1) := by decide +kernel
theorem d_prog_46_method_6_57 : decode prog_46_method_6_code 57 = .ok (.getfield 21, 3) := by decide +kernel
theorem d_prog_46_method_6_60 : decode prog_46_method_6_code 60 = .ok (.iconst 1, 1) := by decide +kernel
theorem d_prog_46_method_6_61 : decode prog_46_method_6_code 61 = .ok (.iadd, 1) := by decide +kernel
theorem d_prog_46_method_6_62 : decode prog_46_method_6_code 62 = .ok (.putfield 21, 3) := by decide +kernel
theorem d_prog_46_method_6_65 : decode prog_46_method_6_code 65 = .ok (.return_, 1) := by decide +kernel
def QPS (Z : State) (a : Addr) (x : Addr) (r : Addr) (k : ClassId) (mm : Int32) (f : Int32) (vs : List Value) (cs : List (Addr × Addr)) (h0 : Heap) (n0 : Nat) (v : Option Value) (h : Heap) (L : List Loc) : Prop := v = none ∧ Fr n0 L ∧ Keep h0 h [a, r] ∧ ∃ (r2 : Addr) (k2 : ClassId) (m2 : Int32) (f2 : Int32) (v2 : List Value) (c : Addr), (r2 = r ∨ h0.size ≤ r2) ∧ own_Dq Z h n0 a r2 k2 m2 f2 v2 ((c, x) :: cs)
set_option maxRecDepth 65536 in
set_option maxHeartbeats 40000000 in
theorem rmPS (l : Launch) (Z : State) (a0 : Array Value) (hw : ∀ d ∈ tables_1, d.before a0 Z = true) (ws : List Jvm.Cond) (a : Addr) (x : Addr) (r : Addr) (k : ClassId) (mm : Int32) (f : Int32) (vs : List Value) (cs : List (Addr × Addr)) (h0 : Heap) (n0 : Nat) (Z0 : n0 ≤ h0.size) (D : own_Dq Z h0 n0 a r k mm f vs cs) (hlen : cs.length ≤ 3) :
    MetFree l (⟨"com/example/goalpost/goalpost/runtime/ListValue", "push", "(Ljava/lang/Object;)V"⟩ : MethodName) (head1 (Jvm.Cond.code (⟨"com/example/goalpost/goalpost/runtime/ListValue", "push", "(Ljava/lang/Object;)V"⟩ : MethodName) prog_46_method_6_code 2 none :: ws) ({ frames := 3, cells := 2, slots := 7, locals := 40 } : Room)) (fun aa UU => aa = #[(.ref a), (.ref x)] ∧ Z.Warmed39 UU.vm ∧ UU.heap = h0) (fun _ _ _ _ _ => True) (fun _ UU oo UU' => ∃ vv LL, oo = .returned vv ∧ QPS Z a x r k mm f vs cs h0 n0 vv UU'.heap LL ∧ FrameEnd UU oo UU' LL ({ frames := 3, cells := 2, slots := 7, locals := 40 } : Room).cells ({ frames := 3, cells := 2, slots := 7, locals := 40 } : Room).slots) := by
  refine MetFree.of_bodySF (plainFor_of_name pn_53) hisR ?_
  intro p e s m args below meth c s₁ Bd hml0 hP hK
  obtain ⟨rfl, hZ, hh⟩ := hP
  have hx := Bd.exec
  have hby := Bd.bytes
  have hml : c.maxLocals = 2 := hml0
  have hown : s.vm.findClass "com/example/goalpost/goalpost/runtime/ListValue" = some m.cls := findClass_of_methodNamed Bd.named
  have hnm := (name_of_methodNamed Bd.named Bd.method).1
  have hW : ∀ (k : Nat) (d : Jvm.Cond), tables_1[k]? = some d → d.before a0 Z = true := fun k d h => hw d (List.mem_of_getElem? h)
  have X0 : Stand p l e ({ frames := 3, cells := 2, slots := 7, locals := 40 } : Room) s m #[(.ref a), (.ref x)] below meth c s₁ [] 0 0 := Stand.of_body Bd
  have e0 : s₁.heap = h0 := by rw [← hh, Bd.state]; rfl
  have N0 := Fr.nil n0
  obtain ⟨G, hG, K0⟩ : ∃ G : State → Prop, (∀ tq, G tq → Steps p.tables e below (s₁.setTop (entryFrame m #[(.ref a), (.ref x)] 2)) tq) ∧ Go p e below s₁ (mkF m 0 #[.val (.ref a), .val (.ref x)] []) G := ⟨fun tq => Steps p.tables e below (s₁.setTop (entryFrame m #[(.ref a), (.ref x)] 2)) tq, fun _ h => h, fun tq kq => castTop (ef_prog_46_method_6_RR m a x) kq⟩
  obtain ⟨E_a, F_ring, F_front, F_size, V_r, O_r, ge_a, ge_r, hB, hR, hC⟩ := D
  have ne_ar : a ≠ r := Exa.neArv E_a V_r (hW 15 _ rfl)
  obtain ⟨Tj, hj, Lj, rj, kj, mj, fj, vj, Xj, ej, Nj, Zj, Kj, hrj, Dj, hlt, Kj476⟩ : ∃ (Tj : State) (hj : Heap) (Lj : List Loc) (rj : Addr) (kj : ClassId) (mj : Int32) (fj : Int32) (vj : List Value), Stand p l e ({ frames := 3, cells := 2, slots := 7, locals := 40 } : Room) s m #[(.ref a), (.ref x)] below meth c Tj Lj 1 6 ∧ Tj.heap = hj ∧ Fr n0 Lj ∧ n0 ≤ hj.size ∧ Keep h0 hj [a, r] ∧ (rj = r ∨ h0.size ≤ rj) ∧ own_Dq Z hj n0 a rj kj mj fj vj cs ∧ cs.length < mj.toNatClampNeg ∧ Go p e below Tj (mkF m 16 #[.val (.ref a), .val (.ref x)] []) G := by
    have K477 : Go p e below s₁ (mkF m 1 #[.val (.ref a), .val (.ref x)] [(.ref a)]) G := fun tq kq => K0 tq (XS.aloadN X0.here hx rfl (hb hby d_prog_46_method_6_0) rfl rfl kq)
    obtain ⟨T478, X478, e478, st478⟩ := getF X0 hx hZ hown (host := "") (Or.inl (hW 43 _ rfl)) Via.refl e0 F_size (g := (mkF m 1 #[.val (.ref a), .val (.ref x)] [(.ref a)])) rfl rfl (hb hby d_prog_46_method_6_1)
    have K479 : Go p e below T478 (mkF m 4 #[.val (.ref a), .val (.ref x)] [(.int (Int32.ofNat cs.length))]) G := fun tq kq => K477 tq (st478 tq kq)
    have K480 : Go p e below T478 (mkF m 5 #[.val (.ref a), .val (.ref x)] [(.ref a), (.int (Int32.ofNat cs.length))]) G := fun tq kq => K479 tq (XS.aloadN X478.here hx rfl (hb hby d_prog_46_method_6_4) rfl rfl kq)
    obtain ⟨T481, X481, e481, st481⟩ := getF X478 hx hZ hown (host := "") (Or.inl (hW 36 _ rfl)) Via.refl e478 F_ring (g := (mkF m 5 #[.val (.ref a), .val (.ref x)] [(.ref a), (.int (Int32.ofNat cs.length))])) rfl rfl (hb hby d_prog_46_method_6_5)
    have K482 : Go p e below T481 (mkF m 8 #[.val (.ref a), .val (.ref x)] [(.ref r), (.int (Int32.ofNat cs.length))]) G := fun tq kq => K480 tq (st481 tq kq)
    obtain ⟨cl483, Ar483, q483, S483, Nn483, Hh483, Gg483⟩ := id V_r
    have K484 : Go p e below T481 (mkF m 9 #[.val (.ref a), .val (.ref x)] [(.int mm), (.int (Int32.ofNat cs.length))]) G := fun tq kq => K482 tq (X481.arraylength hx (by rw [e481]; exact Ar483.1) (State.isArrayOf_alike hZ.alike Ar483.2.1) (g := (mkF m 8 #[.val (.ref a), .val (.ref x)] [(.ref r), (.int (Int32.ofNat cs.length))])) rfl rfl (hb hby d_prog_46_method_6_8) _ (by rw [len_of S483 Nn483]; exact kq))
    by_cases hc485 : (Int32.ofNat cs.length) = mm
    · skip
      have K486 : Go p e below T481 (mkF m 12 #[.val (.ref a), .val (.ref x)] []) G := fun tq kq => K484 tq (XS.icmpNo X481.here hx rfl (hb hby d_prog_46_method_6_9) rfl ((teq hc485).2) kq)
      have K487 : Go p e below T481 (mkF m 13 #[.val (.ref a), .val (.ref x)] [(.ref a)]) G := fun tq kq => K486 tq (XS.aloadN X481.here hx rfl (hb hby d_prog_46_method_6_12) rfl rfl kq)
      rcases own_six mm f cs.length hB hc485 hlen with ⟨hm, hf⟩ | ⟨hm, hf⟩ | ⟨hm, hf⟩ | ⟨hm, hf⟩ | ⟨hm, hf⟩ | ⟨hm, hf⟩
      · skip
        have hcl : cs.length = 1 := by
          have q := own_len cs.length mm hc485 hlen
          rw [hm] at q
          exact Int.ofNat.inj q
        have hR' : own_Ring vs 1 0 cs := by
          have q := hR
          rw [hm, hf] at q
          exact q
        obtain ⟨p0, hcs, hvs⟩ := own_lit10 hR' hcl
        have hsz : (Int32.ofNat cs.length) = (1 : Int32) := by rw [hc485, hm]
        have V_r' := V_r
        rw [hm, hvs] at V_r'
        have F_f' := F_front
        rw [hf] at F_f'
        have F_s' := F_size
        rw [hsz] at F_s'
        have Ec0 := (hC p0 (by rw [hcs]; simp)).1
        obtain ⟨cq488, q488, q488'⟩ := E_a.cell
        obtain ⟨v488, _, ⟨T488, L488, k488, n488⟩, -, X488, ⟨Lc488, hQ488, l488, y488, z488⟩, st488⟩ := X481.privateBack hx (y := (⟨"com/example/goalpost/goalpost/runtime/ListValue", "grow", "()V"⟩ : MethodName)) hown (mvT hZ (hW 62 _ rfl)) (mvT hZ (hW 63 _ rfl)) (mvT hZ (own_sel hW)) (Cond.privateMethod_at (mvP hZ (hW 64 _ rfl) (args := #[]))) (mvT hZ (hW 65 _ rfl)) (by decide) (backOf (W := 0) (rmGR10 l Z a0 hw [] a r k p0.1 h0 n0 Z0 F_ring F_f' F_s' E_a ge_a V_r' Ec0) hZ (hW 65 _ rfl) (hW 16 _ rfl) (by decide) (by decide)) (g := (mkF m 13 #[.val (.ref a), .val (.ref x)] [(.ref a)])) rfl (by rw [hml]; rfl) (Steps.refl _) (a := a) (by rw [e481]; exact q488) q488' (argsL := []) (rest := []) (lenOf pd_26 rfl) rfl (by show 2 * 0 + _ ≤ _; exact Nat.le_of_eq rfl) (hb hby d_prog_46_method_6_13) (fun _ _ => ⟨rfl, e481, (by decide : 0 + 1 ≤ _), (by decide : 0 + 2 ≤ _)⟩)
        dsimp only [Pt.U, Pt.locs, Pt.cells, Pt.slots] at X488 l488 y488 z488 st488 hQ488
        subst l488 y488 z488
        obtain ⟨rfl, N488q, K488q, E488q, b488, k2488, szb488, geb488, FR488, FF488, FS488, VB488, OB488⟩ := hQ488
        have N488 := Fr.app N0 N488q
        have K489 : Go p e below T488 (mkF m 16 #[.val (.ref a), .val (.ref x)] []) G := fun tq kq => K487 tq (st488.trans kq)
        refine ⟨T488, T488.heap, _, b488, k2488, (2 : Int32), (0 : Int32), _, X488.more (by decide) (by decide), rfl, N488, (Nat.le_trans Z0 K488q.1), ((Keep.refl h0 [a, r]).trans K488q (allS (Or.inl (List.mem_of_getElem? (i := 0) rfl)) all0)), Or.inr szb488, ⟨E488q, FR488, FF488, by rw [hsz]; exact FS488, VB488, OB488, ge_a, geb488, by unfold own_B; decide, by rw [hcs]; exact own_rg10, own_cellsK (a := a) (r := r) (k := k) (m := mm) (vs := vs) hC K488q (fun p hp => ninS (Exa.ne (hC p hp).1 E_a (by decide)) nin0)⟩, by rw [hcl]; decide, K489⟩
      · skip
        have hcl : cs.length = 2 := by
          have q := own_len cs.length mm hc485 hlen
          rw [hm] at q
          exact Int.ofNat.inj q
        have hR' : own_Ring vs 2 0 cs := by
          have q := hR
          rw [hm, hf] at q
          exact q
        obtain ⟨p0, p1, hcs, hvs⟩ := own_lit20 hR' hcl
        have hsz : (Int32.ofNat cs.length) = (2 : Int32) := by rw [hc485, hm]
        have V_r' := V_r
        rw [hm, hvs] at V_r'
        have F_f' := F_front
        rw [hf] at F_f'
        have F_s' := F_size
        rw [hsz] at F_s'
        have Ec0 := (hC p0 (by rw [hcs]; simp)).1
        have Ec1 := (hC p1 (by rw [hcs]; simp)).1
        obtain ⟨cq490, q490, q490'⟩ := E_a.cell
        obtain ⟨v490, _, ⟨T490, L490, k490, n490⟩, -, X490, ⟨Lc490, hQ490, l490, y490, z490⟩, st490⟩ := X481.privateBack hx (y := (⟨"com/example/goalpost/goalpost/runtime/ListValue", "grow", "()V"⟩ : MethodName)) hown (mvT hZ (hW 62 _ rfl)) (mvT hZ (hW 63 _ rfl)) (mvT hZ (own_sel hW)) (Cond.privateMethod_at (mvP hZ (hW 64 _ rfl) (args := #[]))) (mvT hZ (hW 65 _ rfl)) (by decide) (backOf (W := 0) (rmGR20 l Z a0 hw [] a r k p0.1 p1.1 h0 n0 Z0 F_ring F_f' F_s' E_a ge_a V_r' Ec0 Ec1) hZ (hW 65 _ rfl) (hW 16 _ rfl) (by decide) (by decide)) (g := (mkF m 13 #[.val (.ref a), .val (.ref x)] [(.ref a)])) rfl (by rw [hml]; rfl) (Steps.refl _) (a := a) (by rw [e481]; exact q490) q490' (argsL := []) (rest := []) (lenOf pd_26 rfl) rfl (by show 2 * 0 + _ ≤ _; exact Nat.le_of_eq rfl) (hb hby d_prog_46_method_6_13) (fun _ _ => ⟨rfl, e481, (by decide : 0 + 1 ≤ _), (by decide : 0 + 4 ≤ _)⟩)
        dsimp only [Pt.U, Pt.locs, Pt.cells, Pt.slots] at X490 l490 y490 z490 st490 hQ490
        subst l490 y490 z490
        obtain ⟨rfl, N490q, K490q, E490q, b490, k2490, szb490, geb490, FR490, FF490, FS490, VB490, OB490⟩ := hQ490
        have N490 := Fr.app N0 N490q
        have K491 : Go p e below T490 (mkF m 16 #[.val (.ref a), .val (.ref x)] []) G := fun tq kq => K487 tq (st490.trans kq)
        refine ⟨T490, T490.heap, _, b490, k2490, (4 : Int32), (0 : Int32), _, X490.more (by decide) (by decide), rfl, N490, (Nat.le_trans Z0 K490q.1), ((Keep.refl h0 [a, r]).trans K490q (allS (Or.inl (List.mem_of_getElem? (i := 0) rfl)) all0)), Or.inr szb490, ⟨E490q, FR490, FF490, by rw [hsz]; exact FS490, VB490, OB490, ge_a, geb490, by unfold own_B; decide, by rw [hcs]; exact own_rg20, own_cellsK (a := a) (r := r) (k := k) (m := mm) (vs := vs) hC K490q (fun p hp => ninS (Exa.ne (hC p hp).1 E_a (by decide)) nin0)⟩, by rw [hcl]; decide, K491⟩
      · skip
        have hcl : cs.length = 2 := by
          have q := own_len cs.length mm hc485 hlen
          rw [hm] at q
          exact Int.ofNat.inj q
        have hR' : own_Ring vs 2 1 cs := by
          have q := hR
          rw [hm, hf] at q
          exact q
        obtain ⟨p0, p1, hcs, hvs⟩ := own_lit21 hR' hcl
        have hsz : (Int32.ofNat cs.length) = (2 : Int32) := by rw [hc485, hm]
        have V_r' := V_r
        rw [hm, hvs] at V_r'
        have F_f' := F_front
        rw [hf] at F_f'
        have F_s' := F_size
        rw [hsz] at F_s'
        have Ec0 := (hC p0 (by rw [hcs]; simp)).1
        have Ec1 := (hC p1 (by rw [hcs]; simp)).1
        obtain ⟨cq492, q492, q492'⟩ := E_a.cell
        obtain ⟨v492, _, ⟨T492, L492, k492, n492⟩, -, X492, ⟨Lc492, hQ492, l492, y492, z492⟩, st492⟩ := X481.privateBack hx (y := (⟨"com/example/goalpost/goalpost/runtime/ListValue", "grow", "()V"⟩ : MethodName)) hown (mvT hZ (hW 62 _ rfl)) (mvT hZ (hW 63 _ rfl)) (mvT hZ (own_sel hW)) (Cond.privateMethod_at (mvP hZ (hW 64 _ rfl) (args := #[]))) (mvT hZ (hW 65 _ rfl)) (by decide) (backOf (W := 0) (rmGR21 l Z a0 hw [] a r k p0.1 p1.1 h0 n0 Z0 F_ring F_f' F_s' E_a ge_a V_r' Ec0 Ec1) hZ (hW 65 _ rfl) (hW 16 _ rfl) (by decide) (by decide)) (g := (mkF m 13 #[.val (.ref a), .val (.ref x)] [(.ref a)])) rfl (by rw [hml]; rfl) (Steps.refl _) (a := a) (by rw [e481]; exact q492) q492' (argsL := []) (rest := []) (lenOf pd_26 rfl) rfl (by show 2 * 0 + _ ≤ _; exact Nat.le_of_eq rfl) (hb hby d_prog_46_method_6_13) (fun _ _ => ⟨rfl, e481, (by decide : 0 + 1 ≤ _), (by decide : 0 + 4 ≤ _)⟩)
        dsimp only [Pt.U, Pt.locs, Pt.cells, Pt.slots] at X492 l492 y492 z492 st492 hQ492
        subst l492 y492 z492
        obtain ⟨rfl, N492q, K492q, E492q, b492, k2492, szb492, geb492, FR492, FF492, FS492, VB492, OB492⟩ := hQ492
        have N492 := Fr.app N0 N492q
        have K493 : Go p e below T492 (mkF m 16 #[.val (.ref a), .val (.ref x)] []) G := fun tq kq => K487 tq (st492.trans kq)
        refine ⟨T492, T492.heap, _, b492, k2492, (4 : Int32), (0 : Int32), _, X492.more (by decide) (by decide), rfl, N492, (Nat.le_trans Z0 K492q.1), ((Keep.refl h0 [a, r]).trans K492q (allS (Or.inl (List.mem_of_getElem? (i := 0) rfl)) all0)), Or.inr szb492, ⟨E492q, FR492, FF492, by rw [hsz]; exact FS492, VB492, OB492, ge_a, geb492, by unfold own_B; decide, by rw [hcs]; exact own_rg20, own_cellsK (a := a) (r := r) (k := k) (m := mm) (vs := vs) hC K492q (fun p hp => ninS (Exa.ne (hC p hp).1 E_a (by decide)) nin0)⟩, by rw [hcl]; decide, K493⟩
      · skip
        have hcl : cs.length = 3 := by
          have q := own_len cs.length mm hc485 hlen
          rw [hm] at q
          exact Int.ofNat.inj q
        have hR' : own_Ring vs 3 0 cs := by
          have q := hR
          rw [hm, hf] at q
          exact q
        obtain ⟨p0, p1, p2, hcs, hvs⟩ := own_lit30 hR' hcl
        have hsz : (Int32.ofNat cs.length) = (3 : Int32) := by rw [hc485, hm]
        have V_r' := V_r
        rw [hm, hvs] at V_r'
        have F_f' := F_front
        rw [hf] at F_f'
        have F_s' := F_size
        rw [hsz] at F_s'
        have Ec0 := (hC p0 (by rw [hcs]; simp)).1
        have Ec1 := (hC p1 (by rw [hcs]; simp)).1
        have Ec2 := (hC p2 (by rw [hcs]; simp)).1
        obtain ⟨cq494, q494, q494'⟩ := E_a.cell
        obtain ⟨v494, _, ⟨T494, L494, k494, n494⟩, -, X494, ⟨Lc494, hQ494, l494, y494, z494⟩, st494⟩ := X481.privateBack hx (y := (⟨"com/example/goalpost/goalpost/runtime/ListValue", "grow", "()V"⟩ : MethodName)) hown (mvT hZ (hW 62 _ rfl)) (mvT hZ (hW 63 _ rfl)) (mvT hZ (own_sel hW)) (Cond.privateMethod_at (mvP hZ (hW 64 _ rfl) (args := #[]))) (mvT hZ (hW 65 _ rfl)) (by decide) (backOf (W := 0) (rmGR30 l Z a0 hw [] a r k p0.1 p1.1 p2.1 h0 n0 Z0 F_ring F_f' F_s' E_a ge_a V_r' Ec0 Ec1 Ec2) hZ (hW 65 _ rfl) (hW 16 _ rfl) (by decide) (by decide)) (g := (mkF m 13 #[.val (.ref a), .val (.ref x)] [(.ref a)])) rfl (by rw [hml]; rfl) (Steps.refl _) (a := a) (by rw [e481]; exact q494) q494' (argsL := []) (rest := []) (lenOf pd_26 rfl) rfl (by show 2 * 0 + _ ≤ _; exact Nat.le_of_eq rfl) (hb hby d_prog_46_method_6_13) (fun _ _ => ⟨rfl, e481, (by decide : 0 + 1 ≤ _), (by decide : 0 + 6 ≤ _)⟩)
        dsimp only [Pt.U, Pt.locs, Pt.cells, Pt.slots] at X494 l494 y494 z494 st494 hQ494
        subst l494 y494 z494
        obtain ⟨rfl, N494q, K494q, E494q, b494, k2494, szb494, geb494, FR494, FF494, FS494, VB494, OB494⟩ := hQ494
        have N494 := Fr.app N0 N494q
        have K495 : Go p e below T494 (mkF m 16 #[.val (.ref a), .val (.ref x)] []) G := fun tq kq => K487 tq (st494.trans kq)
        refine ⟨T494, T494.heap, _, b494, k2494, (6 : Int32), (0 : Int32), _, X494.more (by decide) (by decide), rfl, N494, (Nat.le_trans Z0 K494q.1), ((Keep.refl h0 [a, r]).trans K494q (allS (Or.inl (List.mem_of_getElem? (i := 0) rfl)) all0)), Or.inr szb494, ⟨E494q, FR494, FF494, by rw [hsz]; exact FS494, VB494, OB494, ge_a, geb494, by unfold own_B; decide, by rw [hcs]; exact own_rg30, own_cellsK (a := a) (r := r) (k := k) (m := mm) (vs := vs) hC K494q (fun p hp => ninS (Exa.ne (hC p hp).1 E_a (by decide)) nin0)⟩, by rw [hcl]; decide, K495⟩
      · skip
        have hcl : cs.length = 3 := by
          have q := own_len cs.length mm hc485 hlen
          rw [hm] at q
          exact Int.ofNat.inj q
        have hR' : own_Ring vs 3 1 cs := by
          have q := hR
          rw [hm, hf] at q
          exact q
        obtain ⟨p0, p1, p2, hcs, hvs⟩ := own_lit31 hR' hcl
        have hsz : (Int32.ofNat cs.length) = (3 : Int32) := by rw [hc485, hm]
        have V_r' := V_r
        rw [hm, hvs] at V_r'
        have F_f' := F_front
        rw [hf] at F_f'
        have F_s' := F_size
        rw [hsz] at F_s'
        have Ec0 := (hC p0 (by rw [hcs]; simp)).1
        have Ec1 := (hC p1 (by rw [hcs]; simp)).1
        have Ec2 := (hC p2 (by rw [hcs]; simp)).1
        obtain ⟨cq496, q496, q496'⟩ := E_a.cell
        obtain ⟨v496, _, ⟨T496, L496, k496, n496⟩, -, X496, ⟨Lc496, hQ496, l496, y496, z496⟩, st496⟩ := X481.privateBack hx (y := (⟨"com/example/goalpost/goalpost/runtime/ListValue", "grow", "()V"⟩ : MethodName)) hown (mvT hZ (hW 62 _ rfl)) (mvT hZ (hW 63 _ rfl)) (mvT hZ (own_sel hW)) (Cond.privateMethod_at (mvP hZ (hW 64 _ rfl) (args := #[]))) (mvT hZ (hW 65 _ rfl)) (by decide) (backOf (W := 0) (rmGR31 l Z a0 hw [] a r k p0.1 p1.1 p2.1 h0 n0 Z0 F_ring F_f' F_s' E_a ge_a V_r' Ec0 Ec1 Ec2) hZ (hW 65 _ rfl) (hW 16 _ rfl) (by decide) (by decide)) (g := (mkF m 13 #[.val (.ref a), .val (.ref x)] [(.ref a)])) rfl (by rw [hml]; rfl) (Steps.refl _) (a := a) (by rw [e481]; exact q496) q496' (argsL := []) (rest := []) (lenOf pd_26 rfl) rfl (by show 2 * 0 + _ ≤ _; exact Nat.le_of_eq rfl) (hb hby d_prog_46_method_6_13) (fun _ _ => ⟨rfl, e481, (by decide : 0 + 1 ≤ _), (by decide : 0 + 6 ≤ _)⟩)
        dsimp only [Pt.U, Pt.locs, Pt.cells, Pt.slots] at X496 l496 y496 z496 st496 hQ496
        subst l496 y496 z496
        obtain ⟨rfl, N496q, K496q, E496q, b496, k2496, szb496, geb496, FR496, FF496, FS496, VB496, OB496⟩ := hQ496
        have N496 := Fr.app N0 N496q
        have K497 : Go p e below T496 (mkF m 16 #[.val (.ref a), .val (.ref x)] []) G := fun tq kq => K487 tq (st496.trans kq)
        refine ⟨T496, T496.heap, _, b496, k2496, (6 : Int32), (0 : Int32), _, X496.more (by decide) (by decide), rfl, N496, (Nat.le_trans Z0 K496q.1), ((Keep.refl h0 [a, r]).trans K496q (allS (Or.inl (List.mem_of_getElem? (i := 0) rfl)) all0)), Or.inr szb496, ⟨E496q, FR496, FF496, by rw [hsz]; exact FS496, VB496, OB496, ge_a, geb496, by unfold own_B; decide, by rw [hcs]; exact own_rg30, own_cellsK (a := a) (r := r) (k := k) (m := mm) (vs := vs) hC K496q (fun p hp => ninS (Exa.ne (hC p hp).1 E_a (by decide)) nin0)⟩, by rw [hcl]; decide, K497⟩
      · skip
        have hcl : cs.length = 3 := by
          have q := own_len cs.length mm hc485 hlen
          rw [hm] at q
          exact Int.ofNat.inj q
        have hR' : own_Ring vs 3 2 cs := by
          have q := hR
          rw [hm, hf] at q
          exact q
        obtain ⟨p0, p1, p2, hcs, hvs⟩ := own_lit32 hR' hcl
        have hsz : (Int32.ofNat cs.length) = (3 : Int32) := by rw [hc485, hm]
        have V_r' := V_r
        rw [hm, hvs] at V_r'
        have F_f' := F_front
        rw [hf] at F_f'
        have F_s' := F_size
        rw [hsz] at F_s'
        have Ec0 := (hC p0 (by rw [hcs]; simp)).1
        have Ec1 := (hC p1 (by rw [hcs]; simp)).1
        have Ec2 := (hC p2 (by rw [hcs]; simp)).1
        obtain ⟨cq498, q498, q498'⟩ := E_a.cell
        obtain ⟨v498, _, ⟨T498, L498, k498, n498⟩, -, X498, ⟨Lc498, hQ498, l498, y498, z498⟩, st498⟩ := X481.privateBack hx (y := (⟨"com/example/goalpost/goalpost/runtime/ListValue", "grow", "()V"⟩ : MethodName)) hown (mvT hZ (hW 62 _ rfl)) (mvT hZ (hW 63 _ rfl)) (mvT hZ (own_sel hW)) (Cond.privateMethod_at (mvP hZ (hW 64 _ rfl) (args := #[]))) (mvT hZ (hW 65 _ rfl)) (by decide) (backOf (W := 0) (rmGR32 l Z a0 hw [] a r k p0.1 p1.1 p2.1 h0 n0 Z0 F_ring F_f' F_s' E_a ge_a V_r' Ec0 Ec1 Ec2) hZ (hW 65 _ rfl) (hW 16 _ rfl) (by decide) (by decide)) (g := (mkF m 13 #[.val (.ref a), .val (.ref x)] [(.ref a)])) rfl (by rw [hml]; rfl) (Steps.refl _) (a := a) (by rw [e481]; exact q498) q498' (argsL := []) (rest := []) (lenOf pd_26 rfl) rfl (by show 2 * 0 + _ ≤ _; exact Nat.le_of_eq rfl) (hb hby d_prog_46_method_6_13) (fun _ _ => ⟨rfl, e481, (by decide : 0 + 1 ≤ _), (by decide : 0 + 6 ≤ _)⟩)
        dsimp only [Pt.U, Pt.locs, Pt.cells, Pt.slots] at X498 l498 y498 z498 st498 hQ498
        subst l498 y498 z498
        obtain ⟨rfl, N498q, K498q, E498q, b498, k2498, szb498, geb498, FR498, FF498, FS498, VB498, OB498⟩ := hQ498
        have N498 := Fr.app N0 N498q
        have K499 : Go p e below T498 (mkF m 16 #[.val (.ref a), .val (.ref x)] []) G := fun tq kq => K487 tq (st498.trans kq)
        refine ⟨T498, T498.heap, _, b498, k2498, (6 : Int32), (0 : Int32), _, X498.more (by decide) (by decide), rfl, N498, (Nat.le_trans Z0 K498q.1), ((Keep.refl h0 [a, r]).trans K498q (allS (Or.inl (List.mem_of_getElem? (i := 0) rfl)) all0)), Or.inr szb498, ⟨E498q, FR498, FF498, by rw [hsz]; exact FS498, VB498, OB498, ge_a, geb498, by unfold own_B; decide, by rw [hcs]; exact own_rg30, own_cellsK (a := a) (r := r) (k := k) (m := mm) (vs := vs) hC K498q (fun p hp => ninS (Exa.ne (hC p hp).1 E_a (by decide)) nin0)⟩, by rw [hcl]; decide, K499⟩
    · skip
      have K500 : Go p e below T481 (mkF m 16 #[.val (.ref a), .val (.ref x)] []) G := fun tq kq => K484 tq (XS.icmpYes X481.here hx rfl (pc0 := 9) (pc' := 16) rfl (hb hby d_prog_46_method_6_9) rfl ((feq hc485).2) (by decide) (by decide) kq)
      refine ⟨T481, h0, _, r, k, mm, f, vs, X481.more (by decide) (by decide), e481, N0, Z0, Keep.refl h0 _, Or.inl rfl, ⟨E_a, F_ring, F_front, F_size, V_r, O_r, ge_a, ge_r, hB, hR, hC⟩, own_ltm cs.length mm (by have q := hB.1; omega) hR.2.2.1 (by omega) hc485, K500⟩
  obtain ⟨E2, F2r, F2f, F2s, V2, O2, -, ge_rj, B2, R2, C2⟩ := Dj
  obtain ⟨b1, b2, b3, b4⟩ := B2
  have ne2 : a ≠ rj := Exa.neArv E2 V2 (hW 15 _ rfl)
  have cmj := own_nat mj (by omega)
  have hmj0 : mj ≠ 0 := by
    intro q
    rw [q, own_I0] at b1
    omega
  have K501 : Go p e below Tj (mkF m 17 #[.val (.ref a), .val (.ref x)] [(.ref a)]) G := fun tq kq => Kj476 tq (XS.aloadN Xj.here hx rfl (hb hby d_prog_46_method_6_16) rfl rfl kq)
  have K502 : Go p e below Tj (mkF m 18 #[.val (.ref a), .val (.ref x)] [(.ref a), (.ref a)]) G := fun tq kq => K501 tq (XS.aloadN Xj.here hx rfl (hb hby d_prog_46_method_6_17) rfl rfl kq)
  obtain ⟨T503, X503, e503, st503⟩ := getF Xj hx hZ hown (host := "") (Or.inl (hW 45 _ rfl)) Via.refl ej F2f (g := (mkF m 18 #[.val (.ref a), .val (.ref x)] [(.ref a), (.ref a)])) rfl rfl (hb hby d_prog_46_method_6_18)
  have K504 : Go p e below T503 (mkF m 21 #[.val (.ref a), .val (.ref x)] [(.int fj), (.ref a)]) G := fun tq kq => K502 tq (st503 tq kq)
  have K505 : Go p e below T503 (mkF m 22 #[.val (.ref a), .val (.ref x)] [(.ref a), (.int fj), (.ref a)]) G := fun tq kq => K504 tq (XS.aloadN X503.here hx rfl (hb hby d_prog_46_method_6_21) rfl rfl kq)
  obtain ⟨T506, X506, e506, st506⟩ := getF X503 hx hZ hown (host := "") (Or.inl (hW 36 _ rfl)) Via.refl e503 F2r (g := (mkF m 22 #[.val (.ref a), .val (.ref x)] [(.ref a), (.int fj), (.ref a)])) rfl rfl (hb hby d_prog_46_method_6_22)
  have K507 : Go p e below T506 (mkF m 25 #[.val (.ref a), .val (.ref x)] [(.ref rj), (.int fj), (.ref a)]) G := fun tq kq => K505 tq (st506 tq kq)
  obtain ⟨cl508, Ar508, q508, S508, Nn508, Hh508, Gg508⟩ := id V2
  have K509 : Go p e below T506 (mkF m 26 #[.val (.ref a), .val (.ref x)] [(.int mj), (.int fj), (.ref a)]) G := fun tq kq => K507 tq (X506.arraylength hx (by rw [e506]; exact Ar508.1) (State.isArrayOf_alike hZ.alike Ar508.2.1) (g := (mkF m 25 #[.val (.ref a), .val (.ref x)] [(.ref rj), (.int fj), (.ref a)])) rfl rfl (hb hby d_prog_46_method_6_25) _ (by rw [len_of S508 Nn508]; exact kq))
  have K510 : Go p e below T506 (mkF m 27 #[.val (.ref a), .val (.ref x)] [(.int (fj + mj)), (.ref a)]) G := fun tq kq => K509 tq (XS.iadd X506.here hx rfl (hb hby d_prog_46_method_6_26) rfl kq)
  have K511 : Go p e below T506 (mkF m 28 #[.val (.ref a), .val (.ref x)] [(.int (1 : Int32)), (.int (fj + mj)), (.ref a)]) G := fun tq kq => K510 tq (XS.iconst X506.here hx rfl (hb hby d_prog_46_method_6_27) kq)
  have K512 : Go p e below T506 (mkF m 29 #[.val (.ref a), .val (.ref x)] [(.int ((fj + mj) - (1 : Int32))), (.ref a)]) G := fun tq kq => K511 tq (XS.isub X506.here hx rfl (hb hby d_prog_46_method_6_28) rfl kq)
  have K513 : Go p e below T506 (mkF m 30 #[.val (.ref a), .val (.ref x)] [(.ref a), (.int ((fj + mj) - (1 : Int32))), (.ref a)]) G := fun tq kq => K512 tq (XS.aloadN X506.here hx rfl (hb hby d_prog_46_method_6_29) rfl rfl kq)
  obtain ⟨T514, X514, e514, st514⟩ := getF X506 hx hZ hown (host := "") (Or.inl (hW 36 _ rfl)) Via.refl e506 F2r (g := (mkF m 30 #[.val (.ref a), .val (.ref x)] [(.ref a), (.int ((fj + mj) - (1 : Int32))), (.ref a)])) rfl rfl (hb hby d_prog_46_method_6_30)
  have K515 : Go p e below T514 (mkF m 33 #[.val (.ref a), .val (.ref x)] [(.ref rj), (.int ((fj + mj) - (1 : Int32))), (.ref a)]) G := fun tq kq => K513 tq (st514 tq kq)
  obtain ⟨cl516, Ar516, q516, S516, Nn516, Hh516, Gg516⟩ := id V2
  have K517 : Go p e below T514 (mkF m 34 #[.val (.ref a), .val (.ref x)] [(.int mj), (.int ((fj + mj) - (1 : Int32))), (.ref a)]) G := fun tq kq => K515 tq (X514.arraylength hx (by rw [e514]; exact Ar516.1) (State.isArrayOf_alike hZ.alike Ar516.2.1) (g := (mkF m 33 #[.val (.ref a), .val (.ref x)] [(.ref rj), (.int ((fj + mj) - (1 : Int32))), (.ref a)])) rfl rfl (hb hby d_prog_46_method_6_33) _ (by rw [len_of S516 Nn516]; exact kq))
  have K518 : Go p e below T514 (mkF m 35 #[.val (.ref a), .val (.ref x)] [(.int (((fj + mj) - (1 : Int32)) % mj)), (.ref a)]) G := fun tq kq => K517 tq (iremM X514 hx rfl (hb hby d_prog_46_method_6_34) rfl hmj0 kq)
  have hx0 := own_ix ((fj + mj) - (1 : Int32)) mj _ (own_fm fj mj b3 (by omega) b1 b2) b1
  obtain ⟨fq, h_fq⟩ : ∃ z, z = (((fj + mj) - (1 : Int32)) % mj) := ⟨_, rfl⟩
  have K519 : Go p e below T514 (mkF m 35 #[.val (.ref a), .val (.ref x)] [(.int fq), (.ref a)]) G := by rw [h_fq]; exact K518
  have hx1 := hx0
  rw [← h_fq] at hx1
  obtain ⟨T520, h520, X520, e520, W520, st520⟩ := putF X514 hx hZ hown (host := "") (Or.inl (hW 45 _ rfl)) Via.refl e514 F2f E2 (Or.inl (hW 46 _ rfl)) (hW 15 _ rfl) (ty := .int) (by decide) rfl rfl (g := (mkF m 35 #[.val (.ref a), .val (.ref x)] [(.int fq), (.ref a)])) rfl rfl (hb hby d_prog_46_method_6_35)
  have N520 := Fr.snoc X520 Nj ge_a
  have F520 := Fld.same W520 F2f
  have K521 : Go p e below T520 (mkF m 38 #[.val (.ref a), .val (.ref x)] []) G := fun tq kq => K519 tq (st520 tq kq)
  have K522 : Go p e below T520 (mkF m 39 #[.val (.ref a), .val (.ref x)] [(.ref a)]) G := fun tq kq => K521 tq (XS.aloadN X520.here hx rfl (hb hby d_prog_46_method_6_38) rfl rfl kq)
  obtain ⟨T523, X523, e523, st523⟩ := getF X520 hx hZ hown (host := "") (Or.inl (hW 36 _ rfl)) Via.refl e520 (F2r.other W520 (Or.inr (slot_ne (Or.inl (hW 37 _ rfl)) (Or.inl (hW 46 _ rfl)) (by decide) (t := (.array (.object "com/example/goalpost/goalpost/runtime/Cell"))) (t' := .int) (by decide) (by decide)))) (g := (mkF m 39 #[.val (.ref a), .val (.ref x)] [(.ref a)])) rfl rfl (hb hby d_prog_46_method_6_39)
  have K524 : Go p e below T523 (mkF m 42 #[.val (.ref a), .val (.ref x)] [(.ref rj)]) G := fun tq kq => K522 tq (st523 tq kq)
  have K525 : Go p e below T523 (mkF m 43 #[.val (.ref a), .val (.ref x)] [(.ref a), (.ref rj)]) G := fun tq kq => K524 tq (XS.aloadN X523.here hx rfl (hb hby d_prog_46_method_6_42) rfl rfl kq)
  obtain ⟨T526, X526, e526, st526⟩ := getF X523 hx hZ hown (host := "") (Or.inl (hW 45 _ rfl)) Via.refl e523 F520 (g := (mkF m 43 #[.val (.ref a), .val (.ref x)] [(.ref a), (.ref rj)])) rfl rfl (hb hby d_prog_46_method_6_43)
  have K527 : Go p e below T526 (mkF m 46 #[.val (.ref a), .val (.ref x)] [(.int fq), (.ref rj)]) G := fun tq kq => K525 tq (st526 tq kq)
  obtain ⟨T528, h528, X528, e528, E528, A528, D528, -, st528⟩ := newO X526 hx hZ hown (hW 34 _ rfl) (hW 47 _ rfl) (hW 48 _ rfl) e526 (g := (mkF m 46 #[.val (.ref a), .val (.ref x)] [(.int fq), (.ref rj)])) rfl (hb hby d_prog_46_method_6_46) (by decide) (by decide)
  obtain ⟨b528, g528⟩ : ∃ z, z = h520.size := ⟨_, rfl⟩
  rw [← g528] at A528 D528 st528
  have ne528_a : a ≠ b528 := Nat.ne_of_lt (Nat.lt_of_lt_of_le (E2.wr W520).lt (Nat.le_of_eq g528.symm))
  have ne528_rj : rj ≠ b528 := Nat.ne_of_lt (Nat.lt_of_lt_of_le (V2.other W520 (Ne.symm ne2)).lt (Nat.le_of_eq g528.symm))
  have ge_b528 : n0 ≤ b528 := Nat.le_trans (Nat.le_trans Zj (Keep.of_wr W520).1) (Nat.le_of_eq g528.symm)
  have sz_b528 : hj.size ≤ b528 := Nat.le_trans (((Keep.refl hj [a, rj]).wr W520 (Or.inl (List.mem_of_getElem? (i := 0) rfl)))).1 (Nat.le_of_eq g528.symm)
  have F528_value : Fld Z h528 b528 "com/example/goalpost/goalpost/runtime/Cell" "value" "Ljava/lang/Object;" .null := D528 (Or.inl (hW 59 _ rfl)) (ty := (.object "java/lang/Object")) (by decide)
  have K529 : Go p e below T528 (mkF m 49 #[.val (.ref a), .val (.ref x)] [(.ref b528), (.int fq), (.ref rj)]) G := fun tq kq => K527 tq (st528 tq kq)
  have K530 : Go p e below T528 (mkF m 50 #[.val (.ref a), .val (.ref x)] [(.ref b528), (.ref b528), (.int fq), (.ref rj)]) G := fun tq kq => K529 tq (XS.dup X528.here hx rfl (hb hby d_prog_46_method_6_49) rfl rfl kq)
  have K531 : Go p e below T528 (mkF m 51 #[.val (.ref a), .val (.ref x)] [(.ref x), (.ref b528), (.ref b528), (.int fq), (.ref rj)]) G := fun tq kq => K530 tq (XS.aloadN X528.here hx rfl (hb hby d_prog_46_method_6_50) rfl rfl kq)
  obtain ⟨v532, _, ⟨T532, L532, k532, n532⟩, -, X532, ⟨Lc532, hQ532, l532, y532, z532⟩, st532⟩ := X528.specialBack hx (y := (⟨"com/example/goalpost/goalpost/runtime/Cell", "<init>", "(Ljava/lang/Object;)V"⟩ : MethodName)) rfl hown (mvT hZ (hW 49 _ rfl)) (mvT hZ (hW 50 _ rfl)) (mvT hZ (hW 51 _ rfl)) (by decide) (backOf (W := 3) (rmCI l Z a0 hw [] b528 x h528 n0 (Nat.le_trans (Nat.le_trans Zj (Keep.of_wr W520).1) E528.1) F528_value A528 ge_b528) hZ (hW 51 _ rfl) (hW 48 _ rfl) (by decide) (by decide)) (g := (mkF m 51 #[.val (.ref a), .val (.ref x)] [(.ref x), (.ref b528), (.ref b528), (.int fq), (.ref rj)])) rfl (by rw [hml]; rfl) (Steps.refl _) (a := b528) (argsL := [(.ref x)]) (rest := [(.ref b528), (.int fq), (.ref rj)]) (lenOf pd_111 rfl) rfl (by show 2 * 0 + _ ≤ _; exact Nat.le_of_eq rfl) (hb hby d_prog_46_method_6_51) (fun _ _ => ⟨rfl, e528, (by decide : 2 + 0 ≤ _), (by decide : 7 + 0 ≤ _)⟩)
  dsimp only [Pt.U, Pt.locs, Pt.cells, Pt.slots] at X532 l532 y532 z532 st532 hQ532
  subst l532 y532 z532
  obtain ⟨rfl, N532q, K532q, E532q, F532q_value⟩ := hQ532
  have N532 := Fr.app N520 N532q
  have K533 : Go p e below T532 (mkF m 54 #[.val (.ref a), .val (.ref x)] [(.ref b528), (.int fq), (.ref rj)]) G := fun tq kq => K531 tq (st532.trans kq)
  obtain ⟨cl534, Ar534, q534, S534, Nn534, Hh534, Gg534⟩ := id (((V2.other W520 (Ne.symm ne2)).ext E528).keep K532q (ninS ne528_rj nin0))
  have hin534 : ¬ (fq < 0 ∨ cl534.slots.size ≤ (fq).toNatClampNeg) := inb_of S534 ⟨hx1.2.1, hx1.2.2.1⟩
  obtain ⟨T534, h534, X534, e534, W534, st534⟩ := stR X532 hx hZ rfl Ar534 (j := fq) hin534 rfl (Sto.ofV Ar534 q534 O2 (Ins.self E532q)) (g := (mkF m 54 #[.val (.ref a), .val (.ref x)] [(.ref b528), (.int fq), (.ref rj)])) rfl rfl (hb hby d_prog_46_method_6_54)
  have V534 : Arv Z h534 rj kj (.object "com/example/goalpost/goalpost/runtime/Cell") mj (vj.set ((fj.toNatClampNeg + mj.toNatClampNeg - 1) % mj.toNatClampNeg) (.ref b528)) .null := Arv.set Ar534 q534 S534 Nn534 Hh534 Gg534 rfl W534 ((fj.toNatClampNeg + mj.toNatClampNeg - 1) % mj.toNatClampNeg) hx1.1 (by rw [R2.1]; exact Nat.mod_lt _ (by omega))
  have N534 := Fr.snoc X534 N532 ge_rj
  have K535 : Go p e below T534 (mkF m 55 #[.val (.ref a), .val (.ref x)] []) G := fun tq kq => K533 tq (st534 tq kq)
  have K536 : Go p e below T534 (mkF m 56 #[.val (.ref a), .val (.ref x)] [(.ref a)]) G := fun tq kq => K535 tq (XS.aloadN X534.here hx rfl (hb hby d_prog_46_method_6_55) rfl rfl kq)
  have K537 : Go p e below T534 (mkF m 57 #[.val (.ref a), .val (.ref x)] [(.ref a), (.ref a)]) G := fun tq kq => K536 tq (XS.dup X534.here hx rfl (hb hby d_prog_46_method_6_56) rfl rfl kq)
  obtain ⟨T538, X538, e538, st538⟩ := getF X534 hx hZ hown (host := "") (Or.inl (hW 43 _ rfl)) Via.refl e534 ((((F2s.other W520 (Or.inr (slot_ne (Or.inl (hW 44 _ rfl)) (Or.inl (hW 46 _ rfl)) (by decide) (t := .int) (t' := .int) (by decide) (by decide)))).ext E528).keep K532q (ninS ne528_a nin0)).other W534 (Or.inl ne2)) (g := (mkF m 57 #[.val (.ref a), .val (.ref x)] [(.ref a), (.ref a)])) rfl rfl (hb hby d_prog_46_method_6_57)
  have K539 : Go p e below T538 (mkF m 60 #[.val (.ref a), .val (.ref x)] [(.int (Int32.ofNat cs.length)), (.ref a)]) G := fun tq kq => K537 tq (st538 tq kq)
  have K540 : Go p e below T538 (mkF m 61 #[.val (.ref a), .val (.ref x)] [(.int (1 : Int32)), (.int (Int32.ofNat cs.length)), (.ref a)]) G := fun tq kq => K539 tq (XS.iconst X538.here hx rfl (hb hby d_prog_46_method_6_60) kq)
  have K541 : Go p e below T538 (mkF m 62 #[.val (.ref a), .val (.ref x)] [(.int ((Int32.ofNat cs.length) + (1 : Int32))), (.ref a)]) G := fun tq kq => K540 tq (XS.iadd X538.here hx rfl (hb hby d_prog_46_method_6_61) rfl kq)
  obtain ⟨T542, h542, X542, e542, W542, st542⟩ := putF X538 hx hZ hown (host := "") (Or.inl (hW 43 _ rfl)) Via.refl e538 ((((F2s.other W520 (Or.inr (slot_ne (Or.inl (hW 44 _ rfl)) (Or.inl (hW 46 _ rfl)) (by decide) (t := .int) (t' := .int) (by decide) (by decide)))).ext E528).keep K532q (ninS ne528_a nin0)).other W534 (Or.inl ne2)) ((((E2.wr W520).ext E528).keep K532q).wr W534) (Or.inl (hW 44 _ rfl)) (hW 15 _ rfl) (ty := .int) (by decide) rfl rfl (g := (mkF m 62 #[.val (.ref a), .val (.ref x)] [(.int ((Int32.ofNat cs.length) + (1 : Int32))), (.ref a)])) rfl rfl (hb hby d_prog_46_method_6_62)
  have N542 := Fr.snoc X542 N534 ge_a
  have F542 := Fld.same W542 ((((F2s.other W520 (Or.inr (slot_ne (Or.inl (hW 44 _ rfl)) (Or.inl (hW 46 _ rfl)) (by decide) (t := .int) (t' := .int) (by decide) (by decide)))).ext E528).keep K532q (ninS ne528_a nin0)).other W534 (Or.inl ne2))
  have K543 : Go p e below T542 (mkF m 65 #[.val (.ref a), .val (.ref x)] []) G := fun tq kq => K541 tq (st542 tq kq)
  have hs1 : (Int32.ofNat cs.length) + (1 : Int32) = Int32.ofNat ((b528, x) :: cs).length := by rw [own_up1 cs.length (by omega)]; exact congrArg Int32.ofNat (by simp)
  have KK := Kj.trans ((((((Keep.refl hj [a, rj]).wr W520 (Or.inl (List.mem_of_getElem? (i := 0) rfl))).ext E528).trans K532q (allS (Or.inr sz_b528) all0)).wr W534 (Or.inl (List.mem_of_getElem? (i := 1) rfl))).wr W542 (Or.inl (List.mem_of_getElem? (i := 0) rfl))) (allS (Or.inl (List.mem_of_getElem? (i := 0) rfl)) (allS (hrj.imp (fun q => by rw [q]; exact List.mem_of_getElem? (i := 1) rfl) id) all0))
  have FSn := F542
  rw [hs1] at FSn
  have hq := hx1.2.2.2
  have hq2 : ((fj.toNatClampNeg + mj.toNatClampNeg - 1) % mj.toNatClampNeg) < mj.toNatClampNeg := Nat.mod_lt _ (by omega)
  obtain ⟨fs, hr, hrun, hended, hWW, hsame⟩ := X542.leave (v := none) (fun _ => rfl)
  refine ⟨_, _, hG _ (K543 _ (X542.returnOut hx Bd.returns (hb hby d_prog_46_method_6_65) hr)), hrun, hended, _, _, rfl, ?_, ⟨_, rfl⟩, hWW, hsame.mono (by decide) (by decide)⟩
  show QPS Z a x r k mm f vs cs h0 n0 _ T542.heap _
  rw [e542]
  exact ⟨rfl, N542, KK, rj, kj, mj, fq, _, b528, hrj, ⟨(((((E2.wr W520).ext E528).keep K532q).wr W534).wr W542), (((((F2r.other W520 (Or.inr (slot_ne (Or.inl (hW 37 _ rfl)) (Or.inl (hW 46 _ rfl)) (by decide) (t := (.array (.object "com/example/goalpost/goalpost/runtime/Cell"))) (t' := .int) (by decide) (by decide)))).ext E528).keep K532q (ninS ne528_a nin0)).other W534 (Or.inl ne2)).other W542 (Or.inr (slot_ne (Or.inl (hW 37 _ rfl)) (Or.inl (hW 44 _ rfl)) (by decide) (t := (.array (.object "com/example/goalpost/goalpost/runtime/Cell"))) (t' := .int) (by decide) (by decide)))), ((((F520.ext E528).keep K532q (ninS ne528_a nin0)).other W534 (Or.inl ne2)).other W542 (Or.inr (slot_ne (Or.inl (hW 46 _ rfl)) (Or.inl (hW 44 _ rfl)) (by decide) (t := .int) (t' := .int) (by decide) (by decide)))), FSn, (V534.other W542 (Ne.symm ne2)), O2, ge_a, ge_rj, ⟨b1, b2, by omega, by omega⟩, (by rw [hx1.1]; exact own_ringPush b528 x R2 hlt), own_cellsC (own_cellsK (a := a) (r := r) (k := k) (m := mm) (vs := vs) C2 ((((((Keep.refl hj [a, rj]).wr W520 (Or.inl (List.mem_of_getElem? (i := 0) rfl))).ext E528).trans K532q (allS (Or.inr sz_b528) all0)).wr W534 (Or.inl (List.mem_of_getElem? (i := 1) rfl))).wr W542 (Or.inl (List.mem_of_getElem? (i := 0) rfl))) (fun p hp => ninS (Exa.ne (C2 p hp).1 E2 (by decide)) (ninS (Exa.neArv (C2 p hp).1 V2 (hW 47 _ rfl)) nin0))) ((E532q.wr W534).wr W542) ((F532q_value.other W534 (Or.inl (Ne.symm ne528_rj))).other W542 (Or.inl (Ne.symm ne528_a)))⟩⟩
theorem ef_prog_46_method_7_R (m : MethodId) (x0 : Addr) : entryFrame m #[(.ref x0)] 2 = mkF m 0 #[.val (.ref x0), .unset] [] := by first | (simp [entryFrame, mkF, argsToLocals, Value.category]; done) | rfl
theorem pd_183 : parseMethodDescriptor "()Ljava/lang/Object;" = some ⟨[], some (.object "java/lang/Object")⟩ := by decide +kernel
theorem d_prog_46_method_7_0 : decode prog_46_method_7_code 0 = .ok (.aload_n 0, 1) := by decide +kernel
theorem d_prog_46_method_7_1 : decode prog_46_method_7_code 1 = .ok (.getfield 21, 3) := by decide +kernel
theorem d_prog_46_method_7_4 : decode prog_46_method_7_code 4 = .ok (.ifCond .ne 5, 3) := by decide +kernel
theorem d_prog_46_method_7_9 : decode prog_46_method_7_code 9 = .ok (.aload_n 0, 1) := by decide +kernel
theorem d_prog_46_method_7_10 : decode prog_46_method_7_code 10 = .ok (.getfield 15, 3) := by decide +kernel
theorem d_prog_46_method_7_13 : decode prog_46_method_7_code 13 = .ok (.aload_n 0, 1) := by decide +kernel
theorem d_prog_46_method_7_14 : decode prog_46_method_7_code 14 = .ok (.getfield 25, 3) := by decide +kernel
theorem d_prog_46_method_7_17 : decode prog_46_method_7_code 17 = .ok (.aaload, 1) := by decide +kernel
theorem d_prog_46_method_7_18 : decode prog_46_method_7_code 18 = .ok (.invokevirtual 45, 3) := by decide +kernel
theorem d_prog_46_method_7_21 : decode prog_46_method_7_code 21 = .ok (.astore_n 1, 1) := by decide +kernel
theorem d_prog_46_method_7_22 : decode prog_46_method_7_code 22 = .ok (.aload_n 0, 1) := by decide +kernel
theorem d_prog_46_method_7_23 : decode prog_46_method_7_code 23 = .ok (.getfield 15, 3) := by decide +kernel
theorem d_prog_46_method_7_26 : decode prog_46_method_7_code 26 = .ok (.aload_n 0, 1) := by decide +kernel
theorem d_prog_46_method_7_27 : decode prog_46_method_7_code 27 = .ok (.getfield 25, 3) := by decide +kernel
theorem d_prog_46_method_7_30 : decode prog_46_method_7_code 30 = .ok (.aconst_null, 1) := by decide +kernel
theorem d_prog_46_method_7_31 : decode prog_46_method_7_code 31 = .ok (.aastore, 1) := by decide +kernel
theorem d_prog_46_method_7_32 : decode prog_46_method_7_code 32 = .ok (.aload_n 0, 1) := by decide +kernel
theorem d_prog_46_method_7_33 : decode prog_46_method_7_code 33 = .ok (.aload_n 0, 1) := by decide +kernel
theorem d_prog_46_method_7_34 : decode prog_46_method_7_code 34 = .ok (.getfield 25, 3) := by decide +kernel
theorem d_prog_46_method_7_37 : decode prog_46_method_7_code 37 = .ok (.iconst 1, 1) := by decide +kernel
theorem d_prog_46_method_7_38 : decode prog_46_method_7_code 38 = .ok (.iadd, 1) := by decide +kernel
theorem d_prog_46_method_7_39 : decode prog_46_method_7_code 39 = .ok (.aload_n 0, 1) := by decide +kernel
theorem d_prog_46_method_7_40 : decode prog_46_method_7_code 40 = .ok (.getfield 15, 3) := by decide +kernel
theorem d_prog_46_method_7_43 : decode prog_46_method_7_code 43 = .ok (.arraylength, 1) := by decide +kernel
theorem d_prog_46_method_7_44 : decode prog_46_method_7_code 44 = .ok (.irem, 1) := by decide +kernel
theorem d_prog_46_method_7_45 : decode prog_46_method_7_code 45 = .ok (.putfield 25, 3) := by decide +kernel
theorem d_prog_46_method_7_48 : decode prog_46_method_7_code 48 = .ok (.aload_n 0, 1) := by decide +kernel
theorem d_prog_46_method_7_49 : decode prog_46_method_7_code 49 = .ok (.dup, 1) := by decide +kernel
theorem d_prog_46_method_7_50 : decode prog_46_method_7_code 50 = .ok (.getfield 21, 3) := by decide +kernel
theorem d_prog_46_method_7_53 : decode prog_46_method_7_code 53 = .ok (.iconst 1, 1) := by decide +kernel
theorem d_prog_46_method_7_54 : decode prog_46_method_7_code 54 = .ok (.isub, 1) := by decide +kernel
theorem d_prog_46_method_7_55 : decode prog_46_method_7_code 55 = .ok (.putfield 21, 3) := by decide +kernel
theorem d_prog_46_method_7_58 : decode prog_46_method_7_code 58 = .ok (.aload_n 1, 1) := by decide +kernel
theorem d_prog_46_method_7_59 : decode prog_46_method_7_code 59 = .ok (.areturn, 1) := by decide +kernel
def QGE (Z : State) (a : Addr) (r : Addr) (k : ClassId) (mm : Int32) (f : Int32) (vs : List Value) (cs : List (Addr × Addr)) (c0 : Addr) (x0 : Addr) (h0 : Heap) (n0 : Nat) (v : Option Value) (h : Heap) (L : List Loc) : Prop := v = some (.ref x0) ∧ Fr n0 L ∧ Keep h0 h [a, r] ∧ ∃ (f2 : Int32) (v2 : List Value), own_Dq Z h n0 a r k mm f2 v2 cs
set_option maxRecDepth 65536 in
set_option maxHeartbeats 40000000 in
theorem rmGE (l : Launch) (Z : State) (a0 : Array Value) (hw : ∀ d ∈ tables_1, d.before a0 Z = true) (ws : List Jvm.Cond) (a : Addr) (r : Addr) (k : ClassId) (mm : Int32) (f : Int32) (vs : List Value) (cs : List (Addr × Addr)) (c0 : Addr) (x0 : Addr) (h0 : Heap) (n0 : Nat) (Z0 : n0 ≤ h0.size) (D : own_Dq Z h0 n0 a r k mm f vs ((c0, x0) :: cs)) :
    MetFree l (⟨"com/example/goalpost/goalpost/runtime/ListValue", "get", "()Ljava/lang/Object;"⟩ : MethodName) (head1 (Jvm.Cond.code (⟨"com/example/goalpost/goalpost/runtime/ListValue", "get", "()Ljava/lang/Object;"⟩ : MethodName) prog_46_method_7_code 2 (some (.object "java/lang/Object")) :: ws) ({ frames := 1, cells := 0, slots := 0, locals := 12 } : Room)) (fun aa UU => aa = #[(.ref a)] ∧ Z.Warmed39 UU.vm ∧ UU.heap = h0) (fun _ _ _ _ _ => True) (fun _ UU oo UU' => ∃ vv LL, oo = .returned vv ∧ QGE Z a r k mm f vs cs c0 x0 h0 n0 vv UU'.heap LL ∧ FrameEnd UU oo UU' LL ({ frames := 1, cells := 0, slots := 0, locals := 12 } : Room).cells ({ frames := 1, cells := 0, slots := 0, locals := 12 } : Room).slots) := by
  refine MetFree.of_bodySF (plainFor_of_name pn_53) hisR ?_
  intro p e s m args below meth c s₁ Bd hml0 hP hK
  obtain ⟨rfl, hZ, hh⟩ := hP
  have hx := Bd.exec
  have hby := Bd.bytes
  have hml : c.maxLocals = 2 := hml0
  have hown : s.vm.findClass "com/example/goalpost/goalpost/runtime/ListValue" = some m.cls := findClass_of_methodNamed Bd.named
  have hnm := (name_of_methodNamed Bd.named Bd.method).1
  have hW : ∀ (k : Nat) (d : Jvm.Cond), tables_1[k]? = some d → d.before a0 Z = true := fun k d h => hw d (List.mem_of_getElem? h)
  have X0 : Stand p l e ({ frames := 1, cells := 0, slots := 0, locals := 12 } : Room) s m #[(.ref a)] below meth c s₁ [] 0 0 := Stand.of_body Bd
  have e0 : s₁.heap = h0 := by rw [← hh, Bd.state]; rfl
  have N0 := Fr.nil n0
  obtain ⟨G, hG, K0⟩ : ∃ G : State → Prop, (∀ tq, G tq → Steps p.tables e below (s₁.setTop (entryFrame m #[(.ref a)] 2)) tq) ∧ Go p e below s₁ (mkF m 0 #[.val (.ref a), .unset] []) G := ⟨fun tq => Steps p.tables e below (s₁.setTop (entryFrame m #[(.ref a)] 2)) tq, fun _ h => h, fun tq kq => castTop (ef_prog_46_method_7_R m a) kq⟩
  obtain ⟨E_a, F_ring, F_front, F_size, V_r, O_r, ge_a, ge_r, hB, hR, hC⟩ := D
  have ne_ar : a ≠ r := Exa.neArv E_a V_r (hW 15 _ rfl)
  obtain ⟨b1, b2, b3, b4⟩ := hB
  have cmm := own_nat mm (by omega)
  have cf := own_nat f b3
  have hm0 : mm ≠ 0 := by
    intro q
    rw [q, own_I0] at b1
    omega
  have hln := hR.2.2.1
  have hl1 : ((c0, x0) :: cs).length = cs.length + 1 := by simp
  have hl8 : cs.length ≤ 7 := by omega
  have hs0 : ¬ ((Int32.ofNat ((c0, x0) :: cs).length) = (0 : Int32)) := by
    rw [← Int32.toInt_inj, hl1, own_ofNat _ (by omega), own_I0]
    omega
  have hmem : (c0, x0) ∈ ((c0, x0) :: cs) := by simp
  have Ec0 := (hC _ hmem).1
  have Fc0 := (hC _ hmem).2
  have nec : c0 ≠ r := Exa.neArv Ec0 V_r (hW 47 _ rfl)
  have nea : c0 ≠ a := Exa.ne Ec0 E_a (by decide)
  have f0 : ¬ f < 0 := by
    rw [Int32.lt_iff_toInt_lt, own_I0]
    omega
  have f1 : f < mm := by
    rw [Int32.lt_iff_toInt_lt]
    exact b4
  have hx1 := own_ix (f + (1 : Int32)) mm (f.toNatClampNeg + 1) (by have c := c_iadd f (1 : Int32); rw [own_I1] at c; have r := rng32 (f + (1 : Int32)); omega) b1
  have K544 : Go p e below s₁ (mkF m 1 #[.val (.ref a), .unset] [(.ref a)]) G := fun tq kq => K0 tq (XS.aloadN X0.here hx rfl (hb hby d_prog_46_method_7_0) rfl rfl kq)
  obtain ⟨T545, X545, e545, st545⟩ := getF X0 hx hZ hown (host := "") (Or.inl (hW 43 _ rfl)) Via.refl e0 F_size (g := (mkF m 1 #[.val (.ref a), .unset] [(.ref a)])) rfl rfl (hb hby d_prog_46_method_7_1)
  have K546 : Go p e below T545 (mkF m 4 #[.val (.ref a), .unset] [(.int (Int32.ofNat ((c0, x0) :: cs).length))]) G := fun tq kq => K544 tq (st545 tq kq)
  have K547 : Go p e below T545 (mkF m 9 #[.val (.ref a), .unset] []) G := fun tq kq => K546 tq (XS.ifYes X545.here hx rfl (pc0 := 4) (pc' := 9) rfl (hb hby d_prog_46_method_7_4) rfl ((if0 _ _).trans (feq hs0).2) (by decide) (by decide) kq)
  have K548 : Go p e below T545 (mkF m 10 #[.val (.ref a), .unset] [(.ref a)]) G := fun tq kq => K547 tq (XS.aloadN X545.here hx rfl (hb hby d_prog_46_method_7_9) rfl rfl kq)
  obtain ⟨T549, X549, e549, st549⟩ := getF X545 hx hZ hown (host := "") (Or.inl (hW 36 _ rfl)) Via.refl e545 F_ring (g := (mkF m 10 #[.val (.ref a), .unset] [(.ref a)])) rfl rfl (hb hby d_prog_46_method_7_10)
  have K550 : Go p e below T549 (mkF m 13 #[.val (.ref a), .unset] [(.ref r)]) G := fun tq kq => K548 tq (st549 tq kq)
  have K551 : Go p e below T549 (mkF m 14 #[.val (.ref a), .unset] [(.ref a), (.ref r)]) G := fun tq kq => K550 tq (XS.aloadN X549.here hx rfl (hb hby d_prog_46_method_7_13) rfl rfl kq)
  obtain ⟨T552, X552, e552, st552⟩ := getF X549 hx hZ hown (host := "") (Or.inl (hW 45 _ rfl)) Via.refl e549 F_front (g := (mkF m 14 #[.val (.ref a), .unset] [(.ref a), (.ref r)])) rfl rfl (hb hby d_prog_46_method_7_14)
  have K553 : Go p e below T552 (mkF m 17 #[.val (.ref a), .unset] [(.int f), (.ref r)]) G := fun tq kq => K551 tq (st552 tq kq)
  obtain ⟨cl554, Ar554, q554, S554, Nn554, Hh554, Gg554⟩ := id V_r
  have hin554 : ¬ (f < 0 ∨ cl554.slots.size ≤ (f).toNatClampNeg) := inb_of S554 ⟨f0, f1⟩
  have hat554 := Has.at (v := (.ref c0)) Hh554 hin554 (own_first hR)
  have K555 : Go p e below T552 (mkF m 18 #[.val (.ref a), .unset] [(.ref c0)]) G := fun tq kq => K553 tq (X552.aaload hx (j := f) (v := (.ref c0)) (by rw [e552]; exact Ar554.1) (State.isArrayOf_alike hZ.alike Ar554.2.1) rfl Ar554.2.2 hin554 hat554 (g := (mkF m 17 #[.val (.ref a), .unset] [(.int f), (.ref r)])) rfl rfl (hb hby d_prog_46_method_7_17) _ kq)
  obtain ⟨cq556, kq556, q556a, q556b, q556c⟩ := isOf hZ e552 Ec0
  obtain ⟨v556, _, ⟨T556, L556, k556, n556⟩, -, X556, ⟨Lc556, hQ556, l556, y556, z556⟩, st556⟩ := X552.virtualBack hx (y := (⟨"com/example/goalpost/goalpost/runtime/Cell", "get", "()Ljava/lang/Object;"⟩ : MethodName)) (z := (⟨"com/example/goalpost/goalpost/runtime/Cell", "get", "()Ljava/lang/Object;"⟩ : MethodName)) hown (mvT hZ (hW 88 _ rfl)) (mvT hZ (hW 74 _ rfl)) (notFace_of_selects (args := #[]) (mvT hZ (hW 76 _ rfl))) (mvT hZ (hW 76 _ rfl)) (mvT hZ (hW 75 _ rfl)) (by decide) (backOf (W := 0) (rmCG l Z a0 hw [] c0 x0 h0 n0 Z0 Fc0) hZ (hW 77 _ rfl) (hW 48 _ rfl) (by decide) (by decide)) q556a q556c (g := (mkF m 18 #[.val (.ref a), .unset] [(.ref c0)])) rfl (by rw [hml]; rfl) (Steps.refl _) (argsL := []) (rest := []) (lenOf pd_183 rfl) rfl (by show 2 * 0 + _ ≤ _; exact Nat.le_of_eq rfl) (hb hby d_prog_46_method_7_18) (fun _ _ => ⟨rfl, e552, (by decide : 0 + 0 ≤ _), (by decide : 0 + 0 ≤ _)⟩)
  dsimp only [Pt.U, Pt.locs, Pt.cells, Pt.slots] at X556 l556 y556 z556 st556 hQ556
  subst l556 y556 z556
  obtain ⟨rfl, N556q, E556q⟩ := hQ556
  have N556 := Fr.app N0 N556q
  have K557 : Go p e below T556 (mkF m 21 #[.val (.ref a), .unset] [(.ref x0)]) G := fun tq kq => K555 tq (st556.trans kq)
  have K558 : Go p e below T556 (mkF m 22 #[.val (.ref a), .val (.ref x0)] []) G := fun tq kq => K557 tq (XS.astoreN X556.here hx rfl (hb hby d_prog_46_method_7_21) rfl rfl (l' := #[.val (.ref a), .val (.ref x0)]) rfl kq)
  have K559 : Go p e below T556 (mkF m 23 #[.val (.ref a), .val (.ref x0)] [(.ref a)]) G := fun tq kq => K558 tq (XS.aloadN X556.here hx rfl (hb hby d_prog_46_method_7_22) rfl rfl kq)
  obtain ⟨T560, X560, e560, st560⟩ := getF X556 hx hZ hown (host := "") (Or.inl (hW 36 _ rfl)) Via.refl E556q F_ring (g := (mkF m 23 #[.val (.ref a), .val (.ref x0)] [(.ref a)])) rfl rfl (hb hby d_prog_46_method_7_23)
  have K561 : Go p e below T560 (mkF m 26 #[.val (.ref a), .val (.ref x0)] [(.ref r)]) G := fun tq kq => K559 tq (st560 tq kq)
  have K562 : Go p e below T560 (mkF m 27 #[.val (.ref a), .val (.ref x0)] [(.ref a), (.ref r)]) G := fun tq kq => K561 tq (XS.aloadN X560.here hx rfl (hb hby d_prog_46_method_7_26) rfl rfl kq)
  obtain ⟨T563, X563, e563, st563⟩ := getF X560 hx hZ hown (host := "") (Or.inl (hW 45 _ rfl)) Via.refl e560 F_front (g := (mkF m 27 #[.val (.ref a), .val (.ref x0)] [(.ref a), (.ref r)])) rfl rfl (hb hby d_prog_46_method_7_27)
  have K564 : Go p e below T563 (mkF m 30 #[.val (.ref a), .val (.ref x0)] [(.int f), (.ref r)]) G := fun tq kq => K562 tq (st563 tq kq)
  have K565 : Go p e below T563 (mkF m 31 #[.val (.ref a), .val (.ref x0)] [.null, (.int f), (.ref r)]) G := fun tq kq => K564 tq (XS.aconstNull X563.here hx rfl (hb hby d_prog_46_method_7_30) kq)
  obtain ⟨cl566, Ar566, q566, S566, Nn566, Hh566, Gg566⟩ := id V_r
  have hin566 : ¬ (f < 0 ∨ cl566.slots.size ≤ (f).toNatClampNeg) := inb_of S566 ⟨f0, f1⟩
  obtain ⟨T566, h566, X566, e566, W566, st566⟩ := stR X563 hx hZ e563 Ar566 (j := f) hin566 rfl (Or.inl rfl) (g := (mkF m 31 #[.val (.ref a), .val (.ref x0)] [.null, (.int f), (.ref r)])) rfl rfl (hb hby d_prog_46_method_7_31)
  have V566 : Arv Z h566 r k (.object "com/example/goalpost/goalpost/runtime/Cell") mm (vs.set f.toNatClampNeg .null) .null := Arv.set Ar566 q566 S566 Nn566 Hh566 Gg566 rfl W566 f.toNatClampNeg rfl (by rw [hR.1]; exact hR.2.1)
  have N566 := Fr.snoc X566 N556 ge_r
  have K567 : Go p e below T566 (mkF m 32 #[.val (.ref a), .val (.ref x0)] []) G := fun tq kq => K565 tq (st566 tq kq)
  have K568 : Go p e below T566 (mkF m 33 #[.val (.ref a), .val (.ref x0)] [(.ref a)]) G := fun tq kq => K567 tq (XS.aloadN X566.here hx rfl (hb hby d_prog_46_method_7_32) rfl rfl kq)
  have K569 : Go p e below T566 (mkF m 34 #[.val (.ref a), .val (.ref x0)] [(.ref a), (.ref a)]) G := fun tq kq => K568 tq (XS.aloadN X566.here hx rfl (hb hby d_prog_46_method_7_33) rfl rfl kq)
  obtain ⟨T570, X570, e570, st570⟩ := getF X566 hx hZ hown (host := "") (Or.inl (hW 45 _ rfl)) Via.refl e566 (F_front.other W566 (Or.inl ne_ar)) (g := (mkF m 34 #[.val (.ref a), .val (.ref x0)] [(.ref a), (.ref a)])) rfl rfl (hb hby d_prog_46_method_7_34)
  have K571 : Go p e below T570 (mkF m 37 #[.val (.ref a), .val (.ref x0)] [(.int f), (.ref a)]) G := fun tq kq => K569 tq (st570 tq kq)
  have K572 : Go p e below T570 (mkF m 38 #[.val (.ref a), .val (.ref x0)] [(.int (1 : Int32)), (.int f), (.ref a)]) G := fun tq kq => K571 tq (XS.iconst X570.here hx rfl (hb hby d_prog_46_method_7_37) kq)
  have K573 : Go p e below T570 (mkF m 39 #[.val (.ref a), .val (.ref x0)] [(.int (f + (1 : Int32))), (.ref a)]) G := fun tq kq => K572 tq (XS.iadd X570.here hx rfl (hb hby d_prog_46_method_7_38) rfl kq)
  have K574 : Go p e below T570 (mkF m 40 #[.val (.ref a), .val (.ref x0)] [(.ref a), (.int (f + (1 : Int32))), (.ref a)]) G := fun tq kq => K573 tq (XS.aloadN X570.here hx rfl (hb hby d_prog_46_method_7_39) rfl rfl kq)
  obtain ⟨T575, X575, e575, st575⟩ := getF X570 hx hZ hown (host := "") (Or.inl (hW 36 _ rfl)) Via.refl e570 (F_ring.other W566 (Or.inl ne_ar)) (g := (mkF m 40 #[.val (.ref a), .val (.ref x0)] [(.ref a), (.int (f + (1 : Int32))), (.ref a)])) rfl rfl (hb hby d_prog_46_method_7_40)
  have K576 : Go p e below T575 (mkF m 43 #[.val (.ref a), .val (.ref x0)] [(.ref r), (.int (f + (1 : Int32))), (.ref a)]) G := fun tq kq => K574 tq (st575 tq kq)
  obtain ⟨cl577, Ar577, q577, S577, Nn577, Hh577, Gg577⟩ := id V566
  have K578 : Go p e below T575 (mkF m 44 #[.val (.ref a), .val (.ref x0)] [(.int mm), (.int (f + (1 : Int32))), (.ref a)]) G := fun tq kq => K576 tq (X575.arraylength hx (by rw [e575]; exact Ar577.1) (State.isArrayOf_alike hZ.alike Ar577.2.1) (g := (mkF m 43 #[.val (.ref a), .val (.ref x0)] [(.ref r), (.int (f + (1 : Int32))), (.ref a)])) rfl rfl (hb hby d_prog_46_method_7_43) _ (by rw [len_of S577 Nn577]; exact kq))
  have K579 : Go p e below T575 (mkF m 45 #[.val (.ref a), .val (.ref x0)] [(.int ((f + (1 : Int32)) % mm)), (.ref a)]) G := fun tq kq => K578 tq (iremM X575 hx rfl (hb hby d_prog_46_method_7_44) rfl hm0 kq)
  obtain ⟨T580, h580, X580, e580, W580, st580⟩ := putF X575 hx hZ hown (host := "") (Or.inl (hW 45 _ rfl)) Via.refl e575 (F_front.other W566 (Or.inl ne_ar)) (E_a.wr W566) (Or.inl (hW 46 _ rfl)) (hW 15 _ rfl) (ty := .int) (by decide) rfl rfl (g := (mkF m 45 #[.val (.ref a), .val (.ref x0)] [(.int ((f + (1 : Int32)) % mm)), (.ref a)])) rfl rfl (hb hby d_prog_46_method_7_45)
  have N580 := Fr.snoc X580 N566 ge_a
  have F580 := Fld.same W580 (F_front.other W566 (Or.inl ne_ar))
  have K581 : Go p e below T580 (mkF m 48 #[.val (.ref a), .val (.ref x0)] []) G := fun tq kq => K579 tq (st580 tq kq)
  have K582 : Go p e below T580 (mkF m 49 #[.val (.ref a), .val (.ref x0)] [(.ref a)]) G := fun tq kq => K581 tq (XS.aloadN X580.here hx rfl (hb hby d_prog_46_method_7_48) rfl rfl kq)
  have K583 : Go p e below T580 (mkF m 50 #[.val (.ref a), .val (.ref x0)] [(.ref a), (.ref a)]) G := fun tq kq => K582 tq (XS.dup X580.here hx rfl (hb hby d_prog_46_method_7_49) rfl rfl kq)
  obtain ⟨T584, X584, e584, st584⟩ := getF X580 hx hZ hown (host := "") (Or.inl (hW 43 _ rfl)) Via.refl e580 ((F_size.other W566 (Or.inl ne_ar)).other W580 (Or.inr (slot_ne (Or.inl (hW 44 _ rfl)) (Or.inl (hW 46 _ rfl)) (by decide) (t := .int) (t' := .int) (by decide) (by decide)))) (g := (mkF m 50 #[.val (.ref a), .val (.ref x0)] [(.ref a), (.ref a)])) rfl rfl (hb hby d_prog_46_method_7_50)
  have K585 : Go p e below T584 (mkF m 53 #[.val (.ref a), .val (.ref x0)] [(.int (Int32.ofNat ((c0, x0) :: cs).length)), (.ref a)]) G := fun tq kq => K583 tq (st584 tq kq)
  have K586 : Go p e below T584 (mkF m 54 #[.val (.ref a), .val (.ref x0)] [(.int (1 : Int32)), (.int (Int32.ofNat ((c0, x0) :: cs).length)), (.ref a)]) G := fun tq kq => K585 tq (XS.iconst X584.here hx rfl (hb hby d_prog_46_method_7_53) kq)
  have K587 : Go p e below T584 (mkF m 55 #[.val (.ref a), .val (.ref x0)] [(.int ((Int32.ofNat ((c0, x0) :: cs).length) - (1 : Int32))), (.ref a)]) G := fun tq kq => K586 tq (XS.isub X584.here hx rfl (hb hby d_prog_46_method_7_54) rfl kq)
  obtain ⟨T588, h588, X588, e588, W588, st588⟩ := putF X584 hx hZ hown (host := "") (Or.inl (hW 43 _ rfl)) Via.refl e584 ((F_size.other W566 (Or.inl ne_ar)).other W580 (Or.inr (slot_ne (Or.inl (hW 44 _ rfl)) (Or.inl (hW 46 _ rfl)) (by decide) (t := .int) (t' := .int) (by decide) (by decide)))) ((E_a.wr W566).wr W580) (Or.inl (hW 44 _ rfl)) (hW 15 _ rfl) (ty := .int) (by decide) rfl rfl (g := (mkF m 55 #[.val (.ref a), .val (.ref x0)] [(.int ((Int32.ofNat ((c0, x0) :: cs).length) - (1 : Int32))), (.ref a)])) rfl rfl (hb hby d_prog_46_method_7_55)
  have N588 := Fr.snoc X588 N580 ge_a
  have F588 := Fld.same W588 ((F_size.other W566 (Or.inl ne_ar)).other W580 (Or.inr (slot_ne (Or.inl (hW 44 _ rfl)) (Or.inl (hW 46 _ rfl)) (by decide) (t := .int) (t' := .int) (by decide) (by decide))))
  have K589 : Go p e below T588 (mkF m 58 #[.val (.ref a), .val (.ref x0)] []) G := fun tq kq => K587 tq (st588 tq kq)
  have K590 : Go p e below T588 (mkF m 59 #[.val (.ref a), .val (.ref x0)] [(.ref x0)]) G := fun tq kq => K589 tq (XS.aloadN X588.here hx rfl (hb hby d_prog_46_method_7_58) rfl rfl kq)
  have hs1 : (Int32.ofNat ((c0, x0) :: cs).length) - (1 : Int32) = Int32.ofNat cs.length := by rw [hl1]; exact own_dn1 _ (by omega)
  have FSn := F588
  rw [hs1] at FSn
  have hC1 : own_Cells Z h0 cs := fun p hp => hC p (by simp [hp])
  have hq := hx1.2.2.2
  have hq2 : (f.toNatClampNeg + 1) % mm.toNatClampNeg < mm.toNatClampNeg := Nat.mod_lt _ (by omega)
  obtain ⟨fs, hr, hrun, hended, hWW, hsame⟩ := X588.leave (v := some (.ref x0)) (fun h => by rw [Bd.returns] at h; cases h)
  refine ⟨_, _, hG _ (K590 _ (retOut X588 hx Bd.returns rfl (Or.inr (Or.inr (Or.inr (Or.inr ⟨rfl, rfl, rfl⟩)))) (hb hby d_prog_46_method_7_59) hr)), hrun, hended, _, _, rfl, ?_, ⟨_, rfl⟩, hWW, hsame.mono (by decide) (by decide)⟩
  show QGE Z a r k mm f vs cs c0 x0 h0 n0 _ T588.heap _
  rw [e588]
  exact ⟨rfl, N588, ((((Keep.refl h0 [a, r]).wr W566 (Or.inl (List.mem_of_getElem? (i := 1) rfl))).wr W580 (Or.inl (List.mem_of_getElem? (i := 0) rfl))).wr W588 (Or.inl (List.mem_of_getElem? (i := 0) rfl))), _, _, ⟨(((E_a.wr W566).wr W580).wr W588), (((F_ring.other W566 (Or.inl ne_ar)).other W580 (Or.inr (slot_ne (Or.inl (hW 37 _ rfl)) (Or.inl (hW 46 _ rfl)) (by decide) (t := (.array (.object "com/example/goalpost/goalpost/runtime/Cell"))) (t' := .int) (by decide) (by decide)))).other W588 (Or.inr (slot_ne (Or.inl (hW 37 _ rfl)) (Or.inl (hW 44 _ rfl)) (by decide) (t := (.array (.object "com/example/goalpost/goalpost/runtime/Cell"))) (t' := .int) (by decide) (by decide)))), (F580.other W588 (Or.inr (slot_ne (Or.inl (hW 46 _ rfl)) (Or.inl (hW 44 _ rfl)) (by decide) (t := .int) (t' := .int) (by decide) (by decide)))), FSn, ((V566.other W580 (Ne.symm ne_ar)).other W588 (Ne.symm ne_ar)), O_r, ge_a, ge_r, ⟨b1, b2, by omega, by omega⟩, (by rw [hx1.1]; exact own_ringGet hR), own_cellsK (a := a) (r := r) (k := k) (m := mm) (vs := vs) hC1 ((((Keep.refl h0 [a, r]).wr W566 (Or.inl (List.mem_of_getElem? (i := 1) rfl))).wr W580 (Or.inl (List.mem_of_getElem? (i := 0) rfl))).wr W588 (Or.inl (List.mem_of_getElem? (i := 0) rfl))) (fun p hp => ninS (Exa.ne (hC1 p hp).1 E_a (by decide)) (ninS (Exa.neArv (hC1 p hp).1 V_r (hW 47 _ rfl)) nin0))⟩⟩
theorem ef_prog_46_method_8_R (m : MethodId) (x0 : Addr) : entryFrame m #[(.ref x0)] 3 = mkF m 0 #[.val (.ref x0), .unset, .unset] [] := by first | (simp [entryFrame, mkF, argsToLocals, Value.category]; done) | rfl
theorem d_prog_46_method_8_0 : decode prog_46_method_8_code 0 = .ok (.aload_n 0, 1) := by decide +kernel
theorem d_prog_46_method_8_1 : decode prog_46_method_8_code 1 = .ok (.getfield 21, 3) := by decide +kernel
theorem d_prog_46_method_8_4 : decode prog_46_method_8_code 4 = .ok (.ifCond .ne 5, 3) := by decide +kernel
theorem d_prog_46_method_8_9 : decode prog_46_method_8_code 9 = .ok (.aload_n 0, 1) := by decide +kernel
theorem d_prog_46_method_8_10 : decode prog_46_method_8_code 10 = .ok (.getfield 25, 3) := by decide +kernel
theorem d_prog_46_method_8_13 : decode prog_46_method_8_code 13 = .ok (.aload_n 0, 1) := by decide +kernel
theorem d_prog_46_method_8_14 : decode prog_46_method_8_code 14 = .ok (.getfield 21, 3) := by decide +kernel
theorem d_prog_46_method_8_17 : decode prog_46_method_8_code 17 = .ok (.iadd, 1) := by decide +kernel
theorem d_prog_46_method_8_18 : decode prog_46_method_8_code 18 = .ok (.iconst 1, 1) := by decide +kernel
theorem d_prog_46_method_8_19 : decode prog_46_method_8_code 19 = .ok (.isub, 1) := by decide +kernel
theorem d_prog_46_method_8_20 : decode prog_46_method_8_code 20 = .ok (.aload_n 0, 1) := by decide +kernel
theorem d_prog_46_method_8_21 : decode prog_46_method_8_code 21 = .ok (.getfield 15, 3) := by decide +kernel
theorem d_prog_46_method_8_24 : decode prog_46_method_8_code 24 = .ok (.arraylength, 1) := by decide +kernel
theorem d_prog_46_method_8_25 : decode prog_46_method_8_code 25 = .ok (.irem, 1) := by decide +kernel
theorem d_prog_46_method_8_26 : decode prog_46_method_8_code 26 = .ok (.istore_n 1, 1) := by decide +kernel
theorem d_prog_46_method_8_27 : decode prog_46_method_8_code 27 = .ok (.aload_n 0, 1) := by decide +kernel
theorem d_prog_46_method_8_28 : decode prog_46_method_8_code 28 = .ok (.getfield 15, 3) := by decide +kernel
theorem d_prog_46_method_8_31 : decode prog_46_method_8_code 31 = .ok (.iload_n 1, 1) := by decide +kernel
theorem d_prog_46_method_8_32 : decode prog_46_method_8_code 32 = .ok (.aaload, 1) := by decide +kernel
theorem d_prog_46_method_8_33 : decode prog_46_method_8_code 33 = .ok (.invokevirtual 45, 3) := by decide +kernel
theorem d_prog_46_method_8_36 : decode prog_46_method_8_code 36 = .ok (.astore_n 2, 1) := by decide +kernel
theorem d_prog_46_method_8_37 : decode prog_46_method_8_code 37 = .ok (.aload_n 0, 1) := by decide +kernel
theorem d_prog_46_method_8_38 : decode prog_46_method_8_code 38 = .ok (.getfield 15, 3) := by decide +kernel
theorem d_prog_46_method_8_41 : decode prog_46_method_8_code 41 = .ok (.iload_n 1, 1) := by decide +kernel
theorem d_prog_46_method_8_42 : decode prog_46_method_8_code 42 = .ok (.aconst_null, 1) := by decide +kernel
theorem d_prog_46_method_8_43 : decode prog_46_method_8_code 43 = .ok (.aastore, 1) := by decide +kernel
theorem d_prog_46_method_8_44 : decode prog_46_method_8_code 44 = .ok (.aload_n 0, 1) := by decide +kernel
theorem d_prog_46_method_8_45 : decode prog_46_method_8_code 45 = .ok (.dup, 1) := by decide +kernel
theorem d_prog_46_method_8_46 : decode prog_46_method_8_code 46 = .ok (.getfield 21, 3) := by decide +kernel
theorem d_prog_46_method_8_49 : decode prog_46_method_8_code 49 = .ok (.iconst 1, 1) := by decide +kernel
theorem d_prog_46_method_8_50 : decode prog_46_method_8_code 50 = .ok (.isub, 1) := by decide +kernel
theorem d_prog_46_method_8_51 : decode prog_46_method_8_code 51 = .ok (.putfield 21, 3) := by decide +kernel
theorem d_prog_46_method_8_54 : decode prog_46_method_8_code 54 = .ok (.aload_n 2, 1) := by decide +kernel
theorem d_prog_46_method_8_55 : decode prog_46_method_8_code 55 = .ok (.areturn, 1) := by decide +kernel
def QPL (Z : State) (a : Addr) (r : Addr) (k : ClassId) (mm : Int32) (f : Int32) (vs : List Value) (cs : List (Addr × Addr)) (c0 : Addr) (x0 : Addr) (h0 : Heap) (n0 : Nat) (v : Option Value) (h : Heap) (L : List Loc) : Prop := v = some (.ref x0) ∧ Fr n0 L ∧ Keep h0 h [a, r] ∧ ∃ (f2 : Int32) (v2 : List Value), own_Dq Z h n0 a r k mm f2 v2 cs
set_option maxRecDepth 65536 in
set_option maxHeartbeats 40000000 in
theorem rmPL (l : Launch) (Z : State) (a0 : Array Value) (hw : ∀ d ∈ tables_1, d.before a0 Z = true) (ws : List Jvm.Cond) (a : Addr) (r : Addr) (k : ClassId) (mm : Int32) (f : Int32) (vs : List Value) (cs : List (Addr × Addr)) (c0 : Addr) (x0 : Addr) (h0 : Heap) (n0 : Nat) (Z0 : n0 ≤ h0.size) (D : own_Dq Z h0 n0 a r k mm f vs (cs ++ [(c0, x0)])) :
    MetFree l (⟨"com/example/goalpost/goalpost/runtime/ListValue", "pull", "()Ljava/lang/Object;"⟩ : MethodName) (head1 (Jvm.Cond.code (⟨"com/example/goalpost/goalpost/runtime/ListValue", "pull", "()Ljava/lang/Object;"⟩ : MethodName) prog_46_method_8_code 3 (some (.object "java/lang/Object")) :: ws) ({ frames := 1, cells := 0, slots := 0, locals := 12 } : Room)) (fun aa UU => aa = #[(.ref a)] ∧ Z.Warmed39 UU.vm ∧ UU.heap = h0) (fun _ _ _ _ _ => True) (fun _ UU oo UU' => ∃ vv LL, oo = .returned vv ∧ QPL Z a r k mm f vs cs c0 x0 h0 n0 vv UU'.heap LL ∧ FrameEnd UU oo UU' LL ({ frames := 1, cells := 0, slots := 0, locals := 12 } : Room).cells ({ frames := 1, cells := 0, slots := 0, locals := 12 } : Room).slots) := by
  refine MetFree.of_bodySF (plainFor_of_name pn_53) hisR ?_
  intro p e s m args below meth c s₁ Bd hml0 hP hK
  obtain ⟨rfl, hZ, hh⟩ := hP
  have hx := Bd.exec
  have hby := Bd.bytes
  have hml : c.maxLocals = 3 := hml0
  have hown : s.vm.findClass "com/example/goalpost/goalpost/runtime/ListValue" = some m.cls := findClass_of_methodNamed Bd.named
  have hnm := (name_of_methodNamed Bd.named Bd.method).1
  have hW : ∀ (k : Nat) (d : Jvm.Cond), tables_1[k]? = some d → d.before a0 Z = true := fun k d h => hw d (List.mem_of_getElem? h)
  have X0 : Stand p l e ({ frames := 1, cells := 0, slots := 0, locals := 12 } : Room) s m #[(.ref a)] below meth c s₁ [] 0 0 := Stand.of_body Bd
  have e0 : s₁.heap = h0 := by rw [← hh, Bd.state]; rfl
  have N0 := Fr.nil n0
  obtain ⟨G, hG, K0⟩ : ∃ G : State → Prop, (∀ tq, G tq → Steps p.tables e below (s₁.setTop (entryFrame m #[(.ref a)] 3)) tq) ∧ Go p e below s₁ (mkF m 0 #[.val (.ref a), .unset, .unset] []) G := ⟨fun tq => Steps p.tables e below (s₁.setTop (entryFrame m #[(.ref a)] 3)) tq, fun _ h => h, fun tq kq => castTop (ef_prog_46_method_8_R m a) kq⟩
  obtain ⟨E_a, F_ring, F_front, F_size, V_r, O_r, ge_a, ge_r, hB, hR, hC⟩ := D
  have ne_ar : a ≠ r := Exa.neArv E_a V_r (hW 15 _ rfl)
  obtain ⟨b1, b2, b3, b4⟩ := hB
  have cmm := own_nat mm (by omega)
  have cf := own_nat f b3
  have hm0 : mm ≠ 0 := by
    intro q
    rw [q, own_I0] at b1
    omega
  have hln := hR.2.2.1
  have hl1 : (cs ++ [(c0, x0)]).length = cs.length + 1 := by simp
  have hl8 : cs.length ≤ 7 := by omega
  have hs0 : ¬ ((Int32.ofNat (cs ++ [(c0, x0)]).length) = (0 : Int32)) := by
    rw [← Int32.toInt_inj, hl1, own_ofNat _ (by omega), own_I0]
    omega
  have hmem : (c0, x0) ∈ (cs ++ [(c0, x0)]) := by simp
  have Ec0 := (hC _ hmem).1
  have Fc0 := (hC _ hmem).2
  have nec : c0 ≠ r := Exa.neArv Ec0 V_r (hW 47 _ rfl)
  have nea : c0 ≠ a := Exa.ne Ec0 E_a (by decide)
  have K591 : Go p e below s₁ (mkF m 1 #[.val (.ref a), .unset, .unset] [(.ref a)]) G := fun tq kq => K0 tq (XS.aloadN X0.here hx rfl (hb hby d_prog_46_method_8_0) rfl rfl kq)
  obtain ⟨T592, X592, e592, st592⟩ := getF X0 hx hZ hown (host := "") (Or.inl (hW 43 _ rfl)) Via.refl e0 F_size (g := (mkF m 1 #[.val (.ref a), .unset, .unset] [(.ref a)])) rfl rfl (hb hby d_prog_46_method_8_1)
  have K593 : Go p e below T592 (mkF m 4 #[.val (.ref a), .unset, .unset] [(.int (Int32.ofNat (cs ++ [(c0, x0)]).length))]) G := fun tq kq => K591 tq (st592 tq kq)
  have K594 : Go p e below T592 (mkF m 9 #[.val (.ref a), .unset, .unset] []) G := fun tq kq => K593 tq (XS.ifYes X592.here hx rfl (pc0 := 4) (pc' := 9) rfl (hb hby d_prog_46_method_8_4) rfl ((if0 _ _).trans (feq hs0).2) (by decide) (by decide) kq)
  have K595 : Go p e below T592 (mkF m 10 #[.val (.ref a), .unset, .unset] [(.ref a)]) G := fun tq kq => K594 tq (XS.aloadN X592.here hx rfl (hb hby d_prog_46_method_8_9) rfl rfl kq)
  obtain ⟨T596, X596, e596, st596⟩ := getF X592 hx hZ hown (host := "") (Or.inl (hW 45 _ rfl)) Via.refl e592 F_front (g := (mkF m 10 #[.val (.ref a), .unset, .unset] [(.ref a)])) rfl rfl (hb hby d_prog_46_method_8_10)
  have K597 : Go p e below T596 (mkF m 13 #[.val (.ref a), .unset, .unset] [(.int f)]) G := fun tq kq => K595 tq (st596 tq kq)
  have K598 : Go p e below T596 (mkF m 14 #[.val (.ref a), .unset, .unset] [(.ref a), (.int f)]) G := fun tq kq => K597 tq (XS.aloadN X596.here hx rfl (hb hby d_prog_46_method_8_13) rfl rfl kq)
  obtain ⟨T599, X599, e599, st599⟩ := getF X596 hx hZ hown (host := "") (Or.inl (hW 43 _ rfl)) Via.refl e596 F_size (g := (mkF m 14 #[.val (.ref a), .unset, .unset] [(.ref a), (.int f)])) rfl rfl (hb hby d_prog_46_method_8_14)
  have K600 : Go p e below T599 (mkF m 17 #[.val (.ref a), .unset, .unset] [(.int (Int32.ofNat (cs ++ [(c0, x0)]).length)), (.int f)]) G := fun tq kq => K598 tq (st599 tq kq)
  have K601 : Go p e below T599 (mkF m 18 #[.val (.ref a), .unset, .unset] [(.int (f + (Int32.ofNat (cs ++ [(c0, x0)]).length)))]) G := fun tq kq => K600 tq (XS.iadd X599.here hx rfl (hb hby d_prog_46_method_8_17) rfl kq)
  have K602 : Go p e below T599 (mkF m 19 #[.val (.ref a), .unset, .unset] [(.int (1 : Int32)), (.int (f + (Int32.ofNat (cs ++ [(c0, x0)]).length)))]) G := fun tq kq => K601 tq (XS.iconst X599.here hx rfl (hb hby d_prog_46_method_8_18) kq)
  have K603 : Go p e below T599 (mkF m 20 #[.val (.ref a), .unset, .unset] [(.int ((f + (Int32.ofNat (cs ++ [(c0, x0)]).length)) - (1 : Int32)))]) G := fun tq kq => K602 tq (XS.isub X599.here hx rfl (hb hby d_prog_46_method_8_19) rfl kq)
  have K604 : Go p e below T599 (mkF m 21 #[.val (.ref a), .unset, .unset] [(.ref a), (.int ((f + (Int32.ofNat (cs ++ [(c0, x0)]).length)) - (1 : Int32)))]) G := fun tq kq => K603 tq (XS.aloadN X599.here hx rfl (hb hby d_prog_46_method_8_20) rfl rfl kq)
  obtain ⟨T605, X605, e605, st605⟩ := getF X599 hx hZ hown (host := "") (Or.inl (hW 36 _ rfl)) Via.refl e599 F_ring (g := (mkF m 21 #[.val (.ref a), .unset, .unset] [(.ref a), (.int ((f + (Int32.ofNat (cs ++ [(c0, x0)]).length)) - (1 : Int32)))])) rfl rfl (hb hby d_prog_46_method_8_21)
  have K606 : Go p e below T605 (mkF m 24 #[.val (.ref a), .unset, .unset] [(.ref r), (.int ((f + (Int32.ofNat (cs ++ [(c0, x0)]).length)) - (1 : Int32)))]) G := fun tq kq => K604 tq (st605 tq kq)
  obtain ⟨cl607, Ar607, q607, S607, Nn607, Hh607, Gg607⟩ := id V_r
  have K608 : Go p e below T605 (mkF m 25 #[.val (.ref a), .unset, .unset] [(.int mm), (.int ((f + (Int32.ofNat (cs ++ [(c0, x0)]).length)) - (1 : Int32)))]) G := fun tq kq => K606 tq (X605.arraylength hx (by rw [e605]; exact Ar607.1) (State.isArrayOf_alike hZ.alike Ar607.2.1) (g := (mkF m 24 #[.val (.ref a), .unset, .unset] [(.ref r), (.int ((f + (Int32.ofNat (cs ++ [(c0, x0)]).length)) - (1 : Int32)))])) rfl rfl (hb hby d_prog_46_method_8_24) _ (by rw [len_of S607 Nn607]; exact kq))
  have K609 : Go p e below T605 (mkF m 26 #[.val (.ref a), .unset, .unset] [(.int (((f + (Int32.ofNat (cs ++ [(c0, x0)]).length)) - (1 : Int32)) % mm))]) G := fun tq kq => K608 tq (iremM X605 hx rfl (hb hby d_prog_46_method_8_25) rfl hm0 kq)
  have K610 : Go p e below T605 (mkF m 27 #[.val (.ref a), .val (.int (((f + (Int32.ofNat (cs ++ [(c0, x0)]).length)) - (1 : Int32)) % mm)), .unset] []) G := fun tq kq => K609 tq (XS.istoreN X605.here hx rfl (hb hby d_prog_46_method_8_26) rfl (l' := #[.val (.ref a), .val (.int (((f + (Int32.ofNat (cs ++ [(c0, x0)]).length)) - (1 : Int32)) % mm)), .unset]) rfl kq)
  have hxi : ((f + (Int32.ofNat (cs ++ [(c0, x0)]).length)) - (1 : Int32)).toInt = ((f.toNatClampNeg + cs.length : Nat) : Int) := by
    have c := own_fn f (cs ++ [(c0, x0)]).length b3 (by omega) (by omega)
    have d := c_isub (f + (Int32.ofNat (cs ++ [(c0, x0)]).length)) (1 : Int32)
    rw [own_I1] at d
    have r2 := rng32 ((f + (Int32.ofNat (cs ++ [(c0, x0)]).length)) - (1 : Int32))
    omega
  have hx0 := own_ix ((f + (Int32.ofNat (cs ++ [(c0, x0)]).length)) - (1 : Int32)) mm _ hxi b1
  obtain ⟨iq, h_iq⟩ : ∃ z, z = (((f + (Int32.ofNat (cs ++ [(c0, x0)]).length)) - (1 : Int32)) % mm) := ⟨_, rfl⟩
  have K611 : Go p e below T605 (mkF m 27 #[.val (.ref a), .val (.int iq), .unset] []) G := by rw [h_iq]; exact K610
  have hx1 := hx0
  rw [← h_iq] at hx1
  have K612 : Go p e below T605 (mkF m 28 #[.val (.ref a), .val (.int iq), .unset] [(.ref a)]) G := fun tq kq => K611 tq (XS.aloadN X605.here hx rfl (hb hby d_prog_46_method_8_27) rfl rfl kq)
  obtain ⟨T613, X613, e613, st613⟩ := getF X605 hx hZ hown (host := "") (Or.inl (hW 36 _ rfl)) Via.refl e605 F_ring (g := (mkF m 28 #[.val (.ref a), .val (.int iq), .unset] [(.ref a)])) rfl rfl (hb hby d_prog_46_method_8_28)
  have K614 : Go p e below T613 (mkF m 31 #[.val (.ref a), .val (.int iq), .unset] [(.ref r)]) G := fun tq kq => K612 tq (st613 tq kq)
  have K615 : Go p e below T613 (mkF m 32 #[.val (.ref a), .val (.int iq), .unset] [(.int iq), (.ref r)]) G := fun tq kq => K614 tq (XS.iloadN X613.here hx rfl (hb hby d_prog_46_method_8_31) rfl kq)
  obtain ⟨cl616, Ar616, q616, S616, Nn616, Hh616, Gg616⟩ := id V_r
  have hin616 : ¬ (iq < 0 ∨ cl616.slots.size ≤ (iq).toNatClampNeg) := inb_of S616 ⟨hx1.2.1, hx1.2.2.1⟩
  have hat616 := Has.at (v := (.ref c0)) Hh616 hin616 (by rw [hx1.1]; exact own_last hR)
  have K617 : Go p e below T613 (mkF m 33 #[.val (.ref a), .val (.int iq), .unset] [(.ref c0)]) G := fun tq kq => K615 tq (X613.aaload hx (j := iq) (v := (.ref c0)) (by rw [e613]; exact Ar616.1) (State.isArrayOf_alike hZ.alike Ar616.2.1) rfl Ar616.2.2 hin616 hat616 (g := (mkF m 32 #[.val (.ref a), .val (.int iq), .unset] [(.int iq), (.ref r)])) rfl rfl (hb hby d_prog_46_method_8_32) _ kq)
  obtain ⟨cq618, kq618, q618a, q618b, q618c⟩ := isOf hZ e613 Ec0
  obtain ⟨v618, _, ⟨T618, L618, k618, n618⟩, -, X618, ⟨Lc618, hQ618, l618, y618, z618⟩, st618⟩ := X613.virtualBack hx (y := (⟨"com/example/goalpost/goalpost/runtime/Cell", "get", "()Ljava/lang/Object;"⟩ : MethodName)) (z := (⟨"com/example/goalpost/goalpost/runtime/Cell", "get", "()Ljava/lang/Object;"⟩ : MethodName)) hown (mvT hZ (hW 88 _ rfl)) (mvT hZ (hW 74 _ rfl)) (notFace_of_selects (args := #[]) (mvT hZ (hW 76 _ rfl))) (mvT hZ (hW 76 _ rfl)) (mvT hZ (hW 75 _ rfl)) (by decide) (backOf (W := 0) (rmCG l Z a0 hw [] c0 x0 h0 n0 Z0 Fc0) hZ (hW 77 _ rfl) (hW 48 _ rfl) (by decide) (by decide)) q618a q618c (g := (mkF m 33 #[.val (.ref a), .val (.int iq), .unset] [(.ref c0)])) rfl (by rw [hml]; rfl) (Steps.refl _) (argsL := []) (rest := []) (lenOf pd_183 rfl) rfl (by show 2 * 0 + _ ≤ _; exact Nat.le_of_eq rfl) (hb hby d_prog_46_method_8_33) (fun _ _ => ⟨rfl, e613, (by decide : 0 + 0 ≤ _), (by decide : 0 + 0 ≤ _)⟩)
  dsimp only [Pt.U, Pt.locs, Pt.cells, Pt.slots] at X618 l618 y618 z618 st618 hQ618
  subst l618 y618 z618
  obtain ⟨rfl, N618q, E618q⟩ := hQ618
  have N618 := Fr.app N0 N618q
  have K619 : Go p e below T618 (mkF m 36 #[.val (.ref a), .val (.int iq), .unset] [(.ref x0)]) G := fun tq kq => K617 tq (st618.trans kq)
  have K620 : Go p e below T618 (mkF m 37 #[.val (.ref a), .val (.int iq), .val (.ref x0)] []) G := fun tq kq => K619 tq (XS.astoreN X618.here hx rfl (hb hby d_prog_46_method_8_36) rfl rfl (l' := #[.val (.ref a), .val (.int iq), .val (.ref x0)]) rfl kq)
  have K621 : Go p e below T618 (mkF m 38 #[.val (.ref a), .val (.int iq), .val (.ref x0)] [(.ref a)]) G := fun tq kq => K620 tq (XS.aloadN X618.here hx rfl (hb hby d_prog_46_method_8_37) rfl rfl kq)
  obtain ⟨T622, X622, e622, st622⟩ := getF X618 hx hZ hown (host := "") (Or.inl (hW 36 _ rfl)) Via.refl E618q F_ring (g := (mkF m 38 #[.val (.ref a), .val (.int iq), .val (.ref x0)] [(.ref a)])) rfl rfl (hb hby d_prog_46_method_8_38)
  have K623 : Go p e below T622 (mkF m 41 #[.val (.ref a), .val (.int iq), .val (.ref x0)] [(.ref r)]) G := fun tq kq => K621 tq (st622 tq kq)
  have K624 : Go p e below T622 (mkF m 42 #[.val (.ref a), .val (.int iq), .val (.ref x0)] [(.int iq), (.ref r)]) G := fun tq kq => K623 tq (XS.iloadN X622.here hx rfl (hb hby d_prog_46_method_8_41) rfl kq)
  have K625 : Go p e below T622 (mkF m 43 #[.val (.ref a), .val (.int iq), .val (.ref x0)] [.null, (.int iq), (.ref r)]) G := fun tq kq => K624 tq (XS.aconstNull X622.here hx rfl (hb hby d_prog_46_method_8_42) kq)
  obtain ⟨cl626, Ar626, q626, S626, Nn626, Hh626, Gg626⟩ := id V_r
  have hin626 : ¬ (iq < 0 ∨ cl626.slots.size ≤ (iq).toNatClampNeg) := inb_of S626 ⟨hx1.2.1, hx1.2.2.1⟩
  obtain ⟨T626, h626, X626, e626, W626, st626⟩ := stR X622 hx hZ e622 Ar626 (j := iq) hin626 rfl (Or.inl rfl) (g := (mkF m 43 #[.val (.ref a), .val (.int iq), .val (.ref x0)] [.null, (.int iq), (.ref r)])) rfl rfl (hb hby d_prog_46_method_8_43)
  have V626 : Arv Z h626 r k (.object "com/example/goalpost/goalpost/runtime/Cell") mm (vs.set ((f.toNatClampNeg + cs.length) % mm.toNatClampNeg) .null) .null := Arv.set Ar626 q626 S626 Nn626 Hh626 Gg626 rfl W626 ((f.toNatClampNeg + cs.length) % mm.toNatClampNeg) hx1.1 (by rw [hR.1]; exact Nat.mod_lt _ (by omega))
  have N626 := Fr.snoc X626 N618 ge_r
  have K627 : Go p e below T626 (mkF m 44 #[.val (.ref a), .val (.int iq), .val (.ref x0)] []) G := fun tq kq => K625 tq (st626 tq kq)
  have K628 : Go p e below T626 (mkF m 45 #[.val (.ref a), .val (.int iq), .val (.ref x0)] [(.ref a)]) G := fun tq kq => K627 tq (XS.aloadN X626.here hx rfl (hb hby d_prog_46_method_8_44) rfl rfl kq)
  have K629 : Go p e below T626 (mkF m 46 #[.val (.ref a), .val (.int iq), .val (.ref x0)] [(.ref a), (.ref a)]) G := fun tq kq => K628 tq (XS.dup X626.here hx rfl (hb hby d_prog_46_method_8_45) rfl rfl kq)
  obtain ⟨T630, X630, e630, st630⟩ := getF X626 hx hZ hown (host := "") (Or.inl (hW 43 _ rfl)) Via.refl e626 (F_size.other W626 (Or.inl ne_ar)) (g := (mkF m 46 #[.val (.ref a), .val (.int iq), .val (.ref x0)] [(.ref a), (.ref a)])) rfl rfl (hb hby d_prog_46_method_8_46)
  have K631 : Go p e below T630 (mkF m 49 #[.val (.ref a), .val (.int iq), .val (.ref x0)] [(.int (Int32.ofNat (cs ++ [(c0, x0)]).length)), (.ref a)]) G := fun tq kq => K629 tq (st630 tq kq)
  have K632 : Go p e below T630 (mkF m 50 #[.val (.ref a), .val (.int iq), .val (.ref x0)] [(.int (1 : Int32)), (.int (Int32.ofNat (cs ++ [(c0, x0)]).length)), (.ref a)]) G := fun tq kq => K631 tq (XS.iconst X630.here hx rfl (hb hby d_prog_46_method_8_49) kq)
  have K633 : Go p e below T630 (mkF m 51 #[.val (.ref a), .val (.int iq), .val (.ref x0)] [(.int ((Int32.ofNat (cs ++ [(c0, x0)]).length) - (1 : Int32))), (.ref a)]) G := fun tq kq => K632 tq (XS.isub X630.here hx rfl (hb hby d_prog_46_method_8_50) rfl kq)
  obtain ⟨T634, h634, X634, e634, W634, st634⟩ := putF X630 hx hZ hown (host := "") (Or.inl (hW 43 _ rfl)) Via.refl e630 (F_size.other W626 (Or.inl ne_ar)) (E_a.wr W626) (Or.inl (hW 44 _ rfl)) (hW 15 _ rfl) (ty := .int) (by decide) rfl rfl (g := (mkF m 51 #[.val (.ref a), .val (.int iq), .val (.ref x0)] [(.int ((Int32.ofNat (cs ++ [(c0, x0)]).length) - (1 : Int32))), (.ref a)])) rfl rfl (hb hby d_prog_46_method_8_51)
  have N634 := Fr.snoc X634 N626 ge_a
  have F634 := Fld.same W634 (F_size.other W626 (Or.inl ne_ar))
  have K635 : Go p e below T634 (mkF m 54 #[.val (.ref a), .val (.int iq), .val (.ref x0)] []) G := fun tq kq => K633 tq (st634 tq kq)
  have K636 : Go p e below T634 (mkF m 55 #[.val (.ref a), .val (.int iq), .val (.ref x0)] [(.ref x0)]) G := fun tq kq => K635 tq (XS.aloadN X634.here hx rfl (hb hby d_prog_46_method_8_54) rfl rfl kq)
  have hs1 : (Int32.ofNat (cs ++ [(c0, x0)]).length) - (1 : Int32) = Int32.ofNat cs.length := by rw [hl1]; exact own_dn1 _ (by omega)
  have FSn := F634
  rw [hs1] at FSn
  have hC1 : own_Cells Z h0 cs := fun p hp => hC p (by simp [hp])
  obtain ⟨fs, hr, hrun, hended, hWW, hsame⟩ := X634.leave (v := some (.ref x0)) (fun h => by rw [Bd.returns] at h; cases h)
  refine ⟨_, _, hG _ (K636 _ (retOut X634 hx Bd.returns rfl (Or.inr (Or.inr (Or.inr (Or.inr ⟨rfl, rfl, rfl⟩)))) (hb hby d_prog_46_method_8_55) hr)), hrun, hended, _, _, rfl, ?_, ⟨_, rfl⟩, hWW, hsame.mono (by decide) (by decide)⟩
  show QPL Z a r k mm f vs cs c0 x0 h0 n0 _ T634.heap _
  rw [e634]
  exact ⟨rfl, N634, (((Keep.refl h0 [a, r]).wr W626 (Or.inl (List.mem_of_getElem? (i := 1) rfl))).wr W634 (Or.inl (List.mem_of_getElem? (i := 0) rfl))), f, _, ⟨((E_a.wr W626).wr W634), ((F_ring.other W626 (Or.inl ne_ar)).other W634 (Or.inr (slot_ne (Or.inl (hW 37 _ rfl)) (Or.inl (hW 44 _ rfl)) (by decide) (t := (.array (.object "com/example/goalpost/goalpost/runtime/Cell"))) (t' := .int) (by decide) (by decide)))), ((F_front.other W626 (Or.inl ne_ar)).other W634 (Or.inr (slot_ne (Or.inl (hW 46 _ rfl)) (Or.inl (hW 44 _ rfl)) (by decide) (t := .int) (t' := .int) (by decide) (by decide)))), FSn, (V626.other W634 (Ne.symm ne_ar)), O_r, ge_a, ge_r, ⟨b1, b2, b3, b4⟩, own_ringPull hR, own_cellsK (a := a) (r := r) (k := k) (m := mm) (vs := vs) hC1 (((Keep.refl h0 [a, r]).wr W626 (Or.inl (List.mem_of_getElem? (i := 1) rfl))).wr W634 (Or.inl (List.mem_of_getElem? (i := 0) rfl))) (fun p hp => ninS (Exa.ne (hC1 p hp).1 E_a (by decide)) (ninS (Exa.neArv (hC1 p hp).1 V_r (hW 47 _ rfl)) nin0))⟩⟩
theorem own_Im1 : (-1 : Int32).toInt = -1 := by decide
theorem own_dqK {Z : State} {h h' : Heap} {n0 : Nat} {a r : Addr} {k : ClassId} {m f : Int32} {vs : List Value} {cs : List (Addr × Addr)} {ws : List Addr} (D : own_Dq Z h n0 a r k m f vs cs) (K : Keep h h' ws) (ha : a ∉ ws) (hr : r ∉ ws) (hc : ∀ p ∈ cs, p.1 ∉ ws) : own_Dq Z h' n0 a r k m f vs cs := by
  obtain ⟨d1, d2, d3, d4, d5, d6, d7, d8, d9, d10, d11⟩ := D
  exact ⟨d1.keep K, d2.keep K ha, d3.keep K ha, d4.keep K ha, d5.keep K hr, d6, d7, d8, d9, d10, fun p hp => ⟨(d11 p hp).1.keep K, (d11 p hp).2.keep K (hc p hp)⟩⟩
def own_Map (md : List Value) (lo : Nat) (cs : List (Addr × Addr)) : Prop := ∀ i p, cs[i]? = some p → md.getD (lo + i) .null = .ref p.2
theorem own_mapPush {md : List Value} {lo : Nat} {cs : List (Addr × Addr)} (c x : Addr) (h : own_Map md (lo + 1) cs) (hl : lo < md.length) : own_Map (md.set lo (.ref x)) lo ((c, x) :: cs) := by
  intro i p hp
  rw [own_getset _ _ _ _ hl]
  cases i with
  | zero => simp at hp; rw [if_pos (Nat.add_zero lo), ← hp]
  | succ i =>
    simp at hp
    rw [if_neg (by omega), ← h i p hp]
    exact congrArg (fun z => md.getD z Value.null) (by omega)
theorem own_mapPut {md : List Value} {lo : Nat} {cs : List (Addr × Addr)} (c x : Addr) (h : own_Map md lo cs) (hl : lo + cs.length < md.length) : own_Map (md.set (lo + cs.length) (.ref x)) lo (cs ++ [(c, x)]) := by
  intro i p hp
  rw [own_getset _ _ _ _ hl]
  by_cases hi : i < cs.length
  · rw [List.getElem?_append_left hi] at hp
    rw [if_neg (by omega)]
    exact h i p hp
  · rw [List.getElem?_append_right (by omega)] at hp
    have e : i = cs.length := by
      have q := (List.getElem?_eq_some_iff.mp hp).1
      simp at q
      omega
    subst e
    simp at hp
    rw [if_pos rfl, ← hp]
theorem own_mapGet {md : List Value} {lo : Nat} {cs : List (Addr × Addr)} {q : Addr × Addr} (h : own_Map md lo (q :: cs)) : own_Map md (lo + 1) cs := by
  intro i p hp
  have z := h (i + 1) p (by simpa using hp)
  rw [← z]
  exact congrArg (fun z => md.getD z Value.null) (by omega)
theorem own_mapPull {md : List Value} {lo : Nat} {cs : List (Addr × Addr)} {q : Addr × Addr} (h : own_Map md lo (cs ++ [q])) : own_Map md lo cs := by
  intro i p hp
  have hi := (List.getElem?_eq_some_iff.mp hp).1
  exact h i p (by rw [List.getElem?_append_left hi]; exact hp)
theorem pn_254 : plainName "java/lang/Long" = true := by first | (simp [plainName, overriddenIn]; done) | decide +kernel
theorem ef_jdk_35_method_24_J (m : MethodId) (x0 : Int64) : entryFrame m #[(.long x0)] 3 = mkF m 0 #[.val (.long x0), .second, .unset] [] := by first | (simp [entryFrame, mkF, argsToLocals, Value.category]; done) | rfl
theorem d_jdk_35_method_24_0 : decode jdk_35_method_24_code 0 = .ok (.sipush 128, 3) := by decide +kernel
theorem d_jdk_35_method_24_3 : decode jdk_35_method_24_code 3 = .ok (.istore_n 2, 1) := by decide +kernel
theorem d_jdk_35_method_24_4 : decode jdk_35_method_24_code 4 = .ok (.lload_n 0, 1) := by decide +kernel
theorem d_jdk_35_method_24_5 : decode jdk_35_method_24_code 5 = .ok (.ldc2_w 230, 3) := by decide +kernel
theorem d_jdk_35_method_24_8 : decode jdk_35_method_24_code 8 = .ok (.lcmp, 1) := by decide +kernel
theorem d_jdk_35_method_24_9 : decode jdk_35_method_24_code 9 = .ok (.ifCond .lt 22, 3) := by decide +kernel
theorem d_jdk_35_method_24_12 : decode jdk_35_method_24_code 12 = .ok (.lload_n 0, 1) := by decide +kernel
theorem d_jdk_35_method_24_13 : decode jdk_35_method_24_code 13 = .ok (.ldc2_w 232, 3) := by decide +kernel
theorem d_jdk_35_method_24_16 : decode jdk_35_method_24_code 16 = .ok (.lcmp, 1) := by decide +kernel
theorem d_jdk_35_method_24_17 : decode jdk_35_method_24_code 17 = .ok (.ifCond .gt 14, 3) := by decide +kernel
theorem d_jdk_35_method_24_20 : decode jdk_35_method_24_code 20 = .ok (.getstatic 234, 3) := by decide +kernel
theorem d_jdk_35_method_24_23 : decode jdk_35_method_24_code 23 = .ok (.lload_n 0, 1) := by decide +kernel
theorem d_jdk_35_method_24_24 : decode jdk_35_method_24_code 24 = .ok (.l2i, 1) := by decide +kernel
theorem d_jdk_35_method_24_25 : decode jdk_35_method_24_code 25 = .ok (.sipush 128, 3) := by decide +kernel
theorem d_jdk_35_method_24_28 : decode jdk_35_method_24_code 28 = .ok (.iadd, 1) := by decide +kernel
theorem d_jdk_35_method_24_29 : decode jdk_35_method_24_code 29 = .ok (.aaload, 1) := by decide +kernel
theorem d_jdk_35_method_24_30 : decode jdk_35_method_24_code 30 = .ok (.areturn, 1) := by decide +kernel
def QVO (Z : State) (q : Int64) (ca : Addr) (cc : Cell) (h0 : Heap) (n0 : Nat) (v : Option Value) (h : Heap) (L : List Loc) : Prop := ∃ b : Addr, v = some (.ref b) ∧ Fr n0 L ∧ h = h0 ∧ Exa Z h0 b "java/lang/Long"
set_option maxRecDepth 65536 in
set_option maxHeartbeats 40000000 in
theorem rmVO (l : Launch) (Z : State) (a0 : Array Value) (hw : ∀ d ∈ tables_1, d.before a0 Z = true) (ws : List Jvm.Cond) (q : Int64) (ca : Addr) (cc : Cell) (h0 : Heap) (n0 : Nat) (Z0 : n0 ≤ h0.size) (O0 : Old Z n0 h0) (S_cache : Sta Z Z.heap "java/lang/Long$LongCache" "cache" "[Ljava/lang/Long;" (.ref ca)) (ArC : Arr Z Z.heap ca cc (.object "java/lang/Long")) (hsz : cc.slots.size = 256) (hel : ∀ i, i < 256 → ∃ b, cc.slots[i]? = some (.ref b) ∧ Exa Z Z.heap b "java/lang/Long") (h1 : ¬ (q < (-128 : Int64))) (h2 : ¬ ((127 : Int64) < q)) (pk : ¬ (((q.toInt32) + (128 : Int32)) < 0 ∨ 256 ≤ ((q.toInt32) + (128 : Int32)).toNatClampNeg) ∧ ((q.toInt32) + (128 : Int32)).toNatClampNeg < 256) :
    MetFree l (⟨"java/lang/Long", "valueOf", "(J)Ljava/lang/Long;"⟩ : MethodName) (head1 (Jvm.Cond.code (⟨"java/lang/Long", "valueOf", "(J)Ljava/lang/Long;"⟩ : MethodName) jdk_35_method_24_code 3 (some (.object "java/lang/Long")) :: ws) ({ frames := 0, cells := 0, slots := 0, locals := 0 } : Room)) (fun aa UU => aa = #[(.long q)] ∧ Z.Warmed39 UU.vm ∧ UU.heap = h0) (fun _ _ _ _ _ => True) (fun _ UU oo UU' => ∃ vv LL, oo = .returned vv ∧ QVO Z q ca cc h0 n0 vv UU'.heap LL ∧ FrameEnd UU oo UU' LL ({ frames := 0, cells := 0, slots := 0, locals := 0 } : Room).cells ({ frames := 0, cells := 0, slots := 0, locals := 0 } : Room).slots) := by
  refine MetFree.of_bodySF (plainFor_of_name pn_254) hisR ?_
  intro p e s m args below meth c s₁ Bd hml0 hP hK
  obtain ⟨rfl, hZ, hh⟩ := hP
  have hx := Bd.exec
  have hby := Bd.bytes
  have hml : c.maxLocals = 3 := hml0
  have hown : s.vm.findClass "java/lang/Long" = some m.cls := findClass_of_methodNamed Bd.named
  have hnm := (name_of_methodNamed Bd.named Bd.method).1
  have hW : ∀ (k : Nat) (d : Jvm.Cond), tables_1[k]? = some d → d.before a0 Z = true := fun k d h => hw d (List.mem_of_getElem? h)
  have X0 : Stand p l e ({ frames := 0, cells := 0, slots := 0, locals := 0 } : Room) s m #[(.long q)] below meth c s₁ [] 0 0 := Stand.of_body Bd
  have e0 : s₁.heap = h0 := by rw [← hh, Bd.state]; rfl
  have N0 := Fr.nil n0
  obtain ⟨G, hG, K0⟩ : ∃ G : State → Prop, (∀ tq, G tq → Steps p.tables e below (s₁.setTop (entryFrame m #[(.long q)] 3)) tq) ∧ Go p e below s₁ (mkF m 0 #[.val (.long q), .second, .unset] []) G := ⟨fun tq => Steps p.tables e below (s₁.setTop (entryFrame m #[(.long q)] 3)) tq, fun _ h => h, fun tq kq => castTop (ef_jdk_35_method_24_J m q) kq⟩
  have K637 : Go p e below s₁ (mkF m 3 #[.val (.long q), .second, .unset] [(.int (128 : Int32))]) G := fun tq kq => K0 tq (XS.sipush X0.here hx rfl (hb hby d_jdk_35_method_24_0) kq)
  have K638 : Go p e below s₁ (mkF m 4 #[.val (.long q), .second, .val (.int (128 : Int32))] []) G := fun tq kq => K637 tq (XS.istoreN X0.here hx rfl (hb hby d_jdk_35_method_24_3) rfl (l' := #[.val (.long q), .second, .val (.int (128 : Int32))]) rfl kq)
  have K639 : Go p e below s₁ (mkF m 5 #[.val (.long q), .second, .val (.int (128 : Int32))] [(.long q)]) G := fun tq kq => K638 tq (XS.lloadN X0.here hx rfl (hb hby d_jdk_35_method_24_4) rfl kq)
  have K640 : Go p e below s₁ (mkF m 8 #[.val (.long q), .second, .val (.int (128 : Int32))] [(.long (-128 : Int64)), (.long q)]) G := fun tq kq => K639 tq (X0.ldc2Long hx hown (mvT hZ (hW 5 _ rfl)) (g := (mkF m 5 #[.val (.long q), .second, .val (.int (128 : Int32))] [(.long q)])) rfl (hb hby d_jdk_35_method_24_5) _ kq)
  have K641 : Go p e below s₁ (mkF m 9 #[.val (.long q), .second, .val (.int (128 : Int32))] [(.int (lcmpW q (-128 : Int64)))]) G := fun tq kq => K640 tq (XS.lcmp X0.here hx rfl (hb hby d_jdk_35_method_24_8) rfl kq)
  have K642 : Go p e below s₁ (mkF m 12 #[.val (.long q), .second, .val (.int (128 : Int32))] []) G := fun tq kq => K641 tq (XS.ifNo X0.here hx rfl (hb hby d_jdk_35_method_24_9) rfl ((if0 _ _).trans (flt (fun z => h1 ((lw_lt _ _).mp z))).1) kq)
  have K643 : Go p e below s₁ (mkF m 13 #[.val (.long q), .second, .val (.int (128 : Int32))] [(.long q)]) G := fun tq kq => K642 tq (XS.lloadN X0.here hx rfl (hb hby d_jdk_35_method_24_12) rfl kq)
  have K644 : Go p e below s₁ (mkF m 16 #[.val (.long q), .second, .val (.int (128 : Int32))] [(.long (127 : Int64)), (.long q)]) G := fun tq kq => K643 tq (X0.ldc2Long hx hown (mvT hZ (hW 6 _ rfl)) (g := (mkF m 13 #[.val (.long q), .second, .val (.int (128 : Int32))] [(.long q)])) rfl (hb hby d_jdk_35_method_24_13) _ kq)
  have K645 : Go p e below s₁ (mkF m 17 #[.val (.long q), .second, .val (.int (128 : Int32))] [(.int (lcmpW q (127 : Int64)))]) G := fun tq kq => K644 tq (XS.lcmp X0.here hx rfl (hb hby d_jdk_35_method_24_16) rfl kq)
  have K646 : Go p e below s₁ (mkF m 20 #[.val (.long q), .second, .val (.int (128 : Int32))] []) G := fun tq kq => K645 tq (XS.ifNo X0.here hx rfl (hb hby d_jdk_35_method_24_17) rfl ((if0 _ _).trans (flt (fun z => h2 ((lw_gt _ _).mp z))).2.2.1) kq)
  obtain ⟨T647, X647, e647, st647⟩ := getS2 X0 hx hZ hown (host := "") (Or.inl (hW 7 _ rfl)) Via.refl e0 (S_cache.ext O0.2) (g := (mkF m 20 #[.val (.long q), .second, .val (.int (128 : Int32))] [])) rfl (hb hby d_jdk_35_method_24_20)
  have K648 : Go p e below T647 (mkF m 23 #[.val (.long q), .second, .val (.int (128 : Int32))] [(.ref ca)]) G := fun tq kq => K646 tq (st647 tq kq)
  have K649 : Go p e below T647 (mkF m 24 #[.val (.long q), .second, .val (.int (128 : Int32))] [(.long q), (.ref ca)]) G := fun tq kq => K648 tq (XS.lloadN X647.here hx rfl (hb hby d_jdk_35_method_24_23) rfl kq)
  have K650 : Go p e below T647 (mkF m 25 #[.val (.long q), .second, .val (.int (128 : Int32))] [(.int (q.toInt32)), (.ref ca)]) G := fun tq kq => K649 tq (XS.l2i X647.here hx rfl (hb hby d_jdk_35_method_24_24) rfl kq)
  have K651 : Go p e below T647 (mkF m 28 #[.val (.long q), .second, .val (.int (128 : Int32))] [(.int (128 : Int32)), (.int (q.toInt32)), (.ref ca)]) G := fun tq kq => K650 tq (XS.sipush X647.here hx rfl (hb hby d_jdk_35_method_24_25) kq)
  have K652 : Go p e below T647 (mkF m 29 #[.val (.long q), .second, .val (.int (128 : Int32))] [(.int ((q.toInt32) + (128 : Int32))), (.ref ca)]) G := fun tq kq => K651 tq (XS.iadd X647.here hx rfl (hb hby d_jdk_35_method_24_28) rfl kq)
  obtain ⟨bx, hbx, Ebx⟩ := hel _ pk.2
  have ArN := ArC.ext O0.2
  have K653 : Go p e below T647 (mkF m 30 #[.val (.long q), .second, .val (.int (128 : Int32))] [(.ref bx)]) G := fun tq kq => K652 tq (X647.aaload hx (j := ((q.toInt32) + (128 : Int32))) (v := .ref bx) (by rw [e647]; exact ArN.1) (State.isArrayOf_alike hZ.alike ArN.2.1) rfl ArN.2.2 (by rw [hsz]; exact pk.1) hbx (g := (mkF m 29 #[.val (.long q), .second, .val (.int (128 : Int32))] [(.int ((q.toInt32) + (128 : Int32))), (.ref ca)])) rfl rfl (hb hby d_jdk_35_method_24_29) _ kq)
  obtain ⟨fs, hr, hrun, hended, hWW, hsame⟩ := X647.leave (v := some (.ref bx)) (fun h => by rw [Bd.returns] at h; cases h)
  refine ⟨_, _, hG _ (K653 _ (retOut X647 hx Bd.returns rfl (Or.inr (Or.inr (Or.inr (Or.inr ⟨rfl, rfl, rfl⟩)))) (hb hby d_jdk_35_method_24_30) hr)), hrun, hended, _, _, rfl, ?_, ⟨_, rfl⟩, hWW, hsame.mono (by decide) (by decide)⟩
  show QVO Z q ca cc h0 n0 _ T647.heap _
  rw [e647]
  exact ⟨bx, rfl, N0, rfl, Ebx.ext O0.2⟩
theorem own_uncons (cs : List (Addr × Addr)) (h : 0 < cs.length) : ∃ (p : Addr × Addr) (l : List (Addr × Addr)), cs = p :: l := by
  match cs, h with
  | p :: l, _ => exact ⟨p, l, rfl⟩
theorem own_unsnoc (cs : List (Addr × Addr)) (h : 0 < cs.length) : ∃ (p : Addr × Addr) (l : List (Addr × Addr)), cs = l ++ [p] := by
  have hne : cs ≠ [] := by intro q; rw [q] at h; simp at h
  exact ⟨cs.getLast hne, cs.dropLast, (List.dropLast_concat_getLast hne).symm⟩
theorem own_lo1 (l : Int32) (h : 1 ≤ l.toInt ∨ 0 ≤ l.toInt) : (l + (-1 : Int32)).toInt = l.toInt - 1 := by
  have c := c_iadd l (-1 : Int32)
  rw [own_Im1] at c
  have r := rng32 (l + (-1 : Int32))
  have r2 := rng32 l
  omega
theorem own_lon (l : Int32) (h : 1 ≤ l.toInt) : (l + (-1 : Int32)).toNatClampNeg + 1 = l.toNatClampNeg := by
  have a := own_lo1 l (Or.inl h)
  have b := own_nat l (by omega)
  have c := own_nat (l + (-1 : Int32)) (by omega)
  omega
theorem own_hi1 (l : Int32) (h : 0 ≤ l.toInt) (h2 : l.toInt ≤ 10) : (l + (1 : Int32)).toInt = l.toInt + 1 := by
  have c := c_iadd l (1 : Int32)
  rw [own_I1] at c
  have r := rng32 (l + (1 : Int32))
  omega
theorem own_hi1n (l : Int32) (h : 0 ≤ l.toInt) (h2 : l.toInt ≤ 10) : (l + (1 : Int32)).toNatClampNeg = l.toNatClampNeg + 1 := by
  have a := own_hi1 l h h2
  have b := own_nat l h
  have c := own_nat (l + (1 : Int32)) (by omega)
  omega
theorem own_hin (l u : Int32) (n : Nat) (h : 0 ≤ l.toInt) (e : l.toInt + (n : Int) = u.toInt) : u.toNatClampNeg = l.toNatClampNeg + n := by
  have b := own_nat l h
  have c := own_nat u (by omega)
  omega
def own_Nu (a b c : Int) (d e : Nat) (lo hi : Int32) (n : Nat) : Prop := a ≤ lo.toInt ∧ lo.toInt ≤ b ∧ hi.toInt ≤ c ∧ lo.toInt + (n : Int) = hi.toInt ∧ d ≤ n ∧ n ≤ e
theorem own_nu0 : own_Nu 5 5 5 0 0 (5 : Int32) (5 : Int32) ([] : List (Addr × Addr)).length := by
  refine ⟨?_, ?_, ?_, ?_, ?_, ?_⟩ <;> simp [own_I5]
theorem own_nuPush {a b c a' b' c' : Int} {d e d' e' : Nat} {lo hi : Int32} {cs : List (Addr × Addr)} {p : Addr × Addr} (h : own_Nu a b c d e lo hi cs.length) (g : 1 ≤ a ∧ a' + 1 ≤ a ∧ b ≤ b' + 1 ∧ c ≤ c' ∧ d' ≤ d + 1 ∧ e + 1 ≤ e') : own_Nu a' b' c' d' e' (lo + (-1 : Int32)) hi (p :: cs).length := by
  obtain ⟨h1, h2, h3, h4, h5, h6⟩ := h
  have q := own_lo1 lo (Or.inl (by omega))
  rw [List.length_cons]
  unfold own_Nu
  rw [q]
  clear q
  generalize hi.toInt = v at *
  generalize lo.toInt = u at *
  refine ⟨?_, ?_, ?_, ?_, ?_, ?_⟩ <;> omega
theorem own_nuPut {a b c a' b' c' : Int} {d e d' e' : Nat} {lo hi : Int32} {cs : List (Addr × Addr)} {p : Addr × Addr} (h : own_Nu a b c d e lo hi cs.length) (g : 0 ≤ a ∧ a' ≤ a ∧ b ≤ b' ∧ c + 1 ≤ c' ∧ c ≤ 10 ∧ d' ≤ d + 1 ∧ e + 1 ≤ e') : own_Nu a' b' c' d' e' lo (hi + (1 : Int32)) (cs ++ [p]).length := by
  obtain ⟨h1, h2, h3, h4, h5, h6⟩ := h
  have q := own_hi1 hi (by omega) (by omega)
  rw [show (cs ++ [p]).length = cs.length + 1 by simp]
  unfold own_Nu
  rw [q]
  clear q
  generalize hi.toInt = v at *
  generalize lo.toInt = u at *
  refine ⟨?_, ?_, ?_, ?_, ?_, ?_⟩ <;> omega
theorem own_nuGet {a b c a' b' c' : Int} {d e d' e' : Nat} {lo hi : Int32} {cs l : List (Addr × Addr)} {p : Addr × Addr} (h : own_Nu a b c d e lo hi cs.length) (q : cs = p :: l) (g : 0 ≤ a ∧ a' ≤ a + 1 ∧ b + 1 ≤ b' ∧ c ≤ c' ∧ b ≤ 10 ∧ d' + 1 ≤ d ∧ e ≤ e' + 1) : own_Nu a' b' c' d' e' (lo + (1 : Int32)) hi l.length := by
  obtain ⟨h1, h2, h3, h4, h5, h6⟩ := h
  have z := own_hi1 lo (by omega) (by omega)
  have hl := congrArg List.length q
  rw [List.length_cons] at hl
  clear q
  unfold own_Nu
  rw [z]
  clear z
  generalize hi.toInt = v at *
  generalize lo.toInt = u at *
  refine ⟨?_, ?_, ?_, ?_, ?_, ?_⟩ <;> omega
theorem own_nuPull {a b c a' b' c' : Int} {d e d' e' : Nat} {lo hi : Int32} {cs l : List (Addr × Addr)} {p : Addr × Addr} (h : own_Nu a b c d e lo hi cs.length) (q : cs = l ++ [p]) (g : 0 ≤ a ∧ a' ≤ a ∧ b ≤ b' ∧ c ≤ c' + 1 ∧ d' + 1 ≤ d ∧ e ≤ e' + 1) : own_Nu a' b' c' d' e' lo (hi + (-1 : Int32)) l.length := by
  obtain ⟨h1, h2, h3, h4, h5, h6⟩ := h
  have z := own_lo1 hi (Or.inr (by omega))
  have hl : cs.length = l.length + 1 := by rw [q]; simp
  clear q
  unfold own_Nu
  rw [z]
  clear z
  generalize hi.toInt = v at *
  generalize lo.toInt = u at *
  refine ⟨?_, ?_, ?_, ?_, ?_, ?_⟩ <;> omega
theorem own_nuSame {a b c a' b' c' : Int} {d e d' e' : Nat} {lo hi : Int32} {n : Nat} (h : own_Nu a b c d e lo hi n) (g : a' ≤ a ∧ b ≤ b' ∧ c ≤ c' ∧ d' ≤ d ∧ e ≤ e') : own_Nu a' b' c' d' e' lo hi n := by
  obtain ⟨h1, h2, h3, h4, h5, h6⟩ := h
  refine ⟨?_, ?_, ?_, ?_, ?_, ?_⟩ <;> omega
theorem own_nuLen {a b c : Int} {d e : Nat} {lo hi : Int32} {n : Nat} (h : own_Nu a b c d e lo hi n) (g : e ≤ 3) : n ≤ 3 := Nat.le_trans h.2.2.2.2.2 g
theorem own_nuPos {a b c : Int} {d e : Nat} {lo hi : Int32} {n : Nat} (h : own_Nu a b c d e lo hi n) (g : 1 ≤ d) : 0 < n := Nat.lt_of_lt_of_le g h.2.2.2.2.1
theorem own_nuInL {a b c : Int} {d e : Nat} {lo hi : Int32} {n : Nat} (h : own_Nu a b c d e lo hi n) (g : 1 ≤ a ∧ b ≤ 10) : ¬ ((lo + (-1 : Int32)) < 0) ∧ (lo + (-1 : Int32)) < (10 : Int32) := by
  obtain ⟨h1, h2, h3, h4, h5, h6⟩ := h
  have q := own_lo1 lo (by omega)
  rw [Int32.lt_iff_toInt_lt, Int32.lt_iff_toInt_lt, own_I0, own_I10]
  omega
theorem own_nuLtL {a b c : Int} {d e : Nat} {lo hi : Int32} {n : Nat} {md : List Value} (h : own_Nu a b c d e lo hi n) (g : 1 ≤ a ∧ b ≤ 10) (ml : md.length = 10) : (lo + (-1 : Int32)).toNatClampNeg < md.length := by
  obtain ⟨h1, h2, h3, h4, h5, h6⟩ := h
  have q := own_lon lo (by omega)
  have q2 := own_nat lo (by omega)
  omega
theorem own_nuInH {a b c : Int} {d e : Nat} {lo hi : Int32} {n : Nat} (h : own_Nu a b c d e lo hi n) (g : 0 ≤ a ∧ c ≤ 9) : ¬ (hi < 0) ∧ hi < (10 : Int32) := by
  obtain ⟨h1, h2, h3, h4, h5, h6⟩ := h
  rw [Int32.lt_iff_toInt_lt, Int32.lt_iff_toInt_lt, own_I0, own_I10]
  omega
theorem own_nuHin {a b c : Int} {d e : Nat} {lo hi : Int32} {n : Nat} (h : own_Nu a b c d e lo hi n) (g : 0 ≤ a) : hi.toNatClampNeg = lo.toNatClampNeg + n := own_hin lo hi n (Int.le_trans g h.1) h.2.2.2.1
theorem own_nuLt {a b c : Int} {d e : Nat} {lo hi : Int32} {n : Nat} {md : List Value} (h : own_Nu a b c d e lo hi n) (g : 0 ≤ a ∧ c ≤ 9) (ml : md.length = 10) : lo.toNatClampNeg + n < md.length := by
  have q := own_nuHin h g.1
  obtain ⟨h1, h2, h3, h4, h5, h6⟩ := h
  have q2 := own_nat hi (by omega)
  omega
theorem own_nuMapPush {a b c : Int} {d e : Nat} {lo hi : Int32} {n : Nat} {md : List Value} {cs : List (Addr × Addr)} {u x : Addr} (h : own_Nu a b c d e lo hi n) (g : 1 ≤ a ∧ b ≤ 10) (ml : md.length = 10) (mp : own_Map md lo.toNatClampNeg cs) : own_Map (md.set (lo + (-1 : Int32)).toNatClampNeg (.ref x)) (lo + (-1 : Int32)).toNatClampNeg ((u, x) :: cs) := by
  rw [← own_lon lo (Int.le_trans g.1 h.1)] at mp
  exact own_mapPush u x mp (own_nuLtL h g ml)
theorem own_nuMapGet {a b c : Int} {d e : Nat} {lo hi : Int32} {n : Nat} {md : List Value} {cs l : List (Addr × Addr)} {p : Addr × Addr} (h : own_Nu a b c d e lo hi n) (g : 0 ≤ a ∧ b ≤ 10) (q : cs = p :: l) (mp : own_Map md lo.toNatClampNeg cs) : own_Map md (lo + (1 : Int32)).toNatClampNeg l := by
  rw [own_hi1n lo (Int.le_trans g.1 h.1) (Int.le_trans h.2.1 g.2)]
  rw [q] at mp
  exact own_mapGet mp
theorem own_nuSzv {lo hi sz : Int32} {n : Nat} (h : own_Nu 1 6 9 3 4 lo hi n) (hs : sz = (hi - lo)) : sz.toInt = (n : Int) := by
  obtain ⟨h1, h2, h3, h4, h5, h6⟩ := h
  rw [hs]
  have c := c_isub hi lo
  have r := rng32 (hi - lo)
  omega
theorem own_nuSz {lo hi sz : Int32} {n : Nat} (h : own_Nu 1 6 9 3 4 lo hi n) (hs : sz = (hi - lo)) : sz ≠ 0 := by
  intro q
  have v := own_nuSzv h hs
  obtain ⟨h1, h2, h3, h4, h5, h6⟩ := h
  rw [q, own_I0] at v
  omega
theorem own_nuIx {lo hi sz x i : Int32} {n : Nat} (h : own_Nu 1 6 9 3 4 lo hi n) (hs : sz = (hi - lo)) (hi' : i = ((x &&& (2147483647 : Int32)) % sz)) : 0 ≤ i.toInt ∧ i.toNatClampNeg < n ∧ i.toInt ≤ 8 ∧ (¬ ((lo + i) < 0) ∧ (lo + i) < (10 : Int32)) ∧ (lo + i).toNatClampNeg = lo.toNatClampNeg + i.toNatClampNeg := by
  have v := own_nuSzv h hs
  obtain ⟨h1, h2, h3, h4, h5, h6⟩ := h
  have b : 0 ≤ i.toInt ∧ i.toInt < sz.toInt := by
    rw [hi']
    have q := c_and x (2147483647 : Int32) (by decide)
    have q2 := (c_iremV (x &&& (2147483647 : Int32)) sz).1 q.1 (by omega)
    exact ⟨q2.1, q2.2.1⟩
  have e := own_nat i b.1
  have e2 := own_nat lo (by omega)
  have f := own_fi lo i (by omega) (by omega) b.1 (by omega)
  have e3 := own_nat (lo + i) (by omega)
  rw [Int32.lt_iff_toInt_lt, Int32.lt_iff_toInt_lt, own_I0, own_I10]
  omega
theorem pn_273 : plainName "com/example/goalpost/goalpost/runtime/ListValueAtPinLaw" = true := by first | (simp [plainName, overriddenIn]; done) | decide +kernel
theorem ef_code_IIII (m : MethodId) (x0 : Int32) (x1 : Int32) (x2 : Int32) (x3 : Int32) : entryFrame m #[(.int x0), (.int x1), (.int x2), (.int x3)] maxLocals = mkF m 0 #[.val (.int x0), .val (.int x1), .val (.int x2), .val (.int x3), .unset, .unset, .unset, .unset, .unset, .unset, .unset, .unset, .unset, .unset, .unset, .unset, .unset, .unset] [] := by first | (simp [entryFrame, mkF, argsToLocals, Value.category, maxLocals]; done) | rfl
theorem pd_275 : parseMethodDescriptor "(J)Ljava/lang/Long;" = some ⟨[.long], some (.object "java/lang/Long")⟩ := by decide +kernel
theorem pd_276 : parseMethodDescriptor "(II)V" = some ⟨[.int, .int], none⟩ := by decide +kernel
def Q0 (Z : State) (q0 : Int32) (q1 : Int32) (q2 : Int32) (q3 : Int32) (ca : Addr) (cc : Cell) (h0 : Heap) (n0 : Nat) (v : Option Value) (h : Heap) (L : List Loc) : Prop := v = some (.int 1) ∧ Fr n0 L
set_option maxRecDepth 65536 in
set_option maxHeartbeats 40000000 in
theorem rm0 (l : Launch) (Z : State) (a0 : Array Value) (hw : ∀ d ∈ tables_1, d.before a0 Z = true) (ws : List Jvm.Cond) (q0 : Int32) (q1 : Int32) (q2 : Int32) (q3 : Int32) (ca : Addr) (cc : Cell) (h0 : Heap) (n0 : Nat) (Z0 : n0 ≤ h0.size) (O0 : Old Z n0 h0) (S_cache : Sta Z Z.heap "java/lang/Long$LongCache" "cache" "[Ljava/lang/Long;" (.ref ca)) (ArC : Arr Z Z.heap ca cc (.object "java/lang/Long")) (hsz : cc.slots.size = 256) (hel : ∀ i, i < 256 → ∃ b, cc.slots[i]? = some (.ref b) ∧ Exa Z Z.heap b "java/lang/Long") :
    MetFree l x (head1 (Jvm.Cond.code x code maxLocals ret :: ws) room_1) (fun aa UU => aa = #[(.int q0), (.int q1), (.int q2), (.int q3)] ∧ Z.Warmed39 UU.vm ∧ UU.heap = h0) (fun _ _ _ _ _ => True) (fun _ UU oo UU' => ∃ vv LL, oo = .returned vv ∧ Q0 Z q0 q1 q2 q3 ca cc h0 n0 vv UU'.heap LL ∧ FrameEnd UU oo UU' LL 32 128) := by
  refine MetFree.of_bodySF (plainFor_of_name pn_273) hisR ?_
  intro p e s m args below meth c s₁ Bd hml0 hP hK
  obtain ⟨rfl, hZ, hh⟩ := hP
  have hx := Bd.exec
  have hby := Bd.bytes
  have hml : c.maxLocals = 18 := hml0
  have hown : s.vm.findClass "com/example/goalpost/goalpost/runtime/ListValueAtPinLaw" = some m.cls := findClass_of_methodNamed Bd.named
  have hnm := (name_of_methodNamed Bd.named Bd.method).1
  have hW : ∀ (k : Nat) (d : Jvm.Cond), tables_1[k]? = some d → d.before a0 Z = true := fun k d h => hw d (List.mem_of_getElem? h)
  have X0 : Stand p l e room_1 s m #[(.int q0), (.int q1), (.int q2), (.int q3)] below meth c s₁ [] 0 0 := Stand.of_body Bd
  have e0 : s₁.heap = h0 := by rw [← hh, Bd.state]; rfl
  have N0 := Fr.nil n0
  obtain ⟨G, hG, K0⟩ : ∃ G : State → Prop, (∀ tq, G tq → Steps p.tables e below (s₁.setTop (entryFrame m #[(.int q0), (.int q1), (.int q2), (.int q3)] maxLocals)) tq) ∧ Go p e below s₁ (mkF m 0 #[.val (.int q0), .val (.int q1), .val (.int q2), .val (.int q3), .unset, .unset, .unset, .unset, .unset, .unset, .unset, .unset, .unset, .unset, .unset, .unset, .unset, .unset] []) G := ⟨fun tq => Steps p.tables e below (s₁.setTop (entryFrame m #[(.int q0), (.int q1), (.int q2), (.int q3)] maxLocals)) tq, fun _ h => h, fun tq kq => castTop (ef_code_IIII m q0 q1 q2 q3) kq⟩
  have K654 : Go p e below s₁ (mkF m 3 #[.val (.int q0), .val (.int q1), .val (.int q2), .val (.int q3), .unset, .unset, .unset, .unset, .unset, .unset, .unset, .unset, .unset, .unset, .unset, .unset, .unset, .unset] [(.long (11 : Int64))]) G := fun tq kq => K0 tq (X0.ldc2Long hx hown (mvT hZ (hW 0 _ rfl)) (g := (mkF m 0 #[.val (.int q0), .val (.int q1), .val (.int q2), .val (.int q3), .unset, .unset, .unset, .unset, .unset, .unset, .unset, .unset, .unset, .unset, .unset, .unset, .unset, .unset] [])) rfl (hb hby at_0) _ kq)
  obtain ⟨v655, _, ⟨T655, L655, k655, n655⟩, -, X655, ⟨Lc655, hQ655, l655, y655, z655⟩, st655⟩ := Jvm.LawKit.callS X0 hx (y := (⟨"java/lang/Long", "valueOf", "(J)Ljava/lang/Long;"⟩ : MethodName)) hown (mvT hZ (hW 1 _ rfl)) (mvT hZ (hW 2 _ rfl)) (mvT hZ (hW 3 _ rfl)) (mvT hZ (hW 4 _ rfl)) (by decide) (backOf (W := 0) (rmVO l Z a0 hw [] (11 : Int64) ca cc h0 n0 Z0 O0 S_cache ArC hsz hel (by decide) (by decide) (by decide)) hZ (hW 4 _ rfl) (hW 3 _ rfl) (by decide) (by decide)) (g := (mkF m 3 #[.val (.int q0), .val (.int q1), .val (.int q2), .val (.int q3), .unset, .unset, .unset, .unset, .unset, .unset, .unset, .unset, .unset, .unset, .unset, .unset, .unset, .unset] [(.long (11 : Int64))])) rfl (by rw [hml]; rfl) (argsL := [(.long (11 : Int64))]) (rest := []) (lenOf pd_275 rfl) rfl (by show 2 * 0 + _ ≤ _; exact Nat.le_of_eq rfl) (hb hby at_3) (fun _ _ => ⟨rfl, e0, (by decide : 0 + 0 ≤ _), (by decide : 0 + 0 ≤ _)⟩)
  dsimp only [Pt.U, Pt.locs, Pt.cells, Pt.slots] at X655 l655 y655 z655 st655 hQ655
  subst l655 y655 z655
  obtain ⟨x655, rfl, N655q, E655q, EX655⟩ := hQ655
  have N655 := Fr.app N0 N655q
  have K656 : Go p e below T655 (mkF m 6 #[.val (.int q0), .val (.int q1), .val (.int q2), .val (.int q3), .unset, .unset, .unset, .unset, .unset, .unset, .unset, .unset, .unset, .unset, .unset, .unset, .unset, .unset] [(.ref x655)]) G := fun tq kq => K654 tq (st655 tq kq)
  have K657 : Go p e below T655 (mkF m 8 #[.val (.int q0), .val (.int q1), .val (.int q2), .val (.int q3), .val (.ref x655), .unset, .unset, .unset, .unset, .unset, .unset, .unset, .unset, .unset, .unset, .unset, .unset, .unset] []) G := fun tq kq => K656 tq (XS.astore X655.here hx rfl (hb hby at_6) rfl rfl (l' := #[.val (.int q0), .val (.int q1), .val (.int q2), .val (.int q3), .val (.ref x655), .unset, .unset, .unset, .unset, .unset, .unset, .unset, .unset, .unset, .unset, .unset, .unset, .unset]) rfl kq)
  have K658 : Go p e below T655 (mkF m 11 #[.val (.int q0), .val (.int q1), .val (.int q2), .val (.int q3), .val (.ref x655), .unset, .unset, .unset, .unset, .unset, .unset, .unset, .unset, .unset, .unset, .unset, .unset, .unset] [(.long (12 : Int64))]) G := fun tq kq => K657 tq (X655.ldc2Long hx hown (mvT hZ (hW 9 _ rfl)) (g := (mkF m 8 #[.val (.int q0), .val (.int q1), .val (.int q2), .val (.int q3), .val (.ref x655), .unset, .unset, .unset, .unset, .unset, .unset, .unset, .unset, .unset, .unset, .unset, .unset, .unset] [])) rfl (hb hby at_8) _ kq)
  obtain ⟨v659, _, ⟨T659, L659, k659, n659⟩, -, X659, ⟨Lc659, hQ659, l659, y659, z659⟩, st659⟩ := Jvm.LawKit.callS X655 hx (y := (⟨"java/lang/Long", "valueOf", "(J)Ljava/lang/Long;"⟩ : MethodName)) hown (mvT hZ (hW 1 _ rfl)) (mvT hZ (hW 2 _ rfl)) (mvT hZ (hW 3 _ rfl)) (mvT hZ (hW 4 _ rfl)) (by decide) (backOf (W := 0) (rmVO l Z a0 hw [] (12 : Int64) ca cc h0 n0 Z0 O0 S_cache ArC hsz hel (by decide) (by decide) (by decide)) hZ (hW 4 _ rfl) (hW 3 _ rfl) (by decide) (by decide)) (g := (mkF m 11 #[.val (.int q0), .val (.int q1), .val (.int q2), .val (.int q3), .val (.ref x655), .unset, .unset, .unset, .unset, .unset, .unset, .unset, .unset, .unset, .unset, .unset, .unset, .unset] [(.long (12 : Int64))])) rfl (by rw [hml]; rfl) (argsL := [(.long (12 : Int64))]) (rest := []) (lenOf pd_275 rfl) rfl (by show 2 * 0 + _ ≤ _; exact Nat.le_of_eq rfl) (hb hby at_11) (fun _ _ => ⟨rfl, E655q, (by decide : 0 + 0 ≤ _), (by decide : 0 + 0 ≤ _)⟩)
  dsimp only [Pt.U, Pt.locs, Pt.cells, Pt.slots] at X659 l659 y659 z659 st659 hQ659
  subst l659 y659 z659
  obtain ⟨x659, rfl, N659q, E659q, EX659⟩ := hQ659
  have N659 := Fr.app N655 N659q
  have K660 : Go p e below T659 (mkF m 14 #[.val (.int q0), .val (.int q1), .val (.int q2), .val (.int q3), .val (.ref x655), .unset, .unset, .unset, .unset, .unset, .unset, .unset, .unset, .unset, .unset, .unset, .unset, .unset] [(.ref x659)]) G := fun tq kq => K658 tq (st659 tq kq)
  have K661 : Go p e below T659 (mkF m 16 #[.val (.int q0), .val (.int q1), .val (.int q2), .val (.int q3), .val (.ref x655), .val (.ref x659), .unset, .unset, .unset, .unset, .unset, .unset, .unset, .unset, .unset, .unset, .unset, .unset] []) G := fun tq kq => K660 tq (XS.astore X659.here hx rfl (hb hby at_14) rfl rfl (l' := #[.val (.int q0), .val (.int q1), .val (.int q2), .val (.int q3), .val (.ref x655), .val (.ref x659), .unset, .unset, .unset, .unset, .unset, .unset, .unset, .unset, .unset, .unset, .unset, .unset]) rfl kq)
  have K662 : Go p e below T659 (mkF m 19 #[.val (.int q0), .val (.int q1), .val (.int q2), .val (.int q3), .val (.ref x655), .val (.ref x659), .unset, .unset, .unset, .unset, .unset, .unset, .unset, .unset, .unset, .unset, .unset, .unset] [(.long (13 : Int64))]) G := fun tq kq => K661 tq (X659.ldc2Long hx hown (mvT hZ (hW 10 _ rfl)) (g := (mkF m 16 #[.val (.int q0), .val (.int q1), .val (.int q2), .val (.int q3), .val (.ref x655), .val (.ref x659), .unset, .unset, .unset, .unset, .unset, .unset, .unset, .unset, .unset, .unset, .unset, .unset] [])) rfl (hb hby at_16) _ kq)
  obtain ⟨v663, _, ⟨T663, L663, k663, n663⟩, -, X663, ⟨Lc663, hQ663, l663, y663, z663⟩, st663⟩ := Jvm.LawKit.callS X659 hx (y := (⟨"java/lang/Long", "valueOf", "(J)Ljava/lang/Long;"⟩ : MethodName)) hown (mvT hZ (hW 1 _ rfl)) (mvT hZ (hW 2 _ rfl)) (mvT hZ (hW 3 _ rfl)) (mvT hZ (hW 4 _ rfl)) (by decide) (backOf (W := 0) (rmVO l Z a0 hw [] (13 : Int64) ca cc h0 n0 Z0 O0 S_cache ArC hsz hel (by decide) (by decide) (by decide)) hZ (hW 4 _ rfl) (hW 3 _ rfl) (by decide) (by decide)) (g := (mkF m 19 #[.val (.int q0), .val (.int q1), .val (.int q2), .val (.int q3), .val (.ref x655), .val (.ref x659), .unset, .unset, .unset, .unset, .unset, .unset, .unset, .unset, .unset, .unset, .unset, .unset] [(.long (13 : Int64))])) rfl (by rw [hml]; rfl) (argsL := [(.long (13 : Int64))]) (rest := []) (lenOf pd_275 rfl) rfl (by show 2 * 0 + _ ≤ _; exact Nat.le_of_eq rfl) (hb hby at_19) (fun _ _ => ⟨rfl, E659q, (by decide : 0 + 0 ≤ _), (by decide : 0 + 0 ≤ _)⟩)
  dsimp only [Pt.U, Pt.locs, Pt.cells, Pt.slots] at X663 l663 y663 z663 st663 hQ663
  subst l663 y663 z663
  obtain ⟨x663, rfl, N663q, E663q, EX663⟩ := hQ663
  have N663 := Fr.app N659 N663q
  have K664 : Go p e below T663 (mkF m 22 #[.val (.int q0), .val (.int q1), .val (.int q2), .val (.int q3), .val (.ref x655), .val (.ref x659), .unset, .unset, .unset, .unset, .unset, .unset, .unset, .unset, .unset, .unset, .unset, .unset] [(.ref x663)]) G := fun tq kq => K662 tq (st663 tq kq)
  have K665 : Go p e below T663 (mkF m 24 #[.val (.int q0), .val (.int q1), .val (.int q2), .val (.int q3), .val (.ref x655), .val (.ref x659), .val (.ref x663), .unset, .unset, .unset, .unset, .unset, .unset, .unset, .unset, .unset, .unset, .unset] []) G := fun tq kq => K664 tq (XS.astore X663.here hx rfl (hb hby at_22) rfl rfl (l' := #[.val (.int q0), .val (.int q1), .val (.int q2), .val (.int q3), .val (.ref x655), .val (.ref x659), .val (.ref x663), .unset, .unset, .unset, .unset, .unset, .unset, .unset, .unset, .unset, .unset, .unset]) rfl kq)
  have K666 : Go p e below T663 (mkF m 27 #[.val (.int q0), .val (.int q1), .val (.int q2), .val (.int q3), .val (.ref x655), .val (.ref x659), .val (.ref x663), .unset, .unset, .unset, .unset, .unset, .unset, .unset, .unset, .unset, .unset, .unset] [(.long (14 : Int64))]) G := fun tq kq => K665 tq (X663.ldc2Long hx hown (mvT hZ (hW 11 _ rfl)) (g := (mkF m 24 #[.val (.int q0), .val (.int q1), .val (.int q2), .val (.int q3), .val (.ref x655), .val (.ref x659), .val (.ref x663), .unset, .unset, .unset, .unset, .unset, .unset, .unset, .unset, .unset, .unset, .unset] [])) rfl (hb hby at_24) _ kq)
  obtain ⟨v667, _, ⟨T667, L667, k667, n667⟩, -, X667, ⟨Lc667, hQ667, l667, y667, z667⟩, st667⟩ := Jvm.LawKit.callS X663 hx (y := (⟨"java/lang/Long", "valueOf", "(J)Ljava/lang/Long;"⟩ : MethodName)) hown (mvT hZ (hW 1 _ rfl)) (mvT hZ (hW 2 _ rfl)) (mvT hZ (hW 3 _ rfl)) (mvT hZ (hW 4 _ rfl)) (by decide) (backOf (W := 0) (rmVO l Z a0 hw [] (14 : Int64) ca cc h0 n0 Z0 O0 S_cache ArC hsz hel (by decide) (by decide) (by decide)) hZ (hW 4 _ rfl) (hW 3 _ rfl) (by decide) (by decide)) (g := (mkF m 27 #[.val (.int q0), .val (.int q1), .val (.int q2), .val (.int q3), .val (.ref x655), .val (.ref x659), .val (.ref x663), .unset, .unset, .unset, .unset, .unset, .unset, .unset, .unset, .unset, .unset, .unset] [(.long (14 : Int64))])) rfl (by rw [hml]; rfl) (argsL := [(.long (14 : Int64))]) (rest := []) (lenOf pd_275 rfl) rfl (by show 2 * 0 + _ ≤ _; exact Nat.le_of_eq rfl) (hb hby at_27) (fun _ _ => ⟨rfl, E663q, (by decide : 0 + 0 ≤ _), (by decide : 0 + 0 ≤ _)⟩)
  dsimp only [Pt.U, Pt.locs, Pt.cells, Pt.slots] at X667 l667 y667 z667 st667 hQ667
  subst l667 y667 z667
  obtain ⟨x667, rfl, N667q, E667q, EX667⟩ := hQ667
  have N667 := Fr.app N663 N667q
  have K668 : Go p e below T667 (mkF m 30 #[.val (.int q0), .val (.int q1), .val (.int q2), .val (.int q3), .val (.ref x655), .val (.ref x659), .val (.ref x663), .unset, .unset, .unset, .unset, .unset, .unset, .unset, .unset, .unset, .unset, .unset] [(.ref x667)]) G := fun tq kq => K666 tq (st667 tq kq)
  have K669 : Go p e below T667 (mkF m 32 #[.val (.int q0), .val (.int q1), .val (.int q2), .val (.int q3), .val (.ref x655), .val (.ref x659), .val (.ref x663), .val (.ref x667), .unset, .unset, .unset, .unset, .unset, .unset, .unset, .unset, .unset, .unset] []) G := fun tq kq => K668 tq (XS.astore X667.here hx rfl (hb hby at_30) rfl rfl (l' := #[.val (.int q0), .val (.int q1), .val (.int q2), .val (.int q3), .val (.ref x655), .val (.ref x659), .val (.ref x663), .val (.ref x667), .unset, .unset, .unset, .unset, .unset, .unset, .unset, .unset, .unset, .unset]) rfl kq)
  have K670 : Go p e below T667 (mkF m 34 #[.val (.int q0), .val (.int q1), .val (.int q2), .val (.int q3), .val (.ref x655), .val (.ref x659), .val (.ref x663), .val (.ref x667), .unset, .unset, .unset, .unset, .unset, .unset, .unset, .unset, .unset, .unset] [(.int (10 : Int32))]) G := fun tq kq => K669 tq (XS.bipush X667.here hx rfl (hb hby at_32) kq)
  obtain ⟨T671, h671, k671, X671, e671, E671, A671, O671, st671⟩ := newR X667 hx hZ hown (hW 12 _ rfl) (hW 13 _ rfl) E667q (g := (mkF m 34 #[.val (.int q0), .val (.int q1), .val (.int q2), .val (.int q3), .val (.ref x655), .val (.ref x659), .val (.ref x663), .val (.ref x667), .unset, .unset, .unset, .unset, .unset, .unset, .unset, .unset, .unset, .unset] [(.int (10 : Int32))])) rfl (hb hby at_34) rfl (by decide) (cap := 10) (by decide) (by decide) (by decide) (by decide)
  obtain ⟨b671, g671⟩ : ∃ z, z = h0.size := ⟨_, rfl⟩
  rw [← g671] at A671 st671
  have ne671_x655 : x655 ≠ b671 := Nat.ne_of_lt (Nat.lt_of_lt_of_le EX655.lt (Nat.le_of_eq g671.symm))
  have ne671_x659 : x659 ≠ b671 := Nat.ne_of_lt (Nat.lt_of_lt_of_le EX659.lt (Nat.le_of_eq g671.symm))
  have ne671_x663 : x663 ≠ b671 := Nat.ne_of_lt (Nat.lt_of_lt_of_le EX663.lt (Nat.le_of_eq g671.symm))
  have ne671_x667 : x667 ≠ b671 := Nat.ne_of_lt (Nat.lt_of_lt_of_le EX667.lt (Nat.le_of_eq g671.symm))
  have ge_b671 : n0 ≤ b671 := Nat.le_trans Z0 (Nat.le_of_eq g671.symm)
  have sz_b671 : h0.size ≤ b671 := Nat.le_trans ((Keep.refl h0 [])).1 (Nat.le_of_eq g671.symm)
  have V671 : Arv Z h671 b671 k671 (.object "java/lang/Object") (10 : Int32) [.null, .null, .null, .null, .null, .null, .null, .null, .null, .null] .null := (Arv.new A671 (by decide)).pad (pad_rep [] .null 10)
  have K672 : Go p e below T671 (mkF m 37 #[.val (.int q0), .val (.int q1), .val (.int q2), .val (.int q3), .val (.ref x655), .val (.ref x659), .val (.ref x663), .val (.ref x667), .unset, .unset, .unset, .unset, .unset, .unset, .unset, .unset, .unset, .unset] [(.ref b671)]) G := fun tq kq => K670 tq (st671 tq kq)
  have K673 : Go p e below T671 (mkF m 39 #[.val (.int q0), .val (.int q1), .val (.int q2), .val (.int q3), .val (.ref x655), .val (.ref x659), .val (.ref x663), .val (.ref x667), .val (.ref b671), .unset, .unset, .unset, .unset, .unset, .unset, .unset, .unset, .unset] []) G := fun tq kq => K672 tq (XS.astore X671.here hx rfl (hb hby at_37) rfl rfl (l' := #[.val (.int q0), .val (.int q1), .val (.int q2), .val (.int q3), .val (.ref x655), .val (.ref x659), .val (.ref x663), .val (.ref x667), .val (.ref b671), .unset, .unset, .unset, .unset, .unset, .unset, .unset, .unset, .unset]) rfl kq)
  have K674 : Go p e below T671 (mkF m 40 #[.val (.int q0), .val (.int q1), .val (.int q2), .val (.int q3), .val (.ref x655), .val (.ref x659), .val (.ref x663), .val (.ref x667), .val (.ref b671), .unset, .unset, .unset, .unset, .unset, .unset, .unset, .unset, .unset] [(.int (5 : Int32))]) G := fun tq kq => K673 tq (XS.iconst X671.here hx rfl (hb hby at_39) kq)
  have K675 : Go p e below T671 (mkF m 42 #[.val (.int q0), .val (.int q1), .val (.int q2), .val (.int q3), .val (.ref x655), .val (.ref x659), .val (.ref x663), .val (.ref x667), .val (.ref b671), .val (.int (5 : Int32)), .unset, .unset, .unset, .unset, .unset, .unset, .unset, .unset] []) G := fun tq kq => K674 tq (XS.istore X671.here hx rfl (hb hby at_40) rfl (l' := #[.val (.int q0), .val (.int q1), .val (.int q2), .val (.int q3), .val (.ref x655), .val (.ref x659), .val (.ref x663), .val (.ref x667), .val (.ref b671), .val (.int (5 : Int32)), .unset, .unset, .unset, .unset, .unset, .unset, .unset, .unset]) rfl kq)
  have K676 : Go p e below T671 (mkF m 43 #[.val (.int q0), .val (.int q1), .val (.int q2), .val (.int q3), .val (.ref x655), .val (.ref x659), .val (.ref x663), .val (.ref x667), .val (.ref b671), .val (.int (5 : Int32)), .unset, .unset, .unset, .unset, .unset, .unset, .unset, .unset] [(.int (5 : Int32))]) G := fun tq kq => K675 tq (XS.iconst X671.here hx rfl (hb hby at_42) kq)
  have K677 : Go p e below T671 (mkF m 45 #[.val (.int q0), .val (.int q1), .val (.int q2), .val (.int q3), .val (.ref x655), .val (.ref x659), .val (.ref x663), .val (.ref x667), .val (.ref b671), .val (.int (5 : Int32)), .val (.int (5 : Int32)), .unset, .unset, .unset, .unset, .unset, .unset, .unset] []) G := fun tq kq => K676 tq (XS.istore X671.here hx rfl (hb hby at_43) rfl (l' := #[.val (.int q0), .val (.int q1), .val (.int q2), .val (.int q3), .val (.ref x655), .val (.ref x659), .val (.ref x663), .val (.ref x667), .val (.ref b671), .val (.int (5 : Int32)), .val (.int (5 : Int32)), .unset, .unset, .unset, .unset, .unset, .unset, .unset]) rfl kq)
  obtain ⟨T678, h678, X678, e678, E678, A678, D678, -, st678⟩ := newO X671 hx hZ hown (hW 14 _ rfl) (hW 15 _ rfl) (hW 16 _ rfl) e671 (g := (mkF m 45 #[.val (.int q0), .val (.int q1), .val (.int q2), .val (.int q3), .val (.ref x655), .val (.ref x659), .val (.ref x663), .val (.ref x667), .val (.ref b671), .val (.int (5 : Int32)), .val (.int (5 : Int32)), .unset, .unset, .unset, .unset, .unset, .unset, .unset] [])) rfl (hb hby at_45) (by decide) (by decide)
  obtain ⟨b678, g678⟩ : ∃ z, z = h671.size := ⟨_, rfl⟩
  rw [← g678] at A678 D678 st678
  have ne678_x655 : x655 ≠ b678 := Nat.ne_of_lt (Nat.lt_of_lt_of_le (EX655.ext E671).lt (Nat.le_of_eq g678.symm))
  have ne678_x659 : x659 ≠ b678 := Nat.ne_of_lt (Nat.lt_of_lt_of_le (EX659.ext E671).lt (Nat.le_of_eq g678.symm))
  have ne678_x663 : x663 ≠ b678 := Nat.ne_of_lt (Nat.lt_of_lt_of_le (EX663.ext E671).lt (Nat.le_of_eq g678.symm))
  have ne678_x667 : x667 ≠ b678 := Nat.ne_of_lt (Nat.lt_of_lt_of_le (EX667.ext E671).lt (Nat.le_of_eq g678.symm))
  have ne678_b671 : b671 ≠ b678 := Nat.ne_of_lt (Nat.lt_of_lt_of_le V671.lt (Nat.le_of_eq g678.symm))
  have ge_b678 : n0 ≤ b678 := Nat.le_trans (Nat.le_trans Z0 E671.1) (Nat.le_of_eq g678.symm)
  have sz_b678 : h0.size ≤ b678 := Nat.le_trans (((Keep.refl h0 []).ext E671)).1 (Nat.le_of_eq g678.symm)
  have F678_serial : Fld Z h678 b678 "com/example/goalpost/goalpost/runtime/Structure" "serial" "I" (.int (0 : Int32)) := D678 (Or.inr (hW 29 _ rfl)) (ty := .int) (by decide)
  have F678_ring : Fld Z h678 b678 "com/example/goalpost/goalpost/runtime/ListValue" "ring" "[Lcom/example/goalpost/goalpost/runtime/Cell;" .null := D678 (Or.inl (hW 37 _ rfl)) (ty := (.array (.object "com/example/goalpost/goalpost/runtime/Cell"))) (by decide)
  have F678_size : Fld Z h678 b678 "com/example/goalpost/goalpost/runtime/ListValue" "size" "I" (.int (0 : Int32)) := D678 (Or.inl (hW 44 _ rfl)) (ty := .int) (by decide)
  have F678_front : Fld Z h678 b678 "com/example/goalpost/goalpost/runtime/ListValue" "front" "I" (.int (0 : Int32)) := D678 (Or.inl (hW 46 _ rfl)) (ty := .int) (by decide)
  have K679 : Go p e below T678 (mkF m 48 #[.val (.int q0), .val (.int q1), .val (.int q2), .val (.int q3), .val (.ref x655), .val (.ref x659), .val (.ref x663), .val (.ref x667), .val (.ref b671), .val (.int (5 : Int32)), .val (.int (5 : Int32)), .unset, .unset, .unset, .unset, .unset, .unset, .unset] [(.ref b678)]) G := fun tq kq => K677 tq (st678 tq kq)
  have K680 : Go p e below T678 (mkF m 49 #[.val (.int q0), .val (.int q1), .val (.int q2), .val (.int q3), .val (.ref x655), .val (.ref x659), .val (.ref x663), .val (.ref x667), .val (.ref b671), .val (.int (5 : Int32)), .val (.int (5 : Int32)), .unset, .unset, .unset, .unset, .unset, .unset, .unset] [(.ref b678), (.ref b678)]) G := fun tq kq => K679 tq (XS.dup X678.here hx rfl (hb hby at_48) rfl rfl kq)
  have K681 : Go p e below T678 (mkF m 50 #[.val (.int q0), .val (.int q1), .val (.int q2), .val (.int q3), .val (.ref x655), .val (.ref x659), .val (.ref x663), .val (.ref x667), .val (.ref b671), .val (.int (5 : Int32)), .val (.int (5 : Int32)), .unset, .unset, .unset, .unset, .unset, .unset, .unset] [(.int (1 : Int32)), (.ref b678), (.ref b678)]) G := fun tq kq => K680 tq (XS.iconst X678.here hx rfl (hb hby at_49) kq)
  have K682 : Go p e below T678 (mkF m 51 #[.val (.int q0), .val (.int q1), .val (.int q2), .val (.int q3), .val (.ref x655), .val (.ref x659), .val (.ref x663), .val (.ref x667), .val (.ref b671), .val (.int (5 : Int32)), .val (.int (5 : Int32)), .unset, .unset, .unset, .unset, .unset, .unset, .unset] [(.int q1), (.int (1 : Int32)), (.ref b678), (.ref b678)]) G := fun tq kq => K681 tq (XS.iloadN X678.here hx rfl (hb hby at_50) rfl kq)
  have K683 : Go p e below T678 (mkF m 53 #[.val (.int q0), .val (.int q1), .val (.int q2), .val (.int q3), .val (.ref x655), .val (.ref x659), .val (.ref x663), .val (.ref x667), .val (.ref b671), .val (.int (5 : Int32)), .val (.int (5 : Int32)), .unset, .unset, .unset, .unset, .unset, .unset, .unset] [(.int (7 : Int32)), (.int q1), (.int (1 : Int32)), (.ref b678), (.ref b678)]) G := fun tq kq => K682 tq (XS.bipush X678.here hx rfl (hb hby at_51) kq)
  have K684 : Go p e below T678 (mkF m 54 #[.val (.int q0), .val (.int q1), .val (.int q2), .val (.int q3), .val (.ref x655), .val (.ref x659), .val (.ref x663), .val (.ref x667), .val (.ref b671), .val (.int (5 : Int32)), .val (.int (5 : Int32)), .unset, .unset, .unset, .unset, .unset, .unset, .unset] [(.int (q1 &&& (7 : Int32))), (.int (1 : Int32)), (.ref b678), (.ref b678)]) G := fun tq kq => K683 tq (XS.iand X678.here hx rfl (hb hby at_53) rfl kq)
  obtain ⟨v685, _, ⟨T685, L685, k685, n685⟩, -, X685, ⟨Lc685, hQ685, l685, y685, z685⟩, st685⟩ := X678.specialBack hx (y := (⟨"com/example/goalpost/goalpost/runtime/ListValue", "<init>", "(II)V"⟩ : MethodName)) rfl hown (mvT hZ (hW 17 _ rfl)) (mvT hZ (hW 18 _ rfl)) (mvT hZ (hW 19 _ rfl)) (by decide) (backOf (W := 1) (rmIni l Z a0 hw [] b678 (1 : Int32) (q1 &&& (7 : Int32)) h678 n0 (Nat.le_trans (Nat.le_trans Z0 E671.1) E678.1) F678_ring F678_front F678_size F678_serial A678 ge_b678 (by have q := c_and q1 (7 : Int32) (by decide); rw [own_I7] at q; exact q)) hZ (hW 19 _ rfl) (hW 16 _ rfl) (by decide) (by decide)) (g := (mkF m 54 #[.val (.int q0), .val (.int q1), .val (.int q2), .val (.int q3), .val (.ref x655), .val (.ref x659), .val (.ref x663), .val (.ref x667), .val (.ref b671), .val (.int (5 : Int32)), .val (.int (5 : Int32)), .unset, .unset, .unset, .unset, .unset, .unset, .unset] [(.int (q1 &&& (7 : Int32))), (.int (1 : Int32)), (.ref b678), (.ref b678)])) rfl (by rw [hml]; rfl) (Steps.refl _) (a := b678) (argsL := [(.int (1 : Int32)), (.int (q1 &&& (7 : Int32)))]) (rest := [(.ref b678)]) (lenOf pd_276 rfl) rfl (by show 2 * 0 + _ ≤ _; exact Nat.le_of_eq rfl) (hb hby at_54) (fun _ _ => ⟨rfl, e678, (by decide : 2 + 1 ≤ _), (by decide : 14 + 7 ≤ _)⟩)
  dsimp only [Pt.U, Pt.locs, Pt.cells, Pt.slots] at X685 l685 y685 z685 st685 hQ685
  subst l685 y685 z685
  obtain ⟨rfl, N685q, K685q, r0, k0, m0, v0, szr, D0⟩ := hQ685
  have N685 := Fr.app N667 N685q
  have nmr : b671 ≠ r0 := Nat.ne_of_lt (Nat.lt_of_lt_of_le (V671.ext E678).lt szr)
  have K686 : Go p e below T685 (mkF m 57 #[.val (.int q0), .val (.int q1), .val (.int q2), .val (.int q3), .val (.ref x655), .val (.ref x659), .val (.ref x663), .val (.ref x667), .val (.ref b671), .val (.int (5 : Int32)), .val (.int (5 : Int32)), .unset, .unset, .unset, .unset, .unset, .unset, .unset] [(.ref b678)]) G := fun tq kq => K684 tq (st685.trans kq)
  have K687 : Go p e below T685 (mkF m 59 #[.val (.int q0), .val (.int q1), .val (.int q2), .val (.int q3), .val (.ref x655), .val (.ref x659), .val (.ref x663), .val (.ref x667), .val (.ref b671), .val (.int (5 : Int32)), .val (.int (5 : Int32)), .val (.ref b678), .unset, .unset, .unset, .unset, .unset, .unset] []) G := fun tq kq => K686 tq (XS.astore X685.here hx rfl (hb hby at_57) rfl rfl (l' := #[.val (.int q0), .val (.int q1), .val (.int q2), .val (.int q3), .val (.ref x655), .val (.ref x659), .val (.ref x663), .val (.ref x667), .val (.ref b671), .val (.int (5 : Int32)), .val (.int (5 : Int32)), .val (.ref b678), .unset, .unset, .unset, .unset, .unset, .unset]) rfl kq)
  obtain ⟨Tj0, hj0, Lj0, lo0, hi0, r_0, k_0, m_0, f_0, v_0, cs0, md0, Xj0, ej0, Nj0, Zj0, EX0_0, EX1_0, EX2_0, EX3_0, Dj0, Vj0, nj0, ml0, nu0, mp0, Kd688⟩ : ∃ (Tj0 : State) (hj0 : Heap) (Lj0 : List Loc) (lo0 : Int32) (hi0 : Int32) (r_0 : Addr) (k_0 : ClassId) (m_0 : Int32) (f_0 : Int32) (v_0 : List Value) (cs0 : List (Addr × Addr)) (md0 : List Value), Stand p l e room_1 s m #[(.int q0), (.int q1), (.int q2), (.int q3)] below meth c Tj0 Lj0 3 21 ∧ Tj0.heap = hj0 ∧ Fr n0 Lj0 ∧ n0 ≤ hj0.size ∧ Exa Z hj0 x655 "java/lang/Long" ∧ Exa Z hj0 x659 "java/lang/Long" ∧ Exa Z hj0 x663 "java/lang/Long" ∧ Exa Z hj0 x667 "java/lang/Long" ∧ own_Dq Z hj0 n0 b678 r_0 k_0 m_0 f_0 v_0 cs0 ∧ Arv Z hj0 b671 k671 (.object "java/lang/Object") (10 : Int32) md0 .null ∧ b671 ≠ r_0 ∧ md0.length = 10 ∧ own_Nu 5 5 5 0 0 lo0 hi0 cs0.length ∧ own_Map md0 lo0.toNatClampNeg cs0 ∧ Go p e below Tj0 (mkF m 59 #[.val (.int q0), .val (.int q1), .val (.int q2), .val (.int q3), .val (.ref x655), .val (.ref x659), .val (.ref x663), .val (.ref x667), .val (.ref b671), .val (.int lo0), .val (.int hi0), .val (.ref b678), .unset, .unset, .unset, .unset, .unset, .unset] []) G := by
    refine ⟨T685, T685.heap, _, (5 : Int32), (5 : Int32), r0, k0, m0, (0 : Int32), v0, ([] : List (Addr × Addr)), [.null, .null, .null, .null, .null, .null, .null, .null, .null, .null], X685, rfl, N685, (Nat.le_trans (Nat.le_trans (Nat.le_trans Z0 E671.1) E678.1) K685q.1), (((EX655.ext E671).ext E678).keep K685q), (((EX659.ext E671).ext E678).keep K685q), (((EX663.ext E671).ext E678).keep K685q), (((EX667.ext E671).ext E678).keep K685q), D0, ((V671.ext E678).keep K685q (ninS ne678_b671 nin0)), nmr, ?_, ?_, ?_, K687⟩
    · rfl
    · exact own_nu0
    · intro i p hp; simp at hp
  obtain ⟨Tj1, hj1, Lj1, lo1, hi1, r_1, k_1, m_1, f_1, v_1, cs1, md1, Xj1, ej1, Nj1, Zj1, EX0_1, EX1_1, EX2_1, EX3_1, Dj1, Vj1, nj1, ml1, nu1, mp1, Kj689⟩ : ∃ (Tj1 : State) (hj1 : Heap) (Lj1 : List Loc) (lo1 : Int32) (hi1 : Int32) (r_1 : Addr) (k_1 : ClassId) (m_1 : Int32) (f_1 : Int32) (v_1 : List Value) (cs1 : List (Addr × Addr)) (md1 : List Value), Stand p l e room_1 s m #[(.int q0), (.int q1), (.int q2), (.int q3)] below meth c Tj1 Lj1 5 28 ∧ Tj1.heap = hj1 ∧ Fr n0 Lj1 ∧ n0 ≤ hj1.size ∧ Exa Z hj1 x655 "java/lang/Long" ∧ Exa Z hj1 x659 "java/lang/Long" ∧ Exa Z hj1 x663 "java/lang/Long" ∧ Exa Z hj1 x667 "java/lang/Long" ∧ own_Dq Z hj1 n0 b678 r_1 k_1 m_1 f_1 v_1 cs1 ∧ Arv Z hj1 b671 k671 (.object "java/lang/Object") (10 : Int32) md1 .null ∧ b671 ≠ r_1 ∧ md1.length = 10 ∧ own_Nu 4 5 6 1 1 lo1 hi1 cs1.length ∧ own_Map md1 lo1.toNatClampNeg cs1 ∧ Go p e below Tj1 (mkF m 102 #[.val (.int q0), .val (.int q1), .val (.int q2), .val (.int q3), .val (.ref x655), .val (.ref x659), .val (.ref x663), .val (.ref x667), .val (.ref b671), .val (.int lo1), .val (.int hi1), .val (.ref b678), .unset, .unset, .unset, .unset, .unset, .unset] []) G := by
    have K690 : Go p e below Tj0 (mkF m 60 #[.val (.int q0), .val (.int q1), .val (.int q2), .val (.int q3), .val (.ref x655), .val (.ref x659), .val (.ref x663), .val (.ref x667), .val (.ref b671), .val (.int lo0), .val (.int hi0), .val (.ref b678), .unset, .unset, .unset, .unset, .unset, .unset] [(.int q0)]) G := fun tq kq => Kd688 tq (XS.iloadN Xj0.here hx rfl (hb hby at_59) rfl kq)
    have K691 : Go p e below Tj0 (mkF m 61 #[.val (.int q0), .val (.int q1), .val (.int q2), .val (.int q3), .val (.ref x655), .val (.ref x659), .val (.ref x663), .val (.ref x667), .val (.ref b671), .val (.int lo0), .val (.int hi0), .val (.ref b678), .unset, .unset, .unset, .unset, .unset, .unset] [(.int (1 : Int32)), (.int q0)]) G := fun tq kq => K690 tq (XS.iconst Xj0.here hx rfl (hb hby at_60) kq)
    have K692 : Go p e below Tj0 (mkF m 62 #[.val (.int q0), .val (.int q1), .val (.int q2), .val (.int q3), .val (.ref x655), .val (.ref x659), .val (.ref x663), .val (.ref x667), .val (.ref b671), .val (.int lo0), .val (.int hi0), .val (.ref b678), .unset, .unset, .unset, .unset, .unset, .unset] [(.int (q0 &&& (1 : Int32)))]) G := fun tq kq => K691 tq (XS.iand Xj0.here hx rfl (hb hby at_61) rfl kq)
    by_cases hc693 : (q0 &&& (1 : Int32)) = (0 : Int32)
    · skip
      have K694 : Go p e below Tj0 (mkF m 85 #[.val (.int q0), .val (.int q1), .val (.int q2), .val (.int q3), .val (.ref x655), .val (.ref x659), .val (.ref x663), .val (.ref x667), .val (.ref b671), .val (.int lo0), .val (.int hi0), .val (.ref b678), .unset, .unset, .unset, .unset, .unset, .unset] []) G := fun tq kq => K692 tq (XS.ifYes Xj0.here hx rfl (pc0 := 62) (pc' := 85) rfl (hb hby at_62) rfl ((if0 _ _).trans (teq hc693).1) (by decide) (by decide) kq)
      have K695 : Go p e below Tj0 (mkF m 87 #[.val (.int q0), .val (.int q1), .val (.int q2), .val (.int q3), .val (.ref x655), .val (.ref x659), .val (.ref x663), .val (.ref x667), .val (.ref b671), .val (.int lo0), .val (.int hi0), .val (.ref b678), .unset, .unset, .unset, .unset, .unset, .unset] [(.ref b678)]) G := fun tq kq => K694 tq (XS.aload Xj0.here hx rfl (hb hby at_85) rfl rfl kq)
      have K696 : Go p e below Tj0 (mkF m 89 #[.val (.int q0), .val (.int q1), .val (.int q2), .val (.int q3), .val (.ref x655), .val (.ref x659), .val (.ref x663), .val (.ref x667), .val (.ref b671), .val (.int lo0), .val (.int hi0), .val (.ref b678), .unset, .unset, .unset, .unset, .unset, .unset] [(.ref x655), (.ref b678)]) G := fun tq kq => K695 tq (XS.aload Xj0.here hx rfl (hb hby at_87) rfl rfl kq)
      obtain ⟨cq697, kq697, q697a, q697b, q697c⟩ := isOf hZ ej0 Dj0.1
      obtain ⟨v697, _, ⟨T697, L697, k697, n697⟩, -, X697, ⟨Lc697, hQ697, l697, y697, z697⟩, st697⟩ := Xj0.virtualBack hx (y := (⟨"com/example/goalpost/goalpost/runtime/ListValue", "put", "(Ljava/lang/Object;)V"⟩ : MethodName)) (z := (⟨"com/example/goalpost/goalpost/runtime/ListValue", "put", "(Ljava/lang/Object;)V"⟩ : MethodName)) hown (mvT hZ (hW 38 _ rfl)) (mvT hZ (hW 39 _ rfl)) (notFace_of_selects (args := #[]) (mvT hZ (hW 41 _ rfl))) (mvT hZ (hW 41 _ rfl)) (mvT hZ (hW 40 _ rfl)) (by decide) (backOf (W := 0) (rmPU l Z a0 hw [] b678 x655 r_0 k_0 m_0 f_0 v_0 cs0 hj0 n0 Zj0 Dj0 (own_nuLen nu0 (by decide))) hZ (hW 42 _ rfl) (hW 16 _ rfl) (by decide) (by decide)) q697a q697c (g := (mkF m 89 #[.val (.int q0), .val (.int q1), .val (.int q2), .val (.int q3), .val (.ref x655), .val (.ref x659), .val (.ref x663), .val (.ref x667), .val (.ref b671), .val (.int lo0), .val (.int hi0), .val (.ref b678), .unset, .unset, .unset, .unset, .unset, .unset] [(.ref x655), (.ref b678)])) rfl (by rw [hml]; rfl) (Steps.refl _) (argsL := [(.ref x655)]) (rest := []) (lenOf pd_111 rfl) rfl (by show 2 * 0 + _ ≤ _; exact Nat.le_of_eq rfl) (hb hby at_89) (fun _ _ => ⟨rfl, ej0, (by decide : 3 + 2 ≤ _), (by decide : 21 + 7 ≤ _)⟩)
      dsimp only [Pt.U, Pt.locs, Pt.cells, Pt.slots] at X697 l697 y697 z697 st697 hQ697
      subst l697 y697 z697
      obtain ⟨rfl, N697q, K697q, r697, k697, m697, f697, vv697, c697, hr697, D697⟩ := hQ697
      have N697 := Fr.app Nj0 N697q
      have nmr697 : b671 ≠ r697 := hr697.elim (fun e => by rw [e]; exact nj0) (fun z => Nat.ne_of_lt (Nat.lt_of_lt_of_le Vj0.lt z))
      have K698 : Go p e below T697 (mkF m 92 #[.val (.int q0), .val (.int q1), .val (.int q2), .val (.int q3), .val (.ref x655), .val (.ref x659), .val (.ref x663), .val (.ref x667), .val (.ref b671), .val (.int lo0), .val (.int hi0), .val (.ref b678), .unset, .unset, .unset, .unset, .unset, .unset] []) G := fun tq kq => K696 tq (st697.trans kq)
      have K699 : Go p e below T697 (mkF m 94 #[.val (.int q0), .val (.int q1), .val (.int q2), .val (.int q3), .val (.ref x655), .val (.ref x659), .val (.ref x663), .val (.ref x667), .val (.ref b671), .val (.int lo0), .val (.int hi0), .val (.ref b678), .unset, .unset, .unset, .unset, .unset, .unset] [(.ref b671)]) G := fun tq kq => K698 tq (XS.aload X697.here hx rfl (hb hby at_92) rfl rfl kq)
      have K700 : Go p e below T697 (mkF m 96 #[.val (.int q0), .val (.int q1), .val (.int q2), .val (.int q3), .val (.ref x655), .val (.ref x659), .val (.ref x663), .val (.ref x667), .val (.ref b671), .val (.int lo0), .val (.int hi0), .val (.ref b678), .unset, .unset, .unset, .unset, .unset, .unset] [(.int hi0), (.ref b671)]) G := fun tq kq => K699 tq (XS.iload X697.here hx rfl (hb hby at_94) rfl kq)
      have K701 : Go p e below T697 (mkF m 98 #[.val (.int q0), .val (.int q1), .val (.int q2), .val (.int q3), .val (.ref x655), .val (.ref x659), .val (.ref x663), .val (.ref x667), .val (.ref b671), .val (.int lo0), .val (.int hi0), .val (.ref b678), .unset, .unset, .unset, .unset, .unset, .unset] [(.ref x655), (.int hi0), (.ref b671)]) G := fun tq kq => K700 tq (XS.aload X697.here hx rfl (hb hby at_96) rfl rfl kq)
      obtain ⟨cl702, Ar702, q702, S702, Nn702, Hh702, Gg702⟩ := id (Vj0.keep K697q (ninS (Ne.symm (Exa.neArv Dj0.1 Vj0 (hW 15 _ rfl))) (ninS nj0 nin0)))
      have hin702 : ¬ (hi0 < 0 ∨ cl702.slots.size ≤ (hi0).toNatClampNeg) := inb_of S702 (own_nuInH nu0 (by decide))
      obtain ⟨T702, h702, X702, e702, W702, st702⟩ := stR X697 hx hZ rfl Ar702 (j := hi0) hin702 rfl (Sto.ofV Ar702 q702 O671 (Ins.of_exa (EX0_0.keep K697q) (hW 61 _ rfl))) (g := (mkF m 98 #[.val (.int q0), .val (.int q1), .val (.int q2), .val (.int q3), .val (.ref x655), .val (.ref x659), .val (.ref x663), .val (.ref x667), .val (.ref b671), .val (.int lo0), .val (.int hi0), .val (.ref b678), .unset, .unset, .unset, .unset, .unset, .unset] [(.ref x655), (.int hi0), (.ref b671)])) rfl rfl (hb hby at_98)
      have V702 : Arv Z h702 b671 k671 (.object "java/lang/Object") (10 : Int32) (md0.set (lo0.toNatClampNeg + cs0.length) (.ref x655)) .null := Arv.set Ar702 q702 S702 Nn702 Hh702 Gg702 rfl W702 (lo0.toNatClampNeg + cs0.length) (own_nuHin nu0 (by decide)) (own_nuLt nu0 (by decide) ml0)
      have N702 := Fr.snoc X702 N697 ge_b671
      have K703 : Go p e below T702 (mkF m 99 #[.val (.int q0), .val (.int q1), .val (.int q2), .val (.int q3), .val (.ref x655), .val (.ref x659), .val (.ref x663), .val (.ref x667), .val (.ref b671), .val (.int lo0), .val (.int hi0), .val (.ref b678), .unset, .unset, .unset, .unset, .unset, .unset] []) G := fun tq kq => K701 tq (st702 tq kq)
      have K704 : Go p e below T702 (mkF m 102 #[.val (.int q0), .val (.int q1), .val (.int q2), .val (.int q3), .val (.ref x655), .val (.ref x659), .val (.ref x663), .val (.ref x667), .val (.ref b671), .val (.int lo0), .val (.int (hi0 + (1 : Int32))), .val (.ref b678), .unset, .unset, .unset, .unset, .unset, .unset] []) G := fun tq kq => K703 tq (XS.iinc X702.here hx rfl (hb hby at_99) rfl (l' := #[.val (.int q0), .val (.int q1), .val (.int q2), .val (.int q3), .val (.ref x655), .val (.ref x659), .val (.ref x663), .val (.ref x667), .val (.ref b671), .val (.int lo0), .val (.int (hi0 + (1 : Int32))), .val (.ref b678), .unset, .unset, .unset, .unset, .unset, .unset]) rfl kq)
      refine ⟨T702, h702, _, lo0, (hi0 + (1 : Int32)), r697, k697, m697, f697, vv697, (cs0 ++ [(c697, x655)]), (md0.set (lo0.toNatClampNeg + cs0.length) (.ref x655)), X702, e702, N702, (Nat.le_trans (Nat.le_trans Zj0 K697q.1) (Keep.of_wr W702).1), ((EX0_0.keep K697q).wr W702), ((EX1_0.keep K697q).wr W702), ((EX2_0.keep K697q).wr W702), ((EX3_0.keep K697q).wr W702), (own_dqK D697 (Keep.of_wr W702) (ninS (Exa.neArv D697.1 (Vj0.keep K697q (ninS (Ne.symm (Exa.neArv Dj0.1 Vj0 (hW 15 _ rfl))) (ninS nj0 nin0))) (hW 15 _ rfl)) nin0) (ninS (Ne.symm nmr697) nin0) (fun p hp => ninS (Exa.neArv (D697.2.2.2.2.2.2.2.2.2.2 p hp).1 (Vj0.keep K697q (ninS (Ne.symm (Exa.neArv Dj0.1 Vj0 (hW 15 _ rfl))) (ninS nj0 nin0))) (hW 47 _ rfl)) nin0)), V702, nmr697, ?_, ?_, ?_, K704⟩
      · first | exact ml0 | (rw [List.length_set]; exact ml0)
      · exact own_nuPut nu0 (by decide)
      · exact own_mapPut _ _ mp0 (own_nuLt nu0 (by decide) ml0)
    · skip
      have K705 : Go p e below Tj0 (mkF m 65 #[.val (.int q0), .val (.int q1), .val (.int q2), .val (.int q3), .val (.ref x655), .val (.ref x659), .val (.ref x663), .val (.ref x667), .val (.ref b671), .val (.int lo0), .val (.int hi0), .val (.ref b678), .unset, .unset, .unset, .unset, .unset, .unset] []) G := fun tq kq => K692 tq (XS.ifNo Xj0.here hx rfl (hb hby at_62) rfl ((if0 _ _).trans (feq hc693).1) kq)
      have K706 : Go p e below Tj0 (mkF m 67 #[.val (.int q0), .val (.int q1), .val (.int q2), .val (.int q3), .val (.ref x655), .val (.ref x659), .val (.ref x663), .val (.ref x667), .val (.ref b671), .val (.int lo0), .val (.int hi0), .val (.ref b678), .unset, .unset, .unset, .unset, .unset, .unset] [(.ref b678)]) G := fun tq kq => K705 tq (XS.aload Xj0.here hx rfl (hb hby at_65) rfl rfl kq)
      have K707 : Go p e below Tj0 (mkF m 69 #[.val (.int q0), .val (.int q1), .val (.int q2), .val (.int q3), .val (.ref x655), .val (.ref x659), .val (.ref x663), .val (.ref x667), .val (.ref b671), .val (.int lo0), .val (.int hi0), .val (.ref b678), .unset, .unset, .unset, .unset, .unset, .unset] [(.ref x655), (.ref b678)]) G := fun tq kq => K706 tq (XS.aload Xj0.here hx rfl (hb hby at_67) rfl rfl kq)
      obtain ⟨cq708, kq708, q708a, q708b, q708c⟩ := isOf hZ ej0 Dj0.1
      obtain ⟨v708, _, ⟨T708, L708, k708, n708⟩, -, X708, ⟨Lc708, hQ708, l708, y708, z708⟩, st708⟩ := Xj0.virtualBack hx (y := (⟨"com/example/goalpost/goalpost/runtime/ListValue", "push", "(Ljava/lang/Object;)V"⟩ : MethodName)) (z := (⟨"com/example/goalpost/goalpost/runtime/ListValue", "push", "(Ljava/lang/Object;)V"⟩ : MethodName)) hown (mvT hZ (hW 78 _ rfl)) (mvT hZ (hW 79 _ rfl)) (notFace_of_selects (args := #[]) (mvT hZ (hW 81 _ rfl))) (mvT hZ (hW 81 _ rfl)) (mvT hZ (hW 80 _ rfl)) (by decide) (backOf (W := 0) (rmPS l Z a0 hw [] b678 x655 r_0 k_0 m_0 f_0 v_0 cs0 hj0 n0 Zj0 Dj0 (own_nuLen nu0 (by decide))) hZ (hW 82 _ rfl) (hW 16 _ rfl) (by decide) (by decide)) q708a q708c (g := (mkF m 69 #[.val (.int q0), .val (.int q1), .val (.int q2), .val (.int q3), .val (.ref x655), .val (.ref x659), .val (.ref x663), .val (.ref x667), .val (.ref b671), .val (.int lo0), .val (.int hi0), .val (.ref b678), .unset, .unset, .unset, .unset, .unset, .unset] [(.ref x655), (.ref b678)])) rfl (by rw [hml]; rfl) (Steps.refl _) (argsL := [(.ref x655)]) (rest := []) (lenOf pd_111 rfl) rfl (by show 2 * 0 + _ ≤ _; exact Nat.le_of_eq rfl) (hb hby at_69) (fun _ _ => ⟨rfl, ej0, (by decide : 3 + 2 ≤ _), (by decide : 21 + 7 ≤ _)⟩)
      dsimp only [Pt.U, Pt.locs, Pt.cells, Pt.slots] at X708 l708 y708 z708 st708 hQ708
      subst l708 y708 z708
      obtain ⟨rfl, N708q, K708q, r708, k708, m708, f708, vv708, c708, hr708, D708⟩ := hQ708
      have N708 := Fr.app Nj0 N708q
      have nmr708 : b671 ≠ r708 := hr708.elim (fun e => by rw [e]; exact nj0) (fun z => Nat.ne_of_lt (Nat.lt_of_lt_of_le Vj0.lt z))
      have K709 : Go p e below T708 (mkF m 72 #[.val (.int q0), .val (.int q1), .val (.int q2), .val (.int q3), .val (.ref x655), .val (.ref x659), .val (.ref x663), .val (.ref x667), .val (.ref b671), .val (.int lo0), .val (.int hi0), .val (.ref b678), .unset, .unset, .unset, .unset, .unset, .unset] []) G := fun tq kq => K707 tq (st708.trans kq)
      have K710 : Go p e below T708 (mkF m 75 #[.val (.int q0), .val (.int q1), .val (.int q2), .val (.int q3), .val (.ref x655), .val (.ref x659), .val (.ref x663), .val (.ref x667), .val (.ref b671), .val (.int (lo0 + (-1 : Int32))), .val (.int hi0), .val (.ref b678), .unset, .unset, .unset, .unset, .unset, .unset] []) G := fun tq kq => K709 tq (XS.iinc X708.here hx rfl (hb hby at_72) rfl (l' := #[.val (.int q0), .val (.int q1), .val (.int q2), .val (.int q3), .val (.ref x655), .val (.ref x659), .val (.ref x663), .val (.ref x667), .val (.ref b671), .val (.int (lo0 + (-1 : Int32))), .val (.int hi0), .val (.ref b678), .unset, .unset, .unset, .unset, .unset, .unset]) rfl kq)
      have K711 : Go p e below T708 (mkF m 77 #[.val (.int q0), .val (.int q1), .val (.int q2), .val (.int q3), .val (.ref x655), .val (.ref x659), .val (.ref x663), .val (.ref x667), .val (.ref b671), .val (.int (lo0 + (-1 : Int32))), .val (.int hi0), .val (.ref b678), .unset, .unset, .unset, .unset, .unset, .unset] [(.ref b671)]) G := fun tq kq => K710 tq (XS.aload X708.here hx rfl (hb hby at_75) rfl rfl kq)
      have K712 : Go p e below T708 (mkF m 79 #[.val (.int q0), .val (.int q1), .val (.int q2), .val (.int q3), .val (.ref x655), .val (.ref x659), .val (.ref x663), .val (.ref x667), .val (.ref b671), .val (.int (lo0 + (-1 : Int32))), .val (.int hi0), .val (.ref b678), .unset, .unset, .unset, .unset, .unset, .unset] [(.int (lo0 + (-1 : Int32))), (.ref b671)]) G := fun tq kq => K711 tq (XS.iload X708.here hx rfl (hb hby at_77) rfl kq)
      have K713 : Go p e below T708 (mkF m 81 #[.val (.int q0), .val (.int q1), .val (.int q2), .val (.int q3), .val (.ref x655), .val (.ref x659), .val (.ref x663), .val (.ref x667), .val (.ref b671), .val (.int (lo0 + (-1 : Int32))), .val (.int hi0), .val (.ref b678), .unset, .unset, .unset, .unset, .unset, .unset] [(.ref x655), (.int (lo0 + (-1 : Int32))), (.ref b671)]) G := fun tq kq => K712 tq (XS.aload X708.here hx rfl (hb hby at_79) rfl rfl kq)
      obtain ⟨cl714, Ar714, q714, S714, Nn714, Hh714, Gg714⟩ := id (Vj0.keep K708q (ninS (Ne.symm (Exa.neArv Dj0.1 Vj0 (hW 15 _ rfl))) (ninS nj0 nin0)))
      have hin714 : ¬ ((lo0 + (-1 : Int32)) < 0 ∨ cl714.slots.size ≤ ((lo0 + (-1 : Int32))).toNatClampNeg) := inb_of S714 (own_nuInL nu0 (by decide))
      obtain ⟨T714, h714, X714, e714, W714, st714⟩ := stR X708 hx hZ rfl Ar714 (j := (lo0 + (-1 : Int32))) hin714 rfl (Sto.ofV Ar714 q714 O671 (Ins.of_exa (EX0_0.keep K708q) (hW 61 _ rfl))) (g := (mkF m 81 #[.val (.int q0), .val (.int q1), .val (.int q2), .val (.int q3), .val (.ref x655), .val (.ref x659), .val (.ref x663), .val (.ref x667), .val (.ref b671), .val (.int (lo0 + (-1 : Int32))), .val (.int hi0), .val (.ref b678), .unset, .unset, .unset, .unset, .unset, .unset] [(.ref x655), (.int (lo0 + (-1 : Int32))), (.ref b671)])) rfl rfl (hb hby at_81)
      have V714 : Arv Z h714 b671 k671 (.object "java/lang/Object") (10 : Int32) (md0.set (lo0 + (-1 : Int32)).toNatClampNeg (.ref x655)) .null := Arv.set Ar714 q714 S714 Nn714 Hh714 Gg714 rfl W714 (lo0 + (-1 : Int32)).toNatClampNeg rfl (own_nuLtL nu0 (by decide) ml0)
      have N714 := Fr.snoc X714 N708 ge_b671
      have K715 : Go p e below T714 (mkF m 82 #[.val (.int q0), .val (.int q1), .val (.int q2), .val (.int q3), .val (.ref x655), .val (.ref x659), .val (.ref x663), .val (.ref x667), .val (.ref b671), .val (.int (lo0 + (-1 : Int32))), .val (.int hi0), .val (.ref b678), .unset, .unset, .unset, .unset, .unset, .unset] []) G := fun tq kq => K713 tq (st714 tq kq)
      have K716 : Go p e below T714 (mkF m 102 #[.val (.int q0), .val (.int q1), .val (.int q2), .val (.int q3), .val (.ref x655), .val (.ref x659), .val (.ref x663), .val (.ref x667), .val (.ref b671), .val (.int (lo0 + (-1 : Int32))), .val (.int hi0), .val (.ref b678), .unset, .unset, .unset, .unset, .unset, .unset] []) G := fun tq kq => K715 tq (XS.goto X714.here hx rfl (pc0 := 82) (pc' := 102) rfl (hb hby at_82) (by decide) (by decide) kq)
      refine ⟨T714, h714, _, (lo0 + (-1 : Int32)), hi0, r708, k708, m708, f708, vv708, ((c708, x655) :: cs0), (md0.set (lo0 + (-1 : Int32)).toNatClampNeg (.ref x655)), X714, e714, N714, (Nat.le_trans (Nat.le_trans Zj0 K708q.1) (Keep.of_wr W714).1), ((EX0_0.keep K708q).wr W714), ((EX1_0.keep K708q).wr W714), ((EX2_0.keep K708q).wr W714), ((EX3_0.keep K708q).wr W714), (own_dqK D708 (Keep.of_wr W714) (ninS (Exa.neArv D708.1 (Vj0.keep K708q (ninS (Ne.symm (Exa.neArv Dj0.1 Vj0 (hW 15 _ rfl))) (ninS nj0 nin0))) (hW 15 _ rfl)) nin0) (ninS (Ne.symm nmr708) nin0) (fun p hp => ninS (Exa.neArv (D708.2.2.2.2.2.2.2.2.2.2 p hp).1 (Vj0.keep K708q (ninS (Ne.symm (Exa.neArv Dj0.1 Vj0 (hW 15 _ rfl))) (ninS nj0 nin0))) (hW 47 _ rfl)) nin0)), V714, nmr708, ?_, ?_, ?_, K716⟩
      · first | exact ml0 | (rw [List.length_set]; exact ml0)
      · exact own_nuPush nu0 (by decide)
      · exact own_nuMapPush nu0 (by decide) ml0 mp0
  obtain ⟨Tj2, hj2, Lj2, lo2, hi2, r_2, k_2, m_2, f_2, v_2, cs2, md2, Xj2, ej2, Nj2, Zj2, EX0_2, EX1_2, EX2_2, EX3_2, Dj2, Vj2, nj2, ml2, nu2, mp2, Kj717⟩ : ∃ (Tj2 : State) (hj2 : Heap) (Lj2 : List Loc) (lo2 : Int32) (hi2 : Int32) (r_2 : Addr) (k_2 : ClassId) (m_2 : Int32) (f_2 : Int32) (v_2 : List Value) (cs2 : List (Addr × Addr)) (md2 : List Value), Stand p l e room_1 s m #[(.int q0), (.int q1), (.int q2), (.int q3)] below meth c Tj2 Lj2 7 35 ∧ Tj2.heap = hj2 ∧ Fr n0 Lj2 ∧ n0 ≤ hj2.size ∧ Exa Z hj2 x655 "java/lang/Long" ∧ Exa Z hj2 x659 "java/lang/Long" ∧ Exa Z hj2 x663 "java/lang/Long" ∧ Exa Z hj2 x667 "java/lang/Long" ∧ own_Dq Z hj2 n0 b678 r_2 k_2 m_2 f_2 v_2 cs2 ∧ Arv Z hj2 b671 k671 (.object "java/lang/Object") (10 : Int32) md2 .null ∧ b671 ≠ r_2 ∧ md2.length = 10 ∧ own_Nu 3 5 7 2 2 lo2 hi2 cs2.length ∧ own_Map md2 lo2.toNatClampNeg cs2 ∧ Go p e below Tj2 (mkF m 145 #[.val (.int q0), .val (.int q1), .val (.int q2), .val (.int q3), .val (.ref x655), .val (.ref x659), .val (.ref x663), .val (.ref x667), .val (.ref b671), .val (.int lo2), .val (.int hi2), .val (.ref b678), .unset, .unset, .unset, .unset, .unset, .unset] []) G := by
    have K718 : Go p e below Tj1 (mkF m 103 #[.val (.int q0), .val (.int q1), .val (.int q2), .val (.int q3), .val (.ref x655), .val (.ref x659), .val (.ref x663), .val (.ref x667), .val (.ref b671), .val (.int lo1), .val (.int hi1), .val (.ref b678), .unset, .unset, .unset, .unset, .unset, .unset] [(.int q0)]) G := fun tq kq => Kj689 tq (XS.iloadN Xj1.here hx rfl (hb hby at_102) rfl kq)
    have K719 : Go p e below Tj1 (mkF m 104 #[.val (.int q0), .val (.int q1), .val (.int q2), .val (.int q3), .val (.ref x655), .val (.ref x659), .val (.ref x663), .val (.ref x667), .val (.ref b671), .val (.int lo1), .val (.int hi1), .val (.ref b678), .unset, .unset, .unset, .unset, .unset, .unset] [(.int (2 : Int32)), (.int q0)]) G := fun tq kq => K718 tq (XS.iconst Xj1.here hx rfl (hb hby at_103) kq)
    have K720 : Go p e below Tj1 (mkF m 105 #[.val (.int q0), .val (.int q1), .val (.int q2), .val (.int q3), .val (.ref x655), .val (.ref x659), .val (.ref x663), .val (.ref x667), .val (.ref b671), .val (.int lo1), .val (.int hi1), .val (.ref b678), .unset, .unset, .unset, .unset, .unset, .unset] [(.int (q0 &&& (2 : Int32)))]) G := fun tq kq => K719 tq (XS.iand Xj1.here hx rfl (hb hby at_104) rfl kq)
    by_cases hc721 : (q0 &&& (2 : Int32)) = (0 : Int32)
    · skip
      have K722 : Go p e below Tj1 (mkF m 128 #[.val (.int q0), .val (.int q1), .val (.int q2), .val (.int q3), .val (.ref x655), .val (.ref x659), .val (.ref x663), .val (.ref x667), .val (.ref b671), .val (.int lo1), .val (.int hi1), .val (.ref b678), .unset, .unset, .unset, .unset, .unset, .unset] []) G := fun tq kq => K720 tq (XS.ifYes Xj1.here hx rfl (pc0 := 105) (pc' := 128) rfl (hb hby at_105) rfl ((if0 _ _).trans (teq hc721).1) (by decide) (by decide) kq)
      have K723 : Go p e below Tj1 (mkF m 130 #[.val (.int q0), .val (.int q1), .val (.int q2), .val (.int q3), .val (.ref x655), .val (.ref x659), .val (.ref x663), .val (.ref x667), .val (.ref b671), .val (.int lo1), .val (.int hi1), .val (.ref b678), .unset, .unset, .unset, .unset, .unset, .unset] [(.ref b678)]) G := fun tq kq => K722 tq (XS.aload Xj1.here hx rfl (hb hby at_128) rfl rfl kq)
      have K724 : Go p e below Tj1 (mkF m 132 #[.val (.int q0), .val (.int q1), .val (.int q2), .val (.int q3), .val (.ref x655), .val (.ref x659), .val (.ref x663), .val (.ref x667), .val (.ref b671), .val (.int lo1), .val (.int hi1), .val (.ref b678), .unset, .unset, .unset, .unset, .unset, .unset] [(.ref x659), (.ref b678)]) G := fun tq kq => K723 tq (XS.aload Xj1.here hx rfl (hb hby at_130) rfl rfl kq)
      obtain ⟨cq725, kq725, q725a, q725b, q725c⟩ := isOf hZ ej1 Dj1.1
      obtain ⟨v725, _, ⟨T725, L725, k725, n725⟩, -, X725, ⟨Lc725, hQ725, l725, y725, z725⟩, st725⟩ := Xj1.virtualBack hx (y := (⟨"com/example/goalpost/goalpost/runtime/ListValue", "put", "(Ljava/lang/Object;)V"⟩ : MethodName)) (z := (⟨"com/example/goalpost/goalpost/runtime/ListValue", "put", "(Ljava/lang/Object;)V"⟩ : MethodName)) hown (mvT hZ (hW 38 _ rfl)) (mvT hZ (hW 39 _ rfl)) (notFace_of_selects (args := #[]) (mvT hZ (hW 41 _ rfl))) (mvT hZ (hW 41 _ rfl)) (mvT hZ (hW 40 _ rfl)) (by decide) (backOf (W := 0) (rmPU l Z a0 hw [] b678 x659 r_1 k_1 m_1 f_1 v_1 cs1 hj1 n0 Zj1 Dj1 (own_nuLen nu1 (by decide))) hZ (hW 42 _ rfl) (hW 16 _ rfl) (by decide) (by decide)) q725a q725c (g := (mkF m 132 #[.val (.int q0), .val (.int q1), .val (.int q2), .val (.int q3), .val (.ref x655), .val (.ref x659), .val (.ref x663), .val (.ref x667), .val (.ref b671), .val (.int lo1), .val (.int hi1), .val (.ref b678), .unset, .unset, .unset, .unset, .unset, .unset] [(.ref x659), (.ref b678)])) rfl (by rw [hml]; rfl) (Steps.refl _) (argsL := [(.ref x659)]) (rest := []) (lenOf pd_111 rfl) rfl (by show 2 * 0 + _ ≤ _; exact Nat.le_of_eq rfl) (hb hby at_132) (fun _ _ => ⟨rfl, ej1, (by decide : 5 + 2 ≤ _), (by decide : 28 + 7 ≤ _)⟩)
      dsimp only [Pt.U, Pt.locs, Pt.cells, Pt.slots] at X725 l725 y725 z725 st725 hQ725
      subst l725 y725 z725
      obtain ⟨rfl, N725q, K725q, r725, k725, m725, f725, vv725, c725, hr725, D725⟩ := hQ725
      have N725 := Fr.app Nj1 N725q
      have nmr725 : b671 ≠ r725 := hr725.elim (fun e => by rw [e]; exact nj1) (fun z => Nat.ne_of_lt (Nat.lt_of_lt_of_le Vj1.lt z))
      have K726 : Go p e below T725 (mkF m 135 #[.val (.int q0), .val (.int q1), .val (.int q2), .val (.int q3), .val (.ref x655), .val (.ref x659), .val (.ref x663), .val (.ref x667), .val (.ref b671), .val (.int lo1), .val (.int hi1), .val (.ref b678), .unset, .unset, .unset, .unset, .unset, .unset] []) G := fun tq kq => K724 tq (st725.trans kq)
      have K727 : Go p e below T725 (mkF m 137 #[.val (.int q0), .val (.int q1), .val (.int q2), .val (.int q3), .val (.ref x655), .val (.ref x659), .val (.ref x663), .val (.ref x667), .val (.ref b671), .val (.int lo1), .val (.int hi1), .val (.ref b678), .unset, .unset, .unset, .unset, .unset, .unset] [(.ref b671)]) G := fun tq kq => K726 tq (XS.aload X725.here hx rfl (hb hby at_135) rfl rfl kq)
      have K728 : Go p e below T725 (mkF m 139 #[.val (.int q0), .val (.int q1), .val (.int q2), .val (.int q3), .val (.ref x655), .val (.ref x659), .val (.ref x663), .val (.ref x667), .val (.ref b671), .val (.int lo1), .val (.int hi1), .val (.ref b678), .unset, .unset, .unset, .unset, .unset, .unset] [(.int hi1), (.ref b671)]) G := fun tq kq => K727 tq (XS.iload X725.here hx rfl (hb hby at_137) rfl kq)
      have K729 : Go p e below T725 (mkF m 141 #[.val (.int q0), .val (.int q1), .val (.int q2), .val (.int q3), .val (.ref x655), .val (.ref x659), .val (.ref x663), .val (.ref x667), .val (.ref b671), .val (.int lo1), .val (.int hi1), .val (.ref b678), .unset, .unset, .unset, .unset, .unset, .unset] [(.ref x659), (.int hi1), (.ref b671)]) G := fun tq kq => K728 tq (XS.aload X725.here hx rfl (hb hby at_139) rfl rfl kq)
      obtain ⟨cl730, Ar730, q730, S730, Nn730, Hh730, Gg730⟩ := id (Vj1.keep K725q (ninS (Ne.symm (Exa.neArv Dj1.1 Vj1 (hW 15 _ rfl))) (ninS nj1 nin0)))
      have hin730 : ¬ (hi1 < 0 ∨ cl730.slots.size ≤ (hi1).toNatClampNeg) := inb_of S730 (own_nuInH nu1 (by decide))
      obtain ⟨T730, h730, X730, e730, W730, st730⟩ := stR X725 hx hZ rfl Ar730 (j := hi1) hin730 rfl (Sto.ofV Ar730 q730 O671 (Ins.of_exa (EX1_1.keep K725q) (hW 61 _ rfl))) (g := (mkF m 141 #[.val (.int q0), .val (.int q1), .val (.int q2), .val (.int q3), .val (.ref x655), .val (.ref x659), .val (.ref x663), .val (.ref x667), .val (.ref b671), .val (.int lo1), .val (.int hi1), .val (.ref b678), .unset, .unset, .unset, .unset, .unset, .unset] [(.ref x659), (.int hi1), (.ref b671)])) rfl rfl (hb hby at_141)
      have V730 : Arv Z h730 b671 k671 (.object "java/lang/Object") (10 : Int32) (md1.set (lo1.toNatClampNeg + cs1.length) (.ref x659)) .null := Arv.set Ar730 q730 S730 Nn730 Hh730 Gg730 rfl W730 (lo1.toNatClampNeg + cs1.length) (own_nuHin nu1 (by decide)) (own_nuLt nu1 (by decide) ml1)
      have N730 := Fr.snoc X730 N725 ge_b671
      have K731 : Go p e below T730 (mkF m 142 #[.val (.int q0), .val (.int q1), .val (.int q2), .val (.int q3), .val (.ref x655), .val (.ref x659), .val (.ref x663), .val (.ref x667), .val (.ref b671), .val (.int lo1), .val (.int hi1), .val (.ref b678), .unset, .unset, .unset, .unset, .unset, .unset] []) G := fun tq kq => K729 tq (st730 tq kq)
      have K732 : Go p e below T730 (mkF m 145 #[.val (.int q0), .val (.int q1), .val (.int q2), .val (.int q3), .val (.ref x655), .val (.ref x659), .val (.ref x663), .val (.ref x667), .val (.ref b671), .val (.int lo1), .val (.int (hi1 + (1 : Int32))), .val (.ref b678), .unset, .unset, .unset, .unset, .unset, .unset] []) G := fun tq kq => K731 tq (XS.iinc X730.here hx rfl (hb hby at_142) rfl (l' := #[.val (.int q0), .val (.int q1), .val (.int q2), .val (.int q3), .val (.ref x655), .val (.ref x659), .val (.ref x663), .val (.ref x667), .val (.ref b671), .val (.int lo1), .val (.int (hi1 + (1 : Int32))), .val (.ref b678), .unset, .unset, .unset, .unset, .unset, .unset]) rfl kq)
      refine ⟨T730, h730, _, lo1, (hi1 + (1 : Int32)), r725, k725, m725, f725, vv725, (cs1 ++ [(c725, x659)]), (md1.set (lo1.toNatClampNeg + cs1.length) (.ref x659)), X730, e730, N730, (Nat.le_trans (Nat.le_trans Zj1 K725q.1) (Keep.of_wr W730).1), ((EX0_1.keep K725q).wr W730), ((EX1_1.keep K725q).wr W730), ((EX2_1.keep K725q).wr W730), ((EX3_1.keep K725q).wr W730), (own_dqK D725 (Keep.of_wr W730) (ninS (Exa.neArv D725.1 (Vj1.keep K725q (ninS (Ne.symm (Exa.neArv Dj1.1 Vj1 (hW 15 _ rfl))) (ninS nj1 nin0))) (hW 15 _ rfl)) nin0) (ninS (Ne.symm nmr725) nin0) (fun p hp => ninS (Exa.neArv (D725.2.2.2.2.2.2.2.2.2.2 p hp).1 (Vj1.keep K725q (ninS (Ne.symm (Exa.neArv Dj1.1 Vj1 (hW 15 _ rfl))) (ninS nj1 nin0))) (hW 47 _ rfl)) nin0)), V730, nmr725, ?_, ?_, ?_, K732⟩
      · first | exact ml1 | (rw [List.length_set]; exact ml1)
      · exact own_nuPut nu1 (by decide)
      · exact own_mapPut _ _ mp1 (own_nuLt nu1 (by decide) ml1)
    · skip
      have K733 : Go p e below Tj1 (mkF m 108 #[.val (.int q0), .val (.int q1), .val (.int q2), .val (.int q3), .val (.ref x655), .val (.ref x659), .val (.ref x663), .val (.ref x667), .val (.ref b671), .val (.int lo1), .val (.int hi1), .val (.ref b678), .unset, .unset, .unset, .unset, .unset, .unset] []) G := fun tq kq => K720 tq (XS.ifNo Xj1.here hx rfl (hb hby at_105) rfl ((if0 _ _).trans (feq hc721).1) kq)
      have K734 : Go p e below Tj1 (mkF m 110 #[.val (.int q0), .val (.int q1), .val (.int q2), .val (.int q3), .val (.ref x655), .val (.ref x659), .val (.ref x663), .val (.ref x667), .val (.ref b671), .val (.int lo1), .val (.int hi1), .val (.ref b678), .unset, .unset, .unset, .unset, .unset, .unset] [(.ref b678)]) G := fun tq kq => K733 tq (XS.aload Xj1.here hx rfl (hb hby at_108) rfl rfl kq)
      have K735 : Go p e below Tj1 (mkF m 112 #[.val (.int q0), .val (.int q1), .val (.int q2), .val (.int q3), .val (.ref x655), .val (.ref x659), .val (.ref x663), .val (.ref x667), .val (.ref b671), .val (.int lo1), .val (.int hi1), .val (.ref b678), .unset, .unset, .unset, .unset, .unset, .unset] [(.ref x659), (.ref b678)]) G := fun tq kq => K734 tq (XS.aload Xj1.here hx rfl (hb hby at_110) rfl rfl kq)
      obtain ⟨cq736, kq736, q736a, q736b, q736c⟩ := isOf hZ ej1 Dj1.1
      obtain ⟨v736, _, ⟨T736, L736, k736, n736⟩, -, X736, ⟨Lc736, hQ736, l736, y736, z736⟩, st736⟩ := Xj1.virtualBack hx (y := (⟨"com/example/goalpost/goalpost/runtime/ListValue", "push", "(Ljava/lang/Object;)V"⟩ : MethodName)) (z := (⟨"com/example/goalpost/goalpost/runtime/ListValue", "push", "(Ljava/lang/Object;)V"⟩ : MethodName)) hown (mvT hZ (hW 78 _ rfl)) (mvT hZ (hW 79 _ rfl)) (notFace_of_selects (args := #[]) (mvT hZ (hW 81 _ rfl))) (mvT hZ (hW 81 _ rfl)) (mvT hZ (hW 80 _ rfl)) (by decide) (backOf (W := 0) (rmPS l Z a0 hw [] b678 x659 r_1 k_1 m_1 f_1 v_1 cs1 hj1 n0 Zj1 Dj1 (own_nuLen nu1 (by decide))) hZ (hW 82 _ rfl) (hW 16 _ rfl) (by decide) (by decide)) q736a q736c (g := (mkF m 112 #[.val (.int q0), .val (.int q1), .val (.int q2), .val (.int q3), .val (.ref x655), .val (.ref x659), .val (.ref x663), .val (.ref x667), .val (.ref b671), .val (.int lo1), .val (.int hi1), .val (.ref b678), .unset, .unset, .unset, .unset, .unset, .unset] [(.ref x659), (.ref b678)])) rfl (by rw [hml]; rfl) (Steps.refl _) (argsL := [(.ref x659)]) (rest := []) (lenOf pd_111 rfl) rfl (by show 2 * 0 + _ ≤ _; exact Nat.le_of_eq rfl) (hb hby at_112) (fun _ _ => ⟨rfl, ej1, (by decide : 5 + 2 ≤ _), (by decide : 28 + 7 ≤ _)⟩)
      dsimp only [Pt.U, Pt.locs, Pt.cells, Pt.slots] at X736 l736 y736 z736 st736 hQ736
      subst l736 y736 z736
      obtain ⟨rfl, N736q, K736q, r736, k736, m736, f736, vv736, c736, hr736, D736⟩ := hQ736
      have N736 := Fr.app Nj1 N736q
      have nmr736 : b671 ≠ r736 := hr736.elim (fun e => by rw [e]; exact nj1) (fun z => Nat.ne_of_lt (Nat.lt_of_lt_of_le Vj1.lt z))
      have K737 : Go p e below T736 (mkF m 115 #[.val (.int q0), .val (.int q1), .val (.int q2), .val (.int q3), .val (.ref x655), .val (.ref x659), .val (.ref x663), .val (.ref x667), .val (.ref b671), .val (.int lo1), .val (.int hi1), .val (.ref b678), .unset, .unset, .unset, .unset, .unset, .unset] []) G := fun tq kq => K735 tq (st736.trans kq)
      have K738 : Go p e below T736 (mkF m 118 #[.val (.int q0), .val (.int q1), .val (.int q2), .val (.int q3), .val (.ref x655), .val (.ref x659), .val (.ref x663), .val (.ref x667), .val (.ref b671), .val (.int (lo1 + (-1 : Int32))), .val (.int hi1), .val (.ref b678), .unset, .unset, .unset, .unset, .unset, .unset] []) G := fun tq kq => K737 tq (XS.iinc X736.here hx rfl (hb hby at_115) rfl (l' := #[.val (.int q0), .val (.int q1), .val (.int q2), .val (.int q3), .val (.ref x655), .val (.ref x659), .val (.ref x663), .val (.ref x667), .val (.ref b671), .val (.int (lo1 + (-1 : Int32))), .val (.int hi1), .val (.ref b678), .unset, .unset, .unset, .unset, .unset, .unset]) rfl kq)
      have K739 : Go p e below T736 (mkF m 120 #[.val (.int q0), .val (.int q1), .val (.int q2), .val (.int q3), .val (.ref x655), .val (.ref x659), .val (.ref x663), .val (.ref x667), .val (.ref b671), .val (.int (lo1 + (-1 : Int32))), .val (.int hi1), .val (.ref b678), .unset, .unset, .unset, .unset, .unset, .unset] [(.ref b671)]) G := fun tq kq => K738 tq (XS.aload X736.here hx rfl (hb hby at_118) rfl rfl kq)
      have K740 : Go p e below T736 (mkF m 122 #[.val (.int q0), .val (.int q1), .val (.int q2), .val (.int q3), .val (.ref x655), .val (.ref x659), .val (.ref x663), .val (.ref x667), .val (.ref b671), .val (.int (lo1 + (-1 : Int32))), .val (.int hi1), .val (.ref b678), .unset, .unset, .unset, .unset, .unset, .unset] [(.int (lo1 + (-1 : Int32))), (.ref b671)]) G := fun tq kq => K739 tq (XS.iload X736.here hx rfl (hb hby at_120) rfl kq)
      have K741 : Go p e below T736 (mkF m 124 #[.val (.int q0), .val (.int q1), .val (.int q2), .val (.int q3), .val (.ref x655), .val (.ref x659), .val (.ref x663), .val (.ref x667), .val (.ref b671), .val (.int (lo1 + (-1 : Int32))), .val (.int hi1), .val (.ref b678), .unset, .unset, .unset, .unset, .unset, .unset] [(.ref x659), (.int (lo1 + (-1 : Int32))), (.ref b671)]) G := fun tq kq => K740 tq (XS.aload X736.here hx rfl (hb hby at_122) rfl rfl kq)
      obtain ⟨cl742, Ar742, q742, S742, Nn742, Hh742, Gg742⟩ := id (Vj1.keep K736q (ninS (Ne.symm (Exa.neArv Dj1.1 Vj1 (hW 15 _ rfl))) (ninS nj1 nin0)))
      have hin742 : ¬ ((lo1 + (-1 : Int32)) < 0 ∨ cl742.slots.size ≤ ((lo1 + (-1 : Int32))).toNatClampNeg) := inb_of S742 (own_nuInL nu1 (by decide))
      obtain ⟨T742, h742, X742, e742, W742, st742⟩ := stR X736 hx hZ rfl Ar742 (j := (lo1 + (-1 : Int32))) hin742 rfl (Sto.ofV Ar742 q742 O671 (Ins.of_exa (EX1_1.keep K736q) (hW 61 _ rfl))) (g := (mkF m 124 #[.val (.int q0), .val (.int q1), .val (.int q2), .val (.int q3), .val (.ref x655), .val (.ref x659), .val (.ref x663), .val (.ref x667), .val (.ref b671), .val (.int (lo1 + (-1 : Int32))), .val (.int hi1), .val (.ref b678), .unset, .unset, .unset, .unset, .unset, .unset] [(.ref x659), (.int (lo1 + (-1 : Int32))), (.ref b671)])) rfl rfl (hb hby at_124)
      have V742 : Arv Z h742 b671 k671 (.object "java/lang/Object") (10 : Int32) (md1.set (lo1 + (-1 : Int32)).toNatClampNeg (.ref x659)) .null := Arv.set Ar742 q742 S742 Nn742 Hh742 Gg742 rfl W742 (lo1 + (-1 : Int32)).toNatClampNeg rfl (own_nuLtL nu1 (by decide) ml1)
      have N742 := Fr.snoc X742 N736 ge_b671
      have K743 : Go p e below T742 (mkF m 125 #[.val (.int q0), .val (.int q1), .val (.int q2), .val (.int q3), .val (.ref x655), .val (.ref x659), .val (.ref x663), .val (.ref x667), .val (.ref b671), .val (.int (lo1 + (-1 : Int32))), .val (.int hi1), .val (.ref b678), .unset, .unset, .unset, .unset, .unset, .unset] []) G := fun tq kq => K741 tq (st742 tq kq)
      have K744 : Go p e below T742 (mkF m 145 #[.val (.int q0), .val (.int q1), .val (.int q2), .val (.int q3), .val (.ref x655), .val (.ref x659), .val (.ref x663), .val (.ref x667), .val (.ref b671), .val (.int (lo1 + (-1 : Int32))), .val (.int hi1), .val (.ref b678), .unset, .unset, .unset, .unset, .unset, .unset] []) G := fun tq kq => K743 tq (XS.goto X742.here hx rfl (pc0 := 125) (pc' := 145) rfl (hb hby at_125) (by decide) (by decide) kq)
      refine ⟨T742, h742, _, (lo1 + (-1 : Int32)), hi1, r736, k736, m736, f736, vv736, ((c736, x659) :: cs1), (md1.set (lo1 + (-1 : Int32)).toNatClampNeg (.ref x659)), X742, e742, N742, (Nat.le_trans (Nat.le_trans Zj1 K736q.1) (Keep.of_wr W742).1), ((EX0_1.keep K736q).wr W742), ((EX1_1.keep K736q).wr W742), ((EX2_1.keep K736q).wr W742), ((EX3_1.keep K736q).wr W742), (own_dqK D736 (Keep.of_wr W742) (ninS (Exa.neArv D736.1 (Vj1.keep K736q (ninS (Ne.symm (Exa.neArv Dj1.1 Vj1 (hW 15 _ rfl))) (ninS nj1 nin0))) (hW 15 _ rfl)) nin0) (ninS (Ne.symm nmr736) nin0) (fun p hp => ninS (Exa.neArv (D736.2.2.2.2.2.2.2.2.2.2 p hp).1 (Vj1.keep K736q (ninS (Ne.symm (Exa.neArv Dj1.1 Vj1 (hW 15 _ rfl))) (ninS nj1 nin0))) (hW 47 _ rfl)) nin0)), V742, nmr736, ?_, ?_, ?_, K744⟩
      · first | exact ml1 | (rw [List.length_set]; exact ml1)
      · exact own_nuPush nu1 (by decide)
      · exact own_nuMapPush nu1 (by decide) ml1 mp1
  have K745 : Go p e below Tj2 (mkF m 146 #[.val (.int q0), .val (.int q1), .val (.int q2), .val (.int q3), .val (.ref x655), .val (.ref x659), .val (.ref x663), .val (.ref x667), .val (.ref b671), .val (.int lo2), .val (.int hi2), .val (.ref b678), .unset, .unset, .unset, .unset, .unset, .unset] [(.int q0)]) G := fun tq kq => Kj717 tq (XS.iloadN Xj2.here hx rfl (hb hby at_145) rfl kq)
  have K746 : Go p e below Tj2 (mkF m 147 #[.val (.int q0), .val (.int q1), .val (.int q2), .val (.int q3), .val (.ref x655), .val (.ref x659), .val (.ref x663), .val (.ref x667), .val (.ref b671), .val (.int lo2), .val (.int hi2), .val (.ref b678), .unset, .unset, .unset, .unset, .unset, .unset] [(.int (4 : Int32)), (.int q0)]) G := fun tq kq => K745 tq (XS.iconst Xj2.here hx rfl (hb hby at_146) kq)
  have K747 : Go p e below Tj2 (mkF m 148 #[.val (.int q0), .val (.int q1), .val (.int q2), .val (.int q3), .val (.ref x655), .val (.ref x659), .val (.ref x663), .val (.ref x667), .val (.ref b671), .val (.int lo2), .val (.int hi2), .val (.ref b678), .unset, .unset, .unset, .unset, .unset, .unset] [(.int ((q0.toUInt32 >>> ((4 : Int32) &&& 31).toUInt32).toInt32))]) G := fun tq kq => K746 tq (XS.iushr Xj2.here hx rfl (hb hby at_147) rfl kq)
  have K748 : Go p e below Tj2 (mkF m 149 #[.val (.int q0), .val (.int q1), .val (.int q2), .val (.int q3), .val (.ref x655), .val (.ref x659), .val (.ref x663), .val (.ref x667), .val (.ref b671), .val (.int lo2), .val (.int hi2), .val (.ref b678), .unset, .unset, .unset, .unset, .unset, .unset] [(.int (3 : Int32)), (.int ((q0.toUInt32 >>> ((4 : Int32) &&& 31).toUInt32).toInt32))]) G := fun tq kq => K747 tq (XS.iconst Xj2.here hx rfl (hb hby at_148) kq)
  have K749 : Go p e below Tj2 (mkF m 150 #[.val (.int q0), .val (.int q1), .val (.int q2), .val (.int q3), .val (.ref x655), .val (.ref x659), .val (.ref x663), .val (.ref x667), .val (.ref b671), .val (.int lo2), .val (.int hi2), .val (.ref b678), .unset, .unset, .unset, .unset, .unset, .unset] [(.int (((q0.toUInt32 >>> ((4 : Int32) &&& 31).toUInt32).toInt32) &&& (3 : Int32)))]) G := fun tq kq => K748 tq (XS.iand Xj2.here hx rfl (hb hby at_149) rfl kq)
  have K750 : Go p e below Tj2 (mkF m 152 #[.val (.int q0), .val (.int q1), .val (.int q2), .val (.int q3), .val (.ref x655), .val (.ref x659), .val (.ref x663), .val (.ref x667), .val (.ref b671), .val (.int lo2), .val (.int hi2), .val (.ref b678), .val (.int (((q0.toUInt32 >>> ((4 : Int32) &&& 31).toUInt32).toInt32) &&& (3 : Int32))), .unset, .unset, .unset, .unset, .unset] []) G := fun tq kq => K749 tq (XS.istore Xj2.here hx rfl (hb hby at_150) rfl (l' := #[.val (.int q0), .val (.int q1), .val (.int q2), .val (.int q3), .val (.ref x655), .val (.ref x659), .val (.ref x663), .val (.ref x667), .val (.ref b671), .val (.int lo2), .val (.int hi2), .val (.ref b678), .val (.int (((q0.toUInt32 >>> ((4 : Int32) &&& 31).toUInt32).toInt32) &&& (3 : Int32))), .unset, .unset, .unset, .unset, .unset]) rfl kq)
  obtain ⟨Tj3, hj3, Lj3, lo3, hi3, r_3, k_3, m_3, f_3, v_3, cs3, md3, Xj3, ej3, Nj3, Zj3, EX0_3, EX1_3, EX2_3, EX3_3, Dj3, Vj3, nj3, ml3, nu3, mp3, Kj751⟩ : ∃ (Tj3 : State) (hj3 : Heap) (Lj3 : List Loc) (lo3 : Int32) (hi3 : Int32) (r_3 : Addr) (k_3 : ClassId) (m_3 : Int32) (f_3 : Int32) (v_3 : List Value) (cs3 : List (Addr × Addr)) (md3 : List Value), Stand p l e room_1 s m #[(.int q0), (.int q1), (.int q2), (.int q3)] below meth c Tj3 Lj3 7 35 ∧ Tj3.heap = hj3 ∧ Fr n0 Lj3 ∧ n0 ≤ hj3.size ∧ Exa Z hj3 x655 "java/lang/Long" ∧ Exa Z hj3 x659 "java/lang/Long" ∧ Exa Z hj3 x663 "java/lang/Long" ∧ Exa Z hj3 x667 "java/lang/Long" ∧ own_Dq Z hj3 n0 b678 r_3 k_3 m_3 f_3 v_3 cs3 ∧ Arv Z hj3 b671 k671 (.object "java/lang/Object") (10 : Int32) md3 .null ∧ b671 ≠ r_3 ∧ md3.length = 10 ∧ own_Nu 3 6 7 1 2 lo3 hi3 cs3.length ∧ own_Map md3 lo3.toNatClampNeg cs3 ∧ Go p e below Tj3 (mkF m 185 #[.val (.int q0), .val (.int q1), .val (.int q2), .val (.int q3), .val (.ref x655), .val (.ref x659), .val (.ref x663), .val (.ref x667), .val (.ref b671), .val (.int lo3), .val (.int hi3), .val (.ref b678), .val (.int (((q0.toUInt32 >>> ((4 : Int32) &&& 31).toUInt32).toInt32) &&& (3 : Int32))), .unset, .unset, .unset, .unset, .unset] []) G := by
    have K752 : Go p e below Tj2 (mkF m 154 #[.val (.int q0), .val (.int q1), .val (.int q2), .val (.int q3), .val (.ref x655), .val (.ref x659), .val (.ref x663), .val (.ref x667), .val (.ref b671), .val (.int lo2), .val (.int hi2), .val (.ref b678), .val (.int (((q0.toUInt32 >>> ((4 : Int32) &&& 31).toUInt32).toInt32) &&& (3 : Int32))), .unset, .unset, .unset, .unset, .unset] [(.int (((q0.toUInt32 >>> ((4 : Int32) &&& 31).toUInt32).toInt32) &&& (3 : Int32)))]) G := fun tq kq => K750 tq (XS.iload Xj2.here hx rfl (hb hby at_152) rfl kq)
    have K753 : Go p e below Tj2 (mkF m 155 #[.val (.int q0), .val (.int q1), .val (.int q2), .val (.int q3), .val (.ref x655), .val (.ref x659), .val (.ref x663), .val (.ref x667), .val (.ref b671), .val (.int lo2), .val (.int hi2), .val (.ref b678), .val (.int (((q0.toUInt32 >>> ((4 : Int32) &&& 31).toUInt32).toInt32) &&& (3 : Int32))), .unset, .unset, .unset, .unset, .unset] [(.int (1 : Int32)), (.int (((q0.toUInt32 >>> ((4 : Int32) &&& 31).toUInt32).toInt32) &&& (3 : Int32)))]) G := fun tq kq => K752 tq (XS.iconst Xj2.here hx rfl (hb hby at_154) kq)
    by_cases hc754 : (((q0.toUInt32 >>> ((4 : Int32) &&& 31).toUInt32).toInt32) &&& (3 : Int32)) = (1 : Int32)
    · skip
      have K755 : Go p e below Tj2 (mkF m 158 #[.val (.int q0), .val (.int q1), .val (.int q2), .val (.int q3), .val (.ref x655), .val (.ref x659), .val (.ref x663), .val (.ref x667), .val (.ref b671), .val (.int lo2), .val (.int hi2), .val (.ref b678), .val (.int (((q0.toUInt32 >>> ((4 : Int32) &&& 31).toUInt32).toInt32) &&& (3 : Int32))), .unset, .unset, .unset, .unset, .unset] []) G := fun tq kq => K753 tq (XS.icmpNo Xj2.here hx rfl (hb hby at_155) rfl ((teq hc754).2) kq)
      have K756 : Go p e below Tj2 (mkF m 160 #[.val (.int q0), .val (.int q1), .val (.int q2), .val (.int q3), .val (.ref x655), .val (.ref x659), .val (.ref x663), .val (.ref x667), .val (.ref b671), .val (.int lo2), .val (.int hi2), .val (.ref b678), .val (.int (((q0.toUInt32 >>> ((4 : Int32) &&& 31).toUInt32).toInt32) &&& (3 : Int32))), .unset, .unset, .unset, .unset, .unset] [(.ref b678)]) G := fun tq kq => K755 tq (XS.aload Xj2.here hx rfl (hb hby at_158) rfl rfl kq)
      obtain ⟨⟨cz757, xz757⟩, cr757, hcr757⟩ := own_uncons cs2 (own_nuPos nu2 (by decide))
      have Dc757 := Dj2
      rw [hcr757] at Dc757
      obtain ⟨cq758, kq758, q758a, q758b, q758c⟩ := isOf hZ ej2 Dj2.1
      obtain ⟨v758, _, ⟨T758, L758, k758, n758⟩, -, X758, ⟨Lc758, hQ758, l758, y758, z758⟩, st758⟩ := Xj2.virtualBack hx (y := (⟨"com/example/goalpost/goalpost/runtime/ListValue", "get", "()Ljava/lang/Object;"⟩ : MethodName)) (z := (⟨"com/example/goalpost/goalpost/runtime/ListValue", "get", "()Ljava/lang/Object;"⟩ : MethodName)) hown (mvT hZ (hW 83 _ rfl)) (mvT hZ (hW 84 _ rfl)) (notFace_of_selects (args := #[]) (mvT hZ (hW 86 _ rfl))) (mvT hZ (hW 86 _ rfl)) (mvT hZ (hW 85 _ rfl)) (by decide) (backOf (W := 0) (rmGE l Z a0 hw [] b678 r_2 k_2 m_2 f_2 v_2 cr757 cz757 xz757 hj2 n0 Zj2 Dc757) hZ (hW 87 _ rfl) (hW 16 _ rfl) (by decide) (by decide)) q758a q758c (g := (mkF m 160 #[.val (.int q0), .val (.int q1), .val (.int q2), .val (.int q3), .val (.ref x655), .val (.ref x659), .val (.ref x663), .val (.ref x667), .val (.ref b671), .val (.int lo2), .val (.int hi2), .val (.ref b678), .val (.int (((q0.toUInt32 >>> ((4 : Int32) &&& 31).toUInt32).toInt32) &&& (3 : Int32))), .unset, .unset, .unset, .unset, .unset] [(.ref b678)])) rfl (by rw [hml]; rfl) (Steps.refl _) (argsL := []) (rest := []) (lenOf pd_183 rfl) rfl (by show 2 * 0 + _ ≤ _; exact Nat.le_of_eq rfl) (hb hby at_160) (fun _ _ => ⟨rfl, ej2, (by decide : 7 + 0 ≤ _), (by decide : 35 + 0 ≤ _)⟩)
      dsimp only [Pt.U, Pt.locs, Pt.cells, Pt.slots] at X758 l758 y758 z758 st758 hQ758
      subst l758 y758 z758
      obtain ⟨rfl, N758q, K758q, f758, vv758, D758⟩ := hQ758
      have N758 := Fr.app Nj2 N758q
      have K759 : Go p e below T758 (mkF m 163 #[.val (.int q0), .val (.int q1), .val (.int q2), .val (.int q3), .val (.ref x655), .val (.ref x659), .val (.ref x663), .val (.ref x667), .val (.ref b671), .val (.int lo2), .val (.int hi2), .val (.ref b678), .val (.int (((q0.toUInt32 >>> ((4 : Int32) &&& 31).toUInt32).toInt32) &&& (3 : Int32))), .unset, .unset, .unset, .unset, .unset] [(.ref xz757)]) G := fun tq kq => K756 tq (st758.trans kq)
      have K760 : Go p e below T758 (mkF m 164 #[.val (.int q0), .val (.int q1), .val (.int q2), .val (.int q3), .val (.ref x655), .val (.ref x659), .val (.ref x663), .val (.ref x667), .val (.ref b671), .val (.int lo2), .val (.int hi2), .val (.ref b678), .val (.int (((q0.toUInt32 >>> ((4 : Int32) &&& 31).toUInt32).toInt32) &&& (3 : Int32))), .unset, .unset, .unset, .unset, .unset] []) G := fun tq kq => K759 tq (XS.pop X758.here hx rfl (hb hby at_163) rfl rfl kq)
      have K761 : Go p e below T758 (mkF m 167 #[.val (.int q0), .val (.int q1), .val (.int q2), .val (.int q3), .val (.ref x655), .val (.ref x659), .val (.ref x663), .val (.ref x667), .val (.ref b671), .val (.int (lo2 + (1 : Int32))), .val (.int hi2), .val (.ref b678), .val (.int (((q0.toUInt32 >>> ((4 : Int32) &&& 31).toUInt32).toInt32) &&& (3 : Int32))), .unset, .unset, .unset, .unset, .unset] []) G := fun tq kq => K760 tq (XS.iinc X758.here hx rfl (hb hby at_164) rfl (l' := #[.val (.int q0), .val (.int q1), .val (.int q2), .val (.int q3), .val (.ref x655), .val (.ref x659), .val (.ref x663), .val (.ref x667), .val (.ref b671), .val (.int (lo2 + (1 : Int32))), .val (.int hi2), .val (.ref b678), .val (.int (((q0.toUInt32 >>> ((4 : Int32) &&& 31).toUInt32).toInt32) &&& (3 : Int32))), .unset, .unset, .unset, .unset, .unset]) rfl kq)
      have K762 : Go p e below T758 (mkF m 185 #[.val (.int q0), .val (.int q1), .val (.int q2), .val (.int q3), .val (.ref x655), .val (.ref x659), .val (.ref x663), .val (.ref x667), .val (.ref b671), .val (.int (lo2 + (1 : Int32))), .val (.int hi2), .val (.ref b678), .val (.int (((q0.toUInt32 >>> ((4 : Int32) &&& 31).toUInt32).toInt32) &&& (3 : Int32))), .unset, .unset, .unset, .unset, .unset] []) G := fun tq kq => K761 tq (XS.goto X758.here hx rfl (pc0 := 167) (pc' := 185) rfl (hb hby at_167) (by decide) (by decide) kq)
      refine ⟨T758, T758.heap, _, (lo2 + (1 : Int32)), hi2, r_2, k_2, m_2, f758, vv758, cr757, md2, X758, rfl, N758, (Nat.le_trans Zj2 K758q.1), (EX0_2.keep K758q), (EX1_2.keep K758q), (EX2_2.keep K758q), (EX3_2.keep K758q), D758, (Vj2.keep K758q (ninS (Ne.symm (Exa.neArv Dj2.1 Vj2 (hW 15 _ rfl))) (ninS nj2 nin0))), nj2, ?_, ?_, ?_, K762⟩
      · first | exact ml2 | (rw [List.length_set]; exact ml2)
      · exact own_nuGet nu2 hcr757 (by decide)
      · exact own_nuMapGet nu2 (by decide) hcr757 mp2
    · skip
      have K763 : Go p e below Tj2 (mkF m 170 #[.val (.int q0), .val (.int q1), .val (.int q2), .val (.int q3), .val (.ref x655), .val (.ref x659), .val (.ref x663), .val (.ref x667), .val (.ref b671), .val (.int lo2), .val (.int hi2), .val (.ref b678), .val (.int (((q0.toUInt32 >>> ((4 : Int32) &&& 31).toUInt32).toInt32) &&& (3 : Int32))), .unset, .unset, .unset, .unset, .unset] []) G := fun tq kq => K753 tq (XS.icmpYes Xj2.here hx rfl (pc0 := 155) (pc' := 170) rfl (hb hby at_155) rfl ((feq hc754).2) (by decide) (by decide) kq)
      have K764 : Go p e below Tj2 (mkF m 172 #[.val (.int q0), .val (.int q1), .val (.int q2), .val (.int q3), .val (.ref x655), .val (.ref x659), .val (.ref x663), .val (.ref x667), .val (.ref b671), .val (.int lo2), .val (.int hi2), .val (.ref b678), .val (.int (((q0.toUInt32 >>> ((4 : Int32) &&& 31).toUInt32).toInt32) &&& (3 : Int32))), .unset, .unset, .unset, .unset, .unset] [(.int (((q0.toUInt32 >>> ((4 : Int32) &&& 31).toUInt32).toInt32) &&& (3 : Int32)))]) G := fun tq kq => K763 tq (XS.iload Xj2.here hx rfl (hb hby at_170) rfl kq)
      have K765 : Go p e below Tj2 (mkF m 173 #[.val (.int q0), .val (.int q1), .val (.int q2), .val (.int q3), .val (.ref x655), .val (.ref x659), .val (.ref x663), .val (.ref x667), .val (.ref b671), .val (.int lo2), .val (.int hi2), .val (.ref b678), .val (.int (((q0.toUInt32 >>> ((4 : Int32) &&& 31).toUInt32).toInt32) &&& (3 : Int32))), .unset, .unset, .unset, .unset, .unset] [(.int (2 : Int32)), (.int (((q0.toUInt32 >>> ((4 : Int32) &&& 31).toUInt32).toInt32) &&& (3 : Int32)))]) G := fun tq kq => K764 tq (XS.iconst Xj2.here hx rfl (hb hby at_172) kq)
      by_cases hc766 : (((q0.toUInt32 >>> ((4 : Int32) &&& 31).toUInt32).toInt32) &&& (3 : Int32)) = (2 : Int32)
      · skip
        have K767 : Go p e below Tj2 (mkF m 176 #[.val (.int q0), .val (.int q1), .val (.int q2), .val (.int q3), .val (.ref x655), .val (.ref x659), .val (.ref x663), .val (.ref x667), .val (.ref b671), .val (.int lo2), .val (.int hi2), .val (.ref b678), .val (.int (((q0.toUInt32 >>> ((4 : Int32) &&& 31).toUInt32).toInt32) &&& (3 : Int32))), .unset, .unset, .unset, .unset, .unset] []) G := fun tq kq => K765 tq (XS.icmpNo Xj2.here hx rfl (hb hby at_173) rfl ((teq hc766).2) kq)
        have K768 : Go p e below Tj2 (mkF m 178 #[.val (.int q0), .val (.int q1), .val (.int q2), .val (.int q3), .val (.ref x655), .val (.ref x659), .val (.ref x663), .val (.ref x667), .val (.ref b671), .val (.int lo2), .val (.int hi2), .val (.ref b678), .val (.int (((q0.toUInt32 >>> ((4 : Int32) &&& 31).toUInt32).toInt32) &&& (3 : Int32))), .unset, .unset, .unset, .unset, .unset] [(.ref b678)]) G := fun tq kq => K767 tq (XS.aload Xj2.here hx rfl (hb hby at_176) rfl rfl kq)
        obtain ⟨⟨cz769, xz769⟩, cr769, hcr769⟩ := own_unsnoc cs2 (own_nuPos nu2 (by decide))
        have Dc769 := Dj2
        rw [hcr769] at Dc769
        obtain ⟨cq770, kq770, q770a, q770b, q770c⟩ := isOf hZ ej2 Dj2.1
        obtain ⟨v770, _, ⟨T770, L770, k770, n770⟩, -, X770, ⟨Lc770, hQ770, l770, y770, z770⟩, st770⟩ := Xj2.virtualBack hx (y := (⟨"com/example/goalpost/goalpost/runtime/ListValue", "pull", "()Ljava/lang/Object;"⟩ : MethodName)) (z := (⟨"com/example/goalpost/goalpost/runtime/ListValue", "pull", "()Ljava/lang/Object;"⟩ : MethodName)) hown (mvT hZ (hW 89 _ rfl)) (mvT hZ (hW 90 _ rfl)) (notFace_of_selects (args := #[]) (mvT hZ (hW 92 _ rfl))) (mvT hZ (hW 92 _ rfl)) (mvT hZ (hW 91 _ rfl)) (by decide) (backOf (W := 0) (rmPL l Z a0 hw [] b678 r_2 k_2 m_2 f_2 v_2 cr769 cz769 xz769 hj2 n0 Zj2 Dc769) hZ (hW 93 _ rfl) (hW 16 _ rfl) (by decide) (by decide)) q770a q770c (g := (mkF m 178 #[.val (.int q0), .val (.int q1), .val (.int q2), .val (.int q3), .val (.ref x655), .val (.ref x659), .val (.ref x663), .val (.ref x667), .val (.ref b671), .val (.int lo2), .val (.int hi2), .val (.ref b678), .val (.int (((q0.toUInt32 >>> ((4 : Int32) &&& 31).toUInt32).toInt32) &&& (3 : Int32))), .unset, .unset, .unset, .unset, .unset] [(.ref b678)])) rfl (by rw [hml]; rfl) (Steps.refl _) (argsL := []) (rest := []) (lenOf pd_183 rfl) rfl (by show 2 * 0 + _ ≤ _; exact Nat.le_of_eq rfl) (hb hby at_178) (fun _ _ => ⟨rfl, ej2, (by decide : 7 + 0 ≤ _), (by decide : 35 + 0 ≤ _)⟩)
        dsimp only [Pt.U, Pt.locs, Pt.cells, Pt.slots] at X770 l770 y770 z770 st770 hQ770
        subst l770 y770 z770
        obtain ⟨rfl, N770q, K770q, f770, vv770, D770⟩ := hQ770
        have N770 := Fr.app Nj2 N770q
        have K771 : Go p e below T770 (mkF m 181 #[.val (.int q0), .val (.int q1), .val (.int q2), .val (.int q3), .val (.ref x655), .val (.ref x659), .val (.ref x663), .val (.ref x667), .val (.ref b671), .val (.int lo2), .val (.int hi2), .val (.ref b678), .val (.int (((q0.toUInt32 >>> ((4 : Int32) &&& 31).toUInt32).toInt32) &&& (3 : Int32))), .unset, .unset, .unset, .unset, .unset] [(.ref xz769)]) G := fun tq kq => K768 tq (st770.trans kq)
        have K772 : Go p e below T770 (mkF m 182 #[.val (.int q0), .val (.int q1), .val (.int q2), .val (.int q3), .val (.ref x655), .val (.ref x659), .val (.ref x663), .val (.ref x667), .val (.ref b671), .val (.int lo2), .val (.int hi2), .val (.ref b678), .val (.int (((q0.toUInt32 >>> ((4 : Int32) &&& 31).toUInt32).toInt32) &&& (3 : Int32))), .unset, .unset, .unset, .unset, .unset] []) G := fun tq kq => K771 tq (XS.pop X770.here hx rfl (hb hby at_181) rfl rfl kq)
        have K773 : Go p e below T770 (mkF m 185 #[.val (.int q0), .val (.int q1), .val (.int q2), .val (.int q3), .val (.ref x655), .val (.ref x659), .val (.ref x663), .val (.ref x667), .val (.ref b671), .val (.int lo2), .val (.int (hi2 + (-1 : Int32))), .val (.ref b678), .val (.int (((q0.toUInt32 >>> ((4 : Int32) &&& 31).toUInt32).toInt32) &&& (3 : Int32))), .unset, .unset, .unset, .unset, .unset] []) G := fun tq kq => K772 tq (XS.iinc X770.here hx rfl (hb hby at_182) rfl (l' := #[.val (.int q0), .val (.int q1), .val (.int q2), .val (.int q3), .val (.ref x655), .val (.ref x659), .val (.ref x663), .val (.ref x667), .val (.ref b671), .val (.int lo2), .val (.int (hi2 + (-1 : Int32))), .val (.ref b678), .val (.int (((q0.toUInt32 >>> ((4 : Int32) &&& 31).toUInt32).toInt32) &&& (3 : Int32))), .unset, .unset, .unset, .unset, .unset]) rfl kq)
        refine ⟨T770, T770.heap, _, lo2, (hi2 + (-1 : Int32)), r_2, k_2, m_2, f770, vv770, cr769, md2, X770, rfl, N770, (Nat.le_trans Zj2 K770q.1), (EX0_2.keep K770q), (EX1_2.keep K770q), (EX2_2.keep K770q), (EX3_2.keep K770q), D770, (Vj2.keep K770q (ninS (Ne.symm (Exa.neArv Dj2.1 Vj2 (hW 15 _ rfl))) (ninS nj2 nin0))), nj2, ?_, ?_, ?_, K773⟩
        · first | exact ml2 | (rw [List.length_set]; exact ml2)
        · exact own_nuPull nu2 hcr769 (by decide)
        · exact own_mapPull (hcr769 ▸ mp2)
      · skip
        have K774 : Go p e below Tj2 (mkF m 185 #[.val (.int q0), .val (.int q1), .val (.int q2), .val (.int q3), .val (.ref x655), .val (.ref x659), .val (.ref x663), .val (.ref x667), .val (.ref b671), .val (.int lo2), .val (.int hi2), .val (.ref b678), .val (.int (((q0.toUInt32 >>> ((4 : Int32) &&& 31).toUInt32).toInt32) &&& (3 : Int32))), .unset, .unset, .unset, .unset, .unset] []) G := fun tq kq => K765 tq (XS.icmpYes Xj2.here hx rfl (pc0 := 173) (pc' := 185) rfl (hb hby at_173) rfl ((feq hc766).2) (by decide) (by decide) kq)
        refine ⟨Tj2, hj2, _, lo2, hi2, r_2, k_2, m_2, f_2, v_2, cs2, md2, Xj2, ej2, Nj2, Zj2, EX0_2, EX1_2, EX2_2, EX3_2, Dj2, Vj2, nj2, ?_, ?_, ?_, K774⟩
        · first | exact ml2 | (rw [List.length_set]; exact ml2)
        · exact own_nuSame nu2 (by decide)
        · exact mp2
  obtain ⟨Tj4, hj4, Lj4, lo4, hi4, r_4, k_4, m_4, f_4, v_4, cs4, md4, Xj4, ej4, Nj4, Zj4, EX0_4, EX1_4, EX2_4, EX3_4, Dj4, Vj4, nj4, ml4, nu4, mp4, Kj775⟩ : ∃ (Tj4 : State) (hj4 : Heap) (Lj4 : List Loc) (lo4 : Int32) (hi4 : Int32) (r_4 : Addr) (k_4 : ClassId) (m_4 : Int32) (f_4 : Int32) (v_4 : List Value) (cs4 : List (Addr × Addr)) (md4 : List Value), Stand p l e room_1 s m #[(.int q0), (.int q1), (.int q2), (.int q3)] below meth c Tj4 Lj4 9 42 ∧ Tj4.heap = hj4 ∧ Fr n0 Lj4 ∧ n0 ≤ hj4.size ∧ Exa Z hj4 x655 "java/lang/Long" ∧ Exa Z hj4 x659 "java/lang/Long" ∧ Exa Z hj4 x663 "java/lang/Long" ∧ Exa Z hj4 x667 "java/lang/Long" ∧ own_Dq Z hj4 n0 b678 r_4 k_4 m_4 f_4 v_4 cs4 ∧ Arv Z hj4 b671 k671 (.object "java/lang/Object") (10 : Int32) md4 .null ∧ b671 ≠ r_4 ∧ md4.length = 10 ∧ own_Nu 2 6 8 2 3 lo4 hi4 cs4.length ∧ own_Map md4 lo4.toNatClampNeg cs4 ∧ Go p e below Tj4 (mkF m 228 #[.val (.int q0), .val (.int q1), .val (.int q2), .val (.int q3), .val (.ref x655), .val (.ref x659), .val (.ref x663), .val (.ref x667), .val (.ref b671), .val (.int lo4), .val (.int hi4), .val (.ref b678), .val (.int (((q0.toUInt32 >>> ((4 : Int32) &&& 31).toUInt32).toInt32) &&& (3 : Int32))), .unset, .unset, .unset, .unset, .unset] []) G := by
    have K776 : Go p e below Tj3 (mkF m 186 #[.val (.int q0), .val (.int q1), .val (.int q2), .val (.int q3), .val (.ref x655), .val (.ref x659), .val (.ref x663), .val (.ref x667), .val (.ref b671), .val (.int lo3), .val (.int hi3), .val (.ref b678), .val (.int (((q0.toUInt32 >>> ((4 : Int32) &&& 31).toUInt32).toInt32) &&& (3 : Int32))), .unset, .unset, .unset, .unset, .unset] [(.int q0)]) G := fun tq kq => Kj751 tq (XS.iloadN Xj3.here hx rfl (hb hby at_185) rfl kq)
    have K777 : Go p e below Tj3 (mkF m 187 #[.val (.int q0), .val (.int q1), .val (.int q2), .val (.int q3), .val (.ref x655), .val (.ref x659), .val (.ref x663), .val (.ref x667), .val (.ref b671), .val (.int lo3), .val (.int hi3), .val (.ref b678), .val (.int (((q0.toUInt32 >>> ((4 : Int32) &&& 31).toUInt32).toInt32) &&& (3 : Int32))), .unset, .unset, .unset, .unset, .unset] [(.int (4 : Int32)), (.int q0)]) G := fun tq kq => K776 tq (XS.iconst Xj3.here hx rfl (hb hby at_186) kq)
    have K778 : Go p e below Tj3 (mkF m 188 #[.val (.int q0), .val (.int q1), .val (.int q2), .val (.int q3), .val (.ref x655), .val (.ref x659), .val (.ref x663), .val (.ref x667), .val (.ref b671), .val (.int lo3), .val (.int hi3), .val (.ref b678), .val (.int (((q0.toUInt32 >>> ((4 : Int32) &&& 31).toUInt32).toInt32) &&& (3 : Int32))), .unset, .unset, .unset, .unset, .unset] [(.int (q0 &&& (4 : Int32)))]) G := fun tq kq => K777 tq (XS.iand Xj3.here hx rfl (hb hby at_187) rfl kq)
    by_cases hc779 : (q0 &&& (4 : Int32)) = (0 : Int32)
    · skip
      have K780 : Go p e below Tj3 (mkF m 211 #[.val (.int q0), .val (.int q1), .val (.int q2), .val (.int q3), .val (.ref x655), .val (.ref x659), .val (.ref x663), .val (.ref x667), .val (.ref b671), .val (.int lo3), .val (.int hi3), .val (.ref b678), .val (.int (((q0.toUInt32 >>> ((4 : Int32) &&& 31).toUInt32).toInt32) &&& (3 : Int32))), .unset, .unset, .unset, .unset, .unset] []) G := fun tq kq => K778 tq (XS.ifYes Xj3.here hx rfl (pc0 := 188) (pc' := 211) rfl (hb hby at_188) rfl ((if0 _ _).trans (teq hc779).1) (by decide) (by decide) kq)
      have K781 : Go p e below Tj3 (mkF m 213 #[.val (.int q0), .val (.int q1), .val (.int q2), .val (.int q3), .val (.ref x655), .val (.ref x659), .val (.ref x663), .val (.ref x667), .val (.ref b671), .val (.int lo3), .val (.int hi3), .val (.ref b678), .val (.int (((q0.toUInt32 >>> ((4 : Int32) &&& 31).toUInt32).toInt32) &&& (3 : Int32))), .unset, .unset, .unset, .unset, .unset] [(.ref b678)]) G := fun tq kq => K780 tq (XS.aload Xj3.here hx rfl (hb hby at_211) rfl rfl kq)
      have K782 : Go p e below Tj3 (mkF m 215 #[.val (.int q0), .val (.int q1), .val (.int q2), .val (.int q3), .val (.ref x655), .val (.ref x659), .val (.ref x663), .val (.ref x667), .val (.ref b671), .val (.int lo3), .val (.int hi3), .val (.ref b678), .val (.int (((q0.toUInt32 >>> ((4 : Int32) &&& 31).toUInt32).toInt32) &&& (3 : Int32))), .unset, .unset, .unset, .unset, .unset] [(.ref x663), (.ref b678)]) G := fun tq kq => K781 tq (XS.aload Xj3.here hx rfl (hb hby at_213) rfl rfl kq)
      obtain ⟨cq783, kq783, q783a, q783b, q783c⟩ := isOf hZ ej3 Dj3.1
      obtain ⟨v783, _, ⟨T783, L783, k783, n783⟩, -, X783, ⟨Lc783, hQ783, l783, y783, z783⟩, st783⟩ := Xj3.virtualBack hx (y := (⟨"com/example/goalpost/goalpost/runtime/ListValue", "put", "(Ljava/lang/Object;)V"⟩ : MethodName)) (z := (⟨"com/example/goalpost/goalpost/runtime/ListValue", "put", "(Ljava/lang/Object;)V"⟩ : MethodName)) hown (mvT hZ (hW 38 _ rfl)) (mvT hZ (hW 39 _ rfl)) (notFace_of_selects (args := #[]) (mvT hZ (hW 41 _ rfl))) (mvT hZ (hW 41 _ rfl)) (mvT hZ (hW 40 _ rfl)) (by decide) (backOf (W := 0) (rmPU l Z a0 hw [] b678 x663 r_3 k_3 m_3 f_3 v_3 cs3 hj3 n0 Zj3 Dj3 (own_nuLen nu3 (by decide))) hZ (hW 42 _ rfl) (hW 16 _ rfl) (by decide) (by decide)) q783a q783c (g := (mkF m 215 #[.val (.int q0), .val (.int q1), .val (.int q2), .val (.int q3), .val (.ref x655), .val (.ref x659), .val (.ref x663), .val (.ref x667), .val (.ref b671), .val (.int lo3), .val (.int hi3), .val (.ref b678), .val (.int (((q0.toUInt32 >>> ((4 : Int32) &&& 31).toUInt32).toInt32) &&& (3 : Int32))), .unset, .unset, .unset, .unset, .unset] [(.ref x663), (.ref b678)])) rfl (by rw [hml]; rfl) (Steps.refl _) (argsL := [(.ref x663)]) (rest := []) (lenOf pd_111 rfl) rfl (by show 2 * 0 + _ ≤ _; exact Nat.le_of_eq rfl) (hb hby at_215) (fun _ _ => ⟨rfl, ej3, (by decide : 7 + 2 ≤ _), (by decide : 35 + 7 ≤ _)⟩)
      dsimp only [Pt.U, Pt.locs, Pt.cells, Pt.slots] at X783 l783 y783 z783 st783 hQ783
      subst l783 y783 z783
      obtain ⟨rfl, N783q, K783q, r783, k783, m783, f783, vv783, c783, hr783, D783⟩ := hQ783
      have N783 := Fr.app Nj3 N783q
      have nmr783 : b671 ≠ r783 := hr783.elim (fun e => by rw [e]; exact nj3) (fun z => Nat.ne_of_lt (Nat.lt_of_lt_of_le Vj3.lt z))
      have K784 : Go p e below T783 (mkF m 218 #[.val (.int q0), .val (.int q1), .val (.int q2), .val (.int q3), .val (.ref x655), .val (.ref x659), .val (.ref x663), .val (.ref x667), .val (.ref b671), .val (.int lo3), .val (.int hi3), .val (.ref b678), .val (.int (((q0.toUInt32 >>> ((4 : Int32) &&& 31).toUInt32).toInt32) &&& (3 : Int32))), .unset, .unset, .unset, .unset, .unset] []) G := fun tq kq => K782 tq (st783.trans kq)
      have K785 : Go p e below T783 (mkF m 220 #[.val (.int q0), .val (.int q1), .val (.int q2), .val (.int q3), .val (.ref x655), .val (.ref x659), .val (.ref x663), .val (.ref x667), .val (.ref b671), .val (.int lo3), .val (.int hi3), .val (.ref b678), .val (.int (((q0.toUInt32 >>> ((4 : Int32) &&& 31).toUInt32).toInt32) &&& (3 : Int32))), .unset, .unset, .unset, .unset, .unset] [(.ref b671)]) G := fun tq kq => K784 tq (XS.aload X783.here hx rfl (hb hby at_218) rfl rfl kq)
      have K786 : Go p e below T783 (mkF m 222 #[.val (.int q0), .val (.int q1), .val (.int q2), .val (.int q3), .val (.ref x655), .val (.ref x659), .val (.ref x663), .val (.ref x667), .val (.ref b671), .val (.int lo3), .val (.int hi3), .val (.ref b678), .val (.int (((q0.toUInt32 >>> ((4 : Int32) &&& 31).toUInt32).toInt32) &&& (3 : Int32))), .unset, .unset, .unset, .unset, .unset] [(.int hi3), (.ref b671)]) G := fun tq kq => K785 tq (XS.iload X783.here hx rfl (hb hby at_220) rfl kq)
      have K787 : Go p e below T783 (mkF m 224 #[.val (.int q0), .val (.int q1), .val (.int q2), .val (.int q3), .val (.ref x655), .val (.ref x659), .val (.ref x663), .val (.ref x667), .val (.ref b671), .val (.int lo3), .val (.int hi3), .val (.ref b678), .val (.int (((q0.toUInt32 >>> ((4 : Int32) &&& 31).toUInt32).toInt32) &&& (3 : Int32))), .unset, .unset, .unset, .unset, .unset] [(.ref x663), (.int hi3), (.ref b671)]) G := fun tq kq => K786 tq (XS.aload X783.here hx rfl (hb hby at_222) rfl rfl kq)
      obtain ⟨cl788, Ar788, q788, S788, Nn788, Hh788, Gg788⟩ := id (Vj3.keep K783q (ninS (Ne.symm (Exa.neArv Dj3.1 Vj3 (hW 15 _ rfl))) (ninS nj3 nin0)))
      have hin788 : ¬ (hi3 < 0 ∨ cl788.slots.size ≤ (hi3).toNatClampNeg) := inb_of S788 (own_nuInH nu3 (by decide))
      obtain ⟨T788, h788, X788, e788, W788, st788⟩ := stR X783 hx hZ rfl Ar788 (j := hi3) hin788 rfl (Sto.ofV Ar788 q788 O671 (Ins.of_exa (EX2_3.keep K783q) (hW 61 _ rfl))) (g := (mkF m 224 #[.val (.int q0), .val (.int q1), .val (.int q2), .val (.int q3), .val (.ref x655), .val (.ref x659), .val (.ref x663), .val (.ref x667), .val (.ref b671), .val (.int lo3), .val (.int hi3), .val (.ref b678), .val (.int (((q0.toUInt32 >>> ((4 : Int32) &&& 31).toUInt32).toInt32) &&& (3 : Int32))), .unset, .unset, .unset, .unset, .unset] [(.ref x663), (.int hi3), (.ref b671)])) rfl rfl (hb hby at_224)
      have V788 : Arv Z h788 b671 k671 (.object "java/lang/Object") (10 : Int32) (md3.set (lo3.toNatClampNeg + cs3.length) (.ref x663)) .null := Arv.set Ar788 q788 S788 Nn788 Hh788 Gg788 rfl W788 (lo3.toNatClampNeg + cs3.length) (own_nuHin nu3 (by decide)) (own_nuLt nu3 (by decide) ml3)
      have N788 := Fr.snoc X788 N783 ge_b671
      have K789 : Go p e below T788 (mkF m 225 #[.val (.int q0), .val (.int q1), .val (.int q2), .val (.int q3), .val (.ref x655), .val (.ref x659), .val (.ref x663), .val (.ref x667), .val (.ref b671), .val (.int lo3), .val (.int hi3), .val (.ref b678), .val (.int (((q0.toUInt32 >>> ((4 : Int32) &&& 31).toUInt32).toInt32) &&& (3 : Int32))), .unset, .unset, .unset, .unset, .unset] []) G := fun tq kq => K787 tq (st788 tq kq)
      have K790 : Go p e below T788 (mkF m 228 #[.val (.int q0), .val (.int q1), .val (.int q2), .val (.int q3), .val (.ref x655), .val (.ref x659), .val (.ref x663), .val (.ref x667), .val (.ref b671), .val (.int lo3), .val (.int (hi3 + (1 : Int32))), .val (.ref b678), .val (.int (((q0.toUInt32 >>> ((4 : Int32) &&& 31).toUInt32).toInt32) &&& (3 : Int32))), .unset, .unset, .unset, .unset, .unset] []) G := fun tq kq => K789 tq (XS.iinc X788.here hx rfl (hb hby at_225) rfl (l' := #[.val (.int q0), .val (.int q1), .val (.int q2), .val (.int q3), .val (.ref x655), .val (.ref x659), .val (.ref x663), .val (.ref x667), .val (.ref b671), .val (.int lo3), .val (.int (hi3 + (1 : Int32))), .val (.ref b678), .val (.int (((q0.toUInt32 >>> ((4 : Int32) &&& 31).toUInt32).toInt32) &&& (3 : Int32))), .unset, .unset, .unset, .unset, .unset]) rfl kq)
      refine ⟨T788, h788, _, lo3, (hi3 + (1 : Int32)), r783, k783, m783, f783, vv783, (cs3 ++ [(c783, x663)]), (md3.set (lo3.toNatClampNeg + cs3.length) (.ref x663)), X788, e788, N788, (Nat.le_trans (Nat.le_trans Zj3 K783q.1) (Keep.of_wr W788).1), ((EX0_3.keep K783q).wr W788), ((EX1_3.keep K783q).wr W788), ((EX2_3.keep K783q).wr W788), ((EX3_3.keep K783q).wr W788), (own_dqK D783 (Keep.of_wr W788) (ninS (Exa.neArv D783.1 (Vj3.keep K783q (ninS (Ne.symm (Exa.neArv Dj3.1 Vj3 (hW 15 _ rfl))) (ninS nj3 nin0))) (hW 15 _ rfl)) nin0) (ninS (Ne.symm nmr783) nin0) (fun p hp => ninS (Exa.neArv (D783.2.2.2.2.2.2.2.2.2.2 p hp).1 (Vj3.keep K783q (ninS (Ne.symm (Exa.neArv Dj3.1 Vj3 (hW 15 _ rfl))) (ninS nj3 nin0))) (hW 47 _ rfl)) nin0)), V788, nmr783, ?_, ?_, ?_, K790⟩
      · first | exact ml3 | (rw [List.length_set]; exact ml3)
      · exact own_nuPut nu3 (by decide)
      · exact own_mapPut _ _ mp3 (own_nuLt nu3 (by decide) ml3)
    · skip
      have K791 : Go p e below Tj3 (mkF m 191 #[.val (.int q0), .val (.int q1), .val (.int q2), .val (.int q3), .val (.ref x655), .val (.ref x659), .val (.ref x663), .val (.ref x667), .val (.ref b671), .val (.int lo3), .val (.int hi3), .val (.ref b678), .val (.int (((q0.toUInt32 >>> ((4 : Int32) &&& 31).toUInt32).toInt32) &&& (3 : Int32))), .unset, .unset, .unset, .unset, .unset] []) G := fun tq kq => K778 tq (XS.ifNo Xj3.here hx rfl (hb hby at_188) rfl ((if0 _ _).trans (feq hc779).1) kq)
      have K792 : Go p e below Tj3 (mkF m 193 #[.val (.int q0), .val (.int q1), .val (.int q2), .val (.int q3), .val (.ref x655), .val (.ref x659), .val (.ref x663), .val (.ref x667), .val (.ref b671), .val (.int lo3), .val (.int hi3), .val (.ref b678), .val (.int (((q0.toUInt32 >>> ((4 : Int32) &&& 31).toUInt32).toInt32) &&& (3 : Int32))), .unset, .unset, .unset, .unset, .unset] [(.ref b678)]) G := fun tq kq => K791 tq (XS.aload Xj3.here hx rfl (hb hby at_191) rfl rfl kq)
      have K793 : Go p e below Tj3 (mkF m 195 #[.val (.int q0), .val (.int q1), .val (.int q2), .val (.int q3), .val (.ref x655), .val (.ref x659), .val (.ref x663), .val (.ref x667), .val (.ref b671), .val (.int lo3), .val (.int hi3), .val (.ref b678), .val (.int (((q0.toUInt32 >>> ((4 : Int32) &&& 31).toUInt32).toInt32) &&& (3 : Int32))), .unset, .unset, .unset, .unset, .unset] [(.ref x663), (.ref b678)]) G := fun tq kq => K792 tq (XS.aload Xj3.here hx rfl (hb hby at_193) rfl rfl kq)
      obtain ⟨cq794, kq794, q794a, q794b, q794c⟩ := isOf hZ ej3 Dj3.1
      obtain ⟨v794, _, ⟨T794, L794, k794, n794⟩, -, X794, ⟨Lc794, hQ794, l794, y794, z794⟩, st794⟩ := Xj3.virtualBack hx (y := (⟨"com/example/goalpost/goalpost/runtime/ListValue", "push", "(Ljava/lang/Object;)V"⟩ : MethodName)) (z := (⟨"com/example/goalpost/goalpost/runtime/ListValue", "push", "(Ljava/lang/Object;)V"⟩ : MethodName)) hown (mvT hZ (hW 78 _ rfl)) (mvT hZ (hW 79 _ rfl)) (notFace_of_selects (args := #[]) (mvT hZ (hW 81 _ rfl))) (mvT hZ (hW 81 _ rfl)) (mvT hZ (hW 80 _ rfl)) (by decide) (backOf (W := 0) (rmPS l Z a0 hw [] b678 x663 r_3 k_3 m_3 f_3 v_3 cs3 hj3 n0 Zj3 Dj3 (own_nuLen nu3 (by decide))) hZ (hW 82 _ rfl) (hW 16 _ rfl) (by decide) (by decide)) q794a q794c (g := (mkF m 195 #[.val (.int q0), .val (.int q1), .val (.int q2), .val (.int q3), .val (.ref x655), .val (.ref x659), .val (.ref x663), .val (.ref x667), .val (.ref b671), .val (.int lo3), .val (.int hi3), .val (.ref b678), .val (.int (((q0.toUInt32 >>> ((4 : Int32) &&& 31).toUInt32).toInt32) &&& (3 : Int32))), .unset, .unset, .unset, .unset, .unset] [(.ref x663), (.ref b678)])) rfl (by rw [hml]; rfl) (Steps.refl _) (argsL := [(.ref x663)]) (rest := []) (lenOf pd_111 rfl) rfl (by show 2 * 0 + _ ≤ _; exact Nat.le_of_eq rfl) (hb hby at_195) (fun _ _ => ⟨rfl, ej3, (by decide : 7 + 2 ≤ _), (by decide : 35 + 7 ≤ _)⟩)
      dsimp only [Pt.U, Pt.locs, Pt.cells, Pt.slots] at X794 l794 y794 z794 st794 hQ794
      subst l794 y794 z794
      obtain ⟨rfl, N794q, K794q, r794, k794, m794, f794, vv794, c794, hr794, D794⟩ := hQ794
      have N794 := Fr.app Nj3 N794q
      have nmr794 : b671 ≠ r794 := hr794.elim (fun e => by rw [e]; exact nj3) (fun z => Nat.ne_of_lt (Nat.lt_of_lt_of_le Vj3.lt z))
      have K795 : Go p e below T794 (mkF m 198 #[.val (.int q0), .val (.int q1), .val (.int q2), .val (.int q3), .val (.ref x655), .val (.ref x659), .val (.ref x663), .val (.ref x667), .val (.ref b671), .val (.int lo3), .val (.int hi3), .val (.ref b678), .val (.int (((q0.toUInt32 >>> ((4 : Int32) &&& 31).toUInt32).toInt32) &&& (3 : Int32))), .unset, .unset, .unset, .unset, .unset] []) G := fun tq kq => K793 tq (st794.trans kq)
      have K796 : Go p e below T794 (mkF m 201 #[.val (.int q0), .val (.int q1), .val (.int q2), .val (.int q3), .val (.ref x655), .val (.ref x659), .val (.ref x663), .val (.ref x667), .val (.ref b671), .val (.int (lo3 + (-1 : Int32))), .val (.int hi3), .val (.ref b678), .val (.int (((q0.toUInt32 >>> ((4 : Int32) &&& 31).toUInt32).toInt32) &&& (3 : Int32))), .unset, .unset, .unset, .unset, .unset] []) G := fun tq kq => K795 tq (XS.iinc X794.here hx rfl (hb hby at_198) rfl (l' := #[.val (.int q0), .val (.int q1), .val (.int q2), .val (.int q3), .val (.ref x655), .val (.ref x659), .val (.ref x663), .val (.ref x667), .val (.ref b671), .val (.int (lo3 + (-1 : Int32))), .val (.int hi3), .val (.ref b678), .val (.int (((q0.toUInt32 >>> ((4 : Int32) &&& 31).toUInt32).toInt32) &&& (3 : Int32))), .unset, .unset, .unset, .unset, .unset]) rfl kq)
      have K797 : Go p e below T794 (mkF m 203 #[.val (.int q0), .val (.int q1), .val (.int q2), .val (.int q3), .val (.ref x655), .val (.ref x659), .val (.ref x663), .val (.ref x667), .val (.ref b671), .val (.int (lo3 + (-1 : Int32))), .val (.int hi3), .val (.ref b678), .val (.int (((q0.toUInt32 >>> ((4 : Int32) &&& 31).toUInt32).toInt32) &&& (3 : Int32))), .unset, .unset, .unset, .unset, .unset] [(.ref b671)]) G := fun tq kq => K796 tq (XS.aload X794.here hx rfl (hb hby at_201) rfl rfl kq)
      have K798 : Go p e below T794 (mkF m 205 #[.val (.int q0), .val (.int q1), .val (.int q2), .val (.int q3), .val (.ref x655), .val (.ref x659), .val (.ref x663), .val (.ref x667), .val (.ref b671), .val (.int (lo3 + (-1 : Int32))), .val (.int hi3), .val (.ref b678), .val (.int (((q0.toUInt32 >>> ((4 : Int32) &&& 31).toUInt32).toInt32) &&& (3 : Int32))), .unset, .unset, .unset, .unset, .unset] [(.int (lo3 + (-1 : Int32))), (.ref b671)]) G := fun tq kq => K797 tq (XS.iload X794.here hx rfl (hb hby at_203) rfl kq)
      have K799 : Go p e below T794 (mkF m 207 #[.val (.int q0), .val (.int q1), .val (.int q2), .val (.int q3), .val (.ref x655), .val (.ref x659), .val (.ref x663), .val (.ref x667), .val (.ref b671), .val (.int (lo3 + (-1 : Int32))), .val (.int hi3), .val (.ref b678), .val (.int (((q0.toUInt32 >>> ((4 : Int32) &&& 31).toUInt32).toInt32) &&& (3 : Int32))), .unset, .unset, .unset, .unset, .unset] [(.ref x663), (.int (lo3 + (-1 : Int32))), (.ref b671)]) G := fun tq kq => K798 tq (XS.aload X794.here hx rfl (hb hby at_205) rfl rfl kq)
      obtain ⟨cl800, Ar800, q800, S800, Nn800, Hh800, Gg800⟩ := id (Vj3.keep K794q (ninS (Ne.symm (Exa.neArv Dj3.1 Vj3 (hW 15 _ rfl))) (ninS nj3 nin0)))
      have hin800 : ¬ ((lo3 + (-1 : Int32)) < 0 ∨ cl800.slots.size ≤ ((lo3 + (-1 : Int32))).toNatClampNeg) := inb_of S800 (own_nuInL nu3 (by decide))
      obtain ⟨T800, h800, X800, e800, W800, st800⟩ := stR X794 hx hZ rfl Ar800 (j := (lo3 + (-1 : Int32))) hin800 rfl (Sto.ofV Ar800 q800 O671 (Ins.of_exa (EX2_3.keep K794q) (hW 61 _ rfl))) (g := (mkF m 207 #[.val (.int q0), .val (.int q1), .val (.int q2), .val (.int q3), .val (.ref x655), .val (.ref x659), .val (.ref x663), .val (.ref x667), .val (.ref b671), .val (.int (lo3 + (-1 : Int32))), .val (.int hi3), .val (.ref b678), .val (.int (((q0.toUInt32 >>> ((4 : Int32) &&& 31).toUInt32).toInt32) &&& (3 : Int32))), .unset, .unset, .unset, .unset, .unset] [(.ref x663), (.int (lo3 + (-1 : Int32))), (.ref b671)])) rfl rfl (hb hby at_207)
      have V800 : Arv Z h800 b671 k671 (.object "java/lang/Object") (10 : Int32) (md3.set (lo3 + (-1 : Int32)).toNatClampNeg (.ref x663)) .null := Arv.set Ar800 q800 S800 Nn800 Hh800 Gg800 rfl W800 (lo3 + (-1 : Int32)).toNatClampNeg rfl (own_nuLtL nu3 (by decide) ml3)
      have N800 := Fr.snoc X800 N794 ge_b671
      have K801 : Go p e below T800 (mkF m 208 #[.val (.int q0), .val (.int q1), .val (.int q2), .val (.int q3), .val (.ref x655), .val (.ref x659), .val (.ref x663), .val (.ref x667), .val (.ref b671), .val (.int (lo3 + (-1 : Int32))), .val (.int hi3), .val (.ref b678), .val (.int (((q0.toUInt32 >>> ((4 : Int32) &&& 31).toUInt32).toInt32) &&& (3 : Int32))), .unset, .unset, .unset, .unset, .unset] []) G := fun tq kq => K799 tq (st800 tq kq)
      have K802 : Go p e below T800 (mkF m 228 #[.val (.int q0), .val (.int q1), .val (.int q2), .val (.int q3), .val (.ref x655), .val (.ref x659), .val (.ref x663), .val (.ref x667), .val (.ref b671), .val (.int (lo3 + (-1 : Int32))), .val (.int hi3), .val (.ref b678), .val (.int (((q0.toUInt32 >>> ((4 : Int32) &&& 31).toUInt32).toInt32) &&& (3 : Int32))), .unset, .unset, .unset, .unset, .unset] []) G := fun tq kq => K801 tq (XS.goto X800.here hx rfl (pc0 := 208) (pc' := 228) rfl (hb hby at_208) (by decide) (by decide) kq)
      refine ⟨T800, h800, _, (lo3 + (-1 : Int32)), hi3, r794, k794, m794, f794, vv794, ((c794, x663) :: cs3), (md3.set (lo3 + (-1 : Int32)).toNatClampNeg (.ref x663)), X800, e800, N800, (Nat.le_trans (Nat.le_trans Zj3 K794q.1) (Keep.of_wr W800).1), ((EX0_3.keep K794q).wr W800), ((EX1_3.keep K794q).wr W800), ((EX2_3.keep K794q).wr W800), ((EX3_3.keep K794q).wr W800), (own_dqK D794 (Keep.of_wr W800) (ninS (Exa.neArv D794.1 (Vj3.keep K794q (ninS (Ne.symm (Exa.neArv Dj3.1 Vj3 (hW 15 _ rfl))) (ninS nj3 nin0))) (hW 15 _ rfl)) nin0) (ninS (Ne.symm nmr794) nin0) (fun p hp => ninS (Exa.neArv (D794.2.2.2.2.2.2.2.2.2.2 p hp).1 (Vj3.keep K794q (ninS (Ne.symm (Exa.neArv Dj3.1 Vj3 (hW 15 _ rfl))) (ninS nj3 nin0))) (hW 47 _ rfl)) nin0)), V800, nmr794, ?_, ?_, ?_, K802⟩
      · first | exact ml3 | (rw [List.length_set]; exact ml3)
      · exact own_nuPush nu3 (by decide)
      · exact own_nuMapPush nu3 (by decide) ml3 mp3
  obtain ⟨Tj5, hj5, Lj5, lo5, hi5, r_5, k_5, m_5, f_5, v_5, cs5, md5, Xj5, ej5, Nj5, Zj5, EX0_5, EX1_5, EX2_5, EX3_5, Dj5, Vj5, nj5, ml5, nu5, mp5, Kj803⟩ : ∃ (Tj5 : State) (hj5 : Heap) (Lj5 : List Loc) (lo5 : Int32) (hi5 : Int32) (r_5 : Addr) (k_5 : ClassId) (m_5 : Int32) (f_5 : Int32) (v_5 : List Value) (cs5 : List (Addr × Addr)) (md5 : List Value), Stand p l e room_1 s m #[(.int q0), (.int q1), (.int q2), (.int q3)] below meth c Tj5 Lj5 11 49 ∧ Tj5.heap = hj5 ∧ Fr n0 Lj5 ∧ n0 ≤ hj5.size ∧ Exa Z hj5 x655 "java/lang/Long" ∧ Exa Z hj5 x659 "java/lang/Long" ∧ Exa Z hj5 x663 "java/lang/Long" ∧ Exa Z hj5 x667 "java/lang/Long" ∧ own_Dq Z hj5 n0 b678 r_5 k_5 m_5 f_5 v_5 cs5 ∧ Arv Z hj5 b671 k671 (.object "java/lang/Object") (10 : Int32) md5 .null ∧ b671 ≠ r_5 ∧ md5.length = 10 ∧ own_Nu 1 6 9 3 4 lo5 hi5 cs5.length ∧ own_Map md5 lo5.toNatClampNeg cs5 ∧ Go p e below Tj5 (mkF m 272 #[.val (.int q0), .val (.int q1), .val (.int q2), .val (.int q3), .val (.ref x655), .val (.ref x659), .val (.ref x663), .val (.ref x667), .val (.ref b671), .val (.int lo5), .val (.int hi5), .val (.ref b678), .val (.int (((q0.toUInt32 >>> ((4 : Int32) &&& 31).toUInt32).toInt32) &&& (3 : Int32))), .unset, .unset, .unset, .unset, .unset] []) G := by
    have K804 : Go p e below Tj4 (mkF m 229 #[.val (.int q0), .val (.int q1), .val (.int q2), .val (.int q3), .val (.ref x655), .val (.ref x659), .val (.ref x663), .val (.ref x667), .val (.ref b671), .val (.int lo4), .val (.int hi4), .val (.ref b678), .val (.int (((q0.toUInt32 >>> ((4 : Int32) &&& 31).toUInt32).toInt32) &&& (3 : Int32))), .unset, .unset, .unset, .unset, .unset] [(.int q0)]) G := fun tq kq => Kj775 tq (XS.iloadN Xj4.here hx rfl (hb hby at_228) rfl kq)
    have K805 : Go p e below Tj4 (mkF m 231 #[.val (.int q0), .val (.int q1), .val (.int q2), .val (.int q3), .val (.ref x655), .val (.ref x659), .val (.ref x663), .val (.ref x667), .val (.ref b671), .val (.int lo4), .val (.int hi4), .val (.ref b678), .val (.int (((q0.toUInt32 >>> ((4 : Int32) &&& 31).toUInt32).toInt32) &&& (3 : Int32))), .unset, .unset, .unset, .unset, .unset] [(.int (8 : Int32)), (.int q0)]) G := fun tq kq => K804 tq (XS.bipush Xj4.here hx rfl (hb hby at_229) kq)
    have K806 : Go p e below Tj4 (mkF m 232 #[.val (.int q0), .val (.int q1), .val (.int q2), .val (.int q3), .val (.ref x655), .val (.ref x659), .val (.ref x663), .val (.ref x667), .val (.ref b671), .val (.int lo4), .val (.int hi4), .val (.ref b678), .val (.int (((q0.toUInt32 >>> ((4 : Int32) &&& 31).toUInt32).toInt32) &&& (3 : Int32))), .unset, .unset, .unset, .unset, .unset] [(.int (q0 &&& (8 : Int32)))]) G := fun tq kq => K805 tq (XS.iand Xj4.here hx rfl (hb hby at_231) rfl kq)
    by_cases hc807 : (q0 &&& (8 : Int32)) = (0 : Int32)
    · skip
      have K808 : Go p e below Tj4 (mkF m 255 #[.val (.int q0), .val (.int q1), .val (.int q2), .val (.int q3), .val (.ref x655), .val (.ref x659), .val (.ref x663), .val (.ref x667), .val (.ref b671), .val (.int lo4), .val (.int hi4), .val (.ref b678), .val (.int (((q0.toUInt32 >>> ((4 : Int32) &&& 31).toUInt32).toInt32) &&& (3 : Int32))), .unset, .unset, .unset, .unset, .unset] []) G := fun tq kq => K806 tq (XS.ifYes Xj4.here hx rfl (pc0 := 232) (pc' := 255) rfl (hb hby at_232) rfl ((if0 _ _).trans (teq hc807).1) (by decide) (by decide) kq)
      have K809 : Go p e below Tj4 (mkF m 257 #[.val (.int q0), .val (.int q1), .val (.int q2), .val (.int q3), .val (.ref x655), .val (.ref x659), .val (.ref x663), .val (.ref x667), .val (.ref b671), .val (.int lo4), .val (.int hi4), .val (.ref b678), .val (.int (((q0.toUInt32 >>> ((4 : Int32) &&& 31).toUInt32).toInt32) &&& (3 : Int32))), .unset, .unset, .unset, .unset, .unset] [(.ref b678)]) G := fun tq kq => K808 tq (XS.aload Xj4.here hx rfl (hb hby at_255) rfl rfl kq)
      have K810 : Go p e below Tj4 (mkF m 259 #[.val (.int q0), .val (.int q1), .val (.int q2), .val (.int q3), .val (.ref x655), .val (.ref x659), .val (.ref x663), .val (.ref x667), .val (.ref b671), .val (.int lo4), .val (.int hi4), .val (.ref b678), .val (.int (((q0.toUInt32 >>> ((4 : Int32) &&& 31).toUInt32).toInt32) &&& (3 : Int32))), .unset, .unset, .unset, .unset, .unset] [(.ref x667), (.ref b678)]) G := fun tq kq => K809 tq (XS.aload Xj4.here hx rfl (hb hby at_257) rfl rfl kq)
      obtain ⟨cq811, kq811, q811a, q811b, q811c⟩ := isOf hZ ej4 Dj4.1
      obtain ⟨v811, _, ⟨T811, L811, k811, n811⟩, -, X811, ⟨Lc811, hQ811, l811, y811, z811⟩, st811⟩ := Xj4.virtualBack hx (y := (⟨"com/example/goalpost/goalpost/runtime/ListValue", "put", "(Ljava/lang/Object;)V"⟩ : MethodName)) (z := (⟨"com/example/goalpost/goalpost/runtime/ListValue", "put", "(Ljava/lang/Object;)V"⟩ : MethodName)) hown (mvT hZ (hW 38 _ rfl)) (mvT hZ (hW 39 _ rfl)) (notFace_of_selects (args := #[]) (mvT hZ (hW 41 _ rfl))) (mvT hZ (hW 41 _ rfl)) (mvT hZ (hW 40 _ rfl)) (by decide) (backOf (W := 0) (rmPU l Z a0 hw [] b678 x667 r_4 k_4 m_4 f_4 v_4 cs4 hj4 n0 Zj4 Dj4 (own_nuLen nu4 (by decide))) hZ (hW 42 _ rfl) (hW 16 _ rfl) (by decide) (by decide)) q811a q811c (g := (mkF m 259 #[.val (.int q0), .val (.int q1), .val (.int q2), .val (.int q3), .val (.ref x655), .val (.ref x659), .val (.ref x663), .val (.ref x667), .val (.ref b671), .val (.int lo4), .val (.int hi4), .val (.ref b678), .val (.int (((q0.toUInt32 >>> ((4 : Int32) &&& 31).toUInt32).toInt32) &&& (3 : Int32))), .unset, .unset, .unset, .unset, .unset] [(.ref x667), (.ref b678)])) rfl (by rw [hml]; rfl) (Steps.refl _) (argsL := [(.ref x667)]) (rest := []) (lenOf pd_111 rfl) rfl (by show 2 * 0 + _ ≤ _; exact Nat.le_of_eq rfl) (hb hby at_259) (fun _ _ => ⟨rfl, ej4, (by decide : 9 + 2 ≤ _), (by decide : 42 + 7 ≤ _)⟩)
      dsimp only [Pt.U, Pt.locs, Pt.cells, Pt.slots] at X811 l811 y811 z811 st811 hQ811
      subst l811 y811 z811
      obtain ⟨rfl, N811q, K811q, r811, k811, m811, f811, vv811, c811, hr811, D811⟩ := hQ811
      have N811 := Fr.app Nj4 N811q
      have nmr811 : b671 ≠ r811 := hr811.elim (fun e => by rw [e]; exact nj4) (fun z => Nat.ne_of_lt (Nat.lt_of_lt_of_le Vj4.lt z))
      have K812 : Go p e below T811 (mkF m 262 #[.val (.int q0), .val (.int q1), .val (.int q2), .val (.int q3), .val (.ref x655), .val (.ref x659), .val (.ref x663), .val (.ref x667), .val (.ref b671), .val (.int lo4), .val (.int hi4), .val (.ref b678), .val (.int (((q0.toUInt32 >>> ((4 : Int32) &&& 31).toUInt32).toInt32) &&& (3 : Int32))), .unset, .unset, .unset, .unset, .unset] []) G := fun tq kq => K810 tq (st811.trans kq)
      have K813 : Go p e below T811 (mkF m 264 #[.val (.int q0), .val (.int q1), .val (.int q2), .val (.int q3), .val (.ref x655), .val (.ref x659), .val (.ref x663), .val (.ref x667), .val (.ref b671), .val (.int lo4), .val (.int hi4), .val (.ref b678), .val (.int (((q0.toUInt32 >>> ((4 : Int32) &&& 31).toUInt32).toInt32) &&& (3 : Int32))), .unset, .unset, .unset, .unset, .unset] [(.ref b671)]) G := fun tq kq => K812 tq (XS.aload X811.here hx rfl (hb hby at_262) rfl rfl kq)
      have K814 : Go p e below T811 (mkF m 266 #[.val (.int q0), .val (.int q1), .val (.int q2), .val (.int q3), .val (.ref x655), .val (.ref x659), .val (.ref x663), .val (.ref x667), .val (.ref b671), .val (.int lo4), .val (.int hi4), .val (.ref b678), .val (.int (((q0.toUInt32 >>> ((4 : Int32) &&& 31).toUInt32).toInt32) &&& (3 : Int32))), .unset, .unset, .unset, .unset, .unset] [(.int hi4), (.ref b671)]) G := fun tq kq => K813 tq (XS.iload X811.here hx rfl (hb hby at_264) rfl kq)
      have K815 : Go p e below T811 (mkF m 268 #[.val (.int q0), .val (.int q1), .val (.int q2), .val (.int q3), .val (.ref x655), .val (.ref x659), .val (.ref x663), .val (.ref x667), .val (.ref b671), .val (.int lo4), .val (.int hi4), .val (.ref b678), .val (.int (((q0.toUInt32 >>> ((4 : Int32) &&& 31).toUInt32).toInt32) &&& (3 : Int32))), .unset, .unset, .unset, .unset, .unset] [(.ref x667), (.int hi4), (.ref b671)]) G := fun tq kq => K814 tq (XS.aload X811.here hx rfl (hb hby at_266) rfl rfl kq)
      obtain ⟨cl816, Ar816, q816, S816, Nn816, Hh816, Gg816⟩ := id (Vj4.keep K811q (ninS (Ne.symm (Exa.neArv Dj4.1 Vj4 (hW 15 _ rfl))) (ninS nj4 nin0)))
      have hin816 : ¬ (hi4 < 0 ∨ cl816.slots.size ≤ (hi4).toNatClampNeg) := inb_of S816 (own_nuInH nu4 (by decide))
      obtain ⟨T816, h816, X816, e816, W816, st816⟩ := stR X811 hx hZ rfl Ar816 (j := hi4) hin816 rfl (Sto.ofV Ar816 q816 O671 (Ins.of_exa (EX3_4.keep K811q) (hW 61 _ rfl))) (g := (mkF m 268 #[.val (.int q0), .val (.int q1), .val (.int q2), .val (.int q3), .val (.ref x655), .val (.ref x659), .val (.ref x663), .val (.ref x667), .val (.ref b671), .val (.int lo4), .val (.int hi4), .val (.ref b678), .val (.int (((q0.toUInt32 >>> ((4 : Int32) &&& 31).toUInt32).toInt32) &&& (3 : Int32))), .unset, .unset, .unset, .unset, .unset] [(.ref x667), (.int hi4), (.ref b671)])) rfl rfl (hb hby at_268)
      have V816 : Arv Z h816 b671 k671 (.object "java/lang/Object") (10 : Int32) (md4.set (lo4.toNatClampNeg + cs4.length) (.ref x667)) .null := Arv.set Ar816 q816 S816 Nn816 Hh816 Gg816 rfl W816 (lo4.toNatClampNeg + cs4.length) (own_nuHin nu4 (by decide)) (own_nuLt nu4 (by decide) ml4)
      have N816 := Fr.snoc X816 N811 ge_b671
      have K817 : Go p e below T816 (mkF m 269 #[.val (.int q0), .val (.int q1), .val (.int q2), .val (.int q3), .val (.ref x655), .val (.ref x659), .val (.ref x663), .val (.ref x667), .val (.ref b671), .val (.int lo4), .val (.int hi4), .val (.ref b678), .val (.int (((q0.toUInt32 >>> ((4 : Int32) &&& 31).toUInt32).toInt32) &&& (3 : Int32))), .unset, .unset, .unset, .unset, .unset] []) G := fun tq kq => K815 tq (st816 tq kq)
      have K818 : Go p e below T816 (mkF m 272 #[.val (.int q0), .val (.int q1), .val (.int q2), .val (.int q3), .val (.ref x655), .val (.ref x659), .val (.ref x663), .val (.ref x667), .val (.ref b671), .val (.int lo4), .val (.int (hi4 + (1 : Int32))), .val (.ref b678), .val (.int (((q0.toUInt32 >>> ((4 : Int32) &&& 31).toUInt32).toInt32) &&& (3 : Int32))), .unset, .unset, .unset, .unset, .unset] []) G := fun tq kq => K817 tq (XS.iinc X816.here hx rfl (hb hby at_269) rfl (l' := #[.val (.int q0), .val (.int q1), .val (.int q2), .val (.int q3), .val (.ref x655), .val (.ref x659), .val (.ref x663), .val (.ref x667), .val (.ref b671), .val (.int lo4), .val (.int (hi4 + (1 : Int32))), .val (.ref b678), .val (.int (((q0.toUInt32 >>> ((4 : Int32) &&& 31).toUInt32).toInt32) &&& (3 : Int32))), .unset, .unset, .unset, .unset, .unset]) rfl kq)
      refine ⟨T816, h816, _, lo4, (hi4 + (1 : Int32)), r811, k811, m811, f811, vv811, (cs4 ++ [(c811, x667)]), (md4.set (lo4.toNatClampNeg + cs4.length) (.ref x667)), X816, e816, N816, (Nat.le_trans (Nat.le_trans Zj4 K811q.1) (Keep.of_wr W816).1), ((EX0_4.keep K811q).wr W816), ((EX1_4.keep K811q).wr W816), ((EX2_4.keep K811q).wr W816), ((EX3_4.keep K811q).wr W816), (own_dqK D811 (Keep.of_wr W816) (ninS (Exa.neArv D811.1 (Vj4.keep K811q (ninS (Ne.symm (Exa.neArv Dj4.1 Vj4 (hW 15 _ rfl))) (ninS nj4 nin0))) (hW 15 _ rfl)) nin0) (ninS (Ne.symm nmr811) nin0) (fun p hp => ninS (Exa.neArv (D811.2.2.2.2.2.2.2.2.2.2 p hp).1 (Vj4.keep K811q (ninS (Ne.symm (Exa.neArv Dj4.1 Vj4 (hW 15 _ rfl))) (ninS nj4 nin0))) (hW 47 _ rfl)) nin0)), V816, nmr811, ?_, ?_, ?_, K818⟩
      · first | exact ml4 | (rw [List.length_set]; exact ml4)
      · exact own_nuPut nu4 (by decide)
      · exact own_mapPut _ _ mp4 (own_nuLt nu4 (by decide) ml4)
    · skip
      have K819 : Go p e below Tj4 (mkF m 235 #[.val (.int q0), .val (.int q1), .val (.int q2), .val (.int q3), .val (.ref x655), .val (.ref x659), .val (.ref x663), .val (.ref x667), .val (.ref b671), .val (.int lo4), .val (.int hi4), .val (.ref b678), .val (.int (((q0.toUInt32 >>> ((4 : Int32) &&& 31).toUInt32).toInt32) &&& (3 : Int32))), .unset, .unset, .unset, .unset, .unset] []) G := fun tq kq => K806 tq (XS.ifNo Xj4.here hx rfl (hb hby at_232) rfl ((if0 _ _).trans (feq hc807).1) kq)
      have K820 : Go p e below Tj4 (mkF m 237 #[.val (.int q0), .val (.int q1), .val (.int q2), .val (.int q3), .val (.ref x655), .val (.ref x659), .val (.ref x663), .val (.ref x667), .val (.ref b671), .val (.int lo4), .val (.int hi4), .val (.ref b678), .val (.int (((q0.toUInt32 >>> ((4 : Int32) &&& 31).toUInt32).toInt32) &&& (3 : Int32))), .unset, .unset, .unset, .unset, .unset] [(.ref b678)]) G := fun tq kq => K819 tq (XS.aload Xj4.here hx rfl (hb hby at_235) rfl rfl kq)
      have K821 : Go p e below Tj4 (mkF m 239 #[.val (.int q0), .val (.int q1), .val (.int q2), .val (.int q3), .val (.ref x655), .val (.ref x659), .val (.ref x663), .val (.ref x667), .val (.ref b671), .val (.int lo4), .val (.int hi4), .val (.ref b678), .val (.int (((q0.toUInt32 >>> ((4 : Int32) &&& 31).toUInt32).toInt32) &&& (3 : Int32))), .unset, .unset, .unset, .unset, .unset] [(.ref x667), (.ref b678)]) G := fun tq kq => K820 tq (XS.aload Xj4.here hx rfl (hb hby at_237) rfl rfl kq)
      obtain ⟨cq822, kq822, q822a, q822b, q822c⟩ := isOf hZ ej4 Dj4.1
      obtain ⟨v822, _, ⟨T822, L822, k822, n822⟩, -, X822, ⟨Lc822, hQ822, l822, y822, z822⟩, st822⟩ := Xj4.virtualBack hx (y := (⟨"com/example/goalpost/goalpost/runtime/ListValue", "push", "(Ljava/lang/Object;)V"⟩ : MethodName)) (z := (⟨"com/example/goalpost/goalpost/runtime/ListValue", "push", "(Ljava/lang/Object;)V"⟩ : MethodName)) hown (mvT hZ (hW 78 _ rfl)) (mvT hZ (hW 79 _ rfl)) (notFace_of_selects (args := #[]) (mvT hZ (hW 81 _ rfl))) (mvT hZ (hW 81 _ rfl)) (mvT hZ (hW 80 _ rfl)) (by decide) (backOf (W := 0) (rmPS l Z a0 hw [] b678 x667 r_4 k_4 m_4 f_4 v_4 cs4 hj4 n0 Zj4 Dj4 (own_nuLen nu4 (by decide))) hZ (hW 82 _ rfl) (hW 16 _ rfl) (by decide) (by decide)) q822a q822c (g := (mkF m 239 #[.val (.int q0), .val (.int q1), .val (.int q2), .val (.int q3), .val (.ref x655), .val (.ref x659), .val (.ref x663), .val (.ref x667), .val (.ref b671), .val (.int lo4), .val (.int hi4), .val (.ref b678), .val (.int (((q0.toUInt32 >>> ((4 : Int32) &&& 31).toUInt32).toInt32) &&& (3 : Int32))), .unset, .unset, .unset, .unset, .unset] [(.ref x667), (.ref b678)])) rfl (by rw [hml]; rfl) (Steps.refl _) (argsL := [(.ref x667)]) (rest := []) (lenOf pd_111 rfl) rfl (by show 2 * 0 + _ ≤ _; exact Nat.le_of_eq rfl) (hb hby at_239) (fun _ _ => ⟨rfl, ej4, (by decide : 9 + 2 ≤ _), (by decide : 42 + 7 ≤ _)⟩)
      dsimp only [Pt.U, Pt.locs, Pt.cells, Pt.slots] at X822 l822 y822 z822 st822 hQ822
      subst l822 y822 z822
      obtain ⟨rfl, N822q, K822q, r822, k822, m822, f822, vv822, c822, hr822, D822⟩ := hQ822
      have N822 := Fr.app Nj4 N822q
      have nmr822 : b671 ≠ r822 := hr822.elim (fun e => by rw [e]; exact nj4) (fun z => Nat.ne_of_lt (Nat.lt_of_lt_of_le Vj4.lt z))
      have K823 : Go p e below T822 (mkF m 242 #[.val (.int q0), .val (.int q1), .val (.int q2), .val (.int q3), .val (.ref x655), .val (.ref x659), .val (.ref x663), .val (.ref x667), .val (.ref b671), .val (.int lo4), .val (.int hi4), .val (.ref b678), .val (.int (((q0.toUInt32 >>> ((4 : Int32) &&& 31).toUInt32).toInt32) &&& (3 : Int32))), .unset, .unset, .unset, .unset, .unset] []) G := fun tq kq => K821 tq (st822.trans kq)
      have K824 : Go p e below T822 (mkF m 245 #[.val (.int q0), .val (.int q1), .val (.int q2), .val (.int q3), .val (.ref x655), .val (.ref x659), .val (.ref x663), .val (.ref x667), .val (.ref b671), .val (.int (lo4 + (-1 : Int32))), .val (.int hi4), .val (.ref b678), .val (.int (((q0.toUInt32 >>> ((4 : Int32) &&& 31).toUInt32).toInt32) &&& (3 : Int32))), .unset, .unset, .unset, .unset, .unset] []) G := fun tq kq => K823 tq (XS.iinc X822.here hx rfl (hb hby at_242) rfl (l' := #[.val (.int q0), .val (.int q1), .val (.int q2), .val (.int q3), .val (.ref x655), .val (.ref x659), .val (.ref x663), .val (.ref x667), .val (.ref b671), .val (.int (lo4 + (-1 : Int32))), .val (.int hi4), .val (.ref b678), .val (.int (((q0.toUInt32 >>> ((4 : Int32) &&& 31).toUInt32).toInt32) &&& (3 : Int32))), .unset, .unset, .unset, .unset, .unset]) rfl kq)
      have K825 : Go p e below T822 (mkF m 247 #[.val (.int q0), .val (.int q1), .val (.int q2), .val (.int q3), .val (.ref x655), .val (.ref x659), .val (.ref x663), .val (.ref x667), .val (.ref b671), .val (.int (lo4 + (-1 : Int32))), .val (.int hi4), .val (.ref b678), .val (.int (((q0.toUInt32 >>> ((4 : Int32) &&& 31).toUInt32).toInt32) &&& (3 : Int32))), .unset, .unset, .unset, .unset, .unset] [(.ref b671)]) G := fun tq kq => K824 tq (XS.aload X822.here hx rfl (hb hby at_245) rfl rfl kq)
      have K826 : Go p e below T822 (mkF m 249 #[.val (.int q0), .val (.int q1), .val (.int q2), .val (.int q3), .val (.ref x655), .val (.ref x659), .val (.ref x663), .val (.ref x667), .val (.ref b671), .val (.int (lo4 + (-1 : Int32))), .val (.int hi4), .val (.ref b678), .val (.int (((q0.toUInt32 >>> ((4 : Int32) &&& 31).toUInt32).toInt32) &&& (3 : Int32))), .unset, .unset, .unset, .unset, .unset] [(.int (lo4 + (-1 : Int32))), (.ref b671)]) G := fun tq kq => K825 tq (XS.iload X822.here hx rfl (hb hby at_247) rfl kq)
      have K827 : Go p e below T822 (mkF m 251 #[.val (.int q0), .val (.int q1), .val (.int q2), .val (.int q3), .val (.ref x655), .val (.ref x659), .val (.ref x663), .val (.ref x667), .val (.ref b671), .val (.int (lo4 + (-1 : Int32))), .val (.int hi4), .val (.ref b678), .val (.int (((q0.toUInt32 >>> ((4 : Int32) &&& 31).toUInt32).toInt32) &&& (3 : Int32))), .unset, .unset, .unset, .unset, .unset] [(.ref x667), (.int (lo4 + (-1 : Int32))), (.ref b671)]) G := fun tq kq => K826 tq (XS.aload X822.here hx rfl (hb hby at_249) rfl rfl kq)
      obtain ⟨cl828, Ar828, q828, S828, Nn828, Hh828, Gg828⟩ := id (Vj4.keep K822q (ninS (Ne.symm (Exa.neArv Dj4.1 Vj4 (hW 15 _ rfl))) (ninS nj4 nin0)))
      have hin828 : ¬ ((lo4 + (-1 : Int32)) < 0 ∨ cl828.slots.size ≤ ((lo4 + (-1 : Int32))).toNatClampNeg) := inb_of S828 (own_nuInL nu4 (by decide))
      obtain ⟨T828, h828, X828, e828, W828, st828⟩ := stR X822 hx hZ rfl Ar828 (j := (lo4 + (-1 : Int32))) hin828 rfl (Sto.ofV Ar828 q828 O671 (Ins.of_exa (EX3_4.keep K822q) (hW 61 _ rfl))) (g := (mkF m 251 #[.val (.int q0), .val (.int q1), .val (.int q2), .val (.int q3), .val (.ref x655), .val (.ref x659), .val (.ref x663), .val (.ref x667), .val (.ref b671), .val (.int (lo4 + (-1 : Int32))), .val (.int hi4), .val (.ref b678), .val (.int (((q0.toUInt32 >>> ((4 : Int32) &&& 31).toUInt32).toInt32) &&& (3 : Int32))), .unset, .unset, .unset, .unset, .unset] [(.ref x667), (.int (lo4 + (-1 : Int32))), (.ref b671)])) rfl rfl (hb hby at_251)
      have V828 : Arv Z h828 b671 k671 (.object "java/lang/Object") (10 : Int32) (md4.set (lo4 + (-1 : Int32)).toNatClampNeg (.ref x667)) .null := Arv.set Ar828 q828 S828 Nn828 Hh828 Gg828 rfl W828 (lo4 + (-1 : Int32)).toNatClampNeg rfl (own_nuLtL nu4 (by decide) ml4)
      have N828 := Fr.snoc X828 N822 ge_b671
      have K829 : Go p e below T828 (mkF m 252 #[.val (.int q0), .val (.int q1), .val (.int q2), .val (.int q3), .val (.ref x655), .val (.ref x659), .val (.ref x663), .val (.ref x667), .val (.ref b671), .val (.int (lo4 + (-1 : Int32))), .val (.int hi4), .val (.ref b678), .val (.int (((q0.toUInt32 >>> ((4 : Int32) &&& 31).toUInt32).toInt32) &&& (3 : Int32))), .unset, .unset, .unset, .unset, .unset] []) G := fun tq kq => K827 tq (st828 tq kq)
      have K830 : Go p e below T828 (mkF m 272 #[.val (.int q0), .val (.int q1), .val (.int q2), .val (.int q3), .val (.ref x655), .val (.ref x659), .val (.ref x663), .val (.ref x667), .val (.ref b671), .val (.int (lo4 + (-1 : Int32))), .val (.int hi4), .val (.ref b678), .val (.int (((q0.toUInt32 >>> ((4 : Int32) &&& 31).toUInt32).toInt32) &&& (3 : Int32))), .unset, .unset, .unset, .unset, .unset] []) G := fun tq kq => K829 tq (XS.goto X828.here hx rfl (pc0 := 252) (pc' := 272) rfl (hb hby at_252) (by decide) (by decide) kq)
      refine ⟨T828, h828, _, (lo4 + (-1 : Int32)), hi4, r822, k822, m822, f822, vv822, ((c822, x667) :: cs4), (md4.set (lo4 + (-1 : Int32)).toNatClampNeg (.ref x667)), X828, e828, N828, (Nat.le_trans (Nat.le_trans Zj4 K822q.1) (Keep.of_wr W828).1), ((EX0_4.keep K822q).wr W828), ((EX1_4.keep K822q).wr W828), ((EX2_4.keep K822q).wr W828), ((EX3_4.keep K822q).wr W828), (own_dqK D822 (Keep.of_wr W828) (ninS (Exa.neArv D822.1 (Vj4.keep K822q (ninS (Ne.symm (Exa.neArv Dj4.1 Vj4 (hW 15 _ rfl))) (ninS nj4 nin0))) (hW 15 _ rfl)) nin0) (ninS (Ne.symm nmr822) nin0) (fun p hp => ninS (Exa.neArv (D822.2.2.2.2.2.2.2.2.2.2 p hp).1 (Vj4.keep K822q (ninS (Ne.symm (Exa.neArv Dj4.1 Vj4 (hW 15 _ rfl))) (ninS nj4 nin0))) (hW 47 _ rfl)) nin0)), V828, nmr822, ?_, ?_, ?_, K830⟩
      · first | exact ml4 | (rw [List.length_set]; exact ml4)
      · exact own_nuPush nu4 (by decide)
      · exact own_nuMapPush nu4 (by decide) ml4 mp4
  have K831 : Go p e below Tj5 (mkF m 274 #[.val (.int q0), .val (.int q1), .val (.int q2), .val (.int q3), .val (.ref x655), .val (.ref x659), .val (.ref x663), .val (.ref x667), .val (.ref b671), .val (.int lo5), .val (.int hi5), .val (.ref b678), .val (.int (((q0.toUInt32 >>> ((4 : Int32) &&& 31).toUInt32).toInt32) &&& (3 : Int32))), .unset, .unset, .unset, .unset, .unset] [(.int hi5)]) G := fun tq kq => Kj803 tq (XS.iload Xj5.here hx rfl (hb hby at_272) rfl kq)
  have K832 : Go p e below Tj5 (mkF m 276 #[.val (.int q0), .val (.int q1), .val (.int q2), .val (.int q3), .val (.ref x655), .val (.ref x659), .val (.ref x663), .val (.ref x667), .val (.ref b671), .val (.int lo5), .val (.int hi5), .val (.ref b678), .val (.int (((q0.toUInt32 >>> ((4 : Int32) &&& 31).toUInt32).toInt32) &&& (3 : Int32))), .unset, .unset, .unset, .unset, .unset] [(.int lo5), (.int hi5)]) G := fun tq kq => K831 tq (XS.iload Xj5.here hx rfl (hb hby at_274) rfl kq)
  have K833 : Go p e below Tj5 (mkF m 277 #[.val (.int q0), .val (.int q1), .val (.int q2), .val (.int q3), .val (.ref x655), .val (.ref x659), .val (.ref x663), .val (.ref x667), .val (.ref b671), .val (.int lo5), .val (.int hi5), .val (.ref b678), .val (.int (((q0.toUInt32 >>> ((4 : Int32) &&& 31).toUInt32).toInt32) &&& (3 : Int32))), .unset, .unset, .unset, .unset, .unset] [(.int (hi5 - lo5))]) G := fun tq kq => K832 tq (XS.isub Xj5.here hx rfl (hb hby at_276) rfl kq)
  have K834 : Go p e below Tj5 (mkF m 279 #[.val (.int q0), .val (.int q1), .val (.int q2), .val (.int q3), .val (.ref x655), .val (.ref x659), .val (.ref x663), .val (.ref x667), .val (.ref b671), .val (.int lo5), .val (.int hi5), .val (.ref b678), .val (.int (((q0.toUInt32 >>> ((4 : Int32) &&& 31).toUInt32).toInt32) &&& (3 : Int32))), .val (.int (hi5 - lo5)), .unset, .unset, .unset, .unset] []) G := fun tq kq => K833 tq (XS.istore Xj5.here hx rfl (hb hby at_277) rfl (l' := #[.val (.int q0), .val (.int q1), .val (.int q2), .val (.int q3), .val (.ref x655), .val (.ref x659), .val (.ref x663), .val (.ref x667), .val (.ref b671), .val (.int lo5), .val (.int hi5), .val (.ref b678), .val (.int (((q0.toUInt32 >>> ((4 : Int32) &&& 31).toUInt32).toInt32) &&& (3 : Int32))), .val (.int (hi5 - lo5)), .unset, .unset, .unset, .unset]) rfl kq)
  obtain ⟨sz, h_sz⟩ : ∃ z, z = (hi5 - lo5) := ⟨_, rfl⟩
  have K835 : Go p e below Tj5 (mkF m 279 #[.val (.int q0), .val (.int q1), .val (.int q2), .val (.int q3), .val (.ref x655), .val (.ref x659), .val (.ref x663), .val (.ref x667), .val (.ref b671), .val (.int lo5), .val (.int hi5), .val (.ref b678), .val (.int (((q0.toUInt32 >>> ((4 : Int32) &&& 31).toUInt32).toInt32) &&& (3 : Int32))), .val (.int sz), .unset, .unset, .unset, .unset] []) G := by rw [h_sz]; exact K834
  have sz0 := own_nuSz nu5 h_sz
  have K836 : Go p e below Tj5 (mkF m 280 #[.val (.int q0), .val (.int q1), .val (.int q2), .val (.int q3), .val (.ref x655), .val (.ref x659), .val (.ref x663), .val (.ref x667), .val (.ref b671), .val (.int lo5), .val (.int hi5), .val (.ref b678), .val (.int (((q0.toUInt32 >>> ((4 : Int32) &&& 31).toUInt32).toInt32) &&& (3 : Int32))), .val (.int sz), .unset, .unset, .unset, .unset] [(.int q2)]) G := fun tq kq => K835 tq (XS.iloadN Xj5.here hx rfl (hb hby at_279) rfl kq)
  have K837 : Go p e below Tj5 (mkF m 282 #[.val (.int q0), .val (.int q1), .val (.int q2), .val (.int q3), .val (.ref x655), .val (.ref x659), .val (.ref x663), .val (.ref x667), .val (.ref b671), .val (.int lo5), .val (.int hi5), .val (.ref b678), .val (.int (((q0.toUInt32 >>> ((4 : Int32) &&& 31).toUInt32).toInt32) &&& (3 : Int32))), .val (.int sz), .unset, .unset, .unset, .unset] [(.int (2147483647 : Int32)), (.int q2)]) G := fun tq kq => K836 tq (Xj5.ldcInt hx hown (mvT hZ (hW 71 _ rfl)) (g := (mkF m 280 #[.val (.int q0), .val (.int q1), .val (.int q2), .val (.int q3), .val (.ref x655), .val (.ref x659), .val (.ref x663), .val (.ref x667), .val (.ref b671), .val (.int lo5), .val (.int hi5), .val (.ref b678), .val (.int (((q0.toUInt32 >>> ((4 : Int32) &&& 31).toUInt32).toInt32) &&& (3 : Int32))), .val (.int sz), .unset, .unset, .unset, .unset] [(.int q2)])) rfl (hb hby at_280) _ kq)
  have K838 : Go p e below Tj5 (mkF m 283 #[.val (.int q0), .val (.int q1), .val (.int q2), .val (.int q3), .val (.ref x655), .val (.ref x659), .val (.ref x663), .val (.ref x667), .val (.ref b671), .val (.int lo5), .val (.int hi5), .val (.ref b678), .val (.int (((q0.toUInt32 >>> ((4 : Int32) &&& 31).toUInt32).toInt32) &&& (3 : Int32))), .val (.int sz), .unset, .unset, .unset, .unset] [(.int (q2 &&& (2147483647 : Int32)))]) G := fun tq kq => K837 tq (XS.iand Xj5.here hx rfl (hb hby at_282) rfl kq)
  have K839 : Go p e below Tj5 (mkF m 285 #[.val (.int q0), .val (.int q1), .val (.int q2), .val (.int q3), .val (.ref x655), .val (.ref x659), .val (.ref x663), .val (.ref x667), .val (.ref b671), .val (.int lo5), .val (.int hi5), .val (.ref b678), .val (.int (((q0.toUInt32 >>> ((4 : Int32) &&& 31).toUInt32).toInt32) &&& (3 : Int32))), .val (.int sz), .unset, .unset, .unset, .unset] [(.int sz), (.int (q2 &&& (2147483647 : Int32)))]) G := fun tq kq => K838 tq (XS.iload Xj5.here hx rfl (hb hby at_283) rfl kq)
  have K840 : Go p e below Tj5 (mkF m 286 #[.val (.int q0), .val (.int q1), .val (.int q2), .val (.int q3), .val (.ref x655), .val (.ref x659), .val (.ref x663), .val (.ref x667), .val (.ref b671), .val (.int lo5), .val (.int hi5), .val (.ref b678), .val (.int (((q0.toUInt32 >>> ((4 : Int32) &&& 31).toUInt32).toInt32) &&& (3 : Int32))), .val (.int sz), .unset, .unset, .unset, .unset] [(.int ((q2 &&& (2147483647 : Int32)) % sz))]) G := fun tq kq => K839 tq (iremM Xj5 hx rfl (hb hby at_285) rfl sz0 kq)
  have K841 : Go p e below Tj5 (mkF m 288 #[.val (.int q0), .val (.int q1), .val (.int q2), .val (.int q3), .val (.ref x655), .val (.ref x659), .val (.ref x663), .val (.ref x667), .val (.ref b671), .val (.int lo5), .val (.int hi5), .val (.ref b678), .val (.int (((q0.toUInt32 >>> ((4 : Int32) &&& 31).toUInt32).toInt32) &&& (3 : Int32))), .val (.int sz), .val (.int ((q2 &&& (2147483647 : Int32)) % sz)), .unset, .unset, .unset] []) G := fun tq kq => K840 tq (XS.istore Xj5.here hx rfl (hb hby at_286) rfl (l' := #[.val (.int q0), .val (.int q1), .val (.int q2), .val (.int q3), .val (.ref x655), .val (.ref x659), .val (.ref x663), .val (.ref x667), .val (.ref b671), .val (.int lo5), .val (.int hi5), .val (.ref b678), .val (.int (((q0.toUInt32 >>> ((4 : Int32) &&& 31).toUInt32).toInt32) &&& (3 : Int32))), .val (.int sz), .val (.int ((q2 &&& (2147483647 : Int32)) % sz)), .unset, .unset, .unset]) rfl kq)
  obtain ⟨ia, h_ia⟩ : ∃ z, z = ((q2 &&& (2147483647 : Int32)) % sz) := ⟨_, rfl⟩
  have K842 : Go p e below Tj5 (mkF m 288 #[.val (.int q0), .val (.int q1), .val (.int q2), .val (.int q3), .val (.ref x655), .val (.ref x659), .val (.ref x663), .val (.ref x667), .val (.ref b671), .val (.int lo5), .val (.int hi5), .val (.ref b678), .val (.int (((q0.toUInt32 >>> ((4 : Int32) &&& 31).toUInt32).toInt32) &&& (3 : Int32))), .val (.int sz), .val (.int ia), .unset, .unset, .unset] []) G := by rw [h_ia]; exact K841
  obtain ⟨ia1, ia2, ia3, ia4, ia5⟩ := own_nuIx nu5 h_sz h_ia
  obtain ⟨⟨c_ia, x_ia⟩, hp_ia⟩ : ∃ p, cs5[ia.toNatClampNeg]? = some p := ⟨_, List.getElem?_eq_getElem ia2⟩
  have hm_ia : (c_ia, x_ia) ∈ cs5 := List.mem_of_getElem? hp_ia
  have Ec_ia := (Dj5.2.2.2.2.2.2.2.2.2.2 _ hm_ia).1
  have Fc_ia := (Dj5.2.2.2.2.2.2.2.2.2.2 _ hm_ia).2
  have K843 : Go p e below Tj5 (mkF m 289 #[.val (.int q0), .val (.int q1), .val (.int q2), .val (.int q3), .val (.ref x655), .val (.ref x659), .val (.ref x663), .val (.ref x667), .val (.ref b671), .val (.int lo5), .val (.int hi5), .val (.ref b678), .val (.int (((q0.toUInt32 >>> ((4 : Int32) &&& 31).toUInt32).toInt32) &&& (3 : Int32))), .val (.int sz), .val (.int ia), .unset, .unset, .unset] [(.int q3)]) G := fun tq kq => K842 tq (XS.iloadN Xj5.here hx rfl (hb hby at_288) rfl kq)
  have K844 : Go p e below Tj5 (mkF m 291 #[.val (.int q0), .val (.int q1), .val (.int q2), .val (.int q3), .val (.ref x655), .val (.ref x659), .val (.ref x663), .val (.ref x667), .val (.ref b671), .val (.int lo5), .val (.int hi5), .val (.ref b678), .val (.int (((q0.toUInt32 >>> ((4 : Int32) &&& 31).toUInt32).toInt32) &&& (3 : Int32))), .val (.int sz), .val (.int ia), .unset, .unset, .unset] [(.int (2147483647 : Int32)), (.int q3)]) G := fun tq kq => K843 tq (Xj5.ldcInt hx hown (mvT hZ (hW 71 _ rfl)) (g := (mkF m 289 #[.val (.int q0), .val (.int q1), .val (.int q2), .val (.int q3), .val (.ref x655), .val (.ref x659), .val (.ref x663), .val (.ref x667), .val (.ref b671), .val (.int lo5), .val (.int hi5), .val (.ref b678), .val (.int (((q0.toUInt32 >>> ((4 : Int32) &&& 31).toUInt32).toInt32) &&& (3 : Int32))), .val (.int sz), .val (.int ia), .unset, .unset, .unset] [(.int q3)])) rfl (hb hby at_289) _ kq)
  have K845 : Go p e below Tj5 (mkF m 292 #[.val (.int q0), .val (.int q1), .val (.int q2), .val (.int q3), .val (.ref x655), .val (.ref x659), .val (.ref x663), .val (.ref x667), .val (.ref b671), .val (.int lo5), .val (.int hi5), .val (.ref b678), .val (.int (((q0.toUInt32 >>> ((4 : Int32) &&& 31).toUInt32).toInt32) &&& (3 : Int32))), .val (.int sz), .val (.int ia), .unset, .unset, .unset] [(.int (q3 &&& (2147483647 : Int32)))]) G := fun tq kq => K844 tq (XS.iand Xj5.here hx rfl (hb hby at_291) rfl kq)
  have K846 : Go p e below Tj5 (mkF m 294 #[.val (.int q0), .val (.int q1), .val (.int q2), .val (.int q3), .val (.ref x655), .val (.ref x659), .val (.ref x663), .val (.ref x667), .val (.ref b671), .val (.int lo5), .val (.int hi5), .val (.ref b678), .val (.int (((q0.toUInt32 >>> ((4 : Int32) &&& 31).toUInt32).toInt32) &&& (3 : Int32))), .val (.int sz), .val (.int ia), .unset, .unset, .unset] [(.int sz), (.int (q3 &&& (2147483647 : Int32)))]) G := fun tq kq => K845 tq (XS.iload Xj5.here hx rfl (hb hby at_292) rfl kq)
  have K847 : Go p e below Tj5 (mkF m 295 #[.val (.int q0), .val (.int q1), .val (.int q2), .val (.int q3), .val (.ref x655), .val (.ref x659), .val (.ref x663), .val (.ref x667), .val (.ref b671), .val (.int lo5), .val (.int hi5), .val (.ref b678), .val (.int (((q0.toUInt32 >>> ((4 : Int32) &&& 31).toUInt32).toInt32) &&& (3 : Int32))), .val (.int sz), .val (.int ia), .unset, .unset, .unset] [(.int ((q3 &&& (2147483647 : Int32)) % sz))]) G := fun tq kq => K846 tq (iremM Xj5 hx rfl (hb hby at_294) rfl sz0 kq)
  have K848 : Go p e below Tj5 (mkF m 297 #[.val (.int q0), .val (.int q1), .val (.int q2), .val (.int q3), .val (.ref x655), .val (.ref x659), .val (.ref x663), .val (.ref x667), .val (.ref b671), .val (.int lo5), .val (.int hi5), .val (.ref b678), .val (.int (((q0.toUInt32 >>> ((4 : Int32) &&& 31).toUInt32).toInt32) &&& (3 : Int32))), .val (.int sz), .val (.int ia), .val (.int ((q3 &&& (2147483647 : Int32)) % sz)), .unset, .unset] []) G := fun tq kq => K847 tq (XS.istore Xj5.here hx rfl (hb hby at_295) rfl (l' := #[.val (.int q0), .val (.int q1), .val (.int q2), .val (.int q3), .val (.ref x655), .val (.ref x659), .val (.ref x663), .val (.ref x667), .val (.ref b671), .val (.int lo5), .val (.int hi5), .val (.ref b678), .val (.int (((q0.toUInt32 >>> ((4 : Int32) &&& 31).toUInt32).toInt32) &&& (3 : Int32))), .val (.int sz), .val (.int ia), .val (.int ((q3 &&& (2147483647 : Int32)) % sz)), .unset, .unset]) rfl kq)
  obtain ⟨ib, h_ib⟩ : ∃ z, z = ((q3 &&& (2147483647 : Int32)) % sz) := ⟨_, rfl⟩
  have K849 : Go p e below Tj5 (mkF m 297 #[.val (.int q0), .val (.int q1), .val (.int q2), .val (.int q3), .val (.ref x655), .val (.ref x659), .val (.ref x663), .val (.ref x667), .val (.ref b671), .val (.int lo5), .val (.int hi5), .val (.ref b678), .val (.int (((q0.toUInt32 >>> ((4 : Int32) &&& 31).toUInt32).toInt32) &&& (3 : Int32))), .val (.int sz), .val (.int ia), .val (.int ib), .unset, .unset] []) G := by rw [h_ib]; exact K848
  obtain ⟨ib1, ib2, ib3, ib4, ib5⟩ := own_nuIx nu5 h_sz h_ib
  obtain ⟨⟨c_ib, x_ib⟩, hp_ib⟩ : ∃ p, cs5[ib.toNatClampNeg]? = some p := ⟨_, List.getElem?_eq_getElem ib2⟩
  have hm_ib : (c_ib, x_ib) ∈ cs5 := List.mem_of_getElem? hp_ib
  have Ec_ib := (Dj5.2.2.2.2.2.2.2.2.2.2 _ hm_ib).1
  have Fc_ib := (Dj5.2.2.2.2.2.2.2.2.2.2 _ hm_ib).2
  have K850 : Go p e below Tj5 (mkF m 299 #[.val (.int q0), .val (.int q1), .val (.int q2), .val (.int q3), .val (.ref x655), .val (.ref x659), .val (.ref x663), .val (.ref x667), .val (.ref b671), .val (.int lo5), .val (.int hi5), .val (.ref b678), .val (.int (((q0.toUInt32 >>> ((4 : Int32) &&& 31).toUInt32).toInt32) &&& (3 : Int32))), .val (.int sz), .val (.int ia), .val (.int ib), .unset, .unset] [(.ref b678)]) G := fun tq kq => K849 tq (XS.aload Xj5.here hx rfl (hb hby at_297) rfl rfl kq)
  have K851 : Go p e below Tj5 (mkF m 301 #[.val (.int q0), .val (.int q1), .val (.int q2), .val (.int q3), .val (.ref x655), .val (.ref x659), .val (.ref x663), .val (.ref x667), .val (.ref b671), .val (.int lo5), .val (.int hi5), .val (.ref b678), .val (.int (((q0.toUInt32 >>> ((4 : Int32) &&& 31).toUInt32).toInt32) &&& (3 : Int32))), .val (.int sz), .val (.int ia), .val (.int ib), .unset, .unset] [(.int ia), (.ref b678)]) G := fun tq kq => K850 tq (XS.iload Xj5.here hx rfl (hb hby at_299) rfl kq)
  obtain ⟨cq852, kq852, q852a, q852b, q852c⟩ := isOf hZ ej5 Dj5.1
  obtain ⟨v852, _, ⟨T852, L852, k852, n852⟩, -, X852, ⟨Lc852, hQ852, l852, y852, z852⟩, st852⟩ := Xj5.virtualBack hx (y := (⟨"com/example/goalpost/goalpost/runtime/ListValue", "at", "(I)Lcom/example/goalpost/goalpost/runtime/Cell;"⟩ : MethodName)) (z := (⟨"com/example/goalpost/goalpost/runtime/ListValue", "at", "(I)Lcom/example/goalpost/goalpost/runtime/Cell;"⟩ : MethodName)) hown (mvT hZ (hW 72 _ rfl)) (mvT hZ (hW 67 _ rfl)) (notFace_of_selects (args := #[]) (mvT hZ (hW 69 _ rfl))) (mvT hZ (hW 69 _ rfl)) (mvT hZ (hW 68 _ rfl)) (by decide) (backOf (W := 0) (rmAT l Z a0 hw [] b678 ia r_5 k_5 m_5 f_5 v_5 c_ia hj5 n0 Zj5 Dj5.2.1 Dj5.2.2.1 Dj5.2.2.2.2.1 Dj5.2.2.2.2.2.2.2.2.1 ⟨ia1, ia3⟩ (Dj5.2.2.2.2.2.2.2.2.2.1.2.2.2 _ _ hp_ia)) hZ (hW 70 _ rfl) (hW 16 _ rfl) (by decide) (by decide)) q852a q852c (g := (mkF m 301 #[.val (.int q0), .val (.int q1), .val (.int q2), .val (.int q3), .val (.ref x655), .val (.ref x659), .val (.ref x663), .val (.ref x667), .val (.ref b671), .val (.int lo5), .val (.int hi5), .val (.ref b678), .val (.int (((q0.toUInt32 >>> ((4 : Int32) &&& 31).toUInt32).toInt32) &&& (3 : Int32))), .val (.int sz), .val (.int ia), .val (.int ib), .unset, .unset] [(.int ia), (.ref b678)])) rfl (by rw [hml]; rfl) (Steps.refl _) (argsL := [(.int ia)]) (rest := []) (lenOf pd_81 rfl) rfl (by show 2 * 0 + _ ≤ _; exact Nat.le_of_eq rfl) (hb hby at_301) (fun _ _ => ⟨rfl, ej5, (by decide : 11 + 0 ≤ _), (by decide : 49 + 0 ≤ _)⟩)
  dsimp only [Pt.U, Pt.locs, Pt.cells, Pt.slots] at X852 l852 y852 z852 st852 hQ852
  subst l852 y852 z852
  obtain ⟨rfl, N852q, E852q⟩ := hQ852
  have N852 := Fr.app Nj5 N852q
  have K853 : Go p e below T852 (mkF m 304 #[.val (.int q0), .val (.int q1), .val (.int q2), .val (.int q3), .val (.ref x655), .val (.ref x659), .val (.ref x663), .val (.ref x667), .val (.ref b671), .val (.int lo5), .val (.int hi5), .val (.ref b678), .val (.int (((q0.toUInt32 >>> ((4 : Int32) &&& 31).toUInt32).toInt32) &&& (3 : Int32))), .val (.int sz), .val (.int ia), .val (.int ib), .unset, .unset] [(.ref c_ia)]) G := fun tq kq => K851 tq (st852.trans kq)
  have K854 : Go p e below T852 (mkF m 306 #[.val (.int q0), .val (.int q1), .val (.int q2), .val (.int q3), .val (.ref x655), .val (.ref x659), .val (.ref x663), .val (.ref x667), .val (.ref b671), .val (.int lo5), .val (.int hi5), .val (.ref b678), .val (.int (((q0.toUInt32 >>> ((4 : Int32) &&& 31).toUInt32).toInt32) &&& (3 : Int32))), .val (.int sz), .val (.int ia), .val (.int ib), .val (.ref c_ia), .unset] []) G := fun tq kq => K853 tq (XS.astore X852.here hx rfl (hb hby at_304) rfl rfl (l' := #[.val (.int q0), .val (.int q1), .val (.int q2), .val (.int q3), .val (.ref x655), .val (.ref x659), .val (.ref x663), .val (.ref x667), .val (.ref b671), .val (.int lo5), .val (.int hi5), .val (.ref b678), .val (.int (((q0.toUInt32 >>> ((4 : Int32) &&& 31).toUInt32).toInt32) &&& (3 : Int32))), .val (.int sz), .val (.int ia), .val (.int ib), .val (.ref c_ia), .unset]) rfl kq)
  have K855 : Go p e below T852 (mkF m 308 #[.val (.int q0), .val (.int q1), .val (.int q2), .val (.int q3), .val (.ref x655), .val (.ref x659), .val (.ref x663), .val (.ref x667), .val (.ref b671), .val (.int lo5), .val (.int hi5), .val (.ref b678), .val (.int (((q0.toUInt32 >>> ((4 : Int32) &&& 31).toUInt32).toInt32) &&& (3 : Int32))), .val (.int sz), .val (.int ia), .val (.int ib), .val (.ref c_ia), .unset] [(.ref b678)]) G := fun tq kq => K854 tq (XS.aload X852.here hx rfl (hb hby at_306) rfl rfl kq)
  have K856 : Go p e below T852 (mkF m 310 #[.val (.int q0), .val (.int q1), .val (.int q2), .val (.int q3), .val (.ref x655), .val (.ref x659), .val (.ref x663), .val (.ref x667), .val (.ref b671), .val (.int lo5), .val (.int hi5), .val (.ref b678), .val (.int (((q0.toUInt32 >>> ((4 : Int32) &&& 31).toUInt32).toInt32) &&& (3 : Int32))), .val (.int sz), .val (.int ia), .val (.int ib), .val (.ref c_ia), .unset] [(.int ib), (.ref b678)]) G := fun tq kq => K855 tq (XS.iload X852.here hx rfl (hb hby at_308) rfl kq)
  obtain ⟨cq857, kq857, q857a, q857b, q857c⟩ := isOf hZ E852q Dj5.1
  obtain ⟨v857, _, ⟨T857, L857, k857, n857⟩, -, X857, ⟨Lc857, hQ857, l857, y857, z857⟩, st857⟩ := X852.virtualBack hx (y := (⟨"com/example/goalpost/goalpost/runtime/ListValue", "at", "(I)Lcom/example/goalpost/goalpost/runtime/Cell;"⟩ : MethodName)) (z := (⟨"com/example/goalpost/goalpost/runtime/ListValue", "at", "(I)Lcom/example/goalpost/goalpost/runtime/Cell;"⟩ : MethodName)) hown (mvT hZ (hW 72 _ rfl)) (mvT hZ (hW 67 _ rfl)) (notFace_of_selects (args := #[]) (mvT hZ (hW 69 _ rfl))) (mvT hZ (hW 69 _ rfl)) (mvT hZ (hW 68 _ rfl)) (by decide) (backOf (W := 0) (rmAT l Z a0 hw [] b678 ib r_5 k_5 m_5 f_5 v_5 c_ib hj5 n0 Zj5 Dj5.2.1 Dj5.2.2.1 Dj5.2.2.2.2.1 Dj5.2.2.2.2.2.2.2.2.1 ⟨ib1, ib3⟩ (Dj5.2.2.2.2.2.2.2.2.2.1.2.2.2 _ _ hp_ib)) hZ (hW 70 _ rfl) (hW 16 _ rfl) (by decide) (by decide)) q857a q857c (g := (mkF m 310 #[.val (.int q0), .val (.int q1), .val (.int q2), .val (.int q3), .val (.ref x655), .val (.ref x659), .val (.ref x663), .val (.ref x667), .val (.ref b671), .val (.int lo5), .val (.int hi5), .val (.ref b678), .val (.int (((q0.toUInt32 >>> ((4 : Int32) &&& 31).toUInt32).toInt32) &&& (3 : Int32))), .val (.int sz), .val (.int ia), .val (.int ib), .val (.ref c_ia), .unset] [(.int ib), (.ref b678)])) rfl (by rw [hml]; rfl) (Steps.refl _) (argsL := [(.int ib)]) (rest := []) (lenOf pd_81 rfl) rfl (by show 2 * 0 + _ ≤ _; exact Nat.le_of_eq rfl) (hb hby at_310) (fun _ _ => ⟨rfl, E852q, (by decide : 11 + 0 ≤ _), (by decide : 49 + 0 ≤ _)⟩)
  dsimp only [Pt.U, Pt.locs, Pt.cells, Pt.slots] at X857 l857 y857 z857 st857 hQ857
  subst l857 y857 z857
  obtain ⟨rfl, N857q, E857q⟩ := hQ857
  have N857 := Fr.app N852 N857q
  have K858 : Go p e below T857 (mkF m 313 #[.val (.int q0), .val (.int q1), .val (.int q2), .val (.int q3), .val (.ref x655), .val (.ref x659), .val (.ref x663), .val (.ref x667), .val (.ref b671), .val (.int lo5), .val (.int hi5), .val (.ref b678), .val (.int (((q0.toUInt32 >>> ((4 : Int32) &&& 31).toUInt32).toInt32) &&& (3 : Int32))), .val (.int sz), .val (.int ia), .val (.int ib), .val (.ref c_ia), .unset] [(.ref c_ib)]) G := fun tq kq => K856 tq (st857.trans kq)
  have K859 : Go p e below T857 (mkF m 315 #[.val (.int q0), .val (.int q1), .val (.int q2), .val (.int q3), .val (.ref x655), .val (.ref x659), .val (.ref x663), .val (.ref x667), .val (.ref b671), .val (.int lo5), .val (.int hi5), .val (.ref b678), .val (.int (((q0.toUInt32 >>> ((4 : Int32) &&& 31).toUInt32).toInt32) &&& (3 : Int32))), .val (.int sz), .val (.int ia), .val (.int ib), .val (.ref c_ia), .val (.ref c_ib)] []) G := fun tq kq => K858 tq (XS.astore X857.here hx rfl (hb hby at_313) rfl rfl (l' := #[.val (.int q0), .val (.int q1), .val (.int q2), .val (.int q3), .val (.ref x655), .val (.ref x659), .val (.ref x663), .val (.ref x667), .val (.ref b671), .val (.int lo5), .val (.int hi5), .val (.ref b678), .val (.int (((q0.toUInt32 >>> ((4 : Int32) &&& 31).toUInt32).toInt32) &&& (3 : Int32))), .val (.int sz), .val (.int ia), .val (.int ib), .val (.ref c_ia), .val (.ref c_ib)]) rfl kq)
  have K860 : Go p e below T857 (mkF m 317 #[.val (.int q0), .val (.int q1), .val (.int q2), .val (.int q3), .val (.ref x655), .val (.ref x659), .val (.ref x663), .val (.ref x667), .val (.ref b671), .val (.int lo5), .val (.int hi5), .val (.ref b678), .val (.int (((q0.toUInt32 >>> ((4 : Int32) &&& 31).toUInt32).toInt32) &&& (3 : Int32))), .val (.int sz), .val (.int ia), .val (.int ib), .val (.ref c_ia), .val (.ref c_ib)] [(.ref c_ia)]) G := fun tq kq => K859 tq (XS.aload X857.here hx rfl (hb hby at_315) rfl rfl kq)
  have K861 : Go p e below T857 (mkF m 320 #[.val (.int q0), .val (.int q1), .val (.int q2), .val (.int q3), .val (.ref x655), .val (.ref x659), .val (.ref x663), .val (.ref x667), .val (.ref b671), .val (.int lo5), .val (.int hi5), .val (.ref b678), .val (.int (((q0.toUInt32 >>> ((4 : Int32) &&& 31).toUInt32).toInt32) &&& (3 : Int32))), .val (.int sz), .val (.int ia), .val (.int ib), .val (.ref c_ia), .val (.ref c_ib)] []) G := fun tq kq => K860 tq (XS.ifnullNo X857.here hx rfl (hb hby at_317) rfl kq)
  have K862 : Go p e below T857 (mkF m 322 #[.val (.int q0), .val (.int q1), .val (.int q2), .val (.int q3), .val (.ref x655), .val (.ref x659), .val (.ref x663), .val (.ref x667), .val (.ref b671), .val (.int lo5), .val (.int hi5), .val (.ref b678), .val (.int (((q0.toUInt32 >>> ((4 : Int32) &&& 31).toUInt32).toInt32) &&& (3 : Int32))), .val (.int sz), .val (.int ia), .val (.int ib), .val (.ref c_ia), .val (.ref c_ib)] [(.ref c_ib)]) G := fun tq kq => K861 tq (XS.aload X857.here hx rfl (hb hby at_320) rfl rfl kq)
  have K863 : Go p e below T857 (mkF m 325 #[.val (.int q0), .val (.int q1), .val (.int q2), .val (.int q3), .val (.ref x655), .val (.ref x659), .val (.ref x663), .val (.ref x667), .val (.ref b671), .val (.int lo5), .val (.int hi5), .val (.ref b678), .val (.int (((q0.toUInt32 >>> ((4 : Int32) &&& 31).toUInt32).toInt32) &&& (3 : Int32))), .val (.int sz), .val (.int ia), .val (.int ib), .val (.ref c_ia), .val (.ref c_ib)] []) G := fun tq kq => K862 tq (XS.ifnullNo X857.here hx rfl (hb hby at_322) rfl kq)
  have K864 : Go p e below T857 (mkF m 327 #[.val (.int q0), .val (.int q1), .val (.int q2), .val (.int q3), .val (.ref x655), .val (.ref x659), .val (.ref x663), .val (.ref x667), .val (.ref b671), .val (.int lo5), .val (.int hi5), .val (.ref b678), .val (.int (((q0.toUInt32 >>> ((4 : Int32) &&& 31).toUInt32).toInt32) &&& (3 : Int32))), .val (.int sz), .val (.int ia), .val (.int ib), .val (.ref c_ia), .val (.ref c_ib)] [(.ref c_ia)]) G := fun tq kq => K863 tq (XS.aload X857.here hx rfl (hb hby at_325) rfl rfl kq)
  obtain ⟨cq865, kq865, q865a, q865b, q865c⟩ := isOf hZ E857q Ec_ia
  obtain ⟨v865, _, ⟨T865, L865, k865, n865⟩, -, X865, ⟨Lc865, hQ865, l865, y865, z865⟩, st865⟩ := X857.virtualBack hx (y := (⟨"com/example/goalpost/goalpost/runtime/Cell", "get", "()Ljava/lang/Object;"⟩ : MethodName)) (z := (⟨"com/example/goalpost/goalpost/runtime/Cell", "get", "()Ljava/lang/Object;"⟩ : MethodName)) hown (mvT hZ (hW 73 _ rfl)) (mvT hZ (hW 74 _ rfl)) (notFace_of_selects (args := #[]) (mvT hZ (hW 76 _ rfl))) (mvT hZ (hW 76 _ rfl)) (mvT hZ (hW 75 _ rfl)) (by decide) (backOf (W := 0) (rmCG l Z a0 hw [] c_ia x_ia hj5 n0 Zj5 Fc_ia) hZ (hW 77 _ rfl) (hW 48 _ rfl) (by decide) (by decide)) q865a q865c (g := (mkF m 327 #[.val (.int q0), .val (.int q1), .val (.int q2), .val (.int q3), .val (.ref x655), .val (.ref x659), .val (.ref x663), .val (.ref x667), .val (.ref b671), .val (.int lo5), .val (.int hi5), .val (.ref b678), .val (.int (((q0.toUInt32 >>> ((4 : Int32) &&& 31).toUInt32).toInt32) &&& (3 : Int32))), .val (.int sz), .val (.int ia), .val (.int ib), .val (.ref c_ia), .val (.ref c_ib)] [(.ref c_ia)])) rfl (by rw [hml]; rfl) (Steps.refl _) (argsL := []) (rest := []) (lenOf pd_183 rfl) rfl (by show 2 * 0 + _ ≤ _; exact Nat.le_of_eq rfl) (hb hby at_327) (fun _ _ => ⟨rfl, E857q, (by decide : 11 + 0 ≤ _), (by decide : 49 + 0 ≤ _)⟩)
  dsimp only [Pt.U, Pt.locs, Pt.cells, Pt.slots] at X865 l865 y865 z865 st865 hQ865
  subst l865 y865 z865
  obtain ⟨rfl, N865q, E865q⟩ := hQ865
  have N865 := Fr.app N857 N865q
  have K866 : Go p e below T865 (mkF m 330 #[.val (.int q0), .val (.int q1), .val (.int q2), .val (.int q3), .val (.ref x655), .val (.ref x659), .val (.ref x663), .val (.ref x667), .val (.ref b671), .val (.int lo5), .val (.int hi5), .val (.ref b678), .val (.int (((q0.toUInt32 >>> ((4 : Int32) &&& 31).toUInt32).toInt32) &&& (3 : Int32))), .val (.int sz), .val (.int ia), .val (.int ib), .val (.ref c_ia), .val (.ref c_ib)] [(.ref x_ia)]) G := fun tq kq => K864 tq (st865.trans kq)
  have K867 : Go p e below T865 (mkF m 332 #[.val (.int q0), .val (.int q1), .val (.int q2), .val (.int q3), .val (.ref x655), .val (.ref x659), .val (.ref x663), .val (.ref x667), .val (.ref b671), .val (.int lo5), .val (.int hi5), .val (.ref b678), .val (.int (((q0.toUInt32 >>> ((4 : Int32) &&& 31).toUInt32).toInt32) &&& (3 : Int32))), .val (.int sz), .val (.int ia), .val (.int ib), .val (.ref c_ia), .val (.ref c_ib)] [(.ref b671), (.ref x_ia)]) G := fun tq kq => K866 tq (XS.aload X865.here hx rfl (hb hby at_330) rfl rfl kq)
  have K868 : Go p e below T865 (mkF m 334 #[.val (.int q0), .val (.int q1), .val (.int q2), .val (.int q3), .val (.ref x655), .val (.ref x659), .val (.ref x663), .val (.ref x667), .val (.ref b671), .val (.int lo5), .val (.int hi5), .val (.ref b678), .val (.int (((q0.toUInt32 >>> ((4 : Int32) &&& 31).toUInt32).toInt32) &&& (3 : Int32))), .val (.int sz), .val (.int ia), .val (.int ib), .val (.ref c_ia), .val (.ref c_ib)] [(.int lo5), (.ref b671), (.ref x_ia)]) G := fun tq kq => K867 tq (XS.iload X865.here hx rfl (hb hby at_332) rfl kq)
  have K869 : Go p e below T865 (mkF m 336 #[.val (.int q0), .val (.int q1), .val (.int q2), .val (.int q3), .val (.ref x655), .val (.ref x659), .val (.ref x663), .val (.ref x667), .val (.ref b671), .val (.int lo5), .val (.int hi5), .val (.ref b678), .val (.int (((q0.toUInt32 >>> ((4 : Int32) &&& 31).toUInt32).toInt32) &&& (3 : Int32))), .val (.int sz), .val (.int ia), .val (.int ib), .val (.ref c_ia), .val (.ref c_ib)] [(.int ia), (.int lo5), (.ref b671), (.ref x_ia)]) G := fun tq kq => K868 tq (XS.iload X865.here hx rfl (hb hby at_334) rfl kq)
  have K870 : Go p e below T865 (mkF m 337 #[.val (.int q0), .val (.int q1), .val (.int q2), .val (.int q3), .val (.ref x655), .val (.ref x659), .val (.ref x663), .val (.ref x667), .val (.ref b671), .val (.int lo5), .val (.int hi5), .val (.ref b678), .val (.int (((q0.toUInt32 >>> ((4 : Int32) &&& 31).toUInt32).toInt32) &&& (3 : Int32))), .val (.int sz), .val (.int ia), .val (.int ib), .val (.ref c_ia), .val (.ref c_ib)] [(.int (lo5 + ia)), (.ref b671), (.ref x_ia)]) G := fun tq kq => K869 tq (XS.iadd X865.here hx rfl (hb hby at_336) rfl kq)
  obtain ⟨cl871, Ar871, q871, S871, Nn871, Hh871, Gg871⟩ := id Vj5
  have hin871 : ¬ ((lo5 + ia) < 0 ∨ cl871.slots.size ≤ ((lo5 + ia)).toNatClampNeg) := inb_of S871 ia4
  have hat871 := Has.at (v := (.ref x_ia)) Hh871 hin871 (by rw [ia5]; exact mp5 _ _ hp_ia)
  have K872 : Go p e below T865 (mkF m 338 #[.val (.int q0), .val (.int q1), .val (.int q2), .val (.int q3), .val (.ref x655), .val (.ref x659), .val (.ref x663), .val (.ref x667), .val (.ref b671), .val (.int lo5), .val (.int hi5), .val (.ref b678), .val (.int (((q0.toUInt32 >>> ((4 : Int32) &&& 31).toUInt32).toInt32) &&& (3 : Int32))), .val (.int sz), .val (.int ia), .val (.int ib), .val (.ref c_ia), .val (.ref c_ib)] [(.ref x_ia), (.ref x_ia)]) G := fun tq kq => K870 tq (X865.aaload hx (j := (lo5 + ia)) (v := (.ref x_ia)) (by rw [E865q]; exact Ar871.1) (State.isArrayOf_alike hZ.alike Ar871.2.1) rfl Ar871.2.2 hin871 hat871 (g := (mkF m 337 #[.val (.int q0), .val (.int q1), .val (.int q2), .val (.int q3), .val (.ref x655), .val (.ref x659), .val (.ref x663), .val (.ref x667), .val (.ref b671), .val (.int lo5), .val (.int hi5), .val (.ref b678), .val (.int (((q0.toUInt32 >>> ((4 : Int32) &&& 31).toUInt32).toInt32) &&& (3 : Int32))), .val (.int sz), .val (.int ia), .val (.int ib), .val (.ref c_ia), .val (.ref c_ib)] [(.int (lo5 + ia)), (.ref b671), (.ref x_ia)])) rfl rfl (hb hby at_337) _ kq)
  have K873 : Go p e below T865 (mkF m 341 #[.val (.int q0), .val (.int q1), .val (.int q2), .val (.int q3), .val (.ref x655), .val (.ref x659), .val (.ref x663), .val (.ref x667), .val (.ref b671), .val (.int lo5), .val (.int hi5), .val (.ref b678), .val (.int (((q0.toUInt32 >>> ((4 : Int32) &&& 31).toUInt32).toInt32) &&& (3 : Int32))), .val (.int sz), .val (.int ia), .val (.int ib), .val (.ref c_ia), .val (.ref c_ib)] []) G := fun tq kq => K872 tq (Jvm.RoadKit.acmp (g := (mkF m 338 #[.val (.int q0), .val (.int q1), .val (.int q2), .val (.int q3), .val (.ref x655), .val (.ref x659), .val (.ref x663), .val (.ref x667), .val (.ref b671), .val (.int lo5), .val (.int hi5), .val (.ref b678), .val (.int (((q0.toUInt32 >>> ((4 : Int32) &&& 31).toUInt32).toInt32) &&& (3 : Int32))), .val (.int sz), .val (.int ia), .val (.int ib), .val (.ref c_ia), .val (.ref c_ib)] [(.ref x_ia), (.ref x_ia)])) X865 hx rfl rfl rfl (pc0 := 338) (pc' := 341) (same := true) rfl (hb hby at_338) rfl (decide_eq_true rfl) (by decide) (by decide) kq)
  have K874 : Go p e below T865 (mkF m 343 #[.val (.int q0), .val (.int q1), .val (.int q2), .val (.int q3), .val (.ref x655), .val (.ref x659), .val (.ref x663), .val (.ref x667), .val (.ref b671), .val (.int lo5), .val (.int hi5), .val (.ref b678), .val (.int (((q0.toUInt32 >>> ((4 : Int32) &&& 31).toUInt32).toInt32) &&& (3 : Int32))), .val (.int sz), .val (.int ia), .val (.int ib), .val (.ref c_ia), .val (.ref c_ib)] [(.ref c_ib)]) G := fun tq kq => K873 tq (XS.aload X865.here hx rfl (hb hby at_341) rfl rfl kq)
  obtain ⟨cq875, kq875, q875a, q875b, q875c⟩ := isOf hZ E865q Ec_ib
  obtain ⟨v875, _, ⟨T875, L875, k875, n875⟩, -, X875, ⟨Lc875, hQ875, l875, y875, z875⟩, st875⟩ := X865.virtualBack hx (y := (⟨"com/example/goalpost/goalpost/runtime/Cell", "get", "()Ljava/lang/Object;"⟩ : MethodName)) (z := (⟨"com/example/goalpost/goalpost/runtime/Cell", "get", "()Ljava/lang/Object;"⟩ : MethodName)) hown (mvT hZ (hW 73 _ rfl)) (mvT hZ (hW 74 _ rfl)) (notFace_of_selects (args := #[]) (mvT hZ (hW 76 _ rfl))) (mvT hZ (hW 76 _ rfl)) (mvT hZ (hW 75 _ rfl)) (by decide) (backOf (W := 0) (rmCG l Z a0 hw [] c_ib x_ib hj5 n0 Zj5 Fc_ib) hZ (hW 77 _ rfl) (hW 48 _ rfl) (by decide) (by decide)) q875a q875c (g := (mkF m 343 #[.val (.int q0), .val (.int q1), .val (.int q2), .val (.int q3), .val (.ref x655), .val (.ref x659), .val (.ref x663), .val (.ref x667), .val (.ref b671), .val (.int lo5), .val (.int hi5), .val (.ref b678), .val (.int (((q0.toUInt32 >>> ((4 : Int32) &&& 31).toUInt32).toInt32) &&& (3 : Int32))), .val (.int sz), .val (.int ia), .val (.int ib), .val (.ref c_ia), .val (.ref c_ib)] [(.ref c_ib)])) rfl (by rw [hml]; rfl) (Steps.refl _) (argsL := []) (rest := []) (lenOf pd_183 rfl) rfl (by show 2 * 0 + _ ≤ _; exact Nat.le_of_eq rfl) (hb hby at_343) (fun _ _ => ⟨rfl, E865q, (by decide : 11 + 0 ≤ _), (by decide : 49 + 0 ≤ _)⟩)
  dsimp only [Pt.U, Pt.locs, Pt.cells, Pt.slots] at X875 l875 y875 z875 st875 hQ875
  subst l875 y875 z875
  obtain ⟨rfl, N875q, E875q⟩ := hQ875
  have N875 := Fr.app N865 N875q
  have K876 : Go p e below T875 (mkF m 346 #[.val (.int q0), .val (.int q1), .val (.int q2), .val (.int q3), .val (.ref x655), .val (.ref x659), .val (.ref x663), .val (.ref x667), .val (.ref b671), .val (.int lo5), .val (.int hi5), .val (.ref b678), .val (.int (((q0.toUInt32 >>> ((4 : Int32) &&& 31).toUInt32).toInt32) &&& (3 : Int32))), .val (.int sz), .val (.int ia), .val (.int ib), .val (.ref c_ia), .val (.ref c_ib)] [(.ref x_ib)]) G := fun tq kq => K874 tq (st875.trans kq)
  have K877 : Go p e below T875 (mkF m 348 #[.val (.int q0), .val (.int q1), .val (.int q2), .val (.int q3), .val (.ref x655), .val (.ref x659), .val (.ref x663), .val (.ref x667), .val (.ref b671), .val (.int lo5), .val (.int hi5), .val (.ref b678), .val (.int (((q0.toUInt32 >>> ((4 : Int32) &&& 31).toUInt32).toInt32) &&& (3 : Int32))), .val (.int sz), .val (.int ia), .val (.int ib), .val (.ref c_ia), .val (.ref c_ib)] [(.ref b671), (.ref x_ib)]) G := fun tq kq => K876 tq (XS.aload X875.here hx rfl (hb hby at_346) rfl rfl kq)
  have K878 : Go p e below T875 (mkF m 350 #[.val (.int q0), .val (.int q1), .val (.int q2), .val (.int q3), .val (.ref x655), .val (.ref x659), .val (.ref x663), .val (.ref x667), .val (.ref b671), .val (.int lo5), .val (.int hi5), .val (.ref b678), .val (.int (((q0.toUInt32 >>> ((4 : Int32) &&& 31).toUInt32).toInt32) &&& (3 : Int32))), .val (.int sz), .val (.int ia), .val (.int ib), .val (.ref c_ia), .val (.ref c_ib)] [(.int lo5), (.ref b671), (.ref x_ib)]) G := fun tq kq => K877 tq (XS.iload X875.here hx rfl (hb hby at_348) rfl kq)
  have K879 : Go p e below T875 (mkF m 352 #[.val (.int q0), .val (.int q1), .val (.int q2), .val (.int q3), .val (.ref x655), .val (.ref x659), .val (.ref x663), .val (.ref x667), .val (.ref b671), .val (.int lo5), .val (.int hi5), .val (.ref b678), .val (.int (((q0.toUInt32 >>> ((4 : Int32) &&& 31).toUInt32).toInt32) &&& (3 : Int32))), .val (.int sz), .val (.int ia), .val (.int ib), .val (.ref c_ia), .val (.ref c_ib)] [(.int ib), (.int lo5), (.ref b671), (.ref x_ib)]) G := fun tq kq => K878 tq (XS.iload X875.here hx rfl (hb hby at_350) rfl kq)
  have K880 : Go p e below T875 (mkF m 353 #[.val (.int q0), .val (.int q1), .val (.int q2), .val (.int q3), .val (.ref x655), .val (.ref x659), .val (.ref x663), .val (.ref x667), .val (.ref b671), .val (.int lo5), .val (.int hi5), .val (.ref b678), .val (.int (((q0.toUInt32 >>> ((4 : Int32) &&& 31).toUInt32).toInt32) &&& (3 : Int32))), .val (.int sz), .val (.int ia), .val (.int ib), .val (.ref c_ia), .val (.ref c_ib)] [(.int (lo5 + ib)), (.ref b671), (.ref x_ib)]) G := fun tq kq => K879 tq (XS.iadd X875.here hx rfl (hb hby at_352) rfl kq)
  obtain ⟨cl881, Ar881, q881, S881, Nn881, Hh881, Gg881⟩ := id Vj5
  have hin881 : ¬ ((lo5 + ib) < 0 ∨ cl881.slots.size ≤ ((lo5 + ib)).toNatClampNeg) := inb_of S881 ib4
  have hat881 := Has.at (v := (.ref x_ib)) Hh881 hin881 (by rw [ib5]; exact mp5 _ _ hp_ib)
  have K882 : Go p e below T875 (mkF m 354 #[.val (.int q0), .val (.int q1), .val (.int q2), .val (.int q3), .val (.ref x655), .val (.ref x659), .val (.ref x663), .val (.ref x667), .val (.ref b671), .val (.int lo5), .val (.int hi5), .val (.ref b678), .val (.int (((q0.toUInt32 >>> ((4 : Int32) &&& 31).toUInt32).toInt32) &&& (3 : Int32))), .val (.int sz), .val (.int ia), .val (.int ib), .val (.ref c_ia), .val (.ref c_ib)] [(.ref x_ib), (.ref x_ib)]) G := fun tq kq => K880 tq (X875.aaload hx (j := (lo5 + ib)) (v := (.ref x_ib)) (by rw [E875q]; exact Ar881.1) (State.isArrayOf_alike hZ.alike Ar881.2.1) rfl Ar881.2.2 hin881 hat881 (g := (mkF m 353 #[.val (.int q0), .val (.int q1), .val (.int q2), .val (.int q3), .val (.ref x655), .val (.ref x659), .val (.ref x663), .val (.ref x667), .val (.ref b671), .val (.int lo5), .val (.int hi5), .val (.ref b678), .val (.int (((q0.toUInt32 >>> ((4 : Int32) &&& 31).toUInt32).toInt32) &&& (3 : Int32))), .val (.int sz), .val (.int ia), .val (.int ib), .val (.ref c_ia), .val (.ref c_ib)] [(.int (lo5 + ib)), (.ref b671), (.ref x_ib)])) rfl rfl (hb hby at_353) _ kq)
  have K883 : Go p e below T875 (mkF m 357 #[.val (.int q0), .val (.int q1), .val (.int q2), .val (.int q3), .val (.ref x655), .val (.ref x659), .val (.ref x663), .val (.ref x667), .val (.ref b671), .val (.int lo5), .val (.int hi5), .val (.ref b678), .val (.int (((q0.toUInt32 >>> ((4 : Int32) &&& 31).toUInt32).toInt32) &&& (3 : Int32))), .val (.int sz), .val (.int ia), .val (.int ib), .val (.ref c_ia), .val (.ref c_ib)] []) G := fun tq kq => K882 tq (Jvm.RoadKit.acmp (g := (mkF m 354 #[.val (.int q0), .val (.int q1), .val (.int q2), .val (.int q3), .val (.ref x655), .val (.ref x659), .val (.ref x663), .val (.ref x667), .val (.ref b671), .val (.int lo5), .val (.int hi5), .val (.ref b678), .val (.int (((q0.toUInt32 >>> ((4 : Int32) &&& 31).toUInt32).toInt32) &&& (3 : Int32))), .val (.int sz), .val (.int ia), .val (.int ib), .val (.ref c_ia), .val (.ref c_ib)] [(.ref x_ib), (.ref x_ib)])) X875 hx rfl rfl rfl (pc0 := 354) (pc' := 357) (same := true) rfl (hb hby at_354) rfl (decide_eq_true rfl) (by decide) (by decide) kq)
  have K884 : Go p e below T875 (mkF m 358 #[.val (.int q0), .val (.int q1), .val (.int q2), .val (.int q3), .val (.ref x655), .val (.ref x659), .val (.ref x663), .val (.ref x667), .val (.ref b671), .val (.int lo5), .val (.int hi5), .val (.ref b678), .val (.int (((q0.toUInt32 >>> ((4 : Int32) &&& 31).toUInt32).toInt32) &&& (3 : Int32))), .val (.int sz), .val (.int ia), .val (.int ib), .val (.ref c_ia), .val (.ref c_ib)] [(.int (1 : Int32))]) G := fun tq kq => K883 tq (XS.iconst X875.here hx rfl (hb hby at_357) kq)
  have K885 : Go p e below T875 (mkF m 362 #[.val (.int q0), .val (.int q1), .val (.int q2), .val (.int q3), .val (.ref x655), .val (.ref x659), .val (.ref x663), .val (.ref x667), .val (.ref b671), .val (.int lo5), .val (.int hi5), .val (.ref b678), .val (.int (((q0.toUInt32 >>> ((4 : Int32) &&& 31).toUInt32).toInt32) &&& (3 : Int32))), .val (.int sz), .val (.int ia), .val (.int ib), .val (.ref c_ia), .val (.ref c_ib)] [(.int (1 : Int32))]) G := fun tq kq => K884 tq (XS.goto X875.here hx rfl (pc0 := 358) (pc' := 362) rfl (hb hby at_358) (by decide) (by decide) kq)
  obtain ⟨fs, hr, hrun, hended, hWW, hsame⟩ := X875.leave (v := some (.int (1 : Int32))) (fun h => by rw [Bd.returns] at h; cases h)
  refine ⟨_, _, hG _ (K885 _ (retN X875 hx (t := .boolean) Bd.returns (by simp) (hb hby at_362) hr)), hrun, hended, _, _, rfl, ?_, ⟨_, rfl⟩, hWW, hsame.mono (by decide) (by decide)⟩
  show Q0 Z q0 q1 q2 q3 ca cc h0 n0 _ T875.heap _
  rw [E875q]
  exact ⟨rfl, N875⟩
set_option maxRecDepth 65536 in
set_option maxHeartbeats 40000000 in
theorem comes_1 {Post : Tables → Env → Array Value → State → Outcome → State → Prop} (hpost : ∀ tb e args s v u, (limb_1_1.after args s (.returned v) u = true ∧ limb_1_2.after args s (.returned v) u = true ∧ True) → FrameEnd s (.returned v) u (Jvm.fieldLocs frame_1_writes args s ++ Jvm.arrayLocs frame_1_arrays args s ++ Jvm.staticLocs frame_1_statics s) 32 128 → Post tb e args s (.returned v) u) :
    ArmFor flags0 classFile x code maxLocals ret World_1 tables_1 room_1 Calls_1 rest_1 Pre_1 Post := by
  intro l hfl _ _ p e ha hc hk s m args below hf hA hF happ hP
  obtain ⟨hcalls, hrest, hpre⟩ := hP
  obtain ⟨-, -, -, hnamed, -, -, -, hat⟩ := (Spec.applies_iff hf).mp happ
  obtain ⟨hg, hn⟩ := and_e (Cond.before_iff.mp (show (Jvm.Cond.and given_1 narrow_1).before args s = true from hpre))
  obtain ⟨gg1, gg2⟩ := and_e hg
  obtain ⟨gg3, gg4⟩ := and_e gg2
  obtain ⟨gg5, gg6⟩ := and_e gg4
  obtain ⟨gg7, gg8⟩ := and_e gg6
  obtain ⟨w0, w1, w2, w3, rfl⟩ : ∃ w0 w1 w2 w3 : Value, args = #[w0, w1, w2, w3] := by
    have hs : args.size = 4 := by simpa [Cond.value, given_1] using gg1
    obtain ⟨L⟩ := args
    match L, hs with
    | [w0, w1, w2, w3], _ => exact ⟨w0, w1, w2, w3, rfl⟩
  have hw := fun d (hd : d ∈ tables_1) => atoms_spec (ws := Jvm.Cond.code x code maxLocals ret :: tables_1) hat d (List.mem_cons_of_mem _ hd)
  have hW : ∀ (k : Nat) (d : Jvm.Cond), tables_1[k]? = some d → d.before _ s = true := fun k d h => hw d (List.mem_of_getElem? h)
  have hfit : Fit s := fun {y c} hc i hi => by
    obtain ⟨ha, rfl⟩ := Array.getElem?_eq_some_iff.mp hc
    have q := List.all_eq_true.mp ((Array.all_eq_true_iff_forall_mem.mp hF) _ (Array.getElem_mem ha)) i (List.mem_range.mpr hi)
    simpa [Array.getElem?_eq_getElem hi] using q
  obtain ⟨hsets, hown0⟩ := atoms_of _ (rest_1_c_eq ▸ (show rest_1_c.before _ s = true from hrest))
  have hr0 := Cond.before_iff.mp hown0
  obtain ⟨i0, ei0⟩ := is_v gg3
  obtain rfl : w0 = (.int i0) := Option.some.inj ei0
  obtain ⟨i1, ei1⟩ := is_v gg5
  obtain rfl : w1 = (.int i1) := Option.some.inj ei1
  obtain ⟨i2, ei2⟩ := is_v gg7
  obtain rfl : w2 = (.int i2) := Option.some.inj ei2
  obtain ⟨i3, ei3⟩ := is_v gg8
  obtain rfl : w3 = (.int i3) := Option.some.inj ei3
  have hS : ∀ (k : Nat) (d : Jvm.Cond), jdkStatics_1[k]? = some d → d.before #[.int i0, .int i1, .int i2, .int i3] s = true := fun k d h => hsets d (List.mem_of_getElem? h)
  obtain ⟨ca, ec⟩ := arr_v (Cond.before_iff.mp (hS 2 _ rfl))
  have S_cache : Sta s s.heap "java/lang/Long$LongCache" "cache" "[Ljava/lang/Long;" (.ref ca) := Sta.start ec (Or.inl (hS 1 _ rfl))
  obtain ⟨cc, ArC⟩ := Arr.start ec (Cond.before_iff.mp (hS 2 _ rfl))
  obtain ⟨hl1, hl2⟩ := Jvm.Free.IntBox.length_fwd (hS 4 _ rfl) ec ArC.1 ArC.2.1 ArC.2.2
  have hsz : cc.slots.size = 256 := by
    have q := len_toInt hl1
    rw [hl2] at q
    have q2 : (256 : Int32).toInt = 256 := by decide
    rw [q2] at q
    omega
  have hel : ∀ i, i < 256 → ∃ b, cc.slots[i]? = some (.ref b) ∧ Exa s s.heap b "java/lang/Long" := by
    intro i hi
    have al := Cond.all_elim ec (Jvm.Free.IntBox.arrayAt_of ArC.1 ArC.2.1 ArC.2.2) (Cond.before_iff.mp (hS 5 _ rfl)) i (by rw [hsz]; exact hi)
    obtain ⟨al1, -⟩ := and_e al
    obtain ⟨b, cI, cell, kI, e1, e2, e3, e4, e5, e6, e7⟩ := Cond.exactly_spec (beq_iff_eq.mpr al1 : (Cond.exactly _ "java/lang/Long").holds #[.int i0, .int i1, .int i2, .int i3] s none s [i] = true)
    subst e6
    obtain ⟨a1, j1, c1, f1, f2, f3, f4, f5⟩ := Term.elem_spec e1
    have ec' : (Term.static "java/lang/Long$LongCache" "cache" "[Ljava/lang/Long;").eval #[.int i0, .int i1, .int i2, .int i3] s none [i] s = some (.ref ca) := ec
    cases f1.symm.trans ec'
    cases f3.symm.trans (Jvm.Free.IntBox.arrayAt_of ArC.1 ArC.2.1 ArC.2.2)
    have f6 : j1 = i.toInt32 := by
      have f7 : (Term.index 0).eval #[.int i0, .int i1, .int i2, .int i3] s none [i] s = some (.int i.toInt32) := rfl
      exact Value.int.inj (Option.some.inj (f2.symm.trans f7))
    subst f6
    rw [(Jvm.Free.IntBox.place_nonneg i hi).2] at f5
    exact ⟨b, f5, cell, kI, e3, e2, e4, e5, e7⟩
  obtain ⟨n, o, h1, h2, h3, _, L, rfl, ⟨rfl, N⟩, hq⟩ := rm0 l s _ hw tables_1 i0 i1 i2 i3 ca cc s.heap s.heap.size (Nat.le_refl _) (Old.start s) S_cache ArC hsz hel p e ha hc hk s m _ below hf ((Spec.applies_iff_loose hf).mp happ).1 ⟨rfl, State.Warmed39.refl s, rfl⟩ trivial
  refine ⟨n, _, h1, h2, h3, hpost _ _ _ _ _ _ ⟨Cond.after_iff.mpr rfl, Cond.after_iff.mpr (eq_i res_at (Term.int_eval (1)) rfl), trivial⟩ ⟨hq.1, hq.2.1, (hq.2.2.sift fun y hy => Or.inr (N y hy)).mono (by decide) (by decide)⟩⟩
theorem main_1_1 : Claimed_1_1 := comes_1 fun _ _ _ _ _ _ h hF => ⟨h.1, hF⟩
theorem main_1_2 : Claimed_1_2 := comes_1 fun _ _ _ _ _ _ h hF => ⟨h.2.1, hF⟩
end Jvm.Pilot.@@N@@
namespace Jvm.Pilot.@@N@@
open Jvm Jvm.ClassFile Sem Op Lib Jvm.Free Jvm.Stand Jvm.Pilot.@@N@@.Jvm.D
/-! MADE BY PROGRAM (witnessworld.py) out of the Statement's table words and the real class files: 22 classes; the members and pool entries that the words name. The judged class is class 1, her method 1. -/
namespace start1
open Jvm.ClassFile
def u (s : String) : CpInfo := .utf8 (stringToUtf16 s)
/-- a pool by its gaps: so many unusable entries, then the entry; so many at the end -/
def gap : Nat → List CpInfo → List CpInfo
  | 0, r => r
  | n + 1, r => .unusable :: gap n r
def poolList (es : List (Nat × CpInfo)) (last : Nat) : List CpInfo := es.foldr (fun e r => gap e.1 (e.2 :: r)) (gap last [])
def pool (es : List (Nat × CpInfo)) (last : Nat) : Array CpInfo := ⟨poolList es last⟩
def fileOf (pool : Array CpInfo) (this : Nat) (attrs : Array Attribute := #[]) (ms : Array MethodInfo := #[]) (fl : Nat := 33) (sup : Nat := 0) (ifs : Array Nat := #[]) (fds : Array FieldInfo := #[]) : ClassFile where
  minorVersion := 0
  majorVersion := 65
  constantPool := pool
  accessFlags := fl
  thisClass := this
  superClass := sup
  interfaces := ifs
  fields := fds
  methods := ms
  attributes := attrs
def plain (name : String) (sup : Option ClassId) : Class where
  name := name
  kind := .ordinary
  loader := none
  accessFlags := 33
  super := sup
  interfaces := #[]
  cf := none
  fields := #[]
  methods := #[]
  instanceTypes := #[]
  staticTypes := #[]
  resolved := #[]
  callSites := []
  init := .initialized
  statics := none
  mirror := none

def pool0 : Array CpInfo := pool [(5, u "<init>"), (0, u "()V"), (1, .class_ 10), (1, u "java/lang/Object")] 113

def k0c0 : Code := { maxStack := 0, maxLocals := 1, code := object_method_1_code, exceptionTable := #[], attributes := #[] }
def k0m0 : Method := { name := "<init>", desc := "()V", sig := { parameters := [], returnType := none }, accessFlags := 1, code := some k0c0 }
/-- java/lang/Object -/
def k0 : Class := { plain "java/lang/Object" none with
  accessFlags := 33
  interfaces := #[]
  cf := some (fileOf pool0 8 #[] #[{ accessFlags := 1, nameIndex := 5, descriptorIndex := 6, attributes := #[] }] 33 0 #[] #[])
  fields := #[]
  methods := #[k0m0]
  instanceTypes := #[]
  staticTypes := #[]
  resolved := Array.replicate 124 none
  statics := none }

def pool1 : Array CpInfo := pool [(2, .class_ 4), (1, u "java/lang/Object"), (0, u "<init>"), (0, u "()V"), (0, .long 11), (1, .methodref 10 11), (0, .class_ 12), (0, .nameAndType 13 14), (0, u "java/lang/Long"), (0, u "valueOf"), (0, u "(J)Ljava/lang/Long;"), (0, .long 12), (1, .long 13), (1, .long 14), (1, .class_ 22), (0, u "com/example/goalpost/goalpost/runtime/ListValue"), (0, .methodref 21 24), (0, .nameAndType 5 25), (0, u "(II)V"), (0, .methodref 21 27), (0, .nameAndType 28 29), (0, u "push"), (0, u "(Ljava/lang/Object;)V"), (0, .methodref 21 31), (0, .nameAndType 32 29), (0, u "put"), (0, .methodref 21 34), (0, .nameAndType 35 36), (0, u "get"), (0, u "()Ljava/lang/Object;"), (0, .methodref 21 38), (0, .nameAndType 39 36), (0, u "pull"), (0, .integer 2147483647), (0, .methodref 21 42), (0, .nameAndType 43 44), (0, u "at"), (0, u "(I)Lcom/example/goalpost/goalpost/runtime/Cell;"), (0, .methodref 46 34), (0, .class_ 47), (0, u "com/example/goalpost/goalpost/runtime/Cell"), (0, .class_ 49), (0, u "com/example/goalpost/goalpost/runtime/ListValueAtPinLaw"), (2, u "law"), (0, u "(IIII)Z")] 5

def k1m0 : Method := { name := "<init>", desc := "()V", sig := { parameters := [], returnType := none }, accessFlags := 1, code := none }
def k1c1 : Code := { maxStack := 5, maxLocals := 18, code := code, exceptionTable := #[], attributes := #[] }
def k1m1 : Method := { name := "law", desc := "(IIII)Z", sig := { parameters := [.int, .int, .int, .int], returnType := some .boolean }, accessFlags := 9, code := some k1c1 }
/-- com/example/goalpost/goalpost/runtime/ListValueAtPinLaw -/
def k1 : Class := { plain "com/example/goalpost/goalpost/runtime/ListValueAtPinLaw" (some 0) with
  accessFlags := 49
  interfaces := #[]
  cf := some (fileOf pool1 48 #[] #[{ accessFlags := 1, nameIndex := 5, descriptorIndex := 6, attributes := #[] }, { accessFlags := 9, nameIndex := 52, descriptorIndex := 53, attributes := #[] }] 49 2 #[] #[])
  fields := #[]
  methods := #[k1m0, k1m1]
  instanceTypes := #[]
  staticTypes := #[]
  resolved := Array.replicate 59 none
  statics := none }

def pool2 : Array CpInfo := pool [(1, .class_ 2), (0, u "java/io/Serializable"), (0, .class_ 4), (0, u "java/lang/Object")] 2

/-- java/io/Serializable -/
def k2 : Class := { plain "java/io/Serializable" (some 0) with
  accessFlags := 1537
  interfaces := #[]
  cf := some (fileOf pool2 1 #[] #[] 1537 3 #[] #[])
  fields := #[]
  methods := #[]
  instanceTypes := #[]
  staticTypes := #[]
  resolved := Array.replicate 7 none
  statics := none }

def pool3 : Array CpInfo := pool [(2, .class_ 4), (1, u "java/lang/Object"), (0, u "<init>"), (0, u "()V"), (1, .class_ 10), (1, u "java/lang/Number"), (2, .class_ 14), (0, u "java/io/Serializable"), (0, u "serialVersionUID"), (0, u "J")] 20

def k3m0 : Method := { name := "<init>", desc := "()V", sig := { parameters := [], returnType := none }, accessFlags := 1, code := none }
/-- java/lang/Number -/
def k3 : Class := { plain "java/lang/Number" (some 0) with
  accessFlags := 1057
  interfaces := #[2]
  cf := some (fileOf pool3 8 #[] #[{ accessFlags := 1, nameIndex := 5, descriptorIndex := 6, attributes := #[] }] 1057 2 #[13] #[{ accessFlags := 26, nameIndex := 15, descriptorIndex := 16, attributes := #[] }])
  fields := #[{ name := "serialVersionUID", type := .long, accessFlags := 26, slot := 0, constantValue := 0 }]
  methods := #[k3m0]
  instanceTypes := #[]
  staticTypes := #[.long]
  resolved := Array.replicate 37 none
  statics := none }

def pool4 : Array CpInfo := pool [(1, .class_ 2), (0, u "java/lang/Comparable"), (0, .class_ 4), (0, u "java/lang/Object")] 7

/-- java/lang/Comparable -/
def k4 : Class := { plain "java/lang/Comparable" (some 0) with
  accessFlags := 1537
  interfaces := #[]
  cf := some (fileOf pool4 1 #[] #[] 1537 3 #[] #[])
  fields := #[]
  methods := #[]
  instanceTypes := #[]
  staticTypes := #[]
  resolved := Array.replicate 12 none
  statics := none }

def pool5 : Array CpInfo := pool [(1, .class_ 2), (0, u "java/lang/constant/Constable"), (0, .class_ 4), (0, u "java/lang/Object")] 6

/-- java/lang/constant/Constable -/
def k5 : Class := { plain "java/lang/constant/Constable" (some 0) with
  accessFlags := 1537
  interfaces := #[]
  cf := some (fileOf pool5 1 #[] #[] 1537 3 #[] #[])
  fields := #[]
  methods := #[]
  instanceTypes := #[]
  staticTypes := #[]
  resolved := Array.replicate 11 none
  statics := none }

def pool6 : Array CpInfo := pool [(1, .class_ 2), (0, u "java/lang/constant/ConstantDesc"), (0, .class_ 4), (0, u "java/lang/Object")] 32

/-- java/lang/constant/ConstantDesc -/
def k6 : Class := { plain "java/lang/constant/ConstantDesc" (some 0) with
  accessFlags := 1537
  interfaces := #[]
  cf := some (fileOf pool6 1 #[] #[] 1537 3 #[] #[])
  fields := #[]
  methods := #[]
  instanceTypes := #[]
  staticTypes := #[]
  resolved := Array.replicate 37 none
  statics := none }

def pool7 : Array CpInfo := pool [(1, .class_ 2), (0, u "java/lang/Long"), (82, u "valueOf"), (143, u "(J)Ljava/lang/Long;"), (0, .long 18446744073709551488), (1, .long 127), (1, .fieldref 235 236), (0, .class_ 237), (0, .nameAndType 238 239), (0, u "java/lang/Long$LongCache"), (0, u "cache"), (0, u "[Ljava/lang/Long;"), (31, .class_ 272), (0, u "java/lang/Number"), (2, u "value"), (0, u "J"), (84, u "TYPE"), (0, u "Ljava/lang/Class;"), (0, .class_ 364), (0, u "java/lang/Comparable"), (0, .class_ 366), (0, u "java/lang/constant/Constable"), (0, .class_ 368), (0, u "java/lang/constant/ConstantDesc"), (0, u "MIN_VALUE"), (1, u "MAX_VALUE"), (4, u "SIZE"), (0, u "I"), (1, u "BYTES"), (1, u "serialVersionUID")] 142

def k7c0 : Code := { maxStack := 4, maxLocals := 3, code := jdk_35_method_24_code, exceptionTable := #[], attributes := #[] }
def k7m0 : Method := { name := "valueOf", desc := "(J)Ljava/lang/Long;", sig := { parameters := [.long], returnType := some (.object "java/lang/Long") }, accessFlags := 9, code := some k7c0 }
/-- java/lang/Long -/
def k7 : Class := { plain "java/lang/Long" (some 3) with
  accessFlags := 49
  interfaces := #[4, 5, 6]
  cf := some (fileOf pool7 1 #[.nestMembers #[235]] #[{ accessFlags := 9, nameIndex := 85, descriptorIndex := 229, attributes := #[] }] 49 271 #[363, 365, 367] #[{ accessFlags := 25, nameIndex := 369, descriptorIndex := 276, attributes := #[] }, { accessFlags := 25, nameIndex := 371, descriptorIndex := 276, attributes := #[] }, { accessFlags := 25, nameIndex := 361, descriptorIndex := 362, attributes := #[] }, { accessFlags := 18, nameIndex := 275, descriptorIndex := 276, attributes := #[] }, { accessFlags := 25, nameIndex := 376, descriptorIndex := 377, attributes := #[] }, { accessFlags := 25, nameIndex := 379, descriptorIndex := 377, attributes := #[] }, { accessFlags := 26, nameIndex := 381, descriptorIndex := 276, attributes := #[] }])
  fields := #[{ name := "MIN_VALUE", type := .long, accessFlags := 25, slot := 0, constantValue := 0 }, { name := "MAX_VALUE", type := .long, accessFlags := 25, slot := 1, constantValue := 0 }, { name := "TYPE", type := (.object "java/lang/Class"), accessFlags := 25, slot := 2, constantValue := 0 }, { name := "value", type := .long, accessFlags := 18, slot := 0, constantValue := 0 }, { name := "SIZE", type := .int, accessFlags := 25, slot := 3, constantValue := 0 }, { name := "BYTES", type := .int, accessFlags := 25, slot := 4, constantValue := 0 }, { name := "serialVersionUID", type := .long, accessFlags := 26, slot := 5, constantValue := 0 }]
  methods := #[k7m0]
  instanceTypes := #[.long]
  staticTypes := #[.long, .long, (.object "java/lang/Class"), .int, .int, .long]
  resolved := Array.replicate 524 none
  statics := none }

def pool8 : Array CpInfo := pool [(2, .class_ 4), (1, u "java/lang/Object"), (0, u "<init>"), (0, u "()V"), (0, .class_ 8), (0, u "java/lang/Long"), (7, .class_ 18), (1, u "java/lang/Long$LongCache"), (0, u "$assertionsDisabled"), (0, u "Z"), (8, u "archivedCache"), (0, u "[Ljava/lang/Long;"), (7, u "cache")] 24

def k8m0 : Method := { name := "<init>", desc := "()V", sig := { parameters := [], returnType := none }, accessFlags := 2, code := none }
/-- java/lang/Long$LongCache -/
def k8 : Class := { plain "java/lang/Long$LongCache" (some 0) with
  accessFlags := 48
  interfaces := #[]
  cf := some (fileOf pool8 16 #[.nestHost 7] #[{ accessFlags := 2, nameIndex := 5, descriptorIndex := 6, attributes := #[] }] 48 2 #[] #[{ accessFlags := 24, nameIndex := 38, descriptorIndex := 30, attributes := #[] }, { accessFlags := 8, nameIndex := 29, descriptorIndex := 30, attributes := #[] }, { accessFlags := 4120, nameIndex := 19, descriptorIndex := 20, attributes := #[] }])
  fields := #[{ name := "cache", type := (.array (.object "java/lang/Long")), accessFlags := 24, slot := 0, constantValue := 0 }, { name := "archivedCache", type := (.array (.object "java/lang/Long")), accessFlags := 8, slot := 1, constantValue := 0 }, { name := "$assertionsDisabled", type := .boolean, accessFlags := 4120, slot := 2, constantValue := 0 }]
  methods := #[k8m0]
  instanceTypes := #[]
  staticTypes := #[(.array (.object "java/lang/Long")), (.array (.object "java/lang/Long")), .boolean]
  resolved := Array.replicate 63 none
  statics := some 0 }

def pool9 : Array CpInfo := pool [(1, .methodref 2 3), (0, .class_ 4), (0, .nameAndType 5 6), (0, u "java/lang/Object"), (0, u "<init>"), (0, u "()V"), (0, .fieldref 8 9), (0, .class_ 10), (0, .nameAndType 11 12), (0, u "com/example/goalpost/goalpost/runtime/Structure"), (0, u "serial"), (0, u "I"), (8, u "(I)V")] 33

def k9c0 : Code := { maxStack := 2, maxLocals := 2, code := prog_96_method_1_code, exceptionTable := #[], attributes := #[] }
def k9m0 : Method := { name := "<init>", desc := "(I)V", sig := { parameters := [.int], returnType := none }, accessFlags := 0, code := some k9c0 }
/-- com/example/goalpost/goalpost/runtime/Structure -/
def k9 : Class := { plain "com/example/goalpost/goalpost/runtime/Structure" (some 0) with
  accessFlags := 1056
  interfaces := #[]
  cf := some (fileOf pool9 8 #[] #[{ accessFlags := 0, nameIndex := 5, descriptorIndex := 21, attributes := #[] }] 1056 2 #[] #[{ accessFlags := 16, nameIndex := 11, descriptorIndex := 12, attributes := #[] }])
  fields := #[{ name := "serial", type := .int, accessFlags := 16, slot := 0, constantValue := 0 }]
  methods := #[k9m0]
  instanceTypes := #[.int]
  staticTypes := #[]
  resolved := Array.replicate 55 none
  statics := none }

def pool10 : Array CpInfo := pool [(1, .methodref 2 3), (0, .class_ 4), (0, .nameAndType 5 6), (0, u "com/example/goalpost/goalpost/runtime/Structure"), (0, u "<init>"), (0, u "(I)V"), (0, .methodref 8 9), (0, .class_ 10), (0, .nameAndType 11 12), (0, u "java/lang/Math"), (0, u "max"), (0, u "(II)I"), (0, .class_ 14), (0, u "com/example/goalpost/goalpost/runtime/Cell"), (0, .fieldref 16 17), (0, .class_ 18), (0, .nameAndType 19 20), (0, u "com/example/goalpost/goalpost/runtime/ListValue"), (0, u "ring"), (0, u "[Lcom/example/goalpost/goalpost/runtime/Cell;"), (0, .fieldref 16 22), (0, .nameAndType 23 24), (0, u "size"), (0, u "I"), (0, .fieldref 16 26), (0, .nameAndType 27 24), (0, u "front"), (6, .methodref 16 35), (0, .nameAndType 36 37), (0, u "at"), (0, u "(I)Lcom/example/goalpost/goalpost/runtime/Cell;"), (0, .methodref 16 39), (0, .nameAndType 40 41), (0, u "grow"), (0, u "()V"), (0, .methodref 13 43), (0, .nameAndType 5 44), (0, u "(Ljava/lang/Object;)V"), (0, .methodref 13 46), (0, .nameAndType 47 48), (0, u "get"), (0, u "()Ljava/lang/Object;"), (29, u "put"), (4, u "(II)V"), (5, u "push"), (0, u "pull")] 30

def k10c0 : Code := { maxStack := 3, maxLocals := 3, code := prog_46_method_1_code, exceptionTable := #[], attributes := #[] }
def k10m0 : Method := { name := "<init>", desc := "(II)V", sig := { parameters := [.int, .int], returnType := none }, accessFlags := 0, code := some k10c0 }
def k10c1 : Code := { maxStack := 3, maxLocals := 2, code := prog_46_method_3_code, exceptionTable := #[], attributes := #[] }
def k10m1 : Method := { name := "at", desc := "(I)Lcom/example/goalpost/goalpost/runtime/Cell;", sig := { parameters := [.int], returnType := some (.object "com/example/goalpost/goalpost/runtime/Cell") }, accessFlags := 0, code := some k10c1 }
def k10c2 : Code := { maxStack := 5, maxLocals := 2, code := prog_46_method_5_code, exceptionTable := #[], attributes := #[] }
def k10m2 : Method := { name := "put", desc := "(Ljava/lang/Object;)V", sig := { parameters := [(.object "java/lang/Object")], returnType := none }, accessFlags := 0, code := some k10c2 }
def k10c3 : Code := { maxStack := 5, maxLocals := 2, code := prog_46_method_6_code, exceptionTable := #[], attributes := #[] }
def k10m3 : Method := { name := "push", desc := "(Ljava/lang/Object;)V", sig := { parameters := [(.object "java/lang/Object")], returnType := none }, accessFlags := 0, code := some k10c3 }
def k10c4 : Code := { maxStack := 3, maxLocals := 2, code := prog_46_method_7_code, exceptionTable := #[], attributes := #[] }
def k10m4 : Method := { name := "get", desc := "()Ljava/lang/Object;", sig := { parameters := [], returnType := some (.object "java/lang/Object") }, accessFlags := 0, code := some k10c4 }
def k10c5 : Code := { maxStack := 3, maxLocals := 3, code := prog_46_method_8_code, exceptionTable := #[], attributes := #[] }
def k10m5 : Method := { name := "pull", desc := "()Ljava/lang/Object;", sig := { parameters := [], returnType := some (.object "java/lang/Object") }, accessFlags := 0, code := some k10c5 }
def k10c6 : Code := { maxStack := 4, maxLocals := 3, code := prog_46_method_14_code, exceptionTable := #[], attributes := #[] }
def k10m6 : Method := { name := "grow", desc := "()V", sig := { parameters := [], returnType := none }, accessFlags := 2, code := some k10c6 }
/-- com/example/goalpost/goalpost/runtime/ListValue -/
def k10 : Class := { plain "com/example/goalpost/goalpost/runtime/ListValue" (some 9) with
  accessFlags := 48
  interfaces := #[]
  cf := some (fileOf pool10 16 #[] #[{ accessFlags := 0, nameIndex := 5, descriptorIndex := 83, attributes := #[] }, { accessFlags := 0, nameIndex := 36, descriptorIndex := 37, attributes := #[] }, { accessFlags := 0, nameIndex := 78, descriptorIndex := 44, attributes := #[] }, { accessFlags := 0, nameIndex := 89, descriptorIndex := 44, attributes := #[] }, { accessFlags := 0, nameIndex := 47, descriptorIndex := 48, attributes := #[] }, { accessFlags := 0, nameIndex := 90, descriptorIndex := 48, attributes := #[] }, { accessFlags := 2, nameIndex := 40, descriptorIndex := 41, attributes := #[] }] 48 2 #[] #[{ accessFlags := 2, nameIndex := 19, descriptorIndex := 20, attributes := #[] }, { accessFlags := 2, nameIndex := 27, descriptorIndex := 24, attributes := #[] }, { accessFlags := 2, nameIndex := 23, descriptorIndex := 24, attributes := #[] }])
  fields := #[{ name := "ring", type := (.array (.object "com/example/goalpost/goalpost/runtime/Cell")), accessFlags := 2, slot := 1, constantValue := 0 }, { name := "front", type := .int, accessFlags := 2, slot := 2, constantValue := 0 }, { name := "size", type := .int, accessFlags := 2, slot := 3, constantValue := 0 }]
  methods := #[k10m0, k10m1, k10m2, k10m3, k10m4, k10m5, k10m6]
  instanceTypes := #[.int, (.array (.object "com/example/goalpost/goalpost/runtime/Cell")), .int, .int]
  staticTypes := #[]
  resolved := Array.replicate 121 none
  statics := none }

def pool11 : Array CpInfo := pool [(1, .class_ 2), (0, u "java/lang/Math"), (1, .class_ 6), (1, u "java/lang/Object"), (0, u "<init>"), (0, u "()V"), (89, .class_ 100), (1, u "java/lang/Math$RandomNumberGeneratorHolder"), (71, u "negativeZeroFloatBits"), (0, u "J"), (2, u "negativeZeroDoubleBits"), (21, u "max"), (46, u "$assertionsDisabled"), (0, u "Z"), (88, u "(II)I"), (2, u "twoToTheDoubleScaleDown"), (0, u "D"), (4, u "twoToTheDoubleScaleUp"), (9, u "E"), (3, u "PI"), (2, u "TAU"), (2, u "DEGREES_TO_RADIANS"), (0, u "RADIANS_TO_DEGREES")] 94

def k11m0 : Method := { name := "<init>", desc := "()V", sig := { parameters := [], returnType := none }, accessFlags := 2, code := none }
def k11c1 : Code := { maxStack := 2, maxLocals := 2, code := jdk_29_method_65_code, exceptionTable := #[], attributes := #[] }
def k11m1 : Method := { name := "max", desc := "(II)I", sig := { parameters := [.int, .int], returnType := some .int }, accessFlags := 9, code := some k11c1 }
/-- java/lang/Math -/
def k11 : Class := { plain "java/lang/Math" (some 0) with
  accessFlags := 49
  interfaces := #[]
  cf := some (fileOf pool11 1 #[.nestMembers #[98]] #[{ accessFlags := 2, nameIndex := 7, descriptorIndex := 8, attributes := #[] }, { accessFlags := 9, nameIndex := 198, descriptorIndex := 335, attributes := #[] }] 49 4 #[] #[{ accessFlags := 25, nameIndex := 354, descriptorIndex := 339, attributes := #[] }, { accessFlags := 25, nameIndex := 358, descriptorIndex := 339, attributes := #[] }, { accessFlags := 25, nameIndex := 361, descriptorIndex := 339, attributes := #[] }, { accessFlags := 26, nameIndex := 364, descriptorIndex := 339, attributes := #[] }, { accessFlags := 26, nameIndex := 365, descriptorIndex := 339, attributes := #[] }, { accessFlags := 26, nameIndex := 172, descriptorIndex := 173, attributes := #[] }, { accessFlags := 26, nameIndex := 176, descriptorIndex := 173, attributes := #[] }, { accessFlags := 8, nameIndex := 344, descriptorIndex := 339, attributes := #[] }, { accessFlags := 8, nameIndex := 338, descriptorIndex := 339, attributes := #[] }, { accessFlags := 4120, nameIndex := 245, descriptorIndex := 246, attributes := #[] }])
  fields := #[{ name := "E", type := .double, accessFlags := 25, slot := 0, constantValue := 0 }, { name := "PI", type := .double, accessFlags := 25, slot := 1, constantValue := 0 }, { name := "TAU", type := .double, accessFlags := 25, slot := 2, constantValue := 0 }, { name := "DEGREES_TO_RADIANS", type := .double, accessFlags := 26, slot := 3, constantValue := 0 }, { name := "RADIANS_TO_DEGREES", type := .double, accessFlags := 26, slot := 4, constantValue := 0 }, { name := "negativeZeroFloatBits", type := .long, accessFlags := 26, slot := 5, constantValue := 0 }, { name := "negativeZeroDoubleBits", type := .long, accessFlags := 26, slot := 6, constantValue := 0 }, { name := "twoToTheDoubleScaleUp", type := .double, accessFlags := 8, slot := 7, constantValue := 0 }, { name := "twoToTheDoubleScaleDown", type := .double, accessFlags := 8, slot := 8, constantValue := 0 }, { name := "$assertionsDisabled", type := .boolean, accessFlags := 4120, slot := 9, constantValue := 0 }]
  methods := #[k11m0, k11m1]
  instanceTypes := #[]
  staticTypes := #[.double, .double, .double, .double, .double, .long, .long, .double, .double, .boolean]
  resolved := Array.replicate 460 none
  statics := none }

def pool12 : Array CpInfo := pool [(1, .methodref 2 3), (0, .class_ 4), (0, .nameAndType 5 6), (0, u "java/lang/Object"), (0, u "<init>"), (0, u "()V"), (1, .class_ 10), (1, u "com/example/goalpost/goalpost/runtime/Variable")] 17

def k12c0 : Code := { maxStack := 1, maxLocals := 1, code := prog_119_method_1_code, exceptionTable := #[], attributes := #[] }
def k12m0 : Method := { name := "<init>", desc := "()V", sig := { parameters := [], returnType := none }, accessFlags := 0, code := some k12c0 }
/-- com/example/goalpost/goalpost/runtime/Variable -/
def k12 : Class := { plain "com/example/goalpost/goalpost/runtime/Variable" (some 0) with
  accessFlags := 1056
  interfaces := #[]
  cf := some (fileOf pool12 8 #[] #[{ accessFlags := 0, nameIndex := 5, descriptorIndex := 6, attributes := #[] }] 1056 2 #[] #[])
  fields := #[]
  methods := #[k12m0]
  instanceTypes := #[]
  staticTypes := #[]
  resolved := Array.replicate 28 none
  statics := none }

def pool13 : Array CpInfo := pool [(1, .methodref 2 3), (0, .class_ 4), (0, .nameAndType 5 6), (0, u "com/example/goalpost/goalpost/runtime/Variable"), (0, u "<init>"), (0, u "()V"), (0, .fieldref 8 9), (0, .class_ 10), (0, .nameAndType 11 12), (0, u "com/example/goalpost/goalpost/runtime/Cell"), (0, u "value"), (0, u "Ljava/lang/Object;"), (0, u "(Ljava/lang/Object;)V"), (2, u "get"), (0, u "()Ljava/lang/Object;")] 4

def k13c0 : Code := { maxStack := 2, maxLocals := 2, code := prog_16_method_1_code, exceptionTable := #[], attributes := #[] }
def k13m0 : Method := { name := "<init>", desc := "(Ljava/lang/Object;)V", sig := { parameters := [(.object "java/lang/Object")], returnType := none }, accessFlags := 0, code := some k13c0 }
def k13c1 : Code := { maxStack := 1, maxLocals := 1, code := prog_16_method_2_code, exceptionTable := #[], attributes := #[] }
def k13m1 : Method := { name := "get", desc := "()Ljava/lang/Object;", sig := { parameters := [], returnType := some (.object "java/lang/Object") }, accessFlags := 0, code := some k13c1 }
/-- com/example/goalpost/goalpost/runtime/Cell -/
def k13 : Class := { plain "com/example/goalpost/goalpost/runtime/Cell" (some 12) with
  accessFlags := 48
  interfaces := #[]
  cf := some (fileOf pool13 8 #[] #[{ accessFlags := 0, nameIndex := 5, descriptorIndex := 13, attributes := #[] }, { accessFlags := 0, nameIndex := 16, descriptorIndex := 17, attributes := #[] }] 48 2 #[] #[{ accessFlags := 2, nameIndex := 11, descriptorIndex := 12, attributes := #[] }])
  fields := #[{ name := "value", type := (.object "java/lang/Object"), accessFlags := 2, slot := 0, constantValue := 0 }]
  methods := #[k13m0, k13m1]
  instanceTypes := #[(.object "java/lang/Object")]
  staticTypes := #[]
  resolved := Array.replicate 22 none
  statics := none }

def pool14 : Array CpInfo := pool [(1, u "java/lang/Cloneable"), (0, .class_ 1), (0, u "java/lang/Object"), (0, .class_ 3)] 3

/-- java/lang/Cloneable -/
def k14 : Class := { plain "java/lang/Cloneable" (some 0) with
  accessFlags := 1537
  interfaces := #[]
  cf := some (fileOf pool14 2 #[] #[] 1537 4 #[] #[])
  fields := #[]
  methods := #[]
  instanceTypes := #[]
  staticTypes := #[]
  resolved := Array.replicate 8 none
  statics := none }

/-- the primitive byte -/
def k15 : Class := { plain "byte" none with kind := .primitive 'B', accessFlags := 0x411 }
/-- [B -/
def k16 : Class := { plain "[B" (some 0) with kind := .array 15 .byte, interfaces := #[14, 2], accessFlags := 1041 }

/-- the primitive int -/
def k17 : Class := { plain "int" none with kind := .primitive 'I', accessFlags := 0x411 }
/-- [I -/
def k18 : Class := { plain "[I" (some 0) with kind := .array 17 .int, interfaces := #[14, 2], accessFlags := 1041 }

/-- [Lcom/example/goalpost/goalpost/runtime/Cell; -/
def k19 : Class := { plain "[Lcom/example/goalpost/goalpost/runtime/Cell;" (some 0) with kind := .array 13 (.object "com/example/goalpost/goalpost/runtime/Cell"), interfaces := #[14, 2], accessFlags := 1041 }

/-- [Ljava/lang/Long; -/
def k20 : Class := { plain "[Ljava/lang/Long;" (some 0) with kind := .array 7 (.object "java/lang/Long"), interfaces := #[14, 2], accessFlags := 1041 }

/-- [Ljava/lang/Object; -/
def k21 : Class := { plain "[Ljava/lang/Object;" (some 0) with kind := .array 0 (.object "java/lang/Object"), interfaces := #[14, 2], accessFlags := 1041 }

def heap : Heap := #[{ cls := 8, slots := #[.ref 1, .null, .int 0], vm := .statics 8 },
  { cls := 20, slots := #[.ref 2, .ref 3, .ref 4, .ref 5, .ref 6, .ref 7, .ref 8, .ref 9, .ref 10, .ref 11, .ref 12, .ref 13, .ref 14, .ref 15, .ref 16, .ref 17, .ref 18, .ref 19, .ref 20, .ref 21, .ref 22, .ref 23, .ref 24, .ref 25, .ref 26, .ref 27, .ref 28, .ref 29, .ref 30, .ref 31, .ref 32, .ref 33, .ref 34, .ref 35, .ref 36, .ref 37, .ref 38, .ref 39, .ref 40, .ref 41, .ref 42, .ref 43, .ref 44, .ref 45, .ref 46, .ref 47, .ref 48, .ref 49, .ref 50, .ref 51, .ref 52, .ref 53, .ref 54, .ref 55, .ref 56, .ref 57, .ref 58, .ref 59, .ref 60, .ref 61, .ref 62, .ref 63, .ref 64, .ref 65, .ref 66, .ref 67, .ref 68, .ref 69, .ref 70, .ref 71, .ref 72, .ref 73, .ref 74, .ref 75, .ref 76, .ref 77, .ref 78, .ref 79, .ref 80, .ref 81, .ref 82, .ref 83, .ref 84, .ref 85, .ref 86, .ref 87, .ref 88, .ref 89, .ref 90, .ref 91, .ref 92, .ref 93, .ref 94, .ref 95, .ref 96, .ref 97, .ref 98, .ref 99, .ref 100, .ref 101, .ref 102, .ref 103, .ref 104, .ref 105, .ref 106, .ref 107, .ref 108, .ref 109, .ref 110, .ref 111, .ref 112, .ref 113, .ref 114, .ref 115, .ref 116, .ref 117, .ref 118, .ref 119, .ref 120, .ref 121, .ref 122, .ref 123, .ref 124, .ref 125, .ref 126, .ref 127, .ref 128, .ref 129, .ref 130, .ref 131, .ref 132, .ref 133, .ref 134, .ref 135, .ref 136, .ref 137, .ref 138, .ref 139, .ref 140, .ref 141, .ref 142, .ref 143, .ref 144, .ref 145, .ref 146, .ref 147, .ref 148, .ref 149, .ref 150, .ref 151, .ref 152, .ref 153, .ref 154, .ref 155, .ref 156, .ref 157, .ref 158, .ref 159, .ref 160, .ref 161, .ref 162, .ref 163, .ref 164, .ref 165, .ref 166, .ref 167, .ref 168, .ref 169, .ref 170, .ref 171, .ref 172, .ref 173, .ref 174, .ref 175, .ref 176, .ref 177, .ref 178, .ref 179, .ref 180, .ref 181, .ref 182, .ref 183, .ref 184, .ref 185, .ref 186, .ref 187, .ref 188, .ref 189, .ref 190, .ref 191, .ref 192, .ref 193, .ref 194, .ref 195, .ref 196, .ref 197, .ref 198, .ref 199, .ref 200, .ref 201, .ref 202, .ref 203, .ref 204, .ref 205, .ref 206, .ref 207, .ref 208, .ref 209, .ref 210, .ref 211, .ref 212, .ref 213, .ref 214, .ref 215, .ref 216, .ref 217, .ref 218, .ref 219, .ref 220, .ref 221, .ref 222, .ref 223, .ref 224, .ref 225, .ref 226, .ref 227, .ref 228, .ref 229, .ref 230, .ref 231, .ref 232, .ref 233, .ref 234, .ref 235, .ref 236, .ref 237, .ref 238, .ref 239, .ref 240, .ref 241, .ref 242, .ref 243, .ref 244, .ref 245, .ref 246, .ref 247, .ref 248, .ref 249, .ref 250, .ref 251, .ref 252, .ref 253, .ref 254, .ref 255, .ref 256, .ref 257], vm := .none },
  { cls := 7, slots := #[.long (-128)], vm := .none },
  { cls := 7, slots := #[.long (-127)], vm := .none },
  { cls := 7, slots := #[.long (-126)], vm := .none },
  { cls := 7, slots := #[.long (-125)], vm := .none },
  { cls := 7, slots := #[.long (-124)], vm := .none },
  { cls := 7, slots := #[.long (-123)], vm := .none },
  { cls := 7, slots := #[.long (-122)], vm := .none },
  { cls := 7, slots := #[.long (-121)], vm := .none },
  { cls := 7, slots := #[.long (-120)], vm := .none },
  { cls := 7, slots := #[.long (-119)], vm := .none },
  { cls := 7, slots := #[.long (-118)], vm := .none },
  { cls := 7, slots := #[.long (-117)], vm := .none },
  { cls := 7, slots := #[.long (-116)], vm := .none },
  { cls := 7, slots := #[.long (-115)], vm := .none },
  { cls := 7, slots := #[.long (-114)], vm := .none },
  { cls := 7, slots := #[.long (-113)], vm := .none },
  { cls := 7, slots := #[.long (-112)], vm := .none },
  { cls := 7, slots := #[.long (-111)], vm := .none },
  { cls := 7, slots := #[.long (-110)], vm := .none },
  { cls := 7, slots := #[.long (-109)], vm := .none },
  { cls := 7, slots := #[.long (-108)], vm := .none },
  { cls := 7, slots := #[.long (-107)], vm := .none },
  { cls := 7, slots := #[.long (-106)], vm := .none },
  { cls := 7, slots := #[.long (-105)], vm := .none },
  { cls := 7, slots := #[.long (-104)], vm := .none },
  { cls := 7, slots := #[.long (-103)], vm := .none },
  { cls := 7, slots := #[.long (-102)], vm := .none },
  { cls := 7, slots := #[.long (-101)], vm := .none },
  { cls := 7, slots := #[.long (-100)], vm := .none },
  { cls := 7, slots := #[.long (-99)], vm := .none },
  { cls := 7, slots := #[.long (-98)], vm := .none },
  { cls := 7, slots := #[.long (-97)], vm := .none },
  { cls := 7, slots := #[.long (-96)], vm := .none },
  { cls := 7, slots := #[.long (-95)], vm := .none },
  { cls := 7, slots := #[.long (-94)], vm := .none },
  { cls := 7, slots := #[.long (-93)], vm := .none },
  { cls := 7, slots := #[.long (-92)], vm := .none },
  { cls := 7, slots := #[.long (-91)], vm := .none },
  { cls := 7, slots := #[.long (-90)], vm := .none },
  { cls := 7, slots := #[.long (-89)], vm := .none },
  { cls := 7, slots := #[.long (-88)], vm := .none },
  { cls := 7, slots := #[.long (-87)], vm := .none },
  { cls := 7, slots := #[.long (-86)], vm := .none },
  { cls := 7, slots := #[.long (-85)], vm := .none },
  { cls := 7, slots := #[.long (-84)], vm := .none },
  { cls := 7, slots := #[.long (-83)], vm := .none },
  { cls := 7, slots := #[.long (-82)], vm := .none },
  { cls := 7, slots := #[.long (-81)], vm := .none },
  { cls := 7, slots := #[.long (-80)], vm := .none },
  { cls := 7, slots := #[.long (-79)], vm := .none },
  { cls := 7, slots := #[.long (-78)], vm := .none },
  { cls := 7, slots := #[.long (-77)], vm := .none },
  { cls := 7, slots := #[.long (-76)], vm := .none },
  { cls := 7, slots := #[.long (-75)], vm := .none },
  { cls := 7, slots := #[.long (-74)], vm := .none },
  { cls := 7, slots := #[.long (-73)], vm := .none },
  { cls := 7, slots := #[.long (-72)], vm := .none },
  { cls := 7, slots := #[.long (-71)], vm := .none },
  { cls := 7, slots := #[.long (-70)], vm := .none },
  { cls := 7, slots := #[.long (-69)], vm := .none },
  { cls := 7, slots := #[.long (-68)], vm := .none },
  { cls := 7, slots := #[.long (-67)], vm := .none },
  { cls := 7, slots := #[.long (-66)], vm := .none },
  { cls := 7, slots := #[.long (-65)], vm := .none },
  { cls := 7, slots := #[.long (-64)], vm := .none },
  { cls := 7, slots := #[.long (-63)], vm := .none },
  { cls := 7, slots := #[.long (-62)], vm := .none },
  { cls := 7, slots := #[.long (-61)], vm := .none },
  { cls := 7, slots := #[.long (-60)], vm := .none },
  { cls := 7, slots := #[.long (-59)], vm := .none },
  { cls := 7, slots := #[.long (-58)], vm := .none },
  { cls := 7, slots := #[.long (-57)], vm := .none },
  { cls := 7, slots := #[.long (-56)], vm := .none },
  { cls := 7, slots := #[.long (-55)], vm := .none },
  { cls := 7, slots := #[.long (-54)], vm := .none },
  { cls := 7, slots := #[.long (-53)], vm := .none },
  { cls := 7, slots := #[.long (-52)], vm := .none },
  { cls := 7, slots := #[.long (-51)], vm := .none },
  { cls := 7, slots := #[.long (-50)], vm := .none },
  { cls := 7, slots := #[.long (-49)], vm := .none },
  { cls := 7, slots := #[.long (-48)], vm := .none },
  { cls := 7, slots := #[.long (-47)], vm := .none },
  { cls := 7, slots := #[.long (-46)], vm := .none },
  { cls := 7, slots := #[.long (-45)], vm := .none },
  { cls := 7, slots := #[.long (-44)], vm := .none },
  { cls := 7, slots := #[.long (-43)], vm := .none },
  { cls := 7, slots := #[.long (-42)], vm := .none },
  { cls := 7, slots := #[.long (-41)], vm := .none },
  { cls := 7, slots := #[.long (-40)], vm := .none },
  { cls := 7, slots := #[.long (-39)], vm := .none },
  { cls := 7, slots := #[.long (-38)], vm := .none },
  { cls := 7, slots := #[.long (-37)], vm := .none },
  { cls := 7, slots := #[.long (-36)], vm := .none },
  { cls := 7, slots := #[.long (-35)], vm := .none },
  { cls := 7, slots := #[.long (-34)], vm := .none },
  { cls := 7, slots := #[.long (-33)], vm := .none },
  { cls := 7, slots := #[.long (-32)], vm := .none },
  { cls := 7, slots := #[.long (-31)], vm := .none },
  { cls := 7, slots := #[.long (-30)], vm := .none },
  { cls := 7, slots := #[.long (-29)], vm := .none },
  { cls := 7, slots := #[.long (-28)], vm := .none },
  { cls := 7, slots := #[.long (-27)], vm := .none },
  { cls := 7, slots := #[.long (-26)], vm := .none },
  { cls := 7, slots := #[.long (-25)], vm := .none },
  { cls := 7, slots := #[.long (-24)], vm := .none },
  { cls := 7, slots := #[.long (-23)], vm := .none },
  { cls := 7, slots := #[.long (-22)], vm := .none },
  { cls := 7, slots := #[.long (-21)], vm := .none },
  { cls := 7, slots := #[.long (-20)], vm := .none },
  { cls := 7, slots := #[.long (-19)], vm := .none },
  { cls := 7, slots := #[.long (-18)], vm := .none },
  { cls := 7, slots := #[.long (-17)], vm := .none },
  { cls := 7, slots := #[.long (-16)], vm := .none },
  { cls := 7, slots := #[.long (-15)], vm := .none },
  { cls := 7, slots := #[.long (-14)], vm := .none },
  { cls := 7, slots := #[.long (-13)], vm := .none },
  { cls := 7, slots := #[.long (-12)], vm := .none },
  { cls := 7, slots := #[.long (-11)], vm := .none },
  { cls := 7, slots := #[.long (-10)], vm := .none },
  { cls := 7, slots := #[.long (-9)], vm := .none },
  { cls := 7, slots := #[.long (-8)], vm := .none },
  { cls := 7, slots := #[.long (-7)], vm := .none },
  { cls := 7, slots := #[.long (-6)], vm := .none },
  { cls := 7, slots := #[.long (-5)], vm := .none },
  { cls := 7, slots := #[.long (-4)], vm := .none },
  { cls := 7, slots := #[.long (-3)], vm := .none },
  { cls := 7, slots := #[.long (-2)], vm := .none },
  { cls := 7, slots := #[.long (-1)], vm := .none },
  { cls := 7, slots := #[.long 0], vm := .none },
  { cls := 7, slots := #[.long 1], vm := .none },
  { cls := 7, slots := #[.long 2], vm := .none },
  { cls := 7, slots := #[.long 3], vm := .none },
  { cls := 7, slots := #[.long 4], vm := .none },
  { cls := 7, slots := #[.long 5], vm := .none },
  { cls := 7, slots := #[.long 6], vm := .none },
  { cls := 7, slots := #[.long 7], vm := .none },
  { cls := 7, slots := #[.long 8], vm := .none },
  { cls := 7, slots := #[.long 9], vm := .none },
  { cls := 7, slots := #[.long 10], vm := .none },
  { cls := 7, slots := #[.long 11], vm := .none },
  { cls := 7, slots := #[.long 12], vm := .none },
  { cls := 7, slots := #[.long 13], vm := .none },
  { cls := 7, slots := #[.long 14], vm := .none },
  { cls := 7, slots := #[.long 15], vm := .none },
  { cls := 7, slots := #[.long 16], vm := .none },
  { cls := 7, slots := #[.long 17], vm := .none },
  { cls := 7, slots := #[.long 18], vm := .none },
  { cls := 7, slots := #[.long 19], vm := .none },
  { cls := 7, slots := #[.long 20], vm := .none },
  { cls := 7, slots := #[.long 21], vm := .none },
  { cls := 7, slots := #[.long 22], vm := .none },
  { cls := 7, slots := #[.long 23], vm := .none },
  { cls := 7, slots := #[.long 24], vm := .none },
  { cls := 7, slots := #[.long 25], vm := .none },
  { cls := 7, slots := #[.long 26], vm := .none },
  { cls := 7, slots := #[.long 27], vm := .none },
  { cls := 7, slots := #[.long 28], vm := .none },
  { cls := 7, slots := #[.long 29], vm := .none },
  { cls := 7, slots := #[.long 30], vm := .none },
  { cls := 7, slots := #[.long 31], vm := .none },
  { cls := 7, slots := #[.long 32], vm := .none },
  { cls := 7, slots := #[.long 33], vm := .none },
  { cls := 7, slots := #[.long 34], vm := .none },
  { cls := 7, slots := #[.long 35], vm := .none },
  { cls := 7, slots := #[.long 36], vm := .none },
  { cls := 7, slots := #[.long 37], vm := .none },
  { cls := 7, slots := #[.long 38], vm := .none },
  { cls := 7, slots := #[.long 39], vm := .none },
  { cls := 7, slots := #[.long 40], vm := .none },
  { cls := 7, slots := #[.long 41], vm := .none },
  { cls := 7, slots := #[.long 42], vm := .none },
  { cls := 7, slots := #[.long 43], vm := .none },
  { cls := 7, slots := #[.long 44], vm := .none },
  { cls := 7, slots := #[.long 45], vm := .none },
  { cls := 7, slots := #[.long 46], vm := .none },
  { cls := 7, slots := #[.long 47], vm := .none },
  { cls := 7, slots := #[.long 48], vm := .none },
  { cls := 7, slots := #[.long 49], vm := .none },
  { cls := 7, slots := #[.long 50], vm := .none },
  { cls := 7, slots := #[.long 51], vm := .none },
  { cls := 7, slots := #[.long 52], vm := .none },
  { cls := 7, slots := #[.long 53], vm := .none },
  { cls := 7, slots := #[.long 54], vm := .none },
  { cls := 7, slots := #[.long 55], vm := .none },
  { cls := 7, slots := #[.long 56], vm := .none },
  { cls := 7, slots := #[.long 57], vm := .none },
  { cls := 7, slots := #[.long 58], vm := .none },
  { cls := 7, slots := #[.long 59], vm := .none },
  { cls := 7, slots := #[.long 60], vm := .none },
  { cls := 7, slots := #[.long 61], vm := .none },
  { cls := 7, slots := #[.long 62], vm := .none },
  { cls := 7, slots := #[.long 63], vm := .none },
  { cls := 7, slots := #[.long 64], vm := .none },
  { cls := 7, slots := #[.long 65], vm := .none },
  { cls := 7, slots := #[.long 66], vm := .none },
  { cls := 7, slots := #[.long 67], vm := .none },
  { cls := 7, slots := #[.long 68], vm := .none },
  { cls := 7, slots := #[.long 69], vm := .none },
  { cls := 7, slots := #[.long 70], vm := .none },
  { cls := 7, slots := #[.long 71], vm := .none },
  { cls := 7, slots := #[.long 72], vm := .none },
  { cls := 7, slots := #[.long 73], vm := .none },
  { cls := 7, slots := #[.long 74], vm := .none },
  { cls := 7, slots := #[.long 75], vm := .none },
  { cls := 7, slots := #[.long 76], vm := .none },
  { cls := 7, slots := #[.long 77], vm := .none },
  { cls := 7, slots := #[.long 78], vm := .none },
  { cls := 7, slots := #[.long 79], vm := .none },
  { cls := 7, slots := #[.long 80], vm := .none },
  { cls := 7, slots := #[.long 81], vm := .none },
  { cls := 7, slots := #[.long 82], vm := .none },
  { cls := 7, slots := #[.long 83], vm := .none },
  { cls := 7, slots := #[.long 84], vm := .none },
  { cls := 7, slots := #[.long 85], vm := .none },
  { cls := 7, slots := #[.long 86], vm := .none },
  { cls := 7, slots := #[.long 87], vm := .none },
  { cls := 7, slots := #[.long 88], vm := .none },
  { cls := 7, slots := #[.long 89], vm := .none },
  { cls := 7, slots := #[.long 90], vm := .none },
  { cls := 7, slots := #[.long 91], vm := .none },
  { cls := 7, slots := #[.long 92], vm := .none },
  { cls := 7, slots := #[.long 93], vm := .none },
  { cls := 7, slots := #[.long 94], vm := .none },
  { cls := 7, slots := #[.long 95], vm := .none },
  { cls := 7, slots := #[.long 96], vm := .none },
  { cls := 7, slots := #[.long 97], vm := .none },
  { cls := 7, slots := #[.long 98], vm := .none },
  { cls := 7, slots := #[.long 99], vm := .none },
  { cls := 7, slots := #[.long 100], vm := .none },
  { cls := 7, slots := #[.long 101], vm := .none },
  { cls := 7, slots := #[.long 102], vm := .none },
  { cls := 7, slots := #[.long 103], vm := .none },
  { cls := 7, slots := #[.long 104], vm := .none },
  { cls := 7, slots := #[.long 105], vm := .none },
  { cls := 7, slots := #[.long 106], vm := .none },
  { cls := 7, slots := #[.long 107], vm := .none },
  { cls := 7, slots := #[.long 108], vm := .none },
  { cls := 7, slots := #[.long 109], vm := .none },
  { cls := 7, slots := #[.long 110], vm := .none },
  { cls := 7, slots := #[.long 111], vm := .none },
  { cls := 7, slots := #[.long 112], vm := .none },
  { cls := 7, slots := #[.long 113], vm := .none },
  { cls := 7, slots := #[.long 114], vm := .none },
  { cls := 7, slots := #[.long 115], vm := .none },
  { cls := 7, slots := #[.long 116], vm := .none },
  { cls := 7, slots := #[.long 117], vm := .none },
  { cls := 7, slots := #[.long 118], vm := .none },
  { cls := 7, slots := #[.long 119], vm := .none },
  { cls := 7, slots := #[.long 120], vm := .none },
  { cls := 7, slots := #[.long 121], vm := .none },
  { cls := 7, slots := #[.long 122], vm := .none },
  { cls := 7, slots := #[.long 123], vm := .none },
  { cls := 7, slots := #[.long 124], vm := .none },
  { cls := 7, slots := #[.long 125], vm := .none },
  { cls := 7, slots := #[.long 126], vm := .none },
  { cls := 7, slots := #[.long 127], vm := .none }]
def classes : Array Class := #[k0, k1, k2, k3, k4, k5, k6, k7, k8, k9, k10, k11, k12, k13, k14, k15, k16, k17, k18, k19, k20, k21]
def interned : List (Array UInt16 × Addr) := []
def slotsUsed : Nat := 515
def theMethod : MethodId := ⟨1, 1⟩
def args0 : Array Value := #[.int 5, .int 3, .int 4, .int 6]
def aboutOver (below : List Frame) : State where
  vm := { classes := classes, interned := interned.toArray }
  heap := heap
  slotsUsed := slotsUsed
  threads := #[{ frames := .invoking theMethod args0 :: below }]
def below0 : List Frame := [.native { method := ⟨0, 0⟩, args := #[] }]
def about1 : State := aboutOver below0
def p0 : Program := .bare "" "" ""
def e0 : Env := launch0.env 0 0 0
theorem w_frames : about1.frames = Frame.invoking theMethod args0 :: below0 := rfl
set_option maxRecDepth 65536 in
theorem w_args : argsFit about1.vm theMethod args0 = true := by decide +kernel
set_option maxRecDepth 65536 in
theorem w_heap : heapFits about1 = true := by decide +kernel
set_option maxRecDepth 65536 in
theorem w_runnable : about1.curStatus? = some .runnable := by decide +kernel
set_option maxRecDepth 65536 in
theorem w_alone : about1.alone = true := by decide +kernel
set_option maxRecDepth 65536 in
theorem w_named : about1.methodNamed? x = some theMethod := by decide +kernel
set_option maxRecDepth 65536 in
theorem w_hears : about1.hears theMethod below0 = true := by decide +kernel
set_option maxRecDepth 65536 in
theorem w_ripe : about1.ripe theMethod args0 below0 = true := by decide +kernel
theorem w_running : about1.status = .running := rfl
set_option maxRecDepth 65536 in
theorem w_room : about1.hasRoom e0.platform room_1 = true :=
  launch0.hasRoom_least _ room_1 (by decide +kernel) (by decide +kernel) (by decide +kernel) (by decide +kernel) (by decide +kernel) (by decide +kernel)
theorem allAtoms_all (ts : List Jvm.Cond) (a : Array Jvm.Value) (st : Jvm.State) : (allAtoms ts).before a st = ts.all (fun c => c.before a st) := by
  induction ts with
  | nil => rfl
  | cons c t ih =>
    show (Jvm.Cond.and c (allAtoms t)).before a st = _
    rw [Jvm.Cond.before_and, ih, List.all_cons]
def words1 : List Jvm.Cond := Jvm.Cond.code x code maxLocals ret :: tables_1
/-- a 'code' word, met by the world's own term for the bytes: nothing is compared byte by byte -/
theorem code_word {y : MethodName} {bytes : ByteArray} {mx : Nat} {rt : Option FieldType} {a : Array Value} {s : State} {m : MethodId} {meth : Method} {c : Code} (h1 : s.methodNamed? y = some m) (h2 : s.vm.method? m = some meth) (h3 : meth.code = some c) (h4 : c.code = bytes)
    (h5 : (c.maxLocals == mx && c.exceptionTable.isEmpty && decide (c.maxStack ≤ mostOperands) && decide (meth.sig.returnType = rt) && !meth.locks && decide (parseMethodDescriptor y.desc = some meth.sig)) = true) : (Jvm.Cond.code y bytes mx rt).before a s = true := by
  simp only [Bool.and_eq_true, beq_iff_eq, Bool.not_eq_true', decide_eq_true_eq] at h5
  obtain ⟨⟨⟨⟨⟨g1, g2⟩, g3⟩, g4⟩, g5⟩, g6⟩ := h5
  simp [Cond.before, Cond.holds, Cond.value, h1, h2, h3, h4, g1, g2, g3, g4, g5, g6]
def isCode : Jvm.Cond → Bool
  | .code _ _ _ _ => true
  | _ => false
theorem all_split {L : List Jvm.Cond} {P : Jvm.Cond → Bool} (h1 : L.all (fun c => isCode c || P c) = true) (h2 : ∀ c ∈ L.filter isCode, P c = true) : L.all P = true := by
  refine List.all_eq_true.mpr fun c hc => ?_
  have h := List.all_eq_true.mp h1 c hc
  rcases Bool.eq_false_or_eq_true (isCode c) with hi | hi
  · exact h2 c (List.mem_filter.mpr ⟨hc, hi⟩)
  · simpa [hi] using h
set_option maxRecDepth 65536 in
theorem w_c0 : (Jvm.Cond.code x code maxLocals ret).before args0 about1 = true := code_word (m := ⟨1, 1⟩) (meth := k1m1) (c := k1c1) (by decide +kernel) rfl rfl rfl (by decide +kernel)
set_option maxRecDepth 65536 in
theorem w_c1 : (Jvm.Cond.code ({ cls := "java/lang/Long", name := "valueOf", desc := "(J)Ljava/lang/Long;" } : Jvm.MethodName) jdk_35_method_24_code (3 : Nat) (Option.some (Jvm.ClassFile.FieldType.object "java/lang/Long"))).before args0 about1 = true := code_word (m := ⟨7, 0⟩) (meth := k7m0) (c := k7c0) (by decide +kernel) rfl rfl rfl (by decide +kernel)
set_option maxRecDepth 65536 in
theorem w_c2 : (Jvm.Cond.code ({ cls := "com/example/goalpost/goalpost/runtime/ListValue", name := "<init>", desc := "(II)V" } : Jvm.MethodName) prog_46_method_1_code (3 : Nat) (Option.none : Option Jvm.ClassFile.FieldType)).before args0 about1 = true := code_word (m := ⟨10, 0⟩) (meth := k10m0) (c := k10c0) (by decide +kernel) rfl rfl rfl (by decide +kernel)
set_option maxRecDepth 65536 in
theorem w_c3 : (Jvm.Cond.code ({ cls := "com/example/goalpost/goalpost/runtime/Structure", name := "<init>", desc := "(I)V" } : Jvm.MethodName) prog_96_method_1_code (2 : Nat) (Option.none : Option Jvm.ClassFile.FieldType)).before args0 about1 = true := code_word (m := ⟨9, 0⟩) (meth := k9m0) (c := k9c0) (by decide +kernel) rfl rfl rfl (by decide +kernel)
set_option maxRecDepth 65536 in
theorem w_c4 : (Jvm.Cond.code ({ cls := "java/lang/Object", name := "<init>", desc := "()V" } : Jvm.MethodName) object_method_1_code (1 : Nat) (Option.none : Option Jvm.ClassFile.FieldType)).before args0 about1 = true := code_word (m := ⟨0, 0⟩) (meth := k0m0) (c := k0c0) (by decide +kernel) rfl rfl rfl (by decide +kernel)
set_option maxRecDepth 65536 in
theorem w_c5 : (Jvm.Cond.code ({ cls := "java/lang/Math", name := "max", desc := "(II)I" } : Jvm.MethodName) jdk_29_method_65_code (2 : Nat) (Option.some Jvm.ClassFile.FieldType.int)).before args0 about1 = true := code_word (m := ⟨11, 1⟩) (meth := k11m1) (c := k11c1) (by decide +kernel) rfl rfl rfl (by decide +kernel)
set_option maxRecDepth 65536 in
theorem w_c6 : (Jvm.Cond.code ({ cls := "com/example/goalpost/goalpost/runtime/ListValue", name := "put", desc := "(Ljava/lang/Object;)V" } : Jvm.MethodName) prog_46_method_5_code (2 : Nat) (Option.none : Option Jvm.ClassFile.FieldType)).before args0 about1 = true := code_word (m := ⟨10, 2⟩) (meth := k10m2) (c := k10c2) (by decide +kernel) rfl rfl rfl (by decide +kernel)
set_option maxRecDepth 65536 in
theorem w_c7 : (Jvm.Cond.code ({ cls := "com/example/goalpost/goalpost/runtime/Cell", name := "<init>", desc := "(Ljava/lang/Object;)V" } : Jvm.MethodName) prog_16_method_1_code (2 : Nat) (Option.none : Option Jvm.ClassFile.FieldType)).before args0 about1 = true := code_word (m := ⟨13, 0⟩) (meth := k13m0) (c := k13c0) (by decide +kernel) rfl rfl rfl (by decide +kernel)
set_option maxRecDepth 65536 in
theorem w_c8 : (Jvm.Cond.code ({ cls := "com/example/goalpost/goalpost/runtime/Variable", name := "<init>", desc := "()V" } : Jvm.MethodName) prog_119_method_1_code (1 : Nat) (Option.none : Option Jvm.ClassFile.FieldType)).before args0 about1 = true := code_word (m := ⟨12, 0⟩) (meth := k12m0) (c := k12c0) (by decide +kernel) rfl rfl rfl (by decide +kernel)
set_option maxRecDepth 65536 in
theorem w_c9 : (Jvm.Cond.code ({ cls := "com/example/goalpost/goalpost/runtime/ListValue", name := "grow", desc := "()V" } : Jvm.MethodName) prog_46_method_14_code (3 : Nat) (Option.none : Option Jvm.ClassFile.FieldType)).before args0 about1 = true := code_word (m := ⟨10, 6⟩) (meth := k10m6) (c := k10c6) (by decide +kernel) rfl rfl rfl (by decide +kernel)
set_option maxRecDepth 65536 in
theorem w_c10 : (Jvm.Cond.code ({ cls := "com/example/goalpost/goalpost/runtime/ListValue", name := "at", desc := "(I)Lcom/example/goalpost/goalpost/runtime/Cell;" } : Jvm.MethodName) prog_46_method_3_code (2 : Nat) (Option.some (Jvm.ClassFile.FieldType.object "com/example/goalpost/goalpost/runtime/Cell"))).before args0 about1 = true := code_word (m := ⟨10, 1⟩) (meth := k10m1) (c := k10c1) (by decide +kernel) rfl rfl rfl (by decide +kernel)
set_option maxRecDepth 65536 in
theorem w_c11 : (Jvm.Cond.code ({ cls := "com/example/goalpost/goalpost/runtime/Cell", name := "get", desc := "()Ljava/lang/Object;" } : Jvm.MethodName) prog_16_method_2_code (1 : Nat) (Option.some (Jvm.ClassFile.FieldType.object "java/lang/Object"))).before args0 about1 = true := code_word (m := ⟨13, 1⟩) (meth := k13m1) (c := k13c1) (by decide +kernel) rfl rfl rfl (by decide +kernel)
set_option maxRecDepth 65536 in
theorem w_c12 : (Jvm.Cond.code ({ cls := "com/example/goalpost/goalpost/runtime/ListValue", name := "push", desc := "(Ljava/lang/Object;)V" } : Jvm.MethodName) prog_46_method_6_code (2 : Nat) (Option.none : Option Jvm.ClassFile.FieldType)).before args0 about1 = true := code_word (m := ⟨10, 3⟩) (meth := k10m3) (c := k10c3) (by decide +kernel) rfl rfl rfl (by decide +kernel)
set_option maxRecDepth 65536 in
theorem w_c13 : (Jvm.Cond.code ({ cls := "com/example/goalpost/goalpost/runtime/ListValue", name := "get", desc := "()Ljava/lang/Object;" } : Jvm.MethodName) prog_46_method_7_code (2 : Nat) (Option.some (Jvm.ClassFile.FieldType.object "java/lang/Object"))).before args0 about1 = true := code_word (m := ⟨10, 4⟩) (meth := k10m4) (c := k10c4) (by decide +kernel) rfl rfl rfl (by decide +kernel)
set_option maxRecDepth 65536 in
theorem w_c14 : (Jvm.Cond.code ({ cls := "com/example/goalpost/goalpost/runtime/ListValue", name := "pull", desc := "()Ljava/lang/Object;" } : Jvm.MethodName) prog_46_method_8_code (3 : Nat) (Option.some (Jvm.ClassFile.FieldType.object "java/lang/Object"))).before args0 about1 = true := code_word (m := ⟨10, 5⟩) (meth := k10m5) (c := k10c5) (by decide +kernel) rfl rfl rfl (by decide +kernel)
def codes1 : List Jvm.Cond := [Jvm.Cond.code x code maxLocals ret, Jvm.Cond.code ({ cls := "java/lang/Long", name := "valueOf", desc := "(J)Ljava/lang/Long;" } : Jvm.MethodName) jdk_35_method_24_code (3 : Nat) (Option.some (Jvm.ClassFile.FieldType.object "java/lang/Long")), Jvm.Cond.code ({ cls := "com/example/goalpost/goalpost/runtime/ListValue", name := "<init>", desc := "(II)V" } : Jvm.MethodName) prog_46_method_1_code (3 : Nat) (Option.none : Option Jvm.ClassFile.FieldType), Jvm.Cond.code ({ cls := "com/example/goalpost/goalpost/runtime/Structure", name := "<init>", desc := "(I)V" } : Jvm.MethodName) prog_96_method_1_code (2 : Nat) (Option.none : Option Jvm.ClassFile.FieldType), Jvm.Cond.code ({ cls := "java/lang/Object", name := "<init>", desc := "()V" } : Jvm.MethodName) object_method_1_code (1 : Nat) (Option.none : Option Jvm.ClassFile.FieldType), Jvm.Cond.code ({ cls := "java/lang/Math", name := "max", desc := "(II)I" } : Jvm.MethodName) jdk_29_method_65_code (2 : Nat) (Option.some Jvm.ClassFile.FieldType.int), Jvm.Cond.code ({ cls := "com/example/goalpost/goalpost/runtime/ListValue", name := "put", desc := "(Ljava/lang/Object;)V" } : Jvm.MethodName) prog_46_method_5_code (2 : Nat) (Option.none : Option Jvm.ClassFile.FieldType), Jvm.Cond.code ({ cls := "com/example/goalpost/goalpost/runtime/Cell", name := "<init>", desc := "(Ljava/lang/Object;)V" } : Jvm.MethodName) prog_16_method_1_code (2 : Nat) (Option.none : Option Jvm.ClassFile.FieldType), Jvm.Cond.code ({ cls := "com/example/goalpost/goalpost/runtime/Variable", name := "<init>", desc := "()V" } : Jvm.MethodName) prog_119_method_1_code (1 : Nat) (Option.none : Option Jvm.ClassFile.FieldType), Jvm.Cond.code ({ cls := "com/example/goalpost/goalpost/runtime/ListValue", name := "grow", desc := "()V" } : Jvm.MethodName) prog_46_method_14_code (3 : Nat) (Option.none : Option Jvm.ClassFile.FieldType), Jvm.Cond.code ({ cls := "com/example/goalpost/goalpost/runtime/ListValue", name := "at", desc := "(I)Lcom/example/goalpost/goalpost/runtime/Cell;" } : Jvm.MethodName) prog_46_method_3_code (2 : Nat) (Option.some (Jvm.ClassFile.FieldType.object "com/example/goalpost/goalpost/runtime/Cell")), Jvm.Cond.code ({ cls := "com/example/goalpost/goalpost/runtime/Cell", name := "get", desc := "()Ljava/lang/Object;" } : Jvm.MethodName) prog_16_method_2_code (1 : Nat) (Option.some (Jvm.ClassFile.FieldType.object "java/lang/Object")), Jvm.Cond.code ({ cls := "com/example/goalpost/goalpost/runtime/ListValue", name := "push", desc := "(Ljava/lang/Object;)V" } : Jvm.MethodName) prog_46_method_6_code (2 : Nat) (Option.none : Option Jvm.ClassFile.FieldType), Jvm.Cond.code ({ cls := "com/example/goalpost/goalpost/runtime/ListValue", name := "get", desc := "()Ljava/lang/Object;" } : Jvm.MethodName) prog_46_method_7_code (2 : Nat) (Option.some (Jvm.ClassFile.FieldType.object "java/lang/Object")), Jvm.Cond.code ({ cls := "com/example/goalpost/goalpost/runtime/ListValue", name := "pull", desc := "()Ljava/lang/Object;" } : Jvm.MethodName) prog_46_method_8_code (3 : Nat) (Option.some (Jvm.ClassFile.FieldType.object "java/lang/Object"))]
set_option maxRecDepth 65536 in
theorem codes_eq : words1.filter isCode = codes1 := rfl
theorem w_codes : ∀ c ∈ words1.filter isCode, c.before args0 about1 = true := by
  rw [codes_eq]
  intro c hc
  simp only [codes1, List.mem_cons, List.not_mem_nil, or_false] at hc
  rcases hc with rfl | rfl | rfl | rfl | rfl | rfl | rfl | rfl | rfl | rfl | rfl | rfl | rfl | rfl | rfl
  · exact w_c0
  · exact w_c1
  · exact w_c2
  · exact w_c3
  · exact w_c4
  · exact w_c5
  · exact w_c6
  · exact w_c7
  · exact w_c8
  · exact w_c9
  · exact w_c10
  · exact w_c11
  · exact w_c12
  · exact w_c13
  · exact w_c14
set_option maxRecDepth 65536 in
theorem w_t1 : (words1.take 24).all (fun c => isCode c || c.before args0 about1) = true := by decide +kernel
set_option maxRecDepth 65536 in
theorem w_t2 : ((words1.drop 24).take 24).all (fun c => isCode c || c.before args0 about1) = true := by decide +kernel
set_option maxRecDepth 65536 in
theorem w_t3 : (((words1.drop 24).drop 24).take 24).all (fun c => isCode c || c.before args0 about1) = true := by decide +kernel
set_option maxRecDepth 65536 in
theorem w_t4 : (((words1.drop 24).drop 24).drop 24).all (fun c => isCode c || c.before args0 about1) = true := by decide +kernel
theorem w_tables : (allAtoms (Jvm.Cond.code x code maxLocals ret :: tables_1)).before args0 about1 = true := by
  rw [allAtoms_all]
  show words1.all (fun c => c.before args0 about1) = true
  refine all_split ?_ w_codes
  rw [← List.take_append_drop 24 words1, List.all_append, w_t1, ← List.take_append_drop 24 (words1.drop 24), List.all_append, w_t2, ← List.take_append_drop 24 ((words1.drop 24).drop 24), List.all_append, w_t3, w_t4]
  rfl
set_option maxRecDepth 65536 in
theorem w_rest : rest_1_c.before args0 about1 = true := by decide +kernel
set_option maxRecDepth 65536 in
theorem w_case : (Jvm.Cond.and given_1 narrow_1).before args0 about1 = true := by decide +kernel
theorem w_applies : (headSpec (Jvm.Cond.code x code maxLocals ret :: tables_1) room_1).applies x e0.platform about1 = true :=
  (Spec.applies_iff w_frames).mpr ⟨w_running, w_runnable, w_alone, w_named, w_hears, w_ripe, w_room, w_tables⟩
theorem atStart : AtStart classFile x code maxLocals ret World_1 tables_1 room_1 Calls_1 rest_1 Pre_1 launch0 p0 e0 about1 theMethod args0 below0 :=
  ⟨lists_1, trivial, launch0.admits_env _ _ _, launch0.least_env, fairChoices_fair.cas, fairChoices_fair.clock, w_frames, w_args, w_heap, w_applies, trivial, w_rest, w_case⟩
end start1
theorem witness_1 : WitnessClaimed_1 := ⟨start1.p0, start1.e0, start1.about1, start1.theMethod, start1.args0, start1.below0, start1.atStart⟩
end Jvm.Pilot.@@N@@
