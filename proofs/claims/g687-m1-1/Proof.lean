import JvmDerived
import JvmDerived.Pilot.@@N@@Statement
import JvmDerived.Pilot.@@N@@Code
set_option linter.unusedVariables false
set_option linter.unusedSimpArgs false
namespace Jvm.Pilot.@@N@@
open Jvm Jvm.ClassFile Sem Op Lib Jvm.Free Jvm.Stand Jvm.LawKit Jvm.RoadKit Bundle Jvm.Pilot.@@N@@.Jvm.D
/-- every run that goes on from the frame g of T to t is one of G -/
abbrev Go (p : Program) (e : Env) (below : List Frame) (T : State) (g : JFrame) (G : State → Prop) : Prop := ∀ t, Steps p.tables e below (T.setTop g) t → G t
theorem pn_0 : plainName "com/example/vervet/vervet/pipewire/Permission" = true := by first | (simp [plainName, overriddenIn]; done) | decide +kernel
theorem ef_prog_33_method_1_RII (m : MethodId) (x0 : Addr) (x1 : Int32) (x2 : Int32) : entryFrame m #[(.ref x0), (.int x1), (.int x2)] 3 = mkF m 0 #[.val (.ref x0), .val (.int x1), .val (.int x2)] [] := by first | (simp [entryFrame, mkF, argsToLocals, Value.category]; done) | rfl
theorem d_prog_33_method_1_0 : decode prog_33_method_1_code 0 = .ok (.aload_n 0, 1) := by decide +kernel
theorem d_prog_33_method_1_1 : decode prog_33_method_1_code 1 = .ok (.invokespecial 3, 3) := by decide +kernel
theorem d_prog_33_method_1_4 : decode prog_33_method_1_code 4 = .ok (.aload_n 0, 1) := by decide +kernel
theorem d_prog_33_method_1_5 : decode prog_33_method_1_code 5 = .ok (.iload_n 1, 1) := by decide +kernel
theorem d_prog_33_method_1_6 : decode prog_33_method_1_code 6 = .ok (.putfield 9, 3) := by decide +kernel
theorem d_prog_33_method_1_9 : decode prog_33_method_1_code 9 = .ok (.aload_n 0, 1) := by decide +kernel
theorem d_prog_33_method_1_10 : decode prog_33_method_1_code 10 = .ok (.iload_n 2, 1) := by decide +kernel
theorem d_prog_33_method_1_11 : decode prog_33_method_1_code 11 = .ok (.putfield 13, 3) := by decide +kernel
theorem d_prog_33_method_1_14 : decode prog_33_method_1_code 14 = .ok (.return_, 1) := by decide +kernel
def QIni (Z : State) (a : Addr) (p1 : Int32) (p2 : Int32) (h0 : Heap) (n0 : Nat) (v : Option Value) (h : Heap) (L : List Loc) : Prop := v = none ∧ Fr n0 L ∧ Keep h0 h [a] ∧ Exa Z h a "com/example/vervet/vervet/pipewire/Permission" ∧ Fld Z h a "com/example/vervet/vervet/pipewire/Permission" "id" "I" (.int p1) ∧ Fld Z h a "com/example/vervet/vervet/pipewire/Permission" "bits" "I" (.int p2)
set_option maxRecDepth 65536 in
set_option maxHeartbeats 40000000 in
theorem rmIni (l : Launch) (Z : State) (a0 : Array Value) (hw : ∀ d ∈ tables_1, d.before a0 Z = true) (ws : List Jvm.Cond) (a : Addr) (p1 : Int32) (p2 : Int32) (h0 : Heap) (n0 : Nat) (Z0 : n0 ≤ h0.size) (F_id_a : Fld Z h0 a "com/example/vervet/vervet/pipewire/Permission" "id" "I" (.int (0 : Int32))) (F_bits_a : Fld Z h0 a "com/example/vervet/vervet/pipewire/Permission" "bits" "I" (.int (0 : Int32))) (E_a : Exa Z h0 a "com/example/vervet/vervet/pipewire/Permission") (ge_a : n0 ≤ a) :
    MetFree l (⟨"com/example/vervet/vervet/pipewire/Permission", "<init>", "(II)V"⟩ : MethodName) (head1 (Jvm.Cond.code (⟨"com/example/vervet/vervet/pipewire/Permission", "<init>", "(II)V"⟩ : MethodName) prog_33_method_1_code 3 none :: ws) ({ frames := 1, cells := 0, slots := 0, locals := 12 } : Room)) (fun aa UU => aa = #[(.ref a), (.int p1), (.int p2)] ∧ Z.Warmed39 UU.vm ∧ UU.heap = h0) (fun _ _ _ _ _ => True) (fun _ UU oo UU' => ∃ vv LL, oo = .returned vv ∧ QIni Z a p1 p2 h0 n0 vv UU'.heap LL ∧ FrameEnd UU oo UU' LL ({ frames := 1, cells := 0, slots := 0, locals := 12 } : Room).cells ({ frames := 1, cells := 0, slots := 0, locals := 12 } : Room).slots) := by
  refine MetFree.of_bodySF (plainFor_of_name pn_0) hisR ?_
  intro p e s m args below meth c s₁ Bd hml0 hP hK
  obtain ⟨rfl, hZ, hh⟩ := hP
  have hx := Bd.exec
  have hby := Bd.bytes
  have hml : c.maxLocals = 3 := hml0
  have hown : s.vm.findClass "com/example/vervet/vervet/pipewire/Permission" = some m.cls := findClass_of_methodNamed Bd.named
  have hnm := (name_of_methodNamed Bd.named Bd.method).1
  have hW : ∀ (k : Nat) (d : Jvm.Cond), tables_1[k]? = some d → d.before a0 Z = true := fun k d h => hw d (List.mem_of_getElem? h)
  have X0 : Stand p l e ({ frames := 1, cells := 0, slots := 0, locals := 12 } : Room) s m #[(.ref a), (.int p1), (.int p2)] below meth c s₁ [] 0 0 := Stand.of_body Bd
  have e0 : s₁.heap = h0 := by rw [← hh, Bd.state]; rfl
  have N0 := Fr.nil n0
  obtain ⟨G, hG, K0⟩ : ∃ G : State → Prop, (∀ t, G t → Steps p.tables e below (s₁.setTop (entryFrame m #[(.ref a), (.int p1), (.int p2)] 3)) t) ∧ Go p e below s₁ (mkF m 0 #[.val (.ref a), .val (.int p1), .val (.int p2)] []) G := ⟨fun t => Steps p.tables e below (s₁.setTop (entryFrame m #[(.ref a), (.int p1), (.int p2)] 3)) t, fun _ h => h, fun t k => castTop (ef_prog_33_method_1_RII m a p1 p2) k⟩
  have K1 : Go p e below s₁ (mkF m 1 #[.val (.ref a), .val (.int p1), .val (.int p2)] [(.ref a)]) G := fun tq kq => K0 tq (XS.aloadN X0.here hx rfl (hb hby d_prog_33_method_1_0) rfl rfl kq)
  obtain ⟨T2, X2, e2, st2⟩ := initO X0 hx hZ hown (hW 6 _ rfl) (hW 7 _ rfl) (hW 8 _ rfl) e0 (g := (mkF m 1 #[.val (.ref a), .val (.int p1), .val (.int p2)] [(.ref a)])) rfl (by rw [hml]; rfl) rfl (hb hby d_prog_33_method_1_1) (by decide) (W := 0) (by show 2 * 0 + _ ≤ _; exact Nat.le_of_eq rfl) (by decide)
  have K3 : Go p e below T2 (mkF m 4 #[.val (.ref a), .val (.int p1), .val (.int p2)] []) G := fun tq kq => K1 tq (st2 tq kq)
  have K4 : Go p e below T2 (mkF m 5 #[.val (.ref a), .val (.int p1), .val (.int p2)] [(.ref a)]) G := fun tq kq => K3 tq (XS.aloadN X2.here hx rfl (hb hby d_prog_33_method_1_4) rfl rfl kq)
  have K5 : Go p e below T2 (mkF m 6 #[.val (.ref a), .val (.int p1), .val (.int p2)] [(.int p1), (.ref a)]) G := fun tq kq => K4 tq (XS.iloadN X2.here hx rfl (hb hby d_prog_33_method_1_5) rfl kq)
  obtain ⟨T6, h6, X6, e6, W6, st6⟩ := putF X2 hx hZ hown (host := "") (Or.inl (hW 9 _ rfl)) Via.refl e2 F_id_a E_a (Or.inr ⟨(hW 10 _ rfl), rfl, hnm⟩) (hW 1 _ rfl) (ty := .int) (by decide) rfl rfl (g := (mkF m 6 #[.val (.ref a), .val (.int p1), .val (.int p2)] [(.int p1), (.ref a)])) rfl rfl (hb hby d_prog_33_method_1_6)
  have N6 := Fr.snoc X6 N0 ge_a
  have F6 := Fld.same W6 F_id_a
  have K7 : Go p e below T6 (mkF m 9 #[.val (.ref a), .val (.int p1), .val (.int p2)] []) G := fun tq kq => K5 tq (st6 tq kq)
  have K8 : Go p e below T6 (mkF m 10 #[.val (.ref a), .val (.int p1), .val (.int p2)] [(.ref a)]) G := fun tq kq => K7 tq (XS.aloadN X6.here hx rfl (hb hby d_prog_33_method_1_9) rfl rfl kq)
  have K9 : Go p e below T6 (mkF m 11 #[.val (.ref a), .val (.int p1), .val (.int p2)] [(.int p2), (.ref a)]) G := fun tq kq => K8 tq (XS.iloadN X6.here hx rfl (hb hby d_prog_33_method_1_10) rfl kq)
  obtain ⟨T10, h10, X10, e10, W10, st10⟩ := putF X6 hx hZ hown (host := "") (Or.inl (hW 11 _ rfl)) Via.refl e6 (F_bits_a.other W6 (Or.inr (slot_ne (Or.inr (hW 12 _ rfl)) (Or.inr (hW 10 _ rfl)) (by decide) (t := .int) (t' := .int) (by decide) (by decide)))) (E_a.wr W6) (Or.inr ⟨(hW 12 _ rfl), rfl, hnm⟩) (hW 1 _ rfl) (ty := .int) (by decide) rfl rfl (g := (mkF m 11 #[.val (.ref a), .val (.int p1), .val (.int p2)] [(.int p2), (.ref a)])) rfl rfl (hb hby d_prog_33_method_1_11)
  have N10 := Fr.snoc X10 N6 ge_a
  have F10 := Fld.same W10 (F_bits_a.other W6 (Or.inr (slot_ne (Or.inr (hW 12 _ rfl)) (Or.inr (hW 10 _ rfl)) (by decide) (t := .int) (t' := .int) (by decide) (by decide))))
  have K11 : Go p e below T10 (mkF m 14 #[.val (.ref a), .val (.int p1), .val (.int p2)] []) G := fun tq kq => K9 tq (st10 tq kq)
  obtain ⟨fs, hr, hrun, hended, hWW, hsame⟩ := X10.leave (v := none) (fun _ => rfl)
  refine ⟨_, _, hG _ (K11 _ (X10.returnOut hx Bd.returns (hb hby d_prog_33_method_1_14) hr)), hrun, hended, _, _, rfl, ?_, ⟨_, rfl⟩, hWW, hsame.mono (by decide) (by decide)⟩
  show QIni Z a p1 p2 h0 n0 _ T10.heap _
  rw [e10]
  exact ⟨rfl, N10, (((Keep.refl h0 [a]).wr W6 (Or.inl (List.mem_of_getElem? (i := 0) rfl))).wr W10 (Or.inl (List.mem_of_getElem? (i := 0) rfl))), ((E_a.wr W6).wr W10), (F6.other W10 (Or.inr (slot_ne (Or.inr (hW 10 _ rfl)) (Or.inr (hW 12 _ rfl)) (by decide) (t := .int) (t' := .int) (by decide) (by decide)))), F10⟩
theorem ef_prog_33_method_4_RR (m : MethodId) (x0 : Addr) (x1 : Addr) : entryFrame m #[(.ref x0), (.ref x1)] 3 = mkF m 0 #[.val (.ref x0), .val (.ref x1), .unset] [] := by first | (simp [entryFrame, mkF, argsToLocals, Value.category]; done) | rfl
theorem d_prog_33_method_4_0 : decode prog_33_method_4_code 0 = .ok (.aload_n 1, 1) := by decide +kernel
theorem d_prog_33_method_4_1 : decode prog_33_method_4_code 1 = .ok (.instanceof 1, 3) := by decide +kernel
theorem d_prog_33_method_4_4 : decode prog_33_method_4_code 4 = .ok (.ifCond .eq 11, 3) := by decide +kernel
theorem d_prog_33_method_4_7 : decode prog_33_method_4_code 7 = .ok (.aload_n 1, 1) := by decide +kernel
theorem d_prog_33_method_4_8 : decode prog_33_method_4_code 8 = .ok (.checkcast 1, 3) := by decide +kernel
theorem d_prog_33_method_4_11 : decode prog_33_method_4_code 11 = .ok (.astore_n 2, 1) := by decide +kernel
theorem d_prog_33_method_4_12 : decode prog_33_method_4_code 12 = .ok (.goto 5, 3) := by decide +kernel
theorem d_prog_33_method_4_17 : decode prog_33_method_4_code 17 = .ok (.aload_n 0, 1) := by decide +kernel
theorem d_prog_33_method_4_18 : decode prog_33_method_4_code 18 = .ok (.getfield 9, 3) := by decide +kernel
theorem d_prog_33_method_4_21 : decode prog_33_method_4_code 21 = .ok (.aload_n 2, 1) := by decide +kernel
theorem d_prog_33_method_4_22 : decode prog_33_method_4_code 22 = .ok (.getfield 9, 3) := by decide +kernel
theorem d_prog_33_method_4_25 : decode prog_33_method_4_code 25 = .ok (.if_icmp .ne 18, 3) := by decide +kernel
theorem d_prog_33_method_4_28 : decode prog_33_method_4_code 28 = .ok (.aload_n 0, 1) := by decide +kernel
theorem d_prog_33_method_4_29 : decode prog_33_method_4_code 29 = .ok (.getfield 13, 3) := by decide +kernel
theorem d_prog_33_method_4_32 : decode prog_33_method_4_code 32 = .ok (.aload_n 2, 1) := by decide +kernel
theorem d_prog_33_method_4_33 : decode prog_33_method_4_code 33 = .ok (.getfield 13, 3) := by decide +kernel
theorem d_prog_33_method_4_36 : decode prog_33_method_4_code 36 = .ok (.if_icmp .ne 7, 3) := by decide +kernel
theorem d_prog_33_method_4_39 : decode prog_33_method_4_code 39 = .ok (.iconst 1, 1) := by decide +kernel
theorem d_prog_33_method_4_40 : decode prog_33_method_4_code 40 = .ok (.goto 4, 3) := by decide +kernel
theorem d_prog_33_method_4_43 : decode prog_33_method_4_code 43 = .ok (.iconst 0, 1) := by decide +kernel
theorem d_prog_33_method_4_44 : decode prog_33_method_4_code 44 = .ok (.ireturn, 1) := by decide +kernel
def QEqP (Z : State) (a : Addr) (b : Addr) (ida : Int32) (bitsa : Int32) (idb : Int32) (bitsb : Int32) (h0 : Heap) (n0 : Nat) (v : Option Value) (h : Heap) (L : List Loc) : Prop := v = some (.int (if ida = idb ∧ bitsa = bitsb then (1 : Int32) else 0)) ∧ Fr n0 L ∧ h = h0
set_option maxRecDepth 65536 in
set_option maxHeartbeats 40000000 in
theorem rmEqP (l : Launch) (Z : State) (a0 : Array Value) (hw : ∀ d ∈ tables_1, d.before a0 Z = true) (ws : List Jvm.Cond) (a : Addr) (b : Addr) (ida : Int32) (bitsa : Int32) (idb : Int32) (bitsb : Int32) (h0 : Heap) (n0 : Nat) (Z0 : n0 ≤ h0.size) (F_id_a : Fld Z h0 a "com/example/vervet/vervet/pipewire/Permission" "id" "I" (.int ida)) (F_bits_a : Fld Z h0 a "com/example/vervet/vervet/pipewire/Permission" "bits" "I" (.int bitsa)) (F_id_b : Fld Z h0 b "com/example/vervet/vervet/pipewire/Permission" "id" "I" (.int idb)) (F_bits_b : Fld Z h0 b "com/example/vervet/vervet/pipewire/Permission" "bits" "I" (.int bitsb)) (E_b : Exa Z h0 b "com/example/vervet/vervet/pipewire/Permission") :
    MetFree l (⟨"com/example/vervet/vervet/pipewire/Permission", "equals", "(Ljava/lang/Object;)Z"⟩ : MethodName) (head1 (Jvm.Cond.code (⟨"com/example/vervet/vervet/pipewire/Permission", "equals", "(Ljava/lang/Object;)Z"⟩ : MethodName) prog_33_method_4_code 3 (some .boolean) :: ws) ({ frames := 0, cells := 0, slots := 0, locals := 0 } : Room)) (fun aa UU => aa = #[(.ref a), (.ref b)] ∧ Z.Warmed39 UU.vm ∧ UU.heap = h0) (fun _ _ _ _ _ => True) (fun _ UU oo UU' => ∃ vv LL, oo = .returned vv ∧ QEqP Z a b ida bitsa idb bitsb h0 n0 vv UU'.heap LL ∧ FrameEnd UU oo UU' LL ({ frames := 0, cells := 0, slots := 0, locals := 0 } : Room).cells ({ frames := 0, cells := 0, slots := 0, locals := 0 } : Room).slots) := by
  refine MetFree.of_bodySF (plainFor_of_name pn_0) hisR ?_
  intro p e s m args below meth c s₁ Bd hml0 hP hK
  obtain ⟨rfl, hZ, hh⟩ := hP
  have hx := Bd.exec
  have hby := Bd.bytes
  have hml : c.maxLocals = 3 := hml0
  have hown : s.vm.findClass "com/example/vervet/vervet/pipewire/Permission" = some m.cls := findClass_of_methodNamed Bd.named
  have hnm := (name_of_methodNamed Bd.named Bd.method).1
  have hW : ∀ (k : Nat) (d : Jvm.Cond), tables_1[k]? = some d → d.before a0 Z = true := fun k d h => hw d (List.mem_of_getElem? h)
  have X0 : Stand p l e ({ frames := 0, cells := 0, slots := 0, locals := 0 } : Room) s m #[(.ref a), (.ref b)] below meth c s₁ [] 0 0 := Stand.of_body Bd
  have e0 : s₁.heap = h0 := by rw [← hh, Bd.state]; rfl
  have N0 := Fr.nil n0
  obtain ⟨G, hG, K0⟩ : ∃ G : State → Prop, (∀ t, G t → Steps p.tables e below (s₁.setTop (entryFrame m #[(.ref a), (.ref b)] 3)) t) ∧ Go p e below s₁ (mkF m 0 #[.val (.ref a), .val (.ref b), .unset] []) G := ⟨fun t => Steps p.tables e below (s₁.setTop (entryFrame m #[(.ref a), (.ref b)] 3)) t, fun _ h => h, fun t k => castTop (ef_prog_33_method_4_RR m a b) k⟩
  have K12 : Go p e below s₁ (mkF m 1 #[.val (.ref a), .val (.ref b), .unset] [(.ref b)]) G := fun tq kq => K0 tq (XS.aloadN X0.here hx rfl (hb hby d_prog_33_method_4_0) rfl rfl kq)
  obtain ⟨T13, X13, e13, st13⟩ := instY X0 hx hZ hown (hW 18 _ rfl) e0 (Ins.self E_b) (g := (mkF m 1 #[.val (.ref a), .val (.ref b), .unset] [(.ref b)])) rfl rfl (hb hby d_prog_33_method_4_1)
  have K14 : Go p e below T13 (mkF m 4 #[.val (.ref a), .val (.ref b), .unset] [(.int (1 : Int32))]) G := fun tq kq => K12 tq (st13 tq kq)
  have K15 : Go p e below T13 (mkF m 7 #[.val (.ref a), .val (.ref b), .unset] []) G := fun tq kq => K14 tq (XS.ifNo X13.here hx rfl (hb hby d_prog_33_method_4_4) rfl ((if0 _ _).trans (feq (by decide : ¬ ((1 : Int32) = (0 : Int32)))).1) kq)
  have K16 : Go p e below T13 (mkF m 8 #[.val (.ref a), .val (.ref b), .unset] [(.ref b)]) G := fun tq kq => K15 tq (XS.aloadN X13.here hx rfl (hb hby d_prog_33_method_4_7) rfl rfl kq)
  obtain ⟨T17, X17, e17, st17⟩ := castY X13 hx hZ hown (hW 18 _ rfl) e13 (Ins.self E_b) (g := (mkF m 8 #[.val (.ref a), .val (.ref b), .unset] [(.ref b)])) rfl rfl (hb hby d_prog_33_method_4_8)
  have K18 : Go p e below T17 (mkF m 11 #[.val (.ref a), .val (.ref b), .unset] [(.ref b)]) G := fun tq kq => K16 tq (st17 tq kq)
  have K19 : Go p e below T17 (mkF m 12 #[.val (.ref a), .val (.ref b), .val (.ref b)] []) G := fun tq kq => K18 tq (XS.astoreN X17.here hx rfl (hb hby d_prog_33_method_4_11) rfl rfl (l' := #[.val (.ref a), .val (.ref b), .val (.ref b)]) rfl kq)
  have K20 : Go p e below T17 (mkF m 17 #[.val (.ref a), .val (.ref b), .val (.ref b)] []) G := fun tq kq => K19 tq (XS.goto X17.here hx rfl (pc0 := 12) (pc' := 17) rfl (hb hby d_prog_33_method_4_12) (by decide) (by decide) kq)
  have K21 : Go p e below T17 (mkF m 18 #[.val (.ref a), .val (.ref b), .val (.ref b)] [(.ref a)]) G := fun tq kq => K20 tq (XS.aloadN X17.here hx rfl (hb hby d_prog_33_method_4_17) rfl rfl kq)
  obtain ⟨T22, X22, e22, st22⟩ := getF X17 hx hZ hown (host := "") (Or.inl (hW 9 _ rfl)) Via.refl e17 F_id_a (g := (mkF m 18 #[.val (.ref a), .val (.ref b), .val (.ref b)] [(.ref a)])) rfl rfl (hb hby d_prog_33_method_4_18)
  have K23 : Go p e below T22 (mkF m 21 #[.val (.ref a), .val (.ref b), .val (.ref b)] [(.int ida)]) G := fun tq kq => K21 tq (st22 tq kq)
  have K24 : Go p e below T22 (mkF m 22 #[.val (.ref a), .val (.ref b), .val (.ref b)] [(.ref b), (.int ida)]) G := fun tq kq => K23 tq (XS.aloadN X22.here hx rfl (hb hby d_prog_33_method_4_21) rfl rfl kq)
  obtain ⟨T25, X25, e25, st25⟩ := getF X22 hx hZ hown (host := "") (Or.inl (hW 9 _ rfl)) Via.refl e22 F_id_b (g := (mkF m 22 #[.val (.ref a), .val (.ref b), .val (.ref b)] [(.ref b), (.int ida)])) rfl rfl (hb hby d_prog_33_method_4_22)
  have K26 : Go p e below T25 (mkF m 25 #[.val (.ref a), .val (.ref b), .val (.ref b)] [(.int idb), (.int ida)]) G := fun tq kq => K24 tq (st25 tq kq)
  by_cases hc27 : ida = idb
  · skip
    have K28 : Go p e below T25 (mkF m 28 #[.val (.ref a), .val (.ref b), .val (.ref b)] []) G := fun tq kq => K26 tq (XS.icmpNo X25.here hx rfl (hb hby d_prog_33_method_4_25) rfl ((teq hc27).2) kq)
    have K29 : Go p e below T25 (mkF m 29 #[.val (.ref a), .val (.ref b), .val (.ref b)] [(.ref a)]) G := fun tq kq => K28 tq (XS.aloadN X25.here hx rfl (hb hby d_prog_33_method_4_28) rfl rfl kq)
    obtain ⟨T30, X30, e30, st30⟩ := getF X25 hx hZ hown (host := "") (Or.inl (hW 11 _ rfl)) Via.refl e25 F_bits_a (g := (mkF m 29 #[.val (.ref a), .val (.ref b), .val (.ref b)] [(.ref a)])) rfl rfl (hb hby d_prog_33_method_4_29)
    have K31 : Go p e below T30 (mkF m 32 #[.val (.ref a), .val (.ref b), .val (.ref b)] [(.int bitsa)]) G := fun tq kq => K29 tq (st30 tq kq)
    have K32 : Go p e below T30 (mkF m 33 #[.val (.ref a), .val (.ref b), .val (.ref b)] [(.ref b), (.int bitsa)]) G := fun tq kq => K31 tq (XS.aloadN X30.here hx rfl (hb hby d_prog_33_method_4_32) rfl rfl kq)
    obtain ⟨T33, X33, e33, st33⟩ := getF X30 hx hZ hown (host := "") (Or.inl (hW 11 _ rfl)) Via.refl e30 F_bits_b (g := (mkF m 33 #[.val (.ref a), .val (.ref b), .val (.ref b)] [(.ref b), (.int bitsa)])) rfl rfl (hb hby d_prog_33_method_4_33)
    have K34 : Go p e below T33 (mkF m 36 #[.val (.ref a), .val (.ref b), .val (.ref b)] [(.int bitsb), (.int bitsa)]) G := fun tq kq => K32 tq (st33 tq kq)
    by_cases hc35 : bitsa = bitsb
    · skip
      have K36 : Go p e below T33 (mkF m 39 #[.val (.ref a), .val (.ref b), .val (.ref b)] []) G := fun tq kq => K34 tq (XS.icmpNo X33.here hx rfl (hb hby d_prog_33_method_4_36) rfl ((teq hc35).2) kq)
      have K37 : Go p e below T33 (mkF m 40 #[.val (.ref a), .val (.ref b), .val (.ref b)] [(.int (1 : Int32))]) G := fun tq kq => K36 tq (XS.iconst X33.here hx rfl (hb hby d_prog_33_method_4_39) kq)
      have K38 : Go p e below T33 (mkF m 44 #[.val (.ref a), .val (.ref b), .val (.ref b)] [(.int (1 : Int32))]) G := fun tq kq => K37 tq (XS.goto X33.here hx rfl (pc0 := 40) (pc' := 44) rfl (hb hby d_prog_33_method_4_40) (by decide) (by decide) kq)
      obtain ⟨fs, hr, hrun, hended, hWW, hsame⟩ := X33.leave (v := some (.int (1 : Int32))) (fun h => by rw [Bd.returns] at h; cases h)
      refine ⟨_, _, hG _ (K38 _ (retN X33 hx (t := .boolean) Bd.returns (by simp) (hb hby d_prog_33_method_4_44) hr)), hrun, hended, _, _, rfl, ?_, ⟨_, rfl⟩, hWW, hsame.mono (by decide) (by decide)⟩
      show QEqP Z a b ida bitsa idb bitsb h0 n0 _ T33.heap _
      rw [e33]
      exact ⟨by simp [hc27, hc35], N0, rfl⟩
    · skip
      have K39 : Go p e below T33 (mkF m 43 #[.val (.ref a), .val (.ref b), .val (.ref b)] []) G := fun tq kq => K34 tq (XS.icmpYes X33.here hx rfl (pc0 := 36) (pc' := 43) rfl (hb hby d_prog_33_method_4_36) rfl ((feq hc35).2) (by decide) (by decide) kq)
      have K40 : Go p e below T33 (mkF m 44 #[.val (.ref a), .val (.ref b), .val (.ref b)] [(.int (0 : Int32))]) G := fun tq kq => K39 tq (XS.iconst X33.here hx rfl (hb hby d_prog_33_method_4_43) kq)
      obtain ⟨fs, hr, hrun, hended, hWW, hsame⟩ := X33.leave (v := some (.int (0 : Int32))) (fun h => by rw [Bd.returns] at h; cases h)
      refine ⟨_, _, hG _ (K40 _ (retN X33 hx (t := .boolean) Bd.returns (by simp) (hb hby d_prog_33_method_4_44) hr)), hrun, hended, _, _, rfl, ?_, ⟨_, rfl⟩, hWW, hsame.mono (by decide) (by decide)⟩
      show QEqP Z a b ida bitsa idb bitsb h0 n0 _ T33.heap _
      rw [e33]
      exact ⟨by simp [hc27, hc35], N0, rfl⟩
  · skip
    have K41 : Go p e below T25 (mkF m 43 #[.val (.ref a), .val (.ref b), .val (.ref b)] []) G := fun tq kq => K26 tq (XS.icmpYes X25.here hx rfl (pc0 := 25) (pc' := 43) rfl (hb hby d_prog_33_method_4_25) rfl ((feq hc27).2) (by decide) (by decide) kq)
    have K42 : Go p e below T25 (mkF m 44 #[.val (.ref a), .val (.ref b), .val (.ref b)] [(.int (0 : Int32))]) G := fun tq kq => K41 tq (XS.iconst X25.here hx rfl (hb hby d_prog_33_method_4_43) kq)
    obtain ⟨fs, hr, hrun, hended, hWW, hsame⟩ := X25.leave (v := some (.int (0 : Int32))) (fun h => by rw [Bd.returns] at h; cases h)
    refine ⟨_, _, hG _ (K42 _ (retN X25 hx (t := .boolean) Bd.returns (by simp) (hb hby d_prog_33_method_4_44) hr)), hrun, hended, _, _, rfl, ?_, ⟨_, rfl⟩, hWW, hsame.mono (by decide) (by decide)⟩
    show QEqP Z a b ida bitsa idb bitsb h0 n0 _ T25.heap _
    rw [e25]
    exact ⟨by simp [hc27], N0, rfl⟩
theorem ef_prog_33_method_4_RN (m : MethodId) (x0 : Addr) : entryFrame m #[(.ref x0), .null] 3 = mkF m 0 #[.val (.ref x0), .val .null, .unset] [] := by first | (simp [entryFrame, mkF, argsToLocals, Value.category]; done) | rfl
theorem d_prog_33_method_4_15 : decode prog_33_method_4_code 15 = .ok (.iconst 0, 1) := by decide +kernel
theorem d_prog_33_method_4_16 : decode prog_33_method_4_code 16 = .ok (.ireturn, 1) := by decide +kernel
def QEqN (Z : State) (a : Addr) (h0 : Heap) (n0 : Nat) (v : Option Value) (h : Heap) (L : List Loc) : Prop := v = some (.int (0 : Int32)) ∧ Fr n0 L ∧ h = h0
set_option maxRecDepth 65536 in
set_option maxHeartbeats 40000000 in
theorem rmEqN (l : Launch) (Z : State) (a0 : Array Value) (hw : ∀ d ∈ tables_1, d.before a0 Z = true) (ws : List Jvm.Cond) (a : Addr) (h0 : Heap) (n0 : Nat) (Z0 : n0 ≤ h0.size) :
    MetFree l (⟨"com/example/vervet/vervet/pipewire/Permission", "equals", "(Ljava/lang/Object;)Z"⟩ : MethodName) (head1 (Jvm.Cond.code (⟨"com/example/vervet/vervet/pipewire/Permission", "equals", "(Ljava/lang/Object;)Z"⟩ : MethodName) prog_33_method_4_code 3 (some .boolean) :: ws) ({ frames := 0, cells := 0, slots := 0, locals := 0 } : Room)) (fun aa UU => aa = #[(.ref a), .null] ∧ Z.Warmed39 UU.vm ∧ UU.heap = h0) (fun _ _ _ _ _ => True) (fun _ UU oo UU' => ∃ vv LL, oo = .returned vv ∧ QEqN Z a h0 n0 vv UU'.heap LL ∧ FrameEnd UU oo UU' LL ({ frames := 0, cells := 0, slots := 0, locals := 0 } : Room).cells ({ frames := 0, cells := 0, slots := 0, locals := 0 } : Room).slots) := by
  refine MetFree.of_bodySF (plainFor_of_name pn_0) hisR ?_
  intro p e s m args below meth c s₁ Bd hml0 hP hK
  obtain ⟨rfl, hZ, hh⟩ := hP
  have hx := Bd.exec
  have hby := Bd.bytes
  have hml : c.maxLocals = 3 := hml0
  have hown : s.vm.findClass "com/example/vervet/vervet/pipewire/Permission" = some m.cls := findClass_of_methodNamed Bd.named
  have hnm := (name_of_methodNamed Bd.named Bd.method).1
  have hW : ∀ (k : Nat) (d : Jvm.Cond), tables_1[k]? = some d → d.before a0 Z = true := fun k d h => hw d (List.mem_of_getElem? h)
  have X0 : Stand p l e ({ frames := 0, cells := 0, slots := 0, locals := 0 } : Room) s m #[(.ref a), .null] below meth c s₁ [] 0 0 := Stand.of_body Bd
  have e0 : s₁.heap = h0 := by rw [← hh, Bd.state]; rfl
  have N0 := Fr.nil n0
  obtain ⟨G, hG, K0⟩ : ∃ G : State → Prop, (∀ t, G t → Steps p.tables e below (s₁.setTop (entryFrame m #[(.ref a), .null] 3)) t) ∧ Go p e below s₁ (mkF m 0 #[.val (.ref a), .val .null, .unset] []) G := ⟨fun t => Steps p.tables e below (s₁.setTop (entryFrame m #[(.ref a), .null] 3)) t, fun _ h => h, fun t k => castTop (ef_prog_33_method_4_RN m a) k⟩
  have K43 : Go p e below s₁ (mkF m 1 #[.val (.ref a), .val .null, .unset] [.null]) G := fun tq kq => K0 tq (XS.aloadN X0.here hx rfl (hb hby d_prog_33_method_4_0) rfl rfl kq)
  have K45 : Go p e below s₁ (mkF m 4 #[.val (.ref a), .val .null, .unset] [(.int (0 : Int32))]) G := fun tq kq => K43 tq (X0.instanceofNull hx (g := (mkF m 1 #[.val (.ref a), .val .null, .unset] [.null])) rfl rfl (hb hby d_prog_33_method_4_1) _ kq)
  have K46 : Go p e below s₁ (mkF m 15 #[.val (.ref a), .val .null, .unset] []) G := fun tq kq => K45 tq (XS.ifYes X0.here hx rfl (pc0 := 4) (pc' := 15) rfl (hb hby d_prog_33_method_4_4) rfl ((if0 _ _).trans (teq (by decide : (0 : Int32) = (0 : Int32))).1) (by decide) (by decide) kq)
  have K47 : Go p e below s₁ (mkF m 16 #[.val (.ref a), .val .null, .unset] [(.int (0 : Int32))]) G := fun tq kq => K46 tq (XS.iconst X0.here hx rfl (hb hby d_prog_33_method_4_15) kq)
  obtain ⟨fs, hr, hrun, hended, hWW, hsame⟩ := X0.leave (v := some (.int (0 : Int32))) (fun h => by rw [Bd.returns] at h; cases h)
  refine ⟨_, _, hG _ (K47 _ (retN X0 hx (t := .boolean) Bd.returns (by simp) (hb hby d_prog_33_method_4_16) hr)), hrun, hended, _, _, rfl, ?_, ⟨_, rfl⟩, hWW, hsame.mono (by decide) (by decide)⟩
  show QEqN Z a h0 n0 _ s₁.heap _
  rw [e0]
  exact ⟨rfl, N0, rfl⟩
theorem own_no {Z : State} {a0 : Array Value} (hW : ∀ (k : Nat) (d : Jvm.Cond), tables_1[k]? = some d → d.before a0 Z = true) : ∃ c t, Z.vm.findClass "java/lang/Integer" = some c ∧ Z.vm.findClass "com/example/vervet/vervet/pipewire/Permission" = some t ∧ Z.vm.assignable c t = false := by
  obtain ⟨t, kt, g0, g2, g5, g6, -⟩ := Cond.instantiable_spec (hW 1 _ rfl)
  have g7 : kt.isInterface = false := (Bool.or_eq_false_iff.mp g6).1
  obtain ⟨cO, kO, h1, h2, h3, -, -⟩ := Cond.noSuperclass_spec (hW 43 _ rfl)
  have n1 : NS Z "java/lang/Object" "com/example/vervet/vervet/pipewire/Permission" := by
    refine ⟨cO, t, h1, g0, fun fuel => ?_⟩
    have ne := ids_ne h1 g0 (by decide)
    cases fuel with
    | zero => rfl
    | succ f => simp [Vm.isSubclassAux, ne, h2, h3]
  have n2 : NS Z "java/lang/Number" "com/example/vervet/vervet/pipewire/Permission" := NS.step (hW 42 _ rfl) n1 (by decide)
  have n3 : NS Z "java/lang/Integer" "com/example/vervet/vervet/pipewire/Permission" := NS.step (hW 41 _ rfl) n2 (by decide)
  obtain ⟨c, t', e0, e1, e3⟩ := n3
  cases g0.symm.trans e1
  obtain ⟨q, k, kp, q1, q2, q3, q4, q5, -, q7⟩ := Cond.superclass_spec e0 (hW 41 _ rfl)
  have ne := ids_ne e0 g0 (by decide)
  refine ⟨c, t, e0, g0, ?_⟩
  show Z.vm.assignableAux (255 + 1) c t = false
  simp [Vm.assignableAux, ne, q2, g2, q5, g5, g7, Vm.isSubclass, e3]
def QEqI (Z : State) (a : Addr) (b : Addr) (h0 : Heap) (n0 : Nat) (v : Option Value) (h : Heap) (L : List Loc) : Prop := v = some (.int (0 : Int32)) ∧ Fr n0 L ∧ h = h0
set_option maxRecDepth 65536 in
set_option maxHeartbeats 40000000 in
theorem rmEqI (l : Launch) (Z : State) (a0 : Array Value) (hw : ∀ d ∈ tables_1, d.before a0 Z = true) (ws : List Jvm.Cond) (a : Addr) (b : Addr) (h0 : Heap) (n0 : Nat) (Z0 : n0 ≤ h0.size) (E_b : Exa Z h0 b "java/lang/Integer") :
    MetFree l (⟨"com/example/vervet/vervet/pipewire/Permission", "equals", "(Ljava/lang/Object;)Z"⟩ : MethodName) (head1 (Jvm.Cond.code (⟨"com/example/vervet/vervet/pipewire/Permission", "equals", "(Ljava/lang/Object;)Z"⟩ : MethodName) prog_33_method_4_code 3 (some .boolean) :: ws) ({ frames := 0, cells := 0, slots := 0, locals := 0 } : Room)) (fun aa UU => aa = #[(.ref a), (.ref b)] ∧ Z.Warmed39 UU.vm ∧ UU.heap = h0) (fun _ _ _ _ _ => True) (fun _ UU oo UU' => ∃ vv LL, oo = .returned vv ∧ QEqI Z a b h0 n0 vv UU'.heap LL ∧ FrameEnd UU oo UU' LL ({ frames := 0, cells := 0, slots := 0, locals := 0 } : Room).cells ({ frames := 0, cells := 0, slots := 0, locals := 0 } : Room).slots) := by
  refine MetFree.of_bodySF (plainFor_of_name pn_0) hisR ?_
  intro p e s m args below meth c s₁ Bd hml0 hP hK
  obtain ⟨rfl, hZ, hh⟩ := hP
  have hx := Bd.exec
  have hby := Bd.bytes
  have hml : c.maxLocals = 3 := hml0
  have hown : s.vm.findClass "com/example/vervet/vervet/pipewire/Permission" = some m.cls := findClass_of_methodNamed Bd.named
  have hnm := (name_of_methodNamed Bd.named Bd.method).1
  have hW : ∀ (k : Nat) (d : Jvm.Cond), tables_1[k]? = some d → d.before a0 Z = true := fun k d h => hw d (List.mem_of_getElem? h)
  have X0 : Stand p l e ({ frames := 0, cells := 0, slots := 0, locals := 0 } : Room) s m #[(.ref a), (.ref b)] below meth c s₁ [] 0 0 := Stand.of_body Bd
  have e0 : s₁.heap = h0 := by rw [← hh, Bd.state]; rfl
  have N0 := Fr.nil n0
  obtain ⟨G, hG, K0⟩ : ∃ G : State → Prop, (∀ t, G t → Steps p.tables e below (s₁.setTop (entryFrame m #[(.ref a), (.ref b)] 3)) t) ∧ Go p e below s₁ (mkF m 0 #[.val (.ref a), .val (.ref b), .unset] []) G := ⟨fun t => Steps p.tables e below (s₁.setTop (entryFrame m #[(.ref a), (.ref b)] 3)) t, fun _ h => h, fun t k => castTop (ef_prog_33_method_4_RR m a b) k⟩
  have K48 : Go p e below s₁ (mkF m 1 #[.val (.ref a), .val (.ref b), .unset] [(.ref b)]) G := fun tq kq => K0 tq (XS.aloadN X0.here hx rfl (hb hby d_prog_33_method_4_0) rfl rfl kq)
  obtain ⟨T49, X49, e49, st49⟩ := instNo X0 hx hZ hown (hW 18 _ rfl) e0 E_b (own_no hW) (g := (mkF m 1 #[.val (.ref a), .val (.ref b), .unset] [(.ref b)])) rfl rfl (hb hby d_prog_33_method_4_1)
  have K50 : Go p e below T49 (mkF m 4 #[.val (.ref a), .val (.ref b), .unset] [(.int (0 : Int32))]) G := fun tq kq => K48 tq (st49 tq kq)
  have K51 : Go p e below T49 (mkF m 15 #[.val (.ref a), .val (.ref b), .unset] []) G := fun tq kq => K50 tq (XS.ifYes X49.here hx rfl (pc0 := 4) (pc' := 15) rfl (hb hby d_prog_33_method_4_4) rfl ((if0 _ _).trans (teq (by decide : (0 : Int32) = (0 : Int32))).1) (by decide) (by decide) kq)
  have K52 : Go p e below T49 (mkF m 16 #[.val (.ref a), .val (.ref b), .unset] [(.int (0 : Int32))]) G := fun tq kq => K51 tq (XS.iconst X49.here hx rfl (hb hby d_prog_33_method_4_15) kq)
  obtain ⟨fs, hr, hrun, hended, hWW, hsame⟩ := X49.leave (v := some (.int (0 : Int32))) (fun h => by rw [Bd.returns] at h; cases h)
  refine ⟨_, _, hG _ (K52 _ (retN X49 hx (t := .boolean) Bd.returns (by simp) (hb hby d_prog_33_method_4_16) hr)), hrun, hended, _, _, rfl, ?_, ⟨_, rfl⟩, hWW, hsame.mono (by decide) (by decide)⟩
  show QEqI Z a b h0 n0 _ T49.heap _
  rw [e49]
  exact ⟨rfl, N0, rfl⟩
theorem pn_36 : plainName "java/lang/Number" = true := by first | (simp [plainName, overriddenIn]; done) | decide +kernel
theorem ef_jdk_18_method_1_R (m : MethodId) (x0 : Addr) : entryFrame m #[(.ref x0)] 1 = mkF m 0 #[.val (.ref x0)] [] := by first | (simp [entryFrame, mkF, argsToLocals, Value.category]; done) | rfl
theorem d_jdk_18_method_1_0 : decode jdk_18_method_1_code 0 = .ok (.aload_n 0, 1) := by decide +kernel
theorem d_jdk_18_method_1_1 : decode jdk_18_method_1_code 1 = .ok (.invokespecial 1, 3) := by decide +kernel
theorem d_jdk_18_method_1_4 : decode jdk_18_method_1_code 4 = .ok (.return_, 1) := by decide +kernel
def QNum (Z : State) (a : Addr) (h0 : Heap) (n0 : Nat) (v : Option Value) (h : Heap) (L : List Loc) : Prop := v = none ∧ Fr n0 L ∧ h = h0
set_option maxRecDepth 65536 in
set_option maxHeartbeats 40000000 in
theorem rmNum (l : Launch) (Z : State) (a0 : Array Value) (hw : ∀ d ∈ tables_1, d.before a0 Z = true) (ws : List Jvm.Cond) (a : Addr) (h0 : Heap) (n0 : Nat) (Z0 : n0 ≤ h0.size) :
    MetFree l (⟨"java/lang/Number", "<init>", "()V"⟩ : MethodName) (head1 (Jvm.Cond.code (⟨"java/lang/Number", "<init>", "()V"⟩ : MethodName) jdk_18_method_1_code 1 none :: ws) ({ frames := 1, cells := 0, slots := 0, locals := 12 } : Room)) (fun aa UU => aa = #[(.ref a)] ∧ Z.Warmed39 UU.vm ∧ UU.heap = h0) (fun _ _ _ _ _ => True) (fun _ UU oo UU' => ∃ vv LL, oo = .returned vv ∧ QNum Z a h0 n0 vv UU'.heap LL ∧ FrameEnd UU oo UU' LL ({ frames := 1, cells := 0, slots := 0, locals := 12 } : Room).cells ({ frames := 1, cells := 0, slots := 0, locals := 12 } : Room).slots) := by
  refine MetFree.of_bodySF (plainFor_of_name pn_36) hisR ?_
  intro p e s m args below meth c s₁ Bd hml0 hP hK
  obtain ⟨rfl, hZ, hh⟩ := hP
  have hx := Bd.exec
  have hby := Bd.bytes
  have hml : c.maxLocals = 1 := hml0
  have hown : s.vm.findClass "java/lang/Number" = some m.cls := findClass_of_methodNamed Bd.named
  have hnm := (name_of_methodNamed Bd.named Bd.method).1
  have hW : ∀ (k : Nat) (d : Jvm.Cond), tables_1[k]? = some d → d.before a0 Z = true := fun k d h => hw d (List.mem_of_getElem? h)
  have X0 : Stand p l e ({ frames := 1, cells := 0, slots := 0, locals := 12 } : Room) s m #[(.ref a)] below meth c s₁ [] 0 0 := Stand.of_body Bd
  have e0 : s₁.heap = h0 := by rw [← hh, Bd.state]; rfl
  have N0 := Fr.nil n0
  obtain ⟨G, hG, K0⟩ : ∃ G : State → Prop, (∀ t, G t → Steps p.tables e below (s₁.setTop (entryFrame m #[(.ref a)] 1)) t) ∧ Go p e below s₁ (mkF m 0 #[.val (.ref a)] []) G := ⟨fun t => Steps p.tables e below (s₁.setTop (entryFrame m #[(.ref a)] 1)) t, fun _ h => h, fun t k => castTop (ef_jdk_18_method_1_R m a) k⟩
  have K53 : Go p e below s₁ (mkF m 1 #[.val (.ref a)] [(.ref a)]) G := fun tq kq => K0 tq (XS.aloadN X0.here hx rfl (hb hby d_jdk_18_method_1_0) rfl rfl kq)
  obtain ⟨T54, X54, e54, st54⟩ := initO X0 hx hZ hown (hW 38 _ rfl) (hW 7 _ rfl) (hW 8 _ rfl) e0 (g := (mkF m 1 #[.val (.ref a)] [(.ref a)])) rfl (by rw [hml]; rfl) rfl (hb hby d_jdk_18_method_1_1) (by decide) (W := 0) (by show 2 * 0 + _ ≤ _; exact Nat.le_of_eq rfl) (by decide)
  have K55 : Go p e below T54 (mkF m 4 #[.val (.ref a)] []) G := fun tq kq => K53 tq (st54 tq kq)
  obtain ⟨fs, hr, hrun, hended, hWW, hsame⟩ := X54.leave (v := none) (fun _ => rfl)
  refine ⟨_, _, hG _ (K55 _ (X54.returnOut hx Bd.returns (hb hby d_jdk_18_method_1_4) hr)), hrun, hended, _, _, rfl, ?_, ⟨_, rfl⟩, hWW, hsame.mono (by decide) (by decide)⟩
  show QNum Z a h0 n0 _ T54.heap _
  rw [e54]
  exact ⟨rfl, N0, rfl⟩
theorem pn_41 : plainName "java/lang/Integer" = true := by first | (simp [plainName, overriddenIn]; done) | decide +kernel
theorem ef_jdk_33_method_23_RI (m : MethodId) (x0 : Addr) (x1 : Int32) : entryFrame m #[(.ref x0), (.int x1)] 2 = mkF m 0 #[.val (.ref x0), .val (.int x1)] [] := by first | (simp [entryFrame, mkF, argsToLocals, Value.category]; done) | rfl
theorem pd_43 : parseMethodDescriptor "()V" = some ⟨[], none⟩ := by decide +kernel
theorem d_jdk_33_method_23_0 : decode jdk_33_method_23_code 0 = .ok (.aload_n 0, 1) := by decide +kernel
theorem d_jdk_33_method_23_1 : decode jdk_33_method_23_code 1 = .ok (.invokespecial 202, 3) := by decide +kernel
theorem d_jdk_33_method_23_4 : decode jdk_33_method_23_code 4 = .ok (.aload_n 0, 1) := by decide +kernel
theorem d_jdk_33_method_23_5 : decode jdk_33_method_23_code 5 = .ok (.iload_n 1, 1) := by decide +kernel
theorem d_jdk_33_method_23_6 : decode jdk_33_method_23_code 6 = .ok (.putfield 205, 3) := by decide +kernel
theorem d_jdk_33_method_23_9 : decode jdk_33_method_23_code 9 = .ok (.return_, 1) := by decide +kernel
def QII (Z : State) (a : Addr) (p1 : Int32) (h0 : Heap) (n0 : Nat) (v : Option Value) (h : Heap) (L : List Loc) : Prop := v = none ∧ Fr n0 L ∧ Keep h0 h [a] ∧ Exa Z h a "java/lang/Integer"
set_option maxRecDepth 65536 in
set_option maxHeartbeats 40000000 in
theorem rmII (l : Launch) (Z : State) (a0 : Array Value) (hw : ∀ d ∈ tables_1, d.before a0 Z = true) (ws : List Jvm.Cond) (a : Addr) (p1 : Int32) (h0 : Heap) (n0 : Nat) (Z0 : n0 ≤ h0.size) (F_value_a : Fld Z h0 a "java/lang/Integer" "value" "I" (.int (0 : Int32))) (E_a : Exa Z h0 a "java/lang/Integer") (ge_a : n0 ≤ a) :
    MetFree l (⟨"java/lang/Integer", "<init>", "(I)V"⟩ : MethodName) (head1 (Jvm.Cond.code (⟨"java/lang/Integer", "<init>", "(I)V"⟩ : MethodName) jdk_33_method_23_code 2 none :: ws) ({ frames := 2, cells := 0, slots := 0, locals := 24 } : Room)) (fun aa UU => aa = #[(.ref a), (.int p1)] ∧ Z.Warmed39 UU.vm ∧ UU.heap = h0) (fun _ _ _ _ _ => True) (fun _ UU oo UU' => ∃ vv LL, oo = .returned vv ∧ QII Z a p1 h0 n0 vv UU'.heap LL ∧ FrameEnd UU oo UU' LL ({ frames := 2, cells := 0, slots := 0, locals := 24 } : Room).cells ({ frames := 2, cells := 0, slots := 0, locals := 24 } : Room).slots) := by
  refine MetFree.of_bodySF (plainFor_of_name pn_41) hisR ?_
  intro p e s m args below meth c s₁ Bd hml0 hP hK
  obtain ⟨rfl, hZ, hh⟩ := hP
  have hx := Bd.exec
  have hby := Bd.bytes
  have hml : c.maxLocals = 2 := hml0
  have hown : s.vm.findClass "java/lang/Integer" = some m.cls := findClass_of_methodNamed Bd.named
  have hnm := (name_of_methodNamed Bd.named Bd.method).1
  have hW : ∀ (k : Nat) (d : Jvm.Cond), tables_1[k]? = some d → d.before a0 Z = true := fun k d h => hw d (List.mem_of_getElem? h)
  have X0 : Stand p l e ({ frames := 2, cells := 0, slots := 0, locals := 24 } : Room) s m #[(.ref a), (.int p1)] below meth c s₁ [] 0 0 := Stand.of_body Bd
  have e0 : s₁.heap = h0 := by rw [← hh, Bd.state]; rfl
  have N0 := Fr.nil n0
  obtain ⟨G, hG, K0⟩ : ∃ G : State → Prop, (∀ t, G t → Steps p.tables e below (s₁.setTop (entryFrame m #[(.ref a), (.int p1)] 2)) t) ∧ Go p e below s₁ (mkF m 0 #[.val (.ref a), .val (.int p1)] []) G := ⟨fun t => Steps p.tables e below (s₁.setTop (entryFrame m #[(.ref a), (.int p1)] 2)) t, fun _ h => h, fun t k => castTop (ef_jdk_33_method_23_RI m a p1) k⟩
  have K56 : Go p e below s₁ (mkF m 1 #[.val (.ref a), .val (.int p1)] [(.ref a)]) G := fun tq kq => K0 tq (XS.aloadN X0.here hx rfl (hb hby d_jdk_33_method_23_0) rfl rfl kq)
  obtain ⟨v57, _, ⟨T57, L57, k57, n57⟩, -, X57, ⟨Lc57, hQ57, l57, y57, z57⟩, st57⟩ := X0.specialBack hx (y := (⟨"java/lang/Number", "<init>", "()V"⟩ : MethodName)) rfl hown (mvT hZ (hW 32 _ rfl)) (mvT hZ (hW 33 _ rfl)) (mvT hZ (hW 37 _ rfl)) (by decide) (backOf (W := 0) (rmNum l Z a0 hw [] a h0 n0 Z0) hZ (hW 37 _ rfl) (hW 36 _ rfl) (by decide) (by decide)) (g := (mkF m 1 #[.val (.ref a), .val (.int p1)] [(.ref a)])) rfl (by rw [hml]; rfl) (Steps.refl _) (a := a) (argsL := []) (rest := []) (lenOf pd_43 rfl) rfl (by show 2 * 0 + _ ≤ _; exact Nat.le_of_eq rfl) (hb hby d_jdk_33_method_23_1) (fun _ _ => ⟨rfl, e0, (by decide : 0 + 0 ≤ _), (by decide : 0 + 0 ≤ _)⟩)
  dsimp only [Pt.U, Pt.locs, Pt.cells, Pt.slots] at X57 l57 y57 z57 st57 hQ57
  subst l57 y57 z57
  obtain ⟨rfl, N57q, E57q⟩ := hQ57
  have N57 := Fr.app N0 N57q
  have K58 : Go p e below T57 (mkF m 4 #[.val (.ref a), .val (.int p1)] []) G := fun tq kq => K56 tq (st57.trans kq)
  have K59 : Go p e below T57 (mkF m 5 #[.val (.ref a), .val (.int p1)] [(.ref a)]) G := fun tq kq => K58 tq (XS.aloadN X57.here hx rfl (hb hby d_jdk_33_method_23_4) rfl rfl kq)
  have K60 : Go p e below T57 (mkF m 6 #[.val (.ref a), .val (.int p1)] [(.int p1), (.ref a)]) G := fun tq kq => K59 tq (XS.iloadN X57.here hx rfl (hb hby d_jdk_33_method_23_5) rfl kq)
  obtain ⟨T61, h61, X61, e61, W61, st61⟩ := putF X57 hx hZ hown (host := "") (Or.inl (hW 39 _ rfl)) Via.refl E57q F_value_a E_a (Or.inr ⟨(hW 40 _ rfl), rfl, hnm⟩) (hW 27 _ rfl) (ty := .int) (by decide) rfl rfl (g := (mkF m 6 #[.val (.ref a), .val (.int p1)] [(.int p1), (.ref a)])) rfl rfl (hb hby d_jdk_33_method_23_6)
  have N61 := Fr.snoc X61 N57 ge_a
  have F61 := Fld.same W61 F_value_a
  have K62 : Go p e below T61 (mkF m 9 #[.val (.ref a), .val (.int p1)] []) G := fun tq kq => K60 tq (st61 tq kq)
  obtain ⟨fs, hr, hrun, hended, hWW, hsame⟩ := X61.leave (v := none) (fun _ => rfl)
  refine ⟨_, _, hG _ (K62 _ (X61.returnOut hx Bd.returns (hb hby d_jdk_33_method_23_9) hr)), hrun, hended, _, _, rfl, ?_, ⟨_, rfl⟩, hWW, hsame.mono (by decide) (by decide)⟩
  show QII Z a p1 h0 n0 _ T61.heap _
  rw [e61]
  exact ⟨rfl, N61, ((Keep.refl h0 [a]).wr W61 (Or.inl (List.mem_of_getElem? (i := 0) rfl))), (E_a.wr W61)⟩
theorem ef_jdk_33_method_22_I (m : MethodId) (x0 : Int32) : entryFrame m #[(.int x0)] 1 = mkF m 0 #[.val (.int x0)] [] := by first | (simp [entryFrame, mkF, argsToLocals, Value.category]; done) | rfl
theorem pd_51 : parseMethodDescriptor "(I)V" = some ⟨[.int], none⟩ := by decide +kernel
theorem d_jdk_33_method_22_0 : decode jdk_33_method_22_code 0 = .ok (.iload_n 0, 1) := by decide +kernel
theorem d_jdk_33_method_22_1 : decode jdk_33_method_22_code 1 = .ok (.bipush (-128), 2) := by decide +kernel
theorem d_jdk_33_method_22_3 : decode jdk_33_method_22_code 3 = .ok (.if_icmp .lt 20, 3) := by decide +kernel
theorem d_jdk_33_method_22_6 : decode jdk_33_method_22_code 6 = .ok (.iload_n 0, 1) := by decide +kernel
theorem d_jdk_33_method_22_7 : decode jdk_33_method_22_code 7 = .ok (.getstatic 191, 3) := by decide +kernel
theorem d_jdk_33_method_22_10 : decode jdk_33_method_22_code 10 = .ok (.if_icmp .gt 13, 3) := by decide +kernel
theorem d_jdk_33_method_22_13 : decode jdk_33_method_22_code 13 = .ok (.getstatic 195, 3) := by decide +kernel
theorem d_jdk_33_method_22_16 : decode jdk_33_method_22_code 16 = .ok (.iload_n 0, 1) := by decide +kernel
theorem d_jdk_33_method_22_17 : decode jdk_33_method_22_code 17 = .ok (.sipush 128, 3) := by decide +kernel
theorem d_jdk_33_method_22_20 : decode jdk_33_method_22_code 20 = .ok (.iadd, 1) := by decide +kernel
theorem d_jdk_33_method_22_21 : decode jdk_33_method_22_code 21 = .ok (.aaload, 1) := by decide +kernel
theorem d_jdk_33_method_22_22 : decode jdk_33_method_22_code 22 = .ok (.areturn, 1) := by decide +kernel
theorem d_jdk_33_method_22_23 : decode jdk_33_method_22_code 23 = .ok (.new 1, 3) := by decide +kernel
theorem d_jdk_33_method_22_26 : decode jdk_33_method_22_code 26 = .ok (.dup, 1) := by decide +kernel
theorem d_jdk_33_method_22_27 : decode jdk_33_method_22_code 27 = .ok (.iload_n 0, 1) := by decide +kernel
theorem d_jdk_33_method_22_28 : decode jdk_33_method_22_code 28 = .ok (.invokespecial 199, 3) := by decide +kernel
theorem d_jdk_33_method_22_31 : decode jdk_33_method_22_code 31 = .ok (.areturn, 1) := by decide +kernel
def QVO (Z : State) (p1 : Int32) (ca : Addr) (cc : Cell) (h0 : Heap) (n0 : Nat) (v : Option Value) (h : Heap) (L : List Loc) : Prop := ∃ r : Addr, v = some (.ref r) ∧ Fr n0 L ∧ Keep h0 h [] ∧ Exa Z h r "java/lang/Integer"
set_option maxRecDepth 65536 in
set_option maxHeartbeats 40000000 in
theorem rmVO (l : Launch) (Z : State) (a0 : Array Value) (hw : ∀ d ∈ tables_1, d.before a0 Z = true) (ws : List Jvm.Cond) (p1 : Int32) (ca : Addr) (cc : Cell) (h0 : Heap) (n0 : Nat) (Z0 : n0 ≤ h0.size) (O0 : Old Z n0 h0) (S_high : Sta Z Z.heap "java/lang/Integer$IntegerCache" "high" "I" (.int (127 : Int32))) (S_cache : Sta Z Z.heap "java/lang/Integer$IntegerCache" "cache" "[Ljava/lang/Integer;" (.ref ca)) (ArC : Arr Z Z.heap ca cc (.object "java/lang/Integer")) (hsz : cc.slots.size = 256) (hel : ∀ i, i < 256 → ∃ b, cc.slots[i]? = some (.ref b) ∧ Exa Z Z.heap b "java/lang/Integer") :
    MetFree l (⟨"java/lang/Integer", "valueOf", "(I)Ljava/lang/Integer;"⟩ : MethodName) (head1 (Jvm.Cond.code (⟨"java/lang/Integer", "valueOf", "(I)Ljava/lang/Integer;"⟩ : MethodName) jdk_33_method_22_code 1 (some (.object "java/lang/Integer")) :: ws) ({ frames := 3, cells := 1, slots := 1, locals := 38 } : Room)) (fun aa UU => aa = #[(.int p1)] ∧ Z.Warmed39 UU.vm ∧ UU.heap = h0) (fun _ _ _ _ _ => True) (fun _ UU oo UU' => ∃ vv LL, oo = .returned vv ∧ QVO Z p1 ca cc h0 n0 vv UU'.heap LL ∧ FrameEnd UU oo UU' LL ({ frames := 3, cells := 1, slots := 1, locals := 38 } : Room).cells ({ frames := 3, cells := 1, slots := 1, locals := 38 } : Room).slots) := by
  refine MetFree.of_bodySF (plainFor_of_name pn_41) hisR ?_
  intro p e s m args below meth c s₁ Bd hml0 hP hK
  obtain ⟨rfl, hZ, hh⟩ := hP
  have hx := Bd.exec
  have hby := Bd.bytes
  have hml : c.maxLocals = 1 := hml0
  have hown : s.vm.findClass "java/lang/Integer" = some m.cls := findClass_of_methodNamed Bd.named
  have hnm := (name_of_methodNamed Bd.named Bd.method).1
  have hW : ∀ (k : Nat) (d : Jvm.Cond), tables_1[k]? = some d → d.before a0 Z = true := fun k d h => hw d (List.mem_of_getElem? h)
  have X0 : Stand p l e ({ frames := 3, cells := 1, slots := 1, locals := 38 } : Room) s m #[(.int p1)] below meth c s₁ [] 0 0 := Stand.of_body Bd
  have e0 : s₁.heap = h0 := by rw [← hh, Bd.state]; rfl
  have N0 := Fr.nil n0
  obtain ⟨G, hG, K0⟩ : ∃ G : State → Prop, (∀ t, G t → Steps p.tables e below (s₁.setTop (entryFrame m #[(.int p1)] 1)) t) ∧ Go p e below s₁ (mkF m 0 #[.val (.int p1)] []) G := ⟨fun t => Steps p.tables e below (s₁.setTop (entryFrame m #[(.int p1)] 1)) t, fun _ h => h, fun t k => castTop (ef_jdk_33_method_22_I m p1) k⟩
  have K63 : Go p e below s₁ (mkF m 1 #[.val (.int p1)] [(.int p1)]) G := fun tq kq => K0 tq (XS.iloadN X0.here hx rfl (hb hby d_jdk_33_method_22_0) rfl kq)
  have K64 : Go p e below s₁ (mkF m 3 #[.val (.int p1)] [(.int (-128 : Int32)), (.int p1)]) G := fun tq kq => K63 tq (XS.bipush X0.here hx rfl (hb hby d_jdk_33_method_22_1) kq)
  by_cases hc65 : p1 < (-128 : Int32)
  · skip
    have K66 : Go p e below s₁ (mkF m 23 #[.val (.int p1)] []) G := fun tq kq => K64 tq (XS.icmpYes X0.here hx rfl (pc0 := 3) (pc' := 23) rfl (hb hby d_jdk_33_method_22_3) rfl ((tlt hc65).1) (by decide) (by decide) kq)
    obtain ⟨T67, h67, X67, e67, E67, A67, D67, -, st67⟩ := newO X0 hx hZ hown (hW 26 _ rfl) (hW 27 _ rfl) (hW 22 _ rfl) e0 (g := (mkF m 23 #[.val (.int p1)] [])) rfl (hb hby d_jdk_33_method_22_23) (by decide) (by decide)
    obtain ⟨b67, g67⟩ : ∃ z, z = h0.size := ⟨_, rfl⟩
    rw [← g67] at A67 D67 st67
    have ge_b67 : n0 ≤ b67 := Nat.le_trans Z0 (Nat.le_of_eq g67.symm)
    have sz_b67 : h0.size ≤ b67 := Nat.le_trans ((Keep.refl h0 [])).1 (Nat.le_of_eq g67.symm)
    have F67_value : Fld Z h67 b67 "java/lang/Integer" "value" "I" (.int (0 : Int32)) := D67 (Or.inr (hW 40 _ rfl)) (ty := .int) (by decide)
    have K68 : Go p e below T67 (mkF m 26 #[.val (.int p1)] [(.ref b67)]) G := fun tq kq => K66 tq (st67 tq kq)
    have K69 : Go p e below T67 (mkF m 27 #[.val (.int p1)] [(.ref b67), (.ref b67)]) G := fun tq kq => K68 tq (XS.dup X67.here hx rfl (hb hby d_jdk_33_method_22_26) rfl rfl kq)
    have K70 : Go p e below T67 (mkF m 28 #[.val (.int p1)] [(.int p1), (.ref b67), (.ref b67)]) G := fun tq kq => K69 tq (XS.iloadN X67.here hx rfl (hb hby d_jdk_33_method_22_27) rfl kq)
    obtain ⟨v71, _, ⟨T71, L71, k71, n71⟩, -, X71, ⟨Lc71, hQ71, l71, y71, z71⟩, st71⟩ := X67.specialBack hx (y := (⟨"java/lang/Integer", "<init>", "(I)V"⟩ : MethodName)) rfl hown (mvT hZ (hW 28 _ rfl)) (mvT hZ (hW 29 _ rfl)) (mvT hZ (hW 31 _ rfl)) (by decide) (backOf (W := 1) (rmII l Z a0 hw [] b67 p1 h67 n0 (Nat.le_trans Z0 E67.1) F67_value A67 ge_b67) hZ (hW 31 _ rfl) (hW 22 _ rfl) (by decide) (by decide)) (g := (mkF m 28 #[.val (.int p1)] [(.int p1), (.ref b67), (.ref b67)])) rfl (by rw [hml]; rfl) (Steps.refl _) (a := b67) (argsL := [(.int p1)]) (rest := [(.ref b67)]) (lenOf pd_51 rfl) rfl (by show 2 * 0 + _ ≤ _; exact Nat.le_of_eq rfl) (hb hby d_jdk_33_method_22_28) (fun _ _ => ⟨rfl, e67, (by decide : 1 + 0 ≤ _), (by decide : 1 + 0 ≤ _)⟩)
    dsimp only [Pt.U, Pt.locs, Pt.cells, Pt.slots] at X71 l71 y71 z71 st71 hQ71
    subst l71 y71 z71
    obtain ⟨rfl, N71q, K71q, E71q⟩ := hQ71
    have N71 := Fr.app N0 N71q
    have K72 : Go p e below T71 (mkF m 31 #[.val (.int p1)] [(.ref b67)]) G := fun tq kq => K70 tq (st71.trans kq)
    obtain ⟨fs, hr, hrun, hended, hWW, hsame⟩ := X71.leave (v := some (.ref b67)) (fun h => by rw [Bd.returns] at h; cases h)
    refine ⟨_, _, hG _ (K72 _ (retOut X71 hx Bd.returns rfl (Or.inr (Or.inr (Or.inr (Or.inr ⟨rfl, rfl, rfl⟩)))) (hb hby d_jdk_33_method_22_31) hr)), hrun, hended, _, _, rfl, ?_, ⟨_, rfl⟩, hWW, hsame.mono (by decide) (by decide)⟩
    show QVO Z p1 ca cc h0 n0 _ T71.heap _
    exact ⟨b67, rfl, N71, (((Keep.refl h0 []).ext E67).trans K71q (allS (Or.inr sz_b67) all0)), E71q⟩
  · skip
    have K73 : Go p e below s₁ (mkF m 6 #[.val (.int p1)] []) G := fun tq kq => K64 tq (XS.icmpNo X0.here hx rfl (hb hby d_jdk_33_method_22_3) rfl ((flt hc65).1) kq)
    have K74 : Go p e below s₁ (mkF m 7 #[.val (.int p1)] [(.int p1)]) G := fun tq kq => K73 tq (XS.iloadN X0.here hx rfl (hb hby d_jdk_33_method_22_6) rfl kq)
    obtain ⟨T75, X75, e75, st75⟩ := getS2 X0 hx hZ hown (host := "") (Or.inl (hW 24 _ rfl)) Via.refl e0 (S_high.ext O0.2) (g := (mkF m 7 #[.val (.int p1)] [(.int p1)])) rfl (hb hby d_jdk_33_method_22_7)
    have K76 : Go p e below T75 (mkF m 10 #[.val (.int p1)] [(.int (127 : Int32)), (.int p1)]) G := fun tq kq => K74 tq (st75 tq kq)
    by_cases hc77 : (127 : Int32) < p1
    · skip
      have K78 : Go p e below T75 (mkF m 23 #[.val (.int p1)] []) G := fun tq kq => K76 tq (XS.icmpYes X75.here hx rfl (pc0 := 10) (pc' := 23) rfl (hb hby d_jdk_33_method_22_10) rfl ((tlt hc77).2.2.1) (by decide) (by decide) kq)
      obtain ⟨T79, h79, X79, e79, E79, A79, D79, -, st79⟩ := newO X75 hx hZ hown (hW 26 _ rfl) (hW 27 _ rfl) (hW 22 _ rfl) e75 (g := (mkF m 23 #[.val (.int p1)] [])) rfl (hb hby d_jdk_33_method_22_23) (by decide) (by decide)
      obtain ⟨b79, g79⟩ : ∃ z, z = h0.size := ⟨_, rfl⟩
      rw [← g79] at A79 D79 st79
      have ge_b79 : n0 ≤ b79 := Nat.le_trans Z0 (Nat.le_of_eq g79.symm)
      have sz_b79 : h0.size ≤ b79 := Nat.le_trans ((Keep.refl h0 [])).1 (Nat.le_of_eq g79.symm)
      have F79_value : Fld Z h79 b79 "java/lang/Integer" "value" "I" (.int (0 : Int32)) := D79 (Or.inr (hW 40 _ rfl)) (ty := .int) (by decide)
      have K80 : Go p e below T79 (mkF m 26 #[.val (.int p1)] [(.ref b79)]) G := fun tq kq => K78 tq (st79 tq kq)
      have K81 : Go p e below T79 (mkF m 27 #[.val (.int p1)] [(.ref b79), (.ref b79)]) G := fun tq kq => K80 tq (XS.dup X79.here hx rfl (hb hby d_jdk_33_method_22_26) rfl rfl kq)
      have K82 : Go p e below T79 (mkF m 28 #[.val (.int p1)] [(.int p1), (.ref b79), (.ref b79)]) G := fun tq kq => K81 tq (XS.iloadN X79.here hx rfl (hb hby d_jdk_33_method_22_27) rfl kq)
      obtain ⟨v83, _, ⟨T83, L83, k83, n83⟩, -, X83, ⟨Lc83, hQ83, l83, y83, z83⟩, st83⟩ := X79.specialBack hx (y := (⟨"java/lang/Integer", "<init>", "(I)V"⟩ : MethodName)) rfl hown (mvT hZ (hW 28 _ rfl)) (mvT hZ (hW 29 _ rfl)) (mvT hZ (hW 31 _ rfl)) (by decide) (backOf (W := 1) (rmII l Z a0 hw [] b79 p1 h79 n0 (Nat.le_trans Z0 E79.1) F79_value A79 ge_b79) hZ (hW 31 _ rfl) (hW 22 _ rfl) (by decide) (by decide)) (g := (mkF m 28 #[.val (.int p1)] [(.int p1), (.ref b79), (.ref b79)])) rfl (by rw [hml]; rfl) (Steps.refl _) (a := b79) (argsL := [(.int p1)]) (rest := [(.ref b79)]) (lenOf pd_51 rfl) rfl (by show 2 * 0 + _ ≤ _; exact Nat.le_of_eq rfl) (hb hby d_jdk_33_method_22_28) (fun _ _ => ⟨rfl, e79, (by decide : 1 + 0 ≤ _), (by decide : 1 + 0 ≤ _)⟩)
      dsimp only [Pt.U, Pt.locs, Pt.cells, Pt.slots] at X83 l83 y83 z83 st83 hQ83
      subst l83 y83 z83
      obtain ⟨rfl, N83q, K83q, E83q⟩ := hQ83
      have N83 := Fr.app N0 N83q
      have K84 : Go p e below T83 (mkF m 31 #[.val (.int p1)] [(.ref b79)]) G := fun tq kq => K82 tq (st83.trans kq)
      obtain ⟨fs, hr, hrun, hended, hWW, hsame⟩ := X83.leave (v := some (.ref b79)) (fun h => by rw [Bd.returns] at h; cases h)
      refine ⟨_, _, hG _ (K84 _ (retOut X83 hx Bd.returns rfl (Or.inr (Or.inr (Or.inr (Or.inr ⟨rfl, rfl, rfl⟩)))) (hb hby d_jdk_33_method_22_31) hr)), hrun, hended, _, _, rfl, ?_, ⟨_, rfl⟩, hWW, hsame.mono (by decide) (by decide)⟩
      show QVO Z p1 ca cc h0 n0 _ T83.heap _
      exact ⟨b79, rfl, N83, (((Keep.refl h0 []).ext E79).trans K83q (allS (Or.inr sz_b79) all0)), E83q⟩
    · skip
      have K85 : Go p e below T75 (mkF m 13 #[.val (.int p1)] []) G := fun tq kq => K76 tq (XS.icmpNo X75.here hx rfl (hb hby d_jdk_33_method_22_10) rfl ((flt hc77).2.2.1) kq)
      obtain ⟨T86, X86, e86, st86⟩ := getS2 X75 hx hZ hown (host := "") (Or.inl (hW 44 _ rfl)) Via.refl e75 (S_cache.ext O0.2) (g := (mkF m 13 #[.val (.int p1)] [])) rfl (hb hby d_jdk_33_method_22_13)
      have K87 : Go p e below T86 (mkF m 16 #[.val (.int p1)] [(.ref ca)]) G := fun tq kq => K85 tq (st86 tq kq)
      have K88 : Go p e below T86 (mkF m 17 #[.val (.int p1)] [(.int p1), (.ref ca)]) G := fun tq kq => K87 tq (XS.iloadN X86.here hx rfl (hb hby d_jdk_33_method_22_16) rfl kq)
      have K89 : Go p e below T86 (mkF m 20 #[.val (.int p1)] [(.int (128 : Int32)), (.int p1), (.ref ca)]) G := fun tq kq => K88 tq (XS.sipush X86.here hx rfl (hb hby d_jdk_33_method_22_17) kq)
      have K90 : Go p e below T86 (mkF m 21 #[.val (.int p1)] [(.int (p1 + (128 : Int32))), (.ref ca)]) G := fun tq kq => K89 tq (XS.iadd X86.here hx rfl (hb hby d_jdk_33_method_22_20) rfl kq)
      have pk := Jvm.Free.IntBox.place_ok p1 hc65 hc77
      obtain ⟨bx, hbx, Ebx⟩ := hel _ pk.2
      have ArN := ArC.ext O0.2
      have K91 : Go p e below T86 (mkF m 22 #[.val (.int p1)] [(.ref bx)]) G := fun tq kq => K90 tq (X86.aaload hx (j := (p1 + (128 : Int32))) (v := .ref bx) (by rw [e86]; exact ArN.1) (State.isArrayOf_alike hZ.alike ArN.2.1) rfl ArN.2.2 (by rw [hsz]; exact pk.1) hbx (g := (mkF m 21 #[.val (.int p1)] [(.int (p1 + (128 : Int32))), (.ref ca)])) rfl rfl (hb hby d_jdk_33_method_22_21) _ kq)
      obtain ⟨fs, hr, hrun, hended, hWW, hsame⟩ := X86.leave (v := some (.ref bx)) (fun h => by rw [Bd.returns] at h; cases h)
      refine ⟨_, _, hG _ (K91 _ (retOut X86 hx Bd.returns rfl (Or.inr (Or.inr (Or.inr (Or.inr ⟨rfl, rfl, rfl⟩)))) (hb hby d_jdk_33_method_22_22) hr)), hrun, hended, _, _, rfl, ?_, ⟨_, rfl⟩, hWW, hsame.mono (by decide) (by decide)⟩
      show QVO Z p1 ca cc h0 n0 _ T86.heap _
      rw [e86]
      exact ⟨bx, rfl, N0, (Keep.refl h0 []), (Ebx.ext O0.2)⟩
theorem pn_69 : plainName "com/example/vervet/vervet/pipewire/PermissionEqualsPinLaw" = true := by first | (simp [plainName, overriddenIn]; done) | decide +kernel
theorem ef_code_IIIII (m : MethodId) (x0 : Int32) (x1 : Int32) (x2 : Int32) (x3 : Int32) (x4 : Int32) : entryFrame m #[(.int x0), (.int x1), (.int x2), (.int x3), (.int x4)] maxLocals = mkF m 0 #[.val (.int x0), .val (.int x1), .val (.int x2), .val (.int x3), .val (.int x4), .unset, .unset, .unset, .unset, .unset, .unset, .unset, .unset] [] := by first | (simp [entryFrame, mkF, argsToLocals, Value.category, maxLocals]; done) | rfl
theorem pd_71 : parseMethodDescriptor "(II)V" = some ⟨[.int, .int], none⟩ := by decide +kernel
theorem pd_72 : parseMethodDescriptor "(Ljava/lang/Object;)Z" = some ⟨[(.object "java/lang/Object")], some .boolean⟩ := by decide +kernel
theorem pd_73 : parseMethodDescriptor "(I)Ljava/lang/Integer;" = some ⟨[.int], some (.object "java/lang/Integer")⟩ := by decide +kernel
def Q0 (Z : State) (q0 : Int32) (q1 : Int32) (q2 : Int32) (q3 : Int32) (q4 : Int32) (ca : Addr) (cc : Cell) (h0 : Heap) (n0 : Nat) (v : Option Value) (h : Heap) (L : List Loc) : Prop := v = some (.int 1) ∧ Fr n0 L
set_option maxRecDepth 65536 in
set_option maxHeartbeats 40000000 in
theorem rm0 (l : Launch) (Z : State) (a0 : Array Value) (hw : ∀ d ∈ tables_1, d.before a0 Z = true) (ws : List Jvm.Cond) (q0 : Int32) (q1 : Int32) (q2 : Int32) (q3 : Int32) (q4 : Int32) (ca : Addr) (cc : Cell) (h0 : Heap) (n0 : Nat) (Z0 : n0 ≤ h0.size) (O0 : Old Z n0 h0) (S_high : Sta Z Z.heap "java/lang/Integer$IntegerCache" "high" "I" (.int (127 : Int32))) (S_cache : Sta Z Z.heap "java/lang/Integer$IntegerCache" "cache" "[Ljava/lang/Integer;" (.ref ca)) (ArC : Arr Z Z.heap ca cc (.object "java/lang/Integer")) (hsz : cc.slots.size = 256) (hel : ∀ i, i < 256 → ∃ b, cc.slots[i]? = some (.ref b) ∧ Exa Z Z.heap b "java/lang/Integer") :
    MetFree l x (head1 (Jvm.Cond.code x code maxLocals ret :: ws) room_1) (fun aa UU => aa = #[(.int q0), (.int q1), (.int q2), (.int q3), (.int q4)] ∧ Z.Warmed39 UU.vm ∧ UU.heap = h0) (fun _ _ _ _ _ => True) (fun _ UU oo UU' => ∃ vv LL, oo = .returned vv ∧ Q0 Z q0 q1 q2 q3 q4 ca cc h0 n0 vv UU'.heap LL ∧ FrameEnd UU oo UU' LL 16 128) := by
  refine MetFree.of_bodySF (plainFor_of_name pn_69) hisR ?_
  intro p e s m args below meth c s₁ Bd hml0 hP hK
  obtain ⟨rfl, hZ, hh⟩ := hP
  have hx := Bd.exec
  have hby := Bd.bytes
  have hml : c.maxLocals = 13 := hml0
  have hown : s.vm.findClass "com/example/vervet/vervet/pipewire/PermissionEqualsPinLaw" = some m.cls := findClass_of_methodNamed Bd.named
  have hnm := (name_of_methodNamed Bd.named Bd.method).1
  have hW : ∀ (k : Nat) (d : Jvm.Cond), tables_1[k]? = some d → d.before a0 Z = true := fun k d h => hw d (List.mem_of_getElem? h)
  have X0 : Stand p l e room_1 s m #[(.int q0), (.int q1), (.int q2), (.int q3), (.int q4)] below meth c s₁ [] 0 0 := Stand.of_body Bd
  have e0 : s₁.heap = h0 := by rw [← hh, Bd.state]; rfl
  have N0 := Fr.nil n0
  obtain ⟨G, hG, K0⟩ : ∃ G : State → Prop, (∀ t, G t → Steps p.tables e below (s₁.setTop (entryFrame m #[(.int q0), (.int q1), (.int q2), (.int q3), (.int q4)] maxLocals)) t) ∧ Go p e below s₁ (mkF m 0 #[.val (.int q0), .val (.int q1), .val (.int q2), .val (.int q3), .val (.int q4), .unset, .unset, .unset, .unset, .unset, .unset, .unset, .unset] []) G := ⟨fun t => Steps p.tables e below (s₁.setTop (entryFrame m #[(.int q0), (.int q1), (.int q2), (.int q3), (.int q4)] maxLocals)) t, fun _ h => h, fun t k => castTop (ef_code_IIIII m q0 q1 q2 q3 q4) k⟩
  obtain ⟨i2, Kj92⟩ : ∃ (i2 : Int32), Go p e below s₁ (mkF m 12 #[.val (.int q0), .val (.int q1), .val (.int q2), .val (.int q3), .val (.int q4), .unset, .unset, .unset, .unset, .unset, .unset, .unset, .unset] [(.int i2)]) G := by
    have K93 : Go p e below s₁ (mkF m 2 #[.val (.int q0), .val (.int q1), .val (.int q2), .val (.int q3), .val (.int q4), .unset, .unset, .unset, .unset, .unset, .unset, .unset, .unset] [(.int q4)]) G := fun tq kq => K0 tq (XS.iload X0.here hx rfl (hb hby at_0) rfl kq)
    have K94 : Go p e below s₁ (mkF m 3 #[.val (.int q0), .val (.int q1), .val (.int q2), .val (.int q3), .val (.int q4), .unset, .unset, .unset, .unset, .unset, .unset, .unset, .unset] [(.int (1 : Int32)), (.int q4)]) G := fun tq kq => K93 tq (XS.iconst X0.here hx rfl (hb hby at_2) kq)
    have K95 : Go p e below s₁ (mkF m 4 #[.val (.int q0), .val (.int q1), .val (.int q2), .val (.int q3), .val (.int q4), .unset, .unset, .unset, .unset, .unset, .unset, .unset, .unset] [(.int (q4 &&& (1 : Int32)))]) G := fun tq kq => K94 tq (XS.iand X0.here hx rfl (hb hby at_3) rfl kq)
    by_cases hc96 : (q4 &&& (1 : Int32)) = (0 : Int32)
    · skip
      have K97 : Go p e below s₁ (mkF m 11 #[.val (.int q0), .val (.int q1), .val (.int q2), .val (.int q3), .val (.int q4), .unset, .unset, .unset, .unset, .unset, .unset, .unset, .unset] []) G := fun tq kq => K95 tq (XS.ifYes X0.here hx rfl (pc0 := 4) (pc' := 11) rfl (hb hby at_4) rfl ((if0 _ _).trans (teq hc96).1) (by decide) (by decide) kq)
      have K98 : Go p e below s₁ (mkF m 12 #[.val (.int q0), .val (.int q1), .val (.int q2), .val (.int q3), .val (.int q4), .unset, .unset, .unset, .unset, .unset, .unset, .unset, .unset] [(.int q2)]) G := fun tq kq => K97 tq (XS.iloadN X0.here hx rfl (hb hby at_11) rfl kq)
      exact ⟨q2, K98⟩
    · skip
      have K99 : Go p e below s₁ (mkF m 7 #[.val (.int q0), .val (.int q1), .val (.int q2), .val (.int q3), .val (.int q4), .unset, .unset, .unset, .unset, .unset, .unset, .unset, .unset] []) G := fun tq kq => K95 tq (XS.ifNo X0.here hx rfl (hb hby at_4) rfl ((if0 _ _).trans (feq hc96).1) kq)
      have K100 : Go p e below s₁ (mkF m 8 #[.val (.int q0), .val (.int q1), .val (.int q2), .val (.int q3), .val (.int q4), .unset, .unset, .unset, .unset, .unset, .unset, .unset, .unset] [(.int q0)]) G := fun tq kq => K99 tq (XS.iloadN X0.here hx rfl (hb hby at_7) rfl kq)
      have K101 : Go p e below s₁ (mkF m 12 #[.val (.int q0), .val (.int q1), .val (.int q2), .val (.int q3), .val (.int q4), .unset, .unset, .unset, .unset, .unset, .unset, .unset, .unset] [(.int q0)]) G := fun tq kq => K100 tq (XS.goto X0.here hx rfl (pc0 := 8) (pc' := 12) rfl (hb hby at_8) (by decide) (by decide) kq)
      exact ⟨q0, K101⟩
  have K102 : Go p e below s₁ (mkF m 14 #[.val (.int q0), .val (.int q1), .val (.int q2), .val (.int q3), .val (.int q4), .val (.int i2), .unset, .unset, .unset, .unset, .unset, .unset, .unset] []) G := fun tq kq => Kj92 tq (XS.istore X0.here hx rfl (hb hby at_12) rfl (l' := #[.val (.int q0), .val (.int q1), .val (.int q2), .val (.int q3), .val (.int q4), .val (.int i2), .unset, .unset, .unset, .unset, .unset, .unset, .unset]) rfl kq)
  obtain ⟨b2, Kj103⟩ : ∃ (b2 : Int32), Go p e below s₁ (mkF m 26 #[.val (.int q0), .val (.int q1), .val (.int q2), .val (.int q3), .val (.int q4), .val (.int i2), .unset, .unset, .unset, .unset, .unset, .unset, .unset] [(.int b2)]) G := by
    have K104 : Go p e below s₁ (mkF m 16 #[.val (.int q0), .val (.int q1), .val (.int q2), .val (.int q3), .val (.int q4), .val (.int i2), .unset, .unset, .unset, .unset, .unset, .unset, .unset] [(.int q4)]) G := fun tq kq => K102 tq (XS.iload X0.here hx rfl (hb hby at_14) rfl kq)
    have K105 : Go p e below s₁ (mkF m 17 #[.val (.int q0), .val (.int q1), .val (.int q2), .val (.int q3), .val (.int q4), .val (.int i2), .unset, .unset, .unset, .unset, .unset, .unset, .unset] [(.int (2 : Int32)), (.int q4)]) G := fun tq kq => K104 tq (XS.iconst X0.here hx rfl (hb hby at_16) kq)
    have K106 : Go p e below s₁ (mkF m 18 #[.val (.int q0), .val (.int q1), .val (.int q2), .val (.int q3), .val (.int q4), .val (.int i2), .unset, .unset, .unset, .unset, .unset, .unset, .unset] [(.int (q4 &&& (2 : Int32)))]) G := fun tq kq => K105 tq (XS.iand X0.here hx rfl (hb hby at_17) rfl kq)
    by_cases hc107 : (q4 &&& (2 : Int32)) = (0 : Int32)
    · skip
      have K108 : Go p e below s₁ (mkF m 25 #[.val (.int q0), .val (.int q1), .val (.int q2), .val (.int q3), .val (.int q4), .val (.int i2), .unset, .unset, .unset, .unset, .unset, .unset, .unset] []) G := fun tq kq => K106 tq (XS.ifYes X0.here hx rfl (pc0 := 18) (pc' := 25) rfl (hb hby at_18) rfl ((if0 _ _).trans (teq hc107).1) (by decide) (by decide) kq)
      have K109 : Go p e below s₁ (mkF m 26 #[.val (.int q0), .val (.int q1), .val (.int q2), .val (.int q3), .val (.int q4), .val (.int i2), .unset, .unset, .unset, .unset, .unset, .unset, .unset] [(.int q3)]) G := fun tq kq => K108 tq (XS.iloadN X0.here hx rfl (hb hby at_25) rfl kq)
      exact ⟨q3, K109⟩
    · skip
      have K110 : Go p e below s₁ (mkF m 21 #[.val (.int q0), .val (.int q1), .val (.int q2), .val (.int q3), .val (.int q4), .val (.int i2), .unset, .unset, .unset, .unset, .unset, .unset, .unset] []) G := fun tq kq => K106 tq (XS.ifNo X0.here hx rfl (hb hby at_18) rfl ((if0 _ _).trans (feq hc107).1) kq)
      have K111 : Go p e below s₁ (mkF m 22 #[.val (.int q0), .val (.int q1), .val (.int q2), .val (.int q3), .val (.int q4), .val (.int i2), .unset, .unset, .unset, .unset, .unset, .unset, .unset] [(.int q1)]) G := fun tq kq => K110 tq (XS.iloadN X0.here hx rfl (hb hby at_21) rfl kq)
      have K112 : Go p e below s₁ (mkF m 26 #[.val (.int q0), .val (.int q1), .val (.int q2), .val (.int q3), .val (.int q4), .val (.int i2), .unset, .unset, .unset, .unset, .unset, .unset, .unset] [(.int q1)]) G := fun tq kq => K111 tq (XS.goto X0.here hx rfl (pc0 := 22) (pc' := 26) rfl (hb hby at_22) (by decide) (by decide) kq)
      exact ⟨q1, K112⟩
  have K113 : Go p e below s₁ (mkF m 28 #[.val (.int q0), .val (.int q1), .val (.int q2), .val (.int q3), .val (.int q4), .val (.int i2), .val (.int b2), .unset, .unset, .unset, .unset, .unset, .unset] []) G := fun tq kq => Kj103 tq (XS.istore X0.here hx rfl (hb hby at_26) rfl (l' := #[.val (.int q0), .val (.int q1), .val (.int q2), .val (.int q3), .val (.int q4), .val (.int i2), .val (.int b2), .unset, .unset, .unset, .unset, .unset, .unset]) rfl kq)
  obtain ⟨T114, h114, X114, e114, E114, A114, D114, -, st114⟩ := newO X0 hx hZ hown (hW 0 _ rfl) (hW 1 _ rfl) (hW 2 _ rfl) e0 (g := (mkF m 28 #[.val (.int q0), .val (.int q1), .val (.int q2), .val (.int q3), .val (.int q4), .val (.int i2), .val (.int b2), .unset, .unset, .unset, .unset, .unset, .unset] [])) rfl (hb hby at_28) (by decide) (by decide)
  obtain ⟨b114, g114⟩ : ∃ z, z = h0.size := ⟨_, rfl⟩
  rw [← g114] at A114 D114 st114
  have ge_b114 : n0 ≤ b114 := Nat.le_trans Z0 (Nat.le_of_eq g114.symm)
  have sz_b114 : h0.size ≤ b114 := Nat.le_trans ((Keep.refl h0 [])).1 (Nat.le_of_eq g114.symm)
  have F114_id : Fld Z h114 b114 "com/example/vervet/vervet/pipewire/Permission" "id" "I" (.int (0 : Int32)) := D114 (Or.inr (hW 10 _ rfl)) (ty := .int) (by decide)
  have F114_bits : Fld Z h114 b114 "com/example/vervet/vervet/pipewire/Permission" "bits" "I" (.int (0 : Int32)) := D114 (Or.inr (hW 12 _ rfl)) (ty := .int) (by decide)
  have K115 : Go p e below T114 (mkF m 31 #[.val (.int q0), .val (.int q1), .val (.int q2), .val (.int q3), .val (.int q4), .val (.int i2), .val (.int b2), .unset, .unset, .unset, .unset, .unset, .unset] [(.ref b114)]) G := fun tq kq => K113 tq (st114 tq kq)
  have K116 : Go p e below T114 (mkF m 32 #[.val (.int q0), .val (.int q1), .val (.int q2), .val (.int q3), .val (.int q4), .val (.int i2), .val (.int b2), .unset, .unset, .unset, .unset, .unset, .unset] [(.ref b114), (.ref b114)]) G := fun tq kq => K115 tq (XS.dup X114.here hx rfl (hb hby at_31) rfl rfl kq)
  have K117 : Go p e below T114 (mkF m 33 #[.val (.int q0), .val (.int q1), .val (.int q2), .val (.int q3), .val (.int q4), .val (.int i2), .val (.int b2), .unset, .unset, .unset, .unset, .unset, .unset] [(.int q0), (.ref b114), (.ref b114)]) G := fun tq kq => K116 tq (XS.iloadN X114.here hx rfl (hb hby at_32) rfl kq)
  have K118 : Go p e below T114 (mkF m 34 #[.val (.int q0), .val (.int q1), .val (.int q2), .val (.int q3), .val (.int q4), .val (.int i2), .val (.int b2), .unset, .unset, .unset, .unset, .unset, .unset] [(.int q1), (.int q0), (.ref b114), (.ref b114)]) G := fun tq kq => K117 tq (XS.iloadN X114.here hx rfl (hb hby at_33) rfl kq)
  obtain ⟨v119, _, ⟨T119, L119, k119, n119⟩, -, X119, ⟨Lc119, hQ119, l119, y119, z119⟩, st119⟩ := X114.specialBack hx (y := (⟨"com/example/vervet/vervet/pipewire/Permission", "<init>", "(II)V"⟩ : MethodName)) rfl hown (mvT hZ (hW 3 _ rfl)) (mvT hZ (hW 4 _ rfl)) (mvT hZ (hW 5 _ rfl)) (by decide) (backOf (W := 1) (rmIni l Z a0 hw [] b114 q0 q1 h114 n0 (Nat.le_trans Z0 E114.1) F114_id F114_bits A114 ge_b114) hZ (hW 5 _ rfl) (hW 2 _ rfl) (by decide) (by decide)) (g := (mkF m 34 #[.val (.int q0), .val (.int q1), .val (.int q2), .val (.int q3), .val (.int q4), .val (.int i2), .val (.int b2), .unset, .unset, .unset, .unset, .unset, .unset] [(.int q1), (.int q0), (.ref b114), (.ref b114)])) rfl (by rw [hml]; rfl) (Steps.refl _) (a := b114) (argsL := [(.int q0), (.int q1)]) (rest := [(.ref b114)]) (lenOf pd_71 rfl) rfl (by show 2 * 0 + _ ≤ _; exact Nat.le_of_eq rfl) (hb hby at_34) (fun _ _ => ⟨rfl, e114, (by decide : 1 + 0 ≤ _), (by decide : 2 + 0 ≤ _)⟩)
  dsimp only [Pt.U, Pt.locs, Pt.cells, Pt.slots] at X119 l119 y119 z119 st119 hQ119
  subst l119 y119 z119
  obtain ⟨rfl, N119q, K119q, E119q, F119q_id, F119q_bits⟩ := hQ119
  have N119 := Fr.app N0 N119q
  have K120 : Go p e below T119 (mkF m 37 #[.val (.int q0), .val (.int q1), .val (.int q2), .val (.int q3), .val (.int q4), .val (.int i2), .val (.int b2), .unset, .unset, .unset, .unset, .unset, .unset] [(.ref b114)]) G := fun tq kq => K118 tq (st119.trans kq)
  have K121 : Go p e below T119 (mkF m 39 #[.val (.int q0), .val (.int q1), .val (.int q2), .val (.int q3), .val (.int q4), .val (.int i2), .val (.int b2), .val (.ref b114), .unset, .unset, .unset, .unset, .unset] []) G := fun tq kq => K120 tq (XS.astore X119.here hx rfl (hb hby at_37) rfl rfl (l' := #[.val (.int q0), .val (.int q1), .val (.int q2), .val (.int q3), .val (.int q4), .val (.int i2), .val (.int b2), .val (.ref b114), .unset, .unset, .unset, .unset, .unset]) rfl kq)
  obtain ⟨T122, h122, X122, e122, E122, A122, D122, -, st122⟩ := newO X119 hx hZ hown (hW 0 _ rfl) (hW 1 _ rfl) (hW 2 _ rfl) rfl (g := (mkF m 39 #[.val (.int q0), .val (.int q1), .val (.int q2), .val (.int q3), .val (.int q4), .val (.int i2), .val (.int b2), .val (.ref b114), .unset, .unset, .unset, .unset, .unset] [])) rfl (hb hby at_39) (by decide) (by decide)
  obtain ⟨b122, g122⟩ : ∃ z, z = T119.heap.size := ⟨_, rfl⟩
  rw [← g122] at A122 D122 st122
  have ne122_b114 : b114 ≠ b122 := Nat.ne_of_lt (Nat.lt_of_lt_of_le E119q.lt (Nat.le_of_eq g122.symm))
  have ge_b122 : n0 ≤ b122 := Nat.le_trans (Nat.le_trans (Nat.le_trans Z0 E114.1) K119q.1) (Nat.le_of_eq g122.symm)
  have sz_b122 : h0.size ≤ b122 := Nat.le_trans ((((Keep.refl h0 []).ext E114).trans K119q (allS (Or.inr sz_b114) all0))).1 (Nat.le_of_eq g122.symm)
  have F122_id : Fld Z h122 b122 "com/example/vervet/vervet/pipewire/Permission" "id" "I" (.int (0 : Int32)) := D122 (Or.inr (hW 10 _ rfl)) (ty := .int) (by decide)
  have F122_bits : Fld Z h122 b122 "com/example/vervet/vervet/pipewire/Permission" "bits" "I" (.int (0 : Int32)) := D122 (Or.inr (hW 12 _ rfl)) (ty := .int) (by decide)
  have K123 : Go p e below T122 (mkF m 42 #[.val (.int q0), .val (.int q1), .val (.int q2), .val (.int q3), .val (.int q4), .val (.int i2), .val (.int b2), .val (.ref b114), .unset, .unset, .unset, .unset, .unset] [(.ref b122)]) G := fun tq kq => K121 tq (st122 tq kq)
  have K124 : Go p e below T122 (mkF m 43 #[.val (.int q0), .val (.int q1), .val (.int q2), .val (.int q3), .val (.int q4), .val (.int i2), .val (.int b2), .val (.ref b114), .unset, .unset, .unset, .unset, .unset] [(.ref b122), (.ref b122)]) G := fun tq kq => K123 tq (XS.dup X122.here hx rfl (hb hby at_42) rfl rfl kq)
  have K125 : Go p e below T122 (mkF m 45 #[.val (.int q0), .val (.int q1), .val (.int q2), .val (.int q3), .val (.int q4), .val (.int i2), .val (.int b2), .val (.ref b114), .unset, .unset, .unset, .unset, .unset] [(.int i2), (.ref b122), (.ref b122)]) G := fun tq kq => K124 tq (XS.iload X122.here hx rfl (hb hby at_43) rfl kq)
  have K126 : Go p e below T122 (mkF m 47 #[.val (.int q0), .val (.int q1), .val (.int q2), .val (.int q3), .val (.int q4), .val (.int i2), .val (.int b2), .val (.ref b114), .unset, .unset, .unset, .unset, .unset] [(.int b2), (.int i2), (.ref b122), (.ref b122)]) G := fun tq kq => K125 tq (XS.iload X122.here hx rfl (hb hby at_45) rfl kq)
  obtain ⟨v127, _, ⟨T127, L127, k127, n127⟩, -, X127, ⟨Lc127, hQ127, l127, y127, z127⟩, st127⟩ := X122.specialBack hx (y := (⟨"com/example/vervet/vervet/pipewire/Permission", "<init>", "(II)V"⟩ : MethodName)) rfl hown (mvT hZ (hW 3 _ rfl)) (mvT hZ (hW 4 _ rfl)) (mvT hZ (hW 5 _ rfl)) (by decide) (backOf (W := 1) (rmIni l Z a0 hw [] b122 i2 b2 h122 n0 (Nat.le_trans (Nat.le_trans (Nat.le_trans Z0 E114.1) K119q.1) E122.1) F122_id F122_bits A122 ge_b122) hZ (hW 5 _ rfl) (hW 2 _ rfl) (by decide) (by decide)) (g := (mkF m 47 #[.val (.int q0), .val (.int q1), .val (.int q2), .val (.int q3), .val (.int q4), .val (.int i2), .val (.int b2), .val (.ref b114), .unset, .unset, .unset, .unset, .unset] [(.int b2), (.int i2), (.ref b122), (.ref b122)])) rfl (by rw [hml]; rfl) (Steps.refl _) (a := b122) (argsL := [(.int i2), (.int b2)]) (rest := [(.ref b122)]) (lenOf pd_71 rfl) rfl (by show 2 * 0 + _ ≤ _; exact Nat.le_of_eq rfl) (hb hby at_47) (fun _ _ => ⟨rfl, e122, (by decide : 2 + 0 ≤ _), (by decide : 4 + 0 ≤ _)⟩)
  dsimp only [Pt.U, Pt.locs, Pt.cells, Pt.slots] at X127 l127 y127 z127 st127 hQ127
  subst l127 y127 z127
  obtain ⟨rfl, N127q, K127q, E127q, F127q_id, F127q_bits⟩ := hQ127
  have N127 := Fr.app N119 N127q
  have K128 : Go p e below T127 (mkF m 50 #[.val (.int q0), .val (.int q1), .val (.int q2), .val (.int q3), .val (.int q4), .val (.int i2), .val (.int b2), .val (.ref b114), .unset, .unset, .unset, .unset, .unset] [(.ref b122)]) G := fun tq kq => K126 tq (st127.trans kq)
  have K129 : Go p e below T127 (mkF m 52 #[.val (.int q0), .val (.int q1), .val (.int q2), .val (.int q3), .val (.int q4), .val (.int i2), .val (.int b2), .val (.ref b114), .val (.ref b122), .unset, .unset, .unset, .unset] []) G := fun tq kq => K128 tq (XS.astore X127.here hx rfl (hb hby at_50) rfl rfl (l' := #[.val (.int q0), .val (.int q1), .val (.int q2), .val (.int q3), .val (.int q4), .val (.int i2), .val (.int b2), .val (.ref b114), .val (.ref b122), .unset, .unset, .unset, .unset]) rfl kq)
  have K130 : Go p e below T127 (mkF m 54 #[.val (.int q0), .val (.int q1), .val (.int q2), .val (.int q3), .val (.int q4), .val (.int i2), .val (.int b2), .val (.ref b114), .val (.ref b122), .unset, .unset, .unset, .unset] [(.int i2)]) G := fun tq kq => K129 tq (XS.iload X127.here hx rfl (hb hby at_52) rfl kq)
  have K131 : Go p e below T127 (mkF m 55 #[.val (.int q0), .val (.int q1), .val (.int q2), .val (.int q3), .val (.int q4), .val (.int i2), .val (.int b2), .val (.ref b114), .val (.ref b122), .unset, .unset, .unset, .unset] [(.int q0), (.int i2)]) G := fun tq kq => K130 tq (XS.iloadN X127.here hx rfl (hb hby at_54) rfl kq)
  by_cases hc132 : i2 = q0
  · skip
    have K133 : Go p e below T127 (mkF m 58 #[.val (.int q0), .val (.int q1), .val (.int q2), .val (.int q3), .val (.int q4), .val (.int i2), .val (.int b2), .val (.ref b114), .val (.ref b122), .unset, .unset, .unset, .unset] []) G := fun tq kq => K131 tq (XS.icmpNo X127.here hx rfl (hb hby at_55) rfl ((teq hc132).2) kq)
    have K134 : Go p e below T127 (mkF m 60 #[.val (.int q0), .val (.int q1), .val (.int q2), .val (.int q3), .val (.int q4), .val (.int i2), .val (.int b2), .val (.ref b114), .val (.ref b122), .unset, .unset, .unset, .unset] [(.int b2)]) G := fun tq kq => K133 tq (XS.iload X127.here hx rfl (hb hby at_58) rfl kq)
    have K135 : Go p e below T127 (mkF m 61 #[.val (.int q0), .val (.int q1), .val (.int q2), .val (.int q3), .val (.int q4), .val (.int i2), .val (.int b2), .val (.ref b114), .val (.ref b122), .unset, .unset, .unset, .unset] [(.int q1), (.int b2)]) G := fun tq kq => K134 tq (XS.iloadN X127.here hx rfl (hb hby at_60) rfl kq)
    by_cases hc136 : b2 = q1
    · skip
      have K137 : Go p e below T127 (mkF m 64 #[.val (.int q0), .val (.int q1), .val (.int q2), .val (.int q3), .val (.int q4), .val (.int i2), .val (.int b2), .val (.ref b114), .val (.ref b122), .unset, .unset, .unset, .unset] []) G := fun tq kq => K135 tq (XS.icmpNo X127.here hx rfl (hb hby at_61) rfl ((teq hc136).2) kq)
      have K138 : Go p e below T127 (mkF m 65 #[.val (.int q0), .val (.int q1), .val (.int q2), .val (.int q3), .val (.int q4), .val (.int i2), .val (.int b2), .val (.ref b114), .val (.ref b122), .unset, .unset, .unset, .unset] [(.int (1 : Int32))]) G := fun tq kq => K137 tq (XS.iconst X127.here hx rfl (hb hby at_64) kq)
      have K139 : Go p e below T127 (mkF m 69 #[.val (.int q0), .val (.int q1), .val (.int q2), .val (.int q3), .val (.int q4), .val (.int i2), .val (.int b2), .val (.ref b114), .val (.ref b122), .unset, .unset, .unset, .unset] [(.int (1 : Int32))]) G := fun tq kq => K138 tq (XS.goto X127.here hx rfl (pc0 := 65) (pc' := 69) rfl (hb hby at_65) (by decide) (by decide) kq)
      have K140 : Go p e below T127 (mkF m 71 #[.val (.int q0), .val (.int q1), .val (.int q2), .val (.int q3), .val (.int q4), .val (.int i2), .val (.int b2), .val (.ref b114), .val (.ref b122), .val (.int (1 : Int32)), .unset, .unset, .unset] []) G := fun tq kq => K139 tq (XS.istore X127.here hx rfl (hb hby at_69) rfl (l' := #[.val (.int q0), .val (.int q1), .val (.int q2), .val (.int q3), .val (.int q4), .val (.int i2), .val (.int b2), .val (.ref b114), .val (.ref b122), .val (.int (1 : Int32)), .unset, .unset, .unset]) rfl kq)
      have K141 : Go p e below T127 (mkF m 73 #[.val (.int q0), .val (.int q1), .val (.int q2), .val (.int q3), .val (.int q4), .val (.int i2), .val (.int b2), .val (.ref b114), .val (.ref b122), .val (.int (1 : Int32)), .unset, .unset, .unset] [(.int q4)]) G := fun tq kq => K140 tq (XS.iload X127.here hx rfl (hb hby at_71) rfl kq)
      have K142 : Go p e below T127 (mkF m 74 #[.val (.int q0), .val (.int q1), .val (.int q2), .val (.int q3), .val (.int q4), .val (.int i2), .val (.int b2), .val (.ref b114), .val (.ref b122), .val (.int (1 : Int32)), .unset, .unset, .unset] [(.int (2 : Int32)), (.int q4)]) G := fun tq kq => K141 tq (XS.iconst X127.here hx rfl (hb hby at_73) kq)
      have K143 : Go p e below T127 (mkF m 75 #[.val (.int q0), .val (.int q1), .val (.int q2), .val (.int q3), .val (.int q4), .val (.int i2), .val (.int b2), .val (.ref b114), .val (.ref b122), .val (.int (1 : Int32)), .unset, .unset, .unset] [(.int ((q4.toUInt32 >>> ((2 : Int32) &&& 31).toUInt32).toInt32))]) G := fun tq kq => K142 tq (XS.iushr X127.here hx rfl (hb hby at_74) rfl kq)
      have K144 : Go p e below T127 (mkF m 76 #[.val (.int q0), .val (.int q1), .val (.int q2), .val (.int q3), .val (.int q4), .val (.int i2), .val (.int b2), .val (.ref b114), .val (.ref b122), .val (.int (1 : Int32)), .unset, .unset, .unset] [(.int (3 : Int32)), (.int ((q4.toUInt32 >>> ((2 : Int32) &&& 31).toUInt32).toInt32))]) G := fun tq kq => K143 tq (XS.iconst X127.here hx rfl (hb hby at_75) kq)
      have K145 : Go p e below T127 (mkF m 77 #[.val (.int q0), .val (.int q1), .val (.int q2), .val (.int q3), .val (.int q4), .val (.int i2), .val (.int b2), .val (.ref b114), .val (.ref b122), .val (.int (1 : Int32)), .unset, .unset, .unset] [(.int (((q4.toUInt32 >>> ((2 : Int32) &&& 31).toUInt32).toInt32) &&& (3 : Int32)))]) G := fun tq kq => K144 tq (XS.iand X127.here hx rfl (hb hby at_76) rfl kq)
      have K146 : Go p e below T127 (mkF m 79 #[.val (.int q0), .val (.int q1), .val (.int q2), .val (.int q3), .val (.int q4), .val (.int i2), .val (.int b2), .val (.ref b114), .val (.ref b122), .val (.int (1 : Int32)), .val (.int (((q4.toUInt32 >>> ((2 : Int32) &&& 31).toUInt32).toInt32) &&& (3 : Int32))), .unset, .unset] []) G := fun tq kq => K145 tq (XS.istore X127.here hx rfl (hb hby at_77) rfl (l' := #[.val (.int q0), .val (.int q1), .val (.int q2), .val (.int q3), .val (.int q4), .val (.int i2), .val (.int b2), .val (.ref b114), .val (.ref b122), .val (.int (1 : Int32)), .val (.int (((q4.toUInt32 >>> ((2 : Int32) &&& 31).toUInt32).toInt32) &&& (3 : Int32))), .unset, .unset]) rfl kq)
      have K147 : Go p e below T127 (mkF m 81 #[.val (.int q0), .val (.int q1), .val (.int q2), .val (.int q3), .val (.int q4), .val (.int i2), .val (.int b2), .val (.ref b114), .val (.ref b122), .val (.int (1 : Int32)), .val (.int (((q4.toUInt32 >>> ((2 : Int32) &&& 31).toUInt32).toInt32) &&& (3 : Int32))), .unset, .unset] [(.int (((q4.toUInt32 >>> ((2 : Int32) &&& 31).toUInt32).toInt32) &&& (3 : Int32)))]) G := fun tq kq => K146 tq (XS.iload X127.here hx rfl (hb hby at_79) rfl kq)
      by_cases hc148 : (((q4.toUInt32 >>> ((2 : Int32) &&& 31).toUInt32).toInt32) &&& (3 : Int32)) = (0 : Int32)
      · skip
        have K149 : Go p e below T127 (mkF m 84 #[.val (.int q0), .val (.int q1), .val (.int q2), .val (.int q3), .val (.int q4), .val (.int i2), .val (.int b2), .val (.ref b114), .val (.ref b122), .val (.int (1 : Int32)), .val (.int (((q4.toUInt32 >>> ((2 : Int32) &&& 31).toUInt32).toInt32) &&& (3 : Int32))), .unset, .unset] []) G := fun tq kq => K147 tq (XS.ifNo X127.here hx rfl (hb hby at_81) rfl ((if0 _ _).trans (teq hc148).2) kq)
        have K150 : Go p e below T127 (mkF m 86 #[.val (.int q0), .val (.int q1), .val (.int q2), .val (.int q3), .val (.int q4), .val (.int i2), .val (.int b2), .val (.ref b114), .val (.ref b122), .val (.int (1 : Int32)), .val (.int (((q4.toUInt32 >>> ((2 : Int32) &&& 31).toUInt32).toInt32) &&& (3 : Int32))), .unset, .unset] [(.ref b114)]) G := fun tq kq => K149 tq (XS.aload X127.here hx rfl (hb hby at_84) rfl rfl kq)
        have K151 : Go p e below T127 (mkF m 88 #[.val (.int q0), .val (.int q1), .val (.int q2), .val (.int q3), .val (.int q4), .val (.int i2), .val (.int b2), .val (.ref b114), .val (.ref b122), .val (.int (1 : Int32)), .val (.int (((q4.toUInt32 >>> ((2 : Int32) &&& 31).toUInt32).toInt32) &&& (3 : Int32))), .unset, .unset] [(.ref b122), (.ref b114)]) G := fun tq kq => K150 tq (XS.aload X127.here hx rfl (hb hby at_86) rfl rfl kq)
        obtain ⟨cq152, kq152, q152a, q152b, q152c⟩ := isOf hZ rfl ((E119q.ext E122).keep K127q)
        obtain ⟨v152, _, ⟨T152, L152, k152, n152⟩, -, X152, ⟨Lc152, hQ152, l152, y152, z152⟩, st152⟩ := X127.virtualBack hx (y := (⟨"com/example/vervet/vervet/pipewire/Permission", "equals", "(Ljava/lang/Object;)Z"⟩ : MethodName)) (z := (⟨"com/example/vervet/vervet/pipewire/Permission", "equals", "(Ljava/lang/Object;)Z"⟩ : MethodName)) hown (mvT hZ (hW 13 _ rfl)) (mvT hZ (hW 14 _ rfl)) (notFace_of_selects (args := #[]) (mvT hZ (hW 16 _ rfl))) (mvT hZ (hW 16 _ rfl)) (mvT hZ (hW 15 _ rfl)) (by decide) (backOf (W := 0) (rmEqP l Z a0 hw [] b114 b122 q0 q1 i2 b2 T127.heap n0 (Nat.le_trans (Nat.le_trans (Nat.le_trans (Nat.le_trans Z0 E114.1) K119q.1) E122.1) K127q.1) ((F119q_id.ext E122).keep K127q (ninS ne122_b114 nin0)) ((F119q_bits.ext E122).keep K127q (ninS ne122_b114 nin0)) F127q_id F127q_bits E127q) hZ (hW 17 _ rfl) (hW 2 _ rfl) (by decide) (by decide)) q152a q152c (g := (mkF m 88 #[.val (.int q0), .val (.int q1), .val (.int q2), .val (.int q3), .val (.int q4), .val (.int i2), .val (.int b2), .val (.ref b114), .val (.ref b122), .val (.int (1 : Int32)), .val (.int (((q4.toUInt32 >>> ((2 : Int32) &&& 31).toUInt32).toInt32) &&& (3 : Int32))), .unset, .unset] [(.ref b122), (.ref b114)])) rfl (by rw [hml]; rfl) (Steps.refl _) (argsL := [(.ref b122)]) (rest := []) (lenOf pd_72 rfl) rfl (by show 2 * 0 + _ ≤ _; exact Nat.le_of_eq rfl) (hb hby at_88) (fun _ _ => ⟨rfl, rfl, (by decide : 2 + 0 ≤ _), (by decide : 4 + 0 ≤ _)⟩)
        dsimp only [Pt.U, Pt.locs, Pt.cells, Pt.slots] at X152 l152 y152 z152 st152 hQ152
        subst l152 y152 z152
        rw [QEqP, if_pos (⟨hc132.symm, hc136.symm⟩)] at hQ152
        obtain ⟨rfl, N152q, E152q⟩ := hQ152
        have N152 := Fr.app N127 N152q
        have K153 : Go p e below T152 (mkF m 91 #[.val (.int q0), .val (.int q1), .val (.int q2), .val (.int q3), .val (.int q4), .val (.int i2), .val (.int b2), .val (.ref b114), .val (.ref b122), .val (.int (1 : Int32)), .val (.int (((q4.toUInt32 >>> ((2 : Int32) &&& 31).toUInt32).toInt32) &&& (3 : Int32))), .unset, .unset] [(.int (1 : Int32))]) G := fun tq kq => K151 tq (st152.trans kq)
        have K154 : Go p e below T152 (mkF m 93 #[.val (.int q0), .val (.int q1), .val (.int q2), .val (.int q3), .val (.int q4), .val (.int i2), .val (.int b2), .val (.ref b114), .val (.ref b122), .val (.int (1 : Int32)), .val (.int (((q4.toUInt32 >>> ((2 : Int32) &&& 31).toUInt32).toInt32) &&& (3 : Int32))), .val (.int (1 : Int32)), .unset] []) G := fun tq kq => K153 tq (XS.istore X152.here hx rfl (hb hby at_91) rfl (l' := #[.val (.int q0), .val (.int q1), .val (.int q2), .val (.int q3), .val (.int q4), .val (.int i2), .val (.int b2), .val (.ref b114), .val (.ref b122), .val (.int (1 : Int32)), .val (.int (((q4.toUInt32 >>> ((2 : Int32) &&& 31).toUInt32).toInt32) &&& (3 : Int32))), .val (.int (1 : Int32)), .unset]) rfl kq)
        have K155 : Go p e below T152 (mkF m 95 #[.val (.int q0), .val (.int q1), .val (.int q2), .val (.int q3), .val (.int q4), .val (.int i2), .val (.int b2), .val (.ref b114), .val (.ref b122), .val (.int (1 : Int32)), .val (.int (((q4.toUInt32 >>> ((2 : Int32) &&& 31).toUInt32).toInt32) &&& (3 : Int32))), .val (.int (1 : Int32)), .unset] [(.ref b122)]) G := fun tq kq => K154 tq (XS.aload X152.here hx rfl (hb hby at_93) rfl rfl kq)
        have K156 : Go p e below T152 (mkF m 97 #[.val (.int q0), .val (.int q1), .val (.int q2), .val (.int q3), .val (.int q4), .val (.int i2), .val (.int b2), .val (.ref b114), .val (.ref b122), .val (.int (1 : Int32)), .val (.int (((q4.toUInt32 >>> ((2 : Int32) &&& 31).toUInt32).toInt32) &&& (3 : Int32))), .val (.int (1 : Int32)), .unset] [(.ref b114), (.ref b122)]) G := fun tq kq => K155 tq (XS.aload X152.here hx rfl (hb hby at_95) rfl rfl kq)
        obtain ⟨cq157, kq157, q157a, q157b, q157c⟩ := isOf hZ E152q E127q
        obtain ⟨v157, _, ⟨T157, L157, k157, n157⟩, -, X157, ⟨Lc157, hQ157, l157, y157, z157⟩, st157⟩ := X152.virtualBack hx (y := (⟨"com/example/vervet/vervet/pipewire/Permission", "equals", "(Ljava/lang/Object;)Z"⟩ : MethodName)) (z := (⟨"com/example/vervet/vervet/pipewire/Permission", "equals", "(Ljava/lang/Object;)Z"⟩ : MethodName)) hown (mvT hZ (hW 13 _ rfl)) (mvT hZ (hW 14 _ rfl)) (notFace_of_selects (args := #[]) (mvT hZ (hW 16 _ rfl))) (mvT hZ (hW 16 _ rfl)) (mvT hZ (hW 15 _ rfl)) (by decide) (backOf (W := 0) (rmEqP l Z a0 hw [] b122 b114 i2 b2 q0 q1 T127.heap n0 (Nat.le_trans (Nat.le_trans (Nat.le_trans (Nat.le_trans Z0 E114.1) K119q.1) E122.1) K127q.1) F127q_id F127q_bits ((F119q_id.ext E122).keep K127q (ninS ne122_b114 nin0)) ((F119q_bits.ext E122).keep K127q (ninS ne122_b114 nin0)) ((E119q.ext E122).keep K127q)) hZ (hW 17 _ rfl) (hW 2 _ rfl) (by decide) (by decide)) q157a q157c (g := (mkF m 97 #[.val (.int q0), .val (.int q1), .val (.int q2), .val (.int q3), .val (.int q4), .val (.int i2), .val (.int b2), .val (.ref b114), .val (.ref b122), .val (.int (1 : Int32)), .val (.int (((q4.toUInt32 >>> ((2 : Int32) &&& 31).toUInt32).toInt32) &&& (3 : Int32))), .val (.int (1 : Int32)), .unset] [(.ref b114), (.ref b122)])) rfl (by rw [hml]; rfl) (Steps.refl _) (argsL := [(.ref b114)]) (rest := []) (lenOf pd_72 rfl) rfl (by show 2 * 0 + _ ≤ _; exact Nat.le_of_eq rfl) (hb hby at_97) (fun _ _ => ⟨rfl, E152q, (by decide : 2 + 0 ≤ _), (by decide : 4 + 0 ≤ _)⟩)
        dsimp only [Pt.U, Pt.locs, Pt.cells, Pt.slots] at X157 l157 y157 z157 st157 hQ157
        subst l157 y157 z157
        rw [QEqP, if_pos (⟨hc132, hc136⟩)] at hQ157
        obtain ⟨rfl, N157q, E157q⟩ := hQ157
        have N157 := Fr.app N152 N157q
        have K158 : Go p e below T157 (mkF m 100 #[.val (.int q0), .val (.int q1), .val (.int q2), .val (.int q3), .val (.int q4), .val (.int i2), .val (.int b2), .val (.ref b114), .val (.ref b122), .val (.int (1 : Int32)), .val (.int (((q4.toUInt32 >>> ((2 : Int32) &&& 31).toUInt32).toInt32) &&& (3 : Int32))), .val (.int (1 : Int32)), .unset] [(.int (1 : Int32))]) G := fun tq kq => K156 tq (st157.trans kq)
        have K159 : Go p e below T157 (mkF m 102 #[.val (.int q0), .val (.int q1), .val (.int q2), .val (.int q3), .val (.int q4), .val (.int i2), .val (.int b2), .val (.ref b114), .val (.ref b122), .val (.int (1 : Int32)), .val (.int (((q4.toUInt32 >>> ((2 : Int32) &&& 31).toUInt32).toInt32) &&& (3 : Int32))), .val (.int (1 : Int32)), .val (.int (1 : Int32))] []) G := fun tq kq => K158 tq (XS.istore X157.here hx rfl (hb hby at_100) rfl (l' := #[.val (.int q0), .val (.int q1), .val (.int q2), .val (.int q3), .val (.int q4), .val (.int i2), .val (.int b2), .val (.ref b114), .val (.ref b122), .val (.int (1 : Int32)), .val (.int (((q4.toUInt32 >>> ((2 : Int32) &&& 31).toUInt32).toInt32) &&& (3 : Int32))), .val (.int (1 : Int32)), .val (.int (1 : Int32))]) rfl kq)
        have K160 : Go p e below T157 (mkF m 104 #[.val (.int q0), .val (.int q1), .val (.int q2), .val (.int q3), .val (.int q4), .val (.int i2), .val (.int b2), .val (.ref b114), .val (.ref b122), .val (.int (1 : Int32)), .val (.int (((q4.toUInt32 >>> ((2 : Int32) &&& 31).toUInt32).toInt32) &&& (3 : Int32))), .val (.int (1 : Int32)), .val (.int (1 : Int32))] [(.int (1 : Int32))]) G := fun tq kq => K159 tq (XS.iload X157.here hx rfl (hb hby at_102) rfl kq)
        have K161 : Go p e below T157 (mkF m 106 #[.val (.int q0), .val (.int q1), .val (.int q2), .val (.int q3), .val (.int q4), .val (.int i2), .val (.int b2), .val (.ref b114), .val (.ref b122), .val (.int (1 : Int32)), .val (.int (((q4.toUInt32 >>> ((2 : Int32) &&& 31).toUInt32).toInt32) &&& (3 : Int32))), .val (.int (1 : Int32)), .val (.int (1 : Int32))] [(.int (1 : Int32)), (.int (1 : Int32))]) G := fun tq kq => K160 tq (XS.iload X157.here hx rfl (hb hby at_104) rfl kq)
        have K162 : Go p e below T157 (mkF m 109 #[.val (.int q0), .val (.int q1), .val (.int q2), .val (.int q3), .val (.int q4), .val (.int i2), .val (.int b2), .val (.ref b114), .val (.ref b122), .val (.int (1 : Int32)), .val (.int (((q4.toUInt32 >>> ((2 : Int32) &&& 31).toUInt32).toInt32) &&& (3 : Int32))), .val (.int (1 : Int32)), .val (.int (1 : Int32))] []) G := fun tq kq => K161 tq (XS.icmpNo X157.here hx rfl (hb hby at_106) rfl ((teq (by decide : (1 : Int32) = (1 : Int32))).2) kq)
        have K163 : Go p e below T157 (mkF m 111 #[.val (.int q0), .val (.int q1), .val (.int q2), .val (.int q3), .val (.int q4), .val (.int i2), .val (.int b2), .val (.ref b114), .val (.ref b122), .val (.int (1 : Int32)), .val (.int (((q4.toUInt32 >>> ((2 : Int32) &&& 31).toUInt32).toInt32) &&& (3 : Int32))), .val (.int (1 : Int32)), .val (.int (1 : Int32))] [(.int (1 : Int32))]) G := fun tq kq => K162 tq (XS.iload X157.here hx rfl (hb hby at_109) rfl kq)
        have K164 : Go p e below T157 (mkF m 113 #[.val (.int q0), .val (.int q1), .val (.int q2), .val (.int q3), .val (.int q4), .val (.int i2), .val (.int b2), .val (.ref b114), .val (.ref b122), .val (.int (1 : Int32)), .val (.int (((q4.toUInt32 >>> ((2 : Int32) &&& 31).toUInt32).toInt32) &&& (3 : Int32))), .val (.int (1 : Int32)), .val (.int (1 : Int32))] [(.int (1 : Int32)), (.int (1 : Int32))]) G := fun tq kq => K163 tq (XS.iload X157.here hx rfl (hb hby at_111) rfl kq)
        have K165 : Go p e below T157 (mkF m 116 #[.val (.int q0), .val (.int q1), .val (.int q2), .val (.int q3), .val (.int q4), .val (.int i2), .val (.int b2), .val (.ref b114), .val (.ref b122), .val (.int (1 : Int32)), .val (.int (((q4.toUInt32 >>> ((2 : Int32) &&& 31).toUInt32).toInt32) &&& (3 : Int32))), .val (.int (1 : Int32)), .val (.int (1 : Int32))] []) G := fun tq kq => K164 tq (XS.icmpNo X157.here hx rfl (hb hby at_113) rfl ((teq (by decide : (1 : Int32) = (1 : Int32))).2) kq)
        have K166 : Go p e below T157 (mkF m 117 #[.val (.int q0), .val (.int q1), .val (.int q2), .val (.int q3), .val (.int q4), .val (.int i2), .val (.int b2), .val (.ref b114), .val (.ref b122), .val (.int (1 : Int32)), .val (.int (((q4.toUInt32 >>> ((2 : Int32) &&& 31).toUInt32).toInt32) &&& (3 : Int32))), .val (.int (1 : Int32)), .val (.int (1 : Int32))] [(.int (1 : Int32))]) G := fun tq kq => K165 tq (XS.iconst X157.here hx rfl (hb hby at_116) kq)
        have K167 : Go p e below T157 (mkF m 121 #[.val (.int q0), .val (.int q1), .val (.int q2), .val (.int q3), .val (.int q4), .val (.int i2), .val (.int b2), .val (.ref b114), .val (.ref b122), .val (.int (1 : Int32)), .val (.int (((q4.toUInt32 >>> ((2 : Int32) &&& 31).toUInt32).toInt32) &&& (3 : Int32))), .val (.int (1 : Int32)), .val (.int (1 : Int32))] [(.int (1 : Int32))]) G := fun tq kq => K166 tq (XS.goto X157.here hx rfl (pc0 := 117) (pc' := 121) rfl (hb hby at_117) (by decide) (by decide) kq)
        obtain ⟨fs, hr, hrun, hended, hWW, hsame⟩ := X157.leave (v := some (.int (1 : Int32))) (fun h => by rw [Bd.returns] at h; cases h)
        refine ⟨_, _, hG _ (K167 _ (retN X157 hx (t := .boolean) Bd.returns (by simp) (hb hby at_121) hr)), hrun, hended, _, _, rfl, ?_, ⟨_, rfl⟩, hWW, hsame.mono (by decide) (by decide)⟩
        show Q0 Z q0 q1 q2 q3 q4 ca cc h0 n0 _ T157.heap _
        rw [E157q]
        exact ⟨rfl, N157⟩
      · skip
        have K168 : Go p e below T127 (mkF m 122 #[.val (.int q0), .val (.int q1), .val (.int q2), .val (.int q3), .val (.int q4), .val (.int i2), .val (.int b2), .val (.ref b114), .val (.ref b122), .val (.int (1 : Int32)), .val (.int (((q4.toUInt32 >>> ((2 : Int32) &&& 31).toUInt32).toInt32) &&& (3 : Int32))), .unset, .unset] []) G := fun tq kq => K147 tq (XS.ifYes X127.here hx rfl (pc0 := 81) (pc' := 122) rfl (hb hby at_81) rfl ((if0 _ _).trans (feq hc148).2) (by decide) (by decide) kq)
        have K169 : Go p e below T127 (mkF m 124 #[.val (.int q0), .val (.int q1), .val (.int q2), .val (.int q3), .val (.int q4), .val (.int i2), .val (.int b2), .val (.ref b114), .val (.ref b122), .val (.int (1 : Int32)), .val (.int (((q4.toUInt32 >>> ((2 : Int32) &&& 31).toUInt32).toInt32) &&& (3 : Int32))), .unset, .unset] [(.int (((q4.toUInt32 >>> ((2 : Int32) &&& 31).toUInt32).toInt32) &&& (3 : Int32)))]) G := fun tq kq => K168 tq (XS.iload X127.here hx rfl (hb hby at_122) rfl kq)
        have K170 : Go p e below T127 (mkF m 125 #[.val (.int q0), .val (.int q1), .val (.int q2), .val (.int q3), .val (.int q4), .val (.int i2), .val (.int b2), .val (.ref b114), .val (.ref b122), .val (.int (1 : Int32)), .val (.int (((q4.toUInt32 >>> ((2 : Int32) &&& 31).toUInt32).toInt32) &&& (3 : Int32))), .unset, .unset] [(.int (1 : Int32)), (.int (((q4.toUInt32 >>> ((2 : Int32) &&& 31).toUInt32).toInt32) &&& (3 : Int32)))]) G := fun tq kq => K169 tq (XS.iconst X127.here hx rfl (hb hby at_124) kq)
        by_cases hc171 : (((q4.toUInt32 >>> ((2 : Int32) &&& 31).toUInt32).toInt32) &&& (3 : Int32)) = (1 : Int32)
        · skip
          have K172 : Go p e below T127 (mkF m 128 #[.val (.int q0), .val (.int q1), .val (.int q2), .val (.int q3), .val (.int q4), .val (.int i2), .val (.int b2), .val (.ref b114), .val (.ref b122), .val (.int (1 : Int32)), .val (.int (((q4.toUInt32 >>> ((2 : Int32) &&& 31).toUInt32).toInt32) &&& (3 : Int32))), .unset, .unset] []) G := fun tq kq => K170 tq (XS.icmpNo X127.here hx rfl (hb hby at_125) rfl ((teq hc171).2) kq)
          have K173 : Go p e below T127 (mkF m 130 #[.val (.int q0), .val (.int q1), .val (.int q2), .val (.int q3), .val (.int q4), .val (.int i2), .val (.int b2), .val (.ref b114), .val (.ref b122), .val (.int (1 : Int32)), .val (.int (((q4.toUInt32 >>> ((2 : Int32) &&& 31).toUInt32).toInt32) &&& (3 : Int32))), .unset, .unset] [(.ref b114)]) G := fun tq kq => K172 tq (XS.aload X127.here hx rfl (hb hby at_128) rfl rfl kq)
          have K174 : Go p e below T127 (mkF m 131 #[.val (.int q0), .val (.int q1), .val (.int q2), .val (.int q3), .val (.int q4), .val (.int i2), .val (.int b2), .val (.ref b114), .val (.ref b122), .val (.int (1 : Int32)), .val (.int (((q4.toUInt32 >>> ((2 : Int32) &&& 31).toUInt32).toInt32) &&& (3 : Int32))), .unset, .unset] [.null, (.ref b114)]) G := fun tq kq => K173 tq (XS.aconstNull X127.here hx rfl (hb hby at_130) kq)
          obtain ⟨cq175, kq175, q175a, q175b, q175c⟩ := isOf hZ rfl ((E119q.ext E122).keep K127q)
          obtain ⟨v175, _, ⟨T175, L175, k175, n175⟩, -, X175, ⟨Lc175, hQ175, l175, y175, z175⟩, st175⟩ := X127.virtualBack hx (y := (⟨"com/example/vervet/vervet/pipewire/Permission", "equals", "(Ljava/lang/Object;)Z"⟩ : MethodName)) (z := (⟨"com/example/vervet/vervet/pipewire/Permission", "equals", "(Ljava/lang/Object;)Z"⟩ : MethodName)) hown (mvT hZ (hW 13 _ rfl)) (mvT hZ (hW 14 _ rfl)) (notFace_of_selects (args := #[]) (mvT hZ (hW 16 _ rfl))) (mvT hZ (hW 16 _ rfl)) (mvT hZ (hW 15 _ rfl)) (by decide) (backOf (W := 0) (rmEqN l Z a0 hw [] b114 T127.heap n0 (Nat.le_trans (Nat.le_trans (Nat.le_trans (Nat.le_trans Z0 E114.1) K119q.1) E122.1) K127q.1)) hZ (hW 17 _ rfl) (hW 2 _ rfl) (by decide) (by decide)) q175a q175c (g := (mkF m 131 #[.val (.int q0), .val (.int q1), .val (.int q2), .val (.int q3), .val (.int q4), .val (.int i2), .val (.int b2), .val (.ref b114), .val (.ref b122), .val (.int (1 : Int32)), .val (.int (((q4.toUInt32 >>> ((2 : Int32) &&& 31).toUInt32).toInt32) &&& (3 : Int32))), .unset, .unset] [.null, (.ref b114)])) rfl (by rw [hml]; rfl) (Steps.refl _) (argsL := [.null]) (rest := []) (lenOf pd_72 rfl) rfl (by show 2 * 0 + _ ≤ _; exact Nat.le_of_eq rfl) (hb hby at_131) (fun _ _ => ⟨rfl, rfl, (by decide : 2 + 0 ≤ _), (by decide : 4 + 0 ≤ _)⟩)
          dsimp only [Pt.U, Pt.locs, Pt.cells, Pt.slots] at X175 l175 y175 z175 st175 hQ175
          subst l175 y175 z175
          obtain ⟨rfl, N175q, E175q⟩ := hQ175
          have N175 := Fr.app N127 N175q
          have K176 : Go p e below T175 (mkF m 134 #[.val (.int q0), .val (.int q1), .val (.int q2), .val (.int q3), .val (.int q4), .val (.int i2), .val (.int b2), .val (.ref b114), .val (.ref b122), .val (.int (1 : Int32)), .val (.int (((q4.toUInt32 >>> ((2 : Int32) &&& 31).toUInt32).toInt32) &&& (3 : Int32))), .unset, .unset] [(.int (0 : Int32))]) G := fun tq kq => K174 tq (st175.trans kq)
          have K177 : Go p e below T175 (mkF m 137 #[.val (.int q0), .val (.int q1), .val (.int q2), .val (.int q3), .val (.int q4), .val (.int i2), .val (.int b2), .val (.ref b114), .val (.ref b122), .val (.int (1 : Int32)), .val (.int (((q4.toUInt32 >>> ((2 : Int32) &&& 31).toUInt32).toInt32) &&& (3 : Int32))), .unset, .unset] []) G := fun tq kq => K176 tq (XS.ifNo X175.here hx rfl (hb hby at_134) rfl ((if0 _ _).trans (teq (by decide : (0 : Int32) = (0 : Int32))).2) kq)
          have K178 : Go p e below T175 (mkF m 138 #[.val (.int q0), .val (.int q1), .val (.int q2), .val (.int q3), .val (.int q4), .val (.int i2), .val (.int b2), .val (.ref b114), .val (.ref b122), .val (.int (1 : Int32)), .val (.int (((q4.toUInt32 >>> ((2 : Int32) &&& 31).toUInt32).toInt32) &&& (3 : Int32))), .unset, .unset] [(.int (1 : Int32))]) G := fun tq kq => K177 tq (XS.iconst X175.here hx rfl (hb hby at_137) kq)
          have K179 : Go p e below T175 (mkF m 142 #[.val (.int q0), .val (.int q1), .val (.int q2), .val (.int q3), .val (.int q4), .val (.int i2), .val (.int b2), .val (.ref b114), .val (.ref b122), .val (.int (1 : Int32)), .val (.int (((q4.toUInt32 >>> ((2 : Int32) &&& 31).toUInt32).toInt32) &&& (3 : Int32))), .unset, .unset] [(.int (1 : Int32))]) G := fun tq kq => K178 tq (XS.goto X175.here hx rfl (pc0 := 138) (pc' := 142) rfl (hb hby at_138) (by decide) (by decide) kq)
          obtain ⟨fs, hr, hrun, hended, hWW, hsame⟩ := X175.leave (v := some (.int (1 : Int32))) (fun h => by rw [Bd.returns] at h; cases h)
          refine ⟨_, _, hG _ (K179 _ (retN X175 hx (t := .boolean) Bd.returns (by simp) (hb hby at_142) hr)), hrun, hended, _, _, rfl, ?_, ⟨_, rfl⟩, hWW, hsame.mono (by decide) (by decide)⟩
          show Q0 Z q0 q1 q2 q3 q4 ca cc h0 n0 _ T175.heap _
          rw [E175q]
          exact ⟨rfl, N175⟩
        · skip
          have K180 : Go p e below T127 (mkF m 143 #[.val (.int q0), .val (.int q1), .val (.int q2), .val (.int q3), .val (.int q4), .val (.int i2), .val (.int b2), .val (.ref b114), .val (.ref b122), .val (.int (1 : Int32)), .val (.int (((q4.toUInt32 >>> ((2 : Int32) &&& 31).toUInt32).toInt32) &&& (3 : Int32))), .unset, .unset] []) G := fun tq kq => K170 tq (XS.icmpYes X127.here hx rfl (pc0 := 125) (pc' := 143) rfl (hb hby at_125) rfl ((feq hc171).2) (by decide) (by decide) kq)
          have K181 : Go p e below T127 (mkF m 145 #[.val (.int q0), .val (.int q1), .val (.int q2), .val (.int q3), .val (.int q4), .val (.int i2), .val (.int b2), .val (.ref b114), .val (.ref b122), .val (.int (1 : Int32)), .val (.int (((q4.toUInt32 >>> ((2 : Int32) &&& 31).toUInt32).toInt32) &&& (3 : Int32))), .unset, .unset] [(.int (((q4.toUInt32 >>> ((2 : Int32) &&& 31).toUInt32).toInt32) &&& (3 : Int32)))]) G := fun tq kq => K180 tq (XS.iload X127.here hx rfl (hb hby at_143) rfl kq)
          have K182 : Go p e below T127 (mkF m 146 #[.val (.int q0), .val (.int q1), .val (.int q2), .val (.int q3), .val (.int q4), .val (.int i2), .val (.int b2), .val (.ref b114), .val (.ref b122), .val (.int (1 : Int32)), .val (.int (((q4.toUInt32 >>> ((2 : Int32) &&& 31).toUInt32).toInt32) &&& (3 : Int32))), .unset, .unset] [(.int (2 : Int32)), (.int (((q4.toUInt32 >>> ((2 : Int32) &&& 31).toUInt32).toInt32) &&& (3 : Int32)))]) G := fun tq kq => K181 tq (XS.iconst X127.here hx rfl (hb hby at_145) kq)
          by_cases hc183 : (((q4.toUInt32 >>> ((2 : Int32) &&& 31).toUInt32).toInt32) &&& (3 : Int32)) = (2 : Int32)
          · skip
            have K184 : Go p e below T127 (mkF m 149 #[.val (.int q0), .val (.int q1), .val (.int q2), .val (.int q3), .val (.int q4), .val (.int i2), .val (.int b2), .val (.ref b114), .val (.ref b122), .val (.int (1 : Int32)), .val (.int (((q4.toUInt32 >>> ((2 : Int32) &&& 31).toUInt32).toInt32) &&& (3 : Int32))), .unset, .unset] []) G := fun tq kq => K182 tq (XS.icmpNo X127.here hx rfl (hb hby at_146) rfl ((teq hc183).2) kq)
            have K185 : Go p e below T127 (mkF m 151 #[.val (.int q0), .val (.int q1), .val (.int q2), .val (.int q3), .val (.int q4), .val (.int i2), .val (.int b2), .val (.ref b114), .val (.ref b122), .val (.int (1 : Int32)), .val (.int (((q4.toUInt32 >>> ((2 : Int32) &&& 31).toUInt32).toInt32) &&& (3 : Int32))), .unset, .unset] [(.ref b114)]) G := fun tq kq => K184 tq (XS.aload X127.here hx rfl (hb hby at_149) rfl rfl kq)
            have K186 : Go p e below T127 (mkF m 152 #[.val (.int q0), .val (.int q1), .val (.int q2), .val (.int q3), .val (.int q4), .val (.int i2), .val (.int b2), .val (.ref b114), .val (.ref b122), .val (.int (1 : Int32)), .val (.int (((q4.toUInt32 >>> ((2 : Int32) &&& 31).toUInt32).toInt32) &&& (3 : Int32))), .unset, .unset] [(.int q0), (.ref b114)]) G := fun tq kq => K185 tq (XS.iloadN X127.here hx rfl (hb hby at_151) rfl kq)
            obtain ⟨v187, _, ⟨T187, L187, k187, n187⟩, -, X187, ⟨Lc187, hQ187, l187, y187, z187⟩, st187⟩ := Jvm.LawKit.callS X127 hx (y := (⟨"java/lang/Integer", "valueOf", "(I)Ljava/lang/Integer;"⟩ : MethodName)) hown (mvT hZ (hW 20 _ rfl)) (mvT hZ (hW 21 _ rfl)) (mvT hZ (hW 22 _ rfl)) (mvT hZ (hW 23 _ rfl)) (by decide) (backOf (W := 1) (rmVO l Z a0 hw [] q0 ca cc T127.heap n0 (Nat.le_trans (Nat.le_trans (Nat.le_trans (Nat.le_trans Z0 E114.1) K119q.1) E122.1) K127q.1) ((((O0.ext E114).keep K119q (allS ge_b114 all0)).ext E122).keep K127q (allS ge_b122 all0)) S_high S_cache ArC hsz hel) hZ (hW 23 _ rfl) (hW 22 _ rfl) (by decide) (by decide)) (g := (mkF m 152 #[.val (.int q0), .val (.int q1), .val (.int q2), .val (.int q3), .val (.int q4), .val (.int i2), .val (.int b2), .val (.ref b114), .val (.ref b122), .val (.int (1 : Int32)), .val (.int (((q4.toUInt32 >>> ((2 : Int32) &&& 31).toUInt32).toInt32) &&& (3 : Int32))), .unset, .unset] [(.int q0), (.ref b114)])) rfl (by rw [hml]; rfl) (argsL := [(.int q0)]) (rest := [(.ref b114)]) (lenOf pd_73 rfl) rfl (by show 2 * 0 + _ ≤ _; exact Nat.le_of_eq rfl) (hb hby at_152) (fun _ _ => ⟨rfl, rfl, (by decide : 2 + 1 ≤ _), (by decide : 4 + 1 ≤ _)⟩)
            dsimp only [Pt.U, Pt.locs, Pt.cells, Pt.slots] at X187 l187 y187 z187 st187 hQ187
            subst l187 y187 z187
            obtain ⟨r187, rfl, N187q, K187q, E187q⟩ := hQ187
            have N187 := Fr.app N127 N187q
            have K188 : Go p e below T187 (mkF m 155 #[.val (.int q0), .val (.int q1), .val (.int q2), .val (.int q3), .val (.int q4), .val (.int i2), .val (.int b2), .val (.ref b114), .val (.ref b122), .val (.int (1 : Int32)), .val (.int (((q4.toUInt32 >>> ((2 : Int32) &&& 31).toUInt32).toInt32) &&& (3 : Int32))), .unset, .unset] [(.ref r187), (.ref b114)]) G := fun tq kq => K186 tq (st187 tq kq)
            obtain ⟨cq189, kq189, q189a, q189b, q189c⟩ := isOf hZ rfl (((E119q.ext E122).keep K127q).keep K187q)
            obtain ⟨v189, _, ⟨T189, L189, k189, n189⟩, -, X189, ⟨Lc189, hQ189, l189, y189, z189⟩, st189⟩ := X187.virtualBack hx (y := (⟨"com/example/vervet/vervet/pipewire/Permission", "equals", "(Ljava/lang/Object;)Z"⟩ : MethodName)) (z := (⟨"com/example/vervet/vervet/pipewire/Permission", "equals", "(Ljava/lang/Object;)Z"⟩ : MethodName)) hown (mvT hZ (hW 13 _ rfl)) (mvT hZ (hW 14 _ rfl)) (notFace_of_selects (args := #[]) (mvT hZ (hW 16 _ rfl))) (mvT hZ (hW 16 _ rfl)) (mvT hZ (hW 15 _ rfl)) (by decide) (backOf (W := 0) (rmEqI l Z a0 hw [] b114 r187 T187.heap n0 (Nat.le_trans (Nat.le_trans (Nat.le_trans (Nat.le_trans (Nat.le_trans Z0 E114.1) K119q.1) E122.1) K127q.1) K187q.1) E187q) hZ (hW 17 _ rfl) (hW 2 _ rfl) (by decide) (by decide)) q189a q189c (g := (mkF m 155 #[.val (.int q0), .val (.int q1), .val (.int q2), .val (.int q3), .val (.int q4), .val (.int i2), .val (.int b2), .val (.ref b114), .val (.ref b122), .val (.int (1 : Int32)), .val (.int (((q4.toUInt32 >>> ((2 : Int32) &&& 31).toUInt32).toInt32) &&& (3 : Int32))), .unset, .unset] [(.ref r187), (.ref b114)])) rfl (by rw [hml]; rfl) (Steps.refl _) (argsL := [(.ref r187)]) (rest := []) (lenOf pd_72 rfl) rfl (by show 2 * 0 + _ ≤ _; exact Nat.le_of_eq rfl) (hb hby at_155) (fun _ _ => ⟨rfl, rfl, (by decide : 3 + 0 ≤ _), (by decide : 5 + 0 ≤ _)⟩)
            dsimp only [Pt.U, Pt.locs, Pt.cells, Pt.slots] at X189 l189 y189 z189 st189 hQ189
            subst l189 y189 z189
            obtain ⟨rfl, N189q, E189q⟩ := hQ189
            have N189 := Fr.app N187 N189q
            have K190 : Go p e below T189 (mkF m 158 #[.val (.int q0), .val (.int q1), .val (.int q2), .val (.int q3), .val (.int q4), .val (.int i2), .val (.int b2), .val (.ref b114), .val (.ref b122), .val (.int (1 : Int32)), .val (.int (((q4.toUInt32 >>> ((2 : Int32) &&& 31).toUInt32).toInt32) &&& (3 : Int32))), .unset, .unset] [(.int (0 : Int32))]) G := fun tq kq => K188 tq (st189.trans kq)
            have K191 : Go p e below T189 (mkF m 161 #[.val (.int q0), .val (.int q1), .val (.int q2), .val (.int q3), .val (.int q4), .val (.int i2), .val (.int b2), .val (.ref b114), .val (.ref b122), .val (.int (1 : Int32)), .val (.int (((q4.toUInt32 >>> ((2 : Int32) &&& 31).toUInt32).toInt32) &&& (3 : Int32))), .unset, .unset] []) G := fun tq kq => K190 tq (XS.ifNo X189.here hx rfl (hb hby at_158) rfl ((if0 _ _).trans (teq (by decide : (0 : Int32) = (0 : Int32))).2) kq)
            have K192 : Go p e below T189 (mkF m 162 #[.val (.int q0), .val (.int q1), .val (.int q2), .val (.int q3), .val (.int q4), .val (.int i2), .val (.int b2), .val (.ref b114), .val (.ref b122), .val (.int (1 : Int32)), .val (.int (((q4.toUInt32 >>> ((2 : Int32) &&& 31).toUInt32).toInt32) &&& (3 : Int32))), .unset, .unset] [(.int (1 : Int32))]) G := fun tq kq => K191 tq (XS.iconst X189.here hx rfl (hb hby at_161) kq)
            have K193 : Go p e below T189 (mkF m 166 #[.val (.int q0), .val (.int q1), .val (.int q2), .val (.int q3), .val (.int q4), .val (.int i2), .val (.int b2), .val (.ref b114), .val (.ref b122), .val (.int (1 : Int32)), .val (.int (((q4.toUInt32 >>> ((2 : Int32) &&& 31).toUInt32).toInt32) &&& (3 : Int32))), .unset, .unset] [(.int (1 : Int32))]) G := fun tq kq => K192 tq (XS.goto X189.here hx rfl (pc0 := 162) (pc' := 166) rfl (hb hby at_162) (by decide) (by decide) kq)
            obtain ⟨fs, hr, hrun, hended, hWW, hsame⟩ := X189.leave (v := some (.int (1 : Int32))) (fun h => by rw [Bd.returns] at h; cases h)
            refine ⟨_, _, hG _ (K193 _ (retN X189 hx (t := .boolean) Bd.returns (by simp) (hb hby at_166) hr)), hrun, hended, _, _, rfl, ?_, ⟨_, rfl⟩, hWW, hsame.mono (by decide) (by decide)⟩
            show Q0 Z q0 q1 q2 q3 q4 ca cc h0 n0 _ T189.heap _
            rw [E189q]
            exact ⟨rfl, N189⟩
          · skip
            have K194 : Go p e below T127 (mkF m 167 #[.val (.int q0), .val (.int q1), .val (.int q2), .val (.int q3), .val (.int q4), .val (.int i2), .val (.int b2), .val (.ref b114), .val (.ref b122), .val (.int (1 : Int32)), .val (.int (((q4.toUInt32 >>> ((2 : Int32) &&& 31).toUInt32).toInt32) &&& (3 : Int32))), .unset, .unset] []) G := fun tq kq => K182 tq (XS.icmpYes X127.here hx rfl (pc0 := 146) (pc' := 167) rfl (hb hby at_146) rfl ((feq hc183).2) (by decide) (by decide) kq)
            have K195 : Go p e below T127 (mkF m 169 #[.val (.int q0), .val (.int q1), .val (.int q2), .val (.int q3), .val (.int q4), .val (.int i2), .val (.int b2), .val (.ref b114), .val (.ref b122), .val (.int (1 : Int32)), .val (.int (((q4.toUInt32 >>> ((2 : Int32) &&& 31).toUInt32).toInt32) &&& (3 : Int32))), .unset, .unset] [(.ref b114)]) G := fun tq kq => K194 tq (XS.aload X127.here hx rfl (hb hby at_167) rfl rfl kq)
            have K196 : Go p e below T127 (mkF m 171 #[.val (.int q0), .val (.int q1), .val (.int q2), .val (.int q3), .val (.int q4), .val (.int i2), .val (.int b2), .val (.ref b114), .val (.ref b122), .val (.int (1 : Int32)), .val (.int (((q4.toUInt32 >>> ((2 : Int32) &&& 31).toUInt32).toInt32) &&& (3 : Int32))), .unset, .unset] [(.ref b114), (.ref b114)]) G := fun tq kq => K195 tq (XS.aload X127.here hx rfl (hb hby at_169) rfl rfl kq)
            obtain ⟨cq197, kq197, q197a, q197b, q197c⟩ := isOf hZ rfl ((E119q.ext E122).keep K127q)
            obtain ⟨v197, _, ⟨T197, L197, k197, n197⟩, -, X197, ⟨Lc197, hQ197, l197, y197, z197⟩, st197⟩ := X127.virtualBack hx (y := (⟨"com/example/vervet/vervet/pipewire/Permission", "equals", "(Ljava/lang/Object;)Z"⟩ : MethodName)) (z := (⟨"com/example/vervet/vervet/pipewire/Permission", "equals", "(Ljava/lang/Object;)Z"⟩ : MethodName)) hown (mvT hZ (hW 13 _ rfl)) (mvT hZ (hW 14 _ rfl)) (notFace_of_selects (args := #[]) (mvT hZ (hW 16 _ rfl))) (mvT hZ (hW 16 _ rfl)) (mvT hZ (hW 15 _ rfl)) (by decide) (backOf (W := 0) (rmEqP l Z a0 hw [] b114 b114 q0 q1 q0 q1 T127.heap n0 (Nat.le_trans (Nat.le_trans (Nat.le_trans (Nat.le_trans Z0 E114.1) K119q.1) E122.1) K127q.1) ((F119q_id.ext E122).keep K127q (ninS ne122_b114 nin0)) ((F119q_bits.ext E122).keep K127q (ninS ne122_b114 nin0)) ((F119q_id.ext E122).keep K127q (ninS ne122_b114 nin0)) ((F119q_bits.ext E122).keep K127q (ninS ne122_b114 nin0)) ((E119q.ext E122).keep K127q)) hZ (hW 17 _ rfl) (hW 2 _ rfl) (by decide) (by decide)) q197a q197c (g := (mkF m 171 #[.val (.int q0), .val (.int q1), .val (.int q2), .val (.int q3), .val (.int q4), .val (.int i2), .val (.int b2), .val (.ref b114), .val (.ref b122), .val (.int (1 : Int32)), .val (.int (((q4.toUInt32 >>> ((2 : Int32) &&& 31).toUInt32).toInt32) &&& (3 : Int32))), .unset, .unset] [(.ref b114), (.ref b114)])) rfl (by rw [hml]; rfl) (Steps.refl _) (argsL := [(.ref b114)]) (rest := []) (lenOf pd_72 rfl) rfl (by show 2 * 0 + _ ≤ _; exact Nat.le_of_eq rfl) (hb hby at_171) (fun _ _ => ⟨rfl, rfl, (by decide : 2 + 0 ≤ _), (by decide : 4 + 0 ≤ _)⟩)
            dsimp only [Pt.U, Pt.locs, Pt.cells, Pt.slots] at X197 l197 y197 z197 st197 hQ197
            subst l197 y197 z197
            rw [QEqP, if_pos (⟨rfl, rfl⟩)] at hQ197
            obtain ⟨rfl, N197q, E197q⟩ := hQ197
            have N197 := Fr.app N127 N197q
            have K198 : Go p e below T197 (mkF m 174 #[.val (.int q0), .val (.int q1), .val (.int q2), .val (.int q3), .val (.int q4), .val (.int i2), .val (.int b2), .val (.ref b114), .val (.ref b122), .val (.int (1 : Int32)), .val (.int (((q4.toUInt32 >>> ((2 : Int32) &&& 31).toUInt32).toInt32) &&& (3 : Int32))), .unset, .unset] [(.int (1 : Int32))]) G := fun tq kq => K196 tq (st197.trans kq)
            obtain ⟨fs, hr, hrun, hended, hWW, hsame⟩ := X197.leave (v := some (.int (1 : Int32))) (fun h => by rw [Bd.returns] at h; cases h)
            refine ⟨_, _, hG _ (K198 _ (retN X197 hx (t := .boolean) Bd.returns (by simp) (hb hby at_174) hr)), hrun, hended, _, _, rfl, ?_, ⟨_, rfl⟩, hWW, hsame.mono (by decide) (by decide)⟩
            show Q0 Z q0 q1 q2 q3 q4 ca cc h0 n0 _ T197.heap _
            rw [E197q]
            exact ⟨rfl, N197⟩
    · skip
      have K199 : Go p e below T127 (mkF m 68 #[.val (.int q0), .val (.int q1), .val (.int q2), .val (.int q3), .val (.int q4), .val (.int i2), .val (.int b2), .val (.ref b114), .val (.ref b122), .unset, .unset, .unset, .unset] []) G := fun tq kq => K135 tq (XS.icmpYes X127.here hx rfl (pc0 := 61) (pc' := 68) rfl (hb hby at_61) rfl ((feq hc136).2) (by decide) (by decide) kq)
      have K200 : Go p e below T127 (mkF m 69 #[.val (.int q0), .val (.int q1), .val (.int q2), .val (.int q3), .val (.int q4), .val (.int i2), .val (.int b2), .val (.ref b114), .val (.ref b122), .unset, .unset, .unset, .unset] [(.int (0 : Int32))]) G := fun tq kq => K199 tq (XS.iconst X127.here hx rfl (hb hby at_68) kq)
      have K201 : Go p e below T127 (mkF m 71 #[.val (.int q0), .val (.int q1), .val (.int q2), .val (.int q3), .val (.int q4), .val (.int i2), .val (.int b2), .val (.ref b114), .val (.ref b122), .val (.int (0 : Int32)), .unset, .unset, .unset] []) G := fun tq kq => K200 tq (XS.istore X127.here hx rfl (hb hby at_69) rfl (l' := #[.val (.int q0), .val (.int q1), .val (.int q2), .val (.int q3), .val (.int q4), .val (.int i2), .val (.int b2), .val (.ref b114), .val (.ref b122), .val (.int (0 : Int32)), .unset, .unset, .unset]) rfl kq)
      have K202 : Go p e below T127 (mkF m 73 #[.val (.int q0), .val (.int q1), .val (.int q2), .val (.int q3), .val (.int q4), .val (.int i2), .val (.int b2), .val (.ref b114), .val (.ref b122), .val (.int (0 : Int32)), .unset, .unset, .unset] [(.int q4)]) G := fun tq kq => K201 tq (XS.iload X127.here hx rfl (hb hby at_71) rfl kq)
      have K203 : Go p e below T127 (mkF m 74 #[.val (.int q0), .val (.int q1), .val (.int q2), .val (.int q3), .val (.int q4), .val (.int i2), .val (.int b2), .val (.ref b114), .val (.ref b122), .val (.int (0 : Int32)), .unset, .unset, .unset] [(.int (2 : Int32)), (.int q4)]) G := fun tq kq => K202 tq (XS.iconst X127.here hx rfl (hb hby at_73) kq)
      have K204 : Go p e below T127 (mkF m 75 #[.val (.int q0), .val (.int q1), .val (.int q2), .val (.int q3), .val (.int q4), .val (.int i2), .val (.int b2), .val (.ref b114), .val (.ref b122), .val (.int (0 : Int32)), .unset, .unset, .unset] [(.int ((q4.toUInt32 >>> ((2 : Int32) &&& 31).toUInt32).toInt32))]) G := fun tq kq => K203 tq (XS.iushr X127.here hx rfl (hb hby at_74) rfl kq)
      have K205 : Go p e below T127 (mkF m 76 #[.val (.int q0), .val (.int q1), .val (.int q2), .val (.int q3), .val (.int q4), .val (.int i2), .val (.int b2), .val (.ref b114), .val (.ref b122), .val (.int (0 : Int32)), .unset, .unset, .unset] [(.int (3 : Int32)), (.int ((q4.toUInt32 >>> ((2 : Int32) &&& 31).toUInt32).toInt32))]) G := fun tq kq => K204 tq (XS.iconst X127.here hx rfl (hb hby at_75) kq)
      have K206 : Go p e below T127 (mkF m 77 #[.val (.int q0), .val (.int q1), .val (.int q2), .val (.int q3), .val (.int q4), .val (.int i2), .val (.int b2), .val (.ref b114), .val (.ref b122), .val (.int (0 : Int32)), .unset, .unset, .unset] [(.int (((q4.toUInt32 >>> ((2 : Int32) &&& 31).toUInt32).toInt32) &&& (3 : Int32)))]) G := fun tq kq => K205 tq (XS.iand X127.here hx rfl (hb hby at_76) rfl kq)
      have K207 : Go p e below T127 (mkF m 79 #[.val (.int q0), .val (.int q1), .val (.int q2), .val (.int q3), .val (.int q4), .val (.int i2), .val (.int b2), .val (.ref b114), .val (.ref b122), .val (.int (0 : Int32)), .val (.int (((q4.toUInt32 >>> ((2 : Int32) &&& 31).toUInt32).toInt32) &&& (3 : Int32))), .unset, .unset] []) G := fun tq kq => K206 tq (XS.istore X127.here hx rfl (hb hby at_77) rfl (l' := #[.val (.int q0), .val (.int q1), .val (.int q2), .val (.int q3), .val (.int q4), .val (.int i2), .val (.int b2), .val (.ref b114), .val (.ref b122), .val (.int (0 : Int32)), .val (.int (((q4.toUInt32 >>> ((2 : Int32) &&& 31).toUInt32).toInt32) &&& (3 : Int32))), .unset, .unset]) rfl kq)
      have K208 : Go p e below T127 (mkF m 81 #[.val (.int q0), .val (.int q1), .val (.int q2), .val (.int q3), .val (.int q4), .val (.int i2), .val (.int b2), .val (.ref b114), .val (.ref b122), .val (.int (0 : Int32)), .val (.int (((q4.toUInt32 >>> ((2 : Int32) &&& 31).toUInt32).toInt32) &&& (3 : Int32))), .unset, .unset] [(.int (((q4.toUInt32 >>> ((2 : Int32) &&& 31).toUInt32).toInt32) &&& (3 : Int32)))]) G := fun tq kq => K207 tq (XS.iload X127.here hx rfl (hb hby at_79) rfl kq)
      by_cases hc209 : (((q4.toUInt32 >>> ((2 : Int32) &&& 31).toUInt32).toInt32) &&& (3 : Int32)) = (0 : Int32)
      · skip
        have K210 : Go p e below T127 (mkF m 84 #[.val (.int q0), .val (.int q1), .val (.int q2), .val (.int q3), .val (.int q4), .val (.int i2), .val (.int b2), .val (.ref b114), .val (.ref b122), .val (.int (0 : Int32)), .val (.int (((q4.toUInt32 >>> ((2 : Int32) &&& 31).toUInt32).toInt32) &&& (3 : Int32))), .unset, .unset] []) G := fun tq kq => K208 tq (XS.ifNo X127.here hx rfl (hb hby at_81) rfl ((if0 _ _).trans (teq hc209).2) kq)
        have K211 : Go p e below T127 (mkF m 86 #[.val (.int q0), .val (.int q1), .val (.int q2), .val (.int q3), .val (.int q4), .val (.int i2), .val (.int b2), .val (.ref b114), .val (.ref b122), .val (.int (0 : Int32)), .val (.int (((q4.toUInt32 >>> ((2 : Int32) &&& 31).toUInt32).toInt32) &&& (3 : Int32))), .unset, .unset] [(.ref b114)]) G := fun tq kq => K210 tq (XS.aload X127.here hx rfl (hb hby at_84) rfl rfl kq)
        have K212 : Go p e below T127 (mkF m 88 #[.val (.int q0), .val (.int q1), .val (.int q2), .val (.int q3), .val (.int q4), .val (.int i2), .val (.int b2), .val (.ref b114), .val (.ref b122), .val (.int (0 : Int32)), .val (.int (((q4.toUInt32 >>> ((2 : Int32) &&& 31).toUInt32).toInt32) &&& (3 : Int32))), .unset, .unset] [(.ref b122), (.ref b114)]) G := fun tq kq => K211 tq (XS.aload X127.here hx rfl (hb hby at_86) rfl rfl kq)
        obtain ⟨cq213, kq213, q213a, q213b, q213c⟩ := isOf hZ rfl ((E119q.ext E122).keep K127q)
        obtain ⟨v213, _, ⟨T213, L213, k213, n213⟩, -, X213, ⟨Lc213, hQ213, l213, y213, z213⟩, st213⟩ := X127.virtualBack hx (y := (⟨"com/example/vervet/vervet/pipewire/Permission", "equals", "(Ljava/lang/Object;)Z"⟩ : MethodName)) (z := (⟨"com/example/vervet/vervet/pipewire/Permission", "equals", "(Ljava/lang/Object;)Z"⟩ : MethodName)) hown (mvT hZ (hW 13 _ rfl)) (mvT hZ (hW 14 _ rfl)) (notFace_of_selects (args := #[]) (mvT hZ (hW 16 _ rfl))) (mvT hZ (hW 16 _ rfl)) (mvT hZ (hW 15 _ rfl)) (by decide) (backOf (W := 0) (rmEqP l Z a0 hw [] b114 b122 q0 q1 i2 b2 T127.heap n0 (Nat.le_trans (Nat.le_trans (Nat.le_trans (Nat.le_trans Z0 E114.1) K119q.1) E122.1) K127q.1) ((F119q_id.ext E122).keep K127q (ninS ne122_b114 nin0)) ((F119q_bits.ext E122).keep K127q (ninS ne122_b114 nin0)) F127q_id F127q_bits E127q) hZ (hW 17 _ rfl) (hW 2 _ rfl) (by decide) (by decide)) q213a q213c (g := (mkF m 88 #[.val (.int q0), .val (.int q1), .val (.int q2), .val (.int q3), .val (.int q4), .val (.int i2), .val (.int b2), .val (.ref b114), .val (.ref b122), .val (.int (0 : Int32)), .val (.int (((q4.toUInt32 >>> ((2 : Int32) &&& 31).toUInt32).toInt32) &&& (3 : Int32))), .unset, .unset] [(.ref b122), (.ref b114)])) rfl (by rw [hml]; rfl) (Steps.refl _) (argsL := [(.ref b122)]) (rest := []) (lenOf pd_72 rfl) rfl (by show 2 * 0 + _ ≤ _; exact Nat.le_of_eq rfl) (hb hby at_88) (fun _ _ => ⟨rfl, rfl, (by decide : 2 + 0 ≤ _), (by decide : 4 + 0 ≤ _)⟩)
        dsimp only [Pt.U, Pt.locs, Pt.cells, Pt.slots] at X213 l213 y213 z213 st213 hQ213
        subst l213 y213 z213
        rw [QEqP, if_neg (fun z => hc136 (z.2.symm))] at hQ213
        obtain ⟨rfl, N213q, E213q⟩ := hQ213
        have N213 := Fr.app N127 N213q
        have K214 : Go p e below T213 (mkF m 91 #[.val (.int q0), .val (.int q1), .val (.int q2), .val (.int q3), .val (.int q4), .val (.int i2), .val (.int b2), .val (.ref b114), .val (.ref b122), .val (.int (0 : Int32)), .val (.int (((q4.toUInt32 >>> ((2 : Int32) &&& 31).toUInt32).toInt32) &&& (3 : Int32))), .unset, .unset] [(.int (0 : Int32))]) G := fun tq kq => K212 tq (st213.trans kq)
        have K215 : Go p e below T213 (mkF m 93 #[.val (.int q0), .val (.int q1), .val (.int q2), .val (.int q3), .val (.int q4), .val (.int i2), .val (.int b2), .val (.ref b114), .val (.ref b122), .val (.int (0 : Int32)), .val (.int (((q4.toUInt32 >>> ((2 : Int32) &&& 31).toUInt32).toInt32) &&& (3 : Int32))), .val (.int (0 : Int32)), .unset] []) G := fun tq kq => K214 tq (XS.istore X213.here hx rfl (hb hby at_91) rfl (l' := #[.val (.int q0), .val (.int q1), .val (.int q2), .val (.int q3), .val (.int q4), .val (.int i2), .val (.int b2), .val (.ref b114), .val (.ref b122), .val (.int (0 : Int32)), .val (.int (((q4.toUInt32 >>> ((2 : Int32) &&& 31).toUInt32).toInt32) &&& (3 : Int32))), .val (.int (0 : Int32)), .unset]) rfl kq)
        have K216 : Go p e below T213 (mkF m 95 #[.val (.int q0), .val (.int q1), .val (.int q2), .val (.int q3), .val (.int q4), .val (.int i2), .val (.int b2), .val (.ref b114), .val (.ref b122), .val (.int (0 : Int32)), .val (.int (((q4.toUInt32 >>> ((2 : Int32) &&& 31).toUInt32).toInt32) &&& (3 : Int32))), .val (.int (0 : Int32)), .unset] [(.ref b122)]) G := fun tq kq => K215 tq (XS.aload X213.here hx rfl (hb hby at_93) rfl rfl kq)
        have K217 : Go p e below T213 (mkF m 97 #[.val (.int q0), .val (.int q1), .val (.int q2), .val (.int q3), .val (.int q4), .val (.int i2), .val (.int b2), .val (.ref b114), .val (.ref b122), .val (.int (0 : Int32)), .val (.int (((q4.toUInt32 >>> ((2 : Int32) &&& 31).toUInt32).toInt32) &&& (3 : Int32))), .val (.int (0 : Int32)), .unset] [(.ref b114), (.ref b122)]) G := fun tq kq => K216 tq (XS.aload X213.here hx rfl (hb hby at_95) rfl rfl kq)
        obtain ⟨cq218, kq218, q218a, q218b, q218c⟩ := isOf hZ E213q E127q
        obtain ⟨v218, _, ⟨T218, L218, k218, n218⟩, -, X218, ⟨Lc218, hQ218, l218, y218, z218⟩, st218⟩ := X213.virtualBack hx (y := (⟨"com/example/vervet/vervet/pipewire/Permission", "equals", "(Ljava/lang/Object;)Z"⟩ : MethodName)) (z := (⟨"com/example/vervet/vervet/pipewire/Permission", "equals", "(Ljava/lang/Object;)Z"⟩ : MethodName)) hown (mvT hZ (hW 13 _ rfl)) (mvT hZ (hW 14 _ rfl)) (notFace_of_selects (args := #[]) (mvT hZ (hW 16 _ rfl))) (mvT hZ (hW 16 _ rfl)) (mvT hZ (hW 15 _ rfl)) (by decide) (backOf (W := 0) (rmEqP l Z a0 hw [] b122 b114 i2 b2 q0 q1 T127.heap n0 (Nat.le_trans (Nat.le_trans (Nat.le_trans (Nat.le_trans Z0 E114.1) K119q.1) E122.1) K127q.1) F127q_id F127q_bits ((F119q_id.ext E122).keep K127q (ninS ne122_b114 nin0)) ((F119q_bits.ext E122).keep K127q (ninS ne122_b114 nin0)) ((E119q.ext E122).keep K127q)) hZ (hW 17 _ rfl) (hW 2 _ rfl) (by decide) (by decide)) q218a q218c (g := (mkF m 97 #[.val (.int q0), .val (.int q1), .val (.int q2), .val (.int q3), .val (.int q4), .val (.int i2), .val (.int b2), .val (.ref b114), .val (.ref b122), .val (.int (0 : Int32)), .val (.int (((q4.toUInt32 >>> ((2 : Int32) &&& 31).toUInt32).toInt32) &&& (3 : Int32))), .val (.int (0 : Int32)), .unset] [(.ref b114), (.ref b122)])) rfl (by rw [hml]; rfl) (Steps.refl _) (argsL := [(.ref b114)]) (rest := []) (lenOf pd_72 rfl) rfl (by show 2 * 0 + _ ≤ _; exact Nat.le_of_eq rfl) (hb hby at_97) (fun _ _ => ⟨rfl, E213q, (by decide : 2 + 0 ≤ _), (by decide : 4 + 0 ≤ _)⟩)
        dsimp only [Pt.U, Pt.locs, Pt.cells, Pt.slots] at X218 l218 y218 z218 st218 hQ218
        subst l218 y218 z218
        rw [QEqP, if_neg (fun z => hc136 (z.2))] at hQ218
        obtain ⟨rfl, N218q, E218q⟩ := hQ218
        have N218 := Fr.app N213 N218q
        have K219 : Go p e below T218 (mkF m 100 #[.val (.int q0), .val (.int q1), .val (.int q2), .val (.int q3), .val (.int q4), .val (.int i2), .val (.int b2), .val (.ref b114), .val (.ref b122), .val (.int (0 : Int32)), .val (.int (((q4.toUInt32 >>> ((2 : Int32) &&& 31).toUInt32).toInt32) &&& (3 : Int32))), .val (.int (0 : Int32)), .unset] [(.int (0 : Int32))]) G := fun tq kq => K217 tq (st218.trans kq)
        have K220 : Go p e below T218 (mkF m 102 #[.val (.int q0), .val (.int q1), .val (.int q2), .val (.int q3), .val (.int q4), .val (.int i2), .val (.int b2), .val (.ref b114), .val (.ref b122), .val (.int (0 : Int32)), .val (.int (((q4.toUInt32 >>> ((2 : Int32) &&& 31).toUInt32).toInt32) &&& (3 : Int32))), .val (.int (0 : Int32)), .val (.int (0 : Int32))] []) G := fun tq kq => K219 tq (XS.istore X218.here hx rfl (hb hby at_100) rfl (l' := #[.val (.int q0), .val (.int q1), .val (.int q2), .val (.int q3), .val (.int q4), .val (.int i2), .val (.int b2), .val (.ref b114), .val (.ref b122), .val (.int (0 : Int32)), .val (.int (((q4.toUInt32 >>> ((2 : Int32) &&& 31).toUInt32).toInt32) &&& (3 : Int32))), .val (.int (0 : Int32)), .val (.int (0 : Int32))]) rfl kq)
        have K221 : Go p e below T218 (mkF m 104 #[.val (.int q0), .val (.int q1), .val (.int q2), .val (.int q3), .val (.int q4), .val (.int i2), .val (.int b2), .val (.ref b114), .val (.ref b122), .val (.int (0 : Int32)), .val (.int (((q4.toUInt32 >>> ((2 : Int32) &&& 31).toUInt32).toInt32) &&& (3 : Int32))), .val (.int (0 : Int32)), .val (.int (0 : Int32))] [(.int (0 : Int32))]) G := fun tq kq => K220 tq (XS.iload X218.here hx rfl (hb hby at_102) rfl kq)
        have K222 : Go p e below T218 (mkF m 106 #[.val (.int q0), .val (.int q1), .val (.int q2), .val (.int q3), .val (.int q4), .val (.int i2), .val (.int b2), .val (.ref b114), .val (.ref b122), .val (.int (0 : Int32)), .val (.int (((q4.toUInt32 >>> ((2 : Int32) &&& 31).toUInt32).toInt32) &&& (3 : Int32))), .val (.int (0 : Int32)), .val (.int (0 : Int32))] [(.int (0 : Int32)), (.int (0 : Int32))]) G := fun tq kq => K221 tq (XS.iload X218.here hx rfl (hb hby at_104) rfl kq)
        have K223 : Go p e below T218 (mkF m 109 #[.val (.int q0), .val (.int q1), .val (.int q2), .val (.int q3), .val (.int q4), .val (.int i2), .val (.int b2), .val (.ref b114), .val (.ref b122), .val (.int (0 : Int32)), .val (.int (((q4.toUInt32 >>> ((2 : Int32) &&& 31).toUInt32).toInt32) &&& (3 : Int32))), .val (.int (0 : Int32)), .val (.int (0 : Int32))] []) G := fun tq kq => K222 tq (XS.icmpNo X218.here hx rfl (hb hby at_106) rfl ((teq (by decide : (0 : Int32) = (0 : Int32))).2) kq)
        have K224 : Go p e below T218 (mkF m 111 #[.val (.int q0), .val (.int q1), .val (.int q2), .val (.int q3), .val (.int q4), .val (.int i2), .val (.int b2), .val (.ref b114), .val (.ref b122), .val (.int (0 : Int32)), .val (.int (((q4.toUInt32 >>> ((2 : Int32) &&& 31).toUInt32).toInt32) &&& (3 : Int32))), .val (.int (0 : Int32)), .val (.int (0 : Int32))] [(.int (0 : Int32))]) G := fun tq kq => K223 tq (XS.iload X218.here hx rfl (hb hby at_109) rfl kq)
        have K225 : Go p e below T218 (mkF m 113 #[.val (.int q0), .val (.int q1), .val (.int q2), .val (.int q3), .val (.int q4), .val (.int i2), .val (.int b2), .val (.ref b114), .val (.ref b122), .val (.int (0 : Int32)), .val (.int (((q4.toUInt32 >>> ((2 : Int32) &&& 31).toUInt32).toInt32) &&& (3 : Int32))), .val (.int (0 : Int32)), .val (.int (0 : Int32))] [(.int (0 : Int32)), (.int (0 : Int32))]) G := fun tq kq => K224 tq (XS.iload X218.here hx rfl (hb hby at_111) rfl kq)
        have K226 : Go p e below T218 (mkF m 116 #[.val (.int q0), .val (.int q1), .val (.int q2), .val (.int q3), .val (.int q4), .val (.int i2), .val (.int b2), .val (.ref b114), .val (.ref b122), .val (.int (0 : Int32)), .val (.int (((q4.toUInt32 >>> ((2 : Int32) &&& 31).toUInt32).toInt32) &&& (3 : Int32))), .val (.int (0 : Int32)), .val (.int (0 : Int32))] []) G := fun tq kq => K225 tq (XS.icmpNo X218.here hx rfl (hb hby at_113) rfl ((teq (by decide : (0 : Int32) = (0 : Int32))).2) kq)
        have K227 : Go p e below T218 (mkF m 117 #[.val (.int q0), .val (.int q1), .val (.int q2), .val (.int q3), .val (.int q4), .val (.int i2), .val (.int b2), .val (.ref b114), .val (.ref b122), .val (.int (0 : Int32)), .val (.int (((q4.toUInt32 >>> ((2 : Int32) &&& 31).toUInt32).toInt32) &&& (3 : Int32))), .val (.int (0 : Int32)), .val (.int (0 : Int32))] [(.int (1 : Int32))]) G := fun tq kq => K226 tq (XS.iconst X218.here hx rfl (hb hby at_116) kq)
        have K228 : Go p e below T218 (mkF m 121 #[.val (.int q0), .val (.int q1), .val (.int q2), .val (.int q3), .val (.int q4), .val (.int i2), .val (.int b2), .val (.ref b114), .val (.ref b122), .val (.int (0 : Int32)), .val (.int (((q4.toUInt32 >>> ((2 : Int32) &&& 31).toUInt32).toInt32) &&& (3 : Int32))), .val (.int (0 : Int32)), .val (.int (0 : Int32))] [(.int (1 : Int32))]) G := fun tq kq => K227 tq (XS.goto X218.here hx rfl (pc0 := 117) (pc' := 121) rfl (hb hby at_117) (by decide) (by decide) kq)
        obtain ⟨fs, hr, hrun, hended, hWW, hsame⟩ := X218.leave (v := some (.int (1 : Int32))) (fun h => by rw [Bd.returns] at h; cases h)
        refine ⟨_, _, hG _ (K228 _ (retN X218 hx (t := .boolean) Bd.returns (by simp) (hb hby at_121) hr)), hrun, hended, _, _, rfl, ?_, ⟨_, rfl⟩, hWW, hsame.mono (by decide) (by decide)⟩
        show Q0 Z q0 q1 q2 q3 q4 ca cc h0 n0 _ T218.heap _
        rw [E218q]
        exact ⟨rfl, N218⟩
      · skip
        have K229 : Go p e below T127 (mkF m 122 #[.val (.int q0), .val (.int q1), .val (.int q2), .val (.int q3), .val (.int q4), .val (.int i2), .val (.int b2), .val (.ref b114), .val (.ref b122), .val (.int (0 : Int32)), .val (.int (((q4.toUInt32 >>> ((2 : Int32) &&& 31).toUInt32).toInt32) &&& (3 : Int32))), .unset, .unset] []) G := fun tq kq => K208 tq (XS.ifYes X127.here hx rfl (pc0 := 81) (pc' := 122) rfl (hb hby at_81) rfl ((if0 _ _).trans (feq hc209).2) (by decide) (by decide) kq)
        have K230 : Go p e below T127 (mkF m 124 #[.val (.int q0), .val (.int q1), .val (.int q2), .val (.int q3), .val (.int q4), .val (.int i2), .val (.int b2), .val (.ref b114), .val (.ref b122), .val (.int (0 : Int32)), .val (.int (((q4.toUInt32 >>> ((2 : Int32) &&& 31).toUInt32).toInt32) &&& (3 : Int32))), .unset, .unset] [(.int (((q4.toUInt32 >>> ((2 : Int32) &&& 31).toUInt32).toInt32) &&& (3 : Int32)))]) G := fun tq kq => K229 tq (XS.iload X127.here hx rfl (hb hby at_122) rfl kq)
        have K231 : Go p e below T127 (mkF m 125 #[.val (.int q0), .val (.int q1), .val (.int q2), .val (.int q3), .val (.int q4), .val (.int i2), .val (.int b2), .val (.ref b114), .val (.ref b122), .val (.int (0 : Int32)), .val (.int (((q4.toUInt32 >>> ((2 : Int32) &&& 31).toUInt32).toInt32) &&& (3 : Int32))), .unset, .unset] [(.int (1 : Int32)), (.int (((q4.toUInt32 >>> ((2 : Int32) &&& 31).toUInt32).toInt32) &&& (3 : Int32)))]) G := fun tq kq => K230 tq (XS.iconst X127.here hx rfl (hb hby at_124) kq)
        by_cases hc232 : (((q4.toUInt32 >>> ((2 : Int32) &&& 31).toUInt32).toInt32) &&& (3 : Int32)) = (1 : Int32)
        · skip
          have K233 : Go p e below T127 (mkF m 128 #[.val (.int q0), .val (.int q1), .val (.int q2), .val (.int q3), .val (.int q4), .val (.int i2), .val (.int b2), .val (.ref b114), .val (.ref b122), .val (.int (0 : Int32)), .val (.int (((q4.toUInt32 >>> ((2 : Int32) &&& 31).toUInt32).toInt32) &&& (3 : Int32))), .unset, .unset] []) G := fun tq kq => K231 tq (XS.icmpNo X127.here hx rfl (hb hby at_125) rfl ((teq hc232).2) kq)
          have K234 : Go p e below T127 (mkF m 130 #[.val (.int q0), .val (.int q1), .val (.int q2), .val (.int q3), .val (.int q4), .val (.int i2), .val (.int b2), .val (.ref b114), .val (.ref b122), .val (.int (0 : Int32)), .val (.int (((q4.toUInt32 >>> ((2 : Int32) &&& 31).toUInt32).toInt32) &&& (3 : Int32))), .unset, .unset] [(.ref b114)]) G := fun tq kq => K233 tq (XS.aload X127.here hx rfl (hb hby at_128) rfl rfl kq)
          have K235 : Go p e below T127 (mkF m 131 #[.val (.int q0), .val (.int q1), .val (.int q2), .val (.int q3), .val (.int q4), .val (.int i2), .val (.int b2), .val (.ref b114), .val (.ref b122), .val (.int (0 : Int32)), .val (.int (((q4.toUInt32 >>> ((2 : Int32) &&& 31).toUInt32).toInt32) &&& (3 : Int32))), .unset, .unset] [.null, (.ref b114)]) G := fun tq kq => K234 tq (XS.aconstNull X127.here hx rfl (hb hby at_130) kq)
          obtain ⟨cq236, kq236, q236a, q236b, q236c⟩ := isOf hZ rfl ((E119q.ext E122).keep K127q)
          obtain ⟨v236, _, ⟨T236, L236, k236, n236⟩, -, X236, ⟨Lc236, hQ236, l236, y236, z236⟩, st236⟩ := X127.virtualBack hx (y := (⟨"com/example/vervet/vervet/pipewire/Permission", "equals", "(Ljava/lang/Object;)Z"⟩ : MethodName)) (z := (⟨"com/example/vervet/vervet/pipewire/Permission", "equals", "(Ljava/lang/Object;)Z"⟩ : MethodName)) hown (mvT hZ (hW 13 _ rfl)) (mvT hZ (hW 14 _ rfl)) (notFace_of_selects (args := #[]) (mvT hZ (hW 16 _ rfl))) (mvT hZ (hW 16 _ rfl)) (mvT hZ (hW 15 _ rfl)) (by decide) (backOf (W := 0) (rmEqN l Z a0 hw [] b114 T127.heap n0 (Nat.le_trans (Nat.le_trans (Nat.le_trans (Nat.le_trans Z0 E114.1) K119q.1) E122.1) K127q.1)) hZ (hW 17 _ rfl) (hW 2 _ rfl) (by decide) (by decide)) q236a q236c (g := (mkF m 131 #[.val (.int q0), .val (.int q1), .val (.int q2), .val (.int q3), .val (.int q4), .val (.int i2), .val (.int b2), .val (.ref b114), .val (.ref b122), .val (.int (0 : Int32)), .val (.int (((q4.toUInt32 >>> ((2 : Int32) &&& 31).toUInt32).toInt32) &&& (3 : Int32))), .unset, .unset] [.null, (.ref b114)])) rfl (by rw [hml]; rfl) (Steps.refl _) (argsL := [.null]) (rest := []) (lenOf pd_72 rfl) rfl (by show 2 * 0 + _ ≤ _; exact Nat.le_of_eq rfl) (hb hby at_131) (fun _ _ => ⟨rfl, rfl, (by decide : 2 + 0 ≤ _), (by decide : 4 + 0 ≤ _)⟩)
          dsimp only [Pt.U, Pt.locs, Pt.cells, Pt.slots] at X236 l236 y236 z236 st236 hQ236
          subst l236 y236 z236
          obtain ⟨rfl, N236q, E236q⟩ := hQ236
          have N236 := Fr.app N127 N236q
          have K237 : Go p e below T236 (mkF m 134 #[.val (.int q0), .val (.int q1), .val (.int q2), .val (.int q3), .val (.int q4), .val (.int i2), .val (.int b2), .val (.ref b114), .val (.ref b122), .val (.int (0 : Int32)), .val (.int (((q4.toUInt32 >>> ((2 : Int32) &&& 31).toUInt32).toInt32) &&& (3 : Int32))), .unset, .unset] [(.int (0 : Int32))]) G := fun tq kq => K235 tq (st236.trans kq)
          have K238 : Go p e below T236 (mkF m 137 #[.val (.int q0), .val (.int q1), .val (.int q2), .val (.int q3), .val (.int q4), .val (.int i2), .val (.int b2), .val (.ref b114), .val (.ref b122), .val (.int (0 : Int32)), .val (.int (((q4.toUInt32 >>> ((2 : Int32) &&& 31).toUInt32).toInt32) &&& (3 : Int32))), .unset, .unset] []) G := fun tq kq => K237 tq (XS.ifNo X236.here hx rfl (hb hby at_134) rfl ((if0 _ _).trans (teq (by decide : (0 : Int32) = (0 : Int32))).2) kq)
          have K239 : Go p e below T236 (mkF m 138 #[.val (.int q0), .val (.int q1), .val (.int q2), .val (.int q3), .val (.int q4), .val (.int i2), .val (.int b2), .val (.ref b114), .val (.ref b122), .val (.int (0 : Int32)), .val (.int (((q4.toUInt32 >>> ((2 : Int32) &&& 31).toUInt32).toInt32) &&& (3 : Int32))), .unset, .unset] [(.int (1 : Int32))]) G := fun tq kq => K238 tq (XS.iconst X236.here hx rfl (hb hby at_137) kq)
          have K240 : Go p e below T236 (mkF m 142 #[.val (.int q0), .val (.int q1), .val (.int q2), .val (.int q3), .val (.int q4), .val (.int i2), .val (.int b2), .val (.ref b114), .val (.ref b122), .val (.int (0 : Int32)), .val (.int (((q4.toUInt32 >>> ((2 : Int32) &&& 31).toUInt32).toInt32) &&& (3 : Int32))), .unset, .unset] [(.int (1 : Int32))]) G := fun tq kq => K239 tq (XS.goto X236.here hx rfl (pc0 := 138) (pc' := 142) rfl (hb hby at_138) (by decide) (by decide) kq)
          obtain ⟨fs, hr, hrun, hended, hWW, hsame⟩ := X236.leave (v := some (.int (1 : Int32))) (fun h => by rw [Bd.returns] at h; cases h)
          refine ⟨_, _, hG _ (K240 _ (retN X236 hx (t := .boolean) Bd.returns (by simp) (hb hby at_142) hr)), hrun, hended, _, _, rfl, ?_, ⟨_, rfl⟩, hWW, hsame.mono (by decide) (by decide)⟩
          show Q0 Z q0 q1 q2 q3 q4 ca cc h0 n0 _ T236.heap _
          rw [E236q]
          exact ⟨rfl, N236⟩
        · skip
          have K241 : Go p e below T127 (mkF m 143 #[.val (.int q0), .val (.int q1), .val (.int q2), .val (.int q3), .val (.int q4), .val (.int i2), .val (.int b2), .val (.ref b114), .val (.ref b122), .val (.int (0 : Int32)), .val (.int (((q4.toUInt32 >>> ((2 : Int32) &&& 31).toUInt32).toInt32) &&& (3 : Int32))), .unset, .unset] []) G := fun tq kq => K231 tq (XS.icmpYes X127.here hx rfl (pc0 := 125) (pc' := 143) rfl (hb hby at_125) rfl ((feq hc232).2) (by decide) (by decide) kq)
          have K242 : Go p e below T127 (mkF m 145 #[.val (.int q0), .val (.int q1), .val (.int q2), .val (.int q3), .val (.int q4), .val (.int i2), .val (.int b2), .val (.ref b114), .val (.ref b122), .val (.int (0 : Int32)), .val (.int (((q4.toUInt32 >>> ((2 : Int32) &&& 31).toUInt32).toInt32) &&& (3 : Int32))), .unset, .unset] [(.int (((q4.toUInt32 >>> ((2 : Int32) &&& 31).toUInt32).toInt32) &&& (3 : Int32)))]) G := fun tq kq => K241 tq (XS.iload X127.here hx rfl (hb hby at_143) rfl kq)
          have K243 : Go p e below T127 (mkF m 146 #[.val (.int q0), .val (.int q1), .val (.int q2), .val (.int q3), .val (.int q4), .val (.int i2), .val (.int b2), .val (.ref b114), .val (.ref b122), .val (.int (0 : Int32)), .val (.int (((q4.toUInt32 >>> ((2 : Int32) &&& 31).toUInt32).toInt32) &&& (3 : Int32))), .unset, .unset] [(.int (2 : Int32)), (.int (((q4.toUInt32 >>> ((2 : Int32) &&& 31).toUInt32).toInt32) &&& (3 : Int32)))]) G := fun tq kq => K242 tq (XS.iconst X127.here hx rfl (hb hby at_145) kq)
          by_cases hc244 : (((q4.toUInt32 >>> ((2 : Int32) &&& 31).toUInt32).toInt32) &&& (3 : Int32)) = (2 : Int32)
          · skip
            have K245 : Go p e below T127 (mkF m 149 #[.val (.int q0), .val (.int q1), .val (.int q2), .val (.int q3), .val (.int q4), .val (.int i2), .val (.int b2), .val (.ref b114), .val (.ref b122), .val (.int (0 : Int32)), .val (.int (((q4.toUInt32 >>> ((2 : Int32) &&& 31).toUInt32).toInt32) &&& (3 : Int32))), .unset, .unset] []) G := fun tq kq => K243 tq (XS.icmpNo X127.here hx rfl (hb hby at_146) rfl ((teq hc244).2) kq)
            have K246 : Go p e below T127 (mkF m 151 #[.val (.int q0), .val (.int q1), .val (.int q2), .val (.int q3), .val (.int q4), .val (.int i2), .val (.int b2), .val (.ref b114), .val (.ref b122), .val (.int (0 : Int32)), .val (.int (((q4.toUInt32 >>> ((2 : Int32) &&& 31).toUInt32).toInt32) &&& (3 : Int32))), .unset, .unset] [(.ref b114)]) G := fun tq kq => K245 tq (XS.aload X127.here hx rfl (hb hby at_149) rfl rfl kq)
            have K247 : Go p e below T127 (mkF m 152 #[.val (.int q0), .val (.int q1), .val (.int q2), .val (.int q3), .val (.int q4), .val (.int i2), .val (.int b2), .val (.ref b114), .val (.ref b122), .val (.int (0 : Int32)), .val (.int (((q4.toUInt32 >>> ((2 : Int32) &&& 31).toUInt32).toInt32) &&& (3 : Int32))), .unset, .unset] [(.int q0), (.ref b114)]) G := fun tq kq => K246 tq (XS.iloadN X127.here hx rfl (hb hby at_151) rfl kq)
            obtain ⟨v248, _, ⟨T248, L248, k248, n248⟩, -, X248, ⟨Lc248, hQ248, l248, y248, z248⟩, st248⟩ := Jvm.LawKit.callS X127 hx (y := (⟨"java/lang/Integer", "valueOf", "(I)Ljava/lang/Integer;"⟩ : MethodName)) hown (mvT hZ (hW 20 _ rfl)) (mvT hZ (hW 21 _ rfl)) (mvT hZ (hW 22 _ rfl)) (mvT hZ (hW 23 _ rfl)) (by decide) (backOf (W := 1) (rmVO l Z a0 hw [] q0 ca cc T127.heap n0 (Nat.le_trans (Nat.le_trans (Nat.le_trans (Nat.le_trans Z0 E114.1) K119q.1) E122.1) K127q.1) ((((O0.ext E114).keep K119q (allS ge_b114 all0)).ext E122).keep K127q (allS ge_b122 all0)) S_high S_cache ArC hsz hel) hZ (hW 23 _ rfl) (hW 22 _ rfl) (by decide) (by decide)) (g := (mkF m 152 #[.val (.int q0), .val (.int q1), .val (.int q2), .val (.int q3), .val (.int q4), .val (.int i2), .val (.int b2), .val (.ref b114), .val (.ref b122), .val (.int (0 : Int32)), .val (.int (((q4.toUInt32 >>> ((2 : Int32) &&& 31).toUInt32).toInt32) &&& (3 : Int32))), .unset, .unset] [(.int q0), (.ref b114)])) rfl (by rw [hml]; rfl) (argsL := [(.int q0)]) (rest := [(.ref b114)]) (lenOf pd_73 rfl) rfl (by show 2 * 0 + _ ≤ _; exact Nat.le_of_eq rfl) (hb hby at_152) (fun _ _ => ⟨rfl, rfl, (by decide : 2 + 1 ≤ _), (by decide : 4 + 1 ≤ _)⟩)
            dsimp only [Pt.U, Pt.locs, Pt.cells, Pt.slots] at X248 l248 y248 z248 st248 hQ248
            subst l248 y248 z248
            obtain ⟨r248, rfl, N248q, K248q, E248q⟩ := hQ248
            have N248 := Fr.app N127 N248q
            have K249 : Go p e below T248 (mkF m 155 #[.val (.int q0), .val (.int q1), .val (.int q2), .val (.int q3), .val (.int q4), .val (.int i2), .val (.int b2), .val (.ref b114), .val (.ref b122), .val (.int (0 : Int32)), .val (.int (((q4.toUInt32 >>> ((2 : Int32) &&& 31).toUInt32).toInt32) &&& (3 : Int32))), .unset, .unset] [(.ref r248), (.ref b114)]) G := fun tq kq => K247 tq (st248 tq kq)
            obtain ⟨cq250, kq250, q250a, q250b, q250c⟩ := isOf hZ rfl (((E119q.ext E122).keep K127q).keep K248q)
            obtain ⟨v250, _, ⟨T250, L250, k250, n250⟩, -, X250, ⟨Lc250, hQ250, l250, y250, z250⟩, st250⟩ := X248.virtualBack hx (y := (⟨"com/example/vervet/vervet/pipewire/Permission", "equals", "(Ljava/lang/Object;)Z"⟩ : MethodName)) (z := (⟨"com/example/vervet/vervet/pipewire/Permission", "equals", "(Ljava/lang/Object;)Z"⟩ : MethodName)) hown (mvT hZ (hW 13 _ rfl)) (mvT hZ (hW 14 _ rfl)) (notFace_of_selects (args := #[]) (mvT hZ (hW 16 _ rfl))) (mvT hZ (hW 16 _ rfl)) (mvT hZ (hW 15 _ rfl)) (by decide) (backOf (W := 0) (rmEqI l Z a0 hw [] b114 r248 T248.heap n0 (Nat.le_trans (Nat.le_trans (Nat.le_trans (Nat.le_trans (Nat.le_trans Z0 E114.1) K119q.1) E122.1) K127q.1) K248q.1) E248q) hZ (hW 17 _ rfl) (hW 2 _ rfl) (by decide) (by decide)) q250a q250c (g := (mkF m 155 #[.val (.int q0), .val (.int q1), .val (.int q2), .val (.int q3), .val (.int q4), .val (.int i2), .val (.int b2), .val (.ref b114), .val (.ref b122), .val (.int (0 : Int32)), .val (.int (((q4.toUInt32 >>> ((2 : Int32) &&& 31).toUInt32).toInt32) &&& (3 : Int32))), .unset, .unset] [(.ref r248), (.ref b114)])) rfl (by rw [hml]; rfl) (Steps.refl _) (argsL := [(.ref r248)]) (rest := []) (lenOf pd_72 rfl) rfl (by show 2 * 0 + _ ≤ _; exact Nat.le_of_eq rfl) (hb hby at_155) (fun _ _ => ⟨rfl, rfl, (by decide : 3 + 0 ≤ _), (by decide : 5 + 0 ≤ _)⟩)
            dsimp only [Pt.U, Pt.locs, Pt.cells, Pt.slots] at X250 l250 y250 z250 st250 hQ250
            subst l250 y250 z250
            obtain ⟨rfl, N250q, E250q⟩ := hQ250
            have N250 := Fr.app N248 N250q
            have K251 : Go p e below T250 (mkF m 158 #[.val (.int q0), .val (.int q1), .val (.int q2), .val (.int q3), .val (.int q4), .val (.int i2), .val (.int b2), .val (.ref b114), .val (.ref b122), .val (.int (0 : Int32)), .val (.int (((q4.toUInt32 >>> ((2 : Int32) &&& 31).toUInt32).toInt32) &&& (3 : Int32))), .unset, .unset] [(.int (0 : Int32))]) G := fun tq kq => K249 tq (st250.trans kq)
            have K252 : Go p e below T250 (mkF m 161 #[.val (.int q0), .val (.int q1), .val (.int q2), .val (.int q3), .val (.int q4), .val (.int i2), .val (.int b2), .val (.ref b114), .val (.ref b122), .val (.int (0 : Int32)), .val (.int (((q4.toUInt32 >>> ((2 : Int32) &&& 31).toUInt32).toInt32) &&& (3 : Int32))), .unset, .unset] []) G := fun tq kq => K251 tq (XS.ifNo X250.here hx rfl (hb hby at_158) rfl ((if0 _ _).trans (teq (by decide : (0 : Int32) = (0 : Int32))).2) kq)
            have K253 : Go p e below T250 (mkF m 162 #[.val (.int q0), .val (.int q1), .val (.int q2), .val (.int q3), .val (.int q4), .val (.int i2), .val (.int b2), .val (.ref b114), .val (.ref b122), .val (.int (0 : Int32)), .val (.int (((q4.toUInt32 >>> ((2 : Int32) &&& 31).toUInt32).toInt32) &&& (3 : Int32))), .unset, .unset] [(.int (1 : Int32))]) G := fun tq kq => K252 tq (XS.iconst X250.here hx rfl (hb hby at_161) kq)
            have K254 : Go p e below T250 (mkF m 166 #[.val (.int q0), .val (.int q1), .val (.int q2), .val (.int q3), .val (.int q4), .val (.int i2), .val (.int b2), .val (.ref b114), .val (.ref b122), .val (.int (0 : Int32)), .val (.int (((q4.toUInt32 >>> ((2 : Int32) &&& 31).toUInt32).toInt32) &&& (3 : Int32))), .unset, .unset] [(.int (1 : Int32))]) G := fun tq kq => K253 tq (XS.goto X250.here hx rfl (pc0 := 162) (pc' := 166) rfl (hb hby at_162) (by decide) (by decide) kq)
            obtain ⟨fs, hr, hrun, hended, hWW, hsame⟩ := X250.leave (v := some (.int (1 : Int32))) (fun h => by rw [Bd.returns] at h; cases h)
            refine ⟨_, _, hG _ (K254 _ (retN X250 hx (t := .boolean) Bd.returns (by simp) (hb hby at_166) hr)), hrun, hended, _, _, rfl, ?_, ⟨_, rfl⟩, hWW, hsame.mono (by decide) (by decide)⟩
            show Q0 Z q0 q1 q2 q3 q4 ca cc h0 n0 _ T250.heap _
            rw [E250q]
            exact ⟨rfl, N250⟩
          · skip
            have K255 : Go p e below T127 (mkF m 167 #[.val (.int q0), .val (.int q1), .val (.int q2), .val (.int q3), .val (.int q4), .val (.int i2), .val (.int b2), .val (.ref b114), .val (.ref b122), .val (.int (0 : Int32)), .val (.int (((q4.toUInt32 >>> ((2 : Int32) &&& 31).toUInt32).toInt32) &&& (3 : Int32))), .unset, .unset] []) G := fun tq kq => K243 tq (XS.icmpYes X127.here hx rfl (pc0 := 146) (pc' := 167) rfl (hb hby at_146) rfl ((feq hc244).2) (by decide) (by decide) kq)
            have K256 : Go p e below T127 (mkF m 169 #[.val (.int q0), .val (.int q1), .val (.int q2), .val (.int q3), .val (.int q4), .val (.int i2), .val (.int b2), .val (.ref b114), .val (.ref b122), .val (.int (0 : Int32)), .val (.int (((q4.toUInt32 >>> ((2 : Int32) &&& 31).toUInt32).toInt32) &&& (3 : Int32))), .unset, .unset] [(.ref b114)]) G := fun tq kq => K255 tq (XS.aload X127.here hx rfl (hb hby at_167) rfl rfl kq)
            have K257 : Go p e below T127 (mkF m 171 #[.val (.int q0), .val (.int q1), .val (.int q2), .val (.int q3), .val (.int q4), .val (.int i2), .val (.int b2), .val (.ref b114), .val (.ref b122), .val (.int (0 : Int32)), .val (.int (((q4.toUInt32 >>> ((2 : Int32) &&& 31).toUInt32).toInt32) &&& (3 : Int32))), .unset, .unset] [(.ref b114), (.ref b114)]) G := fun tq kq => K256 tq (XS.aload X127.here hx rfl (hb hby at_169) rfl rfl kq)
            obtain ⟨cq258, kq258, q258a, q258b, q258c⟩ := isOf hZ rfl ((E119q.ext E122).keep K127q)
            obtain ⟨v258, _, ⟨T258, L258, k258, n258⟩, -, X258, ⟨Lc258, hQ258, l258, y258, z258⟩, st258⟩ := X127.virtualBack hx (y := (⟨"com/example/vervet/vervet/pipewire/Permission", "equals", "(Ljava/lang/Object;)Z"⟩ : MethodName)) (z := (⟨"com/example/vervet/vervet/pipewire/Permission", "equals", "(Ljava/lang/Object;)Z"⟩ : MethodName)) hown (mvT hZ (hW 13 _ rfl)) (mvT hZ (hW 14 _ rfl)) (notFace_of_selects (args := #[]) (mvT hZ (hW 16 _ rfl))) (mvT hZ (hW 16 _ rfl)) (mvT hZ (hW 15 _ rfl)) (by decide) (backOf (W := 0) (rmEqP l Z a0 hw [] b114 b114 q0 q1 q0 q1 T127.heap n0 (Nat.le_trans (Nat.le_trans (Nat.le_trans (Nat.le_trans Z0 E114.1) K119q.1) E122.1) K127q.1) ((F119q_id.ext E122).keep K127q (ninS ne122_b114 nin0)) ((F119q_bits.ext E122).keep K127q (ninS ne122_b114 nin0)) ((F119q_id.ext E122).keep K127q (ninS ne122_b114 nin0)) ((F119q_bits.ext E122).keep K127q (ninS ne122_b114 nin0)) ((E119q.ext E122).keep K127q)) hZ (hW 17 _ rfl) (hW 2 _ rfl) (by decide) (by decide)) q258a q258c (g := (mkF m 171 #[.val (.int q0), .val (.int q1), .val (.int q2), .val (.int q3), .val (.int q4), .val (.int i2), .val (.int b2), .val (.ref b114), .val (.ref b122), .val (.int (0 : Int32)), .val (.int (((q4.toUInt32 >>> ((2 : Int32) &&& 31).toUInt32).toInt32) &&& (3 : Int32))), .unset, .unset] [(.ref b114), (.ref b114)])) rfl (by rw [hml]; rfl) (Steps.refl _) (argsL := [(.ref b114)]) (rest := []) (lenOf pd_72 rfl) rfl (by show 2 * 0 + _ ≤ _; exact Nat.le_of_eq rfl) (hb hby at_171) (fun _ _ => ⟨rfl, rfl, (by decide : 2 + 0 ≤ _), (by decide : 4 + 0 ≤ _)⟩)
            dsimp only [Pt.U, Pt.locs, Pt.cells, Pt.slots] at X258 l258 y258 z258 st258 hQ258
            subst l258 y258 z258
            rw [QEqP, if_pos (⟨rfl, rfl⟩)] at hQ258
            obtain ⟨rfl, N258q, E258q⟩ := hQ258
            have N258 := Fr.app N127 N258q
            have K259 : Go p e below T258 (mkF m 174 #[.val (.int q0), .val (.int q1), .val (.int q2), .val (.int q3), .val (.int q4), .val (.int i2), .val (.int b2), .val (.ref b114), .val (.ref b122), .val (.int (0 : Int32)), .val (.int (((q4.toUInt32 >>> ((2 : Int32) &&& 31).toUInt32).toInt32) &&& (3 : Int32))), .unset, .unset] [(.int (1 : Int32))]) G := fun tq kq => K257 tq (st258.trans kq)
            obtain ⟨fs, hr, hrun, hended, hWW, hsame⟩ := X258.leave (v := some (.int (1 : Int32))) (fun h => by rw [Bd.returns] at h; cases h)
            refine ⟨_, _, hG _ (K259 _ (retN X258 hx (t := .boolean) Bd.returns (by simp) (hb hby at_174) hr)), hrun, hended, _, _, rfl, ?_, ⟨_, rfl⟩, hWW, hsame.mono (by decide) (by decide)⟩
            show Q0 Z q0 q1 q2 q3 q4 ca cc h0 n0 _ T258.heap _
            rw [E258q]
            exact ⟨rfl, N258⟩
  · skip
    have K260 : Go p e below T127 (mkF m 68 #[.val (.int q0), .val (.int q1), .val (.int q2), .val (.int q3), .val (.int q4), .val (.int i2), .val (.int b2), .val (.ref b114), .val (.ref b122), .unset, .unset, .unset, .unset] []) G := fun tq kq => K131 tq (XS.icmpYes X127.here hx rfl (pc0 := 55) (pc' := 68) rfl (hb hby at_55) rfl ((feq hc132).2) (by decide) (by decide) kq)
    have K261 : Go p e below T127 (mkF m 69 #[.val (.int q0), .val (.int q1), .val (.int q2), .val (.int q3), .val (.int q4), .val (.int i2), .val (.int b2), .val (.ref b114), .val (.ref b122), .unset, .unset, .unset, .unset] [(.int (0 : Int32))]) G := fun tq kq => K260 tq (XS.iconst X127.here hx rfl (hb hby at_68) kq)
    have K262 : Go p e below T127 (mkF m 71 #[.val (.int q0), .val (.int q1), .val (.int q2), .val (.int q3), .val (.int q4), .val (.int i2), .val (.int b2), .val (.ref b114), .val (.ref b122), .val (.int (0 : Int32)), .unset, .unset, .unset] []) G := fun tq kq => K261 tq (XS.istore X127.here hx rfl (hb hby at_69) rfl (l' := #[.val (.int q0), .val (.int q1), .val (.int q2), .val (.int q3), .val (.int q4), .val (.int i2), .val (.int b2), .val (.ref b114), .val (.ref b122), .val (.int (0 : Int32)), .unset, .unset, .unset]) rfl kq)
    have K263 : Go p e below T127 (mkF m 73 #[.val (.int q0), .val (.int q1), .val (.int q2), .val (.int q3), .val (.int q4), .val (.int i2), .val (.int b2), .val (.ref b114), .val (.ref b122), .val (.int (0 : Int32)), .unset, .unset, .unset] [(.int q4)]) G := fun tq kq => K262 tq (XS.iload X127.here hx rfl (hb hby at_71) rfl kq)
    have K264 : Go p e below T127 (mkF m 74 #[.val (.int q0), .val (.int q1), .val (.int q2), .val (.int q3), .val (.int q4), .val (.int i2), .val (.int b2), .val (.ref b114), .val (.ref b122), .val (.int (0 : Int32)), .unset, .unset, .unset] [(.int (2 : Int32)), (.int q4)]) G := fun tq kq => K263 tq (XS.iconst X127.here hx rfl (hb hby at_73) kq)
    have K265 : Go p e below T127 (mkF m 75 #[.val (.int q0), .val (.int q1), .val (.int q2), .val (.int q3), .val (.int q4), .val (.int i2), .val (.int b2), .val (.ref b114), .val (.ref b122), .val (.int (0 : Int32)), .unset, .unset, .unset] [(.int ((q4.toUInt32 >>> ((2 : Int32) &&& 31).toUInt32).toInt32))]) G := fun tq kq => K264 tq (XS.iushr X127.here hx rfl (hb hby at_74) rfl kq)
    have K266 : Go p e below T127 (mkF m 76 #[.val (.int q0), .val (.int q1), .val (.int q2), .val (.int q3), .val (.int q4), .val (.int i2), .val (.int b2), .val (.ref b114), .val (.ref b122), .val (.int (0 : Int32)), .unset, .unset, .unset] [(.int (3 : Int32)), (.int ((q4.toUInt32 >>> ((2 : Int32) &&& 31).toUInt32).toInt32))]) G := fun tq kq => K265 tq (XS.iconst X127.here hx rfl (hb hby at_75) kq)
    have K267 : Go p e below T127 (mkF m 77 #[.val (.int q0), .val (.int q1), .val (.int q2), .val (.int q3), .val (.int q4), .val (.int i2), .val (.int b2), .val (.ref b114), .val (.ref b122), .val (.int (0 : Int32)), .unset, .unset, .unset] [(.int (((q4.toUInt32 >>> ((2 : Int32) &&& 31).toUInt32).toInt32) &&& (3 : Int32)))]) G := fun tq kq => K266 tq (XS.iand X127.here hx rfl (hb hby at_76) rfl kq)
    have K268 : Go p e below T127 (mkF m 79 #[.val (.int q0), .val (.int q1), .val (.int q2), .val (.int q3), .val (.int q4), .val (.int i2), .val (.int b2), .val (.ref b114), .val (.ref b122), .val (.int (0 : Int32)), .val (.int (((q4.toUInt32 >>> ((2 : Int32) &&& 31).toUInt32).toInt32) &&& (3 : Int32))), .unset, .unset] []) G := fun tq kq => K267 tq (XS.istore X127.here hx rfl (hb hby at_77) rfl (l' := #[.val (.int q0), .val (.int q1), .val (.int q2), .val (.int q3), .val (.int q4), .val (.int i2), .val (.int b2), .val (.ref b114), .val (.ref b122), .val (.int (0 : Int32)), .val (.int (((q4.toUInt32 >>> ((2 : Int32) &&& 31).toUInt32).toInt32) &&& (3 : Int32))), .unset, .unset]) rfl kq)
    have K269 : Go p e below T127 (mkF m 81 #[.val (.int q0), .val (.int q1), .val (.int q2), .val (.int q3), .val (.int q4), .val (.int i2), .val (.int b2), .val (.ref b114), .val (.ref b122), .val (.int (0 : Int32)), .val (.int (((q4.toUInt32 >>> ((2 : Int32) &&& 31).toUInt32).toInt32) &&& (3 : Int32))), .unset, .unset] [(.int (((q4.toUInt32 >>> ((2 : Int32) &&& 31).toUInt32).toInt32) &&& (3 : Int32)))]) G := fun tq kq => K268 tq (XS.iload X127.here hx rfl (hb hby at_79) rfl kq)
    by_cases hc270 : (((q4.toUInt32 >>> ((2 : Int32) &&& 31).toUInt32).toInt32) &&& (3 : Int32)) = (0 : Int32)
    · skip
      have K271 : Go p e below T127 (mkF m 84 #[.val (.int q0), .val (.int q1), .val (.int q2), .val (.int q3), .val (.int q4), .val (.int i2), .val (.int b2), .val (.ref b114), .val (.ref b122), .val (.int (0 : Int32)), .val (.int (((q4.toUInt32 >>> ((2 : Int32) &&& 31).toUInt32).toInt32) &&& (3 : Int32))), .unset, .unset] []) G := fun tq kq => K269 tq (XS.ifNo X127.here hx rfl (hb hby at_81) rfl ((if0 _ _).trans (teq hc270).2) kq)
      have K272 : Go p e below T127 (mkF m 86 #[.val (.int q0), .val (.int q1), .val (.int q2), .val (.int q3), .val (.int q4), .val (.int i2), .val (.int b2), .val (.ref b114), .val (.ref b122), .val (.int (0 : Int32)), .val (.int (((q4.toUInt32 >>> ((2 : Int32) &&& 31).toUInt32).toInt32) &&& (3 : Int32))), .unset, .unset] [(.ref b114)]) G := fun tq kq => K271 tq (XS.aload X127.here hx rfl (hb hby at_84) rfl rfl kq)
      have K273 : Go p e below T127 (mkF m 88 #[.val (.int q0), .val (.int q1), .val (.int q2), .val (.int q3), .val (.int q4), .val (.int i2), .val (.int b2), .val (.ref b114), .val (.ref b122), .val (.int (0 : Int32)), .val (.int (((q4.toUInt32 >>> ((2 : Int32) &&& 31).toUInt32).toInt32) &&& (3 : Int32))), .unset, .unset] [(.ref b122), (.ref b114)]) G := fun tq kq => K272 tq (XS.aload X127.here hx rfl (hb hby at_86) rfl rfl kq)
      obtain ⟨cq274, kq274, q274a, q274b, q274c⟩ := isOf hZ rfl ((E119q.ext E122).keep K127q)
      obtain ⟨v274, _, ⟨T274, L274, k274, n274⟩, -, X274, ⟨Lc274, hQ274, l274, y274, z274⟩, st274⟩ := X127.virtualBack hx (y := (⟨"com/example/vervet/vervet/pipewire/Permission", "equals", "(Ljava/lang/Object;)Z"⟩ : MethodName)) (z := (⟨"com/example/vervet/vervet/pipewire/Permission", "equals", "(Ljava/lang/Object;)Z"⟩ : MethodName)) hown (mvT hZ (hW 13 _ rfl)) (mvT hZ (hW 14 _ rfl)) (notFace_of_selects (args := #[]) (mvT hZ (hW 16 _ rfl))) (mvT hZ (hW 16 _ rfl)) (mvT hZ (hW 15 _ rfl)) (by decide) (backOf (W := 0) (rmEqP l Z a0 hw [] b114 b122 q0 q1 i2 b2 T127.heap n0 (Nat.le_trans (Nat.le_trans (Nat.le_trans (Nat.le_trans Z0 E114.1) K119q.1) E122.1) K127q.1) ((F119q_id.ext E122).keep K127q (ninS ne122_b114 nin0)) ((F119q_bits.ext E122).keep K127q (ninS ne122_b114 nin0)) F127q_id F127q_bits E127q) hZ (hW 17 _ rfl) (hW 2 _ rfl) (by decide) (by decide)) q274a q274c (g := (mkF m 88 #[.val (.int q0), .val (.int q1), .val (.int q2), .val (.int q3), .val (.int q4), .val (.int i2), .val (.int b2), .val (.ref b114), .val (.ref b122), .val (.int (0 : Int32)), .val (.int (((q4.toUInt32 >>> ((2 : Int32) &&& 31).toUInt32).toInt32) &&& (3 : Int32))), .unset, .unset] [(.ref b122), (.ref b114)])) rfl (by rw [hml]; rfl) (Steps.refl _) (argsL := [(.ref b122)]) (rest := []) (lenOf pd_72 rfl) rfl (by show 2 * 0 + _ ≤ _; exact Nat.le_of_eq rfl) (hb hby at_88) (fun _ _ => ⟨rfl, rfl, (by decide : 2 + 0 ≤ _), (by decide : 4 + 0 ≤ _)⟩)
      dsimp only [Pt.U, Pt.locs, Pt.cells, Pt.slots] at X274 l274 y274 z274 st274 hQ274
      subst l274 y274 z274
      rw [QEqP, if_neg (fun z => hc132 (z.1.symm))] at hQ274
      obtain ⟨rfl, N274q, E274q⟩ := hQ274
      have N274 := Fr.app N127 N274q
      have K275 : Go p e below T274 (mkF m 91 #[.val (.int q0), .val (.int q1), .val (.int q2), .val (.int q3), .val (.int q4), .val (.int i2), .val (.int b2), .val (.ref b114), .val (.ref b122), .val (.int (0 : Int32)), .val (.int (((q4.toUInt32 >>> ((2 : Int32) &&& 31).toUInt32).toInt32) &&& (3 : Int32))), .unset, .unset] [(.int (0 : Int32))]) G := fun tq kq => K273 tq (st274.trans kq)
      have K276 : Go p e below T274 (mkF m 93 #[.val (.int q0), .val (.int q1), .val (.int q2), .val (.int q3), .val (.int q4), .val (.int i2), .val (.int b2), .val (.ref b114), .val (.ref b122), .val (.int (0 : Int32)), .val (.int (((q4.toUInt32 >>> ((2 : Int32) &&& 31).toUInt32).toInt32) &&& (3 : Int32))), .val (.int (0 : Int32)), .unset] []) G := fun tq kq => K275 tq (XS.istore X274.here hx rfl (hb hby at_91) rfl (l' := #[.val (.int q0), .val (.int q1), .val (.int q2), .val (.int q3), .val (.int q4), .val (.int i2), .val (.int b2), .val (.ref b114), .val (.ref b122), .val (.int (0 : Int32)), .val (.int (((q4.toUInt32 >>> ((2 : Int32) &&& 31).toUInt32).toInt32) &&& (3 : Int32))), .val (.int (0 : Int32)), .unset]) rfl kq)
      have K277 : Go p e below T274 (mkF m 95 #[.val (.int q0), .val (.int q1), .val (.int q2), .val (.int q3), .val (.int q4), .val (.int i2), .val (.int b2), .val (.ref b114), .val (.ref b122), .val (.int (0 : Int32)), .val (.int (((q4.toUInt32 >>> ((2 : Int32) &&& 31).toUInt32).toInt32) &&& (3 : Int32))), .val (.int (0 : Int32)), .unset] [(.ref b122)]) G := fun tq kq => K276 tq (XS.aload X274.here hx rfl (hb hby at_93) rfl rfl kq)
      have K278 : Go p e below T274 (mkF m 97 #[.val (.int q0), .val (.int q1), .val (.int q2), .val (.int q3), .val (.int q4), .val (.int i2), .val (.int b2), .val (.ref b114), .val (.ref b122), .val (.int (0 : Int32)), .val (.int (((q4.toUInt32 >>> ((2 : Int32) &&& 31).toUInt32).toInt32) &&& (3 : Int32))), .val (.int (0 : Int32)), .unset] [(.ref b114), (.ref b122)]) G := fun tq kq => K277 tq (XS.aload X274.here hx rfl (hb hby at_95) rfl rfl kq)
      obtain ⟨cq279, kq279, q279a, q279b, q279c⟩ := isOf hZ E274q E127q
      obtain ⟨v279, _, ⟨T279, L279, k279, n279⟩, -, X279, ⟨Lc279, hQ279, l279, y279, z279⟩, st279⟩ := X274.virtualBack hx (y := (⟨"com/example/vervet/vervet/pipewire/Permission", "equals", "(Ljava/lang/Object;)Z"⟩ : MethodName)) (z := (⟨"com/example/vervet/vervet/pipewire/Permission", "equals", "(Ljava/lang/Object;)Z"⟩ : MethodName)) hown (mvT hZ (hW 13 _ rfl)) (mvT hZ (hW 14 _ rfl)) (notFace_of_selects (args := #[]) (mvT hZ (hW 16 _ rfl))) (mvT hZ (hW 16 _ rfl)) (mvT hZ (hW 15 _ rfl)) (by decide) (backOf (W := 0) (rmEqP l Z a0 hw [] b122 b114 i2 b2 q0 q1 T127.heap n0 (Nat.le_trans (Nat.le_trans (Nat.le_trans (Nat.le_trans Z0 E114.1) K119q.1) E122.1) K127q.1) F127q_id F127q_bits ((F119q_id.ext E122).keep K127q (ninS ne122_b114 nin0)) ((F119q_bits.ext E122).keep K127q (ninS ne122_b114 nin0)) ((E119q.ext E122).keep K127q)) hZ (hW 17 _ rfl) (hW 2 _ rfl) (by decide) (by decide)) q279a q279c (g := (mkF m 97 #[.val (.int q0), .val (.int q1), .val (.int q2), .val (.int q3), .val (.int q4), .val (.int i2), .val (.int b2), .val (.ref b114), .val (.ref b122), .val (.int (0 : Int32)), .val (.int (((q4.toUInt32 >>> ((2 : Int32) &&& 31).toUInt32).toInt32) &&& (3 : Int32))), .val (.int (0 : Int32)), .unset] [(.ref b114), (.ref b122)])) rfl (by rw [hml]; rfl) (Steps.refl _) (argsL := [(.ref b114)]) (rest := []) (lenOf pd_72 rfl) rfl (by show 2 * 0 + _ ≤ _; exact Nat.le_of_eq rfl) (hb hby at_97) (fun _ _ => ⟨rfl, E274q, (by decide : 2 + 0 ≤ _), (by decide : 4 + 0 ≤ _)⟩)
      dsimp only [Pt.U, Pt.locs, Pt.cells, Pt.slots] at X279 l279 y279 z279 st279 hQ279
      subst l279 y279 z279
      rw [QEqP, if_neg (fun z => hc132 (z.1))] at hQ279
      obtain ⟨rfl, N279q, E279q⟩ := hQ279
      have N279 := Fr.app N274 N279q
      have K280 : Go p e below T279 (mkF m 100 #[.val (.int q0), .val (.int q1), .val (.int q2), .val (.int q3), .val (.int q4), .val (.int i2), .val (.int b2), .val (.ref b114), .val (.ref b122), .val (.int (0 : Int32)), .val (.int (((q4.toUInt32 >>> ((2 : Int32) &&& 31).toUInt32).toInt32) &&& (3 : Int32))), .val (.int (0 : Int32)), .unset] [(.int (0 : Int32))]) G := fun tq kq => K278 tq (st279.trans kq)
      have K281 : Go p e below T279 (mkF m 102 #[.val (.int q0), .val (.int q1), .val (.int q2), .val (.int q3), .val (.int q4), .val (.int i2), .val (.int b2), .val (.ref b114), .val (.ref b122), .val (.int (0 : Int32)), .val (.int (((q4.toUInt32 >>> ((2 : Int32) &&& 31).toUInt32).toInt32) &&& (3 : Int32))), .val (.int (0 : Int32)), .val (.int (0 : Int32))] []) G := fun tq kq => K280 tq (XS.istore X279.here hx rfl (hb hby at_100) rfl (l' := #[.val (.int q0), .val (.int q1), .val (.int q2), .val (.int q3), .val (.int q4), .val (.int i2), .val (.int b2), .val (.ref b114), .val (.ref b122), .val (.int (0 : Int32)), .val (.int (((q4.toUInt32 >>> ((2 : Int32) &&& 31).toUInt32).toInt32) &&& (3 : Int32))), .val (.int (0 : Int32)), .val (.int (0 : Int32))]) rfl kq)
      have K282 : Go p e below T279 (mkF m 104 #[.val (.int q0), .val (.int q1), .val (.int q2), .val (.int q3), .val (.int q4), .val (.int i2), .val (.int b2), .val (.ref b114), .val (.ref b122), .val (.int (0 : Int32)), .val (.int (((q4.toUInt32 >>> ((2 : Int32) &&& 31).toUInt32).toInt32) &&& (3 : Int32))), .val (.int (0 : Int32)), .val (.int (0 : Int32))] [(.int (0 : Int32))]) G := fun tq kq => K281 tq (XS.iload X279.here hx rfl (hb hby at_102) rfl kq)
      have K283 : Go p e below T279 (mkF m 106 #[.val (.int q0), .val (.int q1), .val (.int q2), .val (.int q3), .val (.int q4), .val (.int i2), .val (.int b2), .val (.ref b114), .val (.ref b122), .val (.int (0 : Int32)), .val (.int (((q4.toUInt32 >>> ((2 : Int32) &&& 31).toUInt32).toInt32) &&& (3 : Int32))), .val (.int (0 : Int32)), .val (.int (0 : Int32))] [(.int (0 : Int32)), (.int (0 : Int32))]) G := fun tq kq => K282 tq (XS.iload X279.here hx rfl (hb hby at_104) rfl kq)
      have K284 : Go p e below T279 (mkF m 109 #[.val (.int q0), .val (.int q1), .val (.int q2), .val (.int q3), .val (.int q4), .val (.int i2), .val (.int b2), .val (.ref b114), .val (.ref b122), .val (.int (0 : Int32)), .val (.int (((q4.toUInt32 >>> ((2 : Int32) &&& 31).toUInt32).toInt32) &&& (3 : Int32))), .val (.int (0 : Int32)), .val (.int (0 : Int32))] []) G := fun tq kq => K283 tq (XS.icmpNo X279.here hx rfl (hb hby at_106) rfl ((teq (by decide : (0 : Int32) = (0 : Int32))).2) kq)
      have K285 : Go p e below T279 (mkF m 111 #[.val (.int q0), .val (.int q1), .val (.int q2), .val (.int q3), .val (.int q4), .val (.int i2), .val (.int b2), .val (.ref b114), .val (.ref b122), .val (.int (0 : Int32)), .val (.int (((q4.toUInt32 >>> ((2 : Int32) &&& 31).toUInt32).toInt32) &&& (3 : Int32))), .val (.int (0 : Int32)), .val (.int (0 : Int32))] [(.int (0 : Int32))]) G := fun tq kq => K284 tq (XS.iload X279.here hx rfl (hb hby at_109) rfl kq)
      have K286 : Go p e below T279 (mkF m 113 #[.val (.int q0), .val (.int q1), .val (.int q2), .val (.int q3), .val (.int q4), .val (.int i2), .val (.int b2), .val (.ref b114), .val (.ref b122), .val (.int (0 : Int32)), .val (.int (((q4.toUInt32 >>> ((2 : Int32) &&& 31).toUInt32).toInt32) &&& (3 : Int32))), .val (.int (0 : Int32)), .val (.int (0 : Int32))] [(.int (0 : Int32)), (.int (0 : Int32))]) G := fun tq kq => K285 tq (XS.iload X279.here hx rfl (hb hby at_111) rfl kq)
      have K287 : Go p e below T279 (mkF m 116 #[.val (.int q0), .val (.int q1), .val (.int q2), .val (.int q3), .val (.int q4), .val (.int i2), .val (.int b2), .val (.ref b114), .val (.ref b122), .val (.int (0 : Int32)), .val (.int (((q4.toUInt32 >>> ((2 : Int32) &&& 31).toUInt32).toInt32) &&& (3 : Int32))), .val (.int (0 : Int32)), .val (.int (0 : Int32))] []) G := fun tq kq => K286 tq (XS.icmpNo X279.here hx rfl (hb hby at_113) rfl ((teq (by decide : (0 : Int32) = (0 : Int32))).2) kq)
      have K288 : Go p e below T279 (mkF m 117 #[.val (.int q0), .val (.int q1), .val (.int q2), .val (.int q3), .val (.int q4), .val (.int i2), .val (.int b2), .val (.ref b114), .val (.ref b122), .val (.int (0 : Int32)), .val (.int (((q4.toUInt32 >>> ((2 : Int32) &&& 31).toUInt32).toInt32) &&& (3 : Int32))), .val (.int (0 : Int32)), .val (.int (0 : Int32))] [(.int (1 : Int32))]) G := fun tq kq => K287 tq (XS.iconst X279.here hx rfl (hb hby at_116) kq)
      have K289 : Go p e below T279 (mkF m 121 #[.val (.int q0), .val (.int q1), .val (.int q2), .val (.int q3), .val (.int q4), .val (.int i2), .val (.int b2), .val (.ref b114), .val (.ref b122), .val (.int (0 : Int32)), .val (.int (((q4.toUInt32 >>> ((2 : Int32) &&& 31).toUInt32).toInt32) &&& (3 : Int32))), .val (.int (0 : Int32)), .val (.int (0 : Int32))] [(.int (1 : Int32))]) G := fun tq kq => K288 tq (XS.goto X279.here hx rfl (pc0 := 117) (pc' := 121) rfl (hb hby at_117) (by decide) (by decide) kq)
      obtain ⟨fs, hr, hrun, hended, hWW, hsame⟩ := X279.leave (v := some (.int (1 : Int32))) (fun h => by rw [Bd.returns] at h; cases h)
      refine ⟨_, _, hG _ (K289 _ (retN X279 hx (t := .boolean) Bd.returns (by simp) (hb hby at_121) hr)), hrun, hended, _, _, rfl, ?_, ⟨_, rfl⟩, hWW, hsame.mono (by decide) (by decide)⟩
      show Q0 Z q0 q1 q2 q3 q4 ca cc h0 n0 _ T279.heap _
      rw [E279q]
      exact ⟨rfl, N279⟩
    · skip
      have K290 : Go p e below T127 (mkF m 122 #[.val (.int q0), .val (.int q1), .val (.int q2), .val (.int q3), .val (.int q4), .val (.int i2), .val (.int b2), .val (.ref b114), .val (.ref b122), .val (.int (0 : Int32)), .val (.int (((q4.toUInt32 >>> ((2 : Int32) &&& 31).toUInt32).toInt32) &&& (3 : Int32))), .unset, .unset] []) G := fun tq kq => K269 tq (XS.ifYes X127.here hx rfl (pc0 := 81) (pc' := 122) rfl (hb hby at_81) rfl ((if0 _ _).trans (feq hc270).2) (by decide) (by decide) kq)
      have K291 : Go p e below T127 (mkF m 124 #[.val (.int q0), .val (.int q1), .val (.int q2), .val (.int q3), .val (.int q4), .val (.int i2), .val (.int b2), .val (.ref b114), .val (.ref b122), .val (.int (0 : Int32)), .val (.int (((q4.toUInt32 >>> ((2 : Int32) &&& 31).toUInt32).toInt32) &&& (3 : Int32))), .unset, .unset] [(.int (((q4.toUInt32 >>> ((2 : Int32) &&& 31).toUInt32).toInt32) &&& (3 : Int32)))]) G := fun tq kq => K290 tq (XS.iload X127.here hx rfl (hb hby at_122) rfl kq)
      have K292 : Go p e below T127 (mkF m 125 #[.val (.int q0), .val (.int q1), .val (.int q2), .val (.int q3), .val (.int q4), .val (.int i2), .val (.int b2), .val (.ref b114), .val (.ref b122), .val (.int (0 : Int32)), .val (.int (((q4.toUInt32 >>> ((2 : Int32) &&& 31).toUInt32).toInt32) &&& (3 : Int32))), .unset, .unset] [(.int (1 : Int32)), (.int (((q4.toUInt32 >>> ((2 : Int32) &&& 31).toUInt32).toInt32) &&& (3 : Int32)))]) G := fun tq kq => K291 tq (XS.iconst X127.here hx rfl (hb hby at_124) kq)
      by_cases hc293 : (((q4.toUInt32 >>> ((2 : Int32) &&& 31).toUInt32).toInt32) &&& (3 : Int32)) = (1 : Int32)
      · skip
        have K294 : Go p e below T127 (mkF m 128 #[.val (.int q0), .val (.int q1), .val (.int q2), .val (.int q3), .val (.int q4), .val (.int i2), .val (.int b2), .val (.ref b114), .val (.ref b122), .val (.int (0 : Int32)), .val (.int (((q4.toUInt32 >>> ((2 : Int32) &&& 31).toUInt32).toInt32) &&& (3 : Int32))), .unset, .unset] []) G := fun tq kq => K292 tq (XS.icmpNo X127.here hx rfl (hb hby at_125) rfl ((teq hc293).2) kq)
        have K295 : Go p e below T127 (mkF m 130 #[.val (.int q0), .val (.int q1), .val (.int q2), .val (.int q3), .val (.int q4), .val (.int i2), .val (.int b2), .val (.ref b114), .val (.ref b122), .val (.int (0 : Int32)), .val (.int (((q4.toUInt32 >>> ((2 : Int32) &&& 31).toUInt32).toInt32) &&& (3 : Int32))), .unset, .unset] [(.ref b114)]) G := fun tq kq => K294 tq (XS.aload X127.here hx rfl (hb hby at_128) rfl rfl kq)
        have K296 : Go p e below T127 (mkF m 131 #[.val (.int q0), .val (.int q1), .val (.int q2), .val (.int q3), .val (.int q4), .val (.int i2), .val (.int b2), .val (.ref b114), .val (.ref b122), .val (.int (0 : Int32)), .val (.int (((q4.toUInt32 >>> ((2 : Int32) &&& 31).toUInt32).toInt32) &&& (3 : Int32))), .unset, .unset] [.null, (.ref b114)]) G := fun tq kq => K295 tq (XS.aconstNull X127.here hx rfl (hb hby at_130) kq)
        obtain ⟨cq297, kq297, q297a, q297b, q297c⟩ := isOf hZ rfl ((E119q.ext E122).keep K127q)
        obtain ⟨v297, _, ⟨T297, L297, k297, n297⟩, -, X297, ⟨Lc297, hQ297, l297, y297, z297⟩, st297⟩ := X127.virtualBack hx (y := (⟨"com/example/vervet/vervet/pipewire/Permission", "equals", "(Ljava/lang/Object;)Z"⟩ : MethodName)) (z := (⟨"com/example/vervet/vervet/pipewire/Permission", "equals", "(Ljava/lang/Object;)Z"⟩ : MethodName)) hown (mvT hZ (hW 13 _ rfl)) (mvT hZ (hW 14 _ rfl)) (notFace_of_selects (args := #[]) (mvT hZ (hW 16 _ rfl))) (mvT hZ (hW 16 _ rfl)) (mvT hZ (hW 15 _ rfl)) (by decide) (backOf (W := 0) (rmEqN l Z a0 hw [] b114 T127.heap n0 (Nat.le_trans (Nat.le_trans (Nat.le_trans (Nat.le_trans Z0 E114.1) K119q.1) E122.1) K127q.1)) hZ (hW 17 _ rfl) (hW 2 _ rfl) (by decide) (by decide)) q297a q297c (g := (mkF m 131 #[.val (.int q0), .val (.int q1), .val (.int q2), .val (.int q3), .val (.int q4), .val (.int i2), .val (.int b2), .val (.ref b114), .val (.ref b122), .val (.int (0 : Int32)), .val (.int (((q4.toUInt32 >>> ((2 : Int32) &&& 31).toUInt32).toInt32) &&& (3 : Int32))), .unset, .unset] [.null, (.ref b114)])) rfl (by rw [hml]; rfl) (Steps.refl _) (argsL := [.null]) (rest := []) (lenOf pd_72 rfl) rfl (by show 2 * 0 + _ ≤ _; exact Nat.le_of_eq rfl) (hb hby at_131) (fun _ _ => ⟨rfl, rfl, (by decide : 2 + 0 ≤ _), (by decide : 4 + 0 ≤ _)⟩)
        dsimp only [Pt.U, Pt.locs, Pt.cells, Pt.slots] at X297 l297 y297 z297 st297 hQ297
        subst l297 y297 z297
        obtain ⟨rfl, N297q, E297q⟩ := hQ297
        have N297 := Fr.app N127 N297q
        have K298 : Go p e below T297 (mkF m 134 #[.val (.int q0), .val (.int q1), .val (.int q2), .val (.int q3), .val (.int q4), .val (.int i2), .val (.int b2), .val (.ref b114), .val (.ref b122), .val (.int (0 : Int32)), .val (.int (((q4.toUInt32 >>> ((2 : Int32) &&& 31).toUInt32).toInt32) &&& (3 : Int32))), .unset, .unset] [(.int (0 : Int32))]) G := fun tq kq => K296 tq (st297.trans kq)
        have K299 : Go p e below T297 (mkF m 137 #[.val (.int q0), .val (.int q1), .val (.int q2), .val (.int q3), .val (.int q4), .val (.int i2), .val (.int b2), .val (.ref b114), .val (.ref b122), .val (.int (0 : Int32)), .val (.int (((q4.toUInt32 >>> ((2 : Int32) &&& 31).toUInt32).toInt32) &&& (3 : Int32))), .unset, .unset] []) G := fun tq kq => K298 tq (XS.ifNo X297.here hx rfl (hb hby at_134) rfl ((if0 _ _).trans (teq (by decide : (0 : Int32) = (0 : Int32))).2) kq)
        have K300 : Go p e below T297 (mkF m 138 #[.val (.int q0), .val (.int q1), .val (.int q2), .val (.int q3), .val (.int q4), .val (.int i2), .val (.int b2), .val (.ref b114), .val (.ref b122), .val (.int (0 : Int32)), .val (.int (((q4.toUInt32 >>> ((2 : Int32) &&& 31).toUInt32).toInt32) &&& (3 : Int32))), .unset, .unset] [(.int (1 : Int32))]) G := fun tq kq => K299 tq (XS.iconst X297.here hx rfl (hb hby at_137) kq)
        have K301 : Go p e below T297 (mkF m 142 #[.val (.int q0), .val (.int q1), .val (.int q2), .val (.int q3), .val (.int q4), .val (.int i2), .val (.int b2), .val (.ref b114), .val (.ref b122), .val (.int (0 : Int32)), .val (.int (((q4.toUInt32 >>> ((2 : Int32) &&& 31).toUInt32).toInt32) &&& (3 : Int32))), .unset, .unset] [(.int (1 : Int32))]) G := fun tq kq => K300 tq (XS.goto X297.here hx rfl (pc0 := 138) (pc' := 142) rfl (hb hby at_138) (by decide) (by decide) kq)
        obtain ⟨fs, hr, hrun, hended, hWW, hsame⟩ := X297.leave (v := some (.int (1 : Int32))) (fun h => by rw [Bd.returns] at h; cases h)
        refine ⟨_, _, hG _ (K301 _ (retN X297 hx (t := .boolean) Bd.returns (by simp) (hb hby at_142) hr)), hrun, hended, _, _, rfl, ?_, ⟨_, rfl⟩, hWW, hsame.mono (by decide) (by decide)⟩
        show Q0 Z q0 q1 q2 q3 q4 ca cc h0 n0 _ T297.heap _
        rw [E297q]
        exact ⟨rfl, N297⟩
      · skip
        have K302 : Go p e below T127 (mkF m 143 #[.val (.int q0), .val (.int q1), .val (.int q2), .val (.int q3), .val (.int q4), .val (.int i2), .val (.int b2), .val (.ref b114), .val (.ref b122), .val (.int (0 : Int32)), .val (.int (((q4.toUInt32 >>> ((2 : Int32) &&& 31).toUInt32).toInt32) &&& (3 : Int32))), .unset, .unset] []) G := fun tq kq => K292 tq (XS.icmpYes X127.here hx rfl (pc0 := 125) (pc' := 143) rfl (hb hby at_125) rfl ((feq hc293).2) (by decide) (by decide) kq)
        have K303 : Go p e below T127 (mkF m 145 #[.val (.int q0), .val (.int q1), .val (.int q2), .val (.int q3), .val (.int q4), .val (.int i2), .val (.int b2), .val (.ref b114), .val (.ref b122), .val (.int (0 : Int32)), .val (.int (((q4.toUInt32 >>> ((2 : Int32) &&& 31).toUInt32).toInt32) &&& (3 : Int32))), .unset, .unset] [(.int (((q4.toUInt32 >>> ((2 : Int32) &&& 31).toUInt32).toInt32) &&& (3 : Int32)))]) G := fun tq kq => K302 tq (XS.iload X127.here hx rfl (hb hby at_143) rfl kq)
        have K304 : Go p e below T127 (mkF m 146 #[.val (.int q0), .val (.int q1), .val (.int q2), .val (.int q3), .val (.int q4), .val (.int i2), .val (.int b2), .val (.ref b114), .val (.ref b122), .val (.int (0 : Int32)), .val (.int (((q4.toUInt32 >>> ((2 : Int32) &&& 31).toUInt32).toInt32) &&& (3 : Int32))), .unset, .unset] [(.int (2 : Int32)), (.int (((q4.toUInt32 >>> ((2 : Int32) &&& 31).toUInt32).toInt32) &&& (3 : Int32)))]) G := fun tq kq => K303 tq (XS.iconst X127.here hx rfl (hb hby at_145) kq)
        by_cases hc305 : (((q4.toUInt32 >>> ((2 : Int32) &&& 31).toUInt32).toInt32) &&& (3 : Int32)) = (2 : Int32)
        · skip
          have K306 : Go p e below T127 (mkF m 149 #[.val (.int q0), .val (.int q1), .val (.int q2), .val (.int q3), .val (.int q4), .val (.int i2), .val (.int b2), .val (.ref b114), .val (.ref b122), .val (.int (0 : Int32)), .val (.int (((q4.toUInt32 >>> ((2 : Int32) &&& 31).toUInt32).toInt32) &&& (3 : Int32))), .unset, .unset] []) G := fun tq kq => K304 tq (XS.icmpNo X127.here hx rfl (hb hby at_146) rfl ((teq hc305).2) kq)
          have K307 : Go p e below T127 (mkF m 151 #[.val (.int q0), .val (.int q1), .val (.int q2), .val (.int q3), .val (.int q4), .val (.int i2), .val (.int b2), .val (.ref b114), .val (.ref b122), .val (.int (0 : Int32)), .val (.int (((q4.toUInt32 >>> ((2 : Int32) &&& 31).toUInt32).toInt32) &&& (3 : Int32))), .unset, .unset] [(.ref b114)]) G := fun tq kq => K306 tq (XS.aload X127.here hx rfl (hb hby at_149) rfl rfl kq)
          have K308 : Go p e below T127 (mkF m 152 #[.val (.int q0), .val (.int q1), .val (.int q2), .val (.int q3), .val (.int q4), .val (.int i2), .val (.int b2), .val (.ref b114), .val (.ref b122), .val (.int (0 : Int32)), .val (.int (((q4.toUInt32 >>> ((2 : Int32) &&& 31).toUInt32).toInt32) &&& (3 : Int32))), .unset, .unset] [(.int q0), (.ref b114)]) G := fun tq kq => K307 tq (XS.iloadN X127.here hx rfl (hb hby at_151) rfl kq)
          obtain ⟨v309, _, ⟨T309, L309, k309, n309⟩, -, X309, ⟨Lc309, hQ309, l309, y309, z309⟩, st309⟩ := Jvm.LawKit.callS X127 hx (y := (⟨"java/lang/Integer", "valueOf", "(I)Ljava/lang/Integer;"⟩ : MethodName)) hown (mvT hZ (hW 20 _ rfl)) (mvT hZ (hW 21 _ rfl)) (mvT hZ (hW 22 _ rfl)) (mvT hZ (hW 23 _ rfl)) (by decide) (backOf (W := 1) (rmVO l Z a0 hw [] q0 ca cc T127.heap n0 (Nat.le_trans (Nat.le_trans (Nat.le_trans (Nat.le_trans Z0 E114.1) K119q.1) E122.1) K127q.1) ((((O0.ext E114).keep K119q (allS ge_b114 all0)).ext E122).keep K127q (allS ge_b122 all0)) S_high S_cache ArC hsz hel) hZ (hW 23 _ rfl) (hW 22 _ rfl) (by decide) (by decide)) (g := (mkF m 152 #[.val (.int q0), .val (.int q1), .val (.int q2), .val (.int q3), .val (.int q4), .val (.int i2), .val (.int b2), .val (.ref b114), .val (.ref b122), .val (.int (0 : Int32)), .val (.int (((q4.toUInt32 >>> ((2 : Int32) &&& 31).toUInt32).toInt32) &&& (3 : Int32))), .unset, .unset] [(.int q0), (.ref b114)])) rfl (by rw [hml]; rfl) (argsL := [(.int q0)]) (rest := [(.ref b114)]) (lenOf pd_73 rfl) rfl (by show 2 * 0 + _ ≤ _; exact Nat.le_of_eq rfl) (hb hby at_152) (fun _ _ => ⟨rfl, rfl, (by decide : 2 + 1 ≤ _), (by decide : 4 + 1 ≤ _)⟩)
          dsimp only [Pt.U, Pt.locs, Pt.cells, Pt.slots] at X309 l309 y309 z309 st309 hQ309
          subst l309 y309 z309
          obtain ⟨r309, rfl, N309q, K309q, E309q⟩ := hQ309
          have N309 := Fr.app N127 N309q
          have K310 : Go p e below T309 (mkF m 155 #[.val (.int q0), .val (.int q1), .val (.int q2), .val (.int q3), .val (.int q4), .val (.int i2), .val (.int b2), .val (.ref b114), .val (.ref b122), .val (.int (0 : Int32)), .val (.int (((q4.toUInt32 >>> ((2 : Int32) &&& 31).toUInt32).toInt32) &&& (3 : Int32))), .unset, .unset] [(.ref r309), (.ref b114)]) G := fun tq kq => K308 tq (st309 tq kq)
          obtain ⟨cq311, kq311, q311a, q311b, q311c⟩ := isOf hZ rfl (((E119q.ext E122).keep K127q).keep K309q)
          obtain ⟨v311, _, ⟨T311, L311, k311, n311⟩, -, X311, ⟨Lc311, hQ311, l311, y311, z311⟩, st311⟩ := X309.virtualBack hx (y := (⟨"com/example/vervet/vervet/pipewire/Permission", "equals", "(Ljava/lang/Object;)Z"⟩ : MethodName)) (z := (⟨"com/example/vervet/vervet/pipewire/Permission", "equals", "(Ljava/lang/Object;)Z"⟩ : MethodName)) hown (mvT hZ (hW 13 _ rfl)) (mvT hZ (hW 14 _ rfl)) (notFace_of_selects (args := #[]) (mvT hZ (hW 16 _ rfl))) (mvT hZ (hW 16 _ rfl)) (mvT hZ (hW 15 _ rfl)) (by decide) (backOf (W := 0) (rmEqI l Z a0 hw [] b114 r309 T309.heap n0 (Nat.le_trans (Nat.le_trans (Nat.le_trans (Nat.le_trans (Nat.le_trans Z0 E114.1) K119q.1) E122.1) K127q.1) K309q.1) E309q) hZ (hW 17 _ rfl) (hW 2 _ rfl) (by decide) (by decide)) q311a q311c (g := (mkF m 155 #[.val (.int q0), .val (.int q1), .val (.int q2), .val (.int q3), .val (.int q4), .val (.int i2), .val (.int b2), .val (.ref b114), .val (.ref b122), .val (.int (0 : Int32)), .val (.int (((q4.toUInt32 >>> ((2 : Int32) &&& 31).toUInt32).toInt32) &&& (3 : Int32))), .unset, .unset] [(.ref r309), (.ref b114)])) rfl (by rw [hml]; rfl) (Steps.refl _) (argsL := [(.ref r309)]) (rest := []) (lenOf pd_72 rfl) rfl (by show 2 * 0 + _ ≤ _; exact Nat.le_of_eq rfl) (hb hby at_155) (fun _ _ => ⟨rfl, rfl, (by decide : 3 + 0 ≤ _), (by decide : 5 + 0 ≤ _)⟩)
          dsimp only [Pt.U, Pt.locs, Pt.cells, Pt.slots] at X311 l311 y311 z311 st311 hQ311
          subst l311 y311 z311
          obtain ⟨rfl, N311q, E311q⟩ := hQ311
          have N311 := Fr.app N309 N311q
          have K312 : Go p e below T311 (mkF m 158 #[.val (.int q0), .val (.int q1), .val (.int q2), .val (.int q3), .val (.int q4), .val (.int i2), .val (.int b2), .val (.ref b114), .val (.ref b122), .val (.int (0 : Int32)), .val (.int (((q4.toUInt32 >>> ((2 : Int32) &&& 31).toUInt32).toInt32) &&& (3 : Int32))), .unset, .unset] [(.int (0 : Int32))]) G := fun tq kq => K310 tq (st311.trans kq)
          have K313 : Go p e below T311 (mkF m 161 #[.val (.int q0), .val (.int q1), .val (.int q2), .val (.int q3), .val (.int q4), .val (.int i2), .val (.int b2), .val (.ref b114), .val (.ref b122), .val (.int (0 : Int32)), .val (.int (((q4.toUInt32 >>> ((2 : Int32) &&& 31).toUInt32).toInt32) &&& (3 : Int32))), .unset, .unset] []) G := fun tq kq => K312 tq (XS.ifNo X311.here hx rfl (hb hby at_158) rfl ((if0 _ _).trans (teq (by decide : (0 : Int32) = (0 : Int32))).2) kq)
          have K314 : Go p e below T311 (mkF m 162 #[.val (.int q0), .val (.int q1), .val (.int q2), .val (.int q3), .val (.int q4), .val (.int i2), .val (.int b2), .val (.ref b114), .val (.ref b122), .val (.int (0 : Int32)), .val (.int (((q4.toUInt32 >>> ((2 : Int32) &&& 31).toUInt32).toInt32) &&& (3 : Int32))), .unset, .unset] [(.int (1 : Int32))]) G := fun tq kq => K313 tq (XS.iconst X311.here hx rfl (hb hby at_161) kq)
          have K315 : Go p e below T311 (mkF m 166 #[.val (.int q0), .val (.int q1), .val (.int q2), .val (.int q3), .val (.int q4), .val (.int i2), .val (.int b2), .val (.ref b114), .val (.ref b122), .val (.int (0 : Int32)), .val (.int (((q4.toUInt32 >>> ((2 : Int32) &&& 31).toUInt32).toInt32) &&& (3 : Int32))), .unset, .unset] [(.int (1 : Int32))]) G := fun tq kq => K314 tq (XS.goto X311.here hx rfl (pc0 := 162) (pc' := 166) rfl (hb hby at_162) (by decide) (by decide) kq)
          obtain ⟨fs, hr, hrun, hended, hWW, hsame⟩ := X311.leave (v := some (.int (1 : Int32))) (fun h => by rw [Bd.returns] at h; cases h)
          refine ⟨_, _, hG _ (K315 _ (retN X311 hx (t := .boolean) Bd.returns (by simp) (hb hby at_166) hr)), hrun, hended, _, _, rfl, ?_, ⟨_, rfl⟩, hWW, hsame.mono (by decide) (by decide)⟩
          show Q0 Z q0 q1 q2 q3 q4 ca cc h0 n0 _ T311.heap _
          rw [E311q]
          exact ⟨rfl, N311⟩
        · skip
          have K316 : Go p e below T127 (mkF m 167 #[.val (.int q0), .val (.int q1), .val (.int q2), .val (.int q3), .val (.int q4), .val (.int i2), .val (.int b2), .val (.ref b114), .val (.ref b122), .val (.int (0 : Int32)), .val (.int (((q4.toUInt32 >>> ((2 : Int32) &&& 31).toUInt32).toInt32) &&& (3 : Int32))), .unset, .unset] []) G := fun tq kq => K304 tq (XS.icmpYes X127.here hx rfl (pc0 := 146) (pc' := 167) rfl (hb hby at_146) rfl ((feq hc305).2) (by decide) (by decide) kq)
          have K317 : Go p e below T127 (mkF m 169 #[.val (.int q0), .val (.int q1), .val (.int q2), .val (.int q3), .val (.int q4), .val (.int i2), .val (.int b2), .val (.ref b114), .val (.ref b122), .val (.int (0 : Int32)), .val (.int (((q4.toUInt32 >>> ((2 : Int32) &&& 31).toUInt32).toInt32) &&& (3 : Int32))), .unset, .unset] [(.ref b114)]) G := fun tq kq => K316 tq (XS.aload X127.here hx rfl (hb hby at_167) rfl rfl kq)
          have K318 : Go p e below T127 (mkF m 171 #[.val (.int q0), .val (.int q1), .val (.int q2), .val (.int q3), .val (.int q4), .val (.int i2), .val (.int b2), .val (.ref b114), .val (.ref b122), .val (.int (0 : Int32)), .val (.int (((q4.toUInt32 >>> ((2 : Int32) &&& 31).toUInt32).toInt32) &&& (3 : Int32))), .unset, .unset] [(.ref b114), (.ref b114)]) G := fun tq kq => K317 tq (XS.aload X127.here hx rfl (hb hby at_169) rfl rfl kq)
          obtain ⟨cq319, kq319, q319a, q319b, q319c⟩ := isOf hZ rfl ((E119q.ext E122).keep K127q)
          obtain ⟨v319, _, ⟨T319, L319, k319, n319⟩, -, X319, ⟨Lc319, hQ319, l319, y319, z319⟩, st319⟩ := X127.virtualBack hx (y := (⟨"com/example/vervet/vervet/pipewire/Permission", "equals", "(Ljava/lang/Object;)Z"⟩ : MethodName)) (z := (⟨"com/example/vervet/vervet/pipewire/Permission", "equals", "(Ljava/lang/Object;)Z"⟩ : MethodName)) hown (mvT hZ (hW 13 _ rfl)) (mvT hZ (hW 14 _ rfl)) (notFace_of_selects (args := #[]) (mvT hZ (hW 16 _ rfl))) (mvT hZ (hW 16 _ rfl)) (mvT hZ (hW 15 _ rfl)) (by decide) (backOf (W := 0) (rmEqP l Z a0 hw [] b114 b114 q0 q1 q0 q1 T127.heap n0 (Nat.le_trans (Nat.le_trans (Nat.le_trans (Nat.le_trans Z0 E114.1) K119q.1) E122.1) K127q.1) ((F119q_id.ext E122).keep K127q (ninS ne122_b114 nin0)) ((F119q_bits.ext E122).keep K127q (ninS ne122_b114 nin0)) ((F119q_id.ext E122).keep K127q (ninS ne122_b114 nin0)) ((F119q_bits.ext E122).keep K127q (ninS ne122_b114 nin0)) ((E119q.ext E122).keep K127q)) hZ (hW 17 _ rfl) (hW 2 _ rfl) (by decide) (by decide)) q319a q319c (g := (mkF m 171 #[.val (.int q0), .val (.int q1), .val (.int q2), .val (.int q3), .val (.int q4), .val (.int i2), .val (.int b2), .val (.ref b114), .val (.ref b122), .val (.int (0 : Int32)), .val (.int (((q4.toUInt32 >>> ((2 : Int32) &&& 31).toUInt32).toInt32) &&& (3 : Int32))), .unset, .unset] [(.ref b114), (.ref b114)])) rfl (by rw [hml]; rfl) (Steps.refl _) (argsL := [(.ref b114)]) (rest := []) (lenOf pd_72 rfl) rfl (by show 2 * 0 + _ ≤ _; exact Nat.le_of_eq rfl) (hb hby at_171) (fun _ _ => ⟨rfl, rfl, (by decide : 2 + 0 ≤ _), (by decide : 4 + 0 ≤ _)⟩)
          dsimp only [Pt.U, Pt.locs, Pt.cells, Pt.slots] at X319 l319 y319 z319 st319 hQ319
          subst l319 y319 z319
          rw [QEqP, if_pos (⟨rfl, rfl⟩)] at hQ319
          obtain ⟨rfl, N319q, E319q⟩ := hQ319
          have N319 := Fr.app N127 N319q
          have K320 : Go p e below T319 (mkF m 174 #[.val (.int q0), .val (.int q1), .val (.int q2), .val (.int q3), .val (.int q4), .val (.int i2), .val (.int b2), .val (.ref b114), .val (.ref b122), .val (.int (0 : Int32)), .val (.int (((q4.toUInt32 >>> ((2 : Int32) &&& 31).toUInt32).toInt32) &&& (3 : Int32))), .unset, .unset] [(.int (1 : Int32))]) G := fun tq kq => K318 tq (st319.trans kq)
          obtain ⟨fs, hr, hrun, hended, hWW, hsame⟩ := X319.leave (v := some (.int (1 : Int32))) (fun h => by rw [Bd.returns] at h; cases h)
          refine ⟨_, _, hG _ (K320 _ (retN X319 hx (t := .boolean) Bd.returns (by simp) (hb hby at_174) hr)), hrun, hended, _, _, rfl, ?_, ⟨_, rfl⟩, hWW, hsame.mono (by decide) (by decide)⟩
          show Q0 Z q0 q1 q2 q3 q4 ca cc h0 n0 _ T319.heap _
          rw [E319q]
          exact ⟨rfl, N319⟩
set_option maxRecDepth 65536 in
set_option maxHeartbeats 40000000 in
theorem comes_1 {Post : Tables → Env → Array Value → State → Outcome → State → Prop} (hpost : ∀ tb e args s v u, (limb_1_1.after args s (.returned v) u = true ∧ limb_1_2.after args s (.returned v) u = true ∧ True) → FrameEnd s (.returned v) u (Jvm.fieldLocs frame_1_writes args s ++ Jvm.arrayLocs frame_1_arrays args s ++ Jvm.staticLocs frame_1_statics s) 16 128 → Post tb e args s (.returned v) u) :
    ArmFor flags0 classFile x code maxLocals ret World_1 tables_1 room_1 Calls_1 rest_1 Pre_1 Post := by
  intro l hfl _ _ p e ha hc hk s m args below hf hA hF happ hP
  obtain ⟨hcalls, hrest, hpre⟩ := hP
  obtain ⟨-, -, -, hnamed, -, -, -, hat⟩ := (Spec.applies_iff hf).mp happ
  obtain ⟨hg, hn⟩ := and_e (Cond.before_iff.mp (show (Jvm.Cond.and given_1 narrow_1).before args s = true from hpre))
  obtain ⟨gg1, gg2⟩ := and_e hg
  obtain ⟨gg3, gg4⟩ := and_e gg2
  obtain ⟨gg5, gg6⟩ := and_e gg4
  obtain ⟨gg7, gg8⟩ := and_e gg6
  obtain ⟨gg9, gg10⟩ := and_e gg8
  obtain ⟨w0, w1, w2, w3, w4, rfl⟩ : ∃ w0 w1 w2 w3 w4 : Value, args = #[w0, w1, w2, w3, w4] := by
    have hs : args.size = 5 := by simpa [Cond.value, given_1] using gg1
    obtain ⟨L⟩ := args
    match L, hs with
    | [w0, w1, w2, w3, w4], _ => exact ⟨w0, w1, w2, w3, w4, rfl⟩
  have hw := fun d (hd : d ∈ tables_1) => atoms_spec (ws := Jvm.Cond.code x code maxLocals ret :: tables_1) hat d (List.mem_cons_of_mem _ hd)
  have hW : ∀ (k : Nat) (d : Jvm.Cond), tables_1[k]? = some d → d.before _ s = true := fun k d h => hw d (List.mem_of_getElem? h)
  have hfit : Fit s := fun {y c} hc i hi => by
    obtain ⟨ha, rfl⟩ := Array.getElem?_eq_some_iff.mp hc
    have q := List.all_eq_true.mp ((Array.all_eq_true_iff_forall_mem.mp hF) _ (Array.getElem_mem ha)) i (List.mem_range.mpr hi)
    simpa [Array.getElem?_eq_getElem hi] using q
  obtain ⟨hsets, hown0⟩ := atoms_of _ (rest_1_c_eq ▸ (show rest_1_c.before _ s = true from hrest))
  have hr0 := Cond.before_iff.mp hown0
  obtain ⟨i0, ei0⟩ := is_v gg3
  obtain rfl : w0 = (.int i0) := Option.some.inj ei0
  obtain ⟨i1, ei1⟩ := is_v gg5
  obtain rfl : w1 = (.int i1) := Option.some.inj ei1
  obtain ⟨i2, ei2⟩ := is_v gg7
  obtain rfl : w2 = (.int i2) := Option.some.inj ei2
  obtain ⟨i3, ei3⟩ := is_v gg9
  obtain rfl : w3 = (.int i3) := Option.some.inj ei3
  obtain ⟨i4, ei4⟩ := is_v gg10
  obtain rfl : w4 = (.int i4) := Option.some.inj ei4
  have hS : ∀ (k : Nat) (d : Jvm.Cond), jdkStatics_1[k]? = some d → d.before #[.int i0, .int i1, .int i2, .int i3, .int i4] s = true := fun k d h => hsets d (List.mem_of_getElem? h)
  have eh : (Term.static "java/lang/Integer$IntegerCache" "high" "I").eval #[.int i0, .int i1, .int i2, .int i3, .int i4] s none [] s = some (.int (127 : Int32)) := Cond.eq_int (hS 3 _ rfl) (rfl : (Term.int 127).eval #[.int i0, .int i1, .int i2, .int i3, .int i4] s none [] s = some (.int 127))
  have S_high := Sta.start eh (Or.inl (hS 1 _ rfl))
  obtain ⟨ca, ec⟩ := arr_v (Cond.before_iff.mp (hS 4 _ rfl))
  have S_cache : Sta s s.heap "java/lang/Integer$IntegerCache" "cache" "[Ljava/lang/Integer;" (.ref ca) := Sta.start ec (Or.inr ⟨(hW 25 _ rfl), hS 2 _ rfl⟩)
  obtain ⟨cc, ArC⟩ := Arr.start ec (Cond.before_iff.mp (hS 4 _ rfl))
  obtain ⟨hl1, hl2⟩ := Jvm.Free.IntBox.length_fwd (hS 6 _ rfl) ec ArC.1 ArC.2.1 ArC.2.2
  have hsz : cc.slots.size = 256 := by
    have q := len_toInt hl1
    rw [hl2] at q
    have q2 : (256 : Int32).toInt = 256 := by decide
    rw [q2] at q
    omega
  have hel : ∀ i, i < 256 → ∃ b, cc.slots[i]? = some (.ref b) ∧ Exa s s.heap b "java/lang/Integer" := by
    intro i hi
    have al := Cond.all_elim ec (Jvm.Free.IntBox.arrayAt_of ArC.1 ArC.2.1 ArC.2.2) (Cond.before_iff.mp (hS 7 _ rfl)) i (by rw [hsz]; exact hi)
    obtain ⟨al1, -⟩ := and_e al
    obtain ⟨b, cI, cell, kI, e1, e2, e3, e4, e5, e6, e7⟩ := Cond.exactly_spec (beq_iff_eq.mpr al1 : (Cond.exactly _ "java/lang/Integer").holds #[.int i0, .int i1, .int i2, .int i3, .int i4] s none s [i] = true)
    subst e6
    obtain ⟨a1, j1, c1, f1, f2, f3, f4, f5⟩ := Term.elem_spec e1
    have ec' : (Term.static "java/lang/Integer$IntegerCache" "cache" "[Ljava/lang/Integer;").eval #[.int i0, .int i1, .int i2, .int i3, .int i4] s none [i] s = some (.ref ca) := ec
    cases f1.symm.trans ec'
    cases f3.symm.trans (Jvm.Free.IntBox.arrayAt_of ArC.1 ArC.2.1 ArC.2.2)
    have f6 : j1 = i.toInt32 := by
      have f7 : (Term.index 0).eval #[.int i0, .int i1, .int i2, .int i3, .int i4] s none [i] s = some (.int i.toInt32) := rfl
      exact Value.int.inj (Option.some.inj (f2.symm.trans f7))
    subst f6
    rw [(Jvm.Free.IntBox.place_nonneg i hi).2] at f5
    exact ⟨b, f5, cell, kI, e3, e2, e4, e5, e7⟩
  obtain ⟨n, o, h1, h2, h3, _, L, rfl, ⟨rfl, N⟩, hq⟩ := rm0 l s _ hw tables_1 i0 i1 i2 i3 i4 ca cc s.heap s.heap.size (Nat.le_refl _) (Old.start s) S_high S_cache ArC hsz hel p e ha hc hk s m _ below hf ((Spec.applies_iff_loose hf).mp happ).1 ⟨rfl, State.Warmed39.refl s, rfl⟩ trivial
  refine ⟨n, _, h1, h2, h3, hpost _ _ _ _ _ _ ⟨Cond.after_iff.mpr rfl, Cond.after_iff.mpr (eq_i res_at (Term.int_eval (1)) rfl), trivial⟩ ⟨hq.1, hq.2.1, (hq.2.2.sift fun y hy => Or.inr (N y hy)).mono (by decide) (by decide)⟩⟩
theorem main_1_1 : Claimed_1_1 := comes_1 fun _ _ _ _ _ _ h hF => ⟨h.1, hF⟩
theorem main_1_2 : Claimed_1_2 := comes_1 fun _ _ _ _ _ _ h hF => ⟨h.2.1, hF⟩
end Jvm.Pilot.@@N@@
namespace Jvm.Pilot.@@N@@
open Jvm Jvm.ClassFile Sem Op Lib Jvm.Free Jvm.Stand Jvm.Pilot.@@N@@.Jvm.D
/-! MADE BY PROGRAM (witnessworld.py) out of the Statement's table words and the real class files: 16 classes; the members and pool entries that the words name. The judged class is class 1, her method 1. -/
namespace start1
open Jvm.ClassFile
def u (s : String) : CpInfo := .utf8 (stringToUtf16 s)
/-- a pool by its gaps: so many unusable entries, then the entry; so many at the end -/
def gap : Nat → List CpInfo → List CpInfo
  | 0, r => r
  | n + 1, r => .unusable :: gap n r
def poolList (es : List (Nat × CpInfo)) (last : Nat) : List CpInfo := es.foldr (fun e r => gap e.1 (e.2 :: r)) (gap last [])
def pool (es : List (Nat × CpInfo)) (last : Nat) : Array CpInfo := ⟨poolList es last⟩
def fileOf (pool : Array CpInfo) (this : Nat) (attrs : Array Attribute := #[]) (ms : Array MethodInfo := #[]) (fl : Nat := 33) (sup : Nat := 0) (ifs : Array Nat := #[]) (fds : Array FieldInfo := #[]) : ClassFile where
  minorVersion := 0
  majorVersion := 65
  constantPool := pool
  accessFlags := fl
  thisClass := this
  superClass := sup
  interfaces := ifs
  fields := fds
  methods := ms
  attributes := attrs
def plain (name : String) (sup : Option ClassId) : Class where
  name := name
  kind := .ordinary
  loader := none
  accessFlags := 33
  super := sup
  interfaces := #[]
  cf := none
  fields := #[]
  methods := #[]
  instanceTypes := #[]
  staticTypes := #[]
  resolved := #[]
  callSites := []
  init := .initialized
  statics := none
  mirror := none

def pool0 : Array CpInfo := pool [(5, u "<init>"), (0, u "()V"), (1, .class_ 10), (1, u "java/lang/Object")] 113

def k0c0 : Code := { maxStack := 0, maxLocals := 1, code := object_method_1_code, exceptionTable := #[], attributes := #[] }
def k0m0 : Method := { name := "<init>", desc := "()V", sig := { parameters := [], returnType := none }, accessFlags := 1, code := some k0c0 }
/-- java/lang/Object -/
def k0 : Class := { plain "java/lang/Object" none with
  accessFlags := 33
  interfaces := #[]
  cf := some (fileOf pool0 8 #[] #[{ accessFlags := 1, nameIndex := 5, descriptorIndex := 6, attributes := #[] }] 33 0 #[] #[])
  fields := #[]
  methods := #[k0m0]
  instanceTypes := #[]
  staticTypes := #[]
  resolved := Array.replicate 124 none
  statics := none }

def pool1 : Array CpInfo := pool [(2, .class_ 4), (1, u "java/lang/Object"), (0, u "<init>"), (0, u "()V"), (0, .class_ 8), (0, u "com/example/vervet/vervet/pipewire/Permission"), (0, .methodref 7 10), (0, .nameAndType 5 11), (0, u "(II)V"), (0, .methodref 7 13), (0, .nameAndType 14 15), (0, u "equals"), (0, u "(Ljava/lang/Object;)Z"), (0, .methodref 17 18), (0, .class_ 19), (0, .nameAndType 20 21), (0, u "java/lang/Integer"), (0, u "valueOf"), (0, u "(I)Ljava/lang/Integer;"), (0, .class_ 23), (0, u "com/example/vervet/vervet/pipewire/PermissionEqualsPinLaw"), (2, u "law"), (0, u "(IIIII)Z")] 3

def k1m0 : Method := { name := "<init>", desc := "()V", sig := { parameters := [], returnType := none }, accessFlags := 1, code := none }
def k1c1 : Code := { maxStack := 4, maxLocals := 13, code := code, exceptionTable := #[], attributes := #[] }
def k1m1 : Method := { name := "law", desc := "(IIIII)Z", sig := { parameters := [.int, .int, .int, .int, .int], returnType := some .boolean }, accessFlags := 9, code := some k1c1 }
/-- com/example/vervet/vervet/pipewire/PermissionEqualsPinLaw -/
def k1 : Class := { plain "com/example/vervet/vervet/pipewire/PermissionEqualsPinLaw" (some 0) with
  accessFlags := 49
  interfaces := #[]
  cf := some (fileOf pool1 22 #[] #[{ accessFlags := 1, nameIndex := 5, descriptorIndex := 6, attributes := #[] }, { accessFlags := 9, nameIndex := 26, descriptorIndex := 27, attributes := #[] }] 49 2 #[] #[])
  fields := #[]
  methods := #[k1m0, k1m1]
  instanceTypes := #[]
  staticTypes := #[]
  resolved := Array.replicate 31 none
  statics := none }

def pool2 : Array CpInfo := pool [(1, .class_ 2), (0, u "com/example/vervet/vervet/pipewire/Permission"), (0, .methodref 4 5), (0, .class_ 6), (0, .nameAndType 7 8), (0, u "java/lang/Object"), (0, u "<init>"), (0, u "()V"), (0, .fieldref 1 10), (0, .nameAndType 11 12), (0, u "id"), (0, u "I"), (0, .fieldref 1 14), (0, .nameAndType 15 12), (0, u "bits"), (25, u "READ"), (2, u "WRITE"), (1, u "EXECUTE"), (1, u "METADATA"), (1, u "ALL"), (1, u "NONE"), (1, u "ANY"), (1, u "(II)V"), (3, u "equals"), (0, u "(Ljava/lang/Object;)Z")] 22

def k2c0 : Code := { maxStack := 2, maxLocals := 3, code := prog_33_method_1_code, exceptionTable := #[], attributes := #[] }
def k2m0 : Method := { name := "<init>", desc := "(II)V", sig := { parameters := [.int, .int], returnType := none }, accessFlags := 0, code := some k2c0 }
def k2c1 : Code := { maxStack := 2, maxLocals := 3, code := prog_33_method_4_code, exceptionTable := #[], attributes := #[] }
def k2m1 : Method := { name := "equals", desc := "(Ljava/lang/Object;)Z", sig := { parameters := [(.object "java/lang/Object")], returnType := some .boolean }, accessFlags := 1, code := some k2c1 }
/-- com/example/vervet/vervet/pipewire/Permission -/
def k2 : Class := { plain "com/example/vervet/vervet/pipewire/Permission" (some 0) with
  accessFlags := 48
  interfaces := #[]
  cf := some (fileOf pool2 1 #[] #[{ accessFlags := 0, nameIndex := 7, descriptorIndex := 56, attributes := #[] }, { accessFlags := 1, nameIndex := 60, descriptorIndex := 61, attributes := #[] }] 48 4 #[] #[{ accessFlags := 24, nameIndex := 41, descriptorIndex := 12, attributes := #[] }, { accessFlags := 24, nameIndex := 44, descriptorIndex := 12, attributes := #[] }, { accessFlags := 24, nameIndex := 46, descriptorIndex := 12, attributes := #[] }, { accessFlags := 24, nameIndex := 48, descriptorIndex := 12, attributes := #[] }, { accessFlags := 24, nameIndex := 50, descriptorIndex := 12, attributes := #[] }, { accessFlags := 24, nameIndex := 52, descriptorIndex := 12, attributes := #[] }, { accessFlags := 24, nameIndex := 54, descriptorIndex := 12, attributes := #[] }, { accessFlags := 18, nameIndex := 11, descriptorIndex := 12, attributes := #[] }, { accessFlags := 18, nameIndex := 15, descriptorIndex := 12, attributes := #[] }])
  fields := #[{ name := "READ", type := .int, accessFlags := 24, slot := 0, constantValue := 0 }, { name := "WRITE", type := .int, accessFlags := 24, slot := 1, constantValue := 0 }, { name := "EXECUTE", type := .int, accessFlags := 24, slot := 2, constantValue := 0 }, { name := "METADATA", type := .int, accessFlags := 24, slot := 3, constantValue := 0 }, { name := "ALL", type := .int, accessFlags := 24, slot := 4, constantValue := 0 }, { name := "NONE", type := .int, accessFlags := 24, slot := 5, constantValue := 0 }, { name := "ANY", type := .int, accessFlags := 24, slot := 6, constantValue := 0 }, { name := "id", type := .int, accessFlags := 18, slot := 0, constantValue := 0 }, { name := "bits", type := .int, accessFlags := 18, slot := 1, constantValue := 0 }]
  methods := #[k2m0, k2m1]
  instanceTypes := #[.int, .int]
  staticTypes := #[.int, .int, .int, .int, .int, .int, .int]
  resolved := Array.replicate 84 none
  statics := none }

def pool3 : Array CpInfo := pool [(1, .class_ 2), (0, u "java/io/Serializable"), (0, .class_ 4), (0, u "java/lang/Object")] 2

/-- java/io/Serializable -/
def k3 : Class := { plain "java/io/Serializable" (some 0) with
  accessFlags := 1537
  interfaces := #[]
  cf := some (fileOf pool3 1 #[] #[] 1537 3 #[] #[])
  fields := #[]
  methods := #[]
  instanceTypes := #[]
  staticTypes := #[]
  resolved := Array.replicate 7 none
  statics := none }

def pool4 : Array CpInfo := pool [(1, .methodref 2 3), (0, .class_ 4), (0, .nameAndType 5 6), (0, u "java/lang/Object"), (0, u "<init>"), (0, u "()V"), (1, .class_ 10), (1, u "java/lang/Number"), (2, .class_ 14), (0, u "java/io/Serializable"), (0, u "serialVersionUID"), (0, u "J")] 20

def k4c0 : Code := { maxStack := 1, maxLocals := 1, code := jdk_18_method_1_code, exceptionTable := #[], attributes := #[] }
def k4m0 : Method := { name := "<init>", desc := "()V", sig := { parameters := [], returnType := none }, accessFlags := 1, code := some k4c0 }
/-- java/lang/Number -/
def k4 : Class := { plain "java/lang/Number" (some 0) with
  accessFlags := 1057
  interfaces := #[3]
  cf := some (fileOf pool4 8 #[] #[{ accessFlags := 1, nameIndex := 5, descriptorIndex := 6, attributes := #[] }] 1057 2 #[13] #[{ accessFlags := 26, nameIndex := 15, descriptorIndex := 16, attributes := #[] }])
  fields := #[{ name := "serialVersionUID", type := .long, accessFlags := 26, slot := 0, constantValue := 0 }]
  methods := #[k4m0]
  instanceTypes := #[]
  staticTypes := #[.long]
  resolved := Array.replicate 37 none
  statics := none }

def pool5 : Array CpInfo := pool [(1, .class_ 2), (0, u "java/lang/Comparable"), (0, .class_ 4), (0, u "java/lang/Object")] 7

/-- java/lang/Comparable -/
def k5 : Class := { plain "java/lang/Comparable" (some 0) with
  accessFlags := 1537
  interfaces := #[]
  cf := some (fileOf pool5 1 #[] #[] 1537 3 #[] #[])
  fields := #[]
  methods := #[]
  instanceTypes := #[]
  staticTypes := #[]
  resolved := Array.replicate 12 none
  statics := none }

def pool6 : Array CpInfo := pool [(1, .class_ 2), (0, u "java/lang/constant/Constable"), (0, .class_ 4), (0, u "java/lang/Object")] 6

/-- java/lang/constant/Constable -/
def k6 : Class := { plain "java/lang/constant/Constable" (some 0) with
  accessFlags := 1537
  interfaces := #[]
  cf := some (fileOf pool6 1 #[] #[] 1537 3 #[] #[])
  fields := #[]
  methods := #[]
  instanceTypes := #[]
  staticTypes := #[]
  resolved := Array.replicate 11 none
  statics := none }

def pool7 : Array CpInfo := pool [(1, .class_ 2), (0, u "java/lang/constant/ConstantDesc"), (0, .class_ 4), (0, u "java/lang/Object")] 32

/-- java/lang/constant/ConstantDesc -/
def k7 : Class := { plain "java/lang/constant/ConstantDesc" (some 0) with
  accessFlags := 1537
  interfaces := #[]
  cf := some (fileOf pool7 1 #[] #[] 1537 3 #[] #[])
  fields := #[]
  methods := #[]
  instanceTypes := #[]
  staticTypes := #[]
  resolved := Array.replicate 37 none
  statics := none }

def pool8 : Array CpInfo := pool [(1, .class_ 2), (0, u "java/lang/Integer"), (16, u "digits"), (0, u "[C"), (46, u "<init>"), (17, u "DigitOnes"), (0, u "[B"), (2, u "DigitTens"), (10, .nameAndType 67 101), (0, u "()V"), (85, u "valueOf"), (0, u "(I)Ljava/lang/Integer;"), (0, .class_ 190), (0, u "java/lang/Integer$IntegerCache"), (0, .fieldref 189 192), (0, .nameAndType 193 194), (0, u "high"), (0, u "I"), (0, .fieldref 189 196), (0, .nameAndType 197 198), (0, u "cache"), (0, u "[Ljava/lang/Integer;"), (0, .methodref 1 200), (0, .nameAndType 67 201), (0, u "(I)V"), (0, .methodref 203 100), (0, .class_ 204), (0, u "java/lang/Number"), (0, .fieldref 1 206), (0, .nameAndType 207 194), (0, u "value"), (94, u "TYPE"), (0, u "Ljava/lang/Class;"), (0, .class_ 305), (0, u "java/lang/Comparable"), (0, .class_ 307), (0, u "java/lang/constant/Constable"), (0, .class_ 309), (0, u "java/lang/constant/ConstantDesc"), (0, u "MIN_VALUE"), (1, u "MAX_VALUE"), (3, u "SIZE"), (1, u "BYTES"), (1, u "serialVersionUID"), (0, u "J")] 131

def k8c0 : Code := { maxStack := 3, maxLocals := 1, code := jdk_33_method_22_code, exceptionTable := #[], attributes := #[] }
def k8m0 : Method := { name := "valueOf", desc := "(I)Ljava/lang/Integer;", sig := { parameters := [.int], returnType := some (.object "java/lang/Integer") }, accessFlags := 9, code := some k8c0 }
def k8c1 : Code := { maxStack := 2, maxLocals := 2, code := jdk_33_method_23_code, exceptionTable := #[], attributes := #[] }
def k8m1 : Method := { name := "<init>", desc := "(I)V", sig := { parameters := [.int], returnType := none }, accessFlags := 1, code := some k8c1 }
/-- java/lang/Integer -/
def k8 : Class := { plain "java/lang/Integer" (some 4) with
  accessFlags := 49
  interfaces := #[5, 6, 7]
  cf := some (fileOf pool8 1 #[.nestMembers #[189]] #[{ accessFlags := 9, nameIndex := 187, descriptorIndex := 188, attributes := #[] }, { accessFlags := 1, nameIndex := 67, descriptorIndex := 201, attributes := #[] }] 49 203 #[304, 306, 308] #[{ accessFlags := 25, nameIndex := 310, descriptorIndex := 194, attributes := #[] }, { accessFlags := 25, nameIndex := 312, descriptorIndex := 194, attributes := #[] }, { accessFlags := 25, nameIndex := 302, descriptorIndex := 303, attributes := #[] }, { accessFlags := 24, nameIndex := 19, descriptorIndex := 20, attributes := #[] }, { accessFlags := 24, nameIndex := 89, descriptorIndex := 86, attributes := #[] }, { accessFlags := 24, nameIndex := 85, descriptorIndex := 86, attributes := #[] }, { accessFlags := 18, nameIndex := 207, descriptorIndex := 194, attributes := #[] }, { accessFlags := 25, nameIndex := 316, descriptorIndex := 194, attributes := #[] }, { accessFlags := 25, nameIndex := 318, descriptorIndex := 194, attributes := #[] }, { accessFlags := 26, nameIndex := 320, descriptorIndex := 321, attributes := #[] }])
  fields := #[{ name := "MIN_VALUE", type := .int, accessFlags := 25, slot := 0, constantValue := 0 }, { name := "MAX_VALUE", type := .int, accessFlags := 25, slot := 1, constantValue := 0 }, { name := "TYPE", type := (.object "java/lang/Class"), accessFlags := 25, slot := 2, constantValue := 0 }, { name := "digits", type := (.array .char), accessFlags := 24, slot := 3, constantValue := 0 }, { name := "DigitTens", type := (.array .byte), accessFlags := 24, slot := 4, constantValue := 0 }, { name := "DigitOnes", type := (.array .byte), accessFlags := 24, slot := 5, constantValue := 0 }, { name := "value", type := .int, accessFlags := 18, slot := 0, constantValue := 0 }, { name := "SIZE", type := .int, accessFlags := 25, slot := 6, constantValue := 0 }, { name := "BYTES", type := .int, accessFlags := 25, slot := 7, constantValue := 0 }, { name := "serialVersionUID", type := .long, accessFlags := 26, slot := 8, constantValue := 0 }]
  methods := #[k8m0, k8m1]
  instanceTypes := #[.int]
  staticTypes := #[.int, .int, (.object "java/lang/Class"), (.array .char), (.array .byte), (.array .byte), .int, .int, .long]
  resolved := Array.replicate 453 none
  statics := none }

def pool9 : Array CpInfo := pool [(2, .class_ 4), (1, u "java/lang/Object"), (0, u "<init>"), (0, u "()V"), (0, .class_ 8), (0, u "java/lang/Integer"), (7, .class_ 18), (1, u "java/lang/Integer$IntegerCache"), (0, u "$assertionsDisabled"), (0, u "Z"), (26, u "high"), (0, u "I"), (8, u "archivedCache"), (0, u "[Ljava/lang/Integer;"), (12, u "cache"), (0, u "low")] 27

def k9m0 : Method := { name := "<init>", desc := "()V", sig := { parameters := [], returnType := none }, accessFlags := 2, code := none }
/-- java/lang/Integer$IntegerCache -/
def k9 : Class := { plain "java/lang/Integer$IntegerCache" (some 0) with
  accessFlags := 48
  interfaces := #[]
  cf := some (fileOf pool9 16 #[.nestHost 7] #[{ accessFlags := 2, nameIndex := 5, descriptorIndex := 6, attributes := #[] }] 48 2 #[] #[{ accessFlags := 24, nameIndex := 72, descriptorIndex := 48, attributes := #[] }, { accessFlags := 24, nameIndex := 47, descriptorIndex := 48, attributes := #[] }, { accessFlags := 24, nameIndex := 71, descriptorIndex := 58, attributes := #[] }, { accessFlags := 8, nameIndex := 57, descriptorIndex := 58, attributes := #[] }, { accessFlags := 4120, nameIndex := 19, descriptorIndex := 20, attributes := #[] }])
  fields := #[{ name := "low", type := .int, accessFlags := 24, slot := 0, constantValue := 0 }, { name := "high", type := .int, accessFlags := 24, slot := 1, constantValue := 0 }, { name := "cache", type := (.array (.object "java/lang/Integer")), accessFlags := 24, slot := 2, constantValue := 0 }, { name := "archivedCache", type := (.array (.object "java/lang/Integer")), accessFlags := 8, slot := 3, constantValue := 0 }, { name := "$assertionsDisabled", type := .boolean, accessFlags := 4120, slot := 4, constantValue := 0 }]
  methods := #[k9m0]
  instanceTypes := #[]
  staticTypes := #[.int, .int, (.array (.object "java/lang/Integer")), (.array (.object "java/lang/Integer")), .boolean]
  resolved := Array.replicate 100 none
  statics := some 0 }

def pool10 : Array CpInfo := pool [(1, u "java/lang/Cloneable"), (0, .class_ 1), (0, u "java/lang/Object"), (0, .class_ 3)] 3

/-- java/lang/Cloneable -/
def k10 : Class := { plain "java/lang/Cloneable" (some 0) with
  accessFlags := 1537
  interfaces := #[]
  cf := some (fileOf pool10 2 #[] #[] 1537 4 #[] #[])
  fields := #[]
  methods := #[]
  instanceTypes := #[]
  staticTypes := #[]
  resolved := Array.replicate 8 none
  statics := none }

/-- the primitive byte -/
def k11 : Class := { plain "byte" none with kind := .primitive 'B', accessFlags := 0x411 }
/-- [B -/
def k12 : Class := { plain "[B" (some 0) with kind := .array 11 .byte, interfaces := #[10, 3], accessFlags := 1041 }

/-- the primitive int -/
def k13 : Class := { plain "int" none with kind := .primitive 'I', accessFlags := 0x411 }
/-- [I -/
def k14 : Class := { plain "[I" (some 0) with kind := .array 13 .int, interfaces := #[10, 3], accessFlags := 1041 }

/-- [Ljava/lang/Integer; -/
def k15 : Class := { plain "[Ljava/lang/Integer;" (some 0) with kind := .array 8 (.object "java/lang/Integer"), interfaces := #[10, 3], accessFlags := 1041 }

def heap : Heap := #[{ cls := 9, slots := #[.int 0, .int 127, .ref 1, .null, .int 0], vm := .statics 9 },
  { cls := 15, slots := #[.ref 2, .ref 3, .ref 4, .ref 5, .ref 6, .ref 7, .ref 8, .ref 9, .ref 10, .ref 11, .ref 12, .ref 13, .ref 14, .ref 15, .ref 16, .ref 17, .ref 18, .ref 19, .ref 20, .ref 21, .ref 22, .ref 23, .ref 24, .ref 25, .ref 26, .ref 27, .ref 28, .ref 29, .ref 30, .ref 31, .ref 32, .ref 33, .ref 34, .ref 35, .ref 36, .ref 37, .ref 38, .ref 39, .ref 40, .ref 41, .ref 42, .ref 43, .ref 44, .ref 45, .ref 46, .ref 47, .ref 48, .ref 49, .ref 50, .ref 51, .ref 52, .ref 53, .ref 54, .ref 55, .ref 56, .ref 57, .ref 58, .ref 59, .ref 60, .ref 61, .ref 62, .ref 63, .ref 64, .ref 65, .ref 66, .ref 67, .ref 68, .ref 69, .ref 70, .ref 71, .ref 72, .ref 73, .ref 74, .ref 75, .ref 76, .ref 77, .ref 78, .ref 79, .ref 80, .ref 81, .ref 82, .ref 83, .ref 84, .ref 85, .ref 86, .ref 87, .ref 88, .ref 89, .ref 90, .ref 91, .ref 92, .ref 93, .ref 94, .ref 95, .ref 96, .ref 97, .ref 98, .ref 99, .ref 100, .ref 101, .ref 102, .ref 103, .ref 104, .ref 105, .ref 106, .ref 107, .ref 108, .ref 109, .ref 110, .ref 111, .ref 112, .ref 113, .ref 114, .ref 115, .ref 116, .ref 117, .ref 118, .ref 119, .ref 120, .ref 121, .ref 122, .ref 123, .ref 124, .ref 125, .ref 126, .ref 127, .ref 128, .ref 129, .ref 130, .ref 131, .ref 132, .ref 133, .ref 134, .ref 135, .ref 136, .ref 137, .ref 138, .ref 139, .ref 140, .ref 141, .ref 142, .ref 143, .ref 144, .ref 145, .ref 146, .ref 147, .ref 148, .ref 149, .ref 150, .ref 151, .ref 152, .ref 153, .ref 154, .ref 155, .ref 156, .ref 157, .ref 158, .ref 159, .ref 160, .ref 161, .ref 162, .ref 163, .ref 164, .ref 165, .ref 166, .ref 167, .ref 168, .ref 169, .ref 170, .ref 171, .ref 172, .ref 173, .ref 174, .ref 175, .ref 176, .ref 177, .ref 178, .ref 179, .ref 180, .ref 181, .ref 182, .ref 183, .ref 184, .ref 185, .ref 186, .ref 187, .ref 188, .ref 189, .ref 190, .ref 191, .ref 192, .ref 193, .ref 194, .ref 195, .ref 196, .ref 197, .ref 198, .ref 199, .ref 200, .ref 201, .ref 202, .ref 203, .ref 204, .ref 205, .ref 206, .ref 207, .ref 208, .ref 209, .ref 210, .ref 211, .ref 212, .ref 213, .ref 214, .ref 215, .ref 216, .ref 217, .ref 218, .ref 219, .ref 220, .ref 221, .ref 222, .ref 223, .ref 224, .ref 225, .ref 226, .ref 227, .ref 228, .ref 229, .ref 230, .ref 231, .ref 232, .ref 233, .ref 234, .ref 235, .ref 236, .ref 237, .ref 238, .ref 239, .ref 240, .ref 241, .ref 242, .ref 243, .ref 244, .ref 245, .ref 246, .ref 247, .ref 248, .ref 249, .ref 250, .ref 251, .ref 252, .ref 253, .ref 254, .ref 255, .ref 256, .ref 257], vm := .none },
  { cls := 8, slots := #[.int (-128)], vm := .none },
  { cls := 8, slots := #[.int (-127)], vm := .none },
  { cls := 8, slots := #[.int (-126)], vm := .none },
  { cls := 8, slots := #[.int (-125)], vm := .none },
  { cls := 8, slots := #[.int (-124)], vm := .none },
  { cls := 8, slots := #[.int (-123)], vm := .none },
  { cls := 8, slots := #[.int (-122)], vm := .none },
  { cls := 8, slots := #[.int (-121)], vm := .none },
  { cls := 8, slots := #[.int (-120)], vm := .none },
  { cls := 8, slots := #[.int (-119)], vm := .none },
  { cls := 8, slots := #[.int (-118)], vm := .none },
  { cls := 8, slots := #[.int (-117)], vm := .none },
  { cls := 8, slots := #[.int (-116)], vm := .none },
  { cls := 8, slots := #[.int (-115)], vm := .none },
  { cls := 8, slots := #[.int (-114)], vm := .none },
  { cls := 8, slots := #[.int (-113)], vm := .none },
  { cls := 8, slots := #[.int (-112)], vm := .none },
  { cls := 8, slots := #[.int (-111)], vm := .none },
  { cls := 8, slots := #[.int (-110)], vm := .none },
  { cls := 8, slots := #[.int (-109)], vm := .none },
  { cls := 8, slots := #[.int (-108)], vm := .none },
  { cls := 8, slots := #[.int (-107)], vm := .none },
  { cls := 8, slots := #[.int (-106)], vm := .none },
  { cls := 8, slots := #[.int (-105)], vm := .none },
  { cls := 8, slots := #[.int (-104)], vm := .none },
  { cls := 8, slots := #[.int (-103)], vm := .none },
  { cls := 8, slots := #[.int (-102)], vm := .none },
  { cls := 8, slots := #[.int (-101)], vm := .none },
  { cls := 8, slots := #[.int (-100)], vm := .none },
  { cls := 8, slots := #[.int (-99)], vm := .none },
  { cls := 8, slots := #[.int (-98)], vm := .none },
  { cls := 8, slots := #[.int (-97)], vm := .none },
  { cls := 8, slots := #[.int (-96)], vm := .none },
  { cls := 8, slots := #[.int (-95)], vm := .none },
  { cls := 8, slots := #[.int (-94)], vm := .none },
  { cls := 8, slots := #[.int (-93)], vm := .none },
  { cls := 8, slots := #[.int (-92)], vm := .none },
  { cls := 8, slots := #[.int (-91)], vm := .none },
  { cls := 8, slots := #[.int (-90)], vm := .none },
  { cls := 8, slots := #[.int (-89)], vm := .none },
  { cls := 8, slots := #[.int (-88)], vm := .none },
  { cls := 8, slots := #[.int (-87)], vm := .none },
  { cls := 8, slots := #[.int (-86)], vm := .none },
  { cls := 8, slots := #[.int (-85)], vm := .none },
  { cls := 8, slots := #[.int (-84)], vm := .none },
  { cls := 8, slots := #[.int (-83)], vm := .none },
  { cls := 8, slots := #[.int (-82)], vm := .none },
  { cls := 8, slots := #[.int (-81)], vm := .none },
  { cls := 8, slots := #[.int (-80)], vm := .none },
  { cls := 8, slots := #[.int (-79)], vm := .none },
  { cls := 8, slots := #[.int (-78)], vm := .none },
  { cls := 8, slots := #[.int (-77)], vm := .none },
  { cls := 8, slots := #[.int (-76)], vm := .none },
  { cls := 8, slots := #[.int (-75)], vm := .none },
  { cls := 8, slots := #[.int (-74)], vm := .none },
  { cls := 8, slots := #[.int (-73)], vm := .none },
  { cls := 8, slots := #[.int (-72)], vm := .none },
  { cls := 8, slots := #[.int (-71)], vm := .none },
  { cls := 8, slots := #[.int (-70)], vm := .none },
  { cls := 8, slots := #[.int (-69)], vm := .none },
  { cls := 8, slots := #[.int (-68)], vm := .none },
  { cls := 8, slots := #[.int (-67)], vm := .none },
  { cls := 8, slots := #[.int (-66)], vm := .none },
  { cls := 8, slots := #[.int (-65)], vm := .none },
  { cls := 8, slots := #[.int (-64)], vm := .none },
  { cls := 8, slots := #[.int (-63)], vm := .none },
  { cls := 8, slots := #[.int (-62)], vm := .none },
  { cls := 8, slots := #[.int (-61)], vm := .none },
  { cls := 8, slots := #[.int (-60)], vm := .none },
  { cls := 8, slots := #[.int (-59)], vm := .none },
  { cls := 8, slots := #[.int (-58)], vm := .none },
  { cls := 8, slots := #[.int (-57)], vm := .none },
  { cls := 8, slots := #[.int (-56)], vm := .none },
  { cls := 8, slots := #[.int (-55)], vm := .none },
  { cls := 8, slots := #[.int (-54)], vm := .none },
  { cls := 8, slots := #[.int (-53)], vm := .none },
  { cls := 8, slots := #[.int (-52)], vm := .none },
  { cls := 8, slots := #[.int (-51)], vm := .none },
  { cls := 8, slots := #[.int (-50)], vm := .none },
  { cls := 8, slots := #[.int (-49)], vm := .none },
  { cls := 8, slots := #[.int (-48)], vm := .none },
  { cls := 8, slots := #[.int (-47)], vm := .none },
  { cls := 8, slots := #[.int (-46)], vm := .none },
  { cls := 8, slots := #[.int (-45)], vm := .none },
  { cls := 8, slots := #[.int (-44)], vm := .none },
  { cls := 8, slots := #[.int (-43)], vm := .none },
  { cls := 8, slots := #[.int (-42)], vm := .none },
  { cls := 8, slots := #[.int (-41)], vm := .none },
  { cls := 8, slots := #[.int (-40)], vm := .none },
  { cls := 8, slots := #[.int (-39)], vm := .none },
  { cls := 8, slots := #[.int (-38)], vm := .none },
  { cls := 8, slots := #[.int (-37)], vm := .none },
  { cls := 8, slots := #[.int (-36)], vm := .none },
  { cls := 8, slots := #[.int (-35)], vm := .none },
  { cls := 8, slots := #[.int (-34)], vm := .none },
  { cls := 8, slots := #[.int (-33)], vm := .none },
  { cls := 8, slots := #[.int (-32)], vm := .none },
  { cls := 8, slots := #[.int (-31)], vm := .none },
  { cls := 8, slots := #[.int (-30)], vm := .none },
  { cls := 8, slots := #[.int (-29)], vm := .none },
  { cls := 8, slots := #[.int (-28)], vm := .none },
  { cls := 8, slots := #[.int (-27)], vm := .none },
  { cls := 8, slots := #[.int (-26)], vm := .none },
  { cls := 8, slots := #[.int (-25)], vm := .none },
  { cls := 8, slots := #[.int (-24)], vm := .none },
  { cls := 8, slots := #[.int (-23)], vm := .none },
  { cls := 8, slots := #[.int (-22)], vm := .none },
  { cls := 8, slots := #[.int (-21)], vm := .none },
  { cls := 8, slots := #[.int (-20)], vm := .none },
  { cls := 8, slots := #[.int (-19)], vm := .none },
  { cls := 8, slots := #[.int (-18)], vm := .none },
  { cls := 8, slots := #[.int (-17)], vm := .none },
  { cls := 8, slots := #[.int (-16)], vm := .none },
  { cls := 8, slots := #[.int (-15)], vm := .none },
  { cls := 8, slots := #[.int (-14)], vm := .none },
  { cls := 8, slots := #[.int (-13)], vm := .none },
  { cls := 8, slots := #[.int (-12)], vm := .none },
  { cls := 8, slots := #[.int (-11)], vm := .none },
  { cls := 8, slots := #[.int (-10)], vm := .none },
  { cls := 8, slots := #[.int (-9)], vm := .none },
  { cls := 8, slots := #[.int (-8)], vm := .none },
  { cls := 8, slots := #[.int (-7)], vm := .none },
  { cls := 8, slots := #[.int (-6)], vm := .none },
  { cls := 8, slots := #[.int (-5)], vm := .none },
  { cls := 8, slots := #[.int (-4)], vm := .none },
  { cls := 8, slots := #[.int (-3)], vm := .none },
  { cls := 8, slots := #[.int (-2)], vm := .none },
  { cls := 8, slots := #[.int (-1)], vm := .none },
  { cls := 8, slots := #[.int 0], vm := .none },
  { cls := 8, slots := #[.int 1], vm := .none },
  { cls := 8, slots := #[.int 2], vm := .none },
  { cls := 8, slots := #[.int 3], vm := .none },
  { cls := 8, slots := #[.int 4], vm := .none },
  { cls := 8, slots := #[.int 5], vm := .none },
  { cls := 8, slots := #[.int 6], vm := .none },
  { cls := 8, slots := #[.int 7], vm := .none },
  { cls := 8, slots := #[.int 8], vm := .none },
  { cls := 8, slots := #[.int 9], vm := .none },
  { cls := 8, slots := #[.int 10], vm := .none },
  { cls := 8, slots := #[.int 11], vm := .none },
  { cls := 8, slots := #[.int 12], vm := .none },
  { cls := 8, slots := #[.int 13], vm := .none },
  { cls := 8, slots := #[.int 14], vm := .none },
  { cls := 8, slots := #[.int 15], vm := .none },
  { cls := 8, slots := #[.int 16], vm := .none },
  { cls := 8, slots := #[.int 17], vm := .none },
  { cls := 8, slots := #[.int 18], vm := .none },
  { cls := 8, slots := #[.int 19], vm := .none },
  { cls := 8, slots := #[.int 20], vm := .none },
  { cls := 8, slots := #[.int 21], vm := .none },
  { cls := 8, slots := #[.int 22], vm := .none },
  { cls := 8, slots := #[.int 23], vm := .none },
  { cls := 8, slots := #[.int 24], vm := .none },
  { cls := 8, slots := #[.int 25], vm := .none },
  { cls := 8, slots := #[.int 26], vm := .none },
  { cls := 8, slots := #[.int 27], vm := .none },
  { cls := 8, slots := #[.int 28], vm := .none },
  { cls := 8, slots := #[.int 29], vm := .none },
  { cls := 8, slots := #[.int 30], vm := .none },
  { cls := 8, slots := #[.int 31], vm := .none },
  { cls := 8, slots := #[.int 32], vm := .none },
  { cls := 8, slots := #[.int 33], vm := .none },
  { cls := 8, slots := #[.int 34], vm := .none },
  { cls := 8, slots := #[.int 35], vm := .none },
  { cls := 8, slots := #[.int 36], vm := .none },
  { cls := 8, slots := #[.int 37], vm := .none },
  { cls := 8, slots := #[.int 38], vm := .none },
  { cls := 8, slots := #[.int 39], vm := .none },
  { cls := 8, slots := #[.int 40], vm := .none },
  { cls := 8, slots := #[.int 41], vm := .none },
  { cls := 8, slots := #[.int 42], vm := .none },
  { cls := 8, slots := #[.int 43], vm := .none },
  { cls := 8, slots := #[.int 44], vm := .none },
  { cls := 8, slots := #[.int 45], vm := .none },
  { cls := 8, slots := #[.int 46], vm := .none },
  { cls := 8, slots := #[.int 47], vm := .none },
  { cls := 8, slots := #[.int 48], vm := .none },
  { cls := 8, slots := #[.int 49], vm := .none },
  { cls := 8, slots := #[.int 50], vm := .none },
  { cls := 8, slots := #[.int 51], vm := .none },
  { cls := 8, slots := #[.int 52], vm := .none },
  { cls := 8, slots := #[.int 53], vm := .none },
  { cls := 8, slots := #[.int 54], vm := .none },
  { cls := 8, slots := #[.int 55], vm := .none },
  { cls := 8, slots := #[.int 56], vm := .none },
  { cls := 8, slots := #[.int 57], vm := .none },
  { cls := 8, slots := #[.int 58], vm := .none },
  { cls := 8, slots := #[.int 59], vm := .none },
  { cls := 8, slots := #[.int 60], vm := .none },
  { cls := 8, slots := #[.int 61], vm := .none },
  { cls := 8, slots := #[.int 62], vm := .none },
  { cls := 8, slots := #[.int 63], vm := .none },
  { cls := 8, slots := #[.int 64], vm := .none },
  { cls := 8, slots := #[.int 65], vm := .none },
  { cls := 8, slots := #[.int 66], vm := .none },
  { cls := 8, slots := #[.int 67], vm := .none },
  { cls := 8, slots := #[.int 68], vm := .none },
  { cls := 8, slots := #[.int 69], vm := .none },
  { cls := 8, slots := #[.int 70], vm := .none },
  { cls := 8, slots := #[.int 71], vm := .none },
  { cls := 8, slots := #[.int 72], vm := .none },
  { cls := 8, slots := #[.int 73], vm := .none },
  { cls := 8, slots := #[.int 74], vm := .none },
  { cls := 8, slots := #[.int 75], vm := .none },
  { cls := 8, slots := #[.int 76], vm := .none },
  { cls := 8, slots := #[.int 77], vm := .none },
  { cls := 8, slots := #[.int 78], vm := .none },
  { cls := 8, slots := #[.int 79], vm := .none },
  { cls := 8, slots := #[.int 80], vm := .none },
  { cls := 8, slots := #[.int 81], vm := .none },
  { cls := 8, slots := #[.int 82], vm := .none },
  { cls := 8, slots := #[.int 83], vm := .none },
  { cls := 8, slots := #[.int 84], vm := .none },
  { cls := 8, slots := #[.int 85], vm := .none },
  { cls := 8, slots := #[.int 86], vm := .none },
  { cls := 8, slots := #[.int 87], vm := .none },
  { cls := 8, slots := #[.int 88], vm := .none },
  { cls := 8, slots := #[.int 89], vm := .none },
  { cls := 8, slots := #[.int 90], vm := .none },
  { cls := 8, slots := #[.int 91], vm := .none },
  { cls := 8, slots := #[.int 92], vm := .none },
  { cls := 8, slots := #[.int 93], vm := .none },
  { cls := 8, slots := #[.int 94], vm := .none },
  { cls := 8, slots := #[.int 95], vm := .none },
  { cls := 8, slots := #[.int 96], vm := .none },
  { cls := 8, slots := #[.int 97], vm := .none },
  { cls := 8, slots := #[.int 98], vm := .none },
  { cls := 8, slots := #[.int 99], vm := .none },
  { cls := 8, slots := #[.int 100], vm := .none },
  { cls := 8, slots := #[.int 101], vm := .none },
  { cls := 8, slots := #[.int 102], vm := .none },
  { cls := 8, slots := #[.int 103], vm := .none },
  { cls := 8, slots := #[.int 104], vm := .none },
  { cls := 8, slots := #[.int 105], vm := .none },
  { cls := 8, slots := #[.int 106], vm := .none },
  { cls := 8, slots := #[.int 107], vm := .none },
  { cls := 8, slots := #[.int 108], vm := .none },
  { cls := 8, slots := #[.int 109], vm := .none },
  { cls := 8, slots := #[.int 110], vm := .none },
  { cls := 8, slots := #[.int 111], vm := .none },
  { cls := 8, slots := #[.int 112], vm := .none },
  { cls := 8, slots := #[.int 113], vm := .none },
  { cls := 8, slots := #[.int 114], vm := .none },
  { cls := 8, slots := #[.int 115], vm := .none },
  { cls := 8, slots := #[.int 116], vm := .none },
  { cls := 8, slots := #[.int 117], vm := .none },
  { cls := 8, slots := #[.int 118], vm := .none },
  { cls := 8, slots := #[.int 119], vm := .none },
  { cls := 8, slots := #[.int 120], vm := .none },
  { cls := 8, slots := #[.int 121], vm := .none },
  { cls := 8, slots := #[.int 122], vm := .none },
  { cls := 8, slots := #[.int 123], vm := .none },
  { cls := 8, slots := #[.int 124], vm := .none },
  { cls := 8, slots := #[.int 125], vm := .none },
  { cls := 8, slots := #[.int 126], vm := .none },
  { cls := 8, slots := #[.int 127], vm := .none }]
def classes : Array Class := #[k0, k1, k2, k3, k4, k5, k6, k7, k8, k9, k10, k11, k12, k13, k14, k15]
def interned : List (Array UInt16 × Addr) := []
def slotsUsed : Nat := 517
def theMethod : MethodId := ⟨1, 1⟩
def args0 : Array Value := #[.int 5, .int 3, .int 4, .int 6, .int 3]
def aboutOver (below : List Frame) : State where
  vm := { classes := classes, interned := interned.toArray }
  heap := heap
  slotsUsed := slotsUsed
  threads := #[{ frames := .invoking theMethod args0 :: below }]
def below0 : List Frame := [.native { method := ⟨0, 0⟩, args := #[] }]
def about1 : State := aboutOver below0
def p0 : Program := .bare "" "" ""
def e0 : Env := launch0.env 0 0 0
theorem w_frames : about1.frames = Frame.invoking theMethod args0 :: below0 := rfl
set_option maxRecDepth 65536 in
theorem w_args : argsFit about1.vm theMethod args0 = true := by decide +kernel
set_option maxRecDepth 65536 in
theorem w_heap : heapFits about1 = true := by decide +kernel
set_option maxRecDepth 65536 in
theorem w_runnable : about1.curStatus? = some .runnable := by decide +kernel
set_option maxRecDepth 65536 in
theorem w_alone : about1.alone = true := by decide +kernel
set_option maxRecDepth 65536 in
theorem w_named : about1.methodNamed? x = some theMethod := by decide +kernel
set_option maxRecDepth 65536 in
theorem w_hears : about1.hears theMethod below0 = true := by decide +kernel
set_option maxRecDepth 65536 in
theorem w_ripe : about1.ripe theMethod args0 below0 = true := by decide +kernel
theorem w_running : about1.status = .running := rfl
set_option maxRecDepth 65536 in
theorem w_room : about1.hasRoom e0.platform room_1 = true :=
  launch0.hasRoom_least _ room_1 (by decide +kernel) (by decide +kernel) (by decide +kernel) (by decide +kernel) (by decide +kernel) (by decide +kernel)
theorem allAtoms_all (ts : List Jvm.Cond) (a : Array Jvm.Value) (st : Jvm.State) : (allAtoms ts).before a st = ts.all (fun c => c.before a st) := by
  induction ts with
  | nil => rfl
  | cons c t ih =>
    show (Jvm.Cond.and c (allAtoms t)).before a st = _
    rw [Jvm.Cond.before_and, ih, List.all_cons]
def words1 : List Jvm.Cond := Jvm.Cond.code x code maxLocals ret :: tables_1
/-- a 'code' word, met by the world's own term for the bytes: nothing is compared byte by byte -/
theorem code_word {y : MethodName} {bytes : ByteArray} {mx : Nat} {rt : Option FieldType} {a : Array Value} {s : State} {m : MethodId} {meth : Method} {c : Code} (h1 : s.methodNamed? y = some m) (h2 : s.vm.method? m = some meth) (h3 : meth.code = some c) (h4 : c.code = bytes)
    (h5 : (c.maxLocals == mx && c.exceptionTable.isEmpty && decide (c.maxStack ≤ mostOperands) && decide (meth.sig.returnType = rt) && !meth.locks && decide (parseMethodDescriptor y.desc = some meth.sig)) = true) : (Jvm.Cond.code y bytes mx rt).before a s = true := by
  simp only [Bool.and_eq_true, beq_iff_eq, Bool.not_eq_true', decide_eq_true_eq] at h5
  obtain ⟨⟨⟨⟨⟨g1, g2⟩, g3⟩, g4⟩, g5⟩, g6⟩ := h5
  simp [Cond.before, Cond.holds, Cond.value, h1, h2, h3, h4, g1, g2, g3, g4, g5, g6]
def isCode : Jvm.Cond → Bool
  | .code _ _ _ _ => true
  | _ => false
theorem all_split {L : List Jvm.Cond} {P : Jvm.Cond → Bool} (h1 : L.all (fun c => isCode c || P c) = true) (h2 : ∀ c ∈ L.filter isCode, P c = true) : L.all P = true := by
  refine List.all_eq_true.mpr fun c hc => ?_
  have h := List.all_eq_true.mp h1 c hc
  rcases Bool.eq_false_or_eq_true (isCode c) with hi | hi
  · exact h2 c (List.mem_filter.mpr ⟨hc, hi⟩)
  · simpa [hi] using h
set_option maxRecDepth 65536 in
theorem w_c0 : (Jvm.Cond.code x code maxLocals ret).before args0 about1 = true := code_word (m := ⟨1, 1⟩) (meth := k1m1) (c := k1c1) (by decide +kernel) rfl rfl rfl (by decide +kernel)
set_option maxRecDepth 65536 in
theorem w_c1 : (Jvm.Cond.code ({ cls := "com/example/vervet/vervet/pipewire/Permission", name := "<init>", desc := "(II)V" } : Jvm.MethodName) prog_33_method_1_code (3 : Nat) (Option.none : Option Jvm.ClassFile.FieldType)).before args0 about1 = true := code_word (m := ⟨2, 0⟩) (meth := k2m0) (c := k2c0) (by decide +kernel) rfl rfl rfl (by decide +kernel)
set_option maxRecDepth 65536 in
theorem w_c2 : (Jvm.Cond.code ({ cls := "java/lang/Object", name := "<init>", desc := "()V" } : Jvm.MethodName) object_method_1_code (1 : Nat) (Option.none : Option Jvm.ClassFile.FieldType)).before args0 about1 = true := code_word (m := ⟨0, 0⟩) (meth := k0m0) (c := k0c0) (by decide +kernel) rfl rfl rfl (by decide +kernel)
set_option maxRecDepth 65536 in
theorem w_c3 : (Jvm.Cond.code ({ cls := "com/example/vervet/vervet/pipewire/Permission", name := "equals", desc := "(Ljava/lang/Object;)Z" } : Jvm.MethodName) prog_33_method_4_code (3 : Nat) (Option.some Jvm.ClassFile.FieldType.boolean)).before args0 about1 = true := code_word (m := ⟨2, 1⟩) (meth := k2m1) (c := k2c1) (by decide +kernel) rfl rfl rfl (by decide +kernel)
set_option maxRecDepth 65536 in
theorem w_c4 : (Jvm.Cond.code ({ cls := "java/lang/Integer", name := "valueOf", desc := "(I)Ljava/lang/Integer;" } : Jvm.MethodName) jdk_33_method_22_code (1 : Nat) (Option.some (Jvm.ClassFile.FieldType.object "java/lang/Integer"))).before args0 about1 = true := code_word (m := ⟨8, 0⟩) (meth := k8m0) (c := k8c0) (by decide +kernel) rfl rfl rfl (by decide +kernel)
set_option maxRecDepth 65536 in
theorem w_c5 : (Jvm.Cond.code ({ cls := "java/lang/Integer", name := "<init>", desc := "(I)V" } : Jvm.MethodName) jdk_33_method_23_code (2 : Nat) (Option.none : Option Jvm.ClassFile.FieldType)).before args0 about1 = true := code_word (m := ⟨8, 1⟩) (meth := k8m1) (c := k8c1) (by decide +kernel) rfl rfl rfl (by decide +kernel)
set_option maxRecDepth 65536 in
theorem w_c6 : (Jvm.Cond.code ({ cls := "java/lang/Number", name := "<init>", desc := "()V" } : Jvm.MethodName) jdk_18_method_1_code (1 : Nat) (Option.none : Option Jvm.ClassFile.FieldType)).before args0 about1 = true := code_word (m := ⟨4, 0⟩) (meth := k4m0) (c := k4c0) (by decide +kernel) rfl rfl rfl (by decide +kernel)
def codes1 : List Jvm.Cond := [Jvm.Cond.code x code maxLocals ret, Jvm.Cond.code ({ cls := "com/example/vervet/vervet/pipewire/Permission", name := "<init>", desc := "(II)V" } : Jvm.MethodName) prog_33_method_1_code (3 : Nat) (Option.none : Option Jvm.ClassFile.FieldType), Jvm.Cond.code ({ cls := "java/lang/Object", name := "<init>", desc := "()V" } : Jvm.MethodName) object_method_1_code (1 : Nat) (Option.none : Option Jvm.ClassFile.FieldType), Jvm.Cond.code ({ cls := "com/example/vervet/vervet/pipewire/Permission", name := "equals", desc := "(Ljava/lang/Object;)Z" } : Jvm.MethodName) prog_33_method_4_code (3 : Nat) (Option.some Jvm.ClassFile.FieldType.boolean), Jvm.Cond.code ({ cls := "java/lang/Integer", name := "valueOf", desc := "(I)Ljava/lang/Integer;" } : Jvm.MethodName) jdk_33_method_22_code (1 : Nat) (Option.some (Jvm.ClassFile.FieldType.object "java/lang/Integer")), Jvm.Cond.code ({ cls := "java/lang/Integer", name := "<init>", desc := "(I)V" } : Jvm.MethodName) jdk_33_method_23_code (2 : Nat) (Option.none : Option Jvm.ClassFile.FieldType), Jvm.Cond.code ({ cls := "java/lang/Number", name := "<init>", desc := "()V" } : Jvm.MethodName) jdk_18_method_1_code (1 : Nat) (Option.none : Option Jvm.ClassFile.FieldType)]
set_option maxRecDepth 65536 in
theorem codes_eq : words1.filter isCode = codes1 := rfl
theorem w_codes : ∀ c ∈ words1.filter isCode, c.before args0 about1 = true := by
  rw [codes_eq]
  intro c hc
  simp only [codes1, List.mem_cons, List.not_mem_nil, or_false] at hc
  rcases hc with rfl | rfl | rfl | rfl | rfl | rfl | rfl
  · exact w_c0
  · exact w_c1
  · exact w_c2
  · exact w_c3
  · exact w_c4
  · exact w_c5
  · exact w_c6
set_option maxRecDepth 65536 in
theorem w_t1 : (words1.take 24).all (fun c => isCode c || c.before args0 about1) = true := by decide +kernel
set_option maxRecDepth 65536 in
theorem w_t2 : (words1.drop 24).all (fun c => isCode c || c.before args0 about1) = true := by decide +kernel
theorem w_tables : (allAtoms (Jvm.Cond.code x code maxLocals ret :: tables_1)).before args0 about1 = true := by
  rw [allAtoms_all]
  show words1.all (fun c => c.before args0 about1) = true
  refine all_split ?_ w_codes
  rw [← List.take_append_drop 24 words1, List.all_append, w_t1, w_t2]
  rfl
set_option maxRecDepth 65536 in
theorem w_rest : rest_1_c.before args0 about1 = true := by decide +kernel
set_option maxRecDepth 65536 in
theorem w_case : (Jvm.Cond.and given_1 narrow_1).before args0 about1 = true := by decide +kernel
theorem w_applies : (headSpec (Jvm.Cond.code x code maxLocals ret :: tables_1) room_1).applies x e0.platform about1 = true :=
  (Spec.applies_iff w_frames).mpr ⟨w_running, w_runnable, w_alone, w_named, w_hears, w_ripe, w_room, w_tables⟩
theorem atStart : AtStart classFile x code maxLocals ret World_1 tables_1 room_1 Calls_1 rest_1 Pre_1 launch0 p0 e0 about1 theMethod args0 below0 :=
  ⟨lists_1, trivial, launch0.admits_env _ _ _, launch0.least_env, fairChoices_fair.cas, fairChoices_fair.clock, w_frames, w_args, w_heap, w_applies, trivial, w_rest, w_case⟩
end start1
theorem witness_1 : WitnessClaimed_1 := ⟨start1.p0, start1.e0, start1.about1, start1.theMethod, start1.args0, start1.below0, start1.atStart⟩
end Jvm.Pilot.@@N@@
