import JvmDerived
import JvmDerived.Pilot.@@N@@Statement
import JvmDerived.Pilot.@@N@@Code
set_option linter.unusedVariables false
set_option linter.unusedSimpArgs false
namespace Jvm.Pilot.@@N@@
open Jvm Jvm.ClassFile Sem Op Lib Jvm.Free Jvm.Stand Jvm.LawKit Jvm.RoadKit Bundle Jvm.Pilot.@@N@@.Jvm.D
/-- every run that goes on from the frame g of T to t is one of G -/
abbrev Go (p : Program) (e : Env) (below : List Frame) (T : State) (g : JFrame) (G : State → Prop) : Prop := ∀ t, Steps p.tables e below (T.setTop g) t → G t
theorem pn_0 : plainName "java/lang/Record" = true := by first | (simp [plainName, overriddenIn]; done) | decide +kernel
theorem ef_jdk_30_method_1_R (m : MethodId) (x0 : Addr) : entryFrame m #[(.ref x0)] 1 = mkF m 0 #[.val (.ref x0)] [] := by first | (simp [entryFrame, mkF, argsToLocals, Value.category]; done) | rfl
theorem d_jdk_30_method_1_0 : decode jdk_30_method_1_code 0 = .ok (.aload_n 0, 1) := by decide +kernel
theorem d_jdk_30_method_1_1 : decode jdk_30_method_1_code 1 = .ok (.invokespecial 1, 3) := by decide +kernel
theorem d_jdk_30_method_1_4 : decode jdk_30_method_1_code 4 = .ok (.return_, 1) := by decide +kernel
def QRec (Z : State) (a : Addr) (h0 : Heap) (n0 : Nat) (v : Option Value) (h : Heap) (L : List Loc) : Prop := v = none ∧ Fr n0 L ∧ h = h0
set_option maxRecDepth 65536 in
set_option maxHeartbeats 40000000 in
theorem rmRec (l : Launch) (Z : State) (a0 : Array Value) (hw : ∀ d ∈ tables_1, d.before a0 Z = true) (ws : List Jvm.Cond) (a : Addr) (h0 : Heap) (n0 : Nat) (Z0 : n0 ≤ h0.size) :
    MetFree l (⟨"java/lang/Record", "<init>", "()V"⟩ : MethodName) (head1 (Jvm.Cond.code (⟨"java/lang/Record", "<init>", "()V"⟩ : MethodName) jdk_30_method_1_code 1 none :: ws) ({ frames := 1, cells := 0, slots := 0, locals := 12 } : Room)) (fun aa UU => aa = #[(.ref a)] ∧ Z.Warmed39 UU.vm ∧ UU.heap = h0) (fun _ _ _ _ _ => True) (fun _ UU oo UU' => ∃ vv LL, oo = .returned vv ∧ QRec Z a h0 n0 vv UU'.heap LL ∧ FrameEnd UU oo UU' LL ({ frames := 1, cells := 0, slots := 0, locals := 12 } : Room).cells ({ frames := 1, cells := 0, slots := 0, locals := 12 } : Room).slots) := by
  refine MetFree.of_bodySF (plainFor_of_name pn_0) hisR ?_
  intro p e s m args below meth c s₁ Bd hml0 hP hK
  obtain ⟨rfl, hZ, hh⟩ := hP
  have hx := Bd.exec
  have hby := Bd.bytes
  have hml : c.maxLocals = 1 := hml0
  have hown : s.vm.findClass "java/lang/Record" = some m.cls := findClass_of_methodNamed Bd.named
  have hnm := (name_of_methodNamed Bd.named Bd.method).1
  have hW : ∀ (k : Nat) (d : Jvm.Cond), tables_1[k]? = some d → d.before a0 Z = true := fun k d h => hw d (List.mem_of_getElem? h)
  have X0 : Stand p l e ({ frames := 1, cells := 0, slots := 0, locals := 12 } : Room) s m #[(.ref a)] below meth c s₁ [] 0 0 := Stand.of_body Bd
  have e0 : s₁.heap = h0 := by rw [← hh, Bd.state]; rfl
  have N0 := Fr.nil n0
  obtain ⟨G, hG, K0⟩ : ∃ G : State → Prop, (∀ t, G t → Steps p.tables e below (s₁.setTop (entryFrame m #[(.ref a)] 1)) t) ∧ Go p e below s₁ (mkF m 0 #[.val (.ref a)] []) G := ⟨fun t => Steps p.tables e below (s₁.setTop (entryFrame m #[(.ref a)] 1)) t, fun _ h => h, fun t k => castTop (ef_jdk_30_method_1_R m a) k⟩
  have K1 : Go p e below s₁ (mkF m 1 #[.val (.ref a)] [(.ref a)]) G := fun tq kq => K0 tq (XS.aloadN X0.here hx rfl (hb hby d_jdk_30_method_1_0) rfl rfl kq)
  obtain ⟨T2, X2, e2, st2⟩ := initO X0 hx hZ hown (hW 13 _ rfl) (hW 14 _ rfl) (hW 15 _ rfl) e0 (g := (mkF m 1 #[.val (.ref a)] [(.ref a)])) rfl (by rw [hml]; rfl) rfl (hb hby d_jdk_30_method_1_1) (by decide) (W := 0) (by show 2 * 0 + _ ≤ _; exact Nat.le_of_eq rfl) (by decide)
  have K3 : Go p e below T2 (mkF m 4 #[.val (.ref a)] []) G := fun tq kq => K1 tq (st2 tq kq)
  obtain ⟨fs, hr, hrun, hended, hWW, hsame⟩ := X2.leave (v := none) (fun _ => rfl)
  refine ⟨_, _, hG _ (K3 _ (X2.returnOut hx Bd.returns (hb hby d_jdk_30_method_1_4) hr)), hrun, hended, _, _, rfl, ?_, ⟨_, rfl⟩, hWW, hsame.mono (by decide) (by decide)⟩
  show QRec Z a h0 n0 _ T2.heap _
  rw [e2]
  exact ⟨rfl, N0, rfl⟩
theorem pn_5 : plainName "com/example/ledgerwright/ledgerwright/bookie/BookieSettings$Compaction" = true := by first | (simp [plainName, overriddenIn]; done) | decide +kernel
theorem ef_prog_29_method_1_RDJ (m : MethodId) (x0 : Addr) (x1 : UInt64) (x2 : Int64) : entryFrame m #[(.ref x0), (.double x1), (.long x2)] 5 = mkF m 0 #[.val (.ref x0), .val (.double x1), .second, .val (.long x2), .second] [] := by first | (simp [entryFrame, mkF, argsToLocals, Value.category]; done) | rfl
theorem pd_7 : parseMethodDescriptor "()V" = some ⟨[], none⟩ := by decide +kernel
theorem d_prog_29_method_1_0 : decode prog_29_method_1_code 0 = .ok (.aload_n 0, 1) := by decide +kernel
theorem d_prog_29_method_1_1 : decode prog_29_method_1_code 1 = .ok (.invokespecial 1, 3) := by decide +kernel
theorem d_prog_29_method_1_4 : decode prog_29_method_1_code 4 = .ok (.dload_n 1, 1) := by decide +kernel
theorem d_prog_29_method_1_5 : decode prog_29_method_1_code 5 = .ok (.dconst 1, 1) := by decide +kernel
theorem d_prog_29_method_1_6 : decode prog_29_method_1_code 6 = .ok (.dcmp .g, 1) := by decide +kernel
theorem d_prog_29_method_1_7 : decode prog_29_method_1_code 7 = .ok (.ifCond .le 17, 3) := by decide +kernel
theorem d_prog_29_method_1_24 : decode prog_29_method_1_code 24 = .ok (.aload_n 0, 1) := by decide +kernel
theorem d_prog_29_method_1_25 : decode prog_29_method_1_code 25 = .ok (.dload_n 1, 1) := by decide +kernel
theorem d_prog_29_method_1_26 : decode prog_29_method_1_code 26 = .ok (.putfield 16, 3) := by decide +kernel
theorem d_prog_29_method_1_29 : decode prog_29_method_1_code 29 = .ok (.aload_n 0, 1) := by decide +kernel
theorem d_prog_29_method_1_30 : decode prog_29_method_1_code 30 = .ok (.lload_n 3, 1) := by decide +kernel
theorem d_prog_29_method_1_31 : decode prog_29_method_1_code 31 = .ok (.putfield 22, 3) := by decide +kernel
theorem d_prog_29_method_1_34 : decode prog_29_method_1_code 34 = .ok (.return_, 1) := by decide +kernel
def QIni (Z : State) (a : Addr) (d : UInt64) (p2 : Int64) (h0 : Heap) (n0 : Nat) (v : Option Value) (h : Heap) (L : List Loc) : Prop := v = none ∧ Fr n0 L ∧ Keep h0 h [a] ∧ Exa Z h a "com/example/ledgerwright/ledgerwright/bookie/BookieSettings$Compaction" ∧ Fld Z h a "com/example/ledgerwright/ledgerwright/bookie/BookieSettings$Compaction" "threshold" "D" (.double d) ∧ Fld Z h a "com/example/ledgerwright/ledgerwright/bookie/BookieSettings$Compaction" "intervalMillis" "J" (.long p2)
set_option maxRecDepth 65536 in
set_option maxHeartbeats 40000000 in
theorem rmIni (l : Launch) (Z : State) (a0 : Array Value) (hw : ∀ d ∈ tables_1, d.before a0 Z = true) (ws : List Jvm.Cond) (a : Addr) (d : UInt64) (p2 : Int64) (h0 : Heap) (n0 : Nat) (Z0 : n0 ≤ h0.size) (F_threshold_a : Fld Z h0 a "com/example/ledgerwright/ledgerwright/bookie/BookieSettings$Compaction" "threshold" "D" (.double (0 : UInt64))) (F_intervalMillis_a : Fld Z h0 a "com/example/ledgerwright/ledgerwright/bookie/BookieSettings$Compaction" "intervalMillis" "J" (.long (0 : Int64))) (E_a : Exa Z h0 a "com/example/ledgerwright/ledgerwright/bookie/BookieSettings$Compaction") (ge_a : n0 ≤ a) (hle : ¬ ((0 : Int32) < (cmpValue (FP.dcmp d FP.dconst1) .g))) :
    MetFree l (⟨"com/example/ledgerwright/ledgerwright/bookie/BookieSettings$Compaction", "<init>", "(DJ)V"⟩ : MethodName) (head1 (Jvm.Cond.code (⟨"com/example/ledgerwright/ledgerwright/bookie/BookieSettings$Compaction", "<init>", "(DJ)V"⟩ : MethodName) prog_29_method_1_code 5 none :: ws) ({ frames := 2, cells := 0, slots := 0, locals := 24 } : Room)) (fun aa UU => aa = #[(.ref a), (.double d), (.long p2)] ∧ Z.Warmed39 UU.vm ∧ UU.heap = h0) (fun _ _ _ _ _ => True) (fun _ UU oo UU' => ∃ vv LL, oo = .returned vv ∧ QIni Z a d p2 h0 n0 vv UU'.heap LL ∧ FrameEnd UU oo UU' LL ({ frames := 2, cells := 0, slots := 0, locals := 24 } : Room).cells ({ frames := 2, cells := 0, slots := 0, locals := 24 } : Room).slots) := by
  refine MetFree.of_bodySF (plainFor_of_name pn_5) hisR ?_
  intro p e s m args below meth c s₁ Bd hml0 hP hK
  obtain ⟨rfl, hZ, hh⟩ := hP
  have hx := Bd.exec
  have hby := Bd.bytes
  have hml : c.maxLocals = 5 := hml0
  have hown : s.vm.findClass "com/example/ledgerwright/ledgerwright/bookie/BookieSettings$Compaction" = some m.cls := findClass_of_methodNamed Bd.named
  have hnm := (name_of_methodNamed Bd.named Bd.method).1
  have hW : ∀ (k : Nat) (d : Jvm.Cond), tables_1[k]? = some d → d.before a0 Z = true := fun k d h => hw d (List.mem_of_getElem? h)
  have X0 : Stand p l e ({ frames := 2, cells := 0, slots := 0, locals := 24 } : Room) s m #[(.ref a), (.double d), (.long p2)] below meth c s₁ [] 0 0 := Stand.of_body Bd
  have e0 : s₁.heap = h0 := by rw [← hh, Bd.state]; rfl
  have N0 := Fr.nil n0
  obtain ⟨G, hG, K0⟩ : ∃ G : State → Prop, (∀ t, G t → Steps p.tables e below (s₁.setTop (entryFrame m #[(.ref a), (.double d), (.long p2)] 5)) t) ∧ Go p e below s₁ (mkF m 0 #[.val (.ref a), .val (.double d), .second, .val (.long p2), .second] []) G := ⟨fun t => Steps p.tables e below (s₁.setTop (entryFrame m #[(.ref a), (.double d), (.long p2)] 5)) t, fun _ h => h, fun t k => castTop (ef_prog_29_method_1_RDJ m a d p2) k⟩
  have K4 : Go p e below s₁ (mkF m 1 #[.val (.ref a), .val (.double d), .second, .val (.long p2), .second] [(.ref a)]) G := fun tq kq => K0 tq (XS.aloadN X0.here hx rfl (hb hby d_prog_29_method_1_0) rfl rfl kq)
  obtain ⟨v5, _, ⟨T5, L5, k5, n5⟩, -, X5, ⟨Lc5, hQ5, l5, y5, z5⟩, st5⟩ := X0.specialBack hx (y := (⟨"java/lang/Record", "<init>", "()V"⟩ : MethodName)) rfl hown (mvT hZ (hW 8 _ rfl)) (mvT hZ (hW 9 _ rfl)) (mvT hZ (hW 12 _ rfl)) (by decide) (backOf (W := 0) (rmRec l Z a0 hw [] a h0 n0 Z0) hZ (hW 12 _ rfl) (hW 11 _ rfl) (by decide) (by decide)) (g := (mkF m 1 #[.val (.ref a), .val (.double d), .second, .val (.long p2), .second] [(.ref a)])) rfl (by rw [hml]; rfl) (Steps.refl _) (a := a) (argsL := []) (rest := []) (lenOf pd_7 rfl) rfl (by show 2 * 0 + _ ≤ _; exact Nat.le_of_eq rfl) (hb hby d_prog_29_method_1_1) (fun _ _ => ⟨rfl, e0, (by decide : 0 + 0 ≤ _), (by decide : 0 + 0 ≤ _)⟩)
  dsimp only [Pt.U, Pt.locs, Pt.cells, Pt.slots] at X5 l5 y5 z5 st5 hQ5
  subst l5 y5 z5
  obtain ⟨rfl, N5q, E5q⟩ := hQ5
  have N5 := Fr.app N0 N5q
  have K6 : Go p e below T5 (mkF m 4 #[.val (.ref a), .val (.double d), .second, .val (.long p2), .second] []) G := fun tq kq => K4 tq (st5.trans kq)
  have K7 : Go p e below T5 (mkF m 5 #[.val (.ref a), .val (.double d), .second, .val (.long p2), .second] [(.double d)]) G := fun tq kq => K6 tq (XS.dloadN X5.here hx rfl (hb hby d_prog_29_method_1_4) rfl kq)
  have K8 : Go p e below T5 (mkF m 6 #[.val (.ref a), .val (.double d), .second, .val (.long p2), .second] [(.double FP.dconst1), (.double d)]) G := fun tq kq => K7 tq (XS.dconst1 X5.here hx rfl (hb hby d_prog_29_method_1_5) rfl kq)
  have K9 : Go p e below T5 (mkF m 7 #[.val (.ref a), .val (.double d), .second, .val (.long p2), .second] [(.int (cmpValue (FP.dcmp d FP.dconst1) .g))]) G := fun tq kq => K8 tq (XS.dcmpS X5.here hx rfl (hb hby d_prog_29_method_1_6) rfl rfl kq)
  have K10 : Go p e below T5 (mkF m 24 #[.val (.ref a), .val (.double d), .second, .val (.long p2), .second] []) G := fun tq kq => K9 tq (XS.ifYes X5.here hx rfl (pc0 := 7) (pc' := 24) rfl (hb hby d_prog_29_method_1_7) rfl ((if0 _ _).trans (flt hle).2.2.2) (by decide) (by decide) kq)
  have K11 : Go p e below T5 (mkF m 25 #[.val (.ref a), .val (.double d), .second, .val (.long p2), .second] [(.ref a)]) G := fun tq kq => K10 tq (XS.aloadN X5.here hx rfl (hb hby d_prog_29_method_1_24) rfl rfl kq)
  have K12 : Go p e below T5 (mkF m 26 #[.val (.ref a), .val (.double d), .second, .val (.long p2), .second] [(.double d), (.ref a)]) G := fun tq kq => K11 tq (XS.dloadN X5.here hx rfl (hb hby d_prog_29_method_1_25) rfl kq)
  obtain ⟨T13, h13, X13, e13, W13, st13⟩ := putF X5 hx hZ hown (host := "") (Or.inl (hW 16 _ rfl)) Via.refl E5q F_threshold_a E_a (Or.inr ⟨(hW 17 _ rfl), rfl, hnm⟩) (hW 3 _ rfl) (ty := .double) (by decide) rfl rfl (g := (mkF m 26 #[.val (.ref a), .val (.double d), .second, .val (.long p2), .second] [(.double d), (.ref a)])) rfl rfl (hb hby d_prog_29_method_1_26)
  have N13 := Fr.snoc X13 N5 ge_a
  have F13 := Fld.same W13 F_threshold_a
  have K14 : Go p e below T13 (mkF m 29 #[.val (.ref a), .val (.double d), .second, .val (.long p2), .second] []) G := fun tq kq => K12 tq (st13 tq kq)
  have K15 : Go p e below T13 (mkF m 30 #[.val (.ref a), .val (.double d), .second, .val (.long p2), .second] [(.ref a)]) G := fun tq kq => K14 tq (XS.aloadN X13.here hx rfl (hb hby d_prog_29_method_1_29) rfl rfl kq)
  have K16 : Go p e below T13 (mkF m 31 #[.val (.ref a), .val (.double d), .second, .val (.long p2), .second] [(.long p2), (.ref a)]) G := fun tq kq => K15 tq (XS.lloadN X13.here hx rfl (hb hby d_prog_29_method_1_30) rfl kq)
  obtain ⟨T17, h17, X17, e17, W17, st17⟩ := putF X13 hx hZ hown (host := "") (Or.inl (hW 18 _ rfl)) Via.refl e13 (F_intervalMillis_a.other W13 (Or.inr (slot_ne (Or.inr (hW 19 _ rfl)) (Or.inr (hW 17 _ rfl)) (by decide) (t := .long) (t' := .double) (by decide) (by decide)))) (E_a.wr W13) (Or.inr ⟨(hW 19 _ rfl), rfl, hnm⟩) (hW 3 _ rfl) (ty := .long) (by decide) rfl rfl (g := (mkF m 31 #[.val (.ref a), .val (.double d), .second, .val (.long p2), .second] [(.long p2), (.ref a)])) rfl rfl (hb hby d_prog_29_method_1_31)
  have N17 := Fr.snoc X17 N13 ge_a
  have F17 := Fld.same W17 (F_intervalMillis_a.other W13 (Or.inr (slot_ne (Or.inr (hW 19 _ rfl)) (Or.inr (hW 17 _ rfl)) (by decide) (t := .long) (t' := .double) (by decide) (by decide))))
  have K18 : Go p e below T17 (mkF m 34 #[.val (.ref a), .val (.double d), .second, .val (.long p2), .second] []) G := fun tq kq => K16 tq (st17 tq kq)
  obtain ⟨fs, hr, hrun, hended, hWW, hsame⟩ := X17.leave (v := none) (fun _ => rfl)
  refine ⟨_, _, hG _ (K18 _ (X17.returnOut hx Bd.returns (hb hby d_prog_29_method_1_34) hr)), hrun, hended, _, _, rfl, ?_, ⟨_, rfl⟩, hWW, hsame.mono (by decide) (by decide)⟩
  show QIni Z a d p2 h0 n0 _ T17.heap _
  rw [e17]
  exact ⟨rfl, N17, (((Keep.refl h0 [a]).wr W13 (Or.inl (List.mem_of_getElem? (i := 0) rfl))).wr W17 (Or.inl (List.mem_of_getElem? (i := 0) rfl))), ((E_a.wr W13).wr W17), (F13.other W17 (Or.inr (slot_ne (Or.inr (hW 17 _ rfl)) (Or.inr (hW 19 _ rfl)) (by decide) (t := .double) (t' := .long) (by decide) (by decide)))), F17⟩
theorem ef_prog_29_method_2_R (m : MethodId) (x0 : Addr) : entryFrame m #[(.ref x0)] 1 = mkF m 0 #[.val (.ref x0)] [] := by first | (simp [entryFrame, mkF, argsToLocals, Value.category]; done) | rfl
theorem d_prog_29_method_2_0 : decode prog_29_method_2_code 0 = .ok (.aload_n 0, 1) := by decide +kernel
theorem d_prog_29_method_2_1 : decode prog_29_method_2_code 1 = .ok (.getfield 16, 3) := by decide +kernel
theorem d_prog_29_method_2_4 : decode prog_29_method_2_code 4 = .ok (.dconst 0, 1) := by decide +kernel
theorem d_prog_29_method_2_5 : decode prog_29_method_2_code 5 = .ok (.dcmp .l, 1) := by decide +kernel
theorem d_prog_29_method_2_6 : decode prog_29_method_2_code 6 = .ok (.ifCond .le 16, 3) := by decide +kernel
theorem d_prog_29_method_2_9 : decode prog_29_method_2_code 9 = .ok (.aload_n 0, 1) := by decide +kernel
theorem d_prog_29_method_2_10 : decode prog_29_method_2_code 10 = .ok (.getfield 22, 3) := by decide +kernel
theorem d_prog_29_method_2_13 : decode prog_29_method_2_code 13 = .ok (.lconst 0, 1) := by decide +kernel
theorem d_prog_29_method_2_14 : decode prog_29_method_2_code 14 = .ok (.lcmp, 1) := by decide +kernel
theorem d_prog_29_method_2_15 : decode prog_29_method_2_code 15 = .ok (.ifCond .le 7, 3) := by decide +kernel
theorem d_prog_29_method_2_18 : decode prog_29_method_2_code 18 = .ok (.iconst 1, 1) := by decide +kernel
theorem d_prog_29_method_2_19 : decode prog_29_method_2_code 19 = .ok (.goto 4, 3) := by decide +kernel
theorem d_prog_29_method_2_22 : decode prog_29_method_2_code 22 = .ok (.iconst 0, 1) := by decide +kernel
theorem d_prog_29_method_2_23 : decode prog_29_method_2_code 23 = .ok (.ireturn, 1) := by decide +kernel
def QEna (Z : State) (a : Addr) (d : UInt64) (n : Int64) (h0 : Heap) (n0 : Nat) (v : Option Value) (h : Heap) (L : List Loc) : Prop := v = some (.int (if (0 : Int32) < (cmpValue (FP.dcmp d FP.dconst0) .l) ∧ (0 : Int64) < n then (1 : Int32) else 0)) ∧ Fr n0 L ∧ h = h0
set_option maxRecDepth 65536 in
set_option maxHeartbeats 40000000 in
theorem rmEna (l : Launch) (Z : State) (a0 : Array Value) (hw : ∀ d ∈ tables_1, d.before a0 Z = true) (ws : List Jvm.Cond) (a : Addr) (d : UInt64) (n : Int64) (h0 : Heap) (n0 : Nat) (Z0 : n0 ≤ h0.size) (F_threshold_a : Fld Z h0 a "com/example/ledgerwright/ledgerwright/bookie/BookieSettings$Compaction" "threshold" "D" (.double d)) (F_intervalMillis_a : Fld Z h0 a "com/example/ledgerwright/ledgerwright/bookie/BookieSettings$Compaction" "intervalMillis" "J" (.long n)) :
    MetFree l (⟨"com/example/ledgerwright/ledgerwright/bookie/BookieSettings$Compaction", "enabled", "()Z"⟩ : MethodName) (head1 (Jvm.Cond.code (⟨"com/example/ledgerwright/ledgerwright/bookie/BookieSettings$Compaction", "enabled", "()Z"⟩ : MethodName) prog_29_method_2_code 1 (some .boolean) :: ws) ({ frames := 0, cells := 0, slots := 0, locals := 0 } : Room)) (fun aa UU => aa = #[(.ref a)] ∧ Z.Warmed39 UU.vm ∧ UU.heap = h0) (fun _ _ _ _ _ => True) (fun _ UU oo UU' => ∃ vv LL, oo = .returned vv ∧ QEna Z a d n h0 n0 vv UU'.heap LL ∧ FrameEnd UU oo UU' LL ({ frames := 0, cells := 0, slots := 0, locals := 0 } : Room).cells ({ frames := 0, cells := 0, slots := 0, locals := 0 } : Room).slots) := by
  refine MetFree.of_bodySF (plainFor_of_name pn_5) hisR ?_
  intro p e s m args below meth c s₁ Bd hml0 hP hK
  obtain ⟨rfl, hZ, hh⟩ := hP
  have hx := Bd.exec
  have hby := Bd.bytes
  have hml : c.maxLocals = 1 := hml0
  have hown : s.vm.findClass "com/example/ledgerwright/ledgerwright/bookie/BookieSettings$Compaction" = some m.cls := findClass_of_methodNamed Bd.named
  have hnm := (name_of_methodNamed Bd.named Bd.method).1
  have hW : ∀ (k : Nat) (d : Jvm.Cond), tables_1[k]? = some d → d.before a0 Z = true := fun k d h => hw d (List.mem_of_getElem? h)
  have X0 : Stand p l e ({ frames := 0, cells := 0, slots := 0, locals := 0 } : Room) s m #[(.ref a)] below meth c s₁ [] 0 0 := Stand.of_body Bd
  have e0 : s₁.heap = h0 := by rw [← hh, Bd.state]; rfl
  have N0 := Fr.nil n0
  obtain ⟨G, hG, K0⟩ : ∃ G : State → Prop, (∀ t, G t → Steps p.tables e below (s₁.setTop (entryFrame m #[(.ref a)] 1)) t) ∧ Go p e below s₁ (mkF m 0 #[.val (.ref a)] []) G := ⟨fun t => Steps p.tables e below (s₁.setTop (entryFrame m #[(.ref a)] 1)) t, fun _ h => h, fun t k => castTop (ef_prog_29_method_2_R m a) k⟩
  have K19 : Go p e below s₁ (mkF m 1 #[.val (.ref a)] [(.ref a)]) G := fun tq kq => K0 tq (XS.aloadN X0.here hx rfl (hb hby d_prog_29_method_2_0) rfl rfl kq)
  obtain ⟨T20, X20, e20, st20⟩ := getF X0 hx hZ hown (host := "") (Or.inl (hW 16 _ rfl)) Via.refl e0 F_threshold_a (g := (mkF m 1 #[.val (.ref a)] [(.ref a)])) rfl rfl (hb hby d_prog_29_method_2_1)
  have K21 : Go p e below T20 (mkF m 4 #[.val (.ref a)] [(.double d)]) G := fun tq kq => K19 tq (st20 tq kq)
  have K22 : Go p e below T20 (mkF m 5 #[.val (.ref a)] [(.double FP.dconst0), (.double d)]) G := fun tq kq => K21 tq (XS.dconst0 X20.here hx rfl (hb hby d_prog_29_method_2_4) rfl kq)
  have K23 : Go p e below T20 (mkF m 6 #[.val (.ref a)] [(.int (cmpValue (FP.dcmp d FP.dconst0) .l))]) G := fun tq kq => K22 tq (XS.dcmpS X20.here hx rfl (hb hby d_prog_29_method_2_5) rfl rfl kq)
  by_cases hc24 : (0 : Int32) < (cmpValue (FP.dcmp d FP.dconst0) .l)
  · skip
    have K25 : Go p e below T20 (mkF m 9 #[.val (.ref a)] []) G := fun tq kq => K23 tq (XS.ifNo X20.here hx rfl (hb hby d_prog_29_method_2_6) rfl ((if0 _ _).trans (tlt hc24).2.2.2) kq)
    have K26 : Go p e below T20 (mkF m 10 #[.val (.ref a)] [(.ref a)]) G := fun tq kq => K25 tq (XS.aloadN X20.here hx rfl (hb hby d_prog_29_method_2_9) rfl rfl kq)
    obtain ⟨T27, X27, e27, st27⟩ := getF X20 hx hZ hown (host := "") (Or.inl (hW 18 _ rfl)) Via.refl e20 F_intervalMillis_a (g := (mkF m 10 #[.val (.ref a)] [(.ref a)])) rfl rfl (hb hby d_prog_29_method_2_10)
    have K28 : Go p e below T27 (mkF m 13 #[.val (.ref a)] [(.long n)]) G := fun tq kq => K26 tq (st27 tq kq)
    have K29 : Go p e below T27 (mkF m 14 #[.val (.ref a)] [(.long (0 : Int64)), (.long n)]) G := fun tq kq => K28 tq (XS.lconst X27.here hx rfl (hb hby d_prog_29_method_2_13) kq)
    have K30 : Go p e below T27 (mkF m 15 #[.val (.ref a)] [(.int (lcmpW n (0 : Int64)))]) G := fun tq kq => K29 tq (XS.lcmp X27.here hx rfl (hb hby d_prog_29_method_2_14) rfl kq)
    by_cases hc31 : (0 : Int64) < n
    · skip
      have K32 : Go p e below T27 (mkF m 18 #[.val (.ref a)] []) G := fun tq kq => K30 tq (XS.ifNo X27.here hx rfl (hb hby d_prog_29_method_2_15) rfl ((if0 _ _).trans (tlt ((lw_gt _ _).mpr hc31)).2.2.2) kq)
      have K33 : Go p e below T27 (mkF m 19 #[.val (.ref a)] [(.int (1 : Int32))]) G := fun tq kq => K32 tq (XS.iconst X27.here hx rfl (hb hby d_prog_29_method_2_18) kq)
      have K34 : Go p e below T27 (mkF m 23 #[.val (.ref a)] [(.int (1 : Int32))]) G := fun tq kq => K33 tq (XS.goto X27.here hx rfl (pc0 := 19) (pc' := 23) rfl (hb hby d_prog_29_method_2_19) (by decide) (by decide) kq)
      obtain ⟨fs, hr, hrun, hended, hWW, hsame⟩ := X27.leave (v := some (.int (1 : Int32))) (fun h => by rw [Bd.returns] at h; cases h)
      refine ⟨_, _, hG _ (K34 _ (retN X27 hx (t := .boolean) Bd.returns (by simp) (hb hby d_prog_29_method_2_23) hr)), hrun, hended, _, _, rfl, ?_, ⟨_, rfl⟩, hWW, hsame.mono (by decide) (by decide)⟩
      show QEna Z a d n h0 n0 _ T27.heap _
      rw [e27]
      exact ⟨by simp only [hc24, hc31, true_and, false_and, and_true, and_false, if_true, if_false], N0, rfl⟩
    · skip
      have K35 : Go p e below T27 (mkF m 22 #[.val (.ref a)] []) G := fun tq kq => K30 tq (XS.ifYes X27.here hx rfl (pc0 := 15) (pc' := 22) rfl (hb hby d_prog_29_method_2_15) rfl ((if0 _ _).trans (flt (fun z => hc31 ((lw_gt _ _).mp z))).2.2.2) (by decide) (by decide) kq)
      have K36 : Go p e below T27 (mkF m 23 #[.val (.ref a)] [(.int (0 : Int32))]) G := fun tq kq => K35 tq (XS.iconst X27.here hx rfl (hb hby d_prog_29_method_2_22) kq)
      obtain ⟨fs, hr, hrun, hended, hWW, hsame⟩ := X27.leave (v := some (.int (0 : Int32))) (fun h => by rw [Bd.returns] at h; cases h)
      refine ⟨_, _, hG _ (K36 _ (retN X27 hx (t := .boolean) Bd.returns (by simp) (hb hby d_prog_29_method_2_23) hr)), hrun, hended, _, _, rfl, ?_, ⟨_, rfl⟩, hWW, hsame.mono (by decide) (by decide)⟩
      show QEna Z a d n h0 n0 _ T27.heap _
      rw [e27]
      exact ⟨by simp only [hc24, hc31, true_and, false_and, and_true, and_false, if_true, if_false], N0, rfl⟩
  · skip
    have K37 : Go p e below T20 (mkF m 22 #[.val (.ref a)] []) G := fun tq kq => K23 tq (XS.ifYes X20.here hx rfl (pc0 := 6) (pc' := 22) rfl (hb hby d_prog_29_method_2_6) rfl ((if0 _ _).trans (flt hc24).2.2.2) (by decide) (by decide) kq)
    have K38 : Go p e below T20 (mkF m 23 #[.val (.ref a)] [(.int (0 : Int32))]) G := fun tq kq => K37 tq (XS.iconst X20.here hx rfl (hb hby d_prog_29_method_2_22) kq)
    obtain ⟨fs, hr, hrun, hended, hWW, hsame⟩ := X20.leave (v := some (.int (0 : Int32))) (fun h => by rw [Bd.returns] at h; cases h)
    refine ⟨_, _, hG _ (K38 _ (retN X20 hx (t := .boolean) Bd.returns (by simp) (hb hby d_prog_29_method_2_23) hr)), hrun, hended, _, _, rfl, ?_, ⟨_, rfl⟩, hWW, hsame.mono (by decide) (by decide)⟩
    show QEna Z a d n h0 n0 _ T20.heap _
    rw [e20]
    exact ⟨by simp only [hc24, true_and, false_and, and_true, and_false, if_true, if_false], N0, rfl⟩
theorem own_I16 : (16 : Int32).toInt = 16 := by decide
theorem own_I25 : (25 : Int32).toInt = 25 := by decide
theorem own_I2147483647 : (2147483647 : Int32).toInt = 2147483647 := by decide
theorem own_k (a : Int32) : -16 ≤ ((a &&& (2147483647 : Int32)) % (25 : Int32) - (16 : Int32)).toInt ∧ ((a &&& (2147483647 : Int32)) % (25 : Int32) - (16 : Int32)).toInt ≤ 8 := by
  have h1 := c_and a (2147483647 : Int32) (by decide)
  have h2 := c_irem (a &&& (2147483647 : Int32)) (25 : Int32) 25 own_I25
  have h3 := c_isub ((a &&& (2147483647 : Int32)) % (25 : Int32)) (16 : Int32)
  rw [own_I16] at h3
  have r := rng32 ((a &&& (2147483647 : Int32)) % (25 : Int32) - (16 : Int32))
  omega
def own_thr (k : Int32) : UInt64 := FP.ddiv (FP.i2d k) (4620693217682128896 : UInt64)
def own_ok (k : Int32) : Bool := decide (own_thr k &&& 0x7fffffffffffffff ≤ 0x7ff0000000000000) && decide (¬ ((0 : Int32) < (cmpValue (FP.dcmp (own_thr k) FP.dconst1) .g))) && decide (decide ((0 : Int32) < (cmpValue (FP.dcmp (own_thr k) FP.dconst0) .l)) = decide ((0 : Int32) < k))
set_option maxRecDepth 65536 in
theorem own_all : ∀ i : Fin 25, own_ok (Int32.ofInt ((i.val : Int) - 16)) = true := by decide +kernel
theorem own_each (k : Int32) (h1 : -16 ≤ k.toInt) (h2 : k.toInt ≤ 8) : own_ok k = true := by
  have h := own_all ⟨(k.toInt + 16).toNat, by omega⟩
  have e : (((k.toInt + 16).toNat : Nat) : Int) - 16 = k.toInt := by omega
  simp only [e, Int32.ofInt_toInt] at h
  exact h
theorem own_three (k : Int32) (h1 : -16 ≤ k.toInt) (h2 : k.toInt ≤ 8) : Jvm.Free.Fl.NoNaN64 (FP.ddiv (FP.i2d k) (4620693217682128896 : UInt64)) ∧ ¬ ((0 : Int32) < (cmpValue (FP.dcmp (FP.ddiv (FP.i2d k) (4620693217682128896 : UInt64)) FP.dconst1) .g)) ∧ ((0 : Int32) < (cmpValue (FP.dcmp (FP.ddiv (FP.i2d k) (4620693217682128896 : UInt64)) FP.dconst0) .l) ↔ (0 : Int32) < k) := by
  have h := own_each k h1 h2
  simp only [own_ok, Bool.and_eq_true, decide_eq_true_eq, decide_eq_decide] at h
  exact ⟨h.1.1, h.1.2, h.2⟩
theorem pn_39 : plainName "com/example/ledgerwright/ledgerwright/bookie/CompactionEnabledPinLaw" = true := by first | (simp [plainName, overriddenIn]; done) | decide +kernel
theorem ef_code_IJ (m : MethodId) (x0 : Int32) (x1 : Int64) : entryFrame m #[(.int x0), (.long x1)] maxLocals = mkF m 0 #[.val (.int x0), .val (.long x1), .second, .unset, .unset, .unset, .unset, .unset] [] := by first | (simp [entryFrame, mkF, argsToLocals, Value.category, maxLocals]; done) | rfl
theorem pd_41 : parseMethodDescriptor "(DJ)V" = some ⟨[.double, .long], none⟩ := by decide +kernel
theorem pd_42 : parseMethodDescriptor "()Z" = some ⟨[], some .boolean⟩ := by decide +kernel
def Q0 (Z : State) (q0 : Int32) (q1 : Int64) (h0 : Heap) (n0 : Nat) (v : Option Value) (h : Heap) (L : List Loc) : Prop := v = some (.int 1) ∧ Fr n0 L
set_option maxRecDepth 65536 in
set_option maxHeartbeats 40000000 in
theorem rm0 (l : Launch) (Z : State) (a0 : Array Value) (hw : ∀ d ∈ tables_1, d.before a0 Z = true) (ws : List Jvm.Cond) (q0 : Int32) (q1 : Int64) (h0 : Heap) (n0 : Nat) (Z0 : n0 ≤ h0.size) :
    MetFree l x (head1 (Jvm.Cond.code x code maxLocals ret :: ws) room_1) (fun aa UU => aa = #[(.int q0), (.long q1)] ∧ Z.Warmed39 UU.vm ∧ UU.heap = h0) (fun _ _ _ _ _ => True) (fun _ UU oo UU' => ∃ vv LL, oo = .returned vv ∧ Q0 Z q0 q1 h0 n0 vv UU'.heap LL ∧ FrameEnd UU oo UU' LL 16 128) := by
  refine MetFree.of_bodySF (plainFor_of_name pn_39) hisR ?_
  intro p e s m args below meth c s₁ Bd hml0 hP hK
  obtain ⟨rfl, hZ, hh⟩ := hP
  have hx := Bd.exec
  have hby := Bd.bytes
  have hml : c.maxLocals = 8 := hml0
  have hown : s.vm.findClass "com/example/ledgerwright/ledgerwright/bookie/CompactionEnabledPinLaw" = some m.cls := findClass_of_methodNamed Bd.named
  have hnm := (name_of_methodNamed Bd.named Bd.method).1
  have hW : ∀ (k : Nat) (d : Jvm.Cond), tables_1[k]? = some d → d.before a0 Z = true := fun k d h => hw d (List.mem_of_getElem? h)
  have X0 : Stand p l e room_1 s m #[(.int q0), (.long q1)] below meth c s₁ [] 0 0 := Stand.of_body Bd
  have e0 : s₁.heap = h0 := by rw [← hh, Bd.state]; rfl
  have N0 := Fr.nil n0
  obtain ⟨G, hG, K0⟩ : ∃ G : State → Prop, (∀ t, G t → Steps p.tables e below (s₁.setTop (entryFrame m #[(.int q0), (.long q1)] maxLocals)) t) ∧ Go p e below s₁ (mkF m 0 #[.val (.int q0), .val (.long q1), .second, .unset, .unset, .unset, .unset, .unset] []) G := ⟨fun t => Steps p.tables e below (s₁.setTop (entryFrame m #[(.int q0), (.long q1)] maxLocals)) t, fun _ h => h, fun t k => castTop (ef_code_IJ m q0 q1) k⟩
  have K39 : Go p e below s₁ (mkF m 1 #[.val (.int q0), .val (.long q1), .second, .unset, .unset, .unset, .unset, .unset] [(.int q0)]) G := fun tq kq => K0 tq (XS.iloadN X0.here hx rfl (hb hby at_0) rfl kq)
  have K40 : Go p e below s₁ (mkF m 3 #[.val (.int q0), .val (.long q1), .second, .unset, .unset, .unset, .unset, .unset] [(.int (2147483647 : Int32)), (.int q0)]) G := fun tq kq => K39 tq (X0.ldcInt hx hown (mvT hZ (hW 0 _ rfl)) (g := (mkF m 1 #[.val (.int q0), .val (.long q1), .second, .unset, .unset, .unset, .unset, .unset] [(.int q0)])) rfl (hb hby at_1) _ kq)
  have K41 : Go p e below s₁ (mkF m 4 #[.val (.int q0), .val (.long q1), .second, .unset, .unset, .unset, .unset, .unset] [(.int (q0 &&& (2147483647 : Int32)))]) G := fun tq kq => K40 tq (XS.iand X0.here hx rfl (hb hby at_3) rfl kq)
  have K42 : Go p e below s₁ (mkF m 6 #[.val (.int q0), .val (.long q1), .second, .unset, .unset, .unset, .unset, .unset] [(.int (25 : Int32)), (.int (q0 &&& (2147483647 : Int32)))]) G := fun tq kq => K41 tq (XS.bipush X0.here hx rfl (hb hby at_4) kq)
  have K43 : Go p e below s₁ (mkF m 7 #[.val (.int q0), .val (.long q1), .second, .unset, .unset, .unset, .unset, .unset] [(.int ((q0 &&& (2147483647 : Int32)) % (25 : Int32)))]) G := fun tq kq => K42 tq (iremM X0 hx rfl (hb hby at_6) rfl (by decide) kq)
  have K44 : Go p e below s₁ (mkF m 9 #[.val (.int q0), .val (.long q1), .second, .unset, .unset, .unset, .unset, .unset] [(.int (16 : Int32)), (.int ((q0 &&& (2147483647 : Int32)) % (25 : Int32)))]) G := fun tq kq => K43 tq (XS.bipush X0.here hx rfl (hb hby at_7) kq)
  have K45 : Go p e below s₁ (mkF m 10 #[.val (.int q0), .val (.long q1), .second, .unset, .unset, .unset, .unset, .unset] [(.int (((q0 &&& (2147483647 : Int32)) % (25 : Int32)) - (16 : Int32)))]) G := fun tq kq => K44 tq (XS.isub X0.here hx rfl (hb hby at_9) rfl kq)
  have K46 : Go p e below s₁ (mkF m 11 #[.val (.int q0), .val (.long q1), .second, .val (.int (((q0 &&& (2147483647 : Int32)) % (25 : Int32)) - (16 : Int32))), .unset, .unset, .unset, .unset] []) G := fun tq kq => K45 tq (XS.istoreN X0.here hx rfl (hb hby at_10) rfl (l' := #[.val (.int q0), .val (.long q1), .second, .val (.int (((q0 &&& (2147483647 : Int32)) % (25 : Int32)) - (16 : Int32))), .unset, .unset, .unset, .unset]) rfl kq)
  obtain ⟨k, h_k⟩ : ∃ z, z = (((q0 &&& (2147483647 : Int32)) % (25 : Int32)) - (16 : Int32)) := ⟨_, rfl⟩
  have K47 : Go p e below s₁ (mkF m 11 #[.val (.int q0), .val (.long q1), .second, .val (.int k), .unset, .unset, .unset, .unset] []) G := by rw [h_k]; exact K46
  have k1 : -16 ≤ k.toInt ∧ k.toInt ≤ 8 := by rw [h_k]; exact own_k q0
  have hk := own_three k k1.1 k1.2
  have K48 : Go p e below s₁ (mkF m 12 #[.val (.int q0), .val (.long q1), .second, .val (.int k), .unset, .unset, .unset, .unset] [(.int k)]) G := fun tq kq => K47 tq (XS.iloadN X0.here hx rfl (hb hby at_11) rfl kq)
  have K49 : Go p e below s₁ (mkF m 13 #[.val (.int q0), .val (.long q1), .second, .val (.int k), .unset, .unset, .unset, .unset] [(.double (FP.i2d k))]) G := fun tq kq => K48 tq (XS.i2dS X0.here hx rfl (hb hby at_12) rfl rfl kq)
  have K50 : Go p e below s₁ (mkF m 16 #[.val (.int q0), .val (.long q1), .second, .val (.int k), .unset, .unset, .unset, .unset] [(.double (4620693217682128896 : UInt64)), (.double (FP.i2d k))]) G := fun tq kq => K49 tq (X0.ldc2DoubleC hx hown (mvT hZ (hW 1 _ rfl)) (g := (mkF m 13 #[.val (.int q0), .val (.long q1), .second, .val (.int k), .unset, .unset, .unset, .unset] [(.double (FP.i2d k))])) rfl (hb hby at_13) _ kq)
  have K51 : Go p e below s₁ (mkF m 17 #[.val (.int q0), .val (.long q1), .second, .val (.int k), .unset, .unset, .unset, .unset] [(.double (FP.ddiv (FP.i2d k) (4620693217682128896 : UInt64)))]) G := fun tq kq => K50 tq (XS.ddivS X0.here hx rfl (hb hby at_16) rfl hk.1 rfl kq)
  have K52 : Go p e below s₁ (mkF m 19 #[.val (.int q0), .val (.long q1), .second, .val (.int k), .val (.double (FP.ddiv (FP.i2d k) (4620693217682128896 : UInt64))), .second, .unset, .unset] []) G := fun tq kq => K51 tq (XS.dstore X0.here hx rfl (hb hby at_17) rfl (l' := #[.val (.int q0), .val (.long q1), .second, .val (.int k), .val (.double (FP.ddiv (FP.i2d k) (4620693217682128896 : UInt64))), .second, .unset, .unset]) rfl kq)
  obtain ⟨T53, h53, X53, e53, E53, A53, D53, -, st53⟩ := newO X0 hx hZ hown (hW 2 _ rfl) (hW 3 _ rfl) (hW 4 _ rfl) e0 (g := (mkF m 19 #[.val (.int q0), .val (.long q1), .second, .val (.int k), .val (.double (FP.ddiv (FP.i2d k) (4620693217682128896 : UInt64))), .second, .unset, .unset] [])) rfl (hb hby at_19) (by decide) (by decide)
  obtain ⟨b53, g53⟩ : ∃ z, z = h0.size := ⟨_, rfl⟩
  rw [← g53] at A53 D53 st53
  have ge_b53 : n0 ≤ b53 := Nat.le_trans Z0 (Nat.le_of_eq g53.symm)
  have sz_b53 : h0.size ≤ b53 := Nat.le_trans ((Keep.refl h0 [])).1 (Nat.le_of_eq g53.symm)
  have F53_threshold : Fld Z h53 b53 "com/example/ledgerwright/ledgerwright/bookie/BookieSettings$Compaction" "threshold" "D" (.double (0 : UInt64)) := D53 (Or.inr (hW 17 _ rfl)) (ty := .double) (by decide)
  have F53_intervalMillis : Fld Z h53 b53 "com/example/ledgerwright/ledgerwright/bookie/BookieSettings$Compaction" "intervalMillis" "J" (.long (0 : Int64)) := D53 (Or.inr (hW 19 _ rfl)) (ty := .long) (by decide)
  have K54 : Go p e below T53 (mkF m 22 #[.val (.int q0), .val (.long q1), .second, .val (.int k), .val (.double (FP.ddiv (FP.i2d k) (4620693217682128896 : UInt64))), .second, .unset, .unset] [(.ref b53)]) G := fun tq kq => K52 tq (st53 tq kq)
  have K55 : Go p e below T53 (mkF m 23 #[.val (.int q0), .val (.long q1), .second, .val (.int k), .val (.double (FP.ddiv (FP.i2d k) (4620693217682128896 : UInt64))), .second, .unset, .unset] [(.ref b53), (.ref b53)]) G := fun tq kq => K54 tq (XS.dup X53.here hx rfl (hb hby at_22) rfl rfl kq)
  have K56 : Go p e below T53 (mkF m 25 #[.val (.int q0), .val (.long q1), .second, .val (.int k), .val (.double (FP.ddiv (FP.i2d k) (4620693217682128896 : UInt64))), .second, .unset, .unset] [(.double (FP.ddiv (FP.i2d k) (4620693217682128896 : UInt64))), (.ref b53), (.ref b53)]) G := fun tq kq => K55 tq (XS.dload X53.here hx rfl (hb hby at_23) rfl kq)
  have K57 : Go p e below T53 (mkF m 26 #[.val (.int q0), .val (.long q1), .second, .val (.int k), .val (.double (FP.ddiv (FP.i2d k) (4620693217682128896 : UInt64))), .second, .unset, .unset] [(.long q1), (.double (FP.ddiv (FP.i2d k) (4620693217682128896 : UInt64))), (.ref b53), (.ref b53)]) G := fun tq kq => K56 tq (XS.lloadN X53.here hx rfl (hb hby at_25) rfl kq)
  obtain ⟨v58, _, ⟨T58, L58, k58, n58⟩, -, X58, ⟨Lc58, hQ58, l58, y58, z58⟩, st58⟩ := X53.specialBack hx (y := (⟨"com/example/ledgerwright/ledgerwright/bookie/BookieSettings$Compaction", "<init>", "(DJ)V"⟩ : MethodName)) rfl hown (mvT hZ (hW 5 _ rfl)) (mvT hZ (hW 6 _ rfl)) (mvT hZ (hW 7 _ rfl)) (by decide) (backOf (W := 1) (rmIni l Z a0 hw [] b53 (FP.ddiv (FP.i2d k) (4620693217682128896 : UInt64)) q1 h53 n0 (Nat.le_trans Z0 E53.1) F53_threshold F53_intervalMillis A53 ge_b53 hk.2.1) hZ (hW 7 _ rfl) (hW 4 _ rfl) (by decide) (by decide)) (g := (mkF m 26 #[.val (.int q0), .val (.long q1), .second, .val (.int k), .val (.double (FP.ddiv (FP.i2d k) (4620693217682128896 : UInt64))), .second, .unset, .unset] [(.long q1), (.double (FP.ddiv (FP.i2d k) (4620693217682128896 : UInt64))), (.ref b53), (.ref b53)])) rfl (by rw [hml]; rfl) (Steps.refl _) (a := b53) (argsL := [(.double (FP.ddiv (FP.i2d k) (4620693217682128896 : UInt64))), (.long q1)]) (rest := [(.ref b53)]) (lenOf pd_41 rfl) rfl (by show 2 * 0 + _ ≤ _; exact Nat.le_of_eq rfl) (hb hby at_26) (fun _ _ => ⟨rfl, e53, (by decide : 1 + 0 ≤ _), (by decide : 2 + 0 ≤ _)⟩)
  dsimp only [Pt.U, Pt.locs, Pt.cells, Pt.slots] at X58 l58 y58 z58 st58 hQ58
  subst l58 y58 z58
  obtain ⟨rfl, N58q, K58q, E58q, F58q_threshold, F58q_intervalMillis⟩ := hQ58
  have N58 := Fr.app N0 N58q
  have K59 : Go p e below T58 (mkF m 29 #[.val (.int q0), .val (.long q1), .second, .val (.int k), .val (.double (FP.ddiv (FP.i2d k) (4620693217682128896 : UInt64))), .second, .unset, .unset] [(.ref b53)]) G := fun tq kq => K57 tq (st58.trans kq)
  have K60 : Go p e below T58 (mkF m 31 #[.val (.int q0), .val (.long q1), .second, .val (.int k), .val (.double (FP.ddiv (FP.i2d k) (4620693217682128896 : UInt64))), .second, .val (.ref b53), .unset] []) G := fun tq kq => K59 tq (XS.astore X58.here hx rfl (hb hby at_29) rfl rfl (l' := #[.val (.int q0), .val (.long q1), .second, .val (.int k), .val (.double (FP.ddiv (FP.i2d k) (4620693217682128896 : UInt64))), .second, .val (.ref b53), .unset]) rfl kq)
  have K61 : Go p e below T58 (mkF m 32 #[.val (.int q0), .val (.long q1), .second, .val (.int k), .val (.double (FP.ddiv (FP.i2d k) (4620693217682128896 : UInt64))), .second, .val (.ref b53), .unset] [(.int k)]) G := fun tq kq => K60 tq (XS.iloadN X58.here hx rfl (hb hby at_31) rfl kq)
  by_cases hc62 : (0 : Int32) < k
  · skip
    have K63 : Go p e below T58 (mkF m 35 #[.val (.int q0), .val (.long q1), .second, .val (.int k), .val (.double (FP.ddiv (FP.i2d k) (4620693217682128896 : UInt64))), .second, .val (.ref b53), .unset] []) G := fun tq kq => K61 tq (XS.ifNo X58.here hx rfl (hb hby at_32) rfl ((if0 _ _).trans (tlt hc62).2.2.2) kq)
    have K64 : Go p e below T58 (mkF m 36 #[.val (.int q0), .val (.long q1), .second, .val (.int k), .val (.double (FP.ddiv (FP.i2d k) (4620693217682128896 : UInt64))), .second, .val (.ref b53), .unset] [(.long q1)]) G := fun tq kq => K63 tq (XS.lloadN X58.here hx rfl (hb hby at_35) rfl kq)
    have K65 : Go p e below T58 (mkF m 37 #[.val (.int q0), .val (.long q1), .second, .val (.int k), .val (.double (FP.ddiv (FP.i2d k) (4620693217682128896 : UInt64))), .second, .val (.ref b53), .unset] [(.long (0 : Int64)), (.long q1)]) G := fun tq kq => K64 tq (XS.lconst X58.here hx rfl (hb hby at_36) kq)
    have K66 : Go p e below T58 (mkF m 38 #[.val (.int q0), .val (.long q1), .second, .val (.int k), .val (.double (FP.ddiv (FP.i2d k) (4620693217682128896 : UInt64))), .second, .val (.ref b53), .unset] [(.int (lcmpW q1 (0 : Int64)))]) G := fun tq kq => K65 tq (XS.lcmp X58.here hx rfl (hb hby at_37) rfl kq)
    by_cases hc67 : (0 : Int64) < q1
    · skip
      have K68 : Go p e below T58 (mkF m 41 #[.val (.int q0), .val (.long q1), .second, .val (.int k), .val (.double (FP.ddiv (FP.i2d k) (4620693217682128896 : UInt64))), .second, .val (.ref b53), .unset] []) G := fun tq kq => K66 tq (XS.ifNo X58.here hx rfl (hb hby at_38) rfl ((if0 _ _).trans (tlt ((lw_gt _ _).mpr hc67)).2.2.2) kq)
      have K69 : Go p e below T58 (mkF m 42 #[.val (.int q0), .val (.long q1), .second, .val (.int k), .val (.double (FP.ddiv (FP.i2d k) (4620693217682128896 : UInt64))), .second, .val (.ref b53), .unset] [(.int (1 : Int32))]) G := fun tq kq => K68 tq (XS.iconst X58.here hx rfl (hb hby at_41) kq)
      have K70 : Go p e below T58 (mkF m 46 #[.val (.int q0), .val (.long q1), .second, .val (.int k), .val (.double (FP.ddiv (FP.i2d k) (4620693217682128896 : UInt64))), .second, .val (.ref b53), .unset] [(.int (1 : Int32))]) G := fun tq kq => K69 tq (XS.goto X58.here hx rfl (pc0 := 42) (pc' := 46) rfl (hb hby at_42) (by decide) (by decide) kq)
      have K71 : Go p e below T58 (mkF m 48 #[.val (.int q0), .val (.long q1), .second, .val (.int k), .val (.double (FP.ddiv (FP.i2d k) (4620693217682128896 : UInt64))), .second, .val (.ref b53), .val (.int (1 : Int32))] []) G := fun tq kq => K70 tq (XS.istore X58.here hx rfl (hb hby at_46) rfl (l' := #[.val (.int q0), .val (.long q1), .second, .val (.int k), .val (.double (FP.ddiv (FP.i2d k) (4620693217682128896 : UInt64))), .second, .val (.ref b53), .val (.int (1 : Int32))]) rfl kq)
      have K72 : Go p e below T58 (mkF m 50 #[.val (.int q0), .val (.long q1), .second, .val (.int k), .val (.double (FP.ddiv (FP.i2d k) (4620693217682128896 : UInt64))), .second, .val (.ref b53), .val (.int (1 : Int32))] [(.ref b53)]) G := fun tq kq => K71 tq (XS.aload X58.here hx rfl (hb hby at_48) rfl rfl kq)
      obtain ⟨cq73, kq73, q73a, q73b, q73c⟩ := isOf hZ rfl E58q
      obtain ⟨v73, _, ⟨T73, L73, k73, n73⟩, -, X73, ⟨Lc73, hQ73, l73, y73, z73⟩, st73⟩ := X58.virtualBack hx (y := (⟨"com/example/ledgerwright/ledgerwright/bookie/BookieSettings$Compaction", "enabled", "()Z"⟩ : MethodName)) (z := (⟨"com/example/ledgerwright/ledgerwright/bookie/BookieSettings$Compaction", "enabled", "()Z"⟩ : MethodName)) hown (mvT hZ (hW 20 _ rfl)) (mvT hZ (hW 21 _ rfl)) (notFace_of_selects (args := #[]) (mvT hZ (hW 23 _ rfl))) (mvT hZ (hW 23 _ rfl)) (mvT hZ (hW 22 _ rfl)) (by decide) (backOf (W := 0) (rmEna l Z a0 hw [] b53 (FP.ddiv (FP.i2d k) (4620693217682128896 : UInt64)) q1 T58.heap n0 (Nat.le_trans (Nat.le_trans Z0 E53.1) K58q.1) F58q_threshold F58q_intervalMillis) hZ (hW 24 _ rfl) (hW 4 _ rfl) (by decide) (by decide)) q73a q73c (g := (mkF m 50 #[.val (.int q0), .val (.long q1), .second, .val (.int k), .val (.double (FP.ddiv (FP.i2d k) (4620693217682128896 : UInt64))), .second, .val (.ref b53), .val (.int (1 : Int32))] [(.ref b53)])) rfl (by rw [hml]; rfl) (Steps.refl _) (argsL := []) (rest := []) (lenOf pd_42 rfl) rfl (by show 2 * 0 + _ ≤ _; exact Nat.le_of_eq rfl) (hb hby at_50) (fun _ _ => ⟨rfl, rfl, (by decide : 1 + 0 ≤ _), (by decide : 2 + 0 ≤ _)⟩)
      dsimp only [Pt.U, Pt.locs, Pt.cells, Pt.slots] at X73 l73 y73 z73 st73 hQ73
      subst l73 y73 z73
      by_cases hc74 : (0 : Int32) < (cmpValue (FP.dcmp (FP.ddiv (FP.i2d k) (4620693217682128896 : UInt64)) FP.dconst0) .l) ∧ (0 : Int64) < q1
      · skip
        rw [QEna, if_pos hc74] at hQ73
        obtain ⟨rfl, N73q, E73q⟩ := hQ73
        have N73 := Fr.app N58 N73q
        have K75 : Go p e below T73 (mkF m 53 #[.val (.int q0), .val (.long q1), .second, .val (.int k), .val (.double (FP.ddiv (FP.i2d k) (4620693217682128896 : UInt64))), .second, .val (.ref b53), .val (.int (1 : Int32))] [(.int (1 : Int32))]) G := fun tq kq => K72 tq (st73.trans kq)
        have K76 : Go p e below T73 (mkF m 55 #[.val (.int q0), .val (.long q1), .second, .val (.int k), .val (.double (FP.ddiv (FP.i2d k) (4620693217682128896 : UInt64))), .second, .val (.ref b53), .val (.int (1 : Int32))] [(.int (1 : Int32)), (.int (1 : Int32))]) G := fun tq kq => K75 tq (XS.iload X73.here hx rfl (hb hby at_53) rfl kq)
        have K77 : Go p e below T73 (mkF m 58 #[.val (.int q0), .val (.long q1), .second, .val (.int k), .val (.double (FP.ddiv (FP.i2d k) (4620693217682128896 : UInt64))), .second, .val (.ref b53), .val (.int (1 : Int32))] []) G := fun tq kq => K76 tq (XS.icmpNo X73.here hx rfl (hb hby at_55) rfl ((teq (by decide : (1 : Int32) = (1 : Int32))).2) kq)
        have K78 : Go p e below T73 (mkF m 59 #[.val (.int q0), .val (.long q1), .second, .val (.int k), .val (.double (FP.ddiv (FP.i2d k) (4620693217682128896 : UInt64))), .second, .val (.ref b53), .val (.int (1 : Int32))] [(.int (1 : Int32))]) G := fun tq kq => K77 tq (XS.iconst X73.here hx rfl (hb hby at_58) kq)
        have K79 : Go p e below T73 (mkF m 63 #[.val (.int q0), .val (.long q1), .second, .val (.int k), .val (.double (FP.ddiv (FP.i2d k) (4620693217682128896 : UInt64))), .second, .val (.ref b53), .val (.int (1 : Int32))] [(.int (1 : Int32))]) G := fun tq kq => K78 tq (XS.goto X73.here hx rfl (pc0 := 59) (pc' := 63) rfl (hb hby at_59) (by decide) (by decide) kq)
        obtain ⟨fs, hr, hrun, hended, hWW, hsame⟩ := X73.leave (v := some (.int (1 : Int32))) (fun h => by rw [Bd.returns] at h; cases h)
        refine ⟨_, _, hG _ (K79 _ (retN X73 hx (t := .boolean) Bd.returns (by simp) (hb hby at_63) hr)), hrun, hended, _, _, rfl, ?_, ⟨_, rfl⟩, hWW, hsame.mono (by decide) (by decide)⟩
        show Q0 Z q0 q1 h0 n0 _ T73.heap _
        rw [E73q]
        exact ⟨rfl, N73⟩
      · skip
        rw [QEna, if_neg hc74] at hQ73
        obtain ⟨rfl, N73q, E73q⟩ := hQ73
        have N73 := Fr.app N58 N73q
        have K80 : Go p e below T73 (mkF m 53 #[.val (.int q0), .val (.long q1), .second, .val (.int k), .val (.double (FP.ddiv (FP.i2d k) (4620693217682128896 : UInt64))), .second, .val (.ref b53), .val (.int (1 : Int32))] [(.int (0 : Int32))]) G := fun tq kq => K72 tq (st73.trans kq)
        have K81 : Go p e below T73 (mkF m 55 #[.val (.int q0), .val (.long q1), .second, .val (.int k), .val (.double (FP.ddiv (FP.i2d k) (4620693217682128896 : UInt64))), .second, .val (.ref b53), .val (.int (1 : Int32))] [(.int (1 : Int32)), (.int (0 : Int32))]) G := fun tq kq => K80 tq (XS.iload X73.here hx rfl (hb hby at_53) rfl kq)
        have K82 : Go p e below T73 (mkF m 62 #[.val (.int q0), .val (.long q1), .second, .val (.int k), .val (.double (FP.ddiv (FP.i2d k) (4620693217682128896 : UInt64))), .second, .val (.ref b53), .val (.int (1 : Int32))] []) G := fun tq kq => K81 tq (XS.icmpYes X73.here hx rfl (pc0 := 55) (pc' := 62) rfl (hb hby at_55) rfl ((feq (by decide : ¬ ((0 : Int32) = (1 : Int32)))).2) (by decide) (by decide) kq)
        have K83 : Go p e below T73 (mkF m 63 #[.val (.int q0), .val (.long q1), .second, .val (.int k), .val (.double (FP.ddiv (FP.i2d k) (4620693217682128896 : UInt64))), .second, .val (.ref b53), .val (.int (1 : Int32))] [(.int (0 : Int32))]) G := fun tq kq => K82 tq (XS.iconst X73.here hx rfl (hb hby at_62) kq)
        exact absurd ⟨hk.2.2.mpr hc62, hc67⟩ hc74
    · skip
      have K84 : Go p e below T58 (mkF m 45 #[.val (.int q0), .val (.long q1), .second, .val (.int k), .val (.double (FP.ddiv (FP.i2d k) (4620693217682128896 : UInt64))), .second, .val (.ref b53), .unset] []) G := fun tq kq => K66 tq (XS.ifYes X58.here hx rfl (pc0 := 38) (pc' := 45) rfl (hb hby at_38) rfl ((if0 _ _).trans (flt (fun z => hc67 ((lw_gt _ _).mp z))).2.2.2) (by decide) (by decide) kq)
      have K85 : Go p e below T58 (mkF m 46 #[.val (.int q0), .val (.long q1), .second, .val (.int k), .val (.double (FP.ddiv (FP.i2d k) (4620693217682128896 : UInt64))), .second, .val (.ref b53), .unset] [(.int (0 : Int32))]) G := fun tq kq => K84 tq (XS.iconst X58.here hx rfl (hb hby at_45) kq)
      have K86 : Go p e below T58 (mkF m 48 #[.val (.int q0), .val (.long q1), .second, .val (.int k), .val (.double (FP.ddiv (FP.i2d k) (4620693217682128896 : UInt64))), .second, .val (.ref b53), .val (.int (0 : Int32))] []) G := fun tq kq => K85 tq (XS.istore X58.here hx rfl (hb hby at_46) rfl (l' := #[.val (.int q0), .val (.long q1), .second, .val (.int k), .val (.double (FP.ddiv (FP.i2d k) (4620693217682128896 : UInt64))), .second, .val (.ref b53), .val (.int (0 : Int32))]) rfl kq)
      have K87 : Go p e below T58 (mkF m 50 #[.val (.int q0), .val (.long q1), .second, .val (.int k), .val (.double (FP.ddiv (FP.i2d k) (4620693217682128896 : UInt64))), .second, .val (.ref b53), .val (.int (0 : Int32))] [(.ref b53)]) G := fun tq kq => K86 tq (XS.aload X58.here hx rfl (hb hby at_48) rfl rfl kq)
      obtain ⟨cq88, kq88, q88a, q88b, q88c⟩ := isOf hZ rfl E58q
      obtain ⟨v88, _, ⟨T88, L88, k88, n88⟩, -, X88, ⟨Lc88, hQ88, l88, y88, z88⟩, st88⟩ := X58.virtualBack hx (y := (⟨"com/example/ledgerwright/ledgerwright/bookie/BookieSettings$Compaction", "enabled", "()Z"⟩ : MethodName)) (z := (⟨"com/example/ledgerwright/ledgerwright/bookie/BookieSettings$Compaction", "enabled", "()Z"⟩ : MethodName)) hown (mvT hZ (hW 20 _ rfl)) (mvT hZ (hW 21 _ rfl)) (notFace_of_selects (args := #[]) (mvT hZ (hW 23 _ rfl))) (mvT hZ (hW 23 _ rfl)) (mvT hZ (hW 22 _ rfl)) (by decide) (backOf (W := 0) (rmEna l Z a0 hw [] b53 (FP.ddiv (FP.i2d k) (4620693217682128896 : UInt64)) q1 T58.heap n0 (Nat.le_trans (Nat.le_trans Z0 E53.1) K58q.1) F58q_threshold F58q_intervalMillis) hZ (hW 24 _ rfl) (hW 4 _ rfl) (by decide) (by decide)) q88a q88c (g := (mkF m 50 #[.val (.int q0), .val (.long q1), .second, .val (.int k), .val (.double (FP.ddiv (FP.i2d k) (4620693217682128896 : UInt64))), .second, .val (.ref b53), .val (.int (0 : Int32))] [(.ref b53)])) rfl (by rw [hml]; rfl) (Steps.refl _) (argsL := []) (rest := []) (lenOf pd_42 rfl) rfl (by show 2 * 0 + _ ≤ _; exact Nat.le_of_eq rfl) (hb hby at_50) (fun _ _ => ⟨rfl, rfl, (by decide : 1 + 0 ≤ _), (by decide : 2 + 0 ≤ _)⟩)
      dsimp only [Pt.U, Pt.locs, Pt.cells, Pt.slots] at X88 l88 y88 z88 st88 hQ88
      subst l88 y88 z88
      by_cases hc89 : (0 : Int32) < (cmpValue (FP.dcmp (FP.ddiv (FP.i2d k) (4620693217682128896 : UInt64)) FP.dconst0) .l) ∧ (0 : Int64) < q1
      · skip
        rw [QEna, if_pos hc89] at hQ88
        obtain ⟨rfl, N88q, E88q⟩ := hQ88
        have N88 := Fr.app N58 N88q
        have K90 : Go p e below T88 (mkF m 53 #[.val (.int q0), .val (.long q1), .second, .val (.int k), .val (.double (FP.ddiv (FP.i2d k) (4620693217682128896 : UInt64))), .second, .val (.ref b53), .val (.int (0 : Int32))] [(.int (1 : Int32))]) G := fun tq kq => K87 tq (st88.trans kq)
        have K91 : Go p e below T88 (mkF m 55 #[.val (.int q0), .val (.long q1), .second, .val (.int k), .val (.double (FP.ddiv (FP.i2d k) (4620693217682128896 : UInt64))), .second, .val (.ref b53), .val (.int (0 : Int32))] [(.int (0 : Int32)), (.int (1 : Int32))]) G := fun tq kq => K90 tq (XS.iload X88.here hx rfl (hb hby at_53) rfl kq)
        have K92 : Go p e below T88 (mkF m 62 #[.val (.int q0), .val (.long q1), .second, .val (.int k), .val (.double (FP.ddiv (FP.i2d k) (4620693217682128896 : UInt64))), .second, .val (.ref b53), .val (.int (0 : Int32))] []) G := fun tq kq => K91 tq (XS.icmpYes X88.here hx rfl (pc0 := 55) (pc' := 62) rfl (hb hby at_55) rfl ((feq (by decide : ¬ ((1 : Int32) = (0 : Int32)))).2) (by decide) (by decide) kq)
        have K93 : Go p e below T88 (mkF m 63 #[.val (.int q0), .val (.long q1), .second, .val (.int k), .val (.double (FP.ddiv (FP.i2d k) (4620693217682128896 : UInt64))), .second, .val (.ref b53), .val (.int (0 : Int32))] [(.int (0 : Int32))]) G := fun tq kq => K92 tq (XS.iconst X88.here hx rfl (hb hby at_62) kq)
        exact absurd hc89.2 hc67
      · skip
        rw [QEna, if_neg hc89] at hQ88
        obtain ⟨rfl, N88q, E88q⟩ := hQ88
        have N88 := Fr.app N58 N88q
        have K94 : Go p e below T88 (mkF m 53 #[.val (.int q0), .val (.long q1), .second, .val (.int k), .val (.double (FP.ddiv (FP.i2d k) (4620693217682128896 : UInt64))), .second, .val (.ref b53), .val (.int (0 : Int32))] [(.int (0 : Int32))]) G := fun tq kq => K87 tq (st88.trans kq)
        have K95 : Go p e below T88 (mkF m 55 #[.val (.int q0), .val (.long q1), .second, .val (.int k), .val (.double (FP.ddiv (FP.i2d k) (4620693217682128896 : UInt64))), .second, .val (.ref b53), .val (.int (0 : Int32))] [(.int (0 : Int32)), (.int (0 : Int32))]) G := fun tq kq => K94 tq (XS.iload X88.here hx rfl (hb hby at_53) rfl kq)
        have K96 : Go p e below T88 (mkF m 58 #[.val (.int q0), .val (.long q1), .second, .val (.int k), .val (.double (FP.ddiv (FP.i2d k) (4620693217682128896 : UInt64))), .second, .val (.ref b53), .val (.int (0 : Int32))] []) G := fun tq kq => K95 tq (XS.icmpNo X88.here hx rfl (hb hby at_55) rfl ((teq (by decide : (0 : Int32) = (0 : Int32))).2) kq)
        have K97 : Go p e below T88 (mkF m 59 #[.val (.int q0), .val (.long q1), .second, .val (.int k), .val (.double (FP.ddiv (FP.i2d k) (4620693217682128896 : UInt64))), .second, .val (.ref b53), .val (.int (0 : Int32))] [(.int (1 : Int32))]) G := fun tq kq => K96 tq (XS.iconst X88.here hx rfl (hb hby at_58) kq)
        have K98 : Go p e below T88 (mkF m 63 #[.val (.int q0), .val (.long q1), .second, .val (.int k), .val (.double (FP.ddiv (FP.i2d k) (4620693217682128896 : UInt64))), .second, .val (.ref b53), .val (.int (0 : Int32))] [(.int (1 : Int32))]) G := fun tq kq => K97 tq (XS.goto X88.here hx rfl (pc0 := 59) (pc' := 63) rfl (hb hby at_59) (by decide) (by decide) kq)
        obtain ⟨fs, hr, hrun, hended, hWW, hsame⟩ := X88.leave (v := some (.int (1 : Int32))) (fun h => by rw [Bd.returns] at h; cases h)
        refine ⟨_, _, hG _ (K98 _ (retN X88 hx (t := .boolean) Bd.returns (by simp) (hb hby at_63) hr)), hrun, hended, _, _, rfl, ?_, ⟨_, rfl⟩, hWW, hsame.mono (by decide) (by decide)⟩
        show Q0 Z q0 q1 h0 n0 _ T88.heap _
        rw [E88q]
        exact ⟨rfl, N88⟩
  · skip
    have K99 : Go p e below T58 (mkF m 45 #[.val (.int q0), .val (.long q1), .second, .val (.int k), .val (.double (FP.ddiv (FP.i2d k) (4620693217682128896 : UInt64))), .second, .val (.ref b53), .unset] []) G := fun tq kq => K61 tq (XS.ifYes X58.here hx rfl (pc0 := 32) (pc' := 45) rfl (hb hby at_32) rfl ((if0 _ _).trans (flt hc62).2.2.2) (by decide) (by decide) kq)
    have K100 : Go p e below T58 (mkF m 46 #[.val (.int q0), .val (.long q1), .second, .val (.int k), .val (.double (FP.ddiv (FP.i2d k) (4620693217682128896 : UInt64))), .second, .val (.ref b53), .unset] [(.int (0 : Int32))]) G := fun tq kq => K99 tq (XS.iconst X58.here hx rfl (hb hby at_45) kq)
    have K101 : Go p e below T58 (mkF m 48 #[.val (.int q0), .val (.long q1), .second, .val (.int k), .val (.double (FP.ddiv (FP.i2d k) (4620693217682128896 : UInt64))), .second, .val (.ref b53), .val (.int (0 : Int32))] []) G := fun tq kq => K100 tq (XS.istore X58.here hx rfl (hb hby at_46) rfl (l' := #[.val (.int q0), .val (.long q1), .second, .val (.int k), .val (.double (FP.ddiv (FP.i2d k) (4620693217682128896 : UInt64))), .second, .val (.ref b53), .val (.int (0 : Int32))]) rfl kq)
    have K102 : Go p e below T58 (mkF m 50 #[.val (.int q0), .val (.long q1), .second, .val (.int k), .val (.double (FP.ddiv (FP.i2d k) (4620693217682128896 : UInt64))), .second, .val (.ref b53), .val (.int (0 : Int32))] [(.ref b53)]) G := fun tq kq => K101 tq (XS.aload X58.here hx rfl (hb hby at_48) rfl rfl kq)
    obtain ⟨cq103, kq103, q103a, q103b, q103c⟩ := isOf hZ rfl E58q
    obtain ⟨v103, _, ⟨T103, L103, k103, n103⟩, -, X103, ⟨Lc103, hQ103, l103, y103, z103⟩, st103⟩ := X58.virtualBack hx (y := (⟨"com/example/ledgerwright/ledgerwright/bookie/BookieSettings$Compaction", "enabled", "()Z"⟩ : MethodName)) (z := (⟨"com/example/ledgerwright/ledgerwright/bookie/BookieSettings$Compaction", "enabled", "()Z"⟩ : MethodName)) hown (mvT hZ (hW 20 _ rfl)) (mvT hZ (hW 21 _ rfl)) (notFace_of_selects (args := #[]) (mvT hZ (hW 23 _ rfl))) (mvT hZ (hW 23 _ rfl)) (mvT hZ (hW 22 _ rfl)) (by decide) (backOf (W := 0) (rmEna l Z a0 hw [] b53 (FP.ddiv (FP.i2d k) (4620693217682128896 : UInt64)) q1 T58.heap n0 (Nat.le_trans (Nat.le_trans Z0 E53.1) K58q.1) F58q_threshold F58q_intervalMillis) hZ (hW 24 _ rfl) (hW 4 _ rfl) (by decide) (by decide)) q103a q103c (g := (mkF m 50 #[.val (.int q0), .val (.long q1), .second, .val (.int k), .val (.double (FP.ddiv (FP.i2d k) (4620693217682128896 : UInt64))), .second, .val (.ref b53), .val (.int (0 : Int32))] [(.ref b53)])) rfl (by rw [hml]; rfl) (Steps.refl _) (argsL := []) (rest := []) (lenOf pd_42 rfl) rfl (by show 2 * 0 + _ ≤ _; exact Nat.le_of_eq rfl) (hb hby at_50) (fun _ _ => ⟨rfl, rfl, (by decide : 1 + 0 ≤ _), (by decide : 2 + 0 ≤ _)⟩)
    dsimp only [Pt.U, Pt.locs, Pt.cells, Pt.slots] at X103 l103 y103 z103 st103 hQ103
    subst l103 y103 z103
    by_cases hc104 : (0 : Int32) < (cmpValue (FP.dcmp (FP.ddiv (FP.i2d k) (4620693217682128896 : UInt64)) FP.dconst0) .l) ∧ (0 : Int64) < q1
    · skip
      rw [QEna, if_pos hc104] at hQ103
      obtain ⟨rfl, N103q, E103q⟩ := hQ103
      have N103 := Fr.app N58 N103q
      have K105 : Go p e below T103 (mkF m 53 #[.val (.int q0), .val (.long q1), .second, .val (.int k), .val (.double (FP.ddiv (FP.i2d k) (4620693217682128896 : UInt64))), .second, .val (.ref b53), .val (.int (0 : Int32))] [(.int (1 : Int32))]) G := fun tq kq => K102 tq (st103.trans kq)
      have K106 : Go p e below T103 (mkF m 55 #[.val (.int q0), .val (.long q1), .second, .val (.int k), .val (.double (FP.ddiv (FP.i2d k) (4620693217682128896 : UInt64))), .second, .val (.ref b53), .val (.int (0 : Int32))] [(.int (0 : Int32)), (.int (1 : Int32))]) G := fun tq kq => K105 tq (XS.iload X103.here hx rfl (hb hby at_53) rfl kq)
      have K107 : Go p e below T103 (mkF m 62 #[.val (.int q0), .val (.long q1), .second, .val (.int k), .val (.double (FP.ddiv (FP.i2d k) (4620693217682128896 : UInt64))), .second, .val (.ref b53), .val (.int (0 : Int32))] []) G := fun tq kq => K106 tq (XS.icmpYes X103.here hx rfl (pc0 := 55) (pc' := 62) rfl (hb hby at_55) rfl ((feq (by decide : ¬ ((1 : Int32) = (0 : Int32)))).2) (by decide) (by decide) kq)
      have K108 : Go p e below T103 (mkF m 63 #[.val (.int q0), .val (.long q1), .second, .val (.int k), .val (.double (FP.ddiv (FP.i2d k) (4620693217682128896 : UInt64))), .second, .val (.ref b53), .val (.int (0 : Int32))] [(.int (0 : Int32))]) G := fun tq kq => K107 tq (XS.iconst X103.here hx rfl (hb hby at_62) kq)
      exact absurd (hk.2.2.mp hc104.1) hc62
    · skip
      rw [QEna, if_neg hc104] at hQ103
      obtain ⟨rfl, N103q, E103q⟩ := hQ103
      have N103 := Fr.app N58 N103q
      have K109 : Go p e below T103 (mkF m 53 #[.val (.int q0), .val (.long q1), .second, .val (.int k), .val (.double (FP.ddiv (FP.i2d k) (4620693217682128896 : UInt64))), .second, .val (.ref b53), .val (.int (0 : Int32))] [(.int (0 : Int32))]) G := fun tq kq => K102 tq (st103.trans kq)
      have K110 : Go p e below T103 (mkF m 55 #[.val (.int q0), .val (.long q1), .second, .val (.int k), .val (.double (FP.ddiv (FP.i2d k) (4620693217682128896 : UInt64))), .second, .val (.ref b53), .val (.int (0 : Int32))] [(.int (0 : Int32)), (.int (0 : Int32))]) G := fun tq kq => K109 tq (XS.iload X103.here hx rfl (hb hby at_53) rfl kq)
      have K111 : Go p e below T103 (mkF m 58 #[.val (.int q0), .val (.long q1), .second, .val (.int k), .val (.double (FP.ddiv (FP.i2d k) (4620693217682128896 : UInt64))), .second, .val (.ref b53), .val (.int (0 : Int32))] []) G := fun tq kq => K110 tq (XS.icmpNo X103.here hx rfl (hb hby at_55) rfl ((teq (by decide : (0 : Int32) = (0 : Int32))).2) kq)
      have K112 : Go p e below T103 (mkF m 59 #[.val (.int q0), .val (.long q1), .second, .val (.int k), .val (.double (FP.ddiv (FP.i2d k) (4620693217682128896 : UInt64))), .second, .val (.ref b53), .val (.int (0 : Int32))] [(.int (1 : Int32))]) G := fun tq kq => K111 tq (XS.iconst X103.here hx rfl (hb hby at_58) kq)
      have K113 : Go p e below T103 (mkF m 63 #[.val (.int q0), .val (.long q1), .second, .val (.int k), .val (.double (FP.ddiv (FP.i2d k) (4620693217682128896 : UInt64))), .second, .val (.ref b53), .val (.int (0 : Int32))] [(.int (1 : Int32))]) G := fun tq kq => K112 tq (XS.goto X103.here hx rfl (pc0 := 59) (pc' := 63) rfl (hb hby at_59) (by decide) (by decide) kq)
      obtain ⟨fs, hr, hrun, hended, hWW, hsame⟩ := X103.leave (v := some (.int (1 : Int32))) (fun h => by rw [Bd.returns] at h; cases h)
      refine ⟨_, _, hG _ (K113 _ (retN X103 hx (t := .boolean) Bd.returns (by simp) (hb hby at_63) hr)), hrun, hended, _, _, rfl, ?_, ⟨_, rfl⟩, hWW, hsame.mono (by decide) (by decide)⟩
      show Q0 Z q0 q1 h0 n0 _ T103.heap _
      rw [E103q]
      exact ⟨rfl, N103⟩
set_option maxRecDepth 65536 in
set_option maxHeartbeats 40000000 in
theorem comes_1 {Post : Tables → Env → Array Value → State → Outcome → State → Prop} (hpost : ∀ tb e args s v u, (limb_1_1.after args s (.returned v) u = true ∧ limb_1_2.after args s (.returned v) u = true ∧ True) → FrameEnd s (.returned v) u (Jvm.fieldLocs frame_1_writes args s ++ Jvm.arrayLocs frame_1_arrays args s ++ Jvm.staticLocs frame_1_statics s) 16 128 → Post tb e args s (.returned v) u) :
    ArmFor flags0 classFile x code maxLocals ret World_1 tables_1 room_1 Calls_1 rest_1 Pre_1 Post := by
  intro l hfl _ _ p e ha hc hk s m args below hf hA hF happ hP
  obtain ⟨hcalls, hrest, hpre⟩ := hP
  obtain ⟨-, -, -, hnamed, -, -, -, hat⟩ := (Spec.applies_iff hf).mp happ
  obtain ⟨hg, hn⟩ := and_e (Cond.before_iff.mp (show (Jvm.Cond.and given_1 narrow_1).before args s = true from hpre))
  obtain ⟨gg1, gg2⟩ := and_e hg
  obtain ⟨gg3, gg4⟩ := and_e gg2
  obtain ⟨w0, w1, rfl⟩ : ∃ w0 w1 : Value, args = #[w0, w1] := by
    have hs : args.size = 2 := by simpa [Cond.value, given_1] using gg1
    obtain ⟨L⟩ := args
    match L, hs with
    | [w0, w1], _ => exact ⟨w0, w1, rfl⟩
  have hw := fun d (hd : d ∈ tables_1) => atoms_spec (ws := Jvm.Cond.code x code maxLocals ret :: tables_1) hat d (List.mem_cons_of_mem _ hd)
  have hW : ∀ (k : Nat) (d : Jvm.Cond), tables_1[k]? = some d → d.before _ s = true := fun k d h => hw d (List.mem_of_getElem? h)
  have hfit : Fit s := fun {y c} hc i hi => by
    obtain ⟨ha, rfl⟩ := Array.getElem?_eq_some_iff.mp hc
    have q := List.all_eq_true.mp ((Array.all_eq_true_iff_forall_mem.mp hF) _ (Array.getElem_mem ha)) i (List.mem_range.mpr hi)
    simpa [Array.getElem?_eq_getElem hi] using q
  obtain ⟨i0, ei0⟩ := is_v gg3
  obtain rfl : w0 = (.int i0) := Option.some.inj ei0
  obtain ⟨i1, ei1⟩ := isL_v gg4
  obtain rfl : w1 = (.long i1) := Option.some.inj ei1
  obtain ⟨n, o, h1, h2, h3, _, L, rfl, ⟨rfl, N⟩, hq⟩ := rm0 l s _ hw tables_1 i0 i1  s.heap s.heap.size (Nat.le_refl _)  p e ha hc hk s m _ below hf ((Spec.applies_iff_loose hf).mp happ).1 ⟨rfl, State.Warmed39.refl s, rfl⟩ trivial
  refine ⟨n, _, h1, h2, h3, hpost _ _ _ _ _ _ ⟨Cond.after_iff.mpr rfl, Cond.after_iff.mpr (eq_i res_at (Term.int_eval (1)) rfl), trivial⟩ ⟨hq.1, hq.2.1, (hq.2.2.sift fun y hy => Or.inr (N y hy)).mono (by decide) (by decide)⟩⟩
theorem main_1_1 : Claimed_1_1 := comes_1 fun _ _ _ _ _ _ h hF => ⟨h.1, hF⟩
theorem main_1_2 : Claimed_1_2 := comes_1 fun _ _ _ _ _ _ h hF => ⟨h.2.1, hF⟩
end Jvm.Pilot.@@N@@
namespace Jvm.Pilot.@@N@@
open Jvm Jvm.ClassFile Sem Op Lib Jvm.Free Jvm.Stand Jvm.Pilot.@@N@@.Jvm.D
/-! MADE BY PROGRAM (witnessworld.py) out of the Statement's table words and the real class files: 10 classes; the members and pool entries that the words name. The judged class is class 1, her method 1. -/
namespace start1
open Jvm.ClassFile
def u (s : String) : CpInfo := .utf8 (stringToUtf16 s)
/-- a pool by its gaps: so many unusable entries, then the entry; so many at the end -/
def gap : Nat → List CpInfo → List CpInfo
  | 0, r => r
  | n + 1, r => .unusable :: gap n r
def poolList (es : List (Nat × CpInfo)) (last : Nat) : List CpInfo := es.foldr (fun e r => gap e.1 (e.2 :: r)) (gap last [])
def pool (es : List (Nat × CpInfo)) (last : Nat) : Array CpInfo := ⟨poolList es last⟩
def fileOf (pool : Array CpInfo) (this : Nat) (attrs : Array Attribute := #[]) (ms : Array MethodInfo := #[]) (fl : Nat := 33) (sup : Nat := 0) (ifs : Array Nat := #[]) (fds : Array FieldInfo := #[]) : ClassFile where
  minorVersion := 0
  majorVersion := 65
  constantPool := pool
  accessFlags := fl
  thisClass := this
  superClass := sup
  interfaces := ifs
  fields := fds
  methods := ms
  attributes := attrs
def plain (name : String) (sup : Option ClassId) : Class where
  name := name
  kind := .ordinary
  loader := none
  accessFlags := 33
  super := sup
  interfaces := #[]
  cf := none
  fields := #[]
  methods := #[]
  instanceTypes := #[]
  staticTypes := #[]
  resolved := #[]
  callSites := []
  init := .initialized
  statics := none
  mirror := none

def pool0 : Array CpInfo := pool [(5, u "<init>"), (0, u "()V"), (1, .class_ 10), (1, u "java/lang/Object")] 113

def k0c0 : Code := { maxStack := 0, maxLocals := 1, code := object_method_1_code, exceptionTable := #[], attributes := #[] }
def k0m0 : Method := { name := "<init>", desc := "()V", sig := { parameters := [], returnType := none }, accessFlags := 1, code := some k0c0 }
/-- java/lang/Object -/
def k0 : Class := { plain "java/lang/Object" none with
  accessFlags := 33
  interfaces := #[]
  cf := some (fileOf pool0 8 #[] #[{ accessFlags := 1, nameIndex := 5, descriptorIndex := 6, attributes := #[] }] 33 0 #[] #[])
  fields := #[]
  methods := #[k0m0]
  instanceTypes := #[]
  staticTypes := #[]
  resolved := Array.replicate 124 none
  statics := none }

def pool1 : Array CpInfo := pool [(2, .class_ 4), (1, u "java/lang/Object"), (0, u "<init>"), (0, u "()V"), (0, .integer 2147483647), (0, .double 4620693217682128896), (1, .class_ 11), (0, u "com/example/ledgerwright/ledgerwright/bookie/BookieSettings$Compaction"), (0, .methodref 10 13), (0, .nameAndType 5 14), (0, u "(DJ)V"), (0, .methodref 10 16), (0, .nameAndType 17 18), (0, u "enabled"), (0, u "()Z"), (0, .class_ 20), (0, u "com/example/ledgerwright/ledgerwright/bookie/CompactionEnabledPinLaw"), (2, u "law"), (0, u "(IJ)Z")] 7

def k1m0 : Method := { name := "<init>", desc := "()V", sig := { parameters := [], returnType := none }, accessFlags := 1, code := none }
def k1c1 : Code := { maxStack := 6, maxLocals := 8, code := code, exceptionTable := #[], attributes := #[] }
def k1m1 : Method := { name := "law", desc := "(IJ)Z", sig := { parameters := [.int, .long], returnType := some .boolean }, accessFlags := 9, code := some k1c1 }
/-- com/example/ledgerwright/ledgerwright/bookie/CompactionEnabledPinLaw -/
def k1 : Class := { plain "com/example/ledgerwright/ledgerwright/bookie/CompactionEnabledPinLaw" (some 0) with
  accessFlags := 49
  interfaces := #[]
  cf := some (fileOf pool1 19 #[] #[{ accessFlags := 1, nameIndex := 5, descriptorIndex := 6, attributes := #[] }, { accessFlags := 9, nameIndex := 23, descriptorIndex := 24, attributes := #[] }] 49 2 #[] #[])
  fields := #[]
  methods := #[k1m0, k1m1]
  instanceTypes := #[]
  staticTypes := #[]
  resolved := Array.replicate 32 none
  statics := none }

def pool2 : Array CpInfo := pool [(1, .methodref 2 3), (0, .class_ 4), (0, .nameAndType 5 6), (0, u "java/lang/Object"), (0, u "<init>"), (0, u "()V"), (0, .class_ 8), (0, u "java/lang/Record")] 13

def k2c0 : Code := { maxStack := 1, maxLocals := 1, code := jdk_30_method_1_code, exceptionTable := #[], attributes := #[] }
def k2m0 : Method := { name := "<init>", desc := "()V", sig := { parameters := [], returnType := none }, accessFlags := 4, code := some k2c0 }
/-- java/lang/Record -/
def k2 : Class := { plain "java/lang/Record" (some 0) with
  accessFlags := 1057
  interfaces := #[]
  cf := some (fileOf pool2 7 #[] #[{ accessFlags := 4, nameIndex := 5, descriptorIndex := 6, attributes := #[] }] 1057 2 #[] #[])
  fields := #[]
  methods := #[k2m0]
  instanceTypes := #[]
  staticTypes := #[]
  resolved := Array.replicate 22 none
  statics := none }

def pool3 : Array CpInfo := pool [(1, .methodref 2 3), (0, .class_ 4), (0, .nameAndType 5 6), (0, u "java/lang/Record"), (0, u "<init>"), (0, u "()V"), (9, .fieldref 17 18), (0, .class_ 19), (0, .nameAndType 20 21), (0, u "com/example/ledgerwright/ledgerwright/bookie/BookieSettings$Compaction"), (0, u "threshold"), (0, u "D"), (0, .fieldref 17 23), (0, .nameAndType 24 25), (0, u "intervalMillis"), (0, u "J"), (2, u "(DJ)V"), (16, u "enabled"), (0, u "()Z"), (12, .class_ 60), (0, u "com/example/ledgerwright/ledgerwright/bookie/BookieSettings")] 28

def k3c0 : Code := { maxStack := 4, maxLocals := 5, code := prog_29_method_1_code, exceptionTable := #[], attributes := #[] }
def k3m0 : Method := { name := "<init>", desc := "(DJ)V", sig := { parameters := [.double, .long], returnType := none }, accessFlags := 1, code := some k3c0 }
def k3c1 : Code := { maxStack := 4, maxLocals := 1, code := prog_29_method_2_code, exceptionTable := #[], attributes := #[] }
def k3m1 : Method := { name := "enabled", desc := "()Z", sig := { parameters := [], returnType := some .boolean }, accessFlags := 1, code := some k3c1 }
/-- com/example/ledgerwright/ledgerwright/bookie/BookieSettings$Compaction -/
def k3 : Class := { plain "com/example/ledgerwright/ledgerwright/bookie/BookieSettings$Compaction" (some 2) with
  accessFlags := 49
  interfaces := #[]
  cf := some (fileOf pool3 17 #[.nestHost 59] #[{ accessFlags := 1, nameIndex := 5, descriptorIndex := 28, attributes := #[] }, { accessFlags := 1, nameIndex := 45, descriptorIndex := 46, attributes := #[] }] 49 2 #[] #[{ accessFlags := 18, nameIndex := 20, descriptorIndex := 21, attributes := #[] }, { accessFlags := 18, nameIndex := 24, descriptorIndex := 25, attributes := #[] }])
  fields := #[{ name := "threshold", type := .double, accessFlags := 18, slot := 0, constantValue := 0 }, { name := "intervalMillis", type := .long, accessFlags := 18, slot := 1, constantValue := 0 }]
  methods := #[k3m0, k3m1]
  instanceTypes := #[.double, .long]
  staticTypes := #[]
  resolved := Array.replicate 89 none
  statics := none }

def pool4 : Array CpInfo := pool [(1, u "java/lang/Cloneable"), (0, .class_ 1), (0, u "java/lang/Object"), (0, .class_ 3)] 3

/-- java/lang/Cloneable -/
def k4 : Class := { plain "java/lang/Cloneable" (some 0) with
  accessFlags := 1537
  interfaces := #[]
  cf := some (fileOf pool4 2 #[] #[] 1537 4 #[] #[])
  fields := #[]
  methods := #[]
  instanceTypes := #[]
  staticTypes := #[]
  resolved := Array.replicate 8 none
  statics := none }

def pool5 : Array CpInfo := pool [(1, u "java/io/Serializable"), (0, .class_ 1), (0, u "java/lang/Object"), (0, .class_ 3)] 3

/-- java/io/Serializable -/
def k5 : Class := { plain "java/io/Serializable" (some 0) with
  accessFlags := 1537
  interfaces := #[]
  cf := some (fileOf pool5 2 #[] #[] 1537 4 #[] #[])
  fields := #[]
  methods := #[]
  instanceTypes := #[]
  staticTypes := #[]
  resolved := Array.replicate 8 none
  statics := none }

/-- the primitive byte -/
def k6 : Class := { plain "byte" none with kind := .primitive 'B', accessFlags := 0x411 }
/-- [B -/
def k7 : Class := { plain "[B" (some 0) with kind := .array 6 .byte, interfaces := #[4, 5], accessFlags := 1041 }

/-- the primitive int -/
def k8 : Class := { plain "int" none with kind := .primitive 'I', accessFlags := 0x411 }
/-- [I -/
def k9 : Class := { plain "[I" (some 0) with kind := .array 8 .int, interfaces := #[4, 5], accessFlags := 1041 }

def heap : Heap := #[]
def classes : Array Class := #[k0, k1, k2, k3, k4, k5, k6, k7, k8, k9]
def interned : List (Array UInt16 × Addr) := []
def slotsUsed : Nat := 0
def theMethod : MethodId := ⟨1, 1⟩
def args0 : Array Value := #[.int 5, .long 7]
def aboutOver (below : List Frame) : State where
  vm := { classes := classes, interned := interned.toArray }
  heap := heap
  slotsUsed := slotsUsed
  threads := #[{ frames := .invoking theMethod args0 :: below }]
def below0 : List Frame := [.native { method := ⟨0, 0⟩, args := #[] }]
def about1 : State := aboutOver below0
def p0 : Program := .bare "" "" ""
def e0 : Env := launch0.env 0 0 0
theorem w_frames : about1.frames = Frame.invoking theMethod args0 :: below0 := rfl
set_option maxRecDepth 65536 in
theorem w_args : argsFit about1.vm theMethod args0 = true := by decide +kernel
set_option maxRecDepth 65536 in
theorem w_heap : heapFits about1 = true := by decide +kernel
set_option maxRecDepth 65536 in
theorem w_runnable : about1.curStatus? = some .runnable := by decide +kernel
set_option maxRecDepth 65536 in
theorem w_alone : about1.alone = true := by decide +kernel
set_option maxRecDepth 65536 in
theorem w_named : about1.methodNamed? x = some theMethod := by decide +kernel
set_option maxRecDepth 65536 in
theorem w_hears : about1.hears theMethod below0 = true := by decide +kernel
set_option maxRecDepth 65536 in
theorem w_ripe : about1.ripe theMethod args0 below0 = true := by decide +kernel
theorem w_running : about1.status = .running := rfl
set_option maxRecDepth 65536 in
theorem w_room : about1.hasRoom e0.platform room_1 = true :=
  launch0.hasRoom_least _ room_1 (by decide +kernel) (by decide +kernel) (by decide +kernel) (by decide +kernel) (by decide +kernel) (by decide +kernel)
theorem allAtoms_all (ts : List Jvm.Cond) (a : Array Jvm.Value) (st : Jvm.State) : (allAtoms ts).before a st = ts.all (fun c => c.before a st) := by
  induction ts with
  | nil => rfl
  | cons c t ih =>
    show (Jvm.Cond.and c (allAtoms t)).before a st = _
    rw [Jvm.Cond.before_and, ih, List.all_cons]
def words1 : List Jvm.Cond := Jvm.Cond.code x code maxLocals ret :: tables_1
/-- a 'code' word, met by the world's own term for the bytes: nothing is compared byte by byte -/
theorem code_word {y : MethodName} {bytes : ByteArray} {mx : Nat} {rt : Option FieldType} {a : Array Value} {s : State} {m : MethodId} {meth : Method} {c : Code} (h1 : s.methodNamed? y = some m) (h2 : s.vm.method? m = some meth) (h3 : meth.code = some c) (h4 : c.code = bytes)
    (h5 : (c.maxLocals == mx && c.exceptionTable.isEmpty && decide (c.maxStack ≤ mostOperands) && decide (meth.sig.returnType = rt) && !meth.locks && decide (parseMethodDescriptor y.desc = some meth.sig)) = true) : (Jvm.Cond.code y bytes mx rt).before a s = true := by
  simp only [Bool.and_eq_true, beq_iff_eq, Bool.not_eq_true', decide_eq_true_eq] at h5
  obtain ⟨⟨⟨⟨⟨g1, g2⟩, g3⟩, g4⟩, g5⟩, g6⟩ := h5
  simp [Cond.before, Cond.holds, Cond.value, h1, h2, h3, h4, g1, g2, g3, g4, g5, g6]
def isCode : Jvm.Cond → Bool
  | .code _ _ _ _ => true
  | _ => false
theorem all_split {L : List Jvm.Cond} {P : Jvm.Cond → Bool} (h1 : L.all (fun c => isCode c || P c) = true) (h2 : ∀ c ∈ L.filter isCode, P c = true) : L.all P = true := by
  refine List.all_eq_true.mpr fun c hc => ?_
  have h := List.all_eq_true.mp h1 c hc
  rcases Bool.eq_false_or_eq_true (isCode c) with hi | hi
  · exact h2 c (List.mem_filter.mpr ⟨hc, hi⟩)
  · simpa [hi] using h
set_option maxRecDepth 65536 in
theorem w_c0 : (Jvm.Cond.code x code maxLocals ret).before args0 about1 = true := code_word (m := ⟨1, 1⟩) (meth := k1m1) (c := k1c1) (by decide +kernel) rfl rfl rfl (by decide +kernel)
set_option maxRecDepth 65536 in
theorem w_c1 : (Jvm.Cond.code ({ cls := "com/example/ledgerwright/ledgerwright/bookie/BookieSettings$Compaction", name := "<init>", desc := "(DJ)V" } : Jvm.MethodName) prog_29_method_1_code (5 : Nat) (Option.none : Option Jvm.ClassFile.FieldType)).before args0 about1 = true := code_word (m := ⟨3, 0⟩) (meth := k3m0) (c := k3c0) (by decide +kernel) rfl rfl rfl (by decide +kernel)
set_option maxRecDepth 65536 in
theorem w_c2 : (Jvm.Cond.code ({ cls := "java/lang/Record", name := "<init>", desc := "()V" } : Jvm.MethodName) jdk_30_method_1_code (1 : Nat) (Option.none : Option Jvm.ClassFile.FieldType)).before args0 about1 = true := code_word (m := ⟨2, 0⟩) (meth := k2m0) (c := k2c0) (by decide +kernel) rfl rfl rfl (by decide +kernel)
set_option maxRecDepth 65536 in
theorem w_c3 : (Jvm.Cond.code ({ cls := "java/lang/Object", name := "<init>", desc := "()V" } : Jvm.MethodName) object_method_1_code (1 : Nat) (Option.none : Option Jvm.ClassFile.FieldType)).before args0 about1 = true := code_word (m := ⟨0, 0⟩) (meth := k0m0) (c := k0c0) (by decide +kernel) rfl rfl rfl (by decide +kernel)
set_option maxRecDepth 65536 in
theorem w_c4 : (Jvm.Cond.code ({ cls := "com/example/ledgerwright/ledgerwright/bookie/BookieSettings$Compaction", name := "enabled", desc := "()Z" } : Jvm.MethodName) prog_29_method_2_code (1 : Nat) (Option.some Jvm.ClassFile.FieldType.boolean)).before args0 about1 = true := code_word (m := ⟨3, 1⟩) (meth := k3m1) (c := k3c1) (by decide +kernel) rfl rfl rfl (by decide +kernel)
def codes1 : List Jvm.Cond := [Jvm.Cond.code x code maxLocals ret, Jvm.Cond.code ({ cls := "com/example/ledgerwright/ledgerwright/bookie/BookieSettings$Compaction", name := "<init>", desc := "(DJ)V" } : Jvm.MethodName) prog_29_method_1_code (5 : Nat) (Option.none : Option Jvm.ClassFile.FieldType), Jvm.Cond.code ({ cls := "java/lang/Record", name := "<init>", desc := "()V" } : Jvm.MethodName) jdk_30_method_1_code (1 : Nat) (Option.none : Option Jvm.ClassFile.FieldType), Jvm.Cond.code ({ cls := "java/lang/Object", name := "<init>", desc := "()V" } : Jvm.MethodName) object_method_1_code (1 : Nat) (Option.none : Option Jvm.ClassFile.FieldType), Jvm.Cond.code ({ cls := "com/example/ledgerwright/ledgerwright/bookie/BookieSettings$Compaction", name := "enabled", desc := "()Z" } : Jvm.MethodName) prog_29_method_2_code (1 : Nat) (Option.some Jvm.ClassFile.FieldType.boolean)]
set_option maxRecDepth 65536 in
theorem codes_eq : words1.filter isCode = codes1 := rfl
theorem w_codes : ∀ c ∈ words1.filter isCode, c.before args0 about1 = true := by
  rw [codes_eq]
  intro c hc
  simp only [codes1, List.mem_cons, List.not_mem_nil, or_false] at hc
  rcases hc with rfl | rfl | rfl | rfl | rfl
  · exact w_c0
  · exact w_c1
  · exact w_c2
  · exact w_c3
  · exact w_c4
set_option maxRecDepth 65536 in
theorem w_t1 : (words1.take 24).all (fun c => isCode c || c.before args0 about1) = true := by decide +kernel
set_option maxRecDepth 65536 in
theorem w_t2 : (words1.drop 24).all (fun c => isCode c || c.before args0 about1) = true := by decide +kernel
theorem w_tables : (allAtoms (Jvm.Cond.code x code maxLocals ret :: tables_1)).before args0 about1 = true := by
  rw [allAtoms_all]
  show words1.all (fun c => c.before args0 about1) = true
  refine all_split ?_ w_codes
  rw [← List.take_append_drop 24 words1, List.all_append, w_t1, w_t2]
  rfl
set_option maxRecDepth 65536 in
theorem w_case : (Jvm.Cond.and given_1 narrow_1).before args0 about1 = true := by decide +kernel
theorem w_applies : (headSpec (Jvm.Cond.code x code maxLocals ret :: tables_1) room_1).applies x e0.platform about1 = true :=
  (Spec.applies_iff w_frames).mpr ⟨w_running, w_runnable, w_alone, w_named, w_hears, w_ripe, w_room, w_tables⟩
theorem atStart : AtStart classFile x code maxLocals ret World_1 tables_1 room_1 Calls_1 rest_1 Pre_1 launch0 p0 e0 about1 theMethod args0 below0 :=
  ⟨lists_1, trivial, launch0.admits_env _ _ _, launch0.least_env, fairChoices_fair.cas, fairChoices_fair.clock, w_frames, w_args, w_heap, w_applies, trivial, trivial, w_case⟩
end start1
theorem witness_1 : WitnessClaimed_1 := ⟨start1.p0, start1.e0, start1.about1, start1.theMethod, start1.args0, start1.below0, start1.atStart⟩
end Jvm.Pilot.@@N@@
