import JvmDerived
import JvmDerived.Pilot.@@N@@Statement
import JvmDerived.Pilot.@@N@@Code
set_option linter.unusedVariables false
set_option linter.unusedSimpArgs false
namespace Jvm.Pilot.@@N@@
open Jvm Jvm.ClassFile Sem Op Lib Jvm.Free Jvm.Stand Jvm.LawKit Jvm.RoadKit Bundle Jvm.Pilot.@@N@@.Jvm.D
/-- every run that goes on from the frame g of T to t is one of G -/
abbrev Go (p : Program) (e : Env) (below : List Frame) (T : State) (g : JFrame) (G : State → Prop) : Prop := ∀ t, Steps p.tables e below (T.setTop g) t → G t
theorem pn_0 : plainName "java/lang/Record" = true := by first | (simp [plainName, overriddenIn]; done) | decide +kernel
theorem ef_jdk_30_method_1_R (m : MethodId) (x0 : Addr) : entryFrame m #[(.ref x0)] 1 = mkF m 0 #[.val (.ref x0)] [] := by first | (simp [entryFrame, mkF, argsToLocals, Value.category]; done) | rfl
theorem d_jdk_30_method_1_0 : decode jdk_30_method_1_code 0 = .ok (.aload_n 0, 1) := by decide +kernel
theorem d_jdk_30_method_1_1 : decode jdk_30_method_1_code 1 = .ok (.invokespecial 1, 3) := by decide +kernel
theorem d_jdk_30_method_1_4 : decode jdk_30_method_1_code 4 = .ok (.return_, 1) := by decide +kernel
def QRec (Z : State) (a : Addr) (h0 : Heap) (n0 : Nat) (v : Option Value) (h : Heap) (L : List Loc) : Prop := v = none ∧ Fr n0 L ∧ h = h0
set_option maxRecDepth 65536 in
set_option maxHeartbeats 40000000 in
theorem rmRec (l : Launch) (Z : State) (a0 : Array Value) (hw : ∀ d ∈ tables_1, d.before a0 Z = true) (ws : List Jvm.Cond) (a : Addr) (h0 : Heap) (n0 : Nat) (Z0 : n0 ≤ h0.size) :
    MetFree l (⟨"java/lang/Record", "<init>", "()V"⟩ : MethodName) (head1 (Jvm.Cond.code (⟨"java/lang/Record", "<init>", "()V"⟩ : MethodName) jdk_30_method_1_code 1 none :: ws) ({ frames := 1, cells := 0, slots := 0, locals := 12 } : Room)) (fun aa UU => aa = #[(.ref a)] ∧ Z.Warmed39 UU.vm ∧ UU.heap = h0) (fun _ _ _ _ _ => True) (fun _ UU oo UU' => ∃ vv LL, oo = .returned vv ∧ QRec Z a h0 n0 vv UU'.heap LL ∧ FrameEnd UU oo UU' LL ({ frames := 1, cells := 0, slots := 0, locals := 12 } : Room).cells ({ frames := 1, cells := 0, slots := 0, locals := 12 } : Room).slots) := by
  refine MetFree.of_bodySF (plainFor_of_name pn_0) hisR ?_
  intro p e s m args below meth c s₁ Bd hml0 hP hK
  obtain ⟨rfl, hZ, hh⟩ := hP
  have hx := Bd.exec
  have hby := Bd.bytes
  have hml : c.maxLocals = 1 := hml0
  have hown : s.vm.findClass "java/lang/Record" = some m.cls := findClass_of_methodNamed Bd.named
  have hnm := (name_of_methodNamed Bd.named Bd.method).1
  have hW : ∀ (k : Nat) (d : Jvm.Cond), tables_1[k]? = some d → d.before a0 Z = true := fun k d h => hw d (List.mem_of_getElem? h)
  have X0 : Stand p l e ({ frames := 1, cells := 0, slots := 0, locals := 12 } : Room) s m #[(.ref a)] below meth c s₁ [] 0 0 := Stand.of_body Bd
  have e0 : s₁.heap = h0 := by rw [← hh, Bd.state]; rfl
  have N0 := Fr.nil n0
  obtain ⟨G, hG, K0⟩ : ∃ G : State → Prop, (∀ t, G t → Steps p.tables e below (s₁.setTop (entryFrame m #[(.ref a)] 1)) t) ∧ Go p e below s₁ (mkF m 0 #[.val (.ref a)] []) G := ⟨fun t => Steps p.tables e below (s₁.setTop (entryFrame m #[(.ref a)] 1)) t, fun _ h => h, fun t k => castTop (ef_jdk_30_method_1_R m a) k⟩
  have K1 : Go p e below s₁ (mkF m 1 #[.val (.ref a)] [(.ref a)]) G := fun t k => K0 t (XS.aloadN X0.here hx rfl (hb hby d_jdk_30_method_1_0) rfl rfl k)
  obtain ⟨T2, X2, e2, st2⟩ := initO X0 hx hZ hown (hW 11 _ rfl) (hW 12 _ rfl) (hW 13 _ rfl) e0 (g := (mkF m 1 #[.val (.ref a)] [(.ref a)])) rfl (by rw [hml]; rfl) rfl (hb hby d_jdk_30_method_1_1) (by decide) (W := 0) (by show 2 * 0 + _ ≤ _; exact Nat.le_of_eq rfl) (by decide)
  have K3 : Go p e below T2 (mkF m 4 #[.val (.ref a)] []) G := fun t k => K1 t (st2 t k)
  obtain ⟨fs, hr, hrun, hended, hWW, hsame⟩ := X2.leave (v := none) (fun _ => rfl)
  refine ⟨_, _, hG _ (K3 _ (X2.returnOut hx Bd.returns (hb hby d_jdk_30_method_1_4) hr)), hrun, hended, _, _, rfl, ?_, ⟨_, rfl⟩, hWW, hsame.mono (by decide) (by decide)⟩
  show QRec Z a h0 n0 _ T2.heap _
  rw [e2]
  exact ⟨rfl, N0, rfl⟩
theorem pn_5 : plainName "com/example/ledgerwright/ledgerwright/bookie/EntryLogs$Usage" = true := by first | (simp [plainName, overriddenIn]; done) | decide +kernel
theorem ef_prog_39_method_1_RJJJ (m : MethodId) (x0 : Addr) (x1 : Int64) (x2 : Int64) (x3 : Int64) : entryFrame m #[(.ref x0), (.long x1), (.long x2), (.long x3)] 7 = mkF m 0 #[.val (.ref x0), .val (.long x1), .second, .val (.long x2), .second, .val (.long x3), .second] [] := by first | (simp [entryFrame, mkF, argsToLocals, Value.category]; done) | rfl
theorem pd_7 : parseMethodDescriptor "()V" = some ⟨[], none⟩ := by decide +kernel
theorem d_prog_39_method_1_0 : decode prog_39_method_1_code 0 = .ok (.aload_n 0, 1) := by decide +kernel
theorem d_prog_39_method_1_1 : decode prog_39_method_1_code 1 = .ok (.invokespecial 1, 3) := by decide +kernel
theorem d_prog_39_method_1_4 : decode prog_39_method_1_code 4 = .ok (.aload_n 0, 1) := by decide +kernel
theorem d_prog_39_method_1_5 : decode prog_39_method_1_code 5 = .ok (.lload_n 1, 1) := by decide +kernel
theorem d_prog_39_method_1_6 : decode prog_39_method_1_code 6 = .ok (.putfield 7, 3) := by decide +kernel
theorem d_prog_39_method_1_9 : decode prog_39_method_1_code 9 = .ok (.aload_n 0, 1) := by decide +kernel
theorem d_prog_39_method_1_10 : decode prog_39_method_1_code 10 = .ok (.lload_n 3, 1) := by decide +kernel
theorem d_prog_39_method_1_11 : decode prog_39_method_1_code 11 = .ok (.putfield 13, 3) := by decide +kernel
theorem d_prog_39_method_1_14 : decode prog_39_method_1_code 14 = .ok (.aload_n 0, 1) := by decide +kernel
theorem d_prog_39_method_1_15 : decode prog_39_method_1_code 15 = .ok (.lload 5, 2) := by decide +kernel
theorem d_prog_39_method_1_17 : decode prog_39_method_1_code 17 = .ok (.putfield 16, 3) := by decide +kernel
theorem d_prog_39_method_1_20 : decode prog_39_method_1_code 20 = .ok (.return_, 1) := by decide +kernel
def QIni (Z : State) (a : Addr) (p1 : Int64) (p2 : Int64) (p3 : Int64) (h0 : Heap) (n0 : Nat) (v : Option Value) (h : Heap) (L : List Loc) : Prop := v = none ∧ Fr n0 L ∧ Keep h0 h [a] ∧ Exa Z h a "com/example/ledgerwright/ledgerwright/bookie/EntryLogs$Usage" ∧ Fld Z h a "com/example/ledgerwright/ledgerwright/bookie/EntryLogs$Usage" "live" "J" (.long p2)
set_option maxRecDepth 65536 in
set_option maxHeartbeats 40000000 in
theorem rmIni (l : Launch) (Z : State) (a0 : Array Value) (hw : ∀ d ∈ tables_1, d.before a0 Z = true) (ws : List Jvm.Cond) (a : Addr) (p1 : Int64) (p2 : Int64) (p3 : Int64) (h0 : Heap) (n0 : Nat) (Z0 : n0 ≤ h0.size) (F_logId_a : Fld Z h0 a "com/example/ledgerwright/ledgerwright/bookie/EntryLogs$Usage" "logId" "J" (.long (0 : Int64))) (F_live_a : Fld Z h0 a "com/example/ledgerwright/ledgerwright/bookie/EntryLogs$Usage" "live" "J" (.long (0 : Int64))) (F_size_a : Fld Z h0 a "com/example/ledgerwright/ledgerwright/bookie/EntryLogs$Usage" "size" "J" (.long (0 : Int64))) (E_a : Exa Z h0 a "com/example/ledgerwright/ledgerwright/bookie/EntryLogs$Usage") (ge_a : n0 ≤ a) :
    MetFree l (⟨"com/example/ledgerwright/ledgerwright/bookie/EntryLogs$Usage", "<init>", "(JJJ)V"⟩ : MethodName) (head1 (Jvm.Cond.code (⟨"com/example/ledgerwright/ledgerwright/bookie/EntryLogs$Usage", "<init>", "(JJJ)V"⟩ : MethodName) prog_39_method_1_code 7 none :: ws) ({ frames := 2, cells := 0, slots := 0, locals := 24 } : Room)) (fun aa UU => aa = #[(.ref a), (.long p1), (.long p2), (.long p3)] ∧ Z.Warmed39 UU.vm ∧ UU.heap = h0) (fun _ _ _ _ _ => True) (fun _ UU oo UU' => ∃ vv LL, oo = .returned vv ∧ QIni Z a p1 p2 p3 h0 n0 vv UU'.heap LL ∧ FrameEnd UU oo UU' LL ({ frames := 2, cells := 0, slots := 0, locals := 24 } : Room).cells ({ frames := 2, cells := 0, slots := 0, locals := 24 } : Room).slots) := by
  refine MetFree.of_bodySF (plainFor_of_name pn_5) hisR ?_
  intro p e s m args below meth c s₁ Bd hml0 hP hK
  obtain ⟨rfl, hZ, hh⟩ := hP
  have hx := Bd.exec
  have hby := Bd.bytes
  have hml : c.maxLocals = 7 := hml0
  have hown : s.vm.findClass "com/example/ledgerwright/ledgerwright/bookie/EntryLogs$Usage" = some m.cls := findClass_of_methodNamed Bd.named
  have hnm := (name_of_methodNamed Bd.named Bd.method).1
  have hW : ∀ (k : Nat) (d : Jvm.Cond), tables_1[k]? = some d → d.before a0 Z = true := fun k d h => hw d (List.mem_of_getElem? h)
  have X0 : Stand p l e ({ frames := 2, cells := 0, slots := 0, locals := 24 } : Room) s m #[(.ref a), (.long p1), (.long p2), (.long p3)] below meth c s₁ [] 0 0 := Stand.of_body Bd
  have e0 : s₁.heap = h0 := by rw [← hh, Bd.state]; rfl
  have N0 := Fr.nil n0
  obtain ⟨G, hG, K0⟩ : ∃ G : State → Prop, (∀ t, G t → Steps p.tables e below (s₁.setTop (entryFrame m #[(.ref a), (.long p1), (.long p2), (.long p3)] 7)) t) ∧ Go p e below s₁ (mkF m 0 #[.val (.ref a), .val (.long p1), .second, .val (.long p2), .second, .val (.long p3), .second] []) G := ⟨fun t => Steps p.tables e below (s₁.setTop (entryFrame m #[(.ref a), (.long p1), (.long p2), (.long p3)] 7)) t, fun _ h => h, fun t k => castTop (ef_prog_39_method_1_RJJJ m a p1 p2 p3) k⟩
  have K4 : Go p e below s₁ (mkF m 1 #[.val (.ref a), .val (.long p1), .second, .val (.long p2), .second, .val (.long p3), .second] [(.ref a)]) G := fun t k => K0 t (XS.aloadN X0.here hx rfl (hb hby d_prog_39_method_1_0) rfl rfl k)
  obtain ⟨v5, _, ⟨T5, L5, k5, n5⟩, -, X5, ⟨Lc5, hQ5, l5, y5, z5⟩, st5⟩ := X0.specialBack hx (y := (⟨"java/lang/Record", "<init>", "()V"⟩ : MethodName)) rfl hown (mvT hZ (hW 6 _ rfl)) (mvT hZ (hW 7 _ rfl)) (mvT hZ (hW 10 _ rfl)) (by decide) (backOf (W := 0) (rmRec l Z a0 hw [] a h0 n0 Z0) hZ (hW 10 _ rfl) (hW 9 _ rfl) (by decide) (by decide)) (g := (mkF m 1 #[.val (.ref a), .val (.long p1), .second, .val (.long p2), .second, .val (.long p3), .second] [(.ref a)])) rfl (by rw [hml]; rfl) (Steps.refl _) (a := a) (argsL := []) (rest := []) (lenOf pd_7 rfl) rfl (by show 2 * 0 + _ ≤ _; exact Nat.le_of_eq rfl) (hb hby d_prog_39_method_1_1) (fun _ _ => ⟨rfl, e0, (by decide : 0 + 0 ≤ _), (by decide : 0 + 0 ≤ _)⟩)
  dsimp only [Pt.U, Pt.locs, Pt.cells, Pt.slots] at X5 l5 y5 z5 st5 hQ5
  subst l5 y5 z5
  obtain ⟨rfl, N5q, E5q⟩ := hQ5
  have N5 := Fr.app N0 N5q
  have K6 : Go p e below T5 (mkF m 4 #[.val (.ref a), .val (.long p1), .second, .val (.long p2), .second, .val (.long p3), .second] []) G := fun t k => K4 t (st5.trans k)
  have K7 : Go p e below T5 (mkF m 5 #[.val (.ref a), .val (.long p1), .second, .val (.long p2), .second, .val (.long p3), .second] [(.ref a)]) G := fun t k => K6 t (XS.aloadN X5.here hx rfl (hb hby d_prog_39_method_1_4) rfl rfl k)
  have K8 : Go p e below T5 (mkF m 6 #[.val (.ref a), .val (.long p1), .second, .val (.long p2), .second, .val (.long p3), .second] [(.long p1), (.ref a)]) G := fun t k => K7 t (XS.lloadN X5.here hx rfl (hb hby d_prog_39_method_1_5) rfl k)
  obtain ⟨T9, h9, X9, e9, W9, st9⟩ := putF X5 hx hZ hown (host := "") (Or.inl (hW 14 _ rfl)) Via.refl E5q F_logId_a E_a (Or.inr ⟨(hW 15 _ rfl), rfl, hnm⟩) (hW 1 _ rfl) (ty := .long) (by decide) rfl rfl (g := (mkF m 6 #[.val (.ref a), .val (.long p1), .second, .val (.long p2), .second, .val (.long p3), .second] [(.long p1), (.ref a)])) rfl rfl (hb hby d_prog_39_method_1_6)
  have N9 := Fr.snoc X9 N5 ge_a
  have F9 := Fld.same W9 F_logId_a
  have K10 : Go p e below T9 (mkF m 9 #[.val (.ref a), .val (.long p1), .second, .val (.long p2), .second, .val (.long p3), .second] []) G := fun t k => K8 t (st9 t k)
  have K11 : Go p e below T9 (mkF m 10 #[.val (.ref a), .val (.long p1), .second, .val (.long p2), .second, .val (.long p3), .second] [(.ref a)]) G := fun t k => K10 t (XS.aloadN X9.here hx rfl (hb hby d_prog_39_method_1_9) rfl rfl k)
  have K12 : Go p e below T9 (mkF m 11 #[.val (.ref a), .val (.long p1), .second, .val (.long p2), .second, .val (.long p3), .second] [(.long p2), (.ref a)]) G := fun t k => K11 t (XS.lloadN X9.here hx rfl (hb hby d_prog_39_method_1_10) rfl k)
  obtain ⟨T13, h13, X13, e13, W13, st13⟩ := putF X9 hx hZ hown (host := "") (Or.inl (hW 16 _ rfl)) Via.refl e9 (F_live_a.other W9 (Or.inr (slot_ne (Or.inr (hW 17 _ rfl)) (Or.inr (hW 15 _ rfl)) (by decide) (t := .long) (t' := .long) (by decide) (by decide)))) (E_a.wr W9) (Or.inr ⟨(hW 17 _ rfl), rfl, hnm⟩) (hW 1 _ rfl) (ty := .long) (by decide) rfl rfl (g := (mkF m 11 #[.val (.ref a), .val (.long p1), .second, .val (.long p2), .second, .val (.long p3), .second] [(.long p2), (.ref a)])) rfl rfl (hb hby d_prog_39_method_1_11)
  have N13 := Fr.snoc X13 N9 ge_a
  have F13 := Fld.same W13 (F_live_a.other W9 (Or.inr (slot_ne (Or.inr (hW 17 _ rfl)) (Or.inr (hW 15 _ rfl)) (by decide) (t := .long) (t' := .long) (by decide) (by decide))))
  have K14 : Go p e below T13 (mkF m 14 #[.val (.ref a), .val (.long p1), .second, .val (.long p2), .second, .val (.long p3), .second] []) G := fun t k => K12 t (st13 t k)
  have K15 : Go p e below T13 (mkF m 15 #[.val (.ref a), .val (.long p1), .second, .val (.long p2), .second, .val (.long p3), .second] [(.ref a)]) G := fun t k => K14 t (XS.aloadN X13.here hx rfl (hb hby d_prog_39_method_1_14) rfl rfl k)
  have K16 : Go p e below T13 (mkF m 17 #[.val (.ref a), .val (.long p1), .second, .val (.long p2), .second, .val (.long p3), .second] [(.long p3), (.ref a)]) G := fun t k => K15 t (XS.lload X13.here hx rfl (hb hby d_prog_39_method_1_15) rfl k)
  obtain ⟨T17, h17, X17, e17, W17, st17⟩ := putF X13 hx hZ hown (host := "") (Or.inl (hW 18 _ rfl)) Via.refl e13 ((F_size_a.other W9 (Or.inr (slot_ne (Or.inr (hW 19 _ rfl)) (Or.inr (hW 15 _ rfl)) (by decide) (t := .long) (t' := .long) (by decide) (by decide)))).other W13 (Or.inr (slot_ne (Or.inr (hW 19 _ rfl)) (Or.inr (hW 17 _ rfl)) (by decide) (t := .long) (t' := .long) (by decide) (by decide)))) ((E_a.wr W9).wr W13) (Or.inr ⟨(hW 19 _ rfl), rfl, hnm⟩) (hW 1 _ rfl) (ty := .long) (by decide) rfl rfl (g := (mkF m 17 #[.val (.ref a), .val (.long p1), .second, .val (.long p2), .second, .val (.long p3), .second] [(.long p3), (.ref a)])) rfl rfl (hb hby d_prog_39_method_1_17)
  have N17 := Fr.snoc X17 N13 ge_a
  have F17 := Fld.same W17 ((F_size_a.other W9 (Or.inr (slot_ne (Or.inr (hW 19 _ rfl)) (Or.inr (hW 15 _ rfl)) (by decide) (t := .long) (t' := .long) (by decide) (by decide)))).other W13 (Or.inr (slot_ne (Or.inr (hW 19 _ rfl)) (Or.inr (hW 17 _ rfl)) (by decide) (t := .long) (t' := .long) (by decide) (by decide))))
  have K18 : Go p e below T17 (mkF m 20 #[.val (.ref a), .val (.long p1), .second, .val (.long p2), .second, .val (.long p3), .second] []) G := fun t k => K16 t (st17 t k)
  obtain ⟨fs, hr, hrun, hended, hWW, hsame⟩ := X17.leave (v := none) (fun _ => rfl)
  refine ⟨_, _, hG _ (K18 _ (X17.returnOut hx Bd.returns (hb hby d_prog_39_method_1_20) hr)), hrun, hended, _, _, rfl, ?_, ⟨_, rfl⟩, hWW, hsame.mono (by decide) (by decide)⟩
  show QIni Z a p1 p2 p3 h0 n0 _ T17.heap _
  rw [e17]
  exact ⟨rfl, N17, ((((Keep.refl h0 [a]).wr W9 (Or.inl (List.mem_of_getElem? (i := 0) rfl))).wr W13 (Or.inl (List.mem_of_getElem? (i := 0) rfl))).wr W17 (Or.inl (List.mem_of_getElem? (i := 0) rfl))), (((E_a.wr W9).wr W13).wr W17), (F13.other W17 (Or.inr (slot_ne (Or.inr (hW 17 _ rfl)) (Or.inr (hW 19 _ rfl)) (by decide) (t := .long) (t' := .long) (by decide) (by decide))))⟩
theorem ef_prog_39_method_3_R (m : MethodId) (x0 : Addr) : entryFrame m #[(.ref x0)] 1 = mkF m 0 #[.val (.ref x0)] [] := by first | (simp [entryFrame, mkF, argsToLocals, Value.category]; done) | rfl
theorem d_prog_39_method_3_0 : decode prog_39_method_3_code 0 = .ok (.aload_n 0, 1) := by decide +kernel
theorem d_prog_39_method_3_1 : decode prog_39_method_3_code 1 = .ok (.getfield 13, 3) := by decide +kernel
theorem d_prog_39_method_3_4 : decode prog_39_method_3_code 4 = .ok (.lconst 0, 1) := by decide +kernel
theorem d_prog_39_method_3_5 : decode prog_39_method_3_code 5 = .ok (.lcmp, 1) := by decide +kernel
theorem d_prog_39_method_3_6 : decode prog_39_method_3_code 6 = .ok (.ifCond .ne 7, 3) := by decide +kernel
theorem d_prog_39_method_3_9 : decode prog_39_method_3_code 9 = .ok (.iconst 1, 1) := by decide +kernel
theorem d_prog_39_method_3_10 : decode prog_39_method_3_code 10 = .ok (.goto 4, 3) := by decide +kernel
theorem d_prog_39_method_3_13 : decode prog_39_method_3_code 13 = .ok (.iconst 0, 1) := by decide +kernel
theorem d_prog_39_method_3_14 : decode prog_39_method_3_code 14 = .ok (.ireturn, 1) := by decide +kernel
def QEmp (Z : State) (a : Addr) (w : Int64) (h0 : Heap) (n0 : Nat) (v : Option Value) (h : Heap) (L : List Loc) : Prop := v = some (.int (if w = (0 : Int64) then (1 : Int32) else 0)) ∧ Fr n0 L ∧ h = h0
set_option maxRecDepth 65536 in
set_option maxHeartbeats 40000000 in
theorem rmEmp (l : Launch) (Z : State) (a0 : Array Value) (hw : ∀ d ∈ tables_1, d.before a0 Z = true) (ws : List Jvm.Cond) (a : Addr) (w : Int64) (h0 : Heap) (n0 : Nat) (Z0 : n0 ≤ h0.size) (F_live_a : Fld Z h0 a "com/example/ledgerwright/ledgerwright/bookie/EntryLogs$Usage" "live" "J" (.long w)) :
    MetFree l (⟨"com/example/ledgerwright/ledgerwright/bookie/EntryLogs$Usage", "empty", "()Z"⟩ : MethodName) (head1 (Jvm.Cond.code (⟨"com/example/ledgerwright/ledgerwright/bookie/EntryLogs$Usage", "empty", "()Z"⟩ : MethodName) prog_39_method_3_code 1 (some .boolean) :: ws) ({ frames := 0, cells := 0, slots := 0, locals := 0 } : Room)) (fun aa UU => aa = #[(.ref a)] ∧ Z.Warmed39 UU.vm ∧ UU.heap = h0) (fun _ _ _ _ _ => True) (fun _ UU oo UU' => ∃ vv LL, oo = .returned vv ∧ QEmp Z a w h0 n0 vv UU'.heap LL ∧ FrameEnd UU oo UU' LL ({ frames := 0, cells := 0, slots := 0, locals := 0 } : Room).cells ({ frames := 0, cells := 0, slots := 0, locals := 0 } : Room).slots) := by
  refine MetFree.of_bodySF (plainFor_of_name pn_5) hisR ?_
  intro p e s m args below meth c s₁ Bd hml0 hP hK
  obtain ⟨rfl, hZ, hh⟩ := hP
  have hx := Bd.exec
  have hby := Bd.bytes
  have hml : c.maxLocals = 1 := hml0
  have hown : s.vm.findClass "com/example/ledgerwright/ledgerwright/bookie/EntryLogs$Usage" = some m.cls := findClass_of_methodNamed Bd.named
  have hnm := (name_of_methodNamed Bd.named Bd.method).1
  have hW : ∀ (k : Nat) (d : Jvm.Cond), tables_1[k]? = some d → d.before a0 Z = true := fun k d h => hw d (List.mem_of_getElem? h)
  have X0 : Stand p l e ({ frames := 0, cells := 0, slots := 0, locals := 0 } : Room) s m #[(.ref a)] below meth c s₁ [] 0 0 := Stand.of_body Bd
  have e0 : s₁.heap = h0 := by rw [← hh, Bd.state]; rfl
  have N0 := Fr.nil n0
  obtain ⟨G, hG, K0⟩ : ∃ G : State → Prop, (∀ t, G t → Steps p.tables e below (s₁.setTop (entryFrame m #[(.ref a)] 1)) t) ∧ Go p e below s₁ (mkF m 0 #[.val (.ref a)] []) G := ⟨fun t => Steps p.tables e below (s₁.setTop (entryFrame m #[(.ref a)] 1)) t, fun _ h => h, fun t k => castTop (ef_prog_39_method_3_R m a) k⟩
  have K19 : Go p e below s₁ (mkF m 1 #[.val (.ref a)] [(.ref a)]) G := fun t k => K0 t (XS.aloadN X0.here hx rfl (hb hby d_prog_39_method_3_0) rfl rfl k)
  obtain ⟨T20, X20, e20, st20⟩ := getF X0 hx hZ hown (host := "") (Or.inl (hW 16 _ rfl)) Via.refl e0 F_live_a (g := (mkF m 1 #[.val (.ref a)] [(.ref a)])) rfl rfl (hb hby d_prog_39_method_3_1)
  have K21 : Go p e below T20 (mkF m 4 #[.val (.ref a)] [(.long w)]) G := fun t k => K19 t (st20 t k)
  have K22 : Go p e below T20 (mkF m 5 #[.val (.ref a)] [(.long (0 : Int64)), (.long w)]) G := fun t k => K21 t (XS.lconst X20.here hx rfl (hb hby d_prog_39_method_3_4) k)
  have K23 : Go p e below T20 (mkF m 6 #[.val (.ref a)] [(.int (lcmpW w (0 : Int64)))]) G := fun t k => K22 t (XS.lcmp X20.here hx rfl (hb hby d_prog_39_method_3_5) rfl k)
  by_cases hc24 : w = (0 : Int64)
  · skip
    have K25 : Go p e below T20 (mkF m 9 #[.val (.ref a)] []) G := fun t k => K23 t (XS.ifNo X20.here hx rfl (hb hby d_prog_39_method_3_6) rfl ((if0 _ _).trans (teq ((lw_eq _ _).mpr hc24)).2) k)
    have K26 : Go p e below T20 (mkF m 10 #[.val (.ref a)] [(.int (1 : Int32))]) G := fun t k => K25 t (XS.iconst X20.here hx rfl (hb hby d_prog_39_method_3_9) k)
    have K27 : Go p e below T20 (mkF m 14 #[.val (.ref a)] [(.int (1 : Int32))]) G := fun t k => K26 t (XS.goto X20.here hx rfl (pc0 := 10) (pc' := 14) rfl (hb hby d_prog_39_method_3_10) (by decide) (by decide) k)
    obtain ⟨fs, hr, hrun, hended, hWW, hsame⟩ := X20.leave (v := some (.int (1 : Int32))) (fun h => by rw [Bd.returns] at h; cases h)
    refine ⟨_, _, hG _ (K27 _ (retN X20 hx (t := .boolean) Bd.returns (by simp) (hb hby d_prog_39_method_3_14) hr)), hrun, hended, _, _, rfl, ?_, ⟨_, rfl⟩, hWW, hsame.mono (by decide) (by decide)⟩
    show QEmp Z a w h0 n0 _ T20.heap _
    rw [e20]
    exact ⟨by simp [hc24], N0, rfl⟩
  · skip
    have K28 : Go p e below T20 (mkF m 13 #[.val (.ref a)] []) G := fun t k => K23 t (XS.ifYes X20.here hx rfl (pc0 := 6) (pc' := 13) rfl (hb hby d_prog_39_method_3_6) rfl ((if0 _ _).trans (feq (fun z => hc24 ((lw_eq _ _).mp z))).2) (by decide) (by decide) k)
    have K29 : Go p e below T20 (mkF m 14 #[.val (.ref a)] [(.int (0 : Int32))]) G := fun t k => K28 t (XS.iconst X20.here hx rfl (hb hby d_prog_39_method_3_13) k)
    obtain ⟨fs, hr, hrun, hended, hWW, hsame⟩ := X20.leave (v := some (.int (0 : Int32))) (fun h => by rw [Bd.returns] at h; cases h)
    refine ⟨_, _, hG _ (K29 _ (retN X20 hx (t := .boolean) Bd.returns (by simp) (hb hby d_prog_39_method_3_14) hr)), hrun, hended, _, _, rfl, ?_, ⟨_, rfl⟩, hWW, hsame.mono (by decide) (by decide)⟩
    show QEmp Z a w h0 n0 _ T20.heap _
    rw [e20]
    exact ⟨by simp [hc24], N0, rfl⟩
theorem pn_30 : plainName "com/example/ledgerwright/ledgerwright/bookie/UsageEmptyPinLaw" = true := by first | (simp [plainName, overriddenIn]; done) | decide +kernel
theorem ef_code_JJJI (m : MethodId) (x0 : Int64) (x1 : Int64) (x2 : Int64) (x3 : Int32) : entryFrame m #[(.long x0), (.long x1), (.long x2), (.int x3)] maxLocals = mkF m 0 #[.val (.long x0), .second, .val (.long x1), .second, .val (.long x2), .second, .val (.int x3), .unset, .unset, .unset, .unset] [] := by first | (simp [entryFrame, mkF, argsToLocals, Value.category, maxLocals]; done) | rfl
theorem pd_32 : parseMethodDescriptor "(JJJ)V" = some ⟨[.long, .long, .long], none⟩ := by decide +kernel
theorem pd_33 : parseMethodDescriptor "()Z" = some ⟨[], some .boolean⟩ := by decide +kernel
def Q0 (Z : State) (q0 : Int64) (q1 : Int64) (q2 : Int64) (q3 : Int32) (h0 : Heap) (n0 : Nat) (v : Option Value) (h : Heap) (L : List Loc) : Prop := v = some (.int 1) ∧ Fr n0 L
set_option maxRecDepth 65536 in
set_option maxHeartbeats 40000000 in
theorem rm0 (l : Launch) (Z : State) (a0 : Array Value) (hw : ∀ d ∈ tables_1, d.before a0 Z = true) (ws : List Jvm.Cond) (q0 : Int64) (q1 : Int64) (q2 : Int64) (q3 : Int32) (h0 : Heap) (n0 : Nat) (Z0 : n0 ≤ h0.size) :
    MetFree l x (head1 (Jvm.Cond.code x code maxLocals ret :: ws) room_1) (fun aa UU => aa = #[(.long q0), (.long q1), (.long q2), (.int q3)] ∧ Z.Warmed39 UU.vm ∧ UU.heap = h0) (fun _ _ _ _ _ => True) (fun _ UU oo UU' => ∃ vv LL, oo = .returned vv ∧ Q0 Z q0 q1 q2 q3 h0 n0 vv UU'.heap LL ∧ FrameEnd UU oo UU' LL 16 128) := by
  refine MetFree.of_bodySF (plainFor_of_name pn_30) hisR ?_
  intro p e s m args below meth c s₁ Bd hml0 hP hK
  obtain ⟨rfl, hZ, hh⟩ := hP
  have hx := Bd.exec
  have hby := Bd.bytes
  have hml : c.maxLocals = 11 := hml0
  have hown : s.vm.findClass "com/example/ledgerwright/ledgerwright/bookie/UsageEmptyPinLaw" = some m.cls := findClass_of_methodNamed Bd.named
  have hnm := (name_of_methodNamed Bd.named Bd.method).1
  have hW : ∀ (k : Nat) (d : Jvm.Cond), tables_1[k]? = some d → d.before a0 Z = true := fun k d h => hw d (List.mem_of_getElem? h)
  have X0 : Stand p l e room_1 s m #[(.long q0), (.long q1), (.long q2), (.int q3)] below meth c s₁ [] 0 0 := Stand.of_body Bd
  have e0 : s₁.heap = h0 := by rw [← hh, Bd.state]; rfl
  have N0 := Fr.nil n0
  obtain ⟨G, hG, K0⟩ : ∃ G : State → Prop, (∀ t, G t → Steps p.tables e below (s₁.setTop (entryFrame m #[(.long q0), (.long q1), (.long q2), (.int q3)] maxLocals)) t) ∧ Go p e below s₁ (mkF m 0 #[.val (.long q0), .second, .val (.long q1), .second, .val (.long q2), .second, .val (.int q3), .unset, .unset, .unset, .unset] []) G := ⟨fun t => Steps p.tables e below (s₁.setTop (entryFrame m #[(.long q0), (.long q1), (.long q2), (.int q3)] maxLocals)) t, fun _ h => h, fun t k => castTop (ef_code_JJJI m q0 q1 q2 q3) k⟩
  obtain ⟨lv, Kj30⟩ : ∃ (lv : Int64), Go p e below s₁ (mkF m 12 #[.val (.long q0), .second, .val (.long q1), .second, .val (.long q2), .second, .val (.int q3), .unset, .unset, .unset, .unset] [(.long lv)]) G := by
    have K31 : Go p e below s₁ (mkF m 2 #[.val (.long q0), .second, .val (.long q1), .second, .val (.long q2), .second, .val (.int q3), .unset, .unset, .unset, .unset] [(.int q3)]) G := fun t k => K0 t (XS.iload X0.here hx rfl (hb hby at_0) rfl k)
    have K32 : Go p e below s₁ (mkF m 3 #[.val (.long q0), .second, .val (.long q1), .second, .val (.long q2), .second, .val (.int q3), .unset, .unset, .unset, .unset] [(.int (1 : Int32)), (.int q3)]) G := fun t k => K31 t (XS.iconst X0.here hx rfl (hb hby at_2) k)
    have K33 : Go p e below s₁ (mkF m 4 #[.val (.long q0), .second, .val (.long q1), .second, .val (.long q2), .second, .val (.int q3), .unset, .unset, .unset, .unset] [(.int (q3 &&& (1 : Int32)))]) G := fun t k => K32 t (XS.iand X0.here hx rfl (hb hby at_3) rfl k)
    by_cases hc34 : (q3 &&& (1 : Int32)) = (0 : Int32)
    · skip
      have K35 : Go p e below s₁ (mkF m 11 #[.val (.long q0), .second, .val (.long q1), .second, .val (.long q2), .second, .val (.int q3), .unset, .unset, .unset, .unset] []) G := fun t k => K33 t (XS.ifYes X0.here hx rfl (pc0 := 4) (pc' := 11) rfl (hb hby at_4) rfl ((if0 _ _).trans (teq hc34).1) (by decide) (by decide) k)
      have K36 : Go p e below s₁ (mkF m 12 #[.val (.long q0), .second, .val (.long q1), .second, .val (.long q2), .second, .val (.int q3), .unset, .unset, .unset, .unset] [(.long q1)]) G := fun t k => K35 t (XS.lloadN X0.here hx rfl (hb hby at_11) rfl k)
      exact ⟨q1, K36⟩
    · skip
      have K37 : Go p e below s₁ (mkF m 7 #[.val (.long q0), .second, .val (.long q1), .second, .val (.long q2), .second, .val (.int q3), .unset, .unset, .unset, .unset] []) G := fun t k => K33 t (XS.ifNo X0.here hx rfl (hb hby at_4) rfl ((if0 _ _).trans (feq hc34).1) k)
      have K38 : Go p e below s₁ (mkF m 8 #[.val (.long q0), .second, .val (.long q1), .second, .val (.long q2), .second, .val (.int q3), .unset, .unset, .unset, .unset] [(.long (0 : Int64))]) G := fun t k => K37 t (XS.lconst X0.here hx rfl (hb hby at_7) k)
      have K39 : Go p e below s₁ (mkF m 12 #[.val (.long q0), .second, .val (.long q1), .second, .val (.long q2), .second, .val (.int q3), .unset, .unset, .unset, .unset] [(.long (0 : Int64))]) G := fun t k => K38 t (XS.goto X0.here hx rfl (pc0 := 8) (pc' := 12) rfl (hb hby at_8) (by decide) (by decide) k)
      exact ⟨(0 : Int64), K39⟩
  have K40 : Go p e below s₁ (mkF m 14 #[.val (.long q0), .second, .val (.long q1), .second, .val (.long q2), .second, .val (.int q3), .val (.long lv), .second, .unset, .unset] []) G := fun t k => Kj30 t (XS.lstore X0.here hx rfl (hb hby at_12) rfl (l' := #[.val (.long q0), .second, .val (.long q1), .second, .val (.long q2), .second, .val (.int q3), .val (.long lv), .second, .unset, .unset]) rfl k)
  obtain ⟨T41, h41, X41, e41, E41, A41, D41, -, st41⟩ := newO X0 hx hZ hown (hW 0 _ rfl) (hW 1 _ rfl) (hW 2 _ rfl) e0 (g := (mkF m 14 #[.val (.long q0), .second, .val (.long q1), .second, .val (.long q2), .second, .val (.int q3), .val (.long lv), .second, .unset, .unset] [])) rfl (hb hby at_14) (by decide) (by decide)
  obtain ⟨b41, g41⟩ : ∃ z, z = h0.size := ⟨_, rfl⟩
  rw [← g41] at A41 D41 st41
  have ge_b41 : n0 ≤ b41 := Nat.le_trans Z0 (Nat.le_of_eq g41.symm)
  have sz_b41 : h0.size ≤ b41 := Nat.le_trans ((Keep.refl h0 [])).1 (Nat.le_of_eq g41.symm)
  have F41_logId : Fld Z h41 b41 "com/example/ledgerwright/ledgerwright/bookie/EntryLogs$Usage" "logId" "J" (.long (0 : Int64)) := D41 (Or.inr (hW 15 _ rfl)) (ty := .long) (by decide)
  have F41_live : Fld Z h41 b41 "com/example/ledgerwright/ledgerwright/bookie/EntryLogs$Usage" "live" "J" (.long (0 : Int64)) := D41 (Or.inr (hW 17 _ rfl)) (ty := .long) (by decide)
  have F41_size : Fld Z h41 b41 "com/example/ledgerwright/ledgerwright/bookie/EntryLogs$Usage" "size" "J" (.long (0 : Int64)) := D41 (Or.inr (hW 19 _ rfl)) (ty := .long) (by decide)
  have K42 : Go p e below T41 (mkF m 17 #[.val (.long q0), .second, .val (.long q1), .second, .val (.long q2), .second, .val (.int q3), .val (.long lv), .second, .unset, .unset] [(.ref b41)]) G := fun t k => K40 t (st41 t k)
  have K43 : Go p e below T41 (mkF m 18 #[.val (.long q0), .second, .val (.long q1), .second, .val (.long q2), .second, .val (.int q3), .val (.long lv), .second, .unset, .unset] [(.ref b41), (.ref b41)]) G := fun t k => K42 t (XS.dup X41.here hx rfl (hb hby at_17) rfl rfl k)
  have K44 : Go p e below T41 (mkF m 19 #[.val (.long q0), .second, .val (.long q1), .second, .val (.long q2), .second, .val (.int q3), .val (.long lv), .second, .unset, .unset] [(.long q0), (.ref b41), (.ref b41)]) G := fun t k => K43 t (XS.lloadN X41.here hx rfl (hb hby at_18) rfl k)
  have K45 : Go p e below T41 (mkF m 21 #[.val (.long q0), .second, .val (.long q1), .second, .val (.long q2), .second, .val (.int q3), .val (.long lv), .second, .unset, .unset] [(.long lv), (.long q0), (.ref b41), (.ref b41)]) G := fun t k => K44 t (XS.lload X41.here hx rfl (hb hby at_19) rfl k)
  have K46 : Go p e below T41 (mkF m 23 #[.val (.long q0), .second, .val (.long q1), .second, .val (.long q2), .second, .val (.int q3), .val (.long lv), .second, .unset, .unset] [(.long q2), (.long lv), (.long q0), (.ref b41), (.ref b41)]) G := fun t k => K45 t (XS.lload X41.here hx rfl (hb hby at_21) rfl k)
  obtain ⟨v47, _, ⟨T47, L47, k47, n47⟩, -, X47, ⟨Lc47, hQ47, l47, y47, z47⟩, st47⟩ := X41.specialBack hx (y := (⟨"com/example/ledgerwright/ledgerwright/bookie/EntryLogs$Usage", "<init>", "(JJJ)V"⟩ : MethodName)) rfl hown (mvT hZ (hW 3 _ rfl)) (mvT hZ (hW 4 _ rfl)) (mvT hZ (hW 5 _ rfl)) (by decide) (backOf (W := 1) (rmIni l Z a0 hw [] b41 q0 lv q2 h41 n0 (Nat.le_trans Z0 E41.1) F41_logId F41_live F41_size A41 ge_b41) hZ (hW 5 _ rfl) (hW 2 _ rfl) (by decide) (by decide)) (g := (mkF m 23 #[.val (.long q0), .second, .val (.long q1), .second, .val (.long q2), .second, .val (.int q3), .val (.long lv), .second, .unset, .unset] [(.long q2), (.long lv), (.long q0), (.ref b41), (.ref b41)])) rfl (by rw [hml]; rfl) (Steps.refl _) (a := b41) (argsL := [(.long q0), (.long lv), (.long q2)]) (rest := [(.ref b41)]) (lenOf pd_32 rfl) rfl (by show 2 * 0 + _ ≤ _; exact Nat.le_of_eq rfl) (hb hby at_23) (fun _ _ => ⟨rfl, e41, (by decide : 1 + 0 ≤ _), (by decide : 3 + 0 ≤ _)⟩)
  dsimp only [Pt.U, Pt.locs, Pt.cells, Pt.slots] at X47 l47 y47 z47 st47 hQ47
  subst l47 y47 z47
  obtain ⟨rfl, N47q, K47q, E47q, F47q⟩ := hQ47
  have N47 := Fr.app N0 N47q
  have K48 : Go p e below T47 (mkF m 26 #[.val (.long q0), .second, .val (.long q1), .second, .val (.long q2), .second, .val (.int q3), .val (.long lv), .second, .unset, .unset] [(.ref b41)]) G := fun t k => K46 t (st47.trans k)
  have K49 : Go p e below T47 (mkF m 28 #[.val (.long q0), .second, .val (.long q1), .second, .val (.long q2), .second, .val (.int q3), .val (.long lv), .second, .val (.ref b41), .unset] []) G := fun t k => K48 t (XS.astore X47.here hx rfl (hb hby at_26) rfl rfl (l' := #[.val (.long q0), .second, .val (.long q1), .second, .val (.long q2), .second, .val (.int q3), .val (.long lv), .second, .val (.ref b41), .unset]) rfl k)
  have K50 : Go p e below T47 (mkF m 30 #[.val (.long q0), .second, .val (.long q1), .second, .val (.long q2), .second, .val (.int q3), .val (.long lv), .second, .val (.ref b41), .unset] [(.long lv)]) G := fun t k => K49 t (XS.lload X47.here hx rfl (hb hby at_28) rfl k)
  have K51 : Go p e below T47 (mkF m 31 #[.val (.long q0), .second, .val (.long q1), .second, .val (.long q2), .second, .val (.int q3), .val (.long lv), .second, .val (.ref b41), .unset] [(.long (0 : Int64)), (.long lv)]) G := fun t k => K50 t (XS.lconst X47.here hx rfl (hb hby at_30) k)
  have K52 : Go p e below T47 (mkF m 32 #[.val (.long q0), .second, .val (.long q1), .second, .val (.long q2), .second, .val (.int q3), .val (.long lv), .second, .val (.ref b41), .unset] [(.int (lcmpW lv (0 : Int64)))]) G := fun t k => K51 t (XS.lcmp X47.here hx rfl (hb hby at_31) rfl k)
  by_cases hc53 : lv = (0 : Int64)
  · skip
    have K54 : Go p e below T47 (mkF m 35 #[.val (.long q0), .second, .val (.long q1), .second, .val (.long q2), .second, .val (.int q3), .val (.long lv), .second, .val (.ref b41), .unset] []) G := fun t k => K52 t (XS.ifNo X47.here hx rfl (hb hby at_32) rfl ((if0 _ _).trans (teq ((lw_eq _ _).mpr hc53)).2) k)
    have K55 : Go p e below T47 (mkF m 36 #[.val (.long q0), .second, .val (.long q1), .second, .val (.long q2), .second, .val (.int q3), .val (.long lv), .second, .val (.ref b41), .unset] [(.int (1 : Int32))]) G := fun t k => K54 t (XS.iconst X47.here hx rfl (hb hby at_35) k)
    have K56 : Go p e below T47 (mkF m 40 #[.val (.long q0), .second, .val (.long q1), .second, .val (.long q2), .second, .val (.int q3), .val (.long lv), .second, .val (.ref b41), .unset] [(.int (1 : Int32))]) G := fun t k => K55 t (XS.goto X47.here hx rfl (pc0 := 36) (pc' := 40) rfl (hb hby at_36) (by decide) (by decide) k)
    have K57 : Go p e below T47 (mkF m 42 #[.val (.long q0), .second, .val (.long q1), .second, .val (.long q2), .second, .val (.int q3), .val (.long lv), .second, .val (.ref b41), .val (.int (1 : Int32))] []) G := fun t k => K56 t (XS.istore X47.here hx rfl (hb hby at_40) rfl (l' := #[.val (.long q0), .second, .val (.long q1), .second, .val (.long q2), .second, .val (.int q3), .val (.long lv), .second, .val (.ref b41), .val (.int (1 : Int32))]) rfl k)
    have K58 : Go p e below T47 (mkF m 44 #[.val (.long q0), .second, .val (.long q1), .second, .val (.long q2), .second, .val (.int q3), .val (.long lv), .second, .val (.ref b41), .val (.int (1 : Int32))] [(.ref b41)]) G := fun t k => K57 t (XS.aload X47.here hx rfl (hb hby at_42) rfl rfl k)
    obtain ⟨cq59, kq59, q59a, q59b, q59c⟩ := isOf hZ rfl E47q
    obtain ⟨v59, _, ⟨T59, L59, k59, n59⟩, -, X59, ⟨Lc59, hQ59, l59, y59, z59⟩, st59⟩ := X47.virtualBack hx (y := (⟨"com/example/ledgerwright/ledgerwright/bookie/EntryLogs$Usage", "empty", "()Z"⟩ : MethodName)) (z := (⟨"com/example/ledgerwright/ledgerwright/bookie/EntryLogs$Usage", "empty", "()Z"⟩ : MethodName)) hown (mvT hZ (hW 20 _ rfl)) (mvT hZ (hW 21 _ rfl)) (notFace_of_selects (args := #[]) (mvT hZ (hW 23 _ rfl))) (mvT hZ (hW 23 _ rfl)) (mvT hZ (hW 22 _ rfl)) (by decide) (backOf (W := 0) (rmEmp l Z a0 hw [] b41 lv T47.heap n0 (Nat.le_trans (Nat.le_trans Z0 E41.1) K47q.1) F47q) hZ (hW 24 _ rfl) (hW 2 _ rfl) (by decide) (by decide)) q59a q59c (g := (mkF m 44 #[.val (.long q0), .second, .val (.long q1), .second, .val (.long q2), .second, .val (.int q3), .val (.long lv), .second, .val (.ref b41), .val (.int (1 : Int32))] [(.ref b41)])) rfl (by rw [hml]; rfl) (Steps.refl _) (argsL := []) (rest := []) (lenOf pd_33 rfl) rfl (by show 2 * 0 + _ ≤ _; exact Nat.le_of_eq rfl) (hb hby at_44) (fun _ _ => ⟨rfl, rfl, (by decide : 1 + 0 ≤ _), (by decide : 3 + 0 ≤ _)⟩)
    dsimp only [Pt.U, Pt.locs, Pt.cells, Pt.slots] at X59 l59 y59 z59 st59 hQ59
    subst l59 y59 z59
    rw [QEmp, if_pos hc53] at hQ59
    obtain ⟨rfl, N59q, E59q⟩ := hQ59
    have N59 := Fr.app N47 N59q
    have K60 : Go p e below T59 (mkF m 47 #[.val (.long q0), .second, .val (.long q1), .second, .val (.long q2), .second, .val (.int q3), .val (.long lv), .second, .val (.ref b41), .val (.int (1 : Int32))] [(.int (1 : Int32))]) G := fun t k => K58 t (st59.trans k)
    have K61 : Go p e below T59 (mkF m 49 #[.val (.long q0), .second, .val (.long q1), .second, .val (.long q2), .second, .val (.int q3), .val (.long lv), .second, .val (.ref b41), .val (.int (1 : Int32))] [(.int (1 : Int32)), (.int (1 : Int32))]) G := fun t k => K60 t (XS.iload X59.here hx rfl (hb hby at_47) rfl k)
    have K62 : Go p e below T59 (mkF m 52 #[.val (.long q0), .second, .val (.long q1), .second, .val (.long q2), .second, .val (.int q3), .val (.long lv), .second, .val (.ref b41), .val (.int (1 : Int32))] []) G := fun t k => K61 t (XS.icmpNo X59.here hx rfl (hb hby at_49) rfl ((teq (by decide : (1 : Int32) = (1 : Int32))).2) k)
    have K63 : Go p e below T59 (mkF m 53 #[.val (.long q0), .second, .val (.long q1), .second, .val (.long q2), .second, .val (.int q3), .val (.long lv), .second, .val (.ref b41), .val (.int (1 : Int32))] [(.int (1 : Int32))]) G := fun t k => K62 t (XS.iconst X59.here hx rfl (hb hby at_52) k)
    have K64 : Go p e below T59 (mkF m 57 #[.val (.long q0), .second, .val (.long q1), .second, .val (.long q2), .second, .val (.int q3), .val (.long lv), .second, .val (.ref b41), .val (.int (1 : Int32))] [(.int (1 : Int32))]) G := fun t k => K63 t (XS.goto X59.here hx rfl (pc0 := 53) (pc' := 57) rfl (hb hby at_53) (by decide) (by decide) k)
    obtain ⟨fs, hr, hrun, hended, hWW, hsame⟩ := X59.leave (v := some (.int (1 : Int32))) (fun h => by rw [Bd.returns] at h; cases h)
    refine ⟨_, _, hG _ (K64 _ (retN X59 hx (t := .boolean) Bd.returns (by simp) (hb hby at_57) hr)), hrun, hended, _, _, rfl, ?_, ⟨_, rfl⟩, hWW, hsame.mono (by decide) (by decide)⟩
    show Q0 Z q0 q1 q2 q3 h0 n0 _ T59.heap _
    rw [E59q]
    exact ⟨rfl, N59⟩
  · skip
    have K65 : Go p e below T47 (mkF m 39 #[.val (.long q0), .second, .val (.long q1), .second, .val (.long q2), .second, .val (.int q3), .val (.long lv), .second, .val (.ref b41), .unset] []) G := fun t k => K52 t (XS.ifYes X47.here hx rfl (pc0 := 32) (pc' := 39) rfl (hb hby at_32) rfl ((if0 _ _).trans (feq (fun z => hc53 ((lw_eq _ _).mp z))).2) (by decide) (by decide) k)
    have K66 : Go p e below T47 (mkF m 40 #[.val (.long q0), .second, .val (.long q1), .second, .val (.long q2), .second, .val (.int q3), .val (.long lv), .second, .val (.ref b41), .unset] [(.int (0 : Int32))]) G := fun t k => K65 t (XS.iconst X47.here hx rfl (hb hby at_39) k)
    have K67 : Go p e below T47 (mkF m 42 #[.val (.long q0), .second, .val (.long q1), .second, .val (.long q2), .second, .val (.int q3), .val (.long lv), .second, .val (.ref b41), .val (.int (0 : Int32))] []) G := fun t k => K66 t (XS.istore X47.here hx rfl (hb hby at_40) rfl (l' := #[.val (.long q0), .second, .val (.long q1), .second, .val (.long q2), .second, .val (.int q3), .val (.long lv), .second, .val (.ref b41), .val (.int (0 : Int32))]) rfl k)
    have K68 : Go p e below T47 (mkF m 44 #[.val (.long q0), .second, .val (.long q1), .second, .val (.long q2), .second, .val (.int q3), .val (.long lv), .second, .val (.ref b41), .val (.int (0 : Int32))] [(.ref b41)]) G := fun t k => K67 t (XS.aload X47.here hx rfl (hb hby at_42) rfl rfl k)
    obtain ⟨cq69, kq69, q69a, q69b, q69c⟩ := isOf hZ rfl E47q
    obtain ⟨v69, _, ⟨T69, L69, k69, n69⟩, -, X69, ⟨Lc69, hQ69, l69, y69, z69⟩, st69⟩ := X47.virtualBack hx (y := (⟨"com/example/ledgerwright/ledgerwright/bookie/EntryLogs$Usage", "empty", "()Z"⟩ : MethodName)) (z := (⟨"com/example/ledgerwright/ledgerwright/bookie/EntryLogs$Usage", "empty", "()Z"⟩ : MethodName)) hown (mvT hZ (hW 20 _ rfl)) (mvT hZ (hW 21 _ rfl)) (notFace_of_selects (args := #[]) (mvT hZ (hW 23 _ rfl))) (mvT hZ (hW 23 _ rfl)) (mvT hZ (hW 22 _ rfl)) (by decide) (backOf (W := 0) (rmEmp l Z a0 hw [] b41 lv T47.heap n0 (Nat.le_trans (Nat.le_trans Z0 E41.1) K47q.1) F47q) hZ (hW 24 _ rfl) (hW 2 _ rfl) (by decide) (by decide)) q69a q69c (g := (mkF m 44 #[.val (.long q0), .second, .val (.long q1), .second, .val (.long q2), .second, .val (.int q3), .val (.long lv), .second, .val (.ref b41), .val (.int (0 : Int32))] [(.ref b41)])) rfl (by rw [hml]; rfl) (Steps.refl _) (argsL := []) (rest := []) (lenOf pd_33 rfl) rfl (by show 2 * 0 + _ ≤ _; exact Nat.le_of_eq rfl) (hb hby at_44) (fun _ _ => ⟨rfl, rfl, (by decide : 1 + 0 ≤ _), (by decide : 3 + 0 ≤ _)⟩)
    dsimp only [Pt.U, Pt.locs, Pt.cells, Pt.slots] at X69 l69 y69 z69 st69 hQ69
    subst l69 y69 z69
    rw [QEmp, if_neg hc53] at hQ69
    obtain ⟨rfl, N69q, E69q⟩ := hQ69
    have N69 := Fr.app N47 N69q
    have K70 : Go p e below T69 (mkF m 47 #[.val (.long q0), .second, .val (.long q1), .second, .val (.long q2), .second, .val (.int q3), .val (.long lv), .second, .val (.ref b41), .val (.int (0 : Int32))] [(.int (0 : Int32))]) G := fun t k => K68 t (st69.trans k)
    have K71 : Go p e below T69 (mkF m 49 #[.val (.long q0), .second, .val (.long q1), .second, .val (.long q2), .second, .val (.int q3), .val (.long lv), .second, .val (.ref b41), .val (.int (0 : Int32))] [(.int (0 : Int32)), (.int (0 : Int32))]) G := fun t k => K70 t (XS.iload X69.here hx rfl (hb hby at_47) rfl k)
    have K72 : Go p e below T69 (mkF m 52 #[.val (.long q0), .second, .val (.long q1), .second, .val (.long q2), .second, .val (.int q3), .val (.long lv), .second, .val (.ref b41), .val (.int (0 : Int32))] []) G := fun t k => K71 t (XS.icmpNo X69.here hx rfl (hb hby at_49) rfl ((teq (by decide : (0 : Int32) = (0 : Int32))).2) k)
    have K73 : Go p e below T69 (mkF m 53 #[.val (.long q0), .second, .val (.long q1), .second, .val (.long q2), .second, .val (.int q3), .val (.long lv), .second, .val (.ref b41), .val (.int (0 : Int32))] [(.int (1 : Int32))]) G := fun t k => K72 t (XS.iconst X69.here hx rfl (hb hby at_52) k)
    have K74 : Go p e below T69 (mkF m 57 #[.val (.long q0), .second, .val (.long q1), .second, .val (.long q2), .second, .val (.int q3), .val (.long lv), .second, .val (.ref b41), .val (.int (0 : Int32))] [(.int (1 : Int32))]) G := fun t k => K73 t (XS.goto X69.here hx rfl (pc0 := 53) (pc' := 57) rfl (hb hby at_53) (by decide) (by decide) k)
    obtain ⟨fs, hr, hrun, hended, hWW, hsame⟩ := X69.leave (v := some (.int (1 : Int32))) (fun h => by rw [Bd.returns] at h; cases h)
    refine ⟨_, _, hG _ (K74 _ (retN X69 hx (t := .boolean) Bd.returns (by simp) (hb hby at_57) hr)), hrun, hended, _, _, rfl, ?_, ⟨_, rfl⟩, hWW, hsame.mono (by decide) (by decide)⟩
    show Q0 Z q0 q1 q2 q3 h0 n0 _ T69.heap _
    rw [E69q]
    exact ⟨rfl, N69⟩
set_option maxRecDepth 65536 in
set_option maxHeartbeats 40000000 in
theorem comes_1 {Post : Tables → Env → Array Value → State → Outcome → State → Prop} (hpost : ∀ tb e args s v u, (limb_1_1.after args s (.returned v) u = true ∧ limb_1_2.after args s (.returned v) u = true ∧ True) → FrameEnd s (.returned v) u (Jvm.fieldLocs frame_1_writes args s ++ Jvm.arrayLocs frame_1_arrays args s ++ Jvm.staticLocs frame_1_statics s) 16 128 → Post tb e args s (.returned v) u) :
    ArmFor flags0 classFile x code maxLocals ret World_1 tables_1 room_1 Calls_1 rest_1 Pre_1 Post := by
  intro l hfl _ _ p e ha hc hk s m args below hf hA hF happ hP
  obtain ⟨hcalls, hrest, hpre⟩ := hP
  obtain ⟨-, -, -, hnamed, -, -, -, hat⟩ := (Spec.applies_iff hf).mp happ
  obtain ⟨hg, hn⟩ := and_e (Cond.before_iff.mp (show (Jvm.Cond.and given_1 narrow_1).before args s = true from hpre))
  obtain ⟨gg1, gg2⟩ := and_e hg
  obtain ⟨gg3, gg4⟩ := and_e gg2
  obtain ⟨gg5, gg6⟩ := and_e gg4
  obtain ⟨gg7, gg8⟩ := and_e gg6
  obtain ⟨w0, w1, w2, w3, rfl⟩ : ∃ w0 w1 w2 w3 : Value, args = #[w0, w1, w2, w3] := by
    have hs : args.size = 4 := by simpa [Cond.value, given_1] using gg1
    obtain ⟨L⟩ := args
    match L, hs with
    | [w0, w1, w2, w3], _ => exact ⟨w0, w1, w2, w3, rfl⟩
  have hw := fun d (hd : d ∈ tables_1) => atoms_spec (ws := Jvm.Cond.code x code maxLocals ret :: tables_1) hat d (List.mem_cons_of_mem _ hd)
  have hW : ∀ (k : Nat) (d : Jvm.Cond), tables_1[k]? = some d → d.before _ s = true := fun k d h => hw d (List.mem_of_getElem? h)
  have hfit : Fit s := fun {y c} hc i hi => by
    obtain ⟨ha, rfl⟩ := Array.getElem?_eq_some_iff.mp hc
    have q := List.all_eq_true.mp ((Array.all_eq_true_iff_forall_mem.mp hF) _ (Array.getElem_mem ha)) i (List.mem_range.mpr hi)
    simpa [Array.getElem?_eq_getElem hi] using q
  obtain ⟨i0, ei0⟩ := isL_v gg3
  obtain rfl : w0 = (.long i0) := Option.some.inj ei0
  obtain ⟨i1, ei1⟩ := isL_v gg5
  obtain rfl : w1 = (.long i1) := Option.some.inj ei1
  obtain ⟨i2, ei2⟩ := isL_v gg7
  obtain rfl : w2 = (.long i2) := Option.some.inj ei2
  obtain ⟨i3, ei3⟩ := is_v gg8
  obtain rfl : w3 = (.int i3) := Option.some.inj ei3
  obtain ⟨n, o, h1, h2, h3, _, L, rfl, ⟨rfl, N⟩, hq⟩ := rm0 l s _ hw tables_1 i0 i1 i2 i3  s.heap s.heap.size (Nat.le_refl _)  p e ha hc hk s m _ below hf ((Spec.applies_iff_loose hf).mp happ).1 ⟨rfl, State.Warmed39.refl s, rfl⟩ trivial
  refine ⟨n, _, h1, h2, h3, hpost _ _ _ _ _ _ ⟨Cond.after_iff.mpr rfl, Cond.after_iff.mpr (eq_i res_at (Term.int_eval (1)) rfl), trivial⟩ ⟨hq.1, hq.2.1, (hq.2.2.sift fun y hy => Or.inr (N y hy)).mono (by decide) (by decide)⟩⟩
theorem main_1_1 : Claimed_1_1 := comes_1 fun _ _ _ _ _ _ h hF => ⟨h.1, hF⟩
theorem main_1_2 : Claimed_1_2 := comes_1 fun _ _ _ _ _ _ h hF => ⟨h.2.1, hF⟩
end Jvm.Pilot.@@N@@
namespace Jvm.Pilot.@@N@@
open Jvm Jvm.ClassFile Sem Op Lib Jvm.Free Jvm.Stand Jvm.Pilot.@@N@@.Jvm.D
/-! MADE BY PROGRAM (witnessworld.py) out of the Statement's table words and the real class files: 10 classes; the members and pool entries that the words name. The judged class is class 1, her method 1. -/
namespace start1
open Jvm.ClassFile
def u (s : String) : CpInfo := .utf8 (stringToUtf16 s)
/-- a pool by its gaps: so many unusable entries, then the entry; so many at the end -/
def gap : Nat → List CpInfo → List CpInfo
  | 0, r => r
  | n + 1, r => .unusable :: gap n r
def poolList (es : List (Nat × CpInfo)) (last : Nat) : List CpInfo := es.foldr (fun e r => gap e.1 (e.2 :: r)) (gap last [])
def pool (es : List (Nat × CpInfo)) (last : Nat) : Array CpInfo := ⟨poolList es last⟩
def fileOf (pool : Array CpInfo) (this : Nat) (attrs : Array Attribute := #[]) (ms : Array MethodInfo := #[]) (fl : Nat := 33) (sup : Nat := 0) (ifs : Array Nat := #[]) (fds : Array FieldInfo := #[]) : ClassFile where
  minorVersion := 0
  majorVersion := 65
  constantPool := pool
  accessFlags := fl
  thisClass := this
  superClass := sup
  interfaces := ifs
  fields := fds
  methods := ms
  attributes := attrs
def plain (name : String) (sup : Option ClassId) : Class where
  name := name
  kind := .ordinary
  loader := none
  accessFlags := 33
  super := sup
  interfaces := #[]
  cf := none
  fields := #[]
  methods := #[]
  instanceTypes := #[]
  staticTypes := #[]
  resolved := #[]
  callSites := []
  init := .initialized
  statics := none
  mirror := none

def pool0 : Array CpInfo := pool [(5, u "<init>"), (0, u "()V"), (1, .class_ 10), (1, u "java/lang/Object")] 113

def k0c0 : Code := { maxStack := 0, maxLocals := 1, code := object_method_1_code, exceptionTable := #[], attributes := #[] }
def k0m0 : Method := { name := "<init>", desc := "()V", sig := { parameters := [], returnType := none }, accessFlags := 1, code := some k0c0 }
/-- java/lang/Object -/
def k0 : Class := { plain "java/lang/Object" none with
  accessFlags := 33
  interfaces := #[]
  cf := some (fileOf pool0 8 #[] #[{ accessFlags := 1, nameIndex := 5, descriptorIndex := 6, attributes := #[] }] 33 0 #[] #[])
  fields := #[]
  methods := #[k0m0]
  instanceTypes := #[]
  staticTypes := #[]
  resolved := Array.replicate 124 none
  statics := none }

def pool1 : Array CpInfo := pool [(2, .class_ 4), (1, u "java/lang/Object"), (0, u "<init>"), (0, u "()V"), (0, .class_ 8), (0, u "com/example/ledgerwright/ledgerwright/bookie/EntryLogs$Usage"), (0, .methodref 7 10), (0, .nameAndType 5 11), (0, u "(JJJ)V"), (0, .methodref 7 13), (0, .nameAndType 14 15), (0, u "empty"), (0, u "()Z"), (0, .class_ 17), (0, u "com/example/ledgerwright/ledgerwright/bookie/UsageEmptyPinLaw"), (2, u "law"), (0, u "(JJJI)Z")] 7

def k1m0 : Method := { name := "<init>", desc := "()V", sig := { parameters := [], returnType := none }, accessFlags := 1, code := none }
def k1c1 : Code := { maxStack := 8, maxLocals := 11, code := code, exceptionTable := #[], attributes := #[] }
def k1m1 : Method := { name := "law", desc := "(JJJI)Z", sig := { parameters := [.long, .long, .long, .int], returnType := some .boolean }, accessFlags := 9, code := some k1c1 }
/-- com/example/ledgerwright/ledgerwright/bookie/UsageEmptyPinLaw -/
def k1 : Class := { plain "com/example/ledgerwright/ledgerwright/bookie/UsageEmptyPinLaw" (some 0) with
  accessFlags := 49
  interfaces := #[]
  cf := some (fileOf pool1 16 #[] #[{ accessFlags := 1, nameIndex := 5, descriptorIndex := 6, attributes := #[] }, { accessFlags := 9, nameIndex := 20, descriptorIndex := 21, attributes := #[] }] 49 2 #[] #[])
  fields := #[]
  methods := #[k1m0, k1m1]
  instanceTypes := #[]
  staticTypes := #[]
  resolved := Array.replicate 29 none
  statics := none }

def pool2 : Array CpInfo := pool [(1, .methodref 2 3), (0, .class_ 4), (0, .nameAndType 5 6), (0, u "java/lang/Object"), (0, u "<init>"), (0, u "()V"), (0, .class_ 8), (0, u "java/lang/Record")] 13

def k2c0 : Code := { maxStack := 1, maxLocals := 1, code := jdk_30_method_1_code, exceptionTable := #[], attributes := #[] }
def k2m0 : Method := { name := "<init>", desc := "()V", sig := { parameters := [], returnType := none }, accessFlags := 4, code := some k2c0 }
/-- java/lang/Record -/
def k2 : Class := { plain "java/lang/Record" (some 0) with
  accessFlags := 1057
  interfaces := #[]
  cf := some (fileOf pool2 7 #[] #[{ accessFlags := 4, nameIndex := 5, descriptorIndex := 6, attributes := #[] }] 1057 2 #[] #[])
  fields := #[]
  methods := #[k2m0]
  instanceTypes := #[]
  staticTypes := #[]
  resolved := Array.replicate 22 none
  statics := none }

def pool3 : Array CpInfo := pool [(1, .methodref 2 3), (0, .class_ 4), (0, .nameAndType 5 6), (0, u "java/lang/Record"), (0, u "<init>"), (0, u "()V"), (0, .fieldref 8 9), (0, .class_ 10), (0, .nameAndType 11 12), (0, u "com/example/ledgerwright/ledgerwright/bookie/EntryLogs$Usage"), (0, u "logId"), (0, u "J"), (0, .fieldref 8 14), (0, .nameAndType 15 12), (0, u "live"), (0, .fieldref 8 17), (0, .nameAndType 18 12), (0, u "size"), (20, u "(JJJ)V"), (3, u "empty"), (0, u "()Z"), (9, .class_ 55), (0, u "com/example/ledgerwright/ledgerwright/bookie/EntryLogs")] 21

def k3c0 : Code := { maxStack := 3, maxLocals := 7, code := prog_39_method_1_code, exceptionTable := #[], attributes := #[] }
def k3m0 : Method := { name := "<init>", desc := "(JJJ)V", sig := { parameters := [.long, .long, .long], returnType := none }, accessFlags := 0, code := some k3c0 }
def k3c1 : Code := { maxStack := 4, maxLocals := 1, code := prog_39_method_3_code, exceptionTable := #[], attributes := #[] }
def k3m1 : Method := { name := "empty", desc := "()Z", sig := { parameters := [], returnType := some .boolean }, accessFlags := 0, code := some k3c1 }
/-- com/example/ledgerwright/ledgerwright/bookie/EntryLogs$Usage -/
def k3 : Class := { plain "com/example/ledgerwright/ledgerwright/bookie/EntryLogs$Usage" (some 2) with
  accessFlags := 48
  interfaces := #[]
  cf := some (fileOf pool3 8 #[.nestHost 54] #[{ accessFlags := 0, nameIndex := 5, descriptorIndex := 39, attributes := #[] }, { accessFlags := 0, nameIndex := 43, descriptorIndex := 44, attributes := #[] }] 48 2 #[] #[{ accessFlags := 18, nameIndex := 11, descriptorIndex := 12, attributes := #[] }, { accessFlags := 18, nameIndex := 15, descriptorIndex := 12, attributes := #[] }, { accessFlags := 18, nameIndex := 18, descriptorIndex := 12, attributes := #[] }])
  fields := #[{ name := "logId", type := .long, accessFlags := 18, slot := 0, constantValue := 0 }, { name := "live", type := .long, accessFlags := 18, slot := 1, constantValue := 0 }, { name := "size", type := .long, accessFlags := 18, slot := 2, constantValue := 0 }]
  methods := #[k3m0, k3m1]
  instanceTypes := #[.long, .long, .long]
  staticTypes := #[]
  resolved := Array.replicate 77 none
  statics := none }

def pool4 : Array CpInfo := pool [(1, u "java/lang/Cloneable"), (0, .class_ 1), (0, u "java/lang/Object"), (0, .class_ 3)] 3

/-- java/lang/Cloneable -/
def k4 : Class := { plain "java/lang/Cloneable" (some 0) with
  accessFlags := 1537
  interfaces := #[]
  cf := some (fileOf pool4 2 #[] #[] 1537 4 #[] #[])
  fields := #[]
  methods := #[]
  instanceTypes := #[]
  staticTypes := #[]
  resolved := Array.replicate 8 none
  statics := none }

def pool5 : Array CpInfo := pool [(1, u "java/io/Serializable"), (0, .class_ 1), (0, u "java/lang/Object"), (0, .class_ 3)] 3

/-- java/io/Serializable -/
def k5 : Class := { plain "java/io/Serializable" (some 0) with
  accessFlags := 1537
  interfaces := #[]
  cf := some (fileOf pool5 2 #[] #[] 1537 4 #[] #[])
  fields := #[]
  methods := #[]
  instanceTypes := #[]
  staticTypes := #[]
  resolved := Array.replicate 8 none
  statics := none }

/-- the primitive byte -/
def k6 : Class := { plain "byte" none with kind := .primitive 'B', accessFlags := 0x411 }
/-- [B -/
def k7 : Class := { plain "[B" (some 0) with kind := .array 6 .byte, interfaces := #[4, 5], accessFlags := 1041 }

/-- the primitive int -/
def k8 : Class := { plain "int" none with kind := .primitive 'I', accessFlags := 0x411 }
/-- [I -/
def k9 : Class := { plain "[I" (some 0) with kind := .array 8 .int, interfaces := #[4, 5], accessFlags := 1041 }

def heap : Heap := #[]
def classes : Array Class := #[k0, k1, k2, k3, k4, k5, k6, k7, k8, k9]
def interned : List (Array UInt16 × Addr) := []
def slotsUsed : Nat := 0
def theMethod : MethodId := ⟨1, 1⟩
def args0 : Array Value := #[.long 5, .long 0, .long 7, .int 3]
def aboutOver (below : List Frame) : State where
  vm := { classes := classes, interned := interned.toArray }
  heap := heap
  slotsUsed := slotsUsed
  threads := #[{ frames := .invoking theMethod args0 :: below }]
def below0 : List Frame := [.native { method := ⟨0, 0⟩, args := #[] }]
def about1 : State := aboutOver below0
def p0 : Program := .bare "" "" ""
def e0 : Env := launch0.env 0 0 0
theorem w_frames : about1.frames = Frame.invoking theMethod args0 :: below0 := rfl
set_option maxRecDepth 65536 in
theorem w_args : argsFit about1.vm theMethod args0 = true := by decide +kernel
set_option maxRecDepth 65536 in
theorem w_heap : heapFits about1 = true := by decide +kernel
set_option maxRecDepth 65536 in
theorem w_runnable : about1.curStatus? = some .runnable := by decide +kernel
set_option maxRecDepth 65536 in
theorem w_alone : about1.alone = true := by decide +kernel
set_option maxRecDepth 65536 in
theorem w_named : about1.methodNamed? x = some theMethod := by decide +kernel
set_option maxRecDepth 65536 in
theorem w_hears : about1.hears theMethod below0 = true := by decide +kernel
set_option maxRecDepth 65536 in
theorem w_ripe : about1.ripe theMethod args0 below0 = true := by decide +kernel
theorem w_running : about1.status = .running := rfl
set_option maxRecDepth 65536 in
theorem w_room : about1.hasRoom e0.platform room_1 = true :=
  launch0.hasRoom_least _ room_1 (by decide +kernel) (by decide +kernel) (by decide +kernel) (by decide +kernel) (by decide +kernel) (by decide +kernel)
theorem allAtoms_all (ts : List Jvm.Cond) (a : Array Jvm.Value) (st : Jvm.State) : (allAtoms ts).before a st = ts.all (fun c => c.before a st) := by
  induction ts with
  | nil => rfl
  | cons c t ih =>
    show (Jvm.Cond.and c (allAtoms t)).before a st = _
    rw [Jvm.Cond.before_and, ih, List.all_cons]
def words1 : List Jvm.Cond := Jvm.Cond.code x code maxLocals ret :: tables_1
/-- a 'code' word, met by the world's own term for the bytes: nothing is compared byte by byte -/
theorem code_word {y : MethodName} {bytes : ByteArray} {mx : Nat} {rt : Option FieldType} {a : Array Value} {s : State} {m : MethodId} {meth : Method} {c : Code} (h1 : s.methodNamed? y = some m) (h2 : s.vm.method? m = some meth) (h3 : meth.code = some c) (h4 : c.code = bytes)
    (h5 : (c.maxLocals == mx && c.exceptionTable.isEmpty && decide (c.maxStack ≤ mostOperands) && decide (meth.sig.returnType = rt) && !meth.locks && decide (parseMethodDescriptor y.desc = some meth.sig)) = true) : (Jvm.Cond.code y bytes mx rt).before a s = true := by
  simp only [Bool.and_eq_true, beq_iff_eq, Bool.not_eq_true', decide_eq_true_eq] at h5
  obtain ⟨⟨⟨⟨⟨g1, g2⟩, g3⟩, g4⟩, g5⟩, g6⟩ := h5
  simp [Cond.before, Cond.holds, Cond.value, h1, h2, h3, h4, g1, g2, g3, g4, g5, g6]
def isCode : Jvm.Cond → Bool
  | .code _ _ _ _ => true
  | _ => false
theorem all_split {L : List Jvm.Cond} {P : Jvm.Cond → Bool} (h1 : L.all (fun c => isCode c || P c) = true) (h2 : ∀ c ∈ L.filter isCode, P c = true) : L.all P = true := by
  refine List.all_eq_true.mpr fun c hc => ?_
  have h := List.all_eq_true.mp h1 c hc
  rcases Bool.eq_false_or_eq_true (isCode c) with hi | hi
  · exact h2 c (List.mem_filter.mpr ⟨hc, hi⟩)
  · simpa [hi] using h
set_option maxRecDepth 65536 in
theorem w_c0 : (Jvm.Cond.code x code maxLocals ret).before args0 about1 = true := code_word (m := ⟨1, 1⟩) (meth := k1m1) (c := k1c1) (by decide +kernel) rfl rfl rfl (by decide +kernel)
set_option maxRecDepth 65536 in
theorem w_c1 : (Jvm.Cond.code ({ cls := "com/example/ledgerwright/ledgerwright/bookie/EntryLogs$Usage", name := "<init>", desc := "(JJJ)V" } : Jvm.MethodName) prog_39_method_1_code (7 : Nat) (Option.none : Option Jvm.ClassFile.FieldType)).before args0 about1 = true := code_word (m := ⟨3, 0⟩) (meth := k3m0) (c := k3c0) (by decide +kernel) rfl rfl rfl (by decide +kernel)
set_option maxRecDepth 65536 in
theorem w_c2 : (Jvm.Cond.code ({ cls := "java/lang/Record", name := "<init>", desc := "()V" } : Jvm.MethodName) jdk_30_method_1_code (1 : Nat) (Option.none : Option Jvm.ClassFile.FieldType)).before args0 about1 = true := code_word (m := ⟨2, 0⟩) (meth := k2m0) (c := k2c0) (by decide +kernel) rfl rfl rfl (by decide +kernel)
set_option maxRecDepth 65536 in
theorem w_c3 : (Jvm.Cond.code ({ cls := "java/lang/Object", name := "<init>", desc := "()V" } : Jvm.MethodName) object_method_1_code (1 : Nat) (Option.none : Option Jvm.ClassFile.FieldType)).before args0 about1 = true := code_word (m := ⟨0, 0⟩) (meth := k0m0) (c := k0c0) (by decide +kernel) rfl rfl rfl (by decide +kernel)
set_option maxRecDepth 65536 in
theorem w_c4 : (Jvm.Cond.code ({ cls := "com/example/ledgerwright/ledgerwright/bookie/EntryLogs$Usage", name := "empty", desc := "()Z" } : Jvm.MethodName) prog_39_method_3_code (1 : Nat) (Option.some Jvm.ClassFile.FieldType.boolean)).before args0 about1 = true := code_word (m := ⟨3, 1⟩) (meth := k3m1) (c := k3c1) (by decide +kernel) rfl rfl rfl (by decide +kernel)
def codes1 : List Jvm.Cond := [Jvm.Cond.code x code maxLocals ret, Jvm.Cond.code ({ cls := "com/example/ledgerwright/ledgerwright/bookie/EntryLogs$Usage", name := "<init>", desc := "(JJJ)V" } : Jvm.MethodName) prog_39_method_1_code (7 : Nat) (Option.none : Option Jvm.ClassFile.FieldType), Jvm.Cond.code ({ cls := "java/lang/Record", name := "<init>", desc := "()V" } : Jvm.MethodName) jdk_30_method_1_code (1 : Nat) (Option.none : Option Jvm.ClassFile.FieldType), Jvm.Cond.code ({ cls := "java/lang/Object", name := "<init>", desc := "()V" } : Jvm.MethodName) object_method_1_code (1 : Nat) (Option.none : Option Jvm.ClassFile.FieldType), Jvm.Cond.code ({ cls := "com/example/ledgerwright/ledgerwright/bookie/EntryLogs$Usage", name := "empty", desc := "()Z" } : Jvm.MethodName) prog_39_method_3_code (1 : Nat) (Option.some Jvm.ClassFile.FieldType.boolean)]
set_option maxRecDepth 65536 in
theorem codes_eq : words1.filter isCode = codes1 := rfl
theorem w_codes : ∀ c ∈ words1.filter isCode, c.before args0 about1 = true := by
  rw [codes_eq]
  intro c hc
  simp only [codes1, List.mem_cons, List.not_mem_nil, or_false] at hc
  rcases hc with rfl | rfl | rfl | rfl | rfl
  · exact w_c0
  · exact w_c1
  · exact w_c2
  · exact w_c3
  · exact w_c4
set_option maxRecDepth 65536 in
theorem w_t1 : (words1.take 24).all (fun c => isCode c || c.before args0 about1) = true := by decide +kernel
set_option maxRecDepth 65536 in
theorem w_t2 : (words1.drop 24).all (fun c => isCode c || c.before args0 about1) = true := by decide +kernel
theorem w_tables : (allAtoms (Jvm.Cond.code x code maxLocals ret :: tables_1)).before args0 about1 = true := by
  rw [allAtoms_all]
  show words1.all (fun c => c.before args0 about1) = true
  refine all_split ?_ w_codes
  rw [← List.take_append_drop 24 words1, List.all_append, w_t1, w_t2]
  rfl
set_option maxRecDepth 65536 in
theorem w_case : (Jvm.Cond.and given_1 narrow_1).before args0 about1 = true := by decide +kernel
theorem w_applies : (headSpec (Jvm.Cond.code x code maxLocals ret :: tables_1) room_1).applies x e0.platform about1 = true :=
  (Spec.applies_iff w_frames).mpr ⟨w_running, w_runnable, w_alone, w_named, w_hears, w_ripe, w_room, w_tables⟩
theorem atStart : AtStart classFile x code maxLocals ret World_1 tables_1 room_1 Calls_1 rest_1 Pre_1 launch0 p0 e0 about1 theMethod args0 below0 :=
  ⟨lists_1, trivial, launch0.admits_env _ _ _, launch0.least_env, fairChoices_fair.cas, fairChoices_fair.clock, w_frames, w_args, w_heap, w_applies, trivial, trivial, w_case⟩
end start1
theorem witness_1 : WitnessClaimed_1 := ⟨start1.p0, start1.e0, start1.about1, start1.theMethod, start1.args0, start1.below0, start1.atStart⟩
end Jvm.Pilot.@@N@@
