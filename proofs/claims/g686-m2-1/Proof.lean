import JvmDerived
import JvmDerived.Pilot.@@N@@Statement
import JvmDerived.Pilot.@@N@@Code
set_option linter.unusedVariables false
set_option linter.unusedSimpArgs false
namespace Jvm.Pilot.@@N@@
open Jvm Jvm.ClassFile Sem Op Lib Jvm.Free Jvm.Stand Jvm.LawKit Jvm.RoadKit Bundle Jvm.Pilot.@@N@@.Jvm.D
/-- every run that goes on from the frame g of T to t is one of G -/
abbrev Go (p : Program) (e : Env) (below : List Frame) (T : State) (g : JFrame) (G : State → Prop) : Prop := ∀ t, Steps p.tables e below (T.setTop g) t → G t
theorem pn_0 : plainName "java/lang/Record" = true := by first | (simp [plainName, overriddenIn]; done) | decide +kernel
theorem ef_jdk_30_method_1_R (m : MethodId) (x0 : Addr) : entryFrame m #[(.ref x0)] 1 = mkF m 0 #[.val (.ref x0)] [] := by first | (simp [entryFrame, mkF, argsToLocals, Value.category]; done) | rfl
theorem d_jdk_30_method_1_0 : decode jdk_30_method_1_code 0 = .ok (.aload_n 0, 1) := by decide +kernel
theorem d_jdk_30_method_1_1 : decode jdk_30_method_1_code 1 = .ok (.invokespecial 1, 3) := by decide +kernel
theorem d_jdk_30_method_1_4 : decode jdk_30_method_1_code 4 = .ok (.return_, 1) := by decide +kernel
def QRec (Z : State) (a : Addr) (h0 : Heap) (n0 : Nat) (v : Option Value) (h : Heap) (L : List Loc) : Prop := v = none ∧ Fr n0 L ∧ h = h0
set_option maxRecDepth 65536 in
set_option maxHeartbeats 40000000 in
theorem rmRec (l : Launch) (Z : State) (a0 : Array Value) (hw : ∀ d ∈ tables_1, d.before a0 Z = true) (ws : List Jvm.Cond) (a : Addr) (h0 : Heap) (n0 : Nat) (Z0 : n0 ≤ h0.size) :
    MetFree l (⟨"java/lang/Record", "<init>", "()V"⟩ : MethodName) (head1 (Jvm.Cond.code (⟨"java/lang/Record", "<init>", "()V"⟩ : MethodName) jdk_30_method_1_code 1 none :: ws) ({ frames := 1, cells := 0, slots := 0, locals := 12 } : Room)) (fun aa UU => aa = #[(.ref a)] ∧ Z.Warmed39 UU.vm ∧ UU.heap = h0) (fun _ _ _ _ _ => True) (fun _ UU oo UU' => ∃ vv LL, oo = .returned vv ∧ QRec Z a h0 n0 vv UU'.heap LL ∧ FrameEnd UU oo UU' LL ({ frames := 1, cells := 0, slots := 0, locals := 12 } : Room).cells ({ frames := 1, cells := 0, slots := 0, locals := 12 } : Room).slots) := by
  refine MetFree.of_bodySF (plainFor_of_name pn_0) hisR ?_
  intro p e s m args below meth c s₁ Bd hml0 hP hK
  obtain ⟨rfl, hZ, hh⟩ := hP
  have hx := Bd.exec
  have hby := Bd.bytes
  have hml : c.maxLocals = 1 := hml0
  have hown : s.vm.findClass "java/lang/Record" = some m.cls := findClass_of_methodNamed Bd.named
  have hnm := (name_of_methodNamed Bd.named Bd.method).1
  have hW : ∀ (k : Nat) (d : Jvm.Cond), tables_1[k]? = some d → d.before a0 Z = true := fun k d h => hw d (List.mem_of_getElem? h)
  have X0 : Stand p l e ({ frames := 1, cells := 0, slots := 0, locals := 12 } : Room) s m #[(.ref a)] below meth c s₁ [] 0 0 := Stand.of_body Bd
  have e0 : s₁.heap = h0 := by rw [← hh, Bd.state]; rfl
  have N0 := Fr.nil n0
  obtain ⟨G, hG, K0⟩ : ∃ G : State → Prop, (∀ t, G t → Steps p.tables e below (s₁.setTop (entryFrame m #[(.ref a)] 1)) t) ∧ Go p e below s₁ (mkF m 0 #[.val (.ref a)] []) G := ⟨fun t => Steps p.tables e below (s₁.setTop (entryFrame m #[(.ref a)] 1)) t, fun _ h => h, fun t k => castTop (ef_jdk_30_method_1_R m a) k⟩
  have K1 : Go p e below s₁ (mkF m 1 #[.val (.ref a)] [(.ref a)]) G := fun t k => K0 t (XS.aloadN X0.here hx rfl (hb hby d_jdk_30_method_1_0) rfl rfl k)
  obtain ⟨T2, X2, e2, st2⟩ := initO X0 hx hZ hown (hW 12 _ rfl) (hW 13 _ rfl) (hW 14 _ rfl) e0 (g := (mkF m 1 #[.val (.ref a)] [(.ref a)])) rfl (by rw [hml]; rfl) rfl (hb hby d_jdk_30_method_1_1) (by decide) (W := 0) (by show 2 * 0 + _ ≤ _; exact Nat.le_of_eq rfl) (by decide)
  have K3 : Go p e below T2 (mkF m 4 #[.val (.ref a)] []) G := fun t k => K1 t (st2 t k)
  obtain ⟨fs, hr, hrun, hended, hWW, hsame⟩ := X2.leave (v := none) (fun _ => rfl)
  refine ⟨_, _, hG _ (K3 _ (X2.returnOut hx Bd.returns (hb hby d_jdk_30_method_1_4) hr)), hrun, hended, _, _, rfl, ?_, ⟨_, rfl⟩, hWW, hsame.mono (by decide) (by decide)⟩
  show QRec Z a h0 n0 _ T2.heap _
  rw [e2]
  exact ⟨rfl, N0, rfl⟩
theorem pn_5 : plainName "com/example/kithmark/kithmark/run/Window" = true := by first | (simp [plainName, overriddenIn]; done) | decide +kernel
theorem ef_prog_26_method_1_RJJ (m : MethodId) (x0 : Addr) (x1 : Int64) (x2 : Int64) : entryFrame m #[(.ref x0), (.long x1), (.long x2)] 5 = mkF m 0 #[.val (.ref x0), .val (.long x1), .second, .val (.long x2), .second] [] := by first | (simp [entryFrame, mkF, argsToLocals, Value.category]; done) | rfl
theorem pd_7 : parseMethodDescriptor "()V" = some ⟨[], none⟩ := by decide +kernel
theorem d_prog_26_method_1_0 : decode prog_26_method_1_code 0 = .ok (.aload_n 0, 1) := by decide +kernel
theorem d_prog_26_method_1_1 : decode prog_26_method_1_code 1 = .ok (.invokespecial 1, 3) := by decide +kernel
theorem d_prog_26_method_1_4 : decode prog_26_method_1_code 4 = .ok (.aload_n 0, 1) := by decide +kernel
theorem d_prog_26_method_1_5 : decode prog_26_method_1_code 5 = .ok (.lload_n 1, 1) := by decide +kernel
theorem d_prog_26_method_1_6 : decode prog_26_method_1_code 6 = .ok (.putfield 7, 3) := by decide +kernel
theorem d_prog_26_method_1_9 : decode prog_26_method_1_code 9 = .ok (.aload_n 0, 1) := by decide +kernel
theorem d_prog_26_method_1_10 : decode prog_26_method_1_code 10 = .ok (.lload_n 3, 1) := by decide +kernel
theorem d_prog_26_method_1_11 : decode prog_26_method_1_code 11 = .ok (.putfield 13, 3) := by decide +kernel
theorem d_prog_26_method_1_14 : decode prog_26_method_1_code 14 = .ok (.return_, 1) := by decide +kernel
def QIni (Z : State) (a : Addr) (p1 : Int64) (p2 : Int64) (h0 : Heap) (n0 : Nat) (v : Option Value) (h : Heap) (L : List Loc) : Prop := v = none ∧ Fr n0 L ∧ Keep h0 h [a] ∧ Exa Z h a "com/example/kithmark/kithmark/run/Window" ∧ Fld Z h a "com/example/kithmark/kithmark/run/Window" "warmupNanos" "J" (.long p1) ∧ Fld Z h a "com/example/kithmark/kithmark/run/Window" "lengthNanos" "J" (.long p2)
set_option maxRecDepth 65536 in
set_option maxHeartbeats 40000000 in
theorem rmIni (l : Launch) (Z : State) (a0 : Array Value) (hw : ∀ d ∈ tables_1, d.before a0 Z = true) (ws : List Jvm.Cond) (a : Addr) (p1 : Int64) (p2 : Int64) (h0 : Heap) (n0 : Nat) (Z0 : n0 ≤ h0.size) (F_warmupNanos_a : Fld Z h0 a "com/example/kithmark/kithmark/run/Window" "warmupNanos" "J" (.long (0 : Int64))) (F_lengthNanos_a : Fld Z h0 a "com/example/kithmark/kithmark/run/Window" "lengthNanos" "J" (.long (0 : Int64))) (E_a : Exa Z h0 a "com/example/kithmark/kithmark/run/Window") (ge_a : n0 ≤ a) :
    MetFree l (⟨"com/example/kithmark/kithmark/run/Window", "<init>", "(JJ)V"⟩ : MethodName) (head1 (Jvm.Cond.code (⟨"com/example/kithmark/kithmark/run/Window", "<init>", "(JJ)V"⟩ : MethodName) prog_26_method_1_code 5 none :: ws) ({ frames := 2, cells := 0, slots := 0, locals := 24 } : Room)) (fun aa UU => aa = #[(.ref a), (.long p1), (.long p2)] ∧ Z.Warmed39 UU.vm ∧ UU.heap = h0) (fun _ _ _ _ _ => True) (fun _ UU oo UU' => ∃ vv LL, oo = .returned vv ∧ QIni Z a p1 p2 h0 n0 vv UU'.heap LL ∧ FrameEnd UU oo UU' LL ({ frames := 2, cells := 0, slots := 0, locals := 24 } : Room).cells ({ frames := 2, cells := 0, slots := 0, locals := 24 } : Room).slots) := by
  refine MetFree.of_bodySF (plainFor_of_name pn_5) hisR ?_
  intro p e s m args below meth c s₁ Bd hml0 hP hK
  obtain ⟨rfl, hZ, hh⟩ := hP
  have hx := Bd.exec
  have hby := Bd.bytes
  have hml : c.maxLocals = 5 := hml0
  have hown : s.vm.findClass "com/example/kithmark/kithmark/run/Window" = some m.cls := findClass_of_methodNamed Bd.named
  have hnm := (name_of_methodNamed Bd.named Bd.method).1
  have hW : ∀ (k : Nat) (d : Jvm.Cond), tables_1[k]? = some d → d.before a0 Z = true := fun k d h => hw d (List.mem_of_getElem? h)
  have X0 : Stand p l e ({ frames := 2, cells := 0, slots := 0, locals := 24 } : Room) s m #[(.ref a), (.long p1), (.long p2)] below meth c s₁ [] 0 0 := Stand.of_body Bd
  have e0 : s₁.heap = h0 := by rw [← hh, Bd.state]; rfl
  have N0 := Fr.nil n0
  obtain ⟨G, hG, K0⟩ : ∃ G : State → Prop, (∀ t, G t → Steps p.tables e below (s₁.setTop (entryFrame m #[(.ref a), (.long p1), (.long p2)] 5)) t) ∧ Go p e below s₁ (mkF m 0 #[.val (.ref a), .val (.long p1), .second, .val (.long p2), .second] []) G := ⟨fun t => Steps p.tables e below (s₁.setTop (entryFrame m #[(.ref a), (.long p1), (.long p2)] 5)) t, fun _ h => h, fun t k => castTop (ef_prog_26_method_1_RJJ m a p1 p2) k⟩
  have K4 : Go p e below s₁ (mkF m 1 #[.val (.ref a), .val (.long p1), .second, .val (.long p2), .second] [(.ref a)]) G := fun t k => K0 t (XS.aloadN X0.here hx rfl (hb hby d_prog_26_method_1_0) rfl rfl k)
  obtain ⟨v5, _, ⟨T5, L5, k5, n5⟩, -, X5, ⟨Lc5, hQ5, l5, y5, z5⟩, st5⟩ := X0.specialBack hx (y := (⟨"java/lang/Record", "<init>", "()V"⟩ : MethodName)) rfl hown (mvT hZ (hW 7 _ rfl)) (mvT hZ (hW 8 _ rfl)) (mvT hZ (hW 11 _ rfl)) (by decide) (backOf (W := 0) (rmRec l Z a0 hw [] a h0 n0 Z0) hZ (hW 11 _ rfl) (hW 10 _ rfl) (by decide) (by decide)) (g := (mkF m 1 #[.val (.ref a), .val (.long p1), .second, .val (.long p2), .second] [(.ref a)])) rfl (by rw [hml]; rfl) (Steps.refl _) (a := a) (argsL := []) (rest := []) (lenOf pd_7 rfl) rfl (by show 2 * 0 + _ ≤ _; exact Nat.le_of_eq rfl) (hb hby d_prog_26_method_1_1) (fun _ _ => ⟨rfl, e0, (by decide : 0 + 0 ≤ _), (by decide : 0 + 0 ≤ _)⟩)
  dsimp only [Pt.U, Pt.locs, Pt.cells, Pt.slots] at X5 l5 y5 z5 st5 hQ5
  subst l5 y5 z5
  obtain ⟨rfl, N5q, E5q⟩ := hQ5
  have N5 := Fr.app N0 N5q
  have K6 : Go p e below T5 (mkF m 4 #[.val (.ref a), .val (.long p1), .second, .val (.long p2), .second] []) G := fun t k => K4 t (st5.trans k)
  have K7 : Go p e below T5 (mkF m 5 #[.val (.ref a), .val (.long p1), .second, .val (.long p2), .second] [(.ref a)]) G := fun t k => K6 t (XS.aloadN X5.here hx rfl (hb hby d_prog_26_method_1_4) rfl rfl k)
  have K8 : Go p e below T5 (mkF m 6 #[.val (.ref a), .val (.long p1), .second, .val (.long p2), .second] [(.long p1), (.ref a)]) G := fun t k => K7 t (XS.lloadN X5.here hx rfl (hb hby d_prog_26_method_1_5) rfl k)
  obtain ⟨T9, h9, X9, e9, W9, st9⟩ := putF X5 hx hZ hown (host := "") (Or.inl (hW 15 _ rfl)) Via.refl E5q F_warmupNanos_a E_a (Or.inr ⟨(hW 16 _ rfl), rfl, hnm⟩) (hW 2 _ rfl) (ty := .long) (by decide) rfl rfl (g := (mkF m 6 #[.val (.ref a), .val (.long p1), .second, .val (.long p2), .second] [(.long p1), (.ref a)])) rfl rfl (hb hby d_prog_26_method_1_6)
  have N9 := Fr.snoc X9 N5 ge_a
  have F9 := Fld.same W9 F_warmupNanos_a
  have K10 : Go p e below T9 (mkF m 9 #[.val (.ref a), .val (.long p1), .second, .val (.long p2), .second] []) G := fun t k => K8 t (st9 t k)
  have K11 : Go p e below T9 (mkF m 10 #[.val (.ref a), .val (.long p1), .second, .val (.long p2), .second] [(.ref a)]) G := fun t k => K10 t (XS.aloadN X9.here hx rfl (hb hby d_prog_26_method_1_9) rfl rfl k)
  have K12 : Go p e below T9 (mkF m 11 #[.val (.ref a), .val (.long p1), .second, .val (.long p2), .second] [(.long p2), (.ref a)]) G := fun t k => K11 t (XS.lloadN X9.here hx rfl (hb hby d_prog_26_method_1_10) rfl k)
  obtain ⟨T13, h13, X13, e13, W13, st13⟩ := putF X9 hx hZ hown (host := "") (Or.inl (hW 17 _ rfl)) Via.refl e9 (F_lengthNanos_a.other W9 (Or.inr (slot_ne (Or.inr (hW 18 _ rfl)) (Or.inr (hW 16 _ rfl)) (by decide) (t := .long) (t' := .long) (by decide) (by decide)))) (E_a.wr W9) (Or.inr ⟨(hW 18 _ rfl), rfl, hnm⟩) (hW 2 _ rfl) (ty := .long) (by decide) rfl rfl (g := (mkF m 11 #[.val (.ref a), .val (.long p1), .second, .val (.long p2), .second] [(.long p2), (.ref a)])) rfl rfl (hb hby d_prog_26_method_1_11)
  have N13 := Fr.snoc X13 N9 ge_a
  have F13 := Fld.same W13 (F_lengthNanos_a.other W9 (Or.inr (slot_ne (Or.inr (hW 18 _ rfl)) (Or.inr (hW 16 _ rfl)) (by decide) (t := .long) (t' := .long) (by decide) (by decide))))
  have K14 : Go p e below T13 (mkF m 14 #[.val (.ref a), .val (.long p1), .second, .val (.long p2), .second] []) G := fun t k => K12 t (st13 t k)
  obtain ⟨fs, hr, hrun, hended, hWW, hsame⟩ := X13.leave (v := none) (fun _ => rfl)
  refine ⟨_, _, hG _ (K14 _ (X13.returnOut hx Bd.returns (hb hby d_prog_26_method_1_14) hr)), hrun, hended, _, _, rfl, ?_, ⟨_, rfl⟩, hWW, hsame.mono (by decide) (by decide)⟩
  show QIni Z a p1 p2 h0 n0 _ T13.heap _
  rw [e13]
  exact ⟨rfl, N13, (((Keep.refl h0 [a]).wr W9 (Or.inl (List.mem_of_getElem? (i := 0) rfl))).wr W13 (Or.inl (List.mem_of_getElem? (i := 0) rfl))), ((E_a.wr W9).wr W13), (F9.other W13 (Or.inr (slot_ne (Or.inr (hW 16 _ rfl)) (Or.inr (hW 18 _ rfl)) (by decide) (t := .long) (t' := .long) (by decide) (by decide)))), F13⟩
theorem ef_prog_26_method_2_R (m : MethodId) (x0 : Addr) : entryFrame m #[(.ref x0)] 1 = mkF m 0 #[.val (.ref x0)] [] := by first | (simp [entryFrame, mkF, argsToLocals, Value.category]; done) | rfl
theorem d_prog_26_method_2_0 : decode prog_26_method_2_code 0 = .ok (.aload_n 0, 1) := by decide +kernel
theorem d_prog_26_method_2_1 : decode prog_26_method_2_code 1 = .ok (.getfield 7, 3) := by decide +kernel
theorem d_prog_26_method_2_4 : decode prog_26_method_2_code 4 = .ok (.aload_n 0, 1) := by decide +kernel
theorem d_prog_26_method_2_5 : decode prog_26_method_2_code 5 = .ok (.getfield 13, 3) := by decide +kernel
theorem d_prog_26_method_2_8 : decode prog_26_method_2_code 8 = .ok (.ladd, 1) := by decide +kernel
theorem d_prog_26_method_2_9 : decode prog_26_method_2_code 9 = .ok (.lreturn, 1) := by decide +kernel
def QClo (Z : State) (a : Addr) (w : Int64) (n : Int64) (h0 : Heap) (n0 : Nat) (v : Option Value) (h : Heap) (L : List Loc) : Prop := v = some (.long (w + n)) ∧ Fr n0 L ∧ h = h0
set_option maxRecDepth 65536 in
set_option maxHeartbeats 40000000 in
theorem rmClo (l : Launch) (Z : State) (a0 : Array Value) (hw : ∀ d ∈ tables_1, d.before a0 Z = true) (ws : List Jvm.Cond) (a : Addr) (w : Int64) (n : Int64) (h0 : Heap) (n0 : Nat) (Z0 : n0 ≤ h0.size) (F_warmupNanos_a : Fld Z h0 a "com/example/kithmark/kithmark/run/Window" "warmupNanos" "J" (.long w)) (F_lengthNanos_a : Fld Z h0 a "com/example/kithmark/kithmark/run/Window" "lengthNanos" "J" (.long n)) :
    MetFree l (⟨"com/example/kithmark/kithmark/run/Window", "closeNanos", "()J"⟩ : MethodName) (head1 (Jvm.Cond.code (⟨"com/example/kithmark/kithmark/run/Window", "closeNanos", "()J"⟩ : MethodName) prog_26_method_2_code 1 (some .long) :: ws) ({ frames := 0, cells := 0, slots := 0, locals := 0 } : Room)) (fun aa UU => aa = #[(.ref a)] ∧ Z.Warmed39 UU.vm ∧ UU.heap = h0) (fun _ _ _ _ _ => True) (fun _ UU oo UU' => ∃ vv LL, oo = .returned vv ∧ QClo Z a w n h0 n0 vv UU'.heap LL ∧ FrameEnd UU oo UU' LL ({ frames := 0, cells := 0, slots := 0, locals := 0 } : Room).cells ({ frames := 0, cells := 0, slots := 0, locals := 0 } : Room).slots) := by
  refine MetFree.of_bodySF (plainFor_of_name pn_5) hisR ?_
  intro p e s m args below meth c s₁ Bd hml0 hP hK
  obtain ⟨rfl, hZ, hh⟩ := hP
  have hx := Bd.exec
  have hby := Bd.bytes
  have hml : c.maxLocals = 1 := hml0
  have hown : s.vm.findClass "com/example/kithmark/kithmark/run/Window" = some m.cls := findClass_of_methodNamed Bd.named
  have hnm := (name_of_methodNamed Bd.named Bd.method).1
  have hW : ∀ (k : Nat) (d : Jvm.Cond), tables_1[k]? = some d → d.before a0 Z = true := fun k d h => hw d (List.mem_of_getElem? h)
  have X0 : Stand p l e ({ frames := 0, cells := 0, slots := 0, locals := 0 } : Room) s m #[(.ref a)] below meth c s₁ [] 0 0 := Stand.of_body Bd
  have e0 : s₁.heap = h0 := by rw [← hh, Bd.state]; rfl
  have N0 := Fr.nil n0
  obtain ⟨G, hG, K0⟩ : ∃ G : State → Prop, (∀ t, G t → Steps p.tables e below (s₁.setTop (entryFrame m #[(.ref a)] 1)) t) ∧ Go p e below s₁ (mkF m 0 #[.val (.ref a)] []) G := ⟨fun t => Steps p.tables e below (s₁.setTop (entryFrame m #[(.ref a)] 1)) t, fun _ h => h, fun t k => castTop (ef_prog_26_method_2_R m a) k⟩
  have K15 : Go p e below s₁ (mkF m 1 #[.val (.ref a)] [(.ref a)]) G := fun t k => K0 t (XS.aloadN X0.here hx rfl (hb hby d_prog_26_method_2_0) rfl rfl k)
  obtain ⟨T16, X16, e16, st16⟩ := getF X0 hx hZ hown (host := "") (Or.inl (hW 15 _ rfl)) Via.refl e0 F_warmupNanos_a (g := (mkF m 1 #[.val (.ref a)] [(.ref a)])) rfl rfl (hb hby d_prog_26_method_2_1)
  have K17 : Go p e below T16 (mkF m 4 #[.val (.ref a)] [(.long w)]) G := fun t k => K15 t (st16 t k)
  have K18 : Go p e below T16 (mkF m 5 #[.val (.ref a)] [(.ref a), (.long w)]) G := fun t k => K17 t (XS.aloadN X16.here hx rfl (hb hby d_prog_26_method_2_4) rfl rfl k)
  obtain ⟨T19, X19, e19, st19⟩ := getF X16 hx hZ hown (host := "") (Or.inl (hW 17 _ rfl)) Via.refl e16 F_lengthNanos_a (g := (mkF m 5 #[.val (.ref a)] [(.ref a), (.long w)])) rfl rfl (hb hby d_prog_26_method_2_5)
  have K20 : Go p e below T19 (mkF m 8 #[.val (.ref a)] [(.long n), (.long w)]) G := fun t k => K18 t (st19 t k)
  have K21 : Go p e below T19 (mkF m 9 #[.val (.ref a)] [(.long (w + n))]) G := fun t k => K20 t (XS.ladd X19.here hx rfl (hb hby d_prog_26_method_2_8) rfl k)
  obtain ⟨fs, hr, hrun, hended, hWW, hsame⟩ := X19.leave (v := some (.long (w + n))) (fun h => by rw [Bd.returns] at h; cases h)
  refine ⟨_, _, hG _ (K21 _ (retOut X19 hx Bd.returns rfl (Or.inr (Or.inl ⟨rfl, rfl, _, rfl⟩)) (hb hby d_prog_26_method_2_9) hr)), hrun, hended, _, _, rfl, ?_, ⟨_, rfl⟩, hWW, hsame.mono (by decide) (by decide)⟩
  show QClo Z a w n h0 n0 _ T19.heap _
  rw [e19]
  exact ⟨rfl, N0, rfl⟩
theorem ef_prog_26_method_3_RJ (m : MethodId) (x0 : Addr) (x1 : Int64) : entryFrame m #[(.ref x0), (.long x1)] 3 = mkF m 0 #[.val (.ref x0), .val (.long x1), .second] [] := by first | (simp [entryFrame, mkF, argsToLocals, Value.category]; done) | rfl
theorem pd_25 : parseMethodDescriptor "()J" = some ⟨[], some .long⟩ := by decide +kernel
theorem d_prog_26_method_3_0 : decode prog_26_method_3_code 0 = .ok (.lload_n 1, 1) := by decide +kernel
theorem d_prog_26_method_3_1 : decode prog_26_method_3_code 1 = .ok (.aload_n 0, 1) := by decide +kernel
theorem d_prog_26_method_3_2 : decode prog_26_method_3_code 2 = .ok (.invokevirtual 16, 3) := by decide +kernel
theorem d_prog_26_method_3_5 : decode prog_26_method_3_code 5 = .ok (.lcmp, 1) := by decide +kernel
theorem d_prog_26_method_3_6 : decode prog_26_method_3_code 6 = .ok (.ifCond .ge 7, 3) := by decide +kernel
theorem d_prog_26_method_3_9 : decode prog_26_method_3_code 9 = .ok (.iconst 1, 1) := by decide +kernel
theorem d_prog_26_method_3_10 : decode prog_26_method_3_code 10 = .ok (.goto 4, 3) := by decide +kernel
theorem d_prog_26_method_3_13 : decode prog_26_method_3_code 13 = .ok (.iconst 0, 1) := by decide +kernel
theorem d_prog_26_method_3_14 : decode prog_26_method_3_code 14 = .ok (.ireturn, 1) := by decide +kernel
def QRun (Z : State) (a : Addr) (d : Int64) (w : Int64) (n : Int64) (h0 : Heap) (n0 : Nat) (v : Option Value) (h : Heap) (L : List Loc) : Prop := v = some (.int (if d < (w + n) then (1 : Int32) else 0)) ∧ Fr n0 L ∧ h = h0
set_option maxRecDepth 65536 in
set_option maxHeartbeats 40000000 in
theorem rmRun (l : Launch) (Z : State) (a0 : Array Value) (hw : ∀ d ∈ tables_1, d.before a0 Z = true) (ws : List Jvm.Cond) (a : Addr) (d : Int64) (w : Int64) (n : Int64) (h0 : Heap) (n0 : Nat) (Z0 : n0 ≤ h0.size) (F_warmupNanos_a : Fld Z h0 a "com/example/kithmark/kithmark/run/Window" "warmupNanos" "J" (.long w)) (F_lengthNanos_a : Fld Z h0 a "com/example/kithmark/kithmark/run/Window" "lengthNanos" "J" (.long n)) (E_a : Exa Z h0 a "com/example/kithmark/kithmark/run/Window") :
    MetFree l (⟨"com/example/kithmark/kithmark/run/Window", "runs", "(J)Z"⟩ : MethodName) (head1 (Jvm.Cond.code (⟨"com/example/kithmark/kithmark/run/Window", "runs", "(J)Z"⟩ : MethodName) prog_26_method_3_code 3 (some .boolean) :: ws) ({ frames := 1, cells := 0, slots := 0, locals := 14 } : Room)) (fun aa UU => aa = #[(.ref a), (.long d)] ∧ Z.Warmed39 UU.vm ∧ UU.heap = h0) (fun _ _ _ _ _ => True) (fun _ UU oo UU' => ∃ vv LL, oo = .returned vv ∧ QRun Z a d w n h0 n0 vv UU'.heap LL ∧ FrameEnd UU oo UU' LL ({ frames := 1, cells := 0, slots := 0, locals := 14 } : Room).cells ({ frames := 1, cells := 0, slots := 0, locals := 14 } : Room).slots) := by
  refine MetFree.of_bodySF (plainFor_of_name pn_5) hisR ?_
  intro p e s m args below meth c s₁ Bd hml0 hP hK
  obtain ⟨rfl, hZ, hh⟩ := hP
  have hx := Bd.exec
  have hby := Bd.bytes
  have hml : c.maxLocals = 3 := hml0
  have hown : s.vm.findClass "com/example/kithmark/kithmark/run/Window" = some m.cls := findClass_of_methodNamed Bd.named
  have hnm := (name_of_methodNamed Bd.named Bd.method).1
  have hW : ∀ (k : Nat) (d : Jvm.Cond), tables_1[k]? = some d → d.before a0 Z = true := fun k d h => hw d (List.mem_of_getElem? h)
  have X0 : Stand p l e ({ frames := 1, cells := 0, slots := 0, locals := 14 } : Room) s m #[(.ref a), (.long d)] below meth c s₁ [] 0 0 := Stand.of_body Bd
  have e0 : s₁.heap = h0 := by rw [← hh, Bd.state]; rfl
  have N0 := Fr.nil n0
  obtain ⟨G, hG, K0⟩ : ∃ G : State → Prop, (∀ t, G t → Steps p.tables e below (s₁.setTop (entryFrame m #[(.ref a), (.long d)] 3)) t) ∧ Go p e below s₁ (mkF m 0 #[.val (.ref a), .val (.long d), .second] []) G := ⟨fun t => Steps p.tables e below (s₁.setTop (entryFrame m #[(.ref a), (.long d)] 3)) t, fun _ h => h, fun t k => castTop (ef_prog_26_method_3_RJ m a d) k⟩
  have K22 : Go p e below s₁ (mkF m 1 #[.val (.ref a), .val (.long d), .second] [(.long d)]) G := fun t k => K0 t (XS.lloadN X0.here hx rfl (hb hby d_prog_26_method_3_0) rfl k)
  have K23 : Go p e below s₁ (mkF m 2 #[.val (.ref a), .val (.long d), .second] [(.ref a), (.long d)]) G := fun t k => K22 t (XS.aloadN X0.here hx rfl (hb hby d_prog_26_method_3_1) rfl rfl k)
  obtain ⟨cq24, kq24, q24a, q24b, q24c⟩ := isOf hZ e0 E_a
  obtain ⟨v24, _, ⟨T24, L24, k24, n24⟩, -, X24, ⟨Lc24, hQ24, l24, y24, z24⟩, st24⟩ := X0.virtualBack hx (y := (⟨"com/example/kithmark/kithmark/run/Window", "closeNanos", "()J"⟩ : MethodName)) (z := (⟨"com/example/kithmark/kithmark/run/Window", "closeNanos", "()J"⟩ : MethodName)) hown (mvT hZ (hW 24 _ rfl)) (mvT hZ (hW 25 _ rfl)) (notFace_of_selects (args := #[]) (mvT hZ (hW 27 _ rfl))) (mvT hZ (hW 27 _ rfl)) (mvT hZ (hW 26 _ rfl)) (by decide) (backOf (W := 2) (rmClo l Z a0 hw [] a w n h0 n0 Z0 F_warmupNanos_a F_lengthNanos_a) hZ (hW 28 _ rfl) (hW 3 _ rfl) (by decide) (by decide)) q24a q24c (g := (mkF m 2 #[.val (.ref a), .val (.long d), .second] [(.ref a), (.long d)])) rfl (by rw [hml]; rfl) (Steps.refl _) (argsL := []) (rest := [(.long d)]) (lenOf pd_25 rfl) rfl (by show 2 * 0 + _ ≤ _; exact Nat.le_of_eq rfl) (hb hby d_prog_26_method_3_2) (fun _ _ => ⟨rfl, e0, (by decide : 0 + 0 ≤ _), (by decide : 0 + 0 ≤ _)⟩)
  dsimp only [Pt.U, Pt.locs, Pt.cells, Pt.slots] at X24 l24 y24 z24 st24 hQ24
  subst l24 y24 z24
  obtain ⟨rfl, N24q, E24q⟩ := hQ24
  have N24 := Fr.app N0 N24q
  have K25 : Go p e below T24 (mkF m 5 #[.val (.ref a), .val (.long d), .second] [(.long (w + n)), (.long d)]) G := fun t k => K23 t (st24.trans k)
  have K26 : Go p e below T24 (mkF m 6 #[.val (.ref a), .val (.long d), .second] [(.int (lcmpW d (w + n)))]) G := fun t k => K25 t (XS.lcmp X24.here hx rfl (hb hby d_prog_26_method_3_5) rfl k)
  by_cases hc27 : d < (w + n)
  · skip
    have K28 : Go p e below T24 (mkF m 9 #[.val (.ref a), .val (.long d), .second] []) G := fun t k => K26 t (XS.ifNo X24.here hx rfl (hb hby d_prog_26_method_3_6) rfl ((if0 _ _).trans (tlt ((lw_lt _ _).mpr hc27)).2.1) k)
    have K29 : Go p e below T24 (mkF m 10 #[.val (.ref a), .val (.long d), .second] [(.int (1 : Int32))]) G := fun t k => K28 t (XS.iconst X24.here hx rfl (hb hby d_prog_26_method_3_9) k)
    have K30 : Go p e below T24 (mkF m 14 #[.val (.ref a), .val (.long d), .second] [(.int (1 : Int32))]) G := fun t k => K29 t (XS.goto X24.here hx rfl (pc0 := 10) (pc' := 14) rfl (hb hby d_prog_26_method_3_10) (by decide) (by decide) k)
    obtain ⟨fs, hr, hrun, hended, hWW, hsame⟩ := X24.leave (v := some (.int (1 : Int32))) (fun h => by rw [Bd.returns] at h; cases h)
    refine ⟨_, _, hG _ (K30 _ (retN X24 hx (t := .boolean) Bd.returns (by simp) (hb hby d_prog_26_method_3_14) hr)), hrun, hended, _, _, rfl, ?_, ⟨_, rfl⟩, hWW, hsame.mono (by decide) (by decide)⟩
    show QRun Z a d w n h0 n0 _ T24.heap _
    rw [E24q]
    exact ⟨by simp [hc27], N24, rfl⟩
  · skip
    have K31 : Go p e below T24 (mkF m 13 #[.val (.ref a), .val (.long d), .second] []) G := fun t k => K26 t (XS.ifYes X24.here hx rfl (pc0 := 6) (pc' := 13) rfl (hb hby d_prog_26_method_3_6) rfl ((if0 _ _).trans (flt (fun z => hc27 ((lw_lt _ _).mp z))).2.1) (by decide) (by decide) k)
    have K32 : Go p e below T24 (mkF m 14 #[.val (.ref a), .val (.long d), .second] [(.int (0 : Int32))]) G := fun t k => K31 t (XS.iconst X24.here hx rfl (hb hby d_prog_26_method_3_13) k)
    obtain ⟨fs, hr, hrun, hended, hWW, hsame⟩ := X24.leave (v := some (.int (0 : Int32))) (fun h => by rw [Bd.returns] at h; cases h)
    refine ⟨_, _, hG _ (K32 _ (retN X24 hx (t := .boolean) Bd.returns (by simp) (hb hby d_prog_26_method_3_14) hr)), hrun, hended, _, _, rfl, ?_, ⟨_, rfl⟩, hWW, hsame.mono (by decide) (by decide)⟩
    show QRun Z a d w n h0 n0 _ T24.heap _
    rw [E24q]
    exact ⟨by simp [hc27], N24, rfl⟩
theorem own_J9223372036854775807 : (9223372036854775807 : Int64).toInt = 9223372036854775807 := by decide
theorem own_J0 : (0 : Int64).toInt = 0 := by decide
theorem own_J1 : (1 : Int64).toInt = 1 := by decide
theorem own_maxw (a : Int64) : 0 ≤ ((a &&& (9223372036854775807 : Int64)) - ((a &&& (9223372036854775807 : Int64)) / (9223372036854775807 : Int64)) * (9223372036854775807 : Int64)).toInt ∧ ((a &&& (9223372036854775807 : Int64)) - ((a &&& (9223372036854775807 : Int64)) / (9223372036854775807 : Int64)) * (9223372036854775807 : Int64)).toInt < 9223372036854775807 := by
  have h1 := c_maskL a (9223372036854775807 : Int64) 63 (by decide) (by decide)
  have h2 := c_lrem (a &&& (9223372036854775807 : Int64)) (9223372036854775807 : Int64) 9223372036854775807 own_J9223372036854775807
  have h3 := rng64 a
  generalize (a &&& (9223372036854775807 : Int64)) = z at h1 h2 ⊢
  omega
theorem own_room (w : Int64) (h1 : 0 ≤ w.toInt) (h2 : w.toInt < 9223372036854775807) : ((9223372036854775807 : Int64) - w).toInt = 9223372036854775807 - w.toInt := by
  have h := c_lsub (9223372036854775807 : Int64) w
  rw [own_J9223372036854775807] at h
  have r := rng64 ((9223372036854775807 : Int64) - w)
  omega
theorem own_nz (w : Int64) (h1 : 0 ≤ w.toInt) (h2 : w.toInt < 9223372036854775807) : ((9223372036854775807 : Int64) - w) ≠ 0 := by
  intro h
  have h3 := own_room w h1 h2
  rw [h, own_J0] at h3
  omega
theorem own_len (b w : Int64) (h1 : 0 ≤ w.toInt) (h2 : w.toInt < 9223372036854775807) : 1 ≤ ((1 : Int64) + ((b &&& (9223372036854775807 : Int64)) - ((b &&& (9223372036854775807 : Int64)) / ((9223372036854775807 : Int64) - w)) * ((9223372036854775807 : Int64) - w))).toInt ∧ w.toInt + ((1 : Int64) + ((b &&& (9223372036854775807 : Int64)) - ((b &&& (9223372036854775807 : Int64)) / ((9223372036854775807 : Int64) - w)) * ((9223372036854775807 : Int64) - w))).toInt ≤ 9223372036854775807 := by
  have h3 := own_room w h1 h2
  have h4 := c_maskL b (9223372036854775807 : Int64) 63 (by decide) (by decide)
  have h5 := c_lrem (b &&& (9223372036854775807 : Int64)) ((9223372036854775807 : Int64) - w) _ h3
  generalize ((b &&& (9223372036854775807 : Int64)) - ((b &&& (9223372036854775807 : Int64)) / ((9223372036854775807 : Int64) - w)) * ((9223372036854775807 : Int64) - w)) = z at h5 ⊢
  have h6 := c_ladd (1 : Int64) z
  rw [own_J1] at h6
  have r := rng64 ((1 : Int64) + z)
  generalize (b &&& (9223372036854775807 : Int64)) = y at h4 h5
  have h7 : 0 ≤ y.toInt := by omega
  have h8 := h5.1 h7
  have h9 : 0 ≤ y.toInt % (9223372036854775807 - w.toInt) := Int.emod_nonneg _ (by omega)
  have h10 : y.toInt % (9223372036854775807 - w.toInt) < 9223372036854775807 - w.toInt := Int.emod_lt_of_pos _ (by omega)
  omega
theorem own_fin (d w n : Int64) (h1 : 0 ≤ w.toInt) (h2 : 1 ≤ n.toInt) (h3 : w.toInt + n.toInt ≤ 9223372036854775807) : (d < w → d < w + n) ∧ (¬ d < w → ((d - w) < n ↔ d < w + n)) := by
  have h4 := c_ladd w n
  have h5 := c_lsub d w
  have r1 := rng64 (w + n)
  have r2 := rng64 (d - w)
  have r3 := rng64 d
  have r4 := rng64 w
  have r5 := rng64 n
  simp only [Int64.lt_iff_toInt_lt]
  omega
theorem pn_38 : plainName "com/example/kithmark/kithmark/run/WindowRunsPinLaw" = true := by first | (simp [plainName, overriddenIn]; done) | decide +kernel
theorem ef_code_JJJI (m : MethodId) (x0 : Int64) (x1 : Int64) (x2 : Int64) (x3 : Int32) : entryFrame m #[(.long x0), (.long x1), (.long x2), (.int x3)] maxLocals = mkF m 0 #[.val (.long x0), .second, .val (.long x1), .second, .val (.long x2), .second, .val (.int x3), .unset, .unset, .unset, .unset, .unset, .unset, .unset, .unset, .unset, .unset, .unset, .unset, .unset] [] := by first | (simp [entryFrame, mkF, argsToLocals, Value.category, maxLocals]; done) | rfl
theorem pd_40 : parseMethodDescriptor "(JJ)V" = some ⟨[.long, .long], none⟩ := by decide +kernel
theorem pd_41 : parseMethodDescriptor "(J)Z" = some ⟨[.long], some .boolean⟩ := by decide +kernel
def Q0 (Z : State) (q0 : Int64) (q1 : Int64) (q2 : Int64) (q3 : Int32) (h0 : Heap) (n0 : Nat) (v : Option Value) (h : Heap) (L : List Loc) : Prop := v = some (.int 1) ∧ Fr n0 L
set_option maxRecDepth 65536 in
set_option maxHeartbeats 40000000 in
theorem rm0 (l : Launch) (Z : State) (a0 : Array Value) (hw : ∀ d ∈ tables_1, d.before a0 Z = true) (ws : List Jvm.Cond) (q0 : Int64) (q1 : Int64) (q2 : Int64) (q3 : Int32) (h0 : Heap) (n0 : Nat) (Z0 : n0 ≤ h0.size) :
    MetFree l x (head1 (Jvm.Cond.code x code maxLocals ret :: ws) room_1) (fun aa UU => aa = #[(.long q0), (.long q1), (.long q2), (.int q3)] ∧ Z.Warmed39 UU.vm ∧ UU.heap = h0) (fun _ _ _ _ _ => True) (fun _ UU oo UU' => ∃ vv LL, oo = .returned vv ∧ Q0 Z q0 q1 q2 q3 h0 n0 vv UU'.heap LL ∧ FrameEnd UU oo UU' LL 16 128) := by
  refine MetFree.of_bodySF (plainFor_of_name pn_38) hisR ?_
  intro p e s m args below meth c s₁ Bd hml0 hP hK
  obtain ⟨rfl, hZ, hh⟩ := hP
  have hx := Bd.exec
  have hby := Bd.bytes
  have hml : c.maxLocals = 20 := hml0
  have hown : s.vm.findClass "com/example/kithmark/kithmark/run/WindowRunsPinLaw" = some m.cls := findClass_of_methodNamed Bd.named
  have hnm := (name_of_methodNamed Bd.named Bd.method).1
  have hW : ∀ (k : Nat) (d : Jvm.Cond), tables_1[k]? = some d → d.before a0 Z = true := fun k d h => hw d (List.mem_of_getElem? h)
  have X0 : Stand p l e room_1 s m #[(.long q0), (.long q1), (.long q2), (.int q3)] below meth c s₁ [] 0 0 := Stand.of_body Bd
  have e0 : s₁.heap = h0 := by rw [← hh, Bd.state]; rfl
  have N0 := Fr.nil n0
  obtain ⟨G, hG, K0⟩ : ∃ G : State → Prop, (∀ t, G t → Steps p.tables e below (s₁.setTop (entryFrame m #[(.long q0), (.long q1), (.long q2), (.int q3)] maxLocals)) t) ∧ Go p e below s₁ (mkF m 0 #[.val (.long q0), .second, .val (.long q1), .second, .val (.long q2), .second, .val (.int q3), .unset, .unset, .unset, .unset, .unset, .unset, .unset, .unset, .unset, .unset, .unset, .unset, .unset] []) G := ⟨fun t => Steps p.tables e below (s₁.setTop (entryFrame m #[(.long q0), (.long q1), (.long q2), (.int q3)] maxLocals)) t, fun _ h => h, fun t k => castTop (ef_code_JJJI m q0 q1 q2 q3) k⟩
  have K33 : Go p e below s₁ (mkF m 1 #[.val (.long q0), .second, .val (.long q1), .second, .val (.long q2), .second, .val (.int q3), .unset, .unset, .unset, .unset, .unset, .unset, .unset, .unset, .unset, .unset, .unset, .unset, .unset] [(.long q0)]) G := fun t k => K0 t (XS.lloadN X0.here hx rfl (hb hby at_0) rfl k)
  have K34 : Go p e below s₁ (mkF m 4 #[.val (.long q0), .second, .val (.long q1), .second, .val (.long q2), .second, .val (.int q3), .unset, .unset, .unset, .unset, .unset, .unset, .unset, .unset, .unset, .unset, .unset, .unset, .unset] [(.long (9223372036854775807 : Int64)), (.long q0)]) G := fun t k => K33 t (X0.ldc2Long hx hown (mvT hZ (hW 0 _ rfl)) (g := (mkF m 1 #[.val (.long q0), .second, .val (.long q1), .second, .val (.long q2), .second, .val (.int q3), .unset, .unset, .unset, .unset, .unset, .unset, .unset, .unset, .unset, .unset, .unset, .unset, .unset] [(.long q0)])) rfl (hb hby at_1) _ k)
  have K35 : Go p e below s₁ (mkF m 5 #[.val (.long q0), .second, .val (.long q1), .second, .val (.long q2), .second, .val (.int q3), .unset, .unset, .unset, .unset, .unset, .unset, .unset, .unset, .unset, .unset, .unset, .unset, .unset] [(.long (q0 &&& (9223372036854775807 : Int64)))]) G := fun t k => K34 t (XS.land X0.here hx rfl (hb hby at_4) rfl k)
  have K36 : Go p e below s₁ (mkF m 8 #[.val (.long q0), .second, .val (.long q1), .second, .val (.long q2), .second, .val (.int q3), .unset, .unset, .unset, .unset, .unset, .unset, .unset, .unset, .unset, .unset, .unset, .unset, .unset] [(.long (9223372036854775807 : Int64)), (.long (q0 &&& (9223372036854775807 : Int64)))]) G := fun t k => K35 t (X0.ldc2Long hx hown (mvT hZ (hW 0 _ rfl)) (g := (mkF m 5 #[.val (.long q0), .second, .val (.long q1), .second, .val (.long q2), .second, .val (.int q3), .unset, .unset, .unset, .unset, .unset, .unset, .unset, .unset, .unset, .unset, .unset, .unset, .unset] [(.long (q0 &&& (9223372036854775807 : Int64)))])) rfl (hb hby at_5) _ k)
  have K37 : Go p e below s₁ (mkF m 9 #[.val (.long q0), .second, .val (.long q1), .second, .val (.long q2), .second, .val (.int q3), .unset, .unset, .unset, .unset, .unset, .unset, .unset, .unset, .unset, .unset, .unset, .unset, .unset] [(.long ((q0 &&& (9223372036854775807 : Int64)) - ((q0 &&& (9223372036854775807 : Int64)) / (9223372036854775807 : Int64)) * (9223372036854775807 : Int64)))]) G := fun t k => K36 t (XS.lrem X0.here hx rfl (hb hby at_8) rfl (by decide) k)
  have K38 : Go p e below s₁ (mkF m 11 #[.val (.long q0), .second, .val (.long q1), .second, .val (.long q2), .second, .val (.int q3), .val (.long ((q0 &&& (9223372036854775807 : Int64)) - ((q0 &&& (9223372036854775807 : Int64)) / (9223372036854775807 : Int64)) * (9223372036854775807 : Int64))), .second, .unset, .unset, .unset, .unset, .unset, .unset, .unset, .unset, .unset, .unset, .unset] []) G := fun t k => K37 t (XS.lstore X0.here hx rfl (hb hby at_9) rfl (l' := #[.val (.long q0), .second, .val (.long q1), .second, .val (.long q2), .second, .val (.int q3), .val (.long ((q0 &&& (9223372036854775807 : Int64)) - ((q0 &&& (9223372036854775807 : Int64)) / (9223372036854775807 : Int64)) * (9223372036854775807 : Int64))), .second, .unset, .unset, .unset, .unset, .unset, .unset, .unset, .unset, .unset, .unset, .unset]) rfl k)
  obtain ⟨w, h_w⟩ : ∃ z, z = ((q0 &&& (9223372036854775807 : Int64)) - ((q0 &&& (9223372036854775807 : Int64)) / (9223372036854775807 : Int64)) * (9223372036854775807 : Int64)) := ⟨_, rfl⟩
  have K39 : Go p e below s₁ (mkF m 11 #[.val (.long q0), .second, .val (.long q1), .second, .val (.long q2), .second, .val (.int q3), .val (.long w), .second, .unset, .unset, .unset, .unset, .unset, .unset, .unset, .unset, .unset, .unset, .unset] []) G := by rw [h_w]; exact K38
  have w1 : 0 ≤ w.toInt ∧ w.toInt < 9223372036854775807 := by rw [h_w]; exact own_maxw q0
  have K40 : Go p e below s₁ (mkF m 14 #[.val (.long q0), .second, .val (.long q1), .second, .val (.long q2), .second, .val (.int q3), .val (.long w), .second, .unset, .unset, .unset, .unset, .unset, .unset, .unset, .unset, .unset, .unset, .unset] [(.long (9223372036854775807 : Int64))]) G := fun t k => K39 t (X0.ldc2Long hx hown (mvT hZ (hW 0 _ rfl)) (g := (mkF m 11 #[.val (.long q0), .second, .val (.long q1), .second, .val (.long q2), .second, .val (.int q3), .val (.long w), .second, .unset, .unset, .unset, .unset, .unset, .unset, .unset, .unset, .unset, .unset, .unset] [])) rfl (hb hby at_11) _ k)
  have K41 : Go p e below s₁ (mkF m 16 #[.val (.long q0), .second, .val (.long q1), .second, .val (.long q2), .second, .val (.int q3), .val (.long w), .second, .unset, .unset, .unset, .unset, .unset, .unset, .unset, .unset, .unset, .unset, .unset] [(.long w), (.long (9223372036854775807 : Int64))]) G := fun t k => K40 t (XS.lload X0.here hx rfl (hb hby at_14) rfl k)
  have K42 : Go p e below s₁ (mkF m 17 #[.val (.long q0), .second, .val (.long q1), .second, .val (.long q2), .second, .val (.int q3), .val (.long w), .second, .unset, .unset, .unset, .unset, .unset, .unset, .unset, .unset, .unset, .unset, .unset] [(.long ((9223372036854775807 : Int64) - w))]) G := fun t k => K41 t (XS.lsub X0.here hx rfl (hb hby at_16) rfl k)
  have K43 : Go p e below s₁ (mkF m 19 #[.val (.long q0), .second, .val (.long q1), .second, .val (.long q2), .second, .val (.int q3), .val (.long w), .second, .val (.long ((9223372036854775807 : Int64) - w)), .second, .unset, .unset, .unset, .unset, .unset, .unset, .unset, .unset, .unset] []) G := fun t k => K42 t (XS.lstore X0.here hx rfl (hb hby at_17) rfl (l' := #[.val (.long q0), .second, .val (.long q1), .second, .val (.long q2), .second, .val (.int q3), .val (.long w), .second, .val (.long ((9223372036854775807 : Int64) - w)), .second, .unset, .unset, .unset, .unset, .unset, .unset, .unset, .unset, .unset]) rfl k)
  have hnz := own_nz w w1.1 w1.2
  have K44 : Go p e below s₁ (mkF m 20 #[.val (.long q0), .second, .val (.long q1), .second, .val (.long q2), .second, .val (.int q3), .val (.long w), .second, .val (.long ((9223372036854775807 : Int64) - w)), .second, .unset, .unset, .unset, .unset, .unset, .unset, .unset, .unset, .unset] [(.long (1 : Int64))]) G := fun t k => K43 t (XS.lconst X0.here hx rfl (hb hby at_19) k)
  have K45 : Go p e below s₁ (mkF m 21 #[.val (.long q0), .second, .val (.long q1), .second, .val (.long q2), .second, .val (.int q3), .val (.long w), .second, .val (.long ((9223372036854775807 : Int64) - w)), .second, .unset, .unset, .unset, .unset, .unset, .unset, .unset, .unset, .unset] [(.long q1), (.long (1 : Int64))]) G := fun t k => K44 t (XS.lloadN X0.here hx rfl (hb hby at_20) rfl k)
  have K46 : Go p e below s₁ (mkF m 24 #[.val (.long q0), .second, .val (.long q1), .second, .val (.long q2), .second, .val (.int q3), .val (.long w), .second, .val (.long ((9223372036854775807 : Int64) - w)), .second, .unset, .unset, .unset, .unset, .unset, .unset, .unset, .unset, .unset] [(.long (9223372036854775807 : Int64)), (.long q1), (.long (1 : Int64))]) G := fun t k => K45 t (X0.ldc2Long hx hown (mvT hZ (hW 0 _ rfl)) (g := (mkF m 21 #[.val (.long q0), .second, .val (.long q1), .second, .val (.long q2), .second, .val (.int q3), .val (.long w), .second, .val (.long ((9223372036854775807 : Int64) - w)), .second, .unset, .unset, .unset, .unset, .unset, .unset, .unset, .unset, .unset] [(.long q1), (.long (1 : Int64))])) rfl (hb hby at_21) _ k)
  have K47 : Go p e below s₁ (mkF m 25 #[.val (.long q0), .second, .val (.long q1), .second, .val (.long q2), .second, .val (.int q3), .val (.long w), .second, .val (.long ((9223372036854775807 : Int64) - w)), .second, .unset, .unset, .unset, .unset, .unset, .unset, .unset, .unset, .unset] [(.long (q1 &&& (9223372036854775807 : Int64))), (.long (1 : Int64))]) G := fun t k => K46 t (XS.land X0.here hx rfl (hb hby at_24) rfl k)
  have K48 : Go p e below s₁ (mkF m 27 #[.val (.long q0), .second, .val (.long q1), .second, .val (.long q2), .second, .val (.int q3), .val (.long w), .second, .val (.long ((9223372036854775807 : Int64) - w)), .second, .unset, .unset, .unset, .unset, .unset, .unset, .unset, .unset, .unset] [(.long ((9223372036854775807 : Int64) - w)), (.long (q1 &&& (9223372036854775807 : Int64))), (.long (1 : Int64))]) G := fun t k => K47 t (XS.lload X0.here hx rfl (hb hby at_25) rfl k)
  have K49 : Go p e below s₁ (mkF m 28 #[.val (.long q0), .second, .val (.long q1), .second, .val (.long q2), .second, .val (.int q3), .val (.long w), .second, .val (.long ((9223372036854775807 : Int64) - w)), .second, .unset, .unset, .unset, .unset, .unset, .unset, .unset, .unset, .unset] [(.long ((q1 &&& (9223372036854775807 : Int64)) - ((q1 &&& (9223372036854775807 : Int64)) / ((9223372036854775807 : Int64) - w)) * ((9223372036854775807 : Int64) - w))), (.long (1 : Int64))]) G := fun t k => K48 t (XS.lrem X0.here hx rfl (hb hby at_27) rfl hnz k)
  have K50 : Go p e below s₁ (mkF m 29 #[.val (.long q0), .second, .val (.long q1), .second, .val (.long q2), .second, .val (.int q3), .val (.long w), .second, .val (.long ((9223372036854775807 : Int64) - w)), .second, .unset, .unset, .unset, .unset, .unset, .unset, .unset, .unset, .unset] [(.long ((1 : Int64) + ((q1 &&& (9223372036854775807 : Int64)) - ((q1 &&& (9223372036854775807 : Int64)) / ((9223372036854775807 : Int64) - w)) * ((9223372036854775807 : Int64) - w))))]) G := fun t k => K49 t (XS.ladd X0.here hx rfl (hb hby at_28) rfl k)
  have K51 : Go p e below s₁ (mkF m 31 #[.val (.long q0), .second, .val (.long q1), .second, .val (.long q2), .second, .val (.int q3), .val (.long w), .second, .val (.long ((9223372036854775807 : Int64) - w)), .second, .val (.long ((1 : Int64) + ((q1 &&& (9223372036854775807 : Int64)) - ((q1 &&& (9223372036854775807 : Int64)) / ((9223372036854775807 : Int64) - w)) * ((9223372036854775807 : Int64) - w)))), .second, .unset, .unset, .unset, .unset, .unset, .unset, .unset] []) G := fun t k => K50 t (XS.lstore X0.here hx rfl (hb hby at_29) rfl (l' := #[.val (.long q0), .second, .val (.long q1), .second, .val (.long q2), .second, .val (.int q3), .val (.long w), .second, .val (.long ((9223372036854775807 : Int64) - w)), .second, .val (.long ((1 : Int64) + ((q1 &&& (9223372036854775807 : Int64)) - ((q1 &&& (9223372036854775807 : Int64)) / ((9223372036854775807 : Int64) - w)) * ((9223372036854775807 : Int64) - w)))), .second, .unset, .unset, .unset, .unset, .unset, .unset, .unset]) rfl k)
  obtain ⟨n, h_n⟩ : ∃ z, z = ((1 : Int64) + ((q1 &&& (9223372036854775807 : Int64)) - ((q1 &&& (9223372036854775807 : Int64)) / ((9223372036854775807 : Int64) - w)) * ((9223372036854775807 : Int64) - w))) := ⟨_, rfl⟩
  have K52 : Go p e below s₁ (mkF m 31 #[.val (.long q0), .second, .val (.long q1), .second, .val (.long q2), .second, .val (.int q3), .val (.long w), .second, .val (.long ((9223372036854775807 : Int64) - w)), .second, .val (.long n), .second, .unset, .unset, .unset, .unset, .unset, .unset, .unset] []) G := by rw [h_n]; exact K51
  have n1 : 1 ≤ n.toInt ∧ w.toInt + n.toInt ≤ 9223372036854775807 := by rw [h_n]; exact own_len q1 w w1.1 w1.2
  have K53 : Go p e below s₁ (mkF m 33 #[.val (.long q0), .second, .val (.long q1), .second, .val (.long q2), .second, .val (.int q3), .val (.long w), .second, .val (.long ((9223372036854775807 : Int64) - w)), .second, .val (.long n), .second, .unset, .unset, .unset, .unset, .unset, .unset, .unset] [(.long w)]) G := fun t k => K52 t (XS.lload X0.here hx rfl (hb hby at_31) rfl k)
  have K54 : Go p e below s₁ (mkF m 35 #[.val (.long q0), .second, .val (.long q1), .second, .val (.long q2), .second, .val (.int q3), .val (.long w), .second, .val (.long ((9223372036854775807 : Int64) - w)), .second, .val (.long n), .second, .unset, .unset, .unset, .unset, .unset, .unset, .unset] [(.long n), (.long w)]) G := fun t k => K53 t (XS.lload X0.here hx rfl (hb hby at_33) rfl k)
  have K55 : Go p e below s₁ (mkF m 36 #[.val (.long q0), .second, .val (.long q1), .second, .val (.long q2), .second, .val (.int q3), .val (.long w), .second, .val (.long ((9223372036854775807 : Int64) - w)), .second, .val (.long n), .second, .unset, .unset, .unset, .unset, .unset, .unset, .unset] [(.long (w + n))]) G := fun t k => K54 t (XS.ladd X0.here hx rfl (hb hby at_35) rfl k)
  have K56 : Go p e below s₁ (mkF m 38 #[.val (.long q0), .second, .val (.long q1), .second, .val (.long q2), .second, .val (.int q3), .val (.long w), .second, .val (.long ((9223372036854775807 : Int64) - w)), .second, .val (.long n), .second, .val (.long (w + n)), .second, .unset, .unset, .unset, .unset, .unset] []) G := fun t k => K55 t (XS.lstore X0.here hx rfl (hb hby at_36) rfl (l' := #[.val (.long q0), .second, .val (.long q1), .second, .val (.long q2), .second, .val (.int q3), .val (.long w), .second, .val (.long ((9223372036854775807 : Int64) - w)), .second, .val (.long n), .second, .val (.long (w + n)), .second, .unset, .unset, .unset, .unset, .unset]) rfl k)
  have K57 : Go p e below s₁ (mkF m 40 #[.val (.long q0), .second, .val (.long q1), .second, .val (.long q2), .second, .val (.int q3), .val (.long w), .second, .val (.long ((9223372036854775807 : Int64) - w)), .second, .val (.long n), .second, .val (.long (w + n)), .second, .unset, .unset, .unset, .unset, .unset] [(.int q3)]) G := fun t k => K56 t (XS.iload X0.here hx rfl (hb hby at_38) rfl k)
  have K58 : Go p e below s₁ (mkF m 41 #[.val (.long q0), .second, .val (.long q1), .second, .val (.long q2), .second, .val (.int q3), .val (.long w), .second, .val (.long ((9223372036854775807 : Int64) - w)), .second, .val (.long n), .second, .val (.long (w + n)), .second, .unset, .unset, .unset, .unset, .unset] [(.int (3 : Int32)), (.int q3)]) G := fun t k => K57 t (XS.iconst X0.here hx rfl (hb hby at_40) k)
  have K59 : Go p e below s₁ (mkF m 42 #[.val (.long q0), .second, .val (.long q1), .second, .val (.long q2), .second, .val (.int q3), .val (.long w), .second, .val (.long ((9223372036854775807 : Int64) - w)), .second, .val (.long n), .second, .val (.long (w + n)), .second, .unset, .unset, .unset, .unset, .unset] [(.int (q3 &&& (3 : Int32)))]) G := fun t k => K58 t (XS.iand X0.here hx rfl (hb hby at_41) rfl k)
  have K60 : Go p e below s₁ (mkF m 44 #[.val (.long q0), .second, .val (.long q1), .second, .val (.long q2), .second, .val (.int q3), .val (.long w), .second, .val (.long ((9223372036854775807 : Int64) - w)), .second, .val (.long n), .second, .val (.long (w + n)), .second, .val (.int (q3 &&& (3 : Int32))), .unset, .unset, .unset, .unset] []) G := fun t k => K59 t (XS.istore X0.here hx rfl (hb hby at_42) rfl (l' := #[.val (.long q0), .second, .val (.long q1), .second, .val (.long q2), .second, .val (.int q3), .val (.long w), .second, .val (.long ((9223372036854775807 : Int64) - w)), .second, .val (.long n), .second, .val (.long (w + n)), .second, .val (.int (q3 &&& (3 : Int32))), .unset, .unset, .unset, .unset]) rfl k)
  obtain ⟨due, Kj61⟩ : ∃ (due : Int64), Go p e below s₁ (mkF m 88 #[.val (.long q0), .second, .val (.long q1), .second, .val (.long q2), .second, .val (.int q3), .val (.long w), .second, .val (.long ((9223372036854775807 : Int64) - w)), .second, .val (.long n), .second, .val (.long (w + n)), .second, .val (.int (q3 &&& (3 : Int32))), .val (.long due), .second, .unset, .unset] []) G := by
    have K62 : Go p e below s₁ (mkF m 46 #[.val (.long q0), .second, .val (.long q1), .second, .val (.long q2), .second, .val (.int q3), .val (.long w), .second, .val (.long ((9223372036854775807 : Int64) - w)), .second, .val (.long n), .second, .val (.long (w + n)), .second, .val (.int (q3 &&& (3 : Int32))), .unset, .unset, .unset, .unset] [(.int (q3 &&& (3 : Int32)))]) G := fun t k => K60 t (XS.iload X0.here hx rfl (hb hby at_44) rfl k)
    by_cases hc63 : (q3 &&& (3 : Int32)) = (0 : Int32)
    · skip
      have K64 : Go p e below s₁ (mkF m 49 #[.val (.long q0), .second, .val (.long q1), .second, .val (.long q2), .second, .val (.int q3), .val (.long w), .second, .val (.long ((9223372036854775807 : Int64) - w)), .second, .val (.long n), .second, .val (.long (w + n)), .second, .val (.int (q3 &&& (3 : Int32))), .unset, .unset, .unset, .unset] []) G := fun t k => K62 t (XS.ifNo X0.here hx rfl (hb hby at_46) rfl ((if0 _ _).trans (teq hc63).2) k)
      have K65 : Go p e below s₁ (mkF m 51 #[.val (.long q0), .second, .val (.long q1), .second, .val (.long q2), .second, .val (.int q3), .val (.long w), .second, .val (.long ((9223372036854775807 : Int64) - w)), .second, .val (.long n), .second, .val (.long (w + n)), .second, .val (.int (q3 &&& (3 : Int32))), .unset, .unset, .unset, .unset] [(.long q2)]) G := fun t k => K64 t (XS.lload X0.here hx rfl (hb hby at_49) rfl k)
      have K66 : Go p e below s₁ (mkF m 53 #[.val (.long q0), .second, .val (.long q1), .second, .val (.long q2), .second, .val (.int q3), .val (.long w), .second, .val (.long ((9223372036854775807 : Int64) - w)), .second, .val (.long n), .second, .val (.long (w + n)), .second, .val (.int (q3 &&& (3 : Int32))), .val (.long q2), .second, .unset, .unset] []) G := fun t k => K65 t (XS.lstore X0.here hx rfl (hb hby at_51) rfl (l' := #[.val (.long q0), .second, .val (.long q1), .second, .val (.long q2), .second, .val (.int q3), .val (.long w), .second, .val (.long ((9223372036854775807 : Int64) - w)), .second, .val (.long n), .second, .val (.long (w + n)), .second, .val (.int (q3 &&& (3 : Int32))), .val (.long q2), .second, .unset, .unset]) rfl k)
      have K67 : Go p e below s₁ (mkF m 88 #[.val (.long q0), .second, .val (.long q1), .second, .val (.long q2), .second, .val (.int q3), .val (.long w), .second, .val (.long ((9223372036854775807 : Int64) - w)), .second, .val (.long n), .second, .val (.long (w + n)), .second, .val (.int (q3 &&& (3 : Int32))), .val (.long q2), .second, .unset, .unset] []) G := fun t k => K66 t (XS.goto X0.here hx rfl (pc0 := 53) (pc' := 88) rfl (hb hby at_53) (by decide) (by decide) k)
      exact ⟨q2, K67⟩
    · skip
      have K68 : Go p e below s₁ (mkF m 56 #[.val (.long q0), .second, .val (.long q1), .second, .val (.long q2), .second, .val (.int q3), .val (.long w), .second, .val (.long ((9223372036854775807 : Int64) - w)), .second, .val (.long n), .second, .val (.long (w + n)), .second, .val (.int (q3 &&& (3 : Int32))), .unset, .unset, .unset, .unset] []) G := fun t k => K62 t (XS.ifYes X0.here hx rfl (pc0 := 46) (pc' := 56) rfl (hb hby at_46) rfl ((if0 _ _).trans (feq hc63).2) (by decide) (by decide) k)
      have K69 : Go p e below s₁ (mkF m 58 #[.val (.long q0), .second, .val (.long q1), .second, .val (.long q2), .second, .val (.int q3), .val (.long w), .second, .val (.long ((9223372036854775807 : Int64) - w)), .second, .val (.long n), .second, .val (.long (w + n)), .second, .val (.int (q3 &&& (3 : Int32))), .unset, .unset, .unset, .unset] [(.int (q3 &&& (3 : Int32)))]) G := fun t k => K68 t (XS.iload X0.here hx rfl (hb hby at_56) rfl k)
      have K70 : Go p e below s₁ (mkF m 59 #[.val (.long q0), .second, .val (.long q1), .second, .val (.long q2), .second, .val (.int q3), .val (.long w), .second, .val (.long ((9223372036854775807 : Int64) - w)), .second, .val (.long n), .second, .val (.long (w + n)), .second, .val (.int (q3 &&& (3 : Int32))), .unset, .unset, .unset, .unset] [(.int (1 : Int32)), (.int (q3 &&& (3 : Int32)))]) G := fun t k => K69 t (XS.iconst X0.here hx rfl (hb hby at_58) k)
      by_cases hc71 : (q3 &&& (3 : Int32)) = (1 : Int32)
      · skip
        have K72 : Go p e below s₁ (mkF m 62 #[.val (.long q0), .second, .val (.long q1), .second, .val (.long q2), .second, .val (.int q3), .val (.long w), .second, .val (.long ((9223372036854775807 : Int64) - w)), .second, .val (.long n), .second, .val (.long (w + n)), .second, .val (.int (q3 &&& (3 : Int32))), .unset, .unset, .unset, .unset] []) G := fun t k => K70 t (XS.icmpNo X0.here hx rfl (hb hby at_59) rfl ((teq hc71).2) k)
        have K73 : Go p e below s₁ (mkF m 64 #[.val (.long q0), .second, .val (.long q1), .second, .val (.long q2), .second, .val (.int q3), .val (.long w), .second, .val (.long ((9223372036854775807 : Int64) - w)), .second, .val (.long n), .second, .val (.long (w + n)), .second, .val (.int (q3 &&& (3 : Int32))), .unset, .unset, .unset, .unset] [(.long (w + n))]) G := fun t k => K72 t (XS.lload X0.here hx rfl (hb hby at_62) rfl k)
        have K74 : Go p e below s₁ (mkF m 65 #[.val (.long q0), .second, .val (.long q1), .second, .val (.long q2), .second, .val (.int q3), .val (.long w), .second, .val (.long ((9223372036854775807 : Int64) - w)), .second, .val (.long n), .second, .val (.long (w + n)), .second, .val (.int (q3 &&& (3 : Int32))), .unset, .unset, .unset, .unset] [(.long (1 : Int64)), (.long (w + n))]) G := fun t k => K73 t (XS.lconst X0.here hx rfl (hb hby at_64) k)
        have K75 : Go p e below s₁ (mkF m 66 #[.val (.long q0), .second, .val (.long q1), .second, .val (.long q2), .second, .val (.int q3), .val (.long w), .second, .val (.long ((9223372036854775807 : Int64) - w)), .second, .val (.long n), .second, .val (.long (w + n)), .second, .val (.int (q3 &&& (3 : Int32))), .unset, .unset, .unset, .unset] [(.long ((w + n) - (1 : Int64)))]) G := fun t k => K74 t (XS.lsub X0.here hx rfl (hb hby at_65) rfl k)
        have K76 : Go p e below s₁ (mkF m 68 #[.val (.long q0), .second, .val (.long q1), .second, .val (.long q2), .second, .val (.int q3), .val (.long w), .second, .val (.long ((9223372036854775807 : Int64) - w)), .second, .val (.long n), .second, .val (.long (w + n)), .second, .val (.int (q3 &&& (3 : Int32))), .val (.long ((w + n) - (1 : Int64))), .second, .unset, .unset] []) G := fun t k => K75 t (XS.lstore X0.here hx rfl (hb hby at_66) rfl (l' := #[.val (.long q0), .second, .val (.long q1), .second, .val (.long q2), .second, .val (.int q3), .val (.long w), .second, .val (.long ((9223372036854775807 : Int64) - w)), .second, .val (.long n), .second, .val (.long (w + n)), .second, .val (.int (q3 &&& (3 : Int32))), .val (.long ((w + n) - (1 : Int64))), .second, .unset, .unset]) rfl k)
        have K77 : Go p e below s₁ (mkF m 88 #[.val (.long q0), .second, .val (.long q1), .second, .val (.long q2), .second, .val (.int q3), .val (.long w), .second, .val (.long ((9223372036854775807 : Int64) - w)), .second, .val (.long n), .second, .val (.long (w + n)), .second, .val (.int (q3 &&& (3 : Int32))), .val (.long ((w + n) - (1 : Int64))), .second, .unset, .unset] []) G := fun t k => K76 t (XS.goto X0.here hx rfl (pc0 := 68) (pc' := 88) rfl (hb hby at_68) (by decide) (by decide) k)
        exact ⟨((w + n) - (1 : Int64)), K77⟩
      · skip
        have K78 : Go p e below s₁ (mkF m 71 #[.val (.long q0), .second, .val (.long q1), .second, .val (.long q2), .second, .val (.int q3), .val (.long w), .second, .val (.long ((9223372036854775807 : Int64) - w)), .second, .val (.long n), .second, .val (.long (w + n)), .second, .val (.int (q3 &&& (3 : Int32))), .unset, .unset, .unset, .unset] []) G := fun t k => K70 t (XS.icmpYes X0.here hx rfl (pc0 := 59) (pc' := 71) rfl (hb hby at_59) rfl ((feq hc71).2) (by decide) (by decide) k)
        have K79 : Go p e below s₁ (mkF m 73 #[.val (.long q0), .second, .val (.long q1), .second, .val (.long q2), .second, .val (.int q3), .val (.long w), .second, .val (.long ((9223372036854775807 : Int64) - w)), .second, .val (.long n), .second, .val (.long (w + n)), .second, .val (.int (q3 &&& (3 : Int32))), .unset, .unset, .unset, .unset] [(.int (q3 &&& (3 : Int32)))]) G := fun t k => K78 t (XS.iload X0.here hx rfl (hb hby at_71) rfl k)
        have K80 : Go p e below s₁ (mkF m 74 #[.val (.long q0), .second, .val (.long q1), .second, .val (.long q2), .second, .val (.int q3), .val (.long w), .second, .val (.long ((9223372036854775807 : Int64) - w)), .second, .val (.long n), .second, .val (.long (w + n)), .second, .val (.int (q3 &&& (3 : Int32))), .unset, .unset, .unset, .unset] [(.int (2 : Int32)), (.int (q3 &&& (3 : Int32)))]) G := fun t k => K79 t (XS.iconst X0.here hx rfl (hb hby at_73) k)
        by_cases hc81 : (q3 &&& (3 : Int32)) = (2 : Int32)
        · skip
          have K82 : Go p e below s₁ (mkF m 77 #[.val (.long q0), .second, .val (.long q1), .second, .val (.long q2), .second, .val (.int q3), .val (.long w), .second, .val (.long ((9223372036854775807 : Int64) - w)), .second, .val (.long n), .second, .val (.long (w + n)), .second, .val (.int (q3 &&& (3 : Int32))), .unset, .unset, .unset, .unset] []) G := fun t k => K80 t (XS.icmpNo X0.here hx rfl (hb hby at_74) rfl ((teq hc81).2) k)
          have K83 : Go p e below s₁ (mkF m 79 #[.val (.long q0), .second, .val (.long q1), .second, .val (.long q2), .second, .val (.int q3), .val (.long w), .second, .val (.long ((9223372036854775807 : Int64) - w)), .second, .val (.long n), .second, .val (.long (w + n)), .second, .val (.int (q3 &&& (3 : Int32))), .unset, .unset, .unset, .unset] [(.long (w + n))]) G := fun t k => K82 t (XS.lload X0.here hx rfl (hb hby at_77) rfl k)
          have K84 : Go p e below s₁ (mkF m 81 #[.val (.long q0), .second, .val (.long q1), .second, .val (.long q2), .second, .val (.int q3), .val (.long w), .second, .val (.long ((9223372036854775807 : Int64) - w)), .second, .val (.long n), .second, .val (.long (w + n)), .second, .val (.int (q3 &&& (3 : Int32))), .val (.long (w + n)), .second, .unset, .unset] []) G := fun t k => K83 t (XS.lstore X0.here hx rfl (hb hby at_79) rfl (l' := #[.val (.long q0), .second, .val (.long q1), .second, .val (.long q2), .second, .val (.int q3), .val (.long w), .second, .val (.long ((9223372036854775807 : Int64) - w)), .second, .val (.long n), .second, .val (.long (w + n)), .second, .val (.int (q3 &&& (3 : Int32))), .val (.long (w + n)), .second, .unset, .unset]) rfl k)
          have K85 : Go p e below s₁ (mkF m 88 #[.val (.long q0), .second, .val (.long q1), .second, .val (.long q2), .second, .val (.int q3), .val (.long w), .second, .val (.long ((9223372036854775807 : Int64) - w)), .second, .val (.long n), .second, .val (.long (w + n)), .second, .val (.int (q3 &&& (3 : Int32))), .val (.long (w + n)), .second, .unset, .unset] []) G := fun t k => K84 t (XS.goto X0.here hx rfl (pc0 := 81) (pc' := 88) rfl (hb hby at_81) (by decide) (by decide) k)
          exact ⟨(w + n), K85⟩
        · skip
          have K86 : Go p e below s₁ (mkF m 84 #[.val (.long q0), .second, .val (.long q1), .second, .val (.long q2), .second, .val (.int q3), .val (.long w), .second, .val (.long ((9223372036854775807 : Int64) - w)), .second, .val (.long n), .second, .val (.long (w + n)), .second, .val (.int (q3 &&& (3 : Int32))), .unset, .unset, .unset, .unset] []) G := fun t k => K80 t (XS.icmpYes X0.here hx rfl (pc0 := 74) (pc' := 84) rfl (hb hby at_74) rfl ((feq hc81).2) (by decide) (by decide) k)
          have K87 : Go p e below s₁ (mkF m 86 #[.val (.long q0), .second, .val (.long q1), .second, .val (.long q2), .second, .val (.int q3), .val (.long w), .second, .val (.long ((9223372036854775807 : Int64) - w)), .second, .val (.long n), .second, .val (.long (w + n)), .second, .val (.int (q3 &&& (3 : Int32))), .unset, .unset, .unset, .unset] [(.long w)]) G := fun t k => K86 t (XS.lload X0.here hx rfl (hb hby at_84) rfl k)
          have K88 : Go p e below s₁ (mkF m 88 #[.val (.long q0), .second, .val (.long q1), .second, .val (.long q2), .second, .val (.int q3), .val (.long w), .second, .val (.long ((9223372036854775807 : Int64) - w)), .second, .val (.long n), .second, .val (.long (w + n)), .second, .val (.int (q3 &&& (3 : Int32))), .val (.long w), .second, .unset, .unset] []) G := fun t k => K87 t (XS.lstore X0.here hx rfl (hb hby at_86) rfl (l' := #[.val (.long q0), .second, .val (.long q1), .second, .val (.long q2), .second, .val (.int q3), .val (.long w), .second, .val (.long ((9223372036854775807 : Int64) - w)), .second, .val (.long n), .second, .val (.long (w + n)), .second, .val (.int (q3 &&& (3 : Int32))), .val (.long w), .second, .unset, .unset]) rfl k)
          exact ⟨w, K88⟩
  have fin := own_fin due w n w1.1 n1.1 n1.2
  have K89 : Go p e below s₁ (mkF m 90 #[.val (.long q0), .second, .val (.long q1), .second, .val (.long q2), .second, .val (.int q3), .val (.long w), .second, .val (.long ((9223372036854775807 : Int64) - w)), .second, .val (.long n), .second, .val (.long (w + n)), .second, .val (.int (q3 &&& (3 : Int32))), .val (.long due), .second, .unset, .unset] [(.long due)]) G := fun t k => Kj61 t (XS.lload X0.here hx rfl (hb hby at_88) rfl k)
  have K90 : Go p e below s₁ (mkF m 92 #[.val (.long q0), .second, .val (.long q1), .second, .val (.long q2), .second, .val (.int q3), .val (.long w), .second, .val (.long ((9223372036854775807 : Int64) - w)), .second, .val (.long n), .second, .val (.long (w + n)), .second, .val (.int (q3 &&& (3 : Int32))), .val (.long due), .second, .unset, .unset] [(.long w), (.long due)]) G := fun t k => K89 t (XS.lload X0.here hx rfl (hb hby at_90) rfl k)
  have K91 : Go p e below s₁ (mkF m 93 #[.val (.long q0), .second, .val (.long q1), .second, .val (.long q2), .second, .val (.int q3), .val (.long w), .second, .val (.long ((9223372036854775807 : Int64) - w)), .second, .val (.long n), .second, .val (.long (w + n)), .second, .val (.int (q3 &&& (3 : Int32))), .val (.long due), .second, .unset, .unset] [(.int (lcmpW due w))]) G := fun t k => K90 t (XS.lcmp X0.here hx rfl (hb hby at_92) rfl k)
  by_cases hc92 : due < w
  · skip
    have K93 : Go p e below s₁ (mkF m 96 #[.val (.long q0), .second, .val (.long q1), .second, .val (.long q2), .second, .val (.int q3), .val (.long w), .second, .val (.long ((9223372036854775807 : Int64) - w)), .second, .val (.long n), .second, .val (.long (w + n)), .second, .val (.int (q3 &&& (3 : Int32))), .val (.long due), .second, .unset, .unset] []) G := fun t k => K91 t (XS.ifNo X0.here hx rfl (hb hby at_93) rfl ((if0 _ _).trans (tlt ((lw_lt _ _).mpr hc92)).2.1) k)
    have K94 : Go p e below s₁ (mkF m 97 #[.val (.long q0), .second, .val (.long q1), .second, .val (.long q2), .second, .val (.int q3), .val (.long w), .second, .val (.long ((9223372036854775807 : Int64) - w)), .second, .val (.long n), .second, .val (.long (w + n)), .second, .val (.int (q3 &&& (3 : Int32))), .val (.long due), .second, .unset, .unset] [(.int (1 : Int32))]) G := fun t k => K93 t (XS.iconst X0.here hx rfl (hb hby at_96) k)
    have K95 : Go p e below s₁ (mkF m 99 #[.val (.long q0), .second, .val (.long q1), .second, .val (.long q2), .second, .val (.int q3), .val (.long w), .second, .val (.long ((9223372036854775807 : Int64) - w)), .second, .val (.long n), .second, .val (.long (w + n)), .second, .val (.int (q3 &&& (3 : Int32))), .val (.long due), .second, .val (.int (1 : Int32)), .unset] []) G := fun t k => K94 t (XS.istore X0.here hx rfl (hb hby at_97) rfl (l' := #[.val (.long q0), .second, .val (.long q1), .second, .val (.long q2), .second, .val (.int q3), .val (.long w), .second, .val (.long ((9223372036854775807 : Int64) - w)), .second, .val (.long n), .second, .val (.long (w + n)), .second, .val (.int (q3 &&& (3 : Int32))), .val (.long due), .second, .val (.int (1 : Int32)), .unset]) rfl k)
    have K96 : Go p e below s₁ (mkF m 120 #[.val (.long q0), .second, .val (.long q1), .second, .val (.long q2), .second, .val (.int q3), .val (.long w), .second, .val (.long ((9223372036854775807 : Int64) - w)), .second, .val (.long n), .second, .val (.long (w + n)), .second, .val (.int (q3 &&& (3 : Int32))), .val (.long due), .second, .val (.int (1 : Int32)), .unset] []) G := fun t k => K95 t (XS.goto X0.here hx rfl (pc0 := 99) (pc' := 120) rfl (hb hby at_99) (by decide) (by decide) k)
    obtain ⟨T97, h97, X97, e97, E97, A97, D97, -, st97⟩ := newO X0 hx hZ hown (hW 1 _ rfl) (hW 2 _ rfl) (hW 3 _ rfl) e0 (g := (mkF m 120 #[.val (.long q0), .second, .val (.long q1), .second, .val (.long q2), .second, .val (.int q3), .val (.long w), .second, .val (.long ((9223372036854775807 : Int64) - w)), .second, .val (.long n), .second, .val (.long (w + n)), .second, .val (.int (q3 &&& (3 : Int32))), .val (.long due), .second, .val (.int (1 : Int32)), .unset] [])) rfl (hb hby at_120) (by decide) (by decide)
    obtain ⟨b97, g97⟩ : ∃ z, z = h0.size := ⟨_, rfl⟩
    rw [← g97] at A97 D97 st97
    have ge_b97 : n0 ≤ b97 := Nat.le_trans Z0 (Nat.le_of_eq g97.symm)
    have sz_b97 : h0.size ≤ b97 := Nat.le_trans ((Keep.refl h0 [])).1 (Nat.le_of_eq g97.symm)
    have F97_warmupNanos : Fld Z h97 b97 "com/example/kithmark/kithmark/run/Window" "warmupNanos" "J" (.long (0 : Int64)) := D97 (Or.inr (hW 16 _ rfl)) (ty := .long) (by decide)
    have F97_lengthNanos : Fld Z h97 b97 "com/example/kithmark/kithmark/run/Window" "lengthNanos" "J" (.long (0 : Int64)) := D97 (Or.inr (hW 18 _ rfl)) (ty := .long) (by decide)
    have K98 : Go p e below T97 (mkF m 123 #[.val (.long q0), .second, .val (.long q1), .second, .val (.long q2), .second, .val (.int q3), .val (.long w), .second, .val (.long ((9223372036854775807 : Int64) - w)), .second, .val (.long n), .second, .val (.long (w + n)), .second, .val (.int (q3 &&& (3 : Int32))), .val (.long due), .second, .val (.int (1 : Int32)), .unset] [(.ref b97)]) G := fun t k => K96 t (st97 t k)
    have K99 : Go p e below T97 (mkF m 124 #[.val (.long q0), .second, .val (.long q1), .second, .val (.long q2), .second, .val (.int q3), .val (.long w), .second, .val (.long ((9223372036854775807 : Int64) - w)), .second, .val (.long n), .second, .val (.long (w + n)), .second, .val (.int (q3 &&& (3 : Int32))), .val (.long due), .second, .val (.int (1 : Int32)), .unset] [(.ref b97), (.ref b97)]) G := fun t k => K98 t (XS.dup X97.here hx rfl (hb hby at_123) rfl rfl k)
    have K100 : Go p e below T97 (mkF m 126 #[.val (.long q0), .second, .val (.long q1), .second, .val (.long q2), .second, .val (.int q3), .val (.long w), .second, .val (.long ((9223372036854775807 : Int64) - w)), .second, .val (.long n), .second, .val (.long (w + n)), .second, .val (.int (q3 &&& (3 : Int32))), .val (.long due), .second, .val (.int (1 : Int32)), .unset] [(.long w), (.ref b97), (.ref b97)]) G := fun t k => K99 t (XS.lload X97.here hx rfl (hb hby at_124) rfl k)
    have K101 : Go p e below T97 (mkF m 128 #[.val (.long q0), .second, .val (.long q1), .second, .val (.long q2), .second, .val (.int q3), .val (.long w), .second, .val (.long ((9223372036854775807 : Int64) - w)), .second, .val (.long n), .second, .val (.long (w + n)), .second, .val (.int (q3 &&& (3 : Int32))), .val (.long due), .second, .val (.int (1 : Int32)), .unset] [(.long n), (.long w), (.ref b97), (.ref b97)]) G := fun t k => K100 t (XS.lload X97.here hx rfl (hb hby at_126) rfl k)
    obtain ⟨v102, _, ⟨T102, L102, k102, n102⟩, -, X102, ⟨Lc102, hQ102, l102, y102, z102⟩, st102⟩ := X97.specialBack hx (y := (⟨"com/example/kithmark/kithmark/run/Window", "<init>", "(JJ)V"⟩ : MethodName)) rfl hown (mvT hZ (hW 4 _ rfl)) (mvT hZ (hW 5 _ rfl)) (mvT hZ (hW 6 _ rfl)) (by decide) (backOf (W := 1) (rmIni l Z a0 hw [] b97 w n h97 n0 (Nat.le_trans Z0 E97.1) F97_warmupNanos F97_lengthNanos A97 ge_b97) hZ (hW 6 _ rfl) (hW 3 _ rfl) (by decide) (by decide)) (g := (mkF m 128 #[.val (.long q0), .second, .val (.long q1), .second, .val (.long q2), .second, .val (.int q3), .val (.long w), .second, .val (.long ((9223372036854775807 : Int64) - w)), .second, .val (.long n), .second, .val (.long (w + n)), .second, .val (.int (q3 &&& (3 : Int32))), .val (.long due), .second, .val (.int (1 : Int32)), .unset] [(.long n), (.long w), (.ref b97), (.ref b97)])) rfl (by rw [hml]; rfl) (Steps.refl _) (a := b97) (argsL := [(.long w), (.long n)]) (rest := [(.ref b97)]) (lenOf pd_40 rfl) rfl (by show 2 * 0 + _ ≤ _; exact Nat.le_of_eq rfl) (hb hby at_128) (fun _ _ => ⟨rfl, e97, (by decide : 1 + 0 ≤ _), (by decide : 2 + 0 ≤ _)⟩)
    dsimp only [Pt.U, Pt.locs, Pt.cells, Pt.slots] at X102 l102 y102 z102 st102 hQ102
    subst l102 y102 z102
    obtain ⟨rfl, N102q, K102q, E102q, F102q_warmupNanos, F102q_lengthNanos⟩ := hQ102
    have N102 := Fr.app N0 N102q
    have K103 : Go p e below T102 (mkF m 131 #[.val (.long q0), .second, .val (.long q1), .second, .val (.long q2), .second, .val (.int q3), .val (.long w), .second, .val (.long ((9223372036854775807 : Int64) - w)), .second, .val (.long n), .second, .val (.long (w + n)), .second, .val (.int (q3 &&& (3 : Int32))), .val (.long due), .second, .val (.int (1 : Int32)), .unset] [(.ref b97)]) G := fun t k => K101 t (st102.trans k)
    have K104 : Go p e below T102 (mkF m 133 #[.val (.long q0), .second, .val (.long q1), .second, .val (.long q2), .second, .val (.int q3), .val (.long w), .second, .val (.long ((9223372036854775807 : Int64) - w)), .second, .val (.long n), .second, .val (.long (w + n)), .second, .val (.int (q3 &&& (3 : Int32))), .val (.long due), .second, .val (.int (1 : Int32)), .val (.ref b97)] []) G := fun t k => K103 t (XS.astore X102.here hx rfl (hb hby at_131) rfl rfl (l' := #[.val (.long q0), .second, .val (.long q1), .second, .val (.long q2), .second, .val (.int q3), .val (.long w), .second, .val (.long ((9223372036854775807 : Int64) - w)), .second, .val (.long n), .second, .val (.long (w + n)), .second, .val (.int (q3 &&& (3 : Int32))), .val (.long due), .second, .val (.int (1 : Int32)), .val (.ref b97)]) rfl k)
    have K105 : Go p e below T102 (mkF m 135 #[.val (.long q0), .second, .val (.long q1), .second, .val (.long q2), .second, .val (.int q3), .val (.long w), .second, .val (.long ((9223372036854775807 : Int64) - w)), .second, .val (.long n), .second, .val (.long (w + n)), .second, .val (.int (q3 &&& (3 : Int32))), .val (.long due), .second, .val (.int (1 : Int32)), .val (.ref b97)] [(.ref b97)]) G := fun t k => K104 t (XS.aload X102.here hx rfl (hb hby at_133) rfl rfl k)
    have K106 : Go p e below T102 (mkF m 137 #[.val (.long q0), .second, .val (.long q1), .second, .val (.long q2), .second, .val (.int q3), .val (.long w), .second, .val (.long ((9223372036854775807 : Int64) - w)), .second, .val (.long n), .second, .val (.long (w + n)), .second, .val (.int (q3 &&& (3 : Int32))), .val (.long due), .second, .val (.int (1 : Int32)), .val (.ref b97)] [(.long due), (.ref b97)]) G := fun t k => K105 t (XS.lload X102.here hx rfl (hb hby at_135) rfl k)
    obtain ⟨cq107, kq107, q107a, q107b, q107c⟩ := isOf hZ rfl E102q
    obtain ⟨v107, _, ⟨T107, L107, k107, n107⟩, -, X107, ⟨Lc107, hQ107, l107, y107, z107⟩, st107⟩ := X102.virtualBack hx (y := (⟨"com/example/kithmark/kithmark/run/Window", "runs", "(J)Z"⟩ : MethodName)) (z := (⟨"com/example/kithmark/kithmark/run/Window", "runs", "(J)Z"⟩ : MethodName)) hown (mvT hZ (hW 19 _ rfl)) (mvT hZ (hW 20 _ rfl)) (notFace_of_selects (args := #[]) (mvT hZ (hW 22 _ rfl))) (mvT hZ (hW 22 _ rfl)) (mvT hZ (hW 21 _ rfl)) (by decide) (backOf (W := 0) (rmRun l Z a0 hw [] b97 due w n T102.heap n0 (Nat.le_trans (Nat.le_trans Z0 E97.1) K102q.1) F102q_warmupNanos F102q_lengthNanos E102q) hZ (hW 23 _ rfl) (hW 3 _ rfl) (by decide) (by decide)) q107a q107c (g := (mkF m 137 #[.val (.long q0), .second, .val (.long q1), .second, .val (.long q2), .second, .val (.int q3), .val (.long w), .second, .val (.long ((9223372036854775807 : Int64) - w)), .second, .val (.long n), .second, .val (.long (w + n)), .second, .val (.int (q3 &&& (3 : Int32))), .val (.long due), .second, .val (.int (1 : Int32)), .val (.ref b97)] [(.long due), (.ref b97)])) rfl (by rw [hml]; rfl) (Steps.refl _) (argsL := [(.long due)]) (rest := []) (lenOf pd_41 rfl) rfl (by show 2 * 0 + _ ≤ _; exact Nat.le_of_eq rfl) (hb hby at_137) (fun _ _ => ⟨rfl, rfl, (by decide : 1 + 0 ≤ _), (by decide : 2 + 0 ≤ _)⟩)
    dsimp only [Pt.U, Pt.locs, Pt.cells, Pt.slots] at X107 l107 y107 z107 st107 hQ107
    subst l107 y107 z107
    by_cases hc108 : due < (w + n)
    · skip
      rw [QRun, if_pos hc108] at hQ107
      obtain ⟨rfl, N107q, E107q⟩ := hQ107
      have N107 := Fr.app N102 N107q
      have K109 : Go p e below T107 (mkF m 140 #[.val (.long q0), .second, .val (.long q1), .second, .val (.long q2), .second, .val (.int q3), .val (.long w), .second, .val (.long ((9223372036854775807 : Int64) - w)), .second, .val (.long n), .second, .val (.long (w + n)), .second, .val (.int (q3 &&& (3 : Int32))), .val (.long due), .second, .val (.int (1 : Int32)), .val (.ref b97)] [(.int (1 : Int32))]) G := fun t k => K106 t (st107.trans k)
      have K110 : Go p e below T107 (mkF m 142 #[.val (.long q0), .second, .val (.long q1), .second, .val (.long q2), .second, .val (.int q3), .val (.long w), .second, .val (.long ((9223372036854775807 : Int64) - w)), .second, .val (.long n), .second, .val (.long (w + n)), .second, .val (.int (q3 &&& (3 : Int32))), .val (.long due), .second, .val (.int (1 : Int32)), .val (.ref b97)] [(.int (1 : Int32)), (.int (1 : Int32))]) G := fun t k => K109 t (XS.iload X107.here hx rfl (hb hby at_140) rfl k)
      have K111 : Go p e below T107 (mkF m 145 #[.val (.long q0), .second, .val (.long q1), .second, .val (.long q2), .second, .val (.int q3), .val (.long w), .second, .val (.long ((9223372036854775807 : Int64) - w)), .second, .val (.long n), .second, .val (.long (w + n)), .second, .val (.int (q3 &&& (3 : Int32))), .val (.long due), .second, .val (.int (1 : Int32)), .val (.ref b97)] []) G := fun t k => K110 t (XS.icmpNo X107.here hx rfl (hb hby at_142) rfl ((teq (by decide : (1 : Int32) = (1 : Int32))).2) k)
      have K112 : Go p e below T107 (mkF m 146 #[.val (.long q0), .second, .val (.long q1), .second, .val (.long q2), .second, .val (.int q3), .val (.long w), .second, .val (.long ((9223372036854775807 : Int64) - w)), .second, .val (.long n), .second, .val (.long (w + n)), .second, .val (.int (q3 &&& (3 : Int32))), .val (.long due), .second, .val (.int (1 : Int32)), .val (.ref b97)] [(.int (1 : Int32))]) G := fun t k => K111 t (XS.iconst X107.here hx rfl (hb hby at_145) k)
      have K113 : Go p e below T107 (mkF m 150 #[.val (.long q0), .second, .val (.long q1), .second, .val (.long q2), .second, .val (.int q3), .val (.long w), .second, .val (.long ((9223372036854775807 : Int64) - w)), .second, .val (.long n), .second, .val (.long (w + n)), .second, .val (.int (q3 &&& (3 : Int32))), .val (.long due), .second, .val (.int (1 : Int32)), .val (.ref b97)] [(.int (1 : Int32))]) G := fun t k => K112 t (XS.goto X107.here hx rfl (pc0 := 146) (pc' := 150) rfl (hb hby at_146) (by decide) (by decide) k)
      obtain ⟨fs, hr, hrun, hended, hWW, hsame⟩ := X107.leave (v := some (.int (1 : Int32))) (fun h => by rw [Bd.returns] at h; cases h)
      refine ⟨_, _, hG _ (K113 _ (retN X107 hx (t := .boolean) Bd.returns (by simp) (hb hby at_150) hr)), hrun, hended, _, _, rfl, ?_, ⟨_, rfl⟩, hWW, hsame.mono (by decide) (by decide)⟩
      show Q0 Z q0 q1 q2 q3 h0 n0 _ T107.heap _
      rw [E107q]
      exact ⟨rfl, N107⟩
    · skip
      rw [QRun, if_neg hc108] at hQ107
      obtain ⟨rfl, N107q, E107q⟩ := hQ107
      have N107 := Fr.app N102 N107q
      have K114 : Go p e below T107 (mkF m 140 #[.val (.long q0), .second, .val (.long q1), .second, .val (.long q2), .second, .val (.int q3), .val (.long w), .second, .val (.long ((9223372036854775807 : Int64) - w)), .second, .val (.long n), .second, .val (.long (w + n)), .second, .val (.int (q3 &&& (3 : Int32))), .val (.long due), .second, .val (.int (1 : Int32)), .val (.ref b97)] [(.int (0 : Int32))]) G := fun t k => K106 t (st107.trans k)
      have K115 : Go p e below T107 (mkF m 142 #[.val (.long q0), .second, .val (.long q1), .second, .val (.long q2), .second, .val (.int q3), .val (.long w), .second, .val (.long ((9223372036854775807 : Int64) - w)), .second, .val (.long n), .second, .val (.long (w + n)), .second, .val (.int (q3 &&& (3 : Int32))), .val (.long due), .second, .val (.int (1 : Int32)), .val (.ref b97)] [(.int (1 : Int32)), (.int (0 : Int32))]) G := fun t k => K114 t (XS.iload X107.here hx rfl (hb hby at_140) rfl k)
      have K116 : Go p e below T107 (mkF m 149 #[.val (.long q0), .second, .val (.long q1), .second, .val (.long q2), .second, .val (.int q3), .val (.long w), .second, .val (.long ((9223372036854775807 : Int64) - w)), .second, .val (.long n), .second, .val (.long (w + n)), .second, .val (.int (q3 &&& (3 : Int32))), .val (.long due), .second, .val (.int (1 : Int32)), .val (.ref b97)] []) G := fun t k => K115 t (XS.icmpYes X107.here hx rfl (pc0 := 142) (pc' := 149) rfl (hb hby at_142) rfl ((feq (by decide : ¬ ((0 : Int32) = (1 : Int32)))).2) (by decide) (by decide) k)
      have K117 : Go p e below T107 (mkF m 150 #[.val (.long q0), .second, .val (.long q1), .second, .val (.long q2), .second, .val (.int q3), .val (.long w), .second, .val (.long ((9223372036854775807 : Int64) - w)), .second, .val (.long n), .second, .val (.long (w + n)), .second, .val (.int (q3 &&& (3 : Int32))), .val (.long due), .second, .val (.int (1 : Int32)), .val (.ref b97)] [(.int (0 : Int32))]) G := fun t k => K116 t (XS.iconst X107.here hx rfl (hb hby at_149) k)
      exact absurd fin (by simp [hc92, hc108])
  · skip
    have K118 : Go p e below s₁ (mkF m 102 #[.val (.long q0), .second, .val (.long q1), .second, .val (.long q2), .second, .val (.int q3), .val (.long w), .second, .val (.long ((9223372036854775807 : Int64) - w)), .second, .val (.long n), .second, .val (.long (w + n)), .second, .val (.int (q3 &&& (3 : Int32))), .val (.long due), .second, .unset, .unset] []) G := fun t k => K91 t (XS.ifYes X0.here hx rfl (pc0 := 93) (pc' := 102) rfl (hb hby at_93) rfl ((if0 _ _).trans (flt (fun z => hc92 ((lw_lt _ _).mp z))).2.1) (by decide) (by decide) k)
    have K119 : Go p e below s₁ (mkF m 104 #[.val (.long q0), .second, .val (.long q1), .second, .val (.long q2), .second, .val (.int q3), .val (.long w), .second, .val (.long ((9223372036854775807 : Int64) - w)), .second, .val (.long n), .second, .val (.long (w + n)), .second, .val (.int (q3 &&& (3 : Int32))), .val (.long due), .second, .unset, .unset] [(.long due)]) G := fun t k => K118 t (XS.lload X0.here hx rfl (hb hby at_102) rfl k)
    have K120 : Go p e below s₁ (mkF m 106 #[.val (.long q0), .second, .val (.long q1), .second, .val (.long q2), .second, .val (.int q3), .val (.long w), .second, .val (.long ((9223372036854775807 : Int64) - w)), .second, .val (.long n), .second, .val (.long (w + n)), .second, .val (.int (q3 &&& (3 : Int32))), .val (.long due), .second, .unset, .unset] [(.long w), (.long due)]) G := fun t k => K119 t (XS.lload X0.here hx rfl (hb hby at_104) rfl k)
    have K121 : Go p e below s₁ (mkF m 107 #[.val (.long q0), .second, .val (.long q1), .second, .val (.long q2), .second, .val (.int q3), .val (.long w), .second, .val (.long ((9223372036854775807 : Int64) - w)), .second, .val (.long n), .second, .val (.long (w + n)), .second, .val (.int (q3 &&& (3 : Int32))), .val (.long due), .second, .unset, .unset] [(.long (due - w))]) G := fun t k => K120 t (XS.lsub X0.here hx rfl (hb hby at_106) rfl k)
    have K122 : Go p e below s₁ (mkF m 109 #[.val (.long q0), .second, .val (.long q1), .second, .val (.long q2), .second, .val (.int q3), .val (.long w), .second, .val (.long ((9223372036854775807 : Int64) - w)), .second, .val (.long n), .second, .val (.long (w + n)), .second, .val (.int (q3 &&& (3 : Int32))), .val (.long due), .second, .unset, .unset] [(.long n), (.long (due - w))]) G := fun t k => K121 t (XS.lload X0.here hx rfl (hb hby at_107) rfl k)
    have K123 : Go p e below s₁ (mkF m 110 #[.val (.long q0), .second, .val (.long q1), .second, .val (.long q2), .second, .val (.int q3), .val (.long w), .second, .val (.long ((9223372036854775807 : Int64) - w)), .second, .val (.long n), .second, .val (.long (w + n)), .second, .val (.int (q3 &&& (3 : Int32))), .val (.long due), .second, .unset, .unset] [(.int (lcmpW (due - w) n))]) G := fun t k => K122 t (XS.lcmp X0.here hx rfl (hb hby at_109) rfl k)
    by_cases hc124 : (due - w) < n
    · skip
      have K125 : Go p e below s₁ (mkF m 113 #[.val (.long q0), .second, .val (.long q1), .second, .val (.long q2), .second, .val (.int q3), .val (.long w), .second, .val (.long ((9223372036854775807 : Int64) - w)), .second, .val (.long n), .second, .val (.long (w + n)), .second, .val (.int (q3 &&& (3 : Int32))), .val (.long due), .second, .unset, .unset] []) G := fun t k => K123 t (XS.ifNo X0.here hx rfl (hb hby at_110) rfl ((if0 _ _).trans (tlt ((lw_lt _ _).mpr hc124)).2.1) k)
      have K126 : Go p e below s₁ (mkF m 114 #[.val (.long q0), .second, .val (.long q1), .second, .val (.long q2), .second, .val (.int q3), .val (.long w), .second, .val (.long ((9223372036854775807 : Int64) - w)), .second, .val (.long n), .second, .val (.long (w + n)), .second, .val (.int (q3 &&& (3 : Int32))), .val (.long due), .second, .unset, .unset] [(.int (1 : Int32))]) G := fun t k => K125 t (XS.iconst X0.here hx rfl (hb hby at_113) k)
      have K127 : Go p e below s₁ (mkF m 118 #[.val (.long q0), .second, .val (.long q1), .second, .val (.long q2), .second, .val (.int q3), .val (.long w), .second, .val (.long ((9223372036854775807 : Int64) - w)), .second, .val (.long n), .second, .val (.long (w + n)), .second, .val (.int (q3 &&& (3 : Int32))), .val (.long due), .second, .unset, .unset] [(.int (1 : Int32))]) G := fun t k => K126 t (XS.goto X0.here hx rfl (pc0 := 114) (pc' := 118) rfl (hb hby at_114) (by decide) (by decide) k)
      have K128 : Go p e below s₁ (mkF m 120 #[.val (.long q0), .second, .val (.long q1), .second, .val (.long q2), .second, .val (.int q3), .val (.long w), .second, .val (.long ((9223372036854775807 : Int64) - w)), .second, .val (.long n), .second, .val (.long (w + n)), .second, .val (.int (q3 &&& (3 : Int32))), .val (.long due), .second, .val (.int (1 : Int32)), .unset] []) G := fun t k => K127 t (XS.istore X0.here hx rfl (hb hby at_118) rfl (l' := #[.val (.long q0), .second, .val (.long q1), .second, .val (.long q2), .second, .val (.int q3), .val (.long w), .second, .val (.long ((9223372036854775807 : Int64) - w)), .second, .val (.long n), .second, .val (.long (w + n)), .second, .val (.int (q3 &&& (3 : Int32))), .val (.long due), .second, .val (.int (1 : Int32)), .unset]) rfl k)
      obtain ⟨T129, h129, X129, e129, E129, A129, D129, -, st129⟩ := newO X0 hx hZ hown (hW 1 _ rfl) (hW 2 _ rfl) (hW 3 _ rfl) e0 (g := (mkF m 120 #[.val (.long q0), .second, .val (.long q1), .second, .val (.long q2), .second, .val (.int q3), .val (.long w), .second, .val (.long ((9223372036854775807 : Int64) - w)), .second, .val (.long n), .second, .val (.long (w + n)), .second, .val (.int (q3 &&& (3 : Int32))), .val (.long due), .second, .val (.int (1 : Int32)), .unset] [])) rfl (hb hby at_120) (by decide) (by decide)
      obtain ⟨b129, g129⟩ : ∃ z, z = h0.size := ⟨_, rfl⟩
      rw [← g129] at A129 D129 st129
      have ge_b129 : n0 ≤ b129 := Nat.le_trans Z0 (Nat.le_of_eq g129.symm)
      have sz_b129 : h0.size ≤ b129 := Nat.le_trans ((Keep.refl h0 [])).1 (Nat.le_of_eq g129.symm)
      have F129_warmupNanos : Fld Z h129 b129 "com/example/kithmark/kithmark/run/Window" "warmupNanos" "J" (.long (0 : Int64)) := D129 (Or.inr (hW 16 _ rfl)) (ty := .long) (by decide)
      have F129_lengthNanos : Fld Z h129 b129 "com/example/kithmark/kithmark/run/Window" "lengthNanos" "J" (.long (0 : Int64)) := D129 (Or.inr (hW 18 _ rfl)) (ty := .long) (by decide)
      have K130 : Go p e below T129 (mkF m 123 #[.val (.long q0), .second, .val (.long q1), .second, .val (.long q2), .second, .val (.int q3), .val (.long w), .second, .val (.long ((9223372036854775807 : Int64) - w)), .second, .val (.long n), .second, .val (.long (w + n)), .second, .val (.int (q3 &&& (3 : Int32))), .val (.long due), .second, .val (.int (1 : Int32)), .unset] [(.ref b129)]) G := fun t k => K128 t (st129 t k)
      have K131 : Go p e below T129 (mkF m 124 #[.val (.long q0), .second, .val (.long q1), .second, .val (.long q2), .second, .val (.int q3), .val (.long w), .second, .val (.long ((9223372036854775807 : Int64) - w)), .second, .val (.long n), .second, .val (.long (w + n)), .second, .val (.int (q3 &&& (3 : Int32))), .val (.long due), .second, .val (.int (1 : Int32)), .unset] [(.ref b129), (.ref b129)]) G := fun t k => K130 t (XS.dup X129.here hx rfl (hb hby at_123) rfl rfl k)
      have K132 : Go p e below T129 (mkF m 126 #[.val (.long q0), .second, .val (.long q1), .second, .val (.long q2), .second, .val (.int q3), .val (.long w), .second, .val (.long ((9223372036854775807 : Int64) - w)), .second, .val (.long n), .second, .val (.long (w + n)), .second, .val (.int (q3 &&& (3 : Int32))), .val (.long due), .second, .val (.int (1 : Int32)), .unset] [(.long w), (.ref b129), (.ref b129)]) G := fun t k => K131 t (XS.lload X129.here hx rfl (hb hby at_124) rfl k)
      have K133 : Go p e below T129 (mkF m 128 #[.val (.long q0), .second, .val (.long q1), .second, .val (.long q2), .second, .val (.int q3), .val (.long w), .second, .val (.long ((9223372036854775807 : Int64) - w)), .second, .val (.long n), .second, .val (.long (w + n)), .second, .val (.int (q3 &&& (3 : Int32))), .val (.long due), .second, .val (.int (1 : Int32)), .unset] [(.long n), (.long w), (.ref b129), (.ref b129)]) G := fun t k => K132 t (XS.lload X129.here hx rfl (hb hby at_126) rfl k)
      obtain ⟨v134, _, ⟨T134, L134, k134, n134⟩, -, X134, ⟨Lc134, hQ134, l134, y134, z134⟩, st134⟩ := X129.specialBack hx (y := (⟨"com/example/kithmark/kithmark/run/Window", "<init>", "(JJ)V"⟩ : MethodName)) rfl hown (mvT hZ (hW 4 _ rfl)) (mvT hZ (hW 5 _ rfl)) (mvT hZ (hW 6 _ rfl)) (by decide) (backOf (W := 1) (rmIni l Z a0 hw [] b129 w n h129 n0 (Nat.le_trans Z0 E129.1) F129_warmupNanos F129_lengthNanos A129 ge_b129) hZ (hW 6 _ rfl) (hW 3 _ rfl) (by decide) (by decide)) (g := (mkF m 128 #[.val (.long q0), .second, .val (.long q1), .second, .val (.long q2), .second, .val (.int q3), .val (.long w), .second, .val (.long ((9223372036854775807 : Int64) - w)), .second, .val (.long n), .second, .val (.long (w + n)), .second, .val (.int (q3 &&& (3 : Int32))), .val (.long due), .second, .val (.int (1 : Int32)), .unset] [(.long n), (.long w), (.ref b129), (.ref b129)])) rfl (by rw [hml]; rfl) (Steps.refl _) (a := b129) (argsL := [(.long w), (.long n)]) (rest := [(.ref b129)]) (lenOf pd_40 rfl) rfl (by show 2 * 0 + _ ≤ _; exact Nat.le_of_eq rfl) (hb hby at_128) (fun _ _ => ⟨rfl, e129, (by decide : 1 + 0 ≤ _), (by decide : 2 + 0 ≤ _)⟩)
      dsimp only [Pt.U, Pt.locs, Pt.cells, Pt.slots] at X134 l134 y134 z134 st134 hQ134
      subst l134 y134 z134
      obtain ⟨rfl, N134q, K134q, E134q, F134q_warmupNanos, F134q_lengthNanos⟩ := hQ134
      have N134 := Fr.app N0 N134q
      have K135 : Go p e below T134 (mkF m 131 #[.val (.long q0), .second, .val (.long q1), .second, .val (.long q2), .second, .val (.int q3), .val (.long w), .second, .val (.long ((9223372036854775807 : Int64) - w)), .second, .val (.long n), .second, .val (.long (w + n)), .second, .val (.int (q3 &&& (3 : Int32))), .val (.long due), .second, .val (.int (1 : Int32)), .unset] [(.ref b129)]) G := fun t k => K133 t (st134.trans k)
      have K136 : Go p e below T134 (mkF m 133 #[.val (.long q0), .second, .val (.long q1), .second, .val (.long q2), .second, .val (.int q3), .val (.long w), .second, .val (.long ((9223372036854775807 : Int64) - w)), .second, .val (.long n), .second, .val (.long (w + n)), .second, .val (.int (q3 &&& (3 : Int32))), .val (.long due), .second, .val (.int (1 : Int32)), .val (.ref b129)] []) G := fun t k => K135 t (XS.astore X134.here hx rfl (hb hby at_131) rfl rfl (l' := #[.val (.long q0), .second, .val (.long q1), .second, .val (.long q2), .second, .val (.int q3), .val (.long w), .second, .val (.long ((9223372036854775807 : Int64) - w)), .second, .val (.long n), .second, .val (.long (w + n)), .second, .val (.int (q3 &&& (3 : Int32))), .val (.long due), .second, .val (.int (1 : Int32)), .val (.ref b129)]) rfl k)
      have K137 : Go p e below T134 (mkF m 135 #[.val (.long q0), .second, .val (.long q1), .second, .val (.long q2), .second, .val (.int q3), .val (.long w), .second, .val (.long ((9223372036854775807 : Int64) - w)), .second, .val (.long n), .second, .val (.long (w + n)), .second, .val (.int (q3 &&& (3 : Int32))), .val (.long due), .second, .val (.int (1 : Int32)), .val (.ref b129)] [(.ref b129)]) G := fun t k => K136 t (XS.aload X134.here hx rfl (hb hby at_133) rfl rfl k)
      have K138 : Go p e below T134 (mkF m 137 #[.val (.long q0), .second, .val (.long q1), .second, .val (.long q2), .second, .val (.int q3), .val (.long w), .second, .val (.long ((9223372036854775807 : Int64) - w)), .second, .val (.long n), .second, .val (.long (w + n)), .second, .val (.int (q3 &&& (3 : Int32))), .val (.long due), .second, .val (.int (1 : Int32)), .val (.ref b129)] [(.long due), (.ref b129)]) G := fun t k => K137 t (XS.lload X134.here hx rfl (hb hby at_135) rfl k)
      obtain ⟨cq139, kq139, q139a, q139b, q139c⟩ := isOf hZ rfl E134q
      obtain ⟨v139, _, ⟨T139, L139, k139, n139⟩, -, X139, ⟨Lc139, hQ139, l139, y139, z139⟩, st139⟩ := X134.virtualBack hx (y := (⟨"com/example/kithmark/kithmark/run/Window", "runs", "(J)Z"⟩ : MethodName)) (z := (⟨"com/example/kithmark/kithmark/run/Window", "runs", "(J)Z"⟩ : MethodName)) hown (mvT hZ (hW 19 _ rfl)) (mvT hZ (hW 20 _ rfl)) (notFace_of_selects (args := #[]) (mvT hZ (hW 22 _ rfl))) (mvT hZ (hW 22 _ rfl)) (mvT hZ (hW 21 _ rfl)) (by decide) (backOf (W := 0) (rmRun l Z a0 hw [] b129 due w n T134.heap n0 (Nat.le_trans (Nat.le_trans Z0 E129.1) K134q.1) F134q_warmupNanos F134q_lengthNanos E134q) hZ (hW 23 _ rfl) (hW 3 _ rfl) (by decide) (by decide)) q139a q139c (g := (mkF m 137 #[.val (.long q0), .second, .val (.long q1), .second, .val (.long q2), .second, .val (.int q3), .val (.long w), .second, .val (.long ((9223372036854775807 : Int64) - w)), .second, .val (.long n), .second, .val (.long (w + n)), .second, .val (.int (q3 &&& (3 : Int32))), .val (.long due), .second, .val (.int (1 : Int32)), .val (.ref b129)] [(.long due), (.ref b129)])) rfl (by rw [hml]; rfl) (Steps.refl _) (argsL := [(.long due)]) (rest := []) (lenOf pd_41 rfl) rfl (by show 2 * 0 + _ ≤ _; exact Nat.le_of_eq rfl) (hb hby at_137) (fun _ _ => ⟨rfl, rfl, (by decide : 1 + 0 ≤ _), (by decide : 2 + 0 ≤ _)⟩)
      dsimp only [Pt.U, Pt.locs, Pt.cells, Pt.slots] at X139 l139 y139 z139 st139 hQ139
      subst l139 y139 z139
      by_cases hc140 : due < (w + n)
      · skip
        rw [QRun, if_pos hc140] at hQ139
        obtain ⟨rfl, N139q, E139q⟩ := hQ139
        have N139 := Fr.app N134 N139q
        have K141 : Go p e below T139 (mkF m 140 #[.val (.long q0), .second, .val (.long q1), .second, .val (.long q2), .second, .val (.int q3), .val (.long w), .second, .val (.long ((9223372036854775807 : Int64) - w)), .second, .val (.long n), .second, .val (.long (w + n)), .second, .val (.int (q3 &&& (3 : Int32))), .val (.long due), .second, .val (.int (1 : Int32)), .val (.ref b129)] [(.int (1 : Int32))]) G := fun t k => K138 t (st139.trans k)
        have K142 : Go p e below T139 (mkF m 142 #[.val (.long q0), .second, .val (.long q1), .second, .val (.long q2), .second, .val (.int q3), .val (.long w), .second, .val (.long ((9223372036854775807 : Int64) - w)), .second, .val (.long n), .second, .val (.long (w + n)), .second, .val (.int (q3 &&& (3 : Int32))), .val (.long due), .second, .val (.int (1 : Int32)), .val (.ref b129)] [(.int (1 : Int32)), (.int (1 : Int32))]) G := fun t k => K141 t (XS.iload X139.here hx rfl (hb hby at_140) rfl k)
        have K143 : Go p e below T139 (mkF m 145 #[.val (.long q0), .second, .val (.long q1), .second, .val (.long q2), .second, .val (.int q3), .val (.long w), .second, .val (.long ((9223372036854775807 : Int64) - w)), .second, .val (.long n), .second, .val (.long (w + n)), .second, .val (.int (q3 &&& (3 : Int32))), .val (.long due), .second, .val (.int (1 : Int32)), .val (.ref b129)] []) G := fun t k => K142 t (XS.icmpNo X139.here hx rfl (hb hby at_142) rfl ((teq (by decide : (1 : Int32) = (1 : Int32))).2) k)
        have K144 : Go p e below T139 (mkF m 146 #[.val (.long q0), .second, .val (.long q1), .second, .val (.long q2), .second, .val (.int q3), .val (.long w), .second, .val (.long ((9223372036854775807 : Int64) - w)), .second, .val (.long n), .second, .val (.long (w + n)), .second, .val (.int (q3 &&& (3 : Int32))), .val (.long due), .second, .val (.int (1 : Int32)), .val (.ref b129)] [(.int (1 : Int32))]) G := fun t k => K143 t (XS.iconst X139.here hx rfl (hb hby at_145) k)
        have K145 : Go p e below T139 (mkF m 150 #[.val (.long q0), .second, .val (.long q1), .second, .val (.long q2), .second, .val (.int q3), .val (.long w), .second, .val (.long ((9223372036854775807 : Int64) - w)), .second, .val (.long n), .second, .val (.long (w + n)), .second, .val (.int (q3 &&& (3 : Int32))), .val (.long due), .second, .val (.int (1 : Int32)), .val (.ref b129)] [(.int (1 : Int32))]) G := fun t k => K144 t (XS.goto X139.here hx rfl (pc0 := 146) (pc' := 150) rfl (hb hby at_146) (by decide) (by decide) k)
        obtain ⟨fs, hr, hrun, hended, hWW, hsame⟩ := X139.leave (v := some (.int (1 : Int32))) (fun h => by rw [Bd.returns] at h; cases h)
        refine ⟨_, _, hG _ (K145 _ (retN X139 hx (t := .boolean) Bd.returns (by simp) (hb hby at_150) hr)), hrun, hended, _, _, rfl, ?_, ⟨_, rfl⟩, hWW, hsame.mono (by decide) (by decide)⟩
        show Q0 Z q0 q1 q2 q3 h0 n0 _ T139.heap _
        rw [E139q]
        exact ⟨rfl, N139⟩
      · skip
        rw [QRun, if_neg hc140] at hQ139
        obtain ⟨rfl, N139q, E139q⟩ := hQ139
        have N139 := Fr.app N134 N139q
        have K146 : Go p e below T139 (mkF m 140 #[.val (.long q0), .second, .val (.long q1), .second, .val (.long q2), .second, .val (.int q3), .val (.long w), .second, .val (.long ((9223372036854775807 : Int64) - w)), .second, .val (.long n), .second, .val (.long (w + n)), .second, .val (.int (q3 &&& (3 : Int32))), .val (.long due), .second, .val (.int (1 : Int32)), .val (.ref b129)] [(.int (0 : Int32))]) G := fun t k => K138 t (st139.trans k)
        have K147 : Go p e below T139 (mkF m 142 #[.val (.long q0), .second, .val (.long q1), .second, .val (.long q2), .second, .val (.int q3), .val (.long w), .second, .val (.long ((9223372036854775807 : Int64) - w)), .second, .val (.long n), .second, .val (.long (w + n)), .second, .val (.int (q3 &&& (3 : Int32))), .val (.long due), .second, .val (.int (1 : Int32)), .val (.ref b129)] [(.int (1 : Int32)), (.int (0 : Int32))]) G := fun t k => K146 t (XS.iload X139.here hx rfl (hb hby at_140) rfl k)
        have K148 : Go p e below T139 (mkF m 149 #[.val (.long q0), .second, .val (.long q1), .second, .val (.long q2), .second, .val (.int q3), .val (.long w), .second, .val (.long ((9223372036854775807 : Int64) - w)), .second, .val (.long n), .second, .val (.long (w + n)), .second, .val (.int (q3 &&& (3 : Int32))), .val (.long due), .second, .val (.int (1 : Int32)), .val (.ref b129)] []) G := fun t k => K147 t (XS.icmpYes X139.here hx rfl (pc0 := 142) (pc' := 149) rfl (hb hby at_142) rfl ((feq (by decide : ¬ ((0 : Int32) = (1 : Int32)))).2) (by decide) (by decide) k)
        have K149 : Go p e below T139 (mkF m 150 #[.val (.long q0), .second, .val (.long q1), .second, .val (.long q2), .second, .val (.int q3), .val (.long w), .second, .val (.long ((9223372036854775807 : Int64) - w)), .second, .val (.long n), .second, .val (.long (w + n)), .second, .val (.int (q3 &&& (3 : Int32))), .val (.long due), .second, .val (.int (1 : Int32)), .val (.ref b129)] [(.int (0 : Int32))]) G := fun t k => K148 t (XS.iconst X139.here hx rfl (hb hby at_149) k)
        exact absurd fin (by simp [hc92, hc124, hc140])
    · skip
      have K150 : Go p e below s₁ (mkF m 117 #[.val (.long q0), .second, .val (.long q1), .second, .val (.long q2), .second, .val (.int q3), .val (.long w), .second, .val (.long ((9223372036854775807 : Int64) - w)), .second, .val (.long n), .second, .val (.long (w + n)), .second, .val (.int (q3 &&& (3 : Int32))), .val (.long due), .second, .unset, .unset] []) G := fun t k => K123 t (XS.ifYes X0.here hx rfl (pc0 := 110) (pc' := 117) rfl (hb hby at_110) rfl ((if0 _ _).trans (flt (fun z => hc124 ((lw_lt _ _).mp z))).2.1) (by decide) (by decide) k)
      have K151 : Go p e below s₁ (mkF m 118 #[.val (.long q0), .second, .val (.long q1), .second, .val (.long q2), .second, .val (.int q3), .val (.long w), .second, .val (.long ((9223372036854775807 : Int64) - w)), .second, .val (.long n), .second, .val (.long (w + n)), .second, .val (.int (q3 &&& (3 : Int32))), .val (.long due), .second, .unset, .unset] [(.int (0 : Int32))]) G := fun t k => K150 t (XS.iconst X0.here hx rfl (hb hby at_117) k)
      have K152 : Go p e below s₁ (mkF m 120 #[.val (.long q0), .second, .val (.long q1), .second, .val (.long q2), .second, .val (.int q3), .val (.long w), .second, .val (.long ((9223372036854775807 : Int64) - w)), .second, .val (.long n), .second, .val (.long (w + n)), .second, .val (.int (q3 &&& (3 : Int32))), .val (.long due), .second, .val (.int (0 : Int32)), .unset] []) G := fun t k => K151 t (XS.istore X0.here hx rfl (hb hby at_118) rfl (l' := #[.val (.long q0), .second, .val (.long q1), .second, .val (.long q2), .second, .val (.int q3), .val (.long w), .second, .val (.long ((9223372036854775807 : Int64) - w)), .second, .val (.long n), .second, .val (.long (w + n)), .second, .val (.int (q3 &&& (3 : Int32))), .val (.long due), .second, .val (.int (0 : Int32)), .unset]) rfl k)
      obtain ⟨T153, h153, X153, e153, E153, A153, D153, -, st153⟩ := newO X0 hx hZ hown (hW 1 _ rfl) (hW 2 _ rfl) (hW 3 _ rfl) e0 (g := (mkF m 120 #[.val (.long q0), .second, .val (.long q1), .second, .val (.long q2), .second, .val (.int q3), .val (.long w), .second, .val (.long ((9223372036854775807 : Int64) - w)), .second, .val (.long n), .second, .val (.long (w + n)), .second, .val (.int (q3 &&& (3 : Int32))), .val (.long due), .second, .val (.int (0 : Int32)), .unset] [])) rfl (hb hby at_120) (by decide) (by decide)
      obtain ⟨b153, g153⟩ : ∃ z, z = h0.size := ⟨_, rfl⟩
      rw [← g153] at A153 D153 st153
      have ge_b153 : n0 ≤ b153 := Nat.le_trans Z0 (Nat.le_of_eq g153.symm)
      have sz_b153 : h0.size ≤ b153 := Nat.le_trans ((Keep.refl h0 [])).1 (Nat.le_of_eq g153.symm)
      have F153_warmupNanos : Fld Z h153 b153 "com/example/kithmark/kithmark/run/Window" "warmupNanos" "J" (.long (0 : Int64)) := D153 (Or.inr (hW 16 _ rfl)) (ty := .long) (by decide)
      have F153_lengthNanos : Fld Z h153 b153 "com/example/kithmark/kithmark/run/Window" "lengthNanos" "J" (.long (0 : Int64)) := D153 (Or.inr (hW 18 _ rfl)) (ty := .long) (by decide)
      have K154 : Go p e below T153 (mkF m 123 #[.val (.long q0), .second, .val (.long q1), .second, .val (.long q2), .second, .val (.int q3), .val (.long w), .second, .val (.long ((9223372036854775807 : Int64) - w)), .second, .val (.long n), .second, .val (.long (w + n)), .second, .val (.int (q3 &&& (3 : Int32))), .val (.long due), .second, .val (.int (0 : Int32)), .unset] [(.ref b153)]) G := fun t k => K152 t (st153 t k)
      have K155 : Go p e below T153 (mkF m 124 #[.val (.long q0), .second, .val (.long q1), .second, .val (.long q2), .second, .val (.int q3), .val (.long w), .second, .val (.long ((9223372036854775807 : Int64) - w)), .second, .val (.long n), .second, .val (.long (w + n)), .second, .val (.int (q3 &&& (3 : Int32))), .val (.long due), .second, .val (.int (0 : Int32)), .unset] [(.ref b153), (.ref b153)]) G := fun t k => K154 t (XS.dup X153.here hx rfl (hb hby at_123) rfl rfl k)
      have K156 : Go p e below T153 (mkF m 126 #[.val (.long q0), .second, .val (.long q1), .second, .val (.long q2), .second, .val (.int q3), .val (.long w), .second, .val (.long ((9223372036854775807 : Int64) - w)), .second, .val (.long n), .second, .val (.long (w + n)), .second, .val (.int (q3 &&& (3 : Int32))), .val (.long due), .second, .val (.int (0 : Int32)), .unset] [(.long w), (.ref b153), (.ref b153)]) G := fun t k => K155 t (XS.lload X153.here hx rfl (hb hby at_124) rfl k)
      have K157 : Go p e below T153 (mkF m 128 #[.val (.long q0), .second, .val (.long q1), .second, .val (.long q2), .second, .val (.int q3), .val (.long w), .second, .val (.long ((9223372036854775807 : Int64) - w)), .second, .val (.long n), .second, .val (.long (w + n)), .second, .val (.int (q3 &&& (3 : Int32))), .val (.long due), .second, .val (.int (0 : Int32)), .unset] [(.long n), (.long w), (.ref b153), (.ref b153)]) G := fun t k => K156 t (XS.lload X153.here hx rfl (hb hby at_126) rfl k)
      obtain ⟨v158, _, ⟨T158, L158, k158, n158⟩, -, X158, ⟨Lc158, hQ158, l158, y158, z158⟩, st158⟩ := X153.specialBack hx (y := (⟨"com/example/kithmark/kithmark/run/Window", "<init>", "(JJ)V"⟩ : MethodName)) rfl hown (mvT hZ (hW 4 _ rfl)) (mvT hZ (hW 5 _ rfl)) (mvT hZ (hW 6 _ rfl)) (by decide) (backOf (W := 1) (rmIni l Z a0 hw [] b153 w n h153 n0 (Nat.le_trans Z0 E153.1) F153_warmupNanos F153_lengthNanos A153 ge_b153) hZ (hW 6 _ rfl) (hW 3 _ rfl) (by decide) (by decide)) (g := (mkF m 128 #[.val (.long q0), .second, .val (.long q1), .second, .val (.long q2), .second, .val (.int q3), .val (.long w), .second, .val (.long ((9223372036854775807 : Int64) - w)), .second, .val (.long n), .second, .val (.long (w + n)), .second, .val (.int (q3 &&& (3 : Int32))), .val (.long due), .second, .val (.int (0 : Int32)), .unset] [(.long n), (.long w), (.ref b153), (.ref b153)])) rfl (by rw [hml]; rfl) (Steps.refl _) (a := b153) (argsL := [(.long w), (.long n)]) (rest := [(.ref b153)]) (lenOf pd_40 rfl) rfl (by show 2 * 0 + _ ≤ _; exact Nat.le_of_eq rfl) (hb hby at_128) (fun _ _ => ⟨rfl, e153, (by decide : 1 + 0 ≤ _), (by decide : 2 + 0 ≤ _)⟩)
      dsimp only [Pt.U, Pt.locs, Pt.cells, Pt.slots] at X158 l158 y158 z158 st158 hQ158
      subst l158 y158 z158
      obtain ⟨rfl, N158q, K158q, E158q, F158q_warmupNanos, F158q_lengthNanos⟩ := hQ158
      have N158 := Fr.app N0 N158q
      have K159 : Go p e below T158 (mkF m 131 #[.val (.long q0), .second, .val (.long q1), .second, .val (.long q2), .second, .val (.int q3), .val (.long w), .second, .val (.long ((9223372036854775807 : Int64) - w)), .second, .val (.long n), .second, .val (.long (w + n)), .second, .val (.int (q3 &&& (3 : Int32))), .val (.long due), .second, .val (.int (0 : Int32)), .unset] [(.ref b153)]) G := fun t k => K157 t (st158.trans k)
      have K160 : Go p e below T158 (mkF m 133 #[.val (.long q0), .second, .val (.long q1), .second, .val (.long q2), .second, .val (.int q3), .val (.long w), .second, .val (.long ((9223372036854775807 : Int64) - w)), .second, .val (.long n), .second, .val (.long (w + n)), .second, .val (.int (q3 &&& (3 : Int32))), .val (.long due), .second, .val (.int (0 : Int32)), .val (.ref b153)] []) G := fun t k => K159 t (XS.astore X158.here hx rfl (hb hby at_131) rfl rfl (l' := #[.val (.long q0), .second, .val (.long q1), .second, .val (.long q2), .second, .val (.int q3), .val (.long w), .second, .val (.long ((9223372036854775807 : Int64) - w)), .second, .val (.long n), .second, .val (.long (w + n)), .second, .val (.int (q3 &&& (3 : Int32))), .val (.long due), .second, .val (.int (0 : Int32)), .val (.ref b153)]) rfl k)
      have K161 : Go p e below T158 (mkF m 135 #[.val (.long q0), .second, .val (.long q1), .second, .val (.long q2), .second, .val (.int q3), .val (.long w), .second, .val (.long ((9223372036854775807 : Int64) - w)), .second, .val (.long n), .second, .val (.long (w + n)), .second, .val (.int (q3 &&& (3 : Int32))), .val (.long due), .second, .val (.int (0 : Int32)), .val (.ref b153)] [(.ref b153)]) G := fun t k => K160 t (XS.aload X158.here hx rfl (hb hby at_133) rfl rfl k)
      have K162 : Go p e below T158 (mkF m 137 #[.val (.long q0), .second, .val (.long q1), .second, .val (.long q2), .second, .val (.int q3), .val (.long w), .second, .val (.long ((9223372036854775807 : Int64) - w)), .second, .val (.long n), .second, .val (.long (w + n)), .second, .val (.int (q3 &&& (3 : Int32))), .val (.long due), .second, .val (.int (0 : Int32)), .val (.ref b153)] [(.long due), (.ref b153)]) G := fun t k => K161 t (XS.lload X158.here hx rfl (hb hby at_135) rfl k)
      obtain ⟨cq163, kq163, q163a, q163b, q163c⟩ := isOf hZ rfl E158q
      obtain ⟨v163, _, ⟨T163, L163, k163, n163⟩, -, X163, ⟨Lc163, hQ163, l163, y163, z163⟩, st163⟩ := X158.virtualBack hx (y := (⟨"com/example/kithmark/kithmark/run/Window", "runs", "(J)Z"⟩ : MethodName)) (z := (⟨"com/example/kithmark/kithmark/run/Window", "runs", "(J)Z"⟩ : MethodName)) hown (mvT hZ (hW 19 _ rfl)) (mvT hZ (hW 20 _ rfl)) (notFace_of_selects (args := #[]) (mvT hZ (hW 22 _ rfl))) (mvT hZ (hW 22 _ rfl)) (mvT hZ (hW 21 _ rfl)) (by decide) (backOf (W := 0) (rmRun l Z a0 hw [] b153 due w n T158.heap n0 (Nat.le_trans (Nat.le_trans Z0 E153.1) K158q.1) F158q_warmupNanos F158q_lengthNanos E158q) hZ (hW 23 _ rfl) (hW 3 _ rfl) (by decide) (by decide)) q163a q163c (g := (mkF m 137 #[.val (.long q0), .second, .val (.long q1), .second, .val (.long q2), .second, .val (.int q3), .val (.long w), .second, .val (.long ((9223372036854775807 : Int64) - w)), .second, .val (.long n), .second, .val (.long (w + n)), .second, .val (.int (q3 &&& (3 : Int32))), .val (.long due), .second, .val (.int (0 : Int32)), .val (.ref b153)] [(.long due), (.ref b153)])) rfl (by rw [hml]; rfl) (Steps.refl _) (argsL := [(.long due)]) (rest := []) (lenOf pd_41 rfl) rfl (by show 2 * 0 + _ ≤ _; exact Nat.le_of_eq rfl) (hb hby at_137) (fun _ _ => ⟨rfl, rfl, (by decide : 1 + 0 ≤ _), (by decide : 2 + 0 ≤ _)⟩)
      dsimp only [Pt.U, Pt.locs, Pt.cells, Pt.slots] at X163 l163 y163 z163 st163 hQ163
      subst l163 y163 z163
      by_cases hc164 : due < (w + n)
      · skip
        rw [QRun, if_pos hc164] at hQ163
        obtain ⟨rfl, N163q, E163q⟩ := hQ163
        have N163 := Fr.app N158 N163q
        have K165 : Go p e below T163 (mkF m 140 #[.val (.long q0), .second, .val (.long q1), .second, .val (.long q2), .second, .val (.int q3), .val (.long w), .second, .val (.long ((9223372036854775807 : Int64) - w)), .second, .val (.long n), .second, .val (.long (w + n)), .second, .val (.int (q3 &&& (3 : Int32))), .val (.long due), .second, .val (.int (0 : Int32)), .val (.ref b153)] [(.int (1 : Int32))]) G := fun t k => K162 t (st163.trans k)
        have K166 : Go p e below T163 (mkF m 142 #[.val (.long q0), .second, .val (.long q1), .second, .val (.long q2), .second, .val (.int q3), .val (.long w), .second, .val (.long ((9223372036854775807 : Int64) - w)), .second, .val (.long n), .second, .val (.long (w + n)), .second, .val (.int (q3 &&& (3 : Int32))), .val (.long due), .second, .val (.int (0 : Int32)), .val (.ref b153)] [(.int (0 : Int32)), (.int (1 : Int32))]) G := fun t k => K165 t (XS.iload X163.here hx rfl (hb hby at_140) rfl k)
        have K167 : Go p e below T163 (mkF m 149 #[.val (.long q0), .second, .val (.long q1), .second, .val (.long q2), .second, .val (.int q3), .val (.long w), .second, .val (.long ((9223372036854775807 : Int64) - w)), .second, .val (.long n), .second, .val (.long (w + n)), .second, .val (.int (q3 &&& (3 : Int32))), .val (.long due), .second, .val (.int (0 : Int32)), .val (.ref b153)] []) G := fun t k => K166 t (XS.icmpYes X163.here hx rfl (pc0 := 142) (pc' := 149) rfl (hb hby at_142) rfl ((feq (by decide : ¬ ((1 : Int32) = (0 : Int32)))).2) (by decide) (by decide) k)
        have K168 : Go p e below T163 (mkF m 150 #[.val (.long q0), .second, .val (.long q1), .second, .val (.long q2), .second, .val (.int q3), .val (.long w), .second, .val (.long ((9223372036854775807 : Int64) - w)), .second, .val (.long n), .second, .val (.long (w + n)), .second, .val (.int (q3 &&& (3 : Int32))), .val (.long due), .second, .val (.int (0 : Int32)), .val (.ref b153)] [(.int (0 : Int32))]) G := fun t k => K167 t (XS.iconst X163.here hx rfl (hb hby at_149) k)
        exact absurd fin (by simp [hc92, hc124, hc164])
      · skip
        rw [QRun, if_neg hc164] at hQ163
        obtain ⟨rfl, N163q, E163q⟩ := hQ163
        have N163 := Fr.app N158 N163q
        have K169 : Go p e below T163 (mkF m 140 #[.val (.long q0), .second, .val (.long q1), .second, .val (.long q2), .second, .val (.int q3), .val (.long w), .second, .val (.long ((9223372036854775807 : Int64) - w)), .second, .val (.long n), .second, .val (.long (w + n)), .second, .val (.int (q3 &&& (3 : Int32))), .val (.long due), .second, .val (.int (0 : Int32)), .val (.ref b153)] [(.int (0 : Int32))]) G := fun t k => K162 t (st163.trans k)
        have K170 : Go p e below T163 (mkF m 142 #[.val (.long q0), .second, .val (.long q1), .second, .val (.long q2), .second, .val (.int q3), .val (.long w), .second, .val (.long ((9223372036854775807 : Int64) - w)), .second, .val (.long n), .second, .val (.long (w + n)), .second, .val (.int (q3 &&& (3 : Int32))), .val (.long due), .second, .val (.int (0 : Int32)), .val (.ref b153)] [(.int (0 : Int32)), (.int (0 : Int32))]) G := fun t k => K169 t (XS.iload X163.here hx rfl (hb hby at_140) rfl k)
        have K171 : Go p e below T163 (mkF m 145 #[.val (.long q0), .second, .val (.long q1), .second, .val (.long q2), .second, .val (.int q3), .val (.long w), .second, .val (.long ((9223372036854775807 : Int64) - w)), .second, .val (.long n), .second, .val (.long (w + n)), .second, .val (.int (q3 &&& (3 : Int32))), .val (.long due), .second, .val (.int (0 : Int32)), .val (.ref b153)] []) G := fun t k => K170 t (XS.icmpNo X163.here hx rfl (hb hby at_142) rfl ((teq (by decide : (0 : Int32) = (0 : Int32))).2) k)
        have K172 : Go p e below T163 (mkF m 146 #[.val (.long q0), .second, .val (.long q1), .second, .val (.long q2), .second, .val (.int q3), .val (.long w), .second, .val (.long ((9223372036854775807 : Int64) - w)), .second, .val (.long n), .second, .val (.long (w + n)), .second, .val (.int (q3 &&& (3 : Int32))), .val (.long due), .second, .val (.int (0 : Int32)), .val (.ref b153)] [(.int (1 : Int32))]) G := fun t k => K171 t (XS.iconst X163.here hx rfl (hb hby at_145) k)
        have K173 : Go p e below T163 (mkF m 150 #[.val (.long q0), .second, .val (.long q1), .second, .val (.long q2), .second, .val (.int q3), .val (.long w), .second, .val (.long ((9223372036854775807 : Int64) - w)), .second, .val (.long n), .second, .val (.long (w + n)), .second, .val (.int (q3 &&& (3 : Int32))), .val (.long due), .second, .val (.int (0 : Int32)), .val (.ref b153)] [(.int (1 : Int32))]) G := fun t k => K172 t (XS.goto X163.here hx rfl (pc0 := 146) (pc' := 150) rfl (hb hby at_146) (by decide) (by decide) k)
        obtain ⟨fs, hr, hrun, hended, hWW, hsame⟩ := X163.leave (v := some (.int (1 : Int32))) (fun h => by rw [Bd.returns] at h; cases h)
        refine ⟨_, _, hG _ (K173 _ (retN X163 hx (t := .boolean) Bd.returns (by simp) (hb hby at_150) hr)), hrun, hended, _, _, rfl, ?_, ⟨_, rfl⟩, hWW, hsame.mono (by decide) (by decide)⟩
        show Q0 Z q0 q1 q2 q3 h0 n0 _ T163.heap _
        rw [E163q]
        exact ⟨rfl, N163⟩
set_option maxRecDepth 65536 in
set_option maxHeartbeats 40000000 in
theorem comes_1 {Post : Tables → Env → Array Value → State → Outcome → State → Prop} (hpost : ∀ tb e args s v u, (limb_1_1.after args s (.returned v) u = true ∧ limb_1_2.after args s (.returned v) u = true ∧ True) → FrameEnd s (.returned v) u (Jvm.fieldLocs frame_1_writes args s ++ Jvm.arrayLocs frame_1_arrays args s ++ Jvm.staticLocs frame_1_statics s) 16 128 → Post tb e args s (.returned v) u) :
    ArmFor flags0 classFile x code maxLocals ret World_1 tables_1 room_1 Calls_1 rest_1 Pre_1 Post := by
  intro l hfl _ _ p e ha hc hk s m args below hf hA hF happ hP
  obtain ⟨hcalls, hrest, hpre⟩ := hP
  obtain ⟨-, -, -, hnamed, -, -, -, hat⟩ := (Spec.applies_iff hf).mp happ
  obtain ⟨hg, hn⟩ := and_e (Cond.before_iff.mp (show (Jvm.Cond.and given_1 narrow_1).before args s = true from hpre))
  obtain ⟨gg1, gg2⟩ := and_e hg
  obtain ⟨gg3, gg4⟩ := and_e gg2
  obtain ⟨gg5, gg6⟩ := and_e gg4
  obtain ⟨gg7, gg8⟩ := and_e gg6
  obtain ⟨w0, w1, w2, w3, rfl⟩ : ∃ w0 w1 w2 w3 : Value, args = #[w0, w1, w2, w3] := by
    have hs : args.size = 4 := by simpa [Cond.value, given_1] using gg1
    obtain ⟨L⟩ := args
    match L, hs with
    | [w0, w1, w2, w3], _ => exact ⟨w0, w1, w2, w3, rfl⟩
  have hw := fun d (hd : d ∈ tables_1) => atoms_spec (ws := Jvm.Cond.code x code maxLocals ret :: tables_1) hat d (List.mem_cons_of_mem _ hd)
  have hW : ∀ (k : Nat) (d : Jvm.Cond), tables_1[k]? = some d → d.before _ s = true := fun k d h => hw d (List.mem_of_getElem? h)
  have hfit : Fit s := fun {y c} hc i hi => by
    obtain ⟨ha, rfl⟩ := Array.getElem?_eq_some_iff.mp hc
    have q := List.all_eq_true.mp ((Array.all_eq_true_iff_forall_mem.mp hF) _ (Array.getElem_mem ha)) i (List.mem_range.mpr hi)
    simpa [Array.getElem?_eq_getElem hi] using q
  obtain ⟨i0, ei0⟩ := isL_v gg3
  obtain rfl : w0 = (.long i0) := Option.some.inj ei0
  obtain ⟨i1, ei1⟩ := isL_v gg5
  obtain rfl : w1 = (.long i1) := Option.some.inj ei1
  obtain ⟨i2, ei2⟩ := isL_v gg7
  obtain rfl : w2 = (.long i2) := Option.some.inj ei2
  obtain ⟨i3, ei3⟩ := is_v gg8
  obtain rfl : w3 = (.int i3) := Option.some.inj ei3
  obtain ⟨n, o, h1, h2, h3, _, L, rfl, ⟨rfl, N⟩, hq⟩ := rm0 l s _ hw tables_1 i0 i1 i2 i3  s.heap s.heap.size (Nat.le_refl _)  p e ha hc hk s m _ below hf ((Spec.applies_iff_loose hf).mp happ).1 ⟨rfl, State.Warmed39.refl s, rfl⟩ trivial
  refine ⟨n, _, h1, h2, h3, hpost _ _ _ _ _ _ ⟨Cond.after_iff.mpr rfl, Cond.after_iff.mpr (eq_i res_at (Term.int_eval (1)) rfl), trivial⟩ ⟨hq.1, hq.2.1, (hq.2.2.sift fun y hy => Or.inr (N y hy)).mono (by decide) (by decide)⟩⟩
theorem main_1_1 : Claimed_1_1 := comes_1 fun _ _ _ _ _ _ h hF => ⟨h.1, hF⟩
theorem main_1_2 : Claimed_1_2 := comes_1 fun _ _ _ _ _ _ h hF => ⟨h.2.1, hF⟩
end Jvm.Pilot.@@N@@
namespace Jvm.Pilot.@@N@@
open Jvm Jvm.ClassFile Sem Op Lib Jvm.Free Jvm.Stand Jvm.Pilot.@@N@@.Jvm.D
/-! MADE BY PROGRAM (witnessworld.py) out of the Statement's table words and the real class files: 10 classes; the members and pool entries that the words name. The judged class is class 1, her method 1. -/
namespace start1
open Jvm.ClassFile
def u (s : String) : CpInfo := .utf8 (stringToUtf16 s)
/-- a pool by its gaps: so many unusable entries, then the entry; so many at the end -/
def gap : Nat → List CpInfo → List CpInfo
  | 0, r => r
  | n + 1, r => .unusable :: gap n r
def poolList (es : List (Nat × CpInfo)) (last : Nat) : List CpInfo := es.foldr (fun e r => gap e.1 (e.2 :: r)) (gap last [])
def pool (es : List (Nat × CpInfo)) (last : Nat) : Array CpInfo := ⟨poolList es last⟩
def fileOf (pool : Array CpInfo) (this : Nat) (attrs : Array Attribute := #[]) (ms : Array MethodInfo := #[]) (fl : Nat := 33) (sup : Nat := 0) (ifs : Array Nat := #[]) (fds : Array FieldInfo := #[]) : ClassFile where
  minorVersion := 0
  majorVersion := 65
  constantPool := pool
  accessFlags := fl
  thisClass := this
  superClass := sup
  interfaces := ifs
  fields := fds
  methods := ms
  attributes := attrs
def plain (name : String) (sup : Option ClassId) : Class where
  name := name
  kind := .ordinary
  loader := none
  accessFlags := 33
  super := sup
  interfaces := #[]
  cf := none
  fields := #[]
  methods := #[]
  instanceTypes := #[]
  staticTypes := #[]
  resolved := #[]
  callSites := []
  init := .initialized
  statics := none
  mirror := none

def pool0 : Array CpInfo := pool [(5, u "<init>"), (0, u "()V"), (1, .class_ 10), (1, u "java/lang/Object")] 113

def k0c0 : Code := { maxStack := 0, maxLocals := 1, code := object_method_1_code, exceptionTable := #[], attributes := #[] }
def k0m0 : Method := { name := "<init>", desc := "()V", sig := { parameters := [], returnType := none }, accessFlags := 1, code := some k0c0 }
/-- java/lang/Object -/
def k0 : Class := { plain "java/lang/Object" none with
  accessFlags := 33
  interfaces := #[]
  cf := some (fileOf pool0 8 #[] #[{ accessFlags := 1, nameIndex := 5, descriptorIndex := 6, attributes := #[] }] 33 0 #[] #[])
  fields := #[]
  methods := #[k0m0]
  instanceTypes := #[]
  staticTypes := #[]
  resolved := Array.replicate 124 none
  statics := none }

def pool1 : Array CpInfo := pool [(2, .class_ 4), (1, u "java/lang/Object"), (0, u "<init>"), (0, u "()V"), (2, .long 9223372036854775807), (1, .class_ 12), (0, u "com/example/kithmark/kithmark/run/Window"), (0, .methodref 11 14), (0, .nameAndType 5 15), (0, u "(JJ)V"), (0, .methodref 11 17), (0, .nameAndType 18 19), (0, u "runs"), (0, u "(J)Z"), (0, .class_ 21), (0, u "com/example/kithmark/kithmark/run/WindowRunsPinLaw"), (2, u "law"), (0, u "(JJJI)Z")] 3

def k1m0 : Method := { name := "<init>", desc := "()V", sig := { parameters := [], returnType := none }, accessFlags := 1, code := none }
def k1c1 : Code := { maxStack := 6, maxLocals := 20, code := code, exceptionTable := #[], attributes := #[] }
def k1m1 : Method := { name := "law", desc := "(JJJI)Z", sig := { parameters := [.long, .long, .long, .int], returnType := some .boolean }, accessFlags := 9, code := some k1c1 }
/-- com/example/kithmark/kithmark/run/WindowRunsPinLaw -/
def k1 : Class := { plain "com/example/kithmark/kithmark/run/WindowRunsPinLaw" (some 0) with
  accessFlags := 49
  interfaces := #[]
  cf := some (fileOf pool1 20 #[] #[{ accessFlags := 1, nameIndex := 5, descriptorIndex := 6, attributes := #[] }, { accessFlags := 9, nameIndex := 24, descriptorIndex := 25, attributes := #[] }] 49 2 #[] #[])
  fields := #[]
  methods := #[k1m0, k1m1]
  instanceTypes := #[]
  staticTypes := #[]
  resolved := Array.replicate 29 none
  statics := none }

def pool2 : Array CpInfo := pool [(1, .methodref 2 3), (0, .class_ 4), (0, .nameAndType 5 6), (0, u "java/lang/Object"), (0, u "<init>"), (0, u "()V"), (0, .class_ 8), (0, u "java/lang/Record")] 13

def k2c0 : Code := { maxStack := 1, maxLocals := 1, code := jdk_30_method_1_code, exceptionTable := #[], attributes := #[] }
def k2m0 : Method := { name := "<init>", desc := "()V", sig := { parameters := [], returnType := none }, accessFlags := 4, code := some k2c0 }
/-- java/lang/Record -/
def k2 : Class := { plain "java/lang/Record" (some 0) with
  accessFlags := 1057
  interfaces := #[]
  cf := some (fileOf pool2 7 #[] #[{ accessFlags := 4, nameIndex := 5, descriptorIndex := 6, attributes := #[] }] 1057 2 #[] #[])
  fields := #[]
  methods := #[k2m0]
  instanceTypes := #[]
  staticTypes := #[]
  resolved := Array.replicate 22 none
  statics := none }

def pool3 : Array CpInfo := pool [(1, .methodref 2 3), (0, .class_ 4), (0, .nameAndType 5 6), (0, u "java/lang/Record"), (0, u "<init>"), (0, u "()V"), (0, .fieldref 8 9), (0, .class_ 10), (0, .nameAndType 11 12), (0, u "com/example/kithmark/kithmark/run/Window"), (0, u "warmupNanos"), (0, u "J"), (0, .fieldref 8 14), (0, .nameAndType 15 12), (0, u "lengthNanos"), (0, .methodref 8 17), (0, .nameAndType 18 19), (0, u "closeNanos"), (0, u "()J"), (18, u "(JJ)V"), (3, u "runs"), (0, u "(J)Z")] 26

def k3c0 : Code := { maxStack := 3, maxLocals := 5, code := prog_26_method_1_code, exceptionTable := #[], attributes := #[] }
def k3m0 : Method := { name := "<init>", desc := "(JJ)V", sig := { parameters := [.long, .long], returnType := none }, accessFlags := 1, code := some k3c0 }
def k3c1 : Code := { maxStack := 4, maxLocals := 1, code := prog_26_method_2_code, exceptionTable := #[], attributes := #[] }
def k3m1 : Method := { name := "closeNanos", desc := "()J", sig := { parameters := [], returnType := some .long }, accessFlags := 1, code := some k3c1 }
def k3c2 : Code := { maxStack := 4, maxLocals := 3, code := prog_26_method_3_code, exceptionTable := #[], attributes := #[] }
def k3m2 : Method := { name := "runs", desc := "(J)Z", sig := { parameters := [.long], returnType := some .boolean }, accessFlags := 1, code := some k3c2 }
/-- com/example/kithmark/kithmark/run/Window -/
def k3 : Class := { plain "com/example/kithmark/kithmark/run/Window" (some 2) with
  accessFlags := 49
  interfaces := #[]
  cf := some (fileOf pool3 8 #[] #[{ accessFlags := 1, nameIndex := 5, descriptorIndex := 38, attributes := #[] }, { accessFlags := 1, nameIndex := 18, descriptorIndex := 19, attributes := #[] }, { accessFlags := 1, nameIndex := 42, descriptorIndex := 43, attributes := #[] }] 49 2 #[] #[{ accessFlags := 18, nameIndex := 11, descriptorIndex := 12, attributes := #[] }, { accessFlags := 18, nameIndex := 15, descriptorIndex := 12, attributes := #[] }])
  fields := #[{ name := "warmupNanos", type := .long, accessFlags := 18, slot := 0, constantValue := 0 }, { name := "lengthNanos", type := .long, accessFlags := 18, slot := 1, constantValue := 0 }]
  methods := #[k3m0, k3m1, k3m2]
  instanceTypes := #[.long, .long]
  staticTypes := #[]
  resolved := Array.replicate 70 none
  statics := none }

def pool4 : Array CpInfo := pool [(1, u "java/lang/Cloneable"), (0, .class_ 1), (0, u "java/lang/Object"), (0, .class_ 3)] 3

/-- java/lang/Cloneable -/
def k4 : Class := { plain "java/lang/Cloneable" (some 0) with
  accessFlags := 1537
  interfaces := #[]
  cf := some (fileOf pool4 2 #[] #[] 1537 4 #[] #[])
  fields := #[]
  methods := #[]
  instanceTypes := #[]
  staticTypes := #[]
  resolved := Array.replicate 8 none
  statics := none }

def pool5 : Array CpInfo := pool [(1, u "java/io/Serializable"), (0, .class_ 1), (0, u "java/lang/Object"), (0, .class_ 3)] 3

/-- java/io/Serializable -/
def k5 : Class := { plain "java/io/Serializable" (some 0) with
  accessFlags := 1537
  interfaces := #[]
  cf := some (fileOf pool5 2 #[] #[] 1537 4 #[] #[])
  fields := #[]
  methods := #[]
  instanceTypes := #[]
  staticTypes := #[]
  resolved := Array.replicate 8 none
  statics := none }

/-- the primitive byte -/
def k6 : Class := { plain "byte" none with kind := .primitive 'B', accessFlags := 0x411 }
/-- [B -/
def k7 : Class := { plain "[B" (some 0) with kind := .array 6 .byte, interfaces := #[4, 5], accessFlags := 1041 }

/-- the primitive int -/
def k8 : Class := { plain "int" none with kind := .primitive 'I', accessFlags := 0x411 }
/-- [I -/
def k9 : Class := { plain "[I" (some 0) with kind := .array 8 .int, interfaces := #[4, 5], accessFlags := 1041 }

def heap : Heap := #[]
def classes : Array Class := #[k0, k1, k2, k3, k4, k5, k6, k7, k8, k9]
def interned : List (Array UInt16 × Addr) := []
def slotsUsed : Nat := 0
def theMethod : MethodId := ⟨1, 1⟩
def args0 : Array Value := #[.long 5, .long 3, .long 7, .int 3]
def aboutOver (below : List Frame) : State where
  vm := { classes := classes, interned := interned.toArray }
  heap := heap
  slotsUsed := slotsUsed
  threads := #[{ frames := .invoking theMethod args0 :: below }]
def below0 : List Frame := [.native { method := ⟨0, 0⟩, args := #[] }]
def about1 : State := aboutOver below0
def p0 : Program := .bare "" "" ""
def e0 : Env := launch0.env 0 0 0
theorem w_frames : about1.frames = Frame.invoking theMethod args0 :: below0 := rfl
set_option maxRecDepth 65536 in
theorem w_args : argsFit about1.vm theMethod args0 = true := by decide +kernel
set_option maxRecDepth 65536 in
theorem w_heap : heapFits about1 = true := by decide +kernel
set_option maxRecDepth 65536 in
theorem w_runnable : about1.curStatus? = some .runnable := by decide +kernel
set_option maxRecDepth 65536 in
theorem w_alone : about1.alone = true := by decide +kernel
set_option maxRecDepth 65536 in
theorem w_named : about1.methodNamed? x = some theMethod := by decide +kernel
set_option maxRecDepth 65536 in
theorem w_hears : about1.hears theMethod below0 = true := by decide +kernel
set_option maxRecDepth 65536 in
theorem w_ripe : about1.ripe theMethod args0 below0 = true := by decide +kernel
theorem w_running : about1.status = .running := rfl
set_option maxRecDepth 65536 in
theorem w_room : about1.hasRoom e0.platform room_1 = true :=
  launch0.hasRoom_least _ room_1 (by decide +kernel) (by decide +kernel) (by decide +kernel) (by decide +kernel) (by decide +kernel) (by decide +kernel)
theorem allAtoms_all (ts : List Jvm.Cond) (a : Array Jvm.Value) (st : Jvm.State) : (allAtoms ts).before a st = ts.all (fun c => c.before a st) := by
  induction ts with
  | nil => rfl
  | cons c t ih =>
    show (Jvm.Cond.and c (allAtoms t)).before a st = _
    rw [Jvm.Cond.before_and, ih, List.all_cons]
def words1 : List Jvm.Cond := Jvm.Cond.code x code maxLocals ret :: tables_1
/-- a 'code' word, met by the world's own term for the bytes: nothing is compared byte by byte -/
theorem code_word {y : MethodName} {bytes : ByteArray} {mx : Nat} {rt : Option FieldType} {a : Array Value} {s : State} {m : MethodId} {meth : Method} {c : Code} (h1 : s.methodNamed? y = some m) (h2 : s.vm.method? m = some meth) (h3 : meth.code = some c) (h4 : c.code = bytes)
    (h5 : (c.maxLocals == mx && c.exceptionTable.isEmpty && decide (c.maxStack ≤ mostOperands) && decide (meth.sig.returnType = rt) && !meth.locks && decide (parseMethodDescriptor y.desc = some meth.sig)) = true) : (Jvm.Cond.code y bytes mx rt).before a s = true := by
  simp only [Bool.and_eq_true, beq_iff_eq, Bool.not_eq_true', decide_eq_true_eq] at h5
  obtain ⟨⟨⟨⟨⟨g1, g2⟩, g3⟩, g4⟩, g5⟩, g6⟩ := h5
  simp [Cond.before, Cond.holds, Cond.value, h1, h2, h3, h4, g1, g2, g3, g4, g5, g6]
def isCode : Jvm.Cond → Bool
  | .code _ _ _ _ => true
  | _ => false
theorem all_split {L : List Jvm.Cond} {P : Jvm.Cond → Bool} (h1 : L.all (fun c => isCode c || P c) = true) (h2 : ∀ c ∈ L.filter isCode, P c = true) : L.all P = true := by
  refine List.all_eq_true.mpr fun c hc => ?_
  have h := List.all_eq_true.mp h1 c hc
  rcases Bool.eq_false_or_eq_true (isCode c) with hi | hi
  · exact h2 c (List.mem_filter.mpr ⟨hc, hi⟩)
  · simpa [hi] using h
set_option maxRecDepth 65536 in
theorem w_c0 : (Jvm.Cond.code x code maxLocals ret).before args0 about1 = true := code_word (m := ⟨1, 1⟩) (meth := k1m1) (c := k1c1) (by decide +kernel) rfl rfl rfl (by decide +kernel)
set_option maxRecDepth 65536 in
theorem w_c1 : (Jvm.Cond.code ({ cls := "com/example/kithmark/kithmark/run/Window", name := "<init>", desc := "(JJ)V" } : Jvm.MethodName) prog_26_method_1_code (5 : Nat) (Option.none : Option Jvm.ClassFile.FieldType)).before args0 about1 = true := code_word (m := ⟨3, 0⟩) (meth := k3m0) (c := k3c0) (by decide +kernel) rfl rfl rfl (by decide +kernel)
set_option maxRecDepth 65536 in
theorem w_c2 : (Jvm.Cond.code ({ cls := "java/lang/Record", name := "<init>", desc := "()V" } : Jvm.MethodName) jdk_30_method_1_code (1 : Nat) (Option.none : Option Jvm.ClassFile.FieldType)).before args0 about1 = true := code_word (m := ⟨2, 0⟩) (meth := k2m0) (c := k2c0) (by decide +kernel) rfl rfl rfl (by decide +kernel)
set_option maxRecDepth 65536 in
theorem w_c3 : (Jvm.Cond.code ({ cls := "java/lang/Object", name := "<init>", desc := "()V" } : Jvm.MethodName) object_method_1_code (1 : Nat) (Option.none : Option Jvm.ClassFile.FieldType)).before args0 about1 = true := code_word (m := ⟨0, 0⟩) (meth := k0m0) (c := k0c0) (by decide +kernel) rfl rfl rfl (by decide +kernel)
set_option maxRecDepth 65536 in
theorem w_c4 : (Jvm.Cond.code ({ cls := "com/example/kithmark/kithmark/run/Window", name := "runs", desc := "(J)Z" } : Jvm.MethodName) prog_26_method_3_code (3 : Nat) (Option.some Jvm.ClassFile.FieldType.boolean)).before args0 about1 = true := code_word (m := ⟨3, 2⟩) (meth := k3m2) (c := k3c2) (by decide +kernel) rfl rfl rfl (by decide +kernel)
set_option maxRecDepth 65536 in
theorem w_c5 : (Jvm.Cond.code ({ cls := "com/example/kithmark/kithmark/run/Window", name := "closeNanos", desc := "()J" } : Jvm.MethodName) prog_26_method_2_code (1 : Nat) (Option.some Jvm.ClassFile.FieldType.long)).before args0 about1 = true := code_word (m := ⟨3, 1⟩) (meth := k3m1) (c := k3c1) (by decide +kernel) rfl rfl rfl (by decide +kernel)
def codes1 : List Jvm.Cond := [Jvm.Cond.code x code maxLocals ret, Jvm.Cond.code ({ cls := "com/example/kithmark/kithmark/run/Window", name := "<init>", desc := "(JJ)V" } : Jvm.MethodName) prog_26_method_1_code (5 : Nat) (Option.none : Option Jvm.ClassFile.FieldType), Jvm.Cond.code ({ cls := "java/lang/Record", name := "<init>", desc := "()V" } : Jvm.MethodName) jdk_30_method_1_code (1 : Nat) (Option.none : Option Jvm.ClassFile.FieldType), Jvm.Cond.code ({ cls := "java/lang/Object", name := "<init>", desc := "()V" } : Jvm.MethodName) object_method_1_code (1 : Nat) (Option.none : Option Jvm.ClassFile.FieldType), Jvm.Cond.code ({ cls := "com/example/kithmark/kithmark/run/Window", name := "runs", desc := "(J)Z" } : Jvm.MethodName) prog_26_method_3_code (3 : Nat) (Option.some Jvm.ClassFile.FieldType.boolean), Jvm.Cond.code ({ cls := "com/example/kithmark/kithmark/run/Window", name := "closeNanos", desc := "()J" } : Jvm.MethodName) prog_26_method_2_code (1 : Nat) (Option.some Jvm.ClassFile.FieldType.long)]
set_option maxRecDepth 65536 in
theorem codes_eq : words1.filter isCode = codes1 := rfl
theorem w_codes : ∀ c ∈ words1.filter isCode, c.before args0 about1 = true := by
  rw [codes_eq]
  intro c hc
  simp only [codes1, List.mem_cons, List.not_mem_nil, or_false] at hc
  rcases hc with rfl | rfl | rfl | rfl | rfl | rfl
  · exact w_c0
  · exact w_c1
  · exact w_c2
  · exact w_c3
  · exact w_c4
  · exact w_c5
set_option maxRecDepth 65536 in
theorem w_t1 : (words1.take 24).all (fun c => isCode c || c.before args0 about1) = true := by decide +kernel
set_option maxRecDepth 65536 in
theorem w_t2 : (words1.drop 24).all (fun c => isCode c || c.before args0 about1) = true := by decide +kernel
theorem w_tables : (allAtoms (Jvm.Cond.code x code maxLocals ret :: tables_1)).before args0 about1 = true := by
  rw [allAtoms_all]
  show words1.all (fun c => c.before args0 about1) = true
  refine all_split ?_ w_codes
  rw [← List.take_append_drop 24 words1, List.all_append, w_t1, w_t2]
  rfl
set_option maxRecDepth 65536 in
theorem w_case : (Jvm.Cond.and given_1 narrow_1).before args0 about1 = true := by decide +kernel
theorem w_applies : (headSpec (Jvm.Cond.code x code maxLocals ret :: tables_1) room_1).applies x e0.platform about1 = true :=
  (Spec.applies_iff w_frames).mpr ⟨w_running, w_runnable, w_alone, w_named, w_hears, w_ripe, w_room, w_tables⟩
theorem atStart : AtStart classFile x code maxLocals ret World_1 tables_1 room_1 Calls_1 rest_1 Pre_1 launch0 p0 e0 about1 theMethod args0 below0 :=
  ⟨lists_1, trivial, launch0.admits_env _ _ _, launch0.least_env, fairChoices_fair.cas, fairChoices_fair.clock, w_frames, w_args, w_heap, w_applies, trivial, trivial, w_case⟩
end start1
theorem witness_1 : WitnessClaimed_1 := ⟨start1.p0, start1.e0, start1.about1, start1.theMethod, start1.args0, start1.below0, start1.atStart⟩
end Jvm.Pilot.@@N@@
