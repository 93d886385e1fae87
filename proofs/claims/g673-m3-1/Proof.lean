import JvmDerived
import JvmDerived.Pilot.@@N@@Statement
import JvmDerived.Pilot.@@N@@Code
set_option linter.unusedVariables false
set_option linter.unusedSimpArgs false
namespace Jvm.Pilot.@@N@@
open Jvm Jvm.ClassFile Sem Op Lib Jvm.Free Jvm.Stand Jvm.LawKit Jvm.RoadKit Bundle Jvm.Pilot.@@N@@.Jvm.D
/-- every run that goes on from the frame g of T to t is one of G -/
abbrev Go (p : Program) (e : Env) (below : List Frame) (T : State) (g : JFrame) (G : State → Prop) : Prop := ∀ t, Steps p.tables e below (T.setTop g) t → G t
theorem ef_jdk_29_method_70_JJ (m : MethodId) (x0 : Int64) (x1 : Int64) : entryFrame m #[(.long x0), (.long x1)] 4 = mkF m 0 #[.val (.long x0), .second, .val (.long x1), .second] [] := by first | (simp [entryFrame, mkF, argsToLocals, Value.category]; done) | rfl
theorem d_jdk_29_method_70_0 : decode jdk_29_method_70_code 0 = .ok (.lload_n 0, 1) := by decide +kernel
theorem d_jdk_29_method_70_1 : decode jdk_29_method_70_code 1 = .ok (.lload_n 2, 1) := by decide +kernel
theorem d_jdk_29_method_70_2 : decode jdk_29_method_70_code 2 = .ok (.lcmp, 1) := by decide +kernel
theorem d_jdk_29_method_70_3 : decode jdk_29_method_70_code 3 = .ok (.ifCond .gt 7, 3) := by decide +kernel
theorem d_jdk_29_method_70_6 : decode jdk_29_method_70_code 6 = .ok (.lload_n 0, 1) := by decide +kernel
theorem d_jdk_29_method_70_7 : decode jdk_29_method_70_code 7 = .ok (.goto 4, 3) := by decide +kernel
theorem d_jdk_29_method_70_10 : decode jdk_29_method_70_code 10 = .ok (.lload_n 2, 1) := by decide +kernel
theorem d_jdk_29_method_70_11 : decode jdk_29_method_70_code 11 = .ok (.lreturn, 1) := by decide +kernel
def QMinJ (Z : State) (x : Int64) (y : Int64) (h0 : Heap) (n0 : Nat) (v : Option Value) (h : Heap) (L : List Loc) : Prop := v = some (.long (if y < x then y else x)) ∧ Fr n0 L ∧ h = h0
set_option maxRecDepth 65536 in
set_option maxHeartbeats 40000000 in
theorem rmMinJ (l : Launch) (Z : State) (a0 : Array Value) (hw : ∀ d ∈ tables_1, d.before a0 Z = true) (ws : List Jvm.Cond) (x : Int64) (y : Int64) (h0 : Heap) (n0 : Nat) (Z0 : n0 ≤ h0.size) :
    MetFree l (⟨"java/lang/Math", "min", "(JJ)J"⟩ : MethodName) (head1 (Jvm.Cond.code (⟨"java/lang/Math", "min", "(JJ)J"⟩ : MethodName) jdk_29_method_70_code 4 (some .long) :: ws) ({ frames := 0, cells := 0, slots := 0, locals := 0 } : Room)) (fun aa UU => aa = #[(.long x), (.long y)] ∧ Z.Warmed39 UU.vm ∧ UU.heap = h0) (fun _ _ _ _ _ => True) (fun _ UU oo UU' => ∃ vv LL, oo = .returned vv ∧ QMinJ Z x y h0 n0 vv UU'.heap LL ∧ FrameEnd UU oo UU' LL ({ frames := 0, cells := 0, slots := 0, locals := 0 } : Room).cells ({ frames := 0, cells := 0, slots := 0, locals := 0 } : Room).slots) := by
  refine MetFree.of_bodySF (Jvm.Free.JP.mathPlain rfl (by decide +kernel)) hisR ?_
  intro p e s m args below meth c s₁ Bd hml0 hP hK
  obtain ⟨rfl, hZ, hh⟩ := hP
  have hx := Bd.exec
  have hby := Bd.bytes
  have hml : c.maxLocals = 4 := hml0
  have hown : s.vm.findClass "java/lang/Math" = some m.cls := findClass_of_methodNamed Bd.named
  have hnm := (name_of_methodNamed Bd.named Bd.method).1
  have hW : ∀ (k : Nat) (d : Jvm.Cond), tables_1[k]? = some d → d.before a0 Z = true := fun k d h => hw d (List.mem_of_getElem? h)
  have X0 : Stand p l e ({ frames := 0, cells := 0, slots := 0, locals := 0 } : Room) s m #[(.long x), (.long y)] below meth c s₁ [] 0 0 := Stand.of_body Bd
  have e0 : s₁.heap = h0 := by rw [← hh, Bd.state]; rfl
  have N0 := Fr.nil n0
  obtain ⟨G, hG, K0⟩ : ∃ G : State → Prop, (∀ t, G t → Steps p.tables e below (s₁.setTop (entryFrame m #[(.long x), (.long y)] 4)) t) ∧ Go p e below s₁ (mkF m 0 #[.val (.long x), .second, .val (.long y), .second] []) G := ⟨fun t => Steps p.tables e below (s₁.setTop (entryFrame m #[(.long x), (.long y)] 4)) t, fun _ h => h, fun t k => castTop (ef_jdk_29_method_70_JJ m x y) k⟩
  have K1 : Go p e below s₁ (mkF m 1 #[.val (.long x), .second, .val (.long y), .second] [(.long x)]) G := fun tq kq => K0 tq (XS.lloadN X0.here hx rfl (hb hby d_jdk_29_method_70_0) rfl kq)
  have K2 : Go p e below s₁ (mkF m 2 #[.val (.long x), .second, .val (.long y), .second] [(.long y), (.long x)]) G := fun tq kq => K1 tq (XS.lloadN X0.here hx rfl (hb hby d_jdk_29_method_70_1) rfl kq)
  have K3 : Go p e below s₁ (mkF m 3 #[.val (.long x), .second, .val (.long y), .second] [(.int (lcmpW x y))]) G := fun tq kq => K2 tq (XS.lcmp X0.here hx rfl (hb hby d_jdk_29_method_70_2) rfl kq)
  by_cases hc4 : y < x
  · skip
    have K5 : Go p e below s₁ (mkF m 10 #[.val (.long x), .second, .val (.long y), .second] []) G := fun tq kq => K3 tq (XS.ifYes X0.here hx rfl (pc0 := 3) (pc' := 10) rfl (hb hby d_jdk_29_method_70_3) rfl ((if0 _ _).trans (tlt ((lw_gt _ _).mpr hc4)).2.2.1) (by decide) (by decide) kq)
    have K6 : Go p e below s₁ (mkF m 11 #[.val (.long x), .second, .val (.long y), .second] [(.long y)]) G := fun tq kq => K5 tq (XS.lloadN X0.here hx rfl (hb hby d_jdk_29_method_70_10) rfl kq)
    obtain ⟨fs, hr, hrun, hended, hWW, hsame⟩ := X0.leave (v := some (.long y)) (fun h => by rw [Bd.returns] at h; cases h)
    refine ⟨_, _, hG _ (K6 _ (retOut X0 hx Bd.returns rfl (Or.inr (Or.inl ⟨rfl, rfl, _, rfl⟩)) (hb hby d_jdk_29_method_70_11) hr)), hrun, hended, _, _, rfl, ?_, ⟨_, rfl⟩, hWW, hsame.mono (by decide) (by decide)⟩
    show QMinJ Z x y h0 n0 _ s₁.heap _
    rw [e0]
    exact ⟨by simp [hc4], N0, rfl⟩
  · skip
    have K7 : Go p e below s₁ (mkF m 6 #[.val (.long x), .second, .val (.long y), .second] []) G := fun tq kq => K3 tq (XS.ifNo X0.here hx rfl (hb hby d_jdk_29_method_70_3) rfl ((if0 _ _).trans (flt (fun z => hc4 ((lw_gt _ _).mp z))).2.2.1) kq)
    have K8 : Go p e below s₁ (mkF m 7 #[.val (.long x), .second, .val (.long y), .second] [(.long x)]) G := fun tq kq => K7 tq (XS.lloadN X0.here hx rfl (hb hby d_jdk_29_method_70_6) rfl kq)
    have K9 : Go p e below s₁ (mkF m 11 #[.val (.long x), .second, .val (.long y), .second] [(.long x)]) G := fun tq kq => K8 tq (XS.goto X0.here hx rfl (pc0 := 7) (pc' := 11) rfl (hb hby d_jdk_29_method_70_7) (by decide) (by decide) kq)
    obtain ⟨fs, hr, hrun, hended, hWW, hsame⟩ := X0.leave (v := some (.long x)) (fun h => by rw [Bd.returns] at h; cases h)
    refine ⟨_, _, hG _ (K9 _ (retOut X0 hx Bd.returns rfl (Or.inr (Or.inl ⟨rfl, rfl, _, rfl⟩)) (hb hby d_jdk_29_method_70_11) hr)), hrun, hended, _, _, rfl, ?_, ⟨_, rfl⟩, hWW, hsame.mono (by decide) (by decide)⟩
    show QMinJ Z x y h0 n0 _ s₁.heap _
    rw [e0]
    exact ⟨by simp [hc4], N0, rfl⟩
theorem ef_jdk_29_method_66_JJ (m : MethodId) (x0 : Int64) (x1 : Int64) : entryFrame m #[(.long x0), (.long x1)] 4 = mkF m 0 #[.val (.long x0), .second, .val (.long x1), .second] [] := by first | (simp [entryFrame, mkF, argsToLocals, Value.category]; done) | rfl
theorem d_jdk_29_method_66_0 : decode jdk_29_method_66_code 0 = .ok (.lload_n 0, 1) := by decide +kernel
theorem d_jdk_29_method_66_1 : decode jdk_29_method_66_code 1 = .ok (.lload_n 2, 1) := by decide +kernel
theorem d_jdk_29_method_66_2 : decode jdk_29_method_66_code 2 = .ok (.lcmp, 1) := by decide +kernel
theorem d_jdk_29_method_66_3 : decode jdk_29_method_66_code 3 = .ok (.ifCond .lt 7, 3) := by decide +kernel
theorem d_jdk_29_method_66_6 : decode jdk_29_method_66_code 6 = .ok (.lload_n 0, 1) := by decide +kernel
theorem d_jdk_29_method_66_7 : decode jdk_29_method_66_code 7 = .ok (.goto 4, 3) := by decide +kernel
theorem d_jdk_29_method_66_10 : decode jdk_29_method_66_code 10 = .ok (.lload_n 2, 1) := by decide +kernel
theorem d_jdk_29_method_66_11 : decode jdk_29_method_66_code 11 = .ok (.lreturn, 1) := by decide +kernel
def QMaxJ (Z : State) (x : Int64) (y : Int64) (h0 : Heap) (n0 : Nat) (v : Option Value) (h : Heap) (L : List Loc) : Prop := v = some (.long (if x < y then y else x)) ∧ Fr n0 L ∧ h = h0
set_option maxRecDepth 65536 in
set_option maxHeartbeats 40000000 in
theorem rmMaxJ (l : Launch) (Z : State) (a0 : Array Value) (hw : ∀ d ∈ tables_1, d.before a0 Z = true) (ws : List Jvm.Cond) (x : Int64) (y : Int64) (h0 : Heap) (n0 : Nat) (Z0 : n0 ≤ h0.size) :
    MetFree l (⟨"java/lang/Math", "max", "(JJ)J"⟩ : MethodName) (head1 (Jvm.Cond.code (⟨"java/lang/Math", "max", "(JJ)J"⟩ : MethodName) jdk_29_method_66_code 4 (some .long) :: ws) ({ frames := 0, cells := 0, slots := 0, locals := 0 } : Room)) (fun aa UU => aa = #[(.long x), (.long y)] ∧ Z.Warmed39 UU.vm ∧ UU.heap = h0) (fun _ _ _ _ _ => True) (fun _ UU oo UU' => ∃ vv LL, oo = .returned vv ∧ QMaxJ Z x y h0 n0 vv UU'.heap LL ∧ FrameEnd UU oo UU' LL ({ frames := 0, cells := 0, slots := 0, locals := 0 } : Room).cells ({ frames := 0, cells := 0, slots := 0, locals := 0 } : Room).slots) := by
  refine MetFree.of_bodySF (Jvm.Free.JP.mathPlain rfl (by decide +kernel)) hisR ?_
  intro p e s m args below meth c s₁ Bd hml0 hP hK
  obtain ⟨rfl, hZ, hh⟩ := hP
  have hx := Bd.exec
  have hby := Bd.bytes
  have hml : c.maxLocals = 4 := hml0
  have hown : s.vm.findClass "java/lang/Math" = some m.cls := findClass_of_methodNamed Bd.named
  have hnm := (name_of_methodNamed Bd.named Bd.method).1
  have hW : ∀ (k : Nat) (d : Jvm.Cond), tables_1[k]? = some d → d.before a0 Z = true := fun k d h => hw d (List.mem_of_getElem? h)
  have X0 : Stand p l e ({ frames := 0, cells := 0, slots := 0, locals := 0 } : Room) s m #[(.long x), (.long y)] below meth c s₁ [] 0 0 := Stand.of_body Bd
  have e0 : s₁.heap = h0 := by rw [← hh, Bd.state]; rfl
  have N0 := Fr.nil n0
  obtain ⟨G, hG, K0⟩ : ∃ G : State → Prop, (∀ t, G t → Steps p.tables e below (s₁.setTop (entryFrame m #[(.long x), (.long y)] 4)) t) ∧ Go p e below s₁ (mkF m 0 #[.val (.long x), .second, .val (.long y), .second] []) G := ⟨fun t => Steps p.tables e below (s₁.setTop (entryFrame m #[(.long x), (.long y)] 4)) t, fun _ h => h, fun t k => castTop (ef_jdk_29_method_66_JJ m x y) k⟩
  have K10 : Go p e below s₁ (mkF m 1 #[.val (.long x), .second, .val (.long y), .second] [(.long x)]) G := fun tq kq => K0 tq (XS.lloadN X0.here hx rfl (hb hby d_jdk_29_method_66_0) rfl kq)
  have K11 : Go p e below s₁ (mkF m 2 #[.val (.long x), .second, .val (.long y), .second] [(.long y), (.long x)]) G := fun tq kq => K10 tq (XS.lloadN X0.here hx rfl (hb hby d_jdk_29_method_66_1) rfl kq)
  have K12 : Go p e below s₁ (mkF m 3 #[.val (.long x), .second, .val (.long y), .second] [(.int (lcmpW x y))]) G := fun tq kq => K11 tq (XS.lcmp X0.here hx rfl (hb hby d_jdk_29_method_66_2) rfl kq)
  by_cases hc13 : x < y
  · skip
    have K14 : Go p e below s₁ (mkF m 10 #[.val (.long x), .second, .val (.long y), .second] []) G := fun tq kq => K12 tq (XS.ifYes X0.here hx rfl (pc0 := 3) (pc' := 10) rfl (hb hby d_jdk_29_method_66_3) rfl ((if0 _ _).trans (tlt ((lw_lt _ _).mpr hc13)).1) (by decide) (by decide) kq)
    have K15 : Go p e below s₁ (mkF m 11 #[.val (.long x), .second, .val (.long y), .second] [(.long y)]) G := fun tq kq => K14 tq (XS.lloadN X0.here hx rfl (hb hby d_jdk_29_method_66_10) rfl kq)
    obtain ⟨fs, hr, hrun, hended, hWW, hsame⟩ := X0.leave (v := some (.long y)) (fun h => by rw [Bd.returns] at h; cases h)
    refine ⟨_, _, hG _ (K15 _ (retOut X0 hx Bd.returns rfl (Or.inr (Or.inl ⟨rfl, rfl, _, rfl⟩)) (hb hby d_jdk_29_method_66_11) hr)), hrun, hended, _, _, rfl, ?_, ⟨_, rfl⟩, hWW, hsame.mono (by decide) (by decide)⟩
    show QMaxJ Z x y h0 n0 _ s₁.heap _
    rw [e0]
    exact ⟨by simp [hc13], N0, rfl⟩
  · skip
    have K16 : Go p e below s₁ (mkF m 6 #[.val (.long x), .second, .val (.long y), .second] []) G := fun tq kq => K12 tq (XS.ifNo X0.here hx rfl (hb hby d_jdk_29_method_66_3) rfl ((if0 _ _).trans (flt (fun z => hc13 ((lw_lt _ _).mp z))).1) kq)
    have K17 : Go p e below s₁ (mkF m 7 #[.val (.long x), .second, .val (.long y), .second] [(.long x)]) G := fun tq kq => K16 tq (XS.lloadN X0.here hx rfl (hb hby d_jdk_29_method_66_6) rfl kq)
    have K18 : Go p e below s₁ (mkF m 11 #[.val (.long x), .second, .val (.long y), .second] [(.long x)]) G := fun tq kq => K17 tq (XS.goto X0.here hx rfl (pc0 := 7) (pc' := 11) rfl (hb hby d_jdk_29_method_66_7) (by decide) (by decide) kq)
    obtain ⟨fs, hr, hrun, hended, hWW, hsame⟩ := X0.leave (v := some (.long x)) (fun h => by rw [Bd.returns] at h; cases h)
    refine ⟨_, _, hG _ (K18 _ (retOut X0 hx Bd.returns rfl (Or.inr (Or.inl ⟨rfl, rfl, _, rfl⟩)) (hb hby d_jdk_29_method_66_11) hr)), hrun, hended, _, _, rfl, ?_, ⟨_, rfl⟩, hWW, hsame.mono (by decide) (by decide)⟩
    show QMaxJ Z x y h0 n0 _ s₁.heap _
    rw [e0]
    exact ⟨by simp [hc13], N0, rfl⟩
theorem ef_jdk_29_method_69_II (m : MethodId) (x0 : Int32) (x1 : Int32) : entryFrame m #[(.int x0), (.int x1)] 2 = mkF m 0 #[.val (.int x0), .val (.int x1)] [] := by first | (simp [entryFrame, mkF, argsToLocals, Value.category]; done) | rfl
theorem d_jdk_29_method_69_0 : decode jdk_29_method_69_code 0 = .ok (.iload_n 0, 1) := by decide +kernel
theorem d_jdk_29_method_69_1 : decode jdk_29_method_69_code 1 = .ok (.iload_n 1, 1) := by decide +kernel
theorem d_jdk_29_method_69_2 : decode jdk_29_method_69_code 2 = .ok (.if_icmp .gt 7, 3) := by decide +kernel
theorem d_jdk_29_method_69_5 : decode jdk_29_method_69_code 5 = .ok (.iload_n 0, 1) := by decide +kernel
theorem d_jdk_29_method_69_6 : decode jdk_29_method_69_code 6 = .ok (.goto 4, 3) := by decide +kernel
theorem d_jdk_29_method_69_9 : decode jdk_29_method_69_code 9 = .ok (.iload_n 1, 1) := by decide +kernel
theorem d_jdk_29_method_69_10 : decode jdk_29_method_69_code 10 = .ok (.ireturn, 1) := by decide +kernel
def QMinI (Z : State) (x : Int32) (y : Int32) (h0 : Heap) (n0 : Nat) (v : Option Value) (h : Heap) (L : List Loc) : Prop := v = some (.int (if y < x then y else x)) ∧ Fr n0 L ∧ h = h0
set_option maxRecDepth 65536 in
set_option maxHeartbeats 40000000 in
theorem rmMinI (l : Launch) (Z : State) (a0 : Array Value) (hw : ∀ d ∈ tables_1, d.before a0 Z = true) (ws : List Jvm.Cond) (x : Int32) (y : Int32) (h0 : Heap) (n0 : Nat) (Z0 : n0 ≤ h0.size) :
    MetFree l (⟨"java/lang/Math", "min", "(II)I"⟩ : MethodName) (head1 (Jvm.Cond.code (⟨"java/lang/Math", "min", "(II)I"⟩ : MethodName) jdk_29_method_69_code 2 (some .int) :: ws) ({ frames := 0, cells := 0, slots := 0, locals := 0 } : Room)) (fun aa UU => aa = #[(.int x), (.int y)] ∧ Z.Warmed39 UU.vm ∧ UU.heap = h0) (fun _ _ _ _ _ => True) (fun _ UU oo UU' => ∃ vv LL, oo = .returned vv ∧ QMinI Z x y h0 n0 vv UU'.heap LL ∧ FrameEnd UU oo UU' LL ({ frames := 0, cells := 0, slots := 0, locals := 0 } : Room).cells ({ frames := 0, cells := 0, slots := 0, locals := 0 } : Room).slots) := by
  refine MetFree.of_bodySF (Jvm.Free.JP.mathPlain rfl (by decide +kernel)) hisR ?_
  intro p e s m args below meth c s₁ Bd hml0 hP hK
  obtain ⟨rfl, hZ, hh⟩ := hP
  have hx := Bd.exec
  have hby := Bd.bytes
  have hml : c.maxLocals = 2 := hml0
  have hown : s.vm.findClass "java/lang/Math" = some m.cls := findClass_of_methodNamed Bd.named
  have hnm := (name_of_methodNamed Bd.named Bd.method).1
  have hW : ∀ (k : Nat) (d : Jvm.Cond), tables_1[k]? = some d → d.before a0 Z = true := fun k d h => hw d (List.mem_of_getElem? h)
  have X0 : Stand p l e ({ frames := 0, cells := 0, slots := 0, locals := 0 } : Room) s m #[(.int x), (.int y)] below meth c s₁ [] 0 0 := Stand.of_body Bd
  have e0 : s₁.heap = h0 := by rw [← hh, Bd.state]; rfl
  have N0 := Fr.nil n0
  obtain ⟨G, hG, K0⟩ : ∃ G : State → Prop, (∀ t, G t → Steps p.tables e below (s₁.setTop (entryFrame m #[(.int x), (.int y)] 2)) t) ∧ Go p e below s₁ (mkF m 0 #[.val (.int x), .val (.int y)] []) G := ⟨fun t => Steps p.tables e below (s₁.setTop (entryFrame m #[(.int x), (.int y)] 2)) t, fun _ h => h, fun t k => castTop (ef_jdk_29_method_69_II m x y) k⟩
  have K19 : Go p e below s₁ (mkF m 1 #[.val (.int x), .val (.int y)] [(.int x)]) G := fun tq kq => K0 tq (XS.iloadN X0.here hx rfl (hb hby d_jdk_29_method_69_0) rfl kq)
  have K20 : Go p e below s₁ (mkF m 2 #[.val (.int x), .val (.int y)] [(.int y), (.int x)]) G := fun tq kq => K19 tq (XS.iloadN X0.here hx rfl (hb hby d_jdk_29_method_69_1) rfl kq)
  by_cases hc21 : y < x
  · skip
    have K22 : Go p e below s₁ (mkF m 9 #[.val (.int x), .val (.int y)] []) G := fun tq kq => K20 tq (XS.icmpYes X0.here hx rfl (pc0 := 2) (pc' := 9) rfl (hb hby d_jdk_29_method_69_2) rfl ((tlt hc21).2.2.1) (by decide) (by decide) kq)
    have K23 : Go p e below s₁ (mkF m 10 #[.val (.int x), .val (.int y)] [(.int y)]) G := fun tq kq => K22 tq (XS.iloadN X0.here hx rfl (hb hby d_jdk_29_method_69_9) rfl kq)
    obtain ⟨fs, hr, hrun, hended, hWW, hsame⟩ := X0.leave (v := some (.int y)) (fun h => by rw [Bd.returns] at h; cases h)
    refine ⟨_, _, hG _ (K23 _ (retOut X0 hx Bd.returns rfl (Or.inl ⟨rfl, Or.inl rfl, _, rfl⟩) (hb hby d_jdk_29_method_69_10) hr)), hrun, hended, _, _, rfl, ?_, ⟨_, rfl⟩, hWW, hsame.mono (by decide) (by decide)⟩
    show QMinI Z x y h0 n0 _ s₁.heap _
    rw [e0]
    exact ⟨by simp [hc21], N0, rfl⟩
  · skip
    have K24 : Go p e below s₁ (mkF m 5 #[.val (.int x), .val (.int y)] []) G := fun tq kq => K20 tq (XS.icmpNo X0.here hx rfl (hb hby d_jdk_29_method_69_2) rfl ((flt hc21).2.2.1) kq)
    have K25 : Go p e below s₁ (mkF m 6 #[.val (.int x), .val (.int y)] [(.int x)]) G := fun tq kq => K24 tq (XS.iloadN X0.here hx rfl (hb hby d_jdk_29_method_69_5) rfl kq)
    have K26 : Go p e below s₁ (mkF m 10 #[.val (.int x), .val (.int y)] [(.int x)]) G := fun tq kq => K25 tq (XS.goto X0.here hx rfl (pc0 := 6) (pc' := 10) rfl (hb hby d_jdk_29_method_69_6) (by decide) (by decide) kq)
    obtain ⟨fs, hr, hrun, hended, hWW, hsame⟩ := X0.leave (v := some (.int x)) (fun h => by rw [Bd.returns] at h; cases h)
    refine ⟨_, _, hG _ (K26 _ (retOut X0 hx Bd.returns rfl (Or.inl ⟨rfl, Or.inl rfl, _, rfl⟩) (hb hby d_jdk_29_method_69_10) hr)), hrun, hended, _, _, rfl, ?_, ⟨_, rfl⟩, hWW, hsame.mono (by decide) (by decide)⟩
    show QMinI Z x y h0 n0 _ s₁.heap _
    rw [e0]
    exact ⟨by simp [hc21], N0, rfl⟩
def own_B (b : Int64) (i : Int32) : Int32 := nar .byte (((((b.toUInt64 >>> (((8 : Int32) * i) &&& 0x3f).toInt64.toUInt64).toInt64).toInt32)).toInt8.toInt32)
theorem own_nb (x : Int32) : x.toInt8.toInt32.toInt8.toInt32 = x.toInt8.toInt32 := by simp
theorem own_nB (b : Int64) (i : Int32) : nar .byte (own_B b i) = own_B b i := own_nb _
theorem pn_26 : plainName "com/example/tallyrule/tallyrule/BuffersGrownPinLaw" = true := by first | (simp [plainName, overriddenIn]; done) | decide +kernel
theorem ef_method_2_JI (m : MethodId) (x0 : Int64) (x1 : Int32) : entryFrame m #[(.long x0), (.int x1)] 3 = mkF m 0 #[.val (.long x0), .second, .val (.int x1)] [] := by first | (simp [entryFrame, mkF, argsToLocals, Value.category]; done) | rfl
theorem d_method_2_0 : decode method_2_code 0 = .ok (.lload_n 0, 1) := by decide +kernel
theorem d_method_2_1 : decode method_2_code 1 = .ok (.bipush 8, 2) := by decide +kernel
theorem d_method_2_3 : decode method_2_code 3 = .ok (.iload_n 2, 1) := by decide +kernel
theorem d_method_2_4 : decode method_2_code 4 = .ok (.imul, 1) := by decide +kernel
theorem d_method_2_5 : decode method_2_code 5 = .ok (.lushr, 1) := by decide +kernel
theorem d_method_2_6 : decode method_2_code 6 = .ok (.l2i, 1) := by decide +kernel
theorem d_method_2_7 : decode method_2_code 7 = .ok (.i2b, 1) := by decide +kernel
theorem d_method_2_8 : decode method_2_code 8 = .ok (.ireturn, 1) := by decide +kernel
def QBA (Z : State) (b : Int64) (i : Int32) (h0 : Heap) (n0 : Nat) (v : Option Value) (h : Heap) (L : List Loc) : Prop := v = some (.int (own_B b i)) ∧ Fr n0 L ∧ h = h0
set_option maxRecDepth 65536 in
set_option maxHeartbeats 40000000 in
theorem rmBA (l : Launch) (Z : State) (a0 : Array Value) (hw : ∀ d ∈ tables_1, d.before a0 Z = true) (ws : List Jvm.Cond) (b : Int64) (i : Int32) (h0 : Heap) (n0 : Nat) (Z0 : n0 ≤ h0.size) :
    MetFree l (⟨"com/example/tallyrule/tallyrule/BuffersGrownPinLaw", "byteAt", "(JI)B"⟩ : MethodName) (head1 (Jvm.Cond.code (⟨"com/example/tallyrule/tallyrule/BuffersGrownPinLaw", "byteAt", "(JI)B"⟩ : MethodName) method_2_code 3 (some .byte) :: ws) ({ frames := 0, cells := 0, slots := 0, locals := 0 } : Room)) (fun aa UU => aa = #[(.long b), (.int i)] ∧ Z.Warmed39 UU.vm ∧ UU.heap = h0) (fun _ _ _ _ _ => True) (fun _ UU oo UU' => ∃ vv LL, oo = .returned vv ∧ QBA Z b i h0 n0 vv UU'.heap LL ∧ FrameEnd UU oo UU' LL ({ frames := 0, cells := 0, slots := 0, locals := 0 } : Room).cells ({ frames := 0, cells := 0, slots := 0, locals := 0 } : Room).slots) := by
  refine MetFree.of_bodySF (plainFor_of_name pn_26) hisR ?_
  intro p e s m args below meth c s₁ Bd hml0 hP hK
  obtain ⟨rfl, hZ, hh⟩ := hP
  have hx := Bd.exec
  have hby := Bd.bytes
  have hml : c.maxLocals = 3 := hml0
  have hown : s.vm.findClass "com/example/tallyrule/tallyrule/BuffersGrownPinLaw" = some m.cls := findClass_of_methodNamed Bd.named
  have hnm := (name_of_methodNamed Bd.named Bd.method).1
  have hW : ∀ (k : Nat) (d : Jvm.Cond), tables_1[k]? = some d → d.before a0 Z = true := fun k d h => hw d (List.mem_of_getElem? h)
  have X0 : Stand p l e ({ frames := 0, cells := 0, slots := 0, locals := 0 } : Room) s m #[(.long b), (.int i)] below meth c s₁ [] 0 0 := Stand.of_body Bd
  have e0 : s₁.heap = h0 := by rw [← hh, Bd.state]; rfl
  have N0 := Fr.nil n0
  obtain ⟨G, hG, K0⟩ : ∃ G : State → Prop, (∀ t, G t → Steps p.tables e below (s₁.setTop (entryFrame m #[(.long b), (.int i)] 3)) t) ∧ Go p e below s₁ (mkF m 0 #[.val (.long b), .second, .val (.int i)] []) G := ⟨fun t => Steps p.tables e below (s₁.setTop (entryFrame m #[(.long b), (.int i)] 3)) t, fun _ h => h, fun t k => castTop (ef_method_2_JI m b i) k⟩
  have K27 : Go p e below s₁ (mkF m 1 #[.val (.long b), .second, .val (.int i)] [(.long b)]) G := fun tq kq => K0 tq (XS.lloadN X0.here hx rfl (hb hby d_method_2_0) rfl kq)
  have K28 : Go p e below s₁ (mkF m 3 #[.val (.long b), .second, .val (.int i)] [(.int (8 : Int32)), (.long b)]) G := fun tq kq => K27 tq (XS.bipush X0.here hx rfl (hb hby d_method_2_1) kq)
  have K29 : Go p e below s₁ (mkF m 4 #[.val (.long b), .second, .val (.int i)] [(.int i), (.int (8 : Int32)), (.long b)]) G := fun tq kq => K28 tq (XS.iloadN X0.here hx rfl (hb hby d_method_2_3) rfl kq)
  have K30 : Go p e below s₁ (mkF m 5 #[.val (.long b), .second, .val (.int i)] [(.int ((8 : Int32) * i)), (.long b)]) G := fun tq kq => K29 tq (XS.imul X0.here hx rfl (hb hby d_method_2_4) rfl kq)
  have K31 : Go p e below s₁ (mkF m 6 #[.val (.long b), .second, .val (.int i)] [(.long ((b.toUInt64 >>> (((8 : Int32) * i) &&& 0x3f).toInt64.toUInt64).toInt64))]) G := fun tq kq => K30 tq (XS.lushr X0.here hx rfl (hb hby d_method_2_5) rfl kq)
  have K32 : Go p e below s₁ (mkF m 7 #[.val (.long b), .second, .val (.int i)] [(.int (((b.toUInt64 >>> (((8 : Int32) * i) &&& 0x3f).toInt64.toUInt64).toInt64).toInt32))]) G := fun tq kq => K31 tq (XS.l2i X0.here hx rfl (hb hby d_method_2_6) rfl kq)
  have K33 : Go p e below s₁ (mkF m 8 #[.val (.long b), .second, .val (.int i)] [(.int ((((b.toUInt64 >>> (((8 : Int32) * i) &&& 0x3f).toInt64.toUInt64).toInt64).toInt32).toInt8.toInt32))]) G := fun tq kq => K32 tq (XS.i2b X0.here hx rfl (hb hby d_method_2_7) rfl kq)
  obtain ⟨fs, hr, hrun, hended, hWW, hsame⟩ := X0.leave (v := some (.int (own_B b i))) (fun h => by rw [Bd.returns] at h; cases h)
  refine ⟨_, _, hG _ (K33 _ (retN X0 hx (t := .byte) Bd.returns (by simp) (hb hby d_method_2_8) hr)), hrun, hended, _, _, rfl, ?_, ⟨_, rfl⟩, hWW, hsame.mono (by decide) (by decide)⟩
  show QBA Z b i h0 n0 _ s₁.heap _
  rw [e0]
  exact ⟨rfl, N0, rfl⟩
theorem own_I0 : (0 : Int32).toInt = 0 := by decide
theorem own_I1 : (1 : Int32).toInt = 1 := by decide
theorem own_I2 : (2 : Int32).toInt = 2 := by decide
theorem own_I3 : (3 : Int32).toInt = 3 := by decide
theorem own_I4 : (4 : Int32).toInt = 4 := by decide
theorem own_I5 : (5 : Int32).toInt = 5 := by decide
theorem own_I6 : (6 : Int32).toInt = 6 := by decide
theorem own_I7 : (7 : Int32).toInt = 7 := by decide
theorem own_I31 : (31 : Int32).toInt = 31 := by decide
theorem own_I2147483647 : (2147483647 : Int32).toInt = 2147483647 := by decide
theorem own_J0 : (0 : Int64).toInt = 0 := by decide
theorem own_J2 : (2 : Int64).toInt = 2 := by decide
theorem own_J31 : (31 : Int64).toInt = 31 := by decide
theorem own_J2147483639 : (2147483639 : Int64).toInt = 2147483639 := by decide
theorem own_copy (vs vd : List Value) (d : Value) (hd : ∀ i, vd.getD i d = d) (n i : Nat) : (vd.take (0 : Int32).toNatClampNeg ++ ((List.range n).map fun i => vs.getD ((0 : Int32).toNatClampNeg + i) d) ++ vd.drop ((0 : Int32).toNatClampNeg + n)).getD i d = if i < n then vs.getD i d else d := by
  have e0 : (0 : Int32).toNatClampNeg = 0 := rfl
  simp only [e0, Nat.zero_add, List.take_zero, List.nil_append, List.getD_eq_getElem?_getD]
  by_cases h : i < n
  · rw [List.getElem?_append_left (by simpa using h), if_pos h]
    simp [h]
  · rw [List.getElem?_append_right (by simpa using h), if_neg h]
    have q := hd (n + (i - n))
    simp only [List.getD_eq_getElem?_getD] at q
    simpa using q
theorem own_rep (n i : Nat) (d : Value) : (List.replicate n d).getD i d = d := by
  simp only [List.getD_eq_getElem?_getD, List.getElem?_replicate]
  split <;> rfl
theorem own_nat (j : Int32) (h : ¬ j < 0) : (j.toNatClampNeg : Int) = j.toInt := (nat_of h).symm
theorem pn_50 : plainName "java/util/Arrays" = true := by first | (simp [plainName, overriddenIn]; done) | decide +kernel
theorem ef_jdk_65_method_121_RI (m : MethodId) (x0 : Addr) (x1 : Int32) : entryFrame m #[(.ref x0), (.int x1)] 3 = mkF m 0 #[.val (.ref x0), .val (.int x1), .unset] [] := by first | (simp [entryFrame, mkF, argsToLocals, Value.category]; done) | rfl
theorem pd_52 : parseMethodDescriptor "(II)I" = some ⟨[.int, .int], some .int⟩ := by decide +kernel
theorem d_jdk_65_method_121_0 : decode jdk_65_method_121_code 0 = .ok (.iload_n 1, 1) := by decide +kernel
theorem d_jdk_65_method_121_1 : decode jdk_65_method_121_code 1 = .ok (.aload_n 0, 1) := by decide +kernel
theorem d_jdk_65_method_121_2 : decode jdk_65_method_121_code 2 = .ok (.arraylength, 1) := by decide +kernel
theorem d_jdk_65_method_121_3 : decode jdk_65_method_121_code 3 = .ok (.if_icmp .ne 11, 3) := by decide +kernel
theorem d_jdk_65_method_121_14 : decode jdk_65_method_121_code 14 = .ok (.iload_n 1, 1) := by decide +kernel
theorem d_jdk_65_method_121_15 : decode jdk_65_method_121_code 15 = .ok (.newarray .byte, 2) := by decide +kernel
theorem d_jdk_65_method_121_17 : decode jdk_65_method_121_code 17 = .ok (.astore_n 2, 1) := by decide +kernel
theorem d_jdk_65_method_121_18 : decode jdk_65_method_121_code 18 = .ok (.aload_n 0, 1) := by decide +kernel
theorem d_jdk_65_method_121_19 : decode jdk_65_method_121_code 19 = .ok (.iconst 0, 1) := by decide +kernel
theorem d_jdk_65_method_121_20 : decode jdk_65_method_121_code 20 = .ok (.aload_n 2, 1) := by decide +kernel
theorem d_jdk_65_method_121_21 : decode jdk_65_method_121_code 21 = .ok (.iconst 0, 1) := by decide +kernel
theorem d_jdk_65_method_121_22 : decode jdk_65_method_121_code 22 = .ok (.aload_n 0, 1) := by decide +kernel
theorem d_jdk_65_method_121_23 : decode jdk_65_method_121_code 23 = .ok (.arraylength, 1) := by decide +kernel
theorem d_jdk_65_method_121_24 : decode jdk_65_method_121_code 24 = .ok (.iload_n 1, 1) := by decide +kernel
theorem d_jdk_65_method_121_25 : decode jdk_65_method_121_code 25 = .ok (.invokestatic 304, 3) := by decide +kernel
theorem d_jdk_65_method_121_28 : decode jdk_65_method_121_code 28 = .ok (.invokestatic 150, 3) := by decide +kernel
theorem d_jdk_65_method_121_31 : decode jdk_65_method_121_code 31 = .ok (.aload_n 2, 1) := by decide +kernel
theorem d_jdk_65_method_121_32 : decode jdk_65_method_121_code 32 = .ok (.areturn, 1) := by decide +kernel
def QCO (Z : State) (a : Addr) (nl : Int32) (k : ClassId) (z : Int32) (vs : List Value) (h0 : Heap) (n0 : Nat) (v : Option Value) (h : Heap) (L : List Loc) : Prop := ∃ (r : Addr) (k' : ClassId) (vr : List Value), v = some (.ref r) ∧ Fr n0 L ∧ Keep h0 h [] ∧ h0.size ≤ r ∧ n0 ≤ r ∧ Arv Z h r k' .byte nl vr (.int (0 : Int32)) ∧ ∀ i, vr.getD i (.int (0 : Int32)) = if i < z.toNatClampNeg then vs.getD i (.int (0 : Int32)) else (.int (0 : Int32))
set_option maxRecDepth 65536 in
set_option maxHeartbeats 40000000 in
theorem rmCO (l : Launch) (Z : State) (a0 : Array Value) (hw : ∀ d ∈ tables_1, d.before a0 Z = true) (ws : List Jvm.Cond) (a : Addr) (nl : Int32) (k : ClassId) (z : Int32) (vs : List Value) (h0 : Heap) (n0 : Nat) (Z0 : n0 ≤ h0.size) (V_a : Arv Z h0 a k .byte z vs (.int (0 : Int32))) (hz : 0 ≤ z.toInt ∧ z.toInt < nl.toInt ∧ nl.toInt ≤ 31) :
    MetFree l (⟨"java/util/Arrays", "copyOf", "([BI)[B"⟩ : MethodName) (head1 (Jvm.Cond.code (⟨"java/util/Arrays", "copyOf", "([BI)[B"⟩ : MethodName) jdk_65_method_121_code 3 (some (.array .byte)) :: ws) ({ frames := 1, cells := 1, slots := 31, locals := 18 } : Room)) (fun aa UU => aa = #[(.ref a), (.int nl)] ∧ Z.Warmed39 UU.vm ∧ UU.heap = h0) (fun _ _ _ _ _ => True) (fun _ UU oo UU' => ∃ vv LL, oo = .returned vv ∧ QCO Z a nl k z vs h0 n0 vv UU'.heap LL ∧ FrameEnd UU oo UU' LL ({ frames := 1, cells := 1, slots := 31, locals := 18 } : Room).cells ({ frames := 1, cells := 1, slots := 31, locals := 18 } : Room).slots) := by
  refine MetFree.of_bodySF (plainFor_of_name pn_50) hisR ?_
  intro p e s m args below meth c s₁ Bd hml0 hP hK
  obtain ⟨rfl, hZ, hh⟩ := hP
  have hx := Bd.exec
  have hby := Bd.bytes
  have hml : c.maxLocals = 3 := hml0
  have hown : s.vm.findClass "java/util/Arrays" = some m.cls := findClass_of_methodNamed Bd.named
  have hnm := (name_of_methodNamed Bd.named Bd.method).1
  have hW : ∀ (k : Nat) (d : Jvm.Cond), tables_1[k]? = some d → d.before a0 Z = true := fun k d h => hw d (List.mem_of_getElem? h)
  have X0 : Stand p l e ({ frames := 1, cells := 1, slots := 31, locals := 18 } : Room) s m #[(.ref a), (.int nl)] below meth c s₁ [] 0 0 := Stand.of_body Bd
  have e0 : s₁.heap = h0 := by rw [← hh, Bd.state]; rfl
  have N0 := Fr.nil n0
  obtain ⟨G, hG, K0⟩ : ∃ G : State → Prop, (∀ t, G t → Steps p.tables e below (s₁.setTop (entryFrame m #[(.ref a), (.int nl)] 3)) t) ∧ Go p e below s₁ (mkF m 0 #[.val (.ref a), .val (.int nl), .unset] []) G := ⟨fun t => Steps p.tables e below (s₁.setTop (entryFrame m #[(.ref a), (.int nl)] 3)) t, fun _ h => h, fun t k => castTop (ef_jdk_65_method_121_RI m a nl) k⟩
  have hne : ¬ (nl = z) := by
    rw [← Int32.toInt_inj]
    omega
  have hz0 : ¬ z < 0 := by
    rw [Int32.lt_iff_toInt_lt, own_I0]
    omega
  have hn0 : ¬ nl < 0 := by
    rw [Int32.lt_iff_toInt_lt, own_I0]
    omega
  have cz := own_nat z hz0
  have cn := own_nat nl hn0
  have K34 : Go p e below s₁ (mkF m 1 #[.val (.ref a), .val (.int nl), .unset] [(.int nl)]) G := fun tq kq => K0 tq (XS.iloadN X0.here hx rfl (hb hby d_jdk_65_method_121_0) rfl kq)
  have K35 : Go p e below s₁ (mkF m 2 #[.val (.ref a), .val (.int nl), .unset] [(.ref a), (.int nl)]) G := fun tq kq => K34 tq (XS.aloadN X0.here hx rfl (hb hby d_jdk_65_method_121_1) rfl rfl kq)
  obtain ⟨cl36, Ar36, q36, S36, Nn36, Hh36, Gg36⟩ := id V_a
  have K37 : Go p e below s₁ (mkF m 3 #[.val (.ref a), .val (.int nl), .unset] [(.int z), (.int nl)]) G := fun tq kq => K35 tq (X0.arraylength hx (by rw [e0]; exact Ar36.1) (State.isArrayOf_alike hZ.alike Ar36.2.1) (g := (mkF m 2 #[.val (.ref a), .val (.int nl), .unset] [(.ref a), (.int nl)])) rfl rfl (hb hby d_jdk_65_method_121_2) _ (by rw [len_of S36 Nn36]; exact kq))
  have K38 : Go p e below s₁ (mkF m 14 #[.val (.ref a), .val (.int nl), .unset] []) G := fun tq kq => K37 tq (XS.icmpYes X0.here hx rfl (pc0 := 3) (pc' := 14) rfl (hb hby d_jdk_65_method_121_3) rfl ((feq hne).2) (by decide) (by decide) kq)
  have K39 : Go p e below s₁ (mkF m 15 #[.val (.ref a), .val (.int nl), .unset] [(.int nl)]) G := fun tq kq => K38 tq (XS.iloadN X0.here hx rfl (hb hby d_jdk_65_method_121_14) rfl kq)
  obtain ⟨T40, h40, k40, X40, e40, E40, A40, st40⟩ := newP X0 hx hZ (hW 0 _ rfl) e0 (g := (mkF m 15 #[.val (.ref a), .val (.int nl), .unset] [(.int nl)])) rfl (hb hby d_jdk_65_method_121_15) rfl hn0 (cap := 31) (by omega) (by decide) (by decide) (by decide)
  obtain ⟨b40, g40⟩ : ∃ z, z = h0.size := ⟨_, rfl⟩
  rw [← g40] at A40 st40
  have ne40_a : a ≠ b40 := Nat.ne_of_lt (Nat.lt_of_lt_of_le V_a.lt (Nat.le_of_eq g40.symm))
  have ge_b40 : n0 ≤ b40 := Nat.le_trans Z0 (Nat.le_of_eq g40.symm)
  have sz_b40 : h0.size ≤ b40 := Nat.le_trans ((Keep.refl h0 [])).1 (Nat.le_of_eq g40.symm)
  have V40 : Arv Z h40 b40 k40 .byte nl [(.int (0 : Int32)), (.int (0 : Int32)), (.int (0 : Int32)), (.int (0 : Int32)), (.int (0 : Int32)), (.int (0 : Int32)), (.int (0 : Int32)), (.int (0 : Int32)), (.int (0 : Int32)), (.int (0 : Int32)), (.int (0 : Int32)), (.int (0 : Int32)), (.int (0 : Int32)), (.int (0 : Int32)), (.int (0 : Int32)), (.int (0 : Int32)), (.int (0 : Int32)), (.int (0 : Int32)), (.int (0 : Int32)), (.int (0 : Int32)), (.int (0 : Int32)), (.int (0 : Int32)), (.int (0 : Int32)), (.int (0 : Int32)), (.int (0 : Int32)), (.int (0 : Int32)), (.int (0 : Int32)), (.int (0 : Int32)), (.int (0 : Int32)), (.int (0 : Int32)), (.int (0 : Int32))] (.int (0 : Int32)) := (Arv.new A40 hn0).pad (pad_rep [] (.int (0 : Int32)) 31)
  have K41 : Go p e below T40 (mkF m 17 #[.val (.ref a), .val (.int nl), .unset] [(.ref b40)]) G := fun tq kq => K39 tq (st40 tq kq)
  have K42 : Go p e below T40 (mkF m 18 #[.val (.ref a), .val (.int nl), .val (.ref b40)] []) G := fun tq kq => K41 tq (XS.astoreN X40.here hx rfl (hb hby d_jdk_65_method_121_17) rfl rfl (l' := #[.val (.ref a), .val (.int nl), .val (.ref b40)]) rfl kq)
  have K43 : Go p e below T40 (mkF m 19 #[.val (.ref a), .val (.int nl), .val (.ref b40)] [(.ref a)]) G := fun tq kq => K42 tq (XS.aloadN X40.here hx rfl (hb hby d_jdk_65_method_121_18) rfl rfl kq)
  have K44 : Go p e below T40 (mkF m 20 #[.val (.ref a), .val (.int nl), .val (.ref b40)] [(.int (0 : Int32)), (.ref a)]) G := fun tq kq => K43 tq (XS.iconst X40.here hx rfl (hb hby d_jdk_65_method_121_19) kq)
  have K45 : Go p e below T40 (mkF m 21 #[.val (.ref a), .val (.int nl), .val (.ref b40)] [(.ref b40), (.int (0 : Int32)), (.ref a)]) G := fun tq kq => K44 tq (XS.aloadN X40.here hx rfl (hb hby d_jdk_65_method_121_20) rfl rfl kq)
  have K46 : Go p e below T40 (mkF m 22 #[.val (.ref a), .val (.int nl), .val (.ref b40)] [(.int (0 : Int32)), (.ref b40), (.int (0 : Int32)), (.ref a)]) G := fun tq kq => K45 tq (XS.iconst X40.here hx rfl (hb hby d_jdk_65_method_121_21) kq)
  have K47 : Go p e below T40 (mkF m 23 #[.val (.ref a), .val (.int nl), .val (.ref b40)] [(.ref a), (.int (0 : Int32)), (.ref b40), (.int (0 : Int32)), (.ref a)]) G := fun tq kq => K46 tq (XS.aloadN X40.here hx rfl (hb hby d_jdk_65_method_121_22) rfl rfl kq)
  obtain ⟨cl48, Ar48, q48, S48, Nn48, Hh48, Gg48⟩ := id (V_a.ext E40)
  have K49 : Go p e below T40 (mkF m 24 #[.val (.ref a), .val (.int nl), .val (.ref b40)] [(.int z), (.int (0 : Int32)), (.ref b40), (.int (0 : Int32)), (.ref a)]) G := fun tq kq => K47 tq (X40.arraylength hx (by rw [e40]; exact Ar48.1) (State.isArrayOf_alike hZ.alike Ar48.2.1) (g := (mkF m 23 #[.val (.ref a), .val (.int nl), .val (.ref b40)] [(.ref a), (.int (0 : Int32)), (.ref b40), (.int (0 : Int32)), (.ref a)])) rfl rfl (hb hby d_jdk_65_method_121_23) _ (by rw [len_of S48 Nn48]; exact kq))
  have K50 : Go p e below T40 (mkF m 25 #[.val (.ref a), .val (.int nl), .val (.ref b40)] [(.int nl), (.int z), (.int (0 : Int32)), (.ref b40), (.int (0 : Int32)), (.ref a)]) G := fun tq kq => K49 tq (XS.iloadN X40.here hx rfl (hb hby d_jdk_65_method_121_24) rfl kq)
  obtain ⟨v51, _, ⟨T51, L51, k51, n51⟩, -, X51, ⟨Lc51, hQ51, l51, y51, z51⟩, st51⟩ := Jvm.LawKit.callS X40 hx (y := (⟨"java/lang/Math", "min", "(II)I"⟩ : MethodName)) hown (mvT hZ (hW 23 _ rfl)) (mvT hZ (hW 24 _ rfl)) (mvT hZ (hW 14 _ rfl)) (mvT hZ (hW 25 _ rfl)) (by decide) (backOf (W := 4) (rmMinI l Z a0 hw [] z nl h40 n0 (Nat.le_trans Z0 E40.1)) hZ (hW 25 _ rfl) (hW 14 _ rfl) (by decide) (by decide)) (g := (mkF m 25 #[.val (.ref a), .val (.int nl), .val (.ref b40)] [(.int nl), (.int z), (.int (0 : Int32)), (.ref b40), (.int (0 : Int32)), (.ref a)])) rfl (by rw [hml]; rfl) (argsL := [(.int z), (.int nl)]) (rest := [(.int (0 : Int32)), (.ref b40), (.int (0 : Int32)), (.ref a)]) (lenOf pd_52 rfl) rfl (by show 2 * 0 + _ ≤ _; exact Nat.le_of_eq rfl) (hb hby d_jdk_65_method_121_25) (fun _ _ => ⟨rfl, e40, (by decide : 1 + 0 ≤ _), (by decide : 31 + 0 ≤ _)⟩)
  dsimp only [Pt.U, Pt.locs, Pt.cells, Pt.slots] at X51 l51 y51 z51 st51 hQ51
  subst l51 y51 z51
  have mm51 : ¬ (nl < z) := by
    rw [Int32.lt_iff_toInt_lt]
    omega
  rw [QMinI, if_neg mm51] at hQ51
  obtain ⟨rfl, N51q, E51q⟩ := hQ51
  have N51 := Fr.app N0 N51q
  have K52 : Go p e below T51 (mkF m 28 #[.val (.ref a), .val (.int nl), .val (.ref b40)] [(.int z), (.int (0 : Int32)), (.ref b40), (.int (0 : Int32)), (.ref a)]) G := fun tq kq => K50 tq (st51 tq kq)
  obtain ⟨T53, h53, L53, X53, e53, N53, K53, V53, st53⟩ := cpA X51 hx hZ hown (hW 26 _ rfl) (hW 29 _ rfl) (hW 27 _ rfl) (hW 28 _ rfl) E51q (V_a.ext E40) V40 (Or.inl ⟨rfl, rfl⟩) (by decide) (by decide) hz0 (by show 0 + _ ≤ _; omega) (by show 0 + _ ≤ _; omega) rfl (by show 0 + _ ≤ 31; omega) N51 ge_b40 (g := (mkF m 28 #[.val (.ref a), .val (.int nl), .val (.ref b40)] [(.int z), (.int (0 : Int32)), (.ref b40), (.int (0 : Int32)), (.ref a)])) rfl (by rw [hml]; rfl) (rest := []) rfl (hb hby d_jdk_65_method_121_28) (by decide) (W := 0) (by show 2 * 0 + _ ≤ _; exact Nat.le_of_eq rfl) (by decide)
  have K54 : Go p e below T53 (mkF m 31 #[.val (.ref a), .val (.int nl), .val (.ref b40)] []) G := fun tq kq => K52 tq (st53 tq kq)
  have K55 : Go p e below T53 (mkF m 32 #[.val (.ref a), .val (.int nl), .val (.ref b40)] [(.ref b40)]) G := fun tq kq => K54 tq (XS.aloadN X53.here hx rfl (hb hby d_jdk_65_method_121_31) rfl rfl kq)
  obtain ⟨fs, hr, hrun, hended, hWW, hsame⟩ := X53.leave (v := some (.ref b40)) (fun h => by rw [Bd.returns] at h; cases h)
  refine ⟨_, _, hG _ (K55 _ (retOut X53 hx Bd.returns rfl (Or.inr (Or.inr (Or.inr (Or.inr ⟨rfl, rfl, rfl⟩)))) (hb hby d_jdk_65_method_121_32) hr)), hrun, hended, _, _, rfl, ?_, ⟨_, rfl⟩, hWW, hsame.mono (by decide) (by decide)⟩
  show QCO Z a nl k z vs h0 n0 _ T53.heap _
  rw [e53]
  exact ⟨b40, _, _, rfl, N53, (((Keep.refl h0 []).ext E40).trans K53 (allS (Or.inr sz_b40) all0)), sz_b40, ge_b40, V53, fun i => own_copy vs _ _ (own_rep 31 · _) _ i⟩
theorem pn_71 : plainName "com/example/tallyrule/tallyrule/Buffers" = true := by first | (simp [plainName, overriddenIn]; done) | decide +kernel
theorem ef_prog_3_method_2_RJ (m : MethodId) (x0 : Addr) (x1 : Int64) : entryFrame m #[(.ref x0), (.long x1)] 3 = mkF m 0 #[.val (.ref x0), .val (.long x1), .second] [] := by first | (simp [entryFrame, mkF, argsToLocals, Value.category]; done) | rfl
theorem d_prog_3_method_2_0 : decode prog_3_method_2_code 0 = .ok (.lload_n 1, 1) := by decide +kernel
theorem d_prog_3_method_2_1 : decode prog_3_method_2_code 1 = .ok (.aload_n 0, 1) := by decide +kernel
theorem d_prog_3_method_2_2 : decode prog_3_method_2_code 2 = .ok (.arraylength, 1) := by decide +kernel
theorem d_prog_3_method_2_3 : decode prog_3_method_2_code 3 = .ok (.i2l, 1) := by decide +kernel
theorem d_prog_3_method_2_4 : decode prog_3_method_2_code 4 = .ok (.lcmp, 1) := by decide +kernel
theorem d_prog_3_method_2_5 : decode prog_3_method_2_code 5 = .ok (.ifCond .gt 5, 3) := by decide +kernel
theorem d_prog_3_method_2_8 : decode prog_3_method_2_code 8 = .ok (.aload_n 0, 1) := by decide +kernel
theorem d_prog_3_method_2_9 : decode prog_3_method_2_code 9 = .ok (.areturn, 1) := by decide +kernel
def QGA (Z : State) (a : Addr) (u : Int64) (k : ClassId) (z : Int32) (vs : List Value) (h0 : Heap) (n0 : Nat) (v : Option Value) (h : Heap) (L : List Loc) : Prop := v = some (.ref a) ∧ Fr n0 L ∧ h = h0
set_option maxRecDepth 65536 in
set_option maxHeartbeats 40000000 in
theorem rmGA (l : Launch) (Z : State) (a0 : Array Value) (hw : ∀ d ∈ tables_1, d.before a0 Z = true) (ws : List Jvm.Cond) (a : Addr) (u : Int64) (k : ClassId) (z : Int32) (vs : List Value) (h0 : Heap) (n0 : Nat) (Z0 : n0 ≤ h0.size) (V_a : Arv Z h0 a k .byte z vs (.int (0 : Int32))) (hle : ¬ ((z.toInt64) < u)) :
    MetFree l (⟨"com/example/tallyrule/tallyrule/Buffers", "grown", "([BJ)[B"⟩ : MethodName) (head1 (Jvm.Cond.code (⟨"com/example/tallyrule/tallyrule/Buffers", "grown", "([BJ)[B"⟩ : MethodName) prog_3_method_2_code 3 (some (.array .byte)) :: ws) ({ frames := 0, cells := 0, slots := 0, locals := 0 } : Room)) (fun aa UU => aa = #[(.ref a), (.long u)] ∧ Z.Warmed39 UU.vm ∧ UU.heap = h0) (fun _ _ _ _ _ => True) (fun _ UU oo UU' => ∃ vv LL, oo = .returned vv ∧ QGA Z a u k z vs h0 n0 vv UU'.heap LL ∧ FrameEnd UU oo UU' LL ({ frames := 0, cells := 0, slots := 0, locals := 0 } : Room).cells ({ frames := 0, cells := 0, slots := 0, locals := 0 } : Room).slots) := by
  refine MetFree.of_bodySF (plainFor_of_name pn_71) hisR ?_
  intro p e s m args below meth c s₁ Bd hml0 hP hK
  obtain ⟨rfl, hZ, hh⟩ := hP
  have hx := Bd.exec
  have hby := Bd.bytes
  have hml : c.maxLocals = 3 := hml0
  have hown : s.vm.findClass "com/example/tallyrule/tallyrule/Buffers" = some m.cls := findClass_of_methodNamed Bd.named
  have hnm := (name_of_methodNamed Bd.named Bd.method).1
  have hW : ∀ (k : Nat) (d : Jvm.Cond), tables_1[k]? = some d → d.before a0 Z = true := fun k d h => hw d (List.mem_of_getElem? h)
  have X0 : Stand p l e ({ frames := 0, cells := 0, slots := 0, locals := 0 } : Room) s m #[(.ref a), (.long u)] below meth c s₁ [] 0 0 := Stand.of_body Bd
  have e0 : s₁.heap = h0 := by rw [← hh, Bd.state]; rfl
  have N0 := Fr.nil n0
  obtain ⟨G, hG, K0⟩ : ∃ G : State → Prop, (∀ t, G t → Steps p.tables e below (s₁.setTop (entryFrame m #[(.ref a), (.long u)] 3)) t) ∧ Go p e below s₁ (mkF m 0 #[.val (.ref a), .val (.long u), .second] []) G := ⟨fun t => Steps p.tables e below (s₁.setTop (entryFrame m #[(.ref a), (.long u)] 3)) t, fun _ h => h, fun t k => castTop (ef_prog_3_method_2_RJ m a u) k⟩
  have K56 : Go p e below s₁ (mkF m 1 #[.val (.ref a), .val (.long u), .second] [(.long u)]) G := fun tq kq => K0 tq (XS.lloadN X0.here hx rfl (hb hby d_prog_3_method_2_0) rfl kq)
  have K57 : Go p e below s₁ (mkF m 2 #[.val (.ref a), .val (.long u), .second] [(.ref a), (.long u)]) G := fun tq kq => K56 tq (XS.aloadN X0.here hx rfl (hb hby d_prog_3_method_2_1) rfl rfl kq)
  obtain ⟨cl58, Ar58, q58, S58, Nn58, Hh58, Gg58⟩ := id V_a
  have K59 : Go p e below s₁ (mkF m 3 #[.val (.ref a), .val (.long u), .second] [(.int z), (.long u)]) G := fun tq kq => K57 tq (X0.arraylength hx (by rw [e0]; exact Ar58.1) (State.isArrayOf_alike hZ.alike Ar58.2.1) (g := (mkF m 2 #[.val (.ref a), .val (.long u), .second] [(.ref a), (.long u)])) rfl rfl (hb hby d_prog_3_method_2_2) _ (by rw [len_of S58 Nn58]; exact kq))
  have K60 : Go p e below s₁ (mkF m 4 #[.val (.ref a), .val (.long u), .second] [(.long (z.toInt64)), (.long u)]) G := fun tq kq => K59 tq (XS.i2l X0.here hx rfl (hb hby d_prog_3_method_2_3) rfl kq)
  have K61 : Go p e below s₁ (mkF m 5 #[.val (.ref a), .val (.long u), .second] [(.int (lcmpW u (z.toInt64)))]) G := fun tq kq => K60 tq (XS.lcmp X0.here hx rfl (hb hby d_prog_3_method_2_4) rfl kq)
  have K62 : Go p e below s₁ (mkF m 8 #[.val (.ref a), .val (.long u), .second] []) G := fun tq kq => K61 tq (XS.ifNo X0.here hx rfl (hb hby d_prog_3_method_2_5) rfl ((if0 _ _).trans (flt (fun z => hle ((lw_gt _ _).mp z))).2.2.1) kq)
  have K63 : Go p e below s₁ (mkF m 9 #[.val (.ref a), .val (.long u), .second] [(.ref a)]) G := fun tq kq => K62 tq (XS.aloadN X0.here hx rfl (hb hby d_prog_3_method_2_8) rfl rfl kq)
  obtain ⟨fs, hr, hrun, hended, hWW, hsame⟩ := X0.leave (v := some (.ref a)) (fun h => by rw [Bd.returns] at h; cases h)
  refine ⟨_, _, hG _ (K63 _ (retOut X0 hx Bd.returns rfl (Or.inr (Or.inr (Or.inr (Or.inr ⟨rfl, rfl, rfl⟩)))) (hb hby d_prog_3_method_2_9) hr)), hrun, hended, _, _, rfl, ?_, ⟨_, rfl⟩, hWW, hsame.mono (by decide) (by decide)⟩
  show QGA Z a u k z vs h0 n0 _ s₁.heap _
  rw [e0]
  exact ⟨rfl, N0, rfl⟩
theorem own_need (u : Int64) (z : Int32) (h1 : 0 ≤ z.toInt) (h2 : z.toInt ≤ 7) (h3 : u.toInt ≤ 31) (h4 : (z.toInt64) < u) :
    (if (if u < ((2 : Int64) * (z.toInt64)) then ((2 : Int64) * (z.toInt64)) else u) < (2147483639 : Int64) then (if u < ((2 : Int64) * (z.toInt64)) then ((2 : Int64) * (z.toInt64)) else u) else (2147483639 : Int64)) = (if u < ((2 : Int64) * (z.toInt64)) then ((2 : Int64) * (z.toInt64)) else u) ∧
    (if u < ((2 : Int64) * (z.toInt64)) then ((2 : Int64) * (z.toInt64)) else u).toInt32.toInt = (if u < ((2 : Int64) * (z.toInt64)) then ((2 : Int64) * (z.toInt64)) else u).toInt ∧ z.toInt < (if u < ((2 : Int64) * (z.toInt64)) then ((2 : Int64) * (z.toInt64)) else u).toInt ∧ (if u < ((2 : Int64) * (z.toInt64)) then ((2 : Int64) * (z.toInt64)) else u).toInt ≤ 31 := by
  have c := c_lmul (2 : Int64) z.toInt64
  rw [c_i2l, own_J2] at c
  have r := rng64 ((2 : Int64) * z.toInt64)
  rw [Int64.lt_iff_toInt_lt, c_i2l] at h4
  have key : ∀ w : Int64, z.toInt < w.toInt → w.toInt ≤ 31 → (if w < (2147483639 : Int64) then w else (2147483639 : Int64)) = w ∧ w.toInt32.toInt = w.toInt := by
    intro w q1 q2
    have q3 : w < (2147483639 : Int64) := by rw [Int64.lt_iff_toInt_lt, own_J2147483639]; omega
    have q4 := c_l2i w
    have q5 := rng32 w.toInt32
    exact ⟨if_pos q3, by omega⟩
  by_cases h : u < ((2 : Int64) * (z.toInt64))
  · simp only [if_pos h]
    rw [Int64.lt_iff_toInt_lt] at h
    have k := key ((2 : Int64) * (z.toInt64)) (by omega) (by omega)
    exact ⟨k.1, k.2, by omega, by omega⟩
  · simp only [if_neg h]
    have k := key u (by omega) (by omega)
    exact ⟨k.1, k.2, by omega, by omega⟩
theorem pd_81 : parseMethodDescriptor "(JJ)J" = some ⟨[.long, .long], some .long⟩ := by decide +kernel
theorem pd_82 : parseMethodDescriptor "([BI)[B" = some ⟨[(.array .byte), .int], some (.array .byte)⟩ := by decide +kernel
theorem d_prog_3_method_2_10 : decode prog_3_method_2_code 10 = .ok (.aload_n 0, 1) := by decide +kernel
theorem d_prog_3_method_2_11 : decode prog_3_method_2_code 11 = .ok (.ldc2_w 11, 3) := by decide +kernel
theorem d_prog_3_method_2_14 : decode prog_3_method_2_code 14 = .ok (.lload_n 1, 1) := by decide +kernel
theorem d_prog_3_method_2_15 : decode prog_3_method_2_code 15 = .ok (.ldc2_w 13, 3) := by decide +kernel
theorem d_prog_3_method_2_18 : decode prog_3_method_2_code 18 = .ok (.aload_n 0, 1) := by decide +kernel
theorem d_prog_3_method_2_19 : decode prog_3_method_2_code 19 = .ok (.arraylength, 1) := by decide +kernel
theorem d_prog_3_method_2_20 : decode prog_3_method_2_code 20 = .ok (.i2l, 1) := by decide +kernel
theorem d_prog_3_method_2_21 : decode prog_3_method_2_code 21 = .ok (.lmul, 1) := by decide +kernel
theorem d_prog_3_method_2_22 : decode prog_3_method_2_code 22 = .ok (.invokestatic 15, 3) := by decide +kernel
theorem d_prog_3_method_2_25 : decode prog_3_method_2_code 25 = .ok (.invokestatic 21, 3) := by decide +kernel
theorem d_prog_3_method_2_28 : decode prog_3_method_2_code 28 = .ok (.l2i, 1) := by decide +kernel
theorem d_prog_3_method_2_29 : decode prog_3_method_2_code 29 = .ok (.invokestatic 24, 3) := by decide +kernel
theorem d_prog_3_method_2_32 : decode prog_3_method_2_code 32 = .ok (.areturn, 1) := by decide +kernel
def QGB (Z : State) (a : Addr) (u : Int64) (k : ClassId) (z : Int32) (vs : List Value) (h0 : Heap) (n0 : Nat) (v : Option Value) (h : Heap) (L : List Loc) : Prop := ∃ (r : Addr) (k' : ClassId) (vr : List Value), v = some (.ref r) ∧ Fr n0 L ∧ Keep h0 h [] ∧ h0.size ≤ r ∧ n0 ≤ r ∧ Arv Z h r k' .byte ((if u < ((2 : Int64) * (z.toInt64)) then ((2 : Int64) * (z.toInt64)) else u).toInt32) vr (.int (0 : Int32)) ∧ ∀ i, vr.getD i (.int (0 : Int32)) = if i < z.toNatClampNeg then vs.getD i (.int (0 : Int32)) else (.int (0 : Int32))
set_option maxRecDepth 65536 in
set_option maxHeartbeats 40000000 in
theorem rmGB (l : Launch) (Z : State) (a0 : Array Value) (hw : ∀ d ∈ tables_1, d.before a0 Z = true) (ws : List Jvm.Cond) (a : Addr) (u : Int64) (k : ClassId) (z : Int32) (vs : List Value) (h0 : Heap) (n0 : Nat) (Z0 : n0 ≤ h0.size) (V_a : Arv Z h0 a k .byte z vs (.int (0 : Int32))) (hgt : (z.toInt64) < u) (hz : 0 ≤ z.toInt ∧ z.toInt ≤ 7) (hu : u.toInt ≤ 31) :
    MetFree l (⟨"com/example/tallyrule/tallyrule/Buffers", "grown", "([BJ)[B"⟩ : MethodName) (head1 (Jvm.Cond.code (⟨"com/example/tallyrule/tallyrule/Buffers", "grown", "([BJ)[B"⟩ : MethodName) prog_3_method_2_code 3 (some (.array .byte)) :: ws) ({ frames := 2, cells := 1, slots := 31, locals := 32 } : Room)) (fun aa UU => aa = #[(.ref a), (.long u)] ∧ Z.Warmed39 UU.vm ∧ UU.heap = h0) (fun _ _ _ _ _ => True) (fun _ UU oo UU' => ∃ vv LL, oo = .returned vv ∧ QGB Z a u k z vs h0 n0 vv UU'.heap LL ∧ FrameEnd UU oo UU' LL ({ frames := 2, cells := 1, slots := 31, locals := 32 } : Room).cells ({ frames := 2, cells := 1, slots := 31, locals := 32 } : Room).slots) := by
  refine MetFree.of_bodySF (plainFor_of_name pn_71) hisR ?_
  intro p e s m args below meth c s₁ Bd hml0 hP hK
  obtain ⟨rfl, hZ, hh⟩ := hP
  have hx := Bd.exec
  have hby := Bd.bytes
  have hml : c.maxLocals = 3 := hml0
  have hown : s.vm.findClass "com/example/tallyrule/tallyrule/Buffers" = some m.cls := findClass_of_methodNamed Bd.named
  have hnm := (name_of_methodNamed Bd.named Bd.method).1
  have hW : ∀ (k : Nat) (d : Jvm.Cond), tables_1[k]? = some d → d.before a0 Z = true := fun k d h => hw d (List.mem_of_getElem? h)
  have X0 : Stand p l e ({ frames := 2, cells := 1, slots := 31, locals := 32 } : Room) s m #[(.ref a), (.long u)] below meth c s₁ [] 0 0 := Stand.of_body Bd
  have e0 : s₁.heap = h0 := by rw [← hh, Bd.state]; rfl
  have N0 := Fr.nil n0
  obtain ⟨G, hG, K0⟩ : ∃ G : State → Prop, (∀ t, G t → Steps p.tables e below (s₁.setTop (entryFrame m #[(.ref a), (.long u)] 3)) t) ∧ Go p e below s₁ (mkF m 0 #[.val (.ref a), .val (.long u), .second] []) G := ⟨fun t => Steps p.tables e below (s₁.setTop (entryFrame m #[(.ref a), (.long u)] 3)) t, fun _ h => h, fun t k => castTop (ef_prog_3_method_2_RJ m a u) k⟩
  have hk := own_need u z hz.1 hz.2 hu hgt
  have K64 : Go p e below s₁ (mkF m 1 #[.val (.ref a), .val (.long u), .second] [(.long u)]) G := fun tq kq => K0 tq (XS.lloadN X0.here hx rfl (hb hby d_prog_3_method_2_0) rfl kq)
  have K65 : Go p e below s₁ (mkF m 2 #[.val (.ref a), .val (.long u), .second] [(.ref a), (.long u)]) G := fun tq kq => K64 tq (XS.aloadN X0.here hx rfl (hb hby d_prog_3_method_2_1) rfl rfl kq)
  obtain ⟨cl66, Ar66, q66, S66, Nn66, Hh66, Gg66⟩ := id V_a
  have K67 : Go p e below s₁ (mkF m 3 #[.val (.ref a), .val (.long u), .second] [(.int z), (.long u)]) G := fun tq kq => K65 tq (X0.arraylength hx (by rw [e0]; exact Ar66.1) (State.isArrayOf_alike hZ.alike Ar66.2.1) (g := (mkF m 2 #[.val (.ref a), .val (.long u), .second] [(.ref a), (.long u)])) rfl rfl (hb hby d_prog_3_method_2_2) _ (by rw [len_of S66 Nn66]; exact kq))
  have K68 : Go p e below s₁ (mkF m 4 #[.val (.ref a), .val (.long u), .second] [(.long (z.toInt64)), (.long u)]) G := fun tq kq => K67 tq (XS.i2l X0.here hx rfl (hb hby d_prog_3_method_2_3) rfl kq)
  have K69 : Go p e below s₁ (mkF m 5 #[.val (.ref a), .val (.long u), .second] [(.int (lcmpW u (z.toInt64)))]) G := fun tq kq => K68 tq (XS.lcmp X0.here hx rfl (hb hby d_prog_3_method_2_4) rfl kq)
  have K70 : Go p e below s₁ (mkF m 10 #[.val (.ref a), .val (.long u), .second] []) G := fun tq kq => K69 tq (XS.ifYes X0.here hx rfl (pc0 := 5) (pc' := 10) rfl (hb hby d_prog_3_method_2_5) rfl ((if0 _ _).trans (tlt ((lw_gt _ _).mpr hgt)).2.2.1) (by decide) (by decide) kq)
  have K71 : Go p e below s₁ (mkF m 11 #[.val (.ref a), .val (.long u), .second] [(.ref a)]) G := fun tq kq => K70 tq (XS.aloadN X0.here hx rfl (hb hby d_prog_3_method_2_10) rfl rfl kq)
  have K72 : Go p e below s₁ (mkF m 14 #[.val (.ref a), .val (.long u), .second] [(.long (2147483639 : Int64)), (.ref a)]) G := fun tq kq => K71 tq (X0.ldc2Long hx hown (mvT hZ (hW 10 _ rfl)) (g := (mkF m 11 #[.val (.ref a), .val (.long u), .second] [(.ref a)])) rfl (hb hby d_prog_3_method_2_11) _ kq)
  have K73 : Go p e below s₁ (mkF m 15 #[.val (.ref a), .val (.long u), .second] [(.long u), (.long (2147483639 : Int64)), (.ref a)]) G := fun tq kq => K72 tq (XS.lloadN X0.here hx rfl (hb hby d_prog_3_method_2_14) rfl kq)
  have K74 : Go p e below s₁ (mkF m 18 #[.val (.ref a), .val (.long u), .second] [(.long (2 : Int64)), (.long u), (.long (2147483639 : Int64)), (.ref a)]) G := fun tq kq => K73 tq (X0.ldc2Long hx hown (mvT hZ (hW 11 _ rfl)) (g := (mkF m 15 #[.val (.ref a), .val (.long u), .second] [(.long u), (.long (2147483639 : Int64)), (.ref a)])) rfl (hb hby d_prog_3_method_2_15) _ kq)
  have K75 : Go p e below s₁ (mkF m 19 #[.val (.ref a), .val (.long u), .second] [(.ref a), (.long (2 : Int64)), (.long u), (.long (2147483639 : Int64)), (.ref a)]) G := fun tq kq => K74 tq (XS.aloadN X0.here hx rfl (hb hby d_prog_3_method_2_18) rfl rfl kq)
  obtain ⟨cl76, Ar76, q76, S76, Nn76, Hh76, Gg76⟩ := id V_a
  have K77 : Go p e below s₁ (mkF m 20 #[.val (.ref a), .val (.long u), .second] [(.int z), (.long (2 : Int64)), (.long u), (.long (2147483639 : Int64)), (.ref a)]) G := fun tq kq => K75 tq (X0.arraylength hx (by rw [e0]; exact Ar76.1) (State.isArrayOf_alike hZ.alike Ar76.2.1) (g := (mkF m 19 #[.val (.ref a), .val (.long u), .second] [(.ref a), (.long (2 : Int64)), (.long u), (.long (2147483639 : Int64)), (.ref a)])) rfl rfl (hb hby d_prog_3_method_2_19) _ (by rw [len_of S76 Nn76]; exact kq))
  have K78 : Go p e below s₁ (mkF m 21 #[.val (.ref a), .val (.long u), .second] [(.long (z.toInt64)), (.long (2 : Int64)), (.long u), (.long (2147483639 : Int64)), (.ref a)]) G := fun tq kq => K77 tq (XS.i2l X0.here hx rfl (hb hby d_prog_3_method_2_20) rfl kq)
  have K79 : Go p e below s₁ (mkF m 22 #[.val (.ref a), .val (.long u), .second] [(.long ((2 : Int64) * (z.toInt64))), (.long u), (.long (2147483639 : Int64)), (.ref a)]) G := fun tq kq => K78 tq (XS.lmul X0.here hx rfl (hb hby d_prog_3_method_2_21) rfl kq)
  obtain ⟨v80, _, ⟨T80, L80, k80, n80⟩, -, X80, ⟨Lc80, hQ80, l80, y80, z80⟩, st80⟩ := Jvm.LawKit.callS X0 hx (y := (⟨"java/lang/Math", "max", "(JJ)J"⟩ : MethodName)) hown (mvT hZ (hW 12 _ rfl)) (mvT hZ (hW 13 _ rfl)) (mvT hZ (hW 14 _ rfl)) (mvT hZ (hW 15 _ rfl)) (by decide) (backOf (W := 3) (rmMaxJ l Z a0 hw [] u ((2 : Int64) * (z.toInt64)) h0 n0 Z0) hZ (hW 15 _ rfl) (hW 14 _ rfl) (by decide) (by decide)) (g := (mkF m 22 #[.val (.ref a), .val (.long u), .second] [(.long ((2 : Int64) * (z.toInt64))), (.long u), (.long (2147483639 : Int64)), (.ref a)])) rfl (by rw [hml]; rfl) (argsL := [(.long u), (.long ((2 : Int64) * (z.toInt64)))]) (rest := [(.long (2147483639 : Int64)), (.ref a)]) (lenOf pd_81 rfl) rfl (by show 2 * 0 + _ ≤ _; exact Nat.le_of_eq rfl) (hb hby d_prog_3_method_2_22) (fun _ _ => ⟨rfl, e0, (by decide : 0 + 0 ≤ _), (by decide : 0 + 0 ≤ _)⟩)
  dsimp only [Pt.U, Pt.locs, Pt.cells, Pt.slots] at X80 l80 y80 z80 st80 hQ80
  subst l80 y80 z80
  obtain ⟨rfl, N80q, E80q⟩ := hQ80
  have N80 := Fr.app N0 N80q
  have K81 : Go p e below T80 (mkF m 25 #[.val (.ref a), .val (.long u), .second] [(.long (if u < ((2 : Int64) * (z.toInt64)) then ((2 : Int64) * (z.toInt64)) else u)), (.long (2147483639 : Int64)), (.ref a)]) G := fun tq kq => K79 tq (st80 tq kq)
  obtain ⟨v82, _, ⟨T82, L82, k82, n82⟩, -, X82, ⟨Lc82, hQ82, l82, y82, z82⟩, st82⟩ := Jvm.LawKit.callS X80 hx (y := (⟨"java/lang/Math", "min", "(JJ)J"⟩ : MethodName)) hown (mvT hZ (hW 16 _ rfl)) (mvT hZ (hW 17 _ rfl)) (mvT hZ (hW 14 _ rfl)) (mvT hZ (hW 18 _ rfl)) (by decide) (backOf (W := 1) (rmMinJ l Z a0 hw [] (2147483639 : Int64) (if u < ((2 : Int64) * (z.toInt64)) then ((2 : Int64) * (z.toInt64)) else u) h0 n0 Z0) hZ (hW 18 _ rfl) (hW 14 _ rfl) (by decide) (by decide)) (g := (mkF m 25 #[.val (.ref a), .val (.long u), .second] [(.long (if u < ((2 : Int64) * (z.toInt64)) then ((2 : Int64) * (z.toInt64)) else u)), (.long (2147483639 : Int64)), (.ref a)])) rfl (by rw [hml]; rfl) (argsL := [(.long (2147483639 : Int64)), (.long (if u < ((2 : Int64) * (z.toInt64)) then ((2 : Int64) * (z.toInt64)) else u))]) (rest := [(.ref a)]) (lenOf pd_81 rfl) rfl (by show 2 * 0 + _ ≤ _; exact Nat.le_of_eq rfl) (hb hby d_prog_3_method_2_25) (fun _ _ => ⟨rfl, E80q, (by decide : 0 + 0 ≤ _), (by decide : 0 + 0 ≤ _)⟩)
  dsimp only [Pt.U, Pt.locs, Pt.cells, Pt.slots] at X82 l82 y82 z82 st82 hQ82
  subst l82 y82 z82
  rw [QMinJ, hk.1] at hQ82
  obtain ⟨rfl, N82q, E82q⟩ := hQ82
  have N82 := Fr.app N80 N82q
  have K83 : Go p e below T82 (mkF m 28 #[.val (.ref a), .val (.long u), .second] [(.long (if u < ((2 : Int64) * (z.toInt64)) then ((2 : Int64) * (z.toInt64)) else u)), (.ref a)]) G := fun tq kq => K81 tq (st82 tq kq)
  have K84 : Go p e below T82 (mkF m 29 #[.val (.ref a), .val (.long u), .second] [(.int ((if u < ((2 : Int64) * (z.toInt64)) then ((2 : Int64) * (z.toInt64)) else u).toInt32)), (.ref a)]) G := fun tq kq => K83 tq (XS.l2i X82.here hx rfl (hb hby d_prog_3_method_2_28) rfl kq)
  obtain ⟨v85, _, ⟨T85, L85, k85, n85⟩, -, X85, ⟨Lc85, hQ85, l85, y85, z85⟩, st85⟩ := Jvm.LawKit.callS X82 hx (y := (⟨"java/util/Arrays", "copyOf", "([BI)[B"⟩ : MethodName)) hown (mvT hZ (hW 19 _ rfl)) (mvT hZ (hW 20 _ rfl)) (mvT hZ (hW 21 _ rfl)) (mvT hZ (hW 22 _ rfl)) (by decide) (backOf (W := 0) (rmCO l Z a0 hw [] a ((if u < ((2 : Int64) * (z.toInt64)) then ((2 : Int64) * (z.toInt64)) else u).toInt32) k z vs h0 n0 Z0 V_a (by rw [hk.2.1]; omega)) hZ (hW 22 _ rfl) (hW 21 _ rfl) (by decide) (by decide)) (g := (mkF m 29 #[.val (.ref a), .val (.long u), .second] [(.int ((if u < ((2 : Int64) * (z.toInt64)) then ((2 : Int64) * (z.toInt64)) else u).toInt32)), (.ref a)])) rfl (by rw [hml]; rfl) (argsL := [(.ref a), (.int ((if u < ((2 : Int64) * (z.toInt64)) then ((2 : Int64) * (z.toInt64)) else u).toInt32))]) (rest := []) (lenOf pd_82 rfl) rfl (by show 2 * 0 + _ ≤ _; exact Nat.le_of_eq rfl) (hb hby d_prog_3_method_2_29) (fun _ _ => ⟨rfl, E82q, (by decide : 0 + 1 ≤ _), (by decide : 0 + 31 ≤ _)⟩)
  dsimp only [Pt.U, Pt.locs, Pt.cells, Pt.slots] at X85 l85 y85 z85 st85 hQ85
  subst l85 y85 z85
  obtain ⟨r, k', vr, rfl, N85q, K85q, szr, ger, Vr, hvr⟩ := hQ85
  have N85 := Fr.app N82 N85q
  have K86 : Go p e below T85 (mkF m 32 #[.val (.ref a), .val (.long u), .second] [(.ref r)]) G := fun tq kq => K84 tq (st85 tq kq)
  obtain ⟨fs, hr, hrun, hended, hWW, hsame⟩ := X85.leave (v := some (.ref r)) (fun h => by rw [Bd.returns] at h; cases h)
  refine ⟨_, _, hG _ (K86 _ (retOut X85 hx Bd.returns rfl (Or.inr (Or.inr (Or.inr (Or.inr ⟨rfl, rfl, rfl⟩)))) (hb hby d_prog_3_method_2_32) hr)), hrun, hended, _, _, rfl, ?_, ⟨_, rfl⟩, hWW, hsame.mono (by decide) (by decide)⟩
  show QGB Z a u k z vs h0 n0 _ T85.heap _
  exact ⟨r, k', vr, rfl, N85, ((Keep.refl h0 []).trans K85q all0), szr, ger, Vr, hvr⟩
theorem own_len (q : Int32) : 0 ≤ (q &&& (7 : Int32)).toInt ∧ (q &&& (7 : Int32)).toInt ≤ 7 := by
  have h := c_and q (7 : Int32) (by decide)
  rw [own_I7] at h
  exact h
theorem own_and31 (n : Int64) : (n &&& (31 : Int64)).toInt ≤ 31 := by
  have h := c_maskL n (31 : Int64) 5 (by decide) (by decide)
  omega
theorem ef_code_IJJI (m : MethodId) (x0 : Int32) (x1 : Int64) (x2 : Int64) (x3 : Int32) : entryFrame m #[(.int x0), (.long x1), (.long x2), (.int x3)] maxLocals = mkF m 0 #[.val (.int x0), .val (.long x1), .second, .val (.long x2), .second, .val (.int x3), .unset, .unset, .unset, .unset, .unset, .unset, .unset, .unset, .unset, .unset] [] := by first | (simp [entryFrame, mkF, argsToLocals, Value.category, maxLocals]; done) | rfl
theorem pd_97 : parseMethodDescriptor "(JI)B" = some ⟨[.long, .int], some .byte⟩ := by decide +kernel
theorem pd_98 : parseMethodDescriptor "([BJ)[B" = some ⟨[(.array .byte), .long], some (.array .byte)⟩ := by decide +kernel
def Q0 (Z : State) (q0 : Int32) (q1 : Int64) (q2 : Int64) (q3 : Int32) (h0 : Heap) (n0 : Nat) (v : Option Value) (h : Heap) (L : List Loc) : Prop := v = some (.int 1) ∧ Fr n0 L
set_option maxRecDepth 65536 in
set_option maxHeartbeats 40000000 in
theorem rm0 (l : Launch) (Z : State) (a0 : Array Value) (hw : ∀ d ∈ tables_1, d.before a0 Z = true) (ws : List Jvm.Cond) (q0 : Int32) (q1 : Int64) (q2 : Int64) (q3 : Int32) (h0 : Heap) (n0 : Nat) (Z0 : n0 ≤ h0.size) :
    MetFree l x (head1 (Jvm.Cond.code x code maxLocals ret :: ws) room_1) (fun aa UU => aa = #[(.int q0), (.long q1), (.long q2), (.int q3)] ∧ Z.Warmed39 UU.vm ∧ UU.heap = h0) (fun _ _ _ _ _ => True) (fun _ UU oo UU' => ∃ vv LL, oo = .returned vv ∧ Q0 Z q0 q1 q2 q3 h0 n0 vv UU'.heap LL ∧ FrameEnd UU oo UU' LL 16 192) := by
  refine MetFree.of_bodySF (plainFor_of_name pn_26) hisR ?_
  intro p e s m args below meth c s₁ Bd hml0 hP hK
  obtain ⟨rfl, hZ, hh⟩ := hP
  have hx := Bd.exec
  have hby := Bd.bytes
  have hml : c.maxLocals = 16 := hml0
  have hown : s.vm.findClass "com/example/tallyrule/tallyrule/BuffersGrownPinLaw" = some m.cls := findClass_of_methodNamed Bd.named
  have hnm := (name_of_methodNamed Bd.named Bd.method).1
  have hW : ∀ (k : Nat) (d : Jvm.Cond), tables_1[k]? = some d → d.before a0 Z = true := fun k d h => hw d (List.mem_of_getElem? h)
  have X0 : Stand p l e room_1 s m #[(.int q0), (.long q1), (.long q2), (.int q3)] below meth c s₁ [] 0 0 := Stand.of_body Bd
  have e0 : s₁.heap = h0 := by rw [← hh, Bd.state]; rfl
  have N0 := Fr.nil n0
  obtain ⟨G, hG, K0⟩ : ∃ G : State → Prop, (∀ t, G t → Steps p.tables e below (s₁.setTop (entryFrame m #[(.int q0), (.long q1), (.long q2), (.int q3)] maxLocals)) t) ∧ Go p e below s₁ (mkF m 0 #[.val (.int q0), .val (.long q1), .second, .val (.long q2), .second, .val (.int q3), .unset, .unset, .unset, .unset, .unset, .unset, .unset, .unset, .unset, .unset] []) G := ⟨fun t => Steps p.tables e below (s₁.setTop (entryFrame m #[(.int q0), (.long q1), (.long q2), (.int q3)] maxLocals)) t, fun _ h => h, fun t k => castTop (ef_code_IJJI m q0 q1 q2 q3) k⟩
  have K87 : Go p e below s₁ (mkF m 1 #[.val (.int q0), .val (.long q1), .second, .val (.long q2), .second, .val (.int q3), .unset, .unset, .unset, .unset, .unset, .unset, .unset, .unset, .unset, .unset] [(.int q0)]) G := fun tq kq => K0 tq (XS.iloadN X0.here hx rfl (hb hby at_0) rfl kq)
  have K88 : Go p e below s₁ (mkF m 3 #[.val (.int q0), .val (.long q1), .second, .val (.long q2), .second, .val (.int q3), .unset, .unset, .unset, .unset, .unset, .unset, .unset, .unset, .unset, .unset] [(.int (7 : Int32)), (.int q0)]) G := fun tq kq => K87 tq (XS.bipush X0.here hx rfl (hb hby at_1) kq)
  have K89 : Go p e below s₁ (mkF m 4 #[.val (.int q0), .val (.long q1), .second, .val (.long q2), .second, .val (.int q3), .unset, .unset, .unset, .unset, .unset, .unset, .unset, .unset, .unset, .unset] [(.int (q0 &&& (7 : Int32)))]) G := fun tq kq => K88 tq (XS.iand X0.here hx rfl (hb hby at_3) rfl kq)
  have K90 : Go p e below s₁ (mkF m 6 #[.val (.int q0), .val (.long q1), .second, .val (.long q2), .second, .val (.int q3), .val (.int (q0 &&& (7 : Int32))), .unset, .unset, .unset, .unset, .unset, .unset, .unset, .unset, .unset] []) G := fun tq kq => K89 tq (XS.istore X0.here hx rfl (hb hby at_4) rfl (l' := #[.val (.int q0), .val (.long q1), .second, .val (.long q2), .second, .val (.int q3), .val (.int (q0 &&& (7 : Int32))), .unset, .unset, .unset, .unset, .unset, .unset, .unset, .unset, .unset]) rfl kq)
  obtain ⟨ln, h_ln⟩ : ∃ z, z = (q0 &&& (7 : Int32)) := ⟨_, rfl⟩
  have K91 : Go p e below s₁ (mkF m 6 #[.val (.int q0), .val (.long q1), .second, .val (.long q2), .second, .val (.int q3), .val (.int ln), .unset, .unset, .unset, .unset, .unset, .unset, .unset, .unset, .unset] []) G := by rw [h_ln]; exact K90
  have l1 : 0 ≤ ln.toInt ∧ ln.toInt ≤ 7 := by rw [h_ln]; exact own_len q0
  have l0 : ¬ ln < 0 := by
    rw [Int32.lt_iff_toInt_lt, own_I0]
    omega
  have cl0 := own_nat ln l0
  have K92 : Go p e below s₁ (mkF m 8 #[.val (.int q0), .val (.long q1), .second, .val (.long q2), .second, .val (.int q3), .val (.int ln), .unset, .unset, .unset, .unset, .unset, .unset, .unset, .unset, .unset] [(.int ln)]) G := fun tq kq => K91 tq (XS.iload X0.here hx rfl (hb hby at_6) rfl kq)
  obtain ⟨T93, h93, k93, X93, e93, E93, A93, st93⟩ := newP X0 hx hZ (hW 0 _ rfl) e0 (g := (mkF m 8 #[.val (.int q0), .val (.long q1), .second, .val (.long q2), .second, .val (.int q3), .val (.int ln), .unset, .unset, .unset, .unset, .unset, .unset, .unset, .unset, .unset] [(.int ln)])) rfl (hb hby at_8) rfl l0 (cap := 7) (by omega) (by decide) (by decide) (by decide)
  obtain ⟨b93, g93⟩ : ∃ z, z = h0.size := ⟨_, rfl⟩
  rw [← g93] at A93 st93
  have ge_b93 : n0 ≤ b93 := Nat.le_trans Z0 (Nat.le_of_eq g93.symm)
  have sz_b93 : h0.size ≤ b93 := Nat.le_trans ((Keep.refl h0 [])).1 (Nat.le_of_eq g93.symm)
  have V93 : Arv Z h93 b93 k93 .byte ln [(.int (0 : Int32)), (.int (0 : Int32)), (.int (0 : Int32)), (.int (0 : Int32)), (.int (0 : Int32)), (.int (0 : Int32)), (.int (0 : Int32))] (.int (0 : Int32)) := (Arv.new A93 l0).pad (pad_rep [] (.int (0 : Int32)) 7)
  have K94 : Go p e below T93 (mkF m 10 #[.val (.int q0), .val (.long q1), .second, .val (.long q2), .second, .val (.int q3), .val (.int ln), .unset, .unset, .unset, .unset, .unset, .unset, .unset, .unset, .unset] [(.ref b93)]) G := fun tq kq => K92 tq (st93 tq kq)
  have K95 : Go p e below T93 (mkF m 12 #[.val (.int q0), .val (.long q1), .second, .val (.long q2), .second, .val (.int q3), .val (.int ln), .val (.ref b93), .unset, .unset, .unset, .unset, .unset, .unset, .unset, .unset] []) G := fun tq kq => K94 tq (XS.astore X93.here hx rfl (hb hby at_10) rfl rfl (l' := #[.val (.int q0), .val (.long q1), .second, .val (.long q2), .second, .val (.int q3), .val (.int ln), .val (.ref b93), .unset, .unset, .unset, .unset, .unset, .unset, .unset, .unset]) rfl kq)
  obtain ⟨Tj, hj, Lj, vs, Xj, ej, Nj, Zj, Vj, hvs, Kj96⟩ : ∃ (Tj : State) (hj : Heap) (Lj : List Loc) (vs : List Value), Stand p l e room_1 s m #[(.int q0), (.long q1), (.long q2), (.int q3)] below meth c Tj Lj 1 7 ∧ Tj.heap = hj ∧ Fr n0 Lj ∧ n0 ≤ hj.size ∧ Arv Z hj b93 k93 .byte ln vs (.int (0 : Int32)) ∧ (∀ j : Int32, ¬ j < 0 → j < ln → vs.getD j.toNatClampNeg (.int (0 : Int32)) = .int (own_B q1 j)) ∧ Go p e below Tj (mkF m 119 #[.val (.int q0), .val (.long q1), .second, .val (.long q2), .second, .val (.int q3), .val (.int ln), .val (.ref b93), .unset, .unset, .unset, .unset, .unset, .unset, .unset, .unset] []) G := by
    have K97 : Go p e below T93 (mkF m 14 #[.val (.int q0), .val (.long q1), .second, .val (.long q2), .second, .val (.int q3), .val (.int ln), .val (.ref b93), .unset, .unset, .unset, .unset, .unset, .unset, .unset, .unset] [(.int ln)]) G := fun tq kq => K95 tq (XS.iload X93.here hx rfl (hb hby at_12) rfl kq)
    by_cases hc98 : (0 : Int32) < ln
    · skip
      have K99 : Go p e below T93 (mkF m 17 #[.val (.int q0), .val (.long q1), .second, .val (.long q2), .second, .val (.int q3), .val (.int ln), .val (.ref b93), .unset, .unset, .unset, .unset, .unset, .unset, .unset, .unset] []) G := fun tq kq => K97 tq (XS.ifNo X93.here hx rfl (hb hby at_14) rfl ((if0 _ _).trans (tlt hc98).2.2.2) kq)
      have K100 : Go p e below T93 (mkF m 19 #[.val (.int q0), .val (.long q1), .second, .val (.long q2), .second, .val (.int q3), .val (.int ln), .val (.ref b93), .unset, .unset, .unset, .unset, .unset, .unset, .unset, .unset] [(.ref b93)]) G := fun tq kq => K99 tq (XS.aload X93.here hx rfl (hb hby at_17) rfl rfl kq)
      have K101 : Go p e below T93 (mkF m 20 #[.val (.int q0), .val (.long q1), .second, .val (.long q2), .second, .val (.int q3), .val (.int ln), .val (.ref b93), .unset, .unset, .unset, .unset, .unset, .unset, .unset, .unset] [(.int (0 : Int32)), (.ref b93)]) G := fun tq kq => K100 tq (XS.iconst X93.here hx rfl (hb hby at_19) kq)
      have K102 : Go p e below T93 (mkF m 21 #[.val (.int q0), .val (.long q1), .second, .val (.long q2), .second, .val (.int q3), .val (.int ln), .val (.ref b93), .unset, .unset, .unset, .unset, .unset, .unset, .unset, .unset] [(.long q1), (.int (0 : Int32)), (.ref b93)]) G := fun tq kq => K101 tq (XS.lloadN X93.here hx rfl (hb hby at_20) rfl kq)
      have K103 : Go p e below T93 (mkF m 22 #[.val (.int q0), .val (.long q1), .second, .val (.long q2), .second, .val (.int q3), .val (.int ln), .val (.ref b93), .unset, .unset, .unset, .unset, .unset, .unset, .unset, .unset] [(.int (0 : Int32)), (.long q1), (.int (0 : Int32)), (.ref b93)]) G := fun tq kq => K102 tq (XS.iconst X93.here hx rfl (hb hby at_21) kq)
      obtain ⟨v104, _, ⟨T104, L104, k104, n104⟩, -, X104, ⟨Lc104, hQ104, l104, y104, z104⟩, st104⟩ := Jvm.LawKit.callS X93 hx (y := (⟨"com/example/tallyrule/tallyrule/BuffersGrownPinLaw", "byteAt", "(JI)B"⟩ : MethodName)) hown (mvT hZ (hW 5 _ rfl)) (mvT hZ (hW 6 _ rfl)) (mvT hZ (hW 7 _ rfl)) (mvT hZ (hW 8 _ rfl)) (by decide) (backOf (W := 2) (rmBA l Z a0 hw [] q1 (0 : Int32) h93 n0 (Nat.le_trans Z0 E93.1)) hZ (hW 8 _ rfl) (hW 7 _ rfl) (by decide) (by decide)) (g := (mkF m 22 #[.val (.int q0), .val (.long q1), .second, .val (.long q2), .second, .val (.int q3), .val (.int ln), .val (.ref b93), .unset, .unset, .unset, .unset, .unset, .unset, .unset, .unset] [(.int (0 : Int32)), (.long q1), (.int (0 : Int32)), (.ref b93)])) rfl (by rw [hml]; rfl) (argsL := [(.long q1), (.int (0 : Int32))]) (rest := [(.int (0 : Int32)), (.ref b93)]) (lenOf pd_97 rfl) rfl (by show 2 * 0 + _ ≤ _; exact Nat.le_of_eq rfl) (hb hby at_22) (fun _ _ => ⟨rfl, e93, (by decide : 1 + 0 ≤ _), (by decide : 7 + 0 ≤ _)⟩)
      dsimp only [Pt.U, Pt.locs, Pt.cells, Pt.slots] at X104 l104 y104 z104 st104 hQ104
      subst l104 y104 z104
      obtain ⟨rfl, N104q, E104q⟩ := hQ104
      have N104 := Fr.app N0 N104q
      have K105 : Go p e below T104 (mkF m 25 #[.val (.int q0), .val (.long q1), .second, .val (.long q2), .second, .val (.int q3), .val (.int ln), .val (.ref b93), .unset, .unset, .unset, .unset, .unset, .unset, .unset, .unset] [(.int (own_B q1 (0 : Int32))), (.int (0 : Int32)), (.ref b93)]) G := fun tq kq => K103 tq (st104 tq kq)
      obtain ⟨cl106, Ar106, q106, S106, Nn106, Hh106, Gg106⟩ := id V93
      have hin106 : ¬ ((0 : Int32) < 0 ∨ cl106.slots.size ≤ ((0 : Int32)).toNatClampNeg) := inb_of S106 ⟨by decide, hc98⟩
      obtain ⟨T106, h106, X106, e106, W106, st106⟩ := stB X104 hx hZ E104q Ar106 (j := (0 : Int32)) hin106 (g := (mkF m 25 #[.val (.int q0), .val (.long q1), .second, .val (.long q2), .second, .val (.int q3), .val (.int ln), .val (.ref b93), .unset, .unset, .unset, .unset, .unset, .unset, .unset, .unset] [(.int (own_B q1 (0 : Int32))), (.int (0 : Int32)), (.ref b93)])) rfl rfl (hb hby at_25)
      rw [own_nB] at W106
      have V106 : Arv Z h106 b93 k93 .byte ln [(.int (own_B q1 (0 : Int32))), (.int (0 : Int32)), (.int (0 : Int32)), (.int (0 : Int32)), (.int (0 : Int32)), (.int (0 : Int32)), (.int (0 : Int32))] (.int (0 : Int32)) := Arv.set Ar106 q106 S106 Nn106 Hh106 Gg106 (fits_nar_byte _) W106 0 rfl (Nat.le_of_ble_eq_true rfl)
      have N106 := Fr.snoc X106 N104 ge_b93
      have K107 : Go p e below T106 (mkF m 26 #[.val (.int q0), .val (.long q1), .second, .val (.long q2), .second, .val (.int q3), .val (.int ln), .val (.ref b93), .unset, .unset, .unset, .unset, .unset, .unset, .unset, .unset] []) G := fun tq kq => K105 tq (st106 tq kq)
      have K108 : Go p e below T106 (mkF m 28 #[.val (.int q0), .val (.long q1), .second, .val (.long q2), .second, .val (.int q3), .val (.int ln), .val (.ref b93), .unset, .unset, .unset, .unset, .unset, .unset, .unset, .unset] [(.int ln)]) G := fun tq kq => K107 tq (XS.iload X106.here hx rfl (hb hby at_26) rfl kq)
      have K109 : Go p e below T106 (mkF m 29 #[.val (.int q0), .val (.long q1), .second, .val (.long q2), .second, .val (.int q3), .val (.int ln), .val (.ref b93), .unset, .unset, .unset, .unset, .unset, .unset, .unset, .unset] [(.int (1 : Int32)), (.int ln)]) G := fun tq kq => K108 tq (XS.iconst X106.here hx rfl (hb hby at_28) kq)
      by_cases hc110 : (1 : Int32) < ln
      · skip
        have K111 : Go p e below T106 (mkF m 32 #[.val (.int q0), .val (.long q1), .second, .val (.long q2), .second, .val (.int q3), .val (.int ln), .val (.ref b93), .unset, .unset, .unset, .unset, .unset, .unset, .unset, .unset] []) G := fun tq kq => K109 tq (XS.icmpNo X106.here hx rfl (hb hby at_29) rfl ((tlt hc110).2.2.2) kq)
        have K112 : Go p e below T106 (mkF m 34 #[.val (.int q0), .val (.long q1), .second, .val (.long q2), .second, .val (.int q3), .val (.int ln), .val (.ref b93), .unset, .unset, .unset, .unset, .unset, .unset, .unset, .unset] [(.ref b93)]) G := fun tq kq => K111 tq (XS.aload X106.here hx rfl (hb hby at_32) rfl rfl kq)
        have K113 : Go p e below T106 (mkF m 35 #[.val (.int q0), .val (.long q1), .second, .val (.long q2), .second, .val (.int q3), .val (.int ln), .val (.ref b93), .unset, .unset, .unset, .unset, .unset, .unset, .unset, .unset] [(.int (1 : Int32)), (.ref b93)]) G := fun tq kq => K112 tq (XS.iconst X106.here hx rfl (hb hby at_34) kq)
        have K114 : Go p e below T106 (mkF m 36 #[.val (.int q0), .val (.long q1), .second, .val (.long q2), .second, .val (.int q3), .val (.int ln), .val (.ref b93), .unset, .unset, .unset, .unset, .unset, .unset, .unset, .unset] [(.long q1), (.int (1 : Int32)), (.ref b93)]) G := fun tq kq => K113 tq (XS.lloadN X106.here hx rfl (hb hby at_35) rfl kq)
        have K115 : Go p e below T106 (mkF m 37 #[.val (.int q0), .val (.long q1), .second, .val (.long q2), .second, .val (.int q3), .val (.int ln), .val (.ref b93), .unset, .unset, .unset, .unset, .unset, .unset, .unset, .unset] [(.int (1 : Int32)), (.long q1), (.int (1 : Int32)), (.ref b93)]) G := fun tq kq => K114 tq (XS.iconst X106.here hx rfl (hb hby at_36) kq)
        obtain ⟨v116, _, ⟨T116, L116, k116, n116⟩, -, X116, ⟨Lc116, hQ116, l116, y116, z116⟩, st116⟩ := Jvm.LawKit.callS X106 hx (y := (⟨"com/example/tallyrule/tallyrule/BuffersGrownPinLaw", "byteAt", "(JI)B"⟩ : MethodName)) hown (mvT hZ (hW 5 _ rfl)) (mvT hZ (hW 6 _ rfl)) (mvT hZ (hW 7 _ rfl)) (mvT hZ (hW 8 _ rfl)) (by decide) (backOf (W := 2) (rmBA l Z a0 hw [] q1 (1 : Int32) h106 n0 (Nat.le_trans (Nat.le_trans Z0 E93.1) (Keep.of_wr W106).1)) hZ (hW 8 _ rfl) (hW 7 _ rfl) (by decide) (by decide)) (g := (mkF m 37 #[.val (.int q0), .val (.long q1), .second, .val (.long q2), .second, .val (.int q3), .val (.int ln), .val (.ref b93), .unset, .unset, .unset, .unset, .unset, .unset, .unset, .unset] [(.int (1 : Int32)), (.long q1), (.int (1 : Int32)), (.ref b93)])) rfl (by rw [hml]; rfl) (argsL := [(.long q1), (.int (1 : Int32))]) (rest := [(.int (1 : Int32)), (.ref b93)]) (lenOf pd_97 rfl) rfl (by show 2 * 0 + _ ≤ _; exact Nat.le_of_eq rfl) (hb hby at_37) (fun _ _ => ⟨rfl, e106, (by decide : 1 + 0 ≤ _), (by decide : 7 + 0 ≤ _)⟩)
        dsimp only [Pt.U, Pt.locs, Pt.cells, Pt.slots] at X116 l116 y116 z116 st116 hQ116
        subst l116 y116 z116
        obtain ⟨rfl, N116q, E116q⟩ := hQ116
        have N116 := Fr.app N106 N116q
        have K117 : Go p e below T116 (mkF m 40 #[.val (.int q0), .val (.long q1), .second, .val (.long q2), .second, .val (.int q3), .val (.int ln), .val (.ref b93), .unset, .unset, .unset, .unset, .unset, .unset, .unset, .unset] [(.int (own_B q1 (1 : Int32))), (.int (1 : Int32)), (.ref b93)]) G := fun tq kq => K115 tq (st116 tq kq)
        obtain ⟨cl118, Ar118, q118, S118, Nn118, Hh118, Gg118⟩ := id V106
        have hin118 : ¬ ((1 : Int32) < 0 ∨ cl118.slots.size ≤ ((1 : Int32)).toNatClampNeg) := inb_of S118 ⟨by decide, hc110⟩
        obtain ⟨T118, h118, X118, e118, W118, st118⟩ := stB X116 hx hZ E116q Ar118 (j := (1 : Int32)) hin118 (g := (mkF m 40 #[.val (.int q0), .val (.long q1), .second, .val (.long q2), .second, .val (.int q3), .val (.int ln), .val (.ref b93), .unset, .unset, .unset, .unset, .unset, .unset, .unset, .unset] [(.int (own_B q1 (1 : Int32))), (.int (1 : Int32)), (.ref b93)])) rfl rfl (hb hby at_40)
        rw [own_nB] at W118
        have V118 : Arv Z h118 b93 k93 .byte ln [(.int (own_B q1 (0 : Int32))), (.int (own_B q1 (1 : Int32))), (.int (0 : Int32)), (.int (0 : Int32)), (.int (0 : Int32)), (.int (0 : Int32)), (.int (0 : Int32))] (.int (0 : Int32)) := Arv.set Ar118 q118 S118 Nn118 Hh118 Gg118 (fits_nar_byte _) W118 1 rfl (Nat.le_of_ble_eq_true rfl)
        have N118 := Fr.snoc X118 N116 ge_b93
        have K119 : Go p e below T118 (mkF m 41 #[.val (.int q0), .val (.long q1), .second, .val (.long q2), .second, .val (.int q3), .val (.int ln), .val (.ref b93), .unset, .unset, .unset, .unset, .unset, .unset, .unset, .unset] []) G := fun tq kq => K117 tq (st118 tq kq)
        have K120 : Go p e below T118 (mkF m 43 #[.val (.int q0), .val (.long q1), .second, .val (.long q2), .second, .val (.int q3), .val (.int ln), .val (.ref b93), .unset, .unset, .unset, .unset, .unset, .unset, .unset, .unset] [(.int ln)]) G := fun tq kq => K119 tq (XS.iload X118.here hx rfl (hb hby at_41) rfl kq)
        have K121 : Go p e below T118 (mkF m 44 #[.val (.int q0), .val (.long q1), .second, .val (.long q2), .second, .val (.int q3), .val (.int ln), .val (.ref b93), .unset, .unset, .unset, .unset, .unset, .unset, .unset, .unset] [(.int (2 : Int32)), (.int ln)]) G := fun tq kq => K120 tq (XS.iconst X118.here hx rfl (hb hby at_43) kq)
        by_cases hc122 : (2 : Int32) < ln
        · skip
          have K123 : Go p e below T118 (mkF m 47 #[.val (.int q0), .val (.long q1), .second, .val (.long q2), .second, .val (.int q3), .val (.int ln), .val (.ref b93), .unset, .unset, .unset, .unset, .unset, .unset, .unset, .unset] []) G := fun tq kq => K121 tq (XS.icmpNo X118.here hx rfl (hb hby at_44) rfl ((tlt hc122).2.2.2) kq)
          have K124 : Go p e below T118 (mkF m 49 #[.val (.int q0), .val (.long q1), .second, .val (.long q2), .second, .val (.int q3), .val (.int ln), .val (.ref b93), .unset, .unset, .unset, .unset, .unset, .unset, .unset, .unset] [(.ref b93)]) G := fun tq kq => K123 tq (XS.aload X118.here hx rfl (hb hby at_47) rfl rfl kq)
          have K125 : Go p e below T118 (mkF m 50 #[.val (.int q0), .val (.long q1), .second, .val (.long q2), .second, .val (.int q3), .val (.int ln), .val (.ref b93), .unset, .unset, .unset, .unset, .unset, .unset, .unset, .unset] [(.int (2 : Int32)), (.ref b93)]) G := fun tq kq => K124 tq (XS.iconst X118.here hx rfl (hb hby at_49) kq)
          have K126 : Go p e below T118 (mkF m 51 #[.val (.int q0), .val (.long q1), .second, .val (.long q2), .second, .val (.int q3), .val (.int ln), .val (.ref b93), .unset, .unset, .unset, .unset, .unset, .unset, .unset, .unset] [(.long q1), (.int (2 : Int32)), (.ref b93)]) G := fun tq kq => K125 tq (XS.lloadN X118.here hx rfl (hb hby at_50) rfl kq)
          have K127 : Go p e below T118 (mkF m 52 #[.val (.int q0), .val (.long q1), .second, .val (.long q2), .second, .val (.int q3), .val (.int ln), .val (.ref b93), .unset, .unset, .unset, .unset, .unset, .unset, .unset, .unset] [(.int (2 : Int32)), (.long q1), (.int (2 : Int32)), (.ref b93)]) G := fun tq kq => K126 tq (XS.iconst X118.here hx rfl (hb hby at_51) kq)
          obtain ⟨v128, _, ⟨T128, L128, k128, n128⟩, -, X128, ⟨Lc128, hQ128, l128, y128, z128⟩, st128⟩ := Jvm.LawKit.callS X118 hx (y := (⟨"com/example/tallyrule/tallyrule/BuffersGrownPinLaw", "byteAt", "(JI)B"⟩ : MethodName)) hown (mvT hZ (hW 5 _ rfl)) (mvT hZ (hW 6 _ rfl)) (mvT hZ (hW 7 _ rfl)) (mvT hZ (hW 8 _ rfl)) (by decide) (backOf (W := 2) (rmBA l Z a0 hw [] q1 (2 : Int32) h118 n0 (Nat.le_trans (Nat.le_trans (Nat.le_trans Z0 E93.1) (Keep.of_wr W106).1) (Keep.of_wr W118).1)) hZ (hW 8 _ rfl) (hW 7 _ rfl) (by decide) (by decide)) (g := (mkF m 52 #[.val (.int q0), .val (.long q1), .second, .val (.long q2), .second, .val (.int q3), .val (.int ln), .val (.ref b93), .unset, .unset, .unset, .unset, .unset, .unset, .unset, .unset] [(.int (2 : Int32)), (.long q1), (.int (2 : Int32)), (.ref b93)])) rfl (by rw [hml]; rfl) (argsL := [(.long q1), (.int (2 : Int32))]) (rest := [(.int (2 : Int32)), (.ref b93)]) (lenOf pd_97 rfl) rfl (by show 2 * 0 + _ ≤ _; exact Nat.le_of_eq rfl) (hb hby at_52) (fun _ _ => ⟨rfl, e118, (by decide : 1 + 0 ≤ _), (by decide : 7 + 0 ≤ _)⟩)
          dsimp only [Pt.U, Pt.locs, Pt.cells, Pt.slots] at X128 l128 y128 z128 st128 hQ128
          subst l128 y128 z128
          obtain ⟨rfl, N128q, E128q⟩ := hQ128
          have N128 := Fr.app N118 N128q
          have K129 : Go p e below T128 (mkF m 55 #[.val (.int q0), .val (.long q1), .second, .val (.long q2), .second, .val (.int q3), .val (.int ln), .val (.ref b93), .unset, .unset, .unset, .unset, .unset, .unset, .unset, .unset] [(.int (own_B q1 (2 : Int32))), (.int (2 : Int32)), (.ref b93)]) G := fun tq kq => K127 tq (st128 tq kq)
          obtain ⟨cl130, Ar130, q130, S130, Nn130, Hh130, Gg130⟩ := id V118
          have hin130 : ¬ ((2 : Int32) < 0 ∨ cl130.slots.size ≤ ((2 : Int32)).toNatClampNeg) := inb_of S130 ⟨by decide, hc122⟩
          obtain ⟨T130, h130, X130, e130, W130, st130⟩ := stB X128 hx hZ E128q Ar130 (j := (2 : Int32)) hin130 (g := (mkF m 55 #[.val (.int q0), .val (.long q1), .second, .val (.long q2), .second, .val (.int q3), .val (.int ln), .val (.ref b93), .unset, .unset, .unset, .unset, .unset, .unset, .unset, .unset] [(.int (own_B q1 (2 : Int32))), (.int (2 : Int32)), (.ref b93)])) rfl rfl (hb hby at_55)
          rw [own_nB] at W130
          have V130 : Arv Z h130 b93 k93 .byte ln [(.int (own_B q1 (0 : Int32))), (.int (own_B q1 (1 : Int32))), (.int (own_B q1 (2 : Int32))), (.int (0 : Int32)), (.int (0 : Int32)), (.int (0 : Int32)), (.int (0 : Int32))] (.int (0 : Int32)) := Arv.set Ar130 q130 S130 Nn130 Hh130 Gg130 (fits_nar_byte _) W130 2 rfl (Nat.le_of_ble_eq_true rfl)
          have N130 := Fr.snoc X130 N128 ge_b93
          have K131 : Go p e below T130 (mkF m 56 #[.val (.int q0), .val (.long q1), .second, .val (.long q2), .second, .val (.int q3), .val (.int ln), .val (.ref b93), .unset, .unset, .unset, .unset, .unset, .unset, .unset, .unset] []) G := fun tq kq => K129 tq (st130 tq kq)
          have K132 : Go p e below T130 (mkF m 58 #[.val (.int q0), .val (.long q1), .second, .val (.long q2), .second, .val (.int q3), .val (.int ln), .val (.ref b93), .unset, .unset, .unset, .unset, .unset, .unset, .unset, .unset] [(.int ln)]) G := fun tq kq => K131 tq (XS.iload X130.here hx rfl (hb hby at_56) rfl kq)
          have K133 : Go p e below T130 (mkF m 59 #[.val (.int q0), .val (.long q1), .second, .val (.long q2), .second, .val (.int q3), .val (.int ln), .val (.ref b93), .unset, .unset, .unset, .unset, .unset, .unset, .unset, .unset] [(.int (3 : Int32)), (.int ln)]) G := fun tq kq => K132 tq (XS.iconst X130.here hx rfl (hb hby at_58) kq)
          by_cases hc134 : (3 : Int32) < ln
          · skip
            have K135 : Go p e below T130 (mkF m 62 #[.val (.int q0), .val (.long q1), .second, .val (.long q2), .second, .val (.int q3), .val (.int ln), .val (.ref b93), .unset, .unset, .unset, .unset, .unset, .unset, .unset, .unset] []) G := fun tq kq => K133 tq (XS.icmpNo X130.here hx rfl (hb hby at_59) rfl ((tlt hc134).2.2.2) kq)
            have K136 : Go p e below T130 (mkF m 64 #[.val (.int q0), .val (.long q1), .second, .val (.long q2), .second, .val (.int q3), .val (.int ln), .val (.ref b93), .unset, .unset, .unset, .unset, .unset, .unset, .unset, .unset] [(.ref b93)]) G := fun tq kq => K135 tq (XS.aload X130.here hx rfl (hb hby at_62) rfl rfl kq)
            have K137 : Go p e below T130 (mkF m 65 #[.val (.int q0), .val (.long q1), .second, .val (.long q2), .second, .val (.int q3), .val (.int ln), .val (.ref b93), .unset, .unset, .unset, .unset, .unset, .unset, .unset, .unset] [(.int (3 : Int32)), (.ref b93)]) G := fun tq kq => K136 tq (XS.iconst X130.here hx rfl (hb hby at_64) kq)
            have K138 : Go p e below T130 (mkF m 66 #[.val (.int q0), .val (.long q1), .second, .val (.long q2), .second, .val (.int q3), .val (.int ln), .val (.ref b93), .unset, .unset, .unset, .unset, .unset, .unset, .unset, .unset] [(.long q1), (.int (3 : Int32)), (.ref b93)]) G := fun tq kq => K137 tq (XS.lloadN X130.here hx rfl (hb hby at_65) rfl kq)
            have K139 : Go p e below T130 (mkF m 67 #[.val (.int q0), .val (.long q1), .second, .val (.long q2), .second, .val (.int q3), .val (.int ln), .val (.ref b93), .unset, .unset, .unset, .unset, .unset, .unset, .unset, .unset] [(.int (3 : Int32)), (.long q1), (.int (3 : Int32)), (.ref b93)]) G := fun tq kq => K138 tq (XS.iconst X130.here hx rfl (hb hby at_66) kq)
            obtain ⟨v140, _, ⟨T140, L140, k140, n140⟩, -, X140, ⟨Lc140, hQ140, l140, y140, z140⟩, st140⟩ := Jvm.LawKit.callS X130 hx (y := (⟨"com/example/tallyrule/tallyrule/BuffersGrownPinLaw", "byteAt", "(JI)B"⟩ : MethodName)) hown (mvT hZ (hW 5 _ rfl)) (mvT hZ (hW 6 _ rfl)) (mvT hZ (hW 7 _ rfl)) (mvT hZ (hW 8 _ rfl)) (by decide) (backOf (W := 2) (rmBA l Z a0 hw [] q1 (3 : Int32) h130 n0 (Nat.le_trans (Nat.le_trans (Nat.le_trans (Nat.le_trans Z0 E93.1) (Keep.of_wr W106).1) (Keep.of_wr W118).1) (Keep.of_wr W130).1)) hZ (hW 8 _ rfl) (hW 7 _ rfl) (by decide) (by decide)) (g := (mkF m 67 #[.val (.int q0), .val (.long q1), .second, .val (.long q2), .second, .val (.int q3), .val (.int ln), .val (.ref b93), .unset, .unset, .unset, .unset, .unset, .unset, .unset, .unset] [(.int (3 : Int32)), (.long q1), (.int (3 : Int32)), (.ref b93)])) rfl (by rw [hml]; rfl) (argsL := [(.long q1), (.int (3 : Int32))]) (rest := [(.int (3 : Int32)), (.ref b93)]) (lenOf pd_97 rfl) rfl (by show 2 * 0 + _ ≤ _; exact Nat.le_of_eq rfl) (hb hby at_67) (fun _ _ => ⟨rfl, e130, (by decide : 1 + 0 ≤ _), (by decide : 7 + 0 ≤ _)⟩)
            dsimp only [Pt.U, Pt.locs, Pt.cells, Pt.slots] at X140 l140 y140 z140 st140 hQ140
            subst l140 y140 z140
            obtain ⟨rfl, N140q, E140q⟩ := hQ140
            have N140 := Fr.app N130 N140q
            have K141 : Go p e below T140 (mkF m 70 #[.val (.int q0), .val (.long q1), .second, .val (.long q2), .second, .val (.int q3), .val (.int ln), .val (.ref b93), .unset, .unset, .unset, .unset, .unset, .unset, .unset, .unset] [(.int (own_B q1 (3 : Int32))), (.int (3 : Int32)), (.ref b93)]) G := fun tq kq => K139 tq (st140 tq kq)
            obtain ⟨cl142, Ar142, q142, S142, Nn142, Hh142, Gg142⟩ := id V130
            have hin142 : ¬ ((3 : Int32) < 0 ∨ cl142.slots.size ≤ ((3 : Int32)).toNatClampNeg) := inb_of S142 ⟨by decide, hc134⟩
            obtain ⟨T142, h142, X142, e142, W142, st142⟩ := stB X140 hx hZ E140q Ar142 (j := (3 : Int32)) hin142 (g := (mkF m 70 #[.val (.int q0), .val (.long q1), .second, .val (.long q2), .second, .val (.int q3), .val (.int ln), .val (.ref b93), .unset, .unset, .unset, .unset, .unset, .unset, .unset, .unset] [(.int (own_B q1 (3 : Int32))), (.int (3 : Int32)), (.ref b93)])) rfl rfl (hb hby at_70)
            rw [own_nB] at W142
            have V142 : Arv Z h142 b93 k93 .byte ln [(.int (own_B q1 (0 : Int32))), (.int (own_B q1 (1 : Int32))), (.int (own_B q1 (2 : Int32))), (.int (own_B q1 (3 : Int32))), (.int (0 : Int32)), (.int (0 : Int32)), (.int (0 : Int32))] (.int (0 : Int32)) := Arv.set Ar142 q142 S142 Nn142 Hh142 Gg142 (fits_nar_byte _) W142 3 rfl (Nat.le_of_ble_eq_true rfl)
            have N142 := Fr.snoc X142 N140 ge_b93
            have K143 : Go p e below T142 (mkF m 71 #[.val (.int q0), .val (.long q1), .second, .val (.long q2), .second, .val (.int q3), .val (.int ln), .val (.ref b93), .unset, .unset, .unset, .unset, .unset, .unset, .unset, .unset] []) G := fun tq kq => K141 tq (st142 tq kq)
            have K144 : Go p e below T142 (mkF m 73 #[.val (.int q0), .val (.long q1), .second, .val (.long q2), .second, .val (.int q3), .val (.int ln), .val (.ref b93), .unset, .unset, .unset, .unset, .unset, .unset, .unset, .unset] [(.int ln)]) G := fun tq kq => K143 tq (XS.iload X142.here hx rfl (hb hby at_71) rfl kq)
            have K145 : Go p e below T142 (mkF m 74 #[.val (.int q0), .val (.long q1), .second, .val (.long q2), .second, .val (.int q3), .val (.int ln), .val (.ref b93), .unset, .unset, .unset, .unset, .unset, .unset, .unset, .unset] [(.int (4 : Int32)), (.int ln)]) G := fun tq kq => K144 tq (XS.iconst X142.here hx rfl (hb hby at_73) kq)
            by_cases hc146 : (4 : Int32) < ln
            · skip
              have K147 : Go p e below T142 (mkF m 77 #[.val (.int q0), .val (.long q1), .second, .val (.long q2), .second, .val (.int q3), .val (.int ln), .val (.ref b93), .unset, .unset, .unset, .unset, .unset, .unset, .unset, .unset] []) G := fun tq kq => K145 tq (XS.icmpNo X142.here hx rfl (hb hby at_74) rfl ((tlt hc146).2.2.2) kq)
              have K148 : Go p e below T142 (mkF m 79 #[.val (.int q0), .val (.long q1), .second, .val (.long q2), .second, .val (.int q3), .val (.int ln), .val (.ref b93), .unset, .unset, .unset, .unset, .unset, .unset, .unset, .unset] [(.ref b93)]) G := fun tq kq => K147 tq (XS.aload X142.here hx rfl (hb hby at_77) rfl rfl kq)
              have K149 : Go p e below T142 (mkF m 80 #[.val (.int q0), .val (.long q1), .second, .val (.long q2), .second, .val (.int q3), .val (.int ln), .val (.ref b93), .unset, .unset, .unset, .unset, .unset, .unset, .unset, .unset] [(.int (4 : Int32)), (.ref b93)]) G := fun tq kq => K148 tq (XS.iconst X142.here hx rfl (hb hby at_79) kq)
              have K150 : Go p e below T142 (mkF m 81 #[.val (.int q0), .val (.long q1), .second, .val (.long q2), .second, .val (.int q3), .val (.int ln), .val (.ref b93), .unset, .unset, .unset, .unset, .unset, .unset, .unset, .unset] [(.long q1), (.int (4 : Int32)), (.ref b93)]) G := fun tq kq => K149 tq (XS.lloadN X142.here hx rfl (hb hby at_80) rfl kq)
              have K151 : Go p e below T142 (mkF m 82 #[.val (.int q0), .val (.long q1), .second, .val (.long q2), .second, .val (.int q3), .val (.int ln), .val (.ref b93), .unset, .unset, .unset, .unset, .unset, .unset, .unset, .unset] [(.int (4 : Int32)), (.long q1), (.int (4 : Int32)), (.ref b93)]) G := fun tq kq => K150 tq (XS.iconst X142.here hx rfl (hb hby at_81) kq)
              obtain ⟨v152, _, ⟨T152, L152, k152, n152⟩, -, X152, ⟨Lc152, hQ152, l152, y152, z152⟩, st152⟩ := Jvm.LawKit.callS X142 hx (y := (⟨"com/example/tallyrule/tallyrule/BuffersGrownPinLaw", "byteAt", "(JI)B"⟩ : MethodName)) hown (mvT hZ (hW 5 _ rfl)) (mvT hZ (hW 6 _ rfl)) (mvT hZ (hW 7 _ rfl)) (mvT hZ (hW 8 _ rfl)) (by decide) (backOf (W := 2) (rmBA l Z a0 hw [] q1 (4 : Int32) h142 n0 (Nat.le_trans (Nat.le_trans (Nat.le_trans (Nat.le_trans (Nat.le_trans Z0 E93.1) (Keep.of_wr W106).1) (Keep.of_wr W118).1) (Keep.of_wr W130).1) (Keep.of_wr W142).1)) hZ (hW 8 _ rfl) (hW 7 _ rfl) (by decide) (by decide)) (g := (mkF m 82 #[.val (.int q0), .val (.long q1), .second, .val (.long q2), .second, .val (.int q3), .val (.int ln), .val (.ref b93), .unset, .unset, .unset, .unset, .unset, .unset, .unset, .unset] [(.int (4 : Int32)), (.long q1), (.int (4 : Int32)), (.ref b93)])) rfl (by rw [hml]; rfl) (argsL := [(.long q1), (.int (4 : Int32))]) (rest := [(.int (4 : Int32)), (.ref b93)]) (lenOf pd_97 rfl) rfl (by show 2 * 0 + _ ≤ _; exact Nat.le_of_eq rfl) (hb hby at_82) (fun _ _ => ⟨rfl, e142, (by decide : 1 + 0 ≤ _), (by decide : 7 + 0 ≤ _)⟩)
              dsimp only [Pt.U, Pt.locs, Pt.cells, Pt.slots] at X152 l152 y152 z152 st152 hQ152
              subst l152 y152 z152
              obtain ⟨rfl, N152q, E152q⟩ := hQ152
              have N152 := Fr.app N142 N152q
              have K153 : Go p e below T152 (mkF m 85 #[.val (.int q0), .val (.long q1), .second, .val (.long q2), .second, .val (.int q3), .val (.int ln), .val (.ref b93), .unset, .unset, .unset, .unset, .unset, .unset, .unset, .unset] [(.int (own_B q1 (4 : Int32))), (.int (4 : Int32)), (.ref b93)]) G := fun tq kq => K151 tq (st152 tq kq)
              obtain ⟨cl154, Ar154, q154, S154, Nn154, Hh154, Gg154⟩ := id V142
              have hin154 : ¬ ((4 : Int32) < 0 ∨ cl154.slots.size ≤ ((4 : Int32)).toNatClampNeg) := inb_of S154 ⟨by decide, hc146⟩
              obtain ⟨T154, h154, X154, e154, W154, st154⟩ := stB X152 hx hZ E152q Ar154 (j := (4 : Int32)) hin154 (g := (mkF m 85 #[.val (.int q0), .val (.long q1), .second, .val (.long q2), .second, .val (.int q3), .val (.int ln), .val (.ref b93), .unset, .unset, .unset, .unset, .unset, .unset, .unset, .unset] [(.int (own_B q1 (4 : Int32))), (.int (4 : Int32)), (.ref b93)])) rfl rfl (hb hby at_85)
              rw [own_nB] at W154
              have V154 : Arv Z h154 b93 k93 .byte ln [(.int (own_B q1 (0 : Int32))), (.int (own_B q1 (1 : Int32))), (.int (own_B q1 (2 : Int32))), (.int (own_B q1 (3 : Int32))), (.int (own_B q1 (4 : Int32))), (.int (0 : Int32)), (.int (0 : Int32))] (.int (0 : Int32)) := Arv.set Ar154 q154 S154 Nn154 Hh154 Gg154 (fits_nar_byte _) W154 4 rfl (Nat.le_of_ble_eq_true rfl)
              have N154 := Fr.snoc X154 N152 ge_b93
              have K155 : Go p e below T154 (mkF m 86 #[.val (.int q0), .val (.long q1), .second, .val (.long q2), .second, .val (.int q3), .val (.int ln), .val (.ref b93), .unset, .unset, .unset, .unset, .unset, .unset, .unset, .unset] []) G := fun tq kq => K153 tq (st154 tq kq)
              have K156 : Go p e below T154 (mkF m 88 #[.val (.int q0), .val (.long q1), .second, .val (.long q2), .second, .val (.int q3), .val (.int ln), .val (.ref b93), .unset, .unset, .unset, .unset, .unset, .unset, .unset, .unset] [(.int ln)]) G := fun tq kq => K155 tq (XS.iload X154.here hx rfl (hb hby at_86) rfl kq)
              have K157 : Go p e below T154 (mkF m 89 #[.val (.int q0), .val (.long q1), .second, .val (.long q2), .second, .val (.int q3), .val (.int ln), .val (.ref b93), .unset, .unset, .unset, .unset, .unset, .unset, .unset, .unset] [(.int (5 : Int32)), (.int ln)]) G := fun tq kq => K156 tq (XS.iconst X154.here hx rfl (hb hby at_88) kq)
              by_cases hc158 : (5 : Int32) < ln
              · skip
                have K159 : Go p e below T154 (mkF m 92 #[.val (.int q0), .val (.long q1), .second, .val (.long q2), .second, .val (.int q3), .val (.int ln), .val (.ref b93), .unset, .unset, .unset, .unset, .unset, .unset, .unset, .unset] []) G := fun tq kq => K157 tq (XS.icmpNo X154.here hx rfl (hb hby at_89) rfl ((tlt hc158).2.2.2) kq)
                have K160 : Go p e below T154 (mkF m 94 #[.val (.int q0), .val (.long q1), .second, .val (.long q2), .second, .val (.int q3), .val (.int ln), .val (.ref b93), .unset, .unset, .unset, .unset, .unset, .unset, .unset, .unset] [(.ref b93)]) G := fun tq kq => K159 tq (XS.aload X154.here hx rfl (hb hby at_92) rfl rfl kq)
                have K161 : Go p e below T154 (mkF m 95 #[.val (.int q0), .val (.long q1), .second, .val (.long q2), .second, .val (.int q3), .val (.int ln), .val (.ref b93), .unset, .unset, .unset, .unset, .unset, .unset, .unset, .unset] [(.int (5 : Int32)), (.ref b93)]) G := fun tq kq => K160 tq (XS.iconst X154.here hx rfl (hb hby at_94) kq)
                have K162 : Go p e below T154 (mkF m 96 #[.val (.int q0), .val (.long q1), .second, .val (.long q2), .second, .val (.int q3), .val (.int ln), .val (.ref b93), .unset, .unset, .unset, .unset, .unset, .unset, .unset, .unset] [(.long q1), (.int (5 : Int32)), (.ref b93)]) G := fun tq kq => K161 tq (XS.lloadN X154.here hx rfl (hb hby at_95) rfl kq)
                have K163 : Go p e below T154 (mkF m 97 #[.val (.int q0), .val (.long q1), .second, .val (.long q2), .second, .val (.int q3), .val (.int ln), .val (.ref b93), .unset, .unset, .unset, .unset, .unset, .unset, .unset, .unset] [(.int (5 : Int32)), (.long q1), (.int (5 : Int32)), (.ref b93)]) G := fun tq kq => K162 tq (XS.iconst X154.here hx rfl (hb hby at_96) kq)
                obtain ⟨v164, _, ⟨T164, L164, k164, n164⟩, -, X164, ⟨Lc164, hQ164, l164, y164, z164⟩, st164⟩ := Jvm.LawKit.callS X154 hx (y := (⟨"com/example/tallyrule/tallyrule/BuffersGrownPinLaw", "byteAt", "(JI)B"⟩ : MethodName)) hown (mvT hZ (hW 5 _ rfl)) (mvT hZ (hW 6 _ rfl)) (mvT hZ (hW 7 _ rfl)) (mvT hZ (hW 8 _ rfl)) (by decide) (backOf (W := 2) (rmBA l Z a0 hw [] q1 (5 : Int32) h154 n0 (Nat.le_trans (Nat.le_trans (Nat.le_trans (Nat.le_trans (Nat.le_trans (Nat.le_trans Z0 E93.1) (Keep.of_wr W106).1) (Keep.of_wr W118).1) (Keep.of_wr W130).1) (Keep.of_wr W142).1) (Keep.of_wr W154).1)) hZ (hW 8 _ rfl) (hW 7 _ rfl) (by decide) (by decide)) (g := (mkF m 97 #[.val (.int q0), .val (.long q1), .second, .val (.long q2), .second, .val (.int q3), .val (.int ln), .val (.ref b93), .unset, .unset, .unset, .unset, .unset, .unset, .unset, .unset] [(.int (5 : Int32)), (.long q1), (.int (5 : Int32)), (.ref b93)])) rfl (by rw [hml]; rfl) (argsL := [(.long q1), (.int (5 : Int32))]) (rest := [(.int (5 : Int32)), (.ref b93)]) (lenOf pd_97 rfl) rfl (by show 2 * 0 + _ ≤ _; exact Nat.le_of_eq rfl) (hb hby at_97) (fun _ _ => ⟨rfl, e154, (by decide : 1 + 0 ≤ _), (by decide : 7 + 0 ≤ _)⟩)
                dsimp only [Pt.U, Pt.locs, Pt.cells, Pt.slots] at X164 l164 y164 z164 st164 hQ164
                subst l164 y164 z164
                obtain ⟨rfl, N164q, E164q⟩ := hQ164
                have N164 := Fr.app N154 N164q
                have K165 : Go p e below T164 (mkF m 100 #[.val (.int q0), .val (.long q1), .second, .val (.long q2), .second, .val (.int q3), .val (.int ln), .val (.ref b93), .unset, .unset, .unset, .unset, .unset, .unset, .unset, .unset] [(.int (own_B q1 (5 : Int32))), (.int (5 : Int32)), (.ref b93)]) G := fun tq kq => K163 tq (st164 tq kq)
                obtain ⟨cl166, Ar166, q166, S166, Nn166, Hh166, Gg166⟩ := id V154
                have hin166 : ¬ ((5 : Int32) < 0 ∨ cl166.slots.size ≤ ((5 : Int32)).toNatClampNeg) := inb_of S166 ⟨by decide, hc158⟩
                obtain ⟨T166, h166, X166, e166, W166, st166⟩ := stB X164 hx hZ E164q Ar166 (j := (5 : Int32)) hin166 (g := (mkF m 100 #[.val (.int q0), .val (.long q1), .second, .val (.long q2), .second, .val (.int q3), .val (.int ln), .val (.ref b93), .unset, .unset, .unset, .unset, .unset, .unset, .unset, .unset] [(.int (own_B q1 (5 : Int32))), (.int (5 : Int32)), (.ref b93)])) rfl rfl (hb hby at_100)
                rw [own_nB] at W166
                have V166 : Arv Z h166 b93 k93 .byte ln [(.int (own_B q1 (0 : Int32))), (.int (own_B q1 (1 : Int32))), (.int (own_B q1 (2 : Int32))), (.int (own_B q1 (3 : Int32))), (.int (own_B q1 (4 : Int32))), (.int (own_B q1 (5 : Int32))), (.int (0 : Int32))] (.int (0 : Int32)) := Arv.set Ar166 q166 S166 Nn166 Hh166 Gg166 (fits_nar_byte _) W166 5 rfl (Nat.le_of_ble_eq_true rfl)
                have N166 := Fr.snoc X166 N164 ge_b93
                have K167 : Go p e below T166 (mkF m 101 #[.val (.int q0), .val (.long q1), .second, .val (.long q2), .second, .val (.int q3), .val (.int ln), .val (.ref b93), .unset, .unset, .unset, .unset, .unset, .unset, .unset, .unset] []) G := fun tq kq => K165 tq (st166 tq kq)
                have K168 : Go p e below T166 (mkF m 103 #[.val (.int q0), .val (.long q1), .second, .val (.long q2), .second, .val (.int q3), .val (.int ln), .val (.ref b93), .unset, .unset, .unset, .unset, .unset, .unset, .unset, .unset] [(.int ln)]) G := fun tq kq => K167 tq (XS.iload X166.here hx rfl (hb hby at_101) rfl kq)
                have K169 : Go p e below T166 (mkF m 105 #[.val (.int q0), .val (.long q1), .second, .val (.long q2), .second, .val (.int q3), .val (.int ln), .val (.ref b93), .unset, .unset, .unset, .unset, .unset, .unset, .unset, .unset] [(.int (6 : Int32)), (.int ln)]) G := fun tq kq => K168 tq (XS.bipush X166.here hx rfl (hb hby at_103) kq)
                by_cases hc170 : (6 : Int32) < ln
                · skip
                  have K171 : Go p e below T166 (mkF m 108 #[.val (.int q0), .val (.long q1), .second, .val (.long q2), .second, .val (.int q3), .val (.int ln), .val (.ref b93), .unset, .unset, .unset, .unset, .unset, .unset, .unset, .unset] []) G := fun tq kq => K169 tq (XS.icmpNo X166.here hx rfl (hb hby at_105) rfl ((tlt hc170).2.2.2) kq)
                  have K172 : Go p e below T166 (mkF m 110 #[.val (.int q0), .val (.long q1), .second, .val (.long q2), .second, .val (.int q3), .val (.int ln), .val (.ref b93), .unset, .unset, .unset, .unset, .unset, .unset, .unset, .unset] [(.ref b93)]) G := fun tq kq => K171 tq (XS.aload X166.here hx rfl (hb hby at_108) rfl rfl kq)
                  have K173 : Go p e below T166 (mkF m 112 #[.val (.int q0), .val (.long q1), .second, .val (.long q2), .second, .val (.int q3), .val (.int ln), .val (.ref b93), .unset, .unset, .unset, .unset, .unset, .unset, .unset, .unset] [(.int (6 : Int32)), (.ref b93)]) G := fun tq kq => K172 tq (XS.bipush X166.here hx rfl (hb hby at_110) kq)
                  have K174 : Go p e below T166 (mkF m 113 #[.val (.int q0), .val (.long q1), .second, .val (.long q2), .second, .val (.int q3), .val (.int ln), .val (.ref b93), .unset, .unset, .unset, .unset, .unset, .unset, .unset, .unset] [(.long q1), (.int (6 : Int32)), (.ref b93)]) G := fun tq kq => K173 tq (XS.lloadN X166.here hx rfl (hb hby at_112) rfl kq)
                  have K175 : Go p e below T166 (mkF m 115 #[.val (.int q0), .val (.long q1), .second, .val (.long q2), .second, .val (.int q3), .val (.int ln), .val (.ref b93), .unset, .unset, .unset, .unset, .unset, .unset, .unset, .unset] [(.int (6 : Int32)), (.long q1), (.int (6 : Int32)), (.ref b93)]) G := fun tq kq => K174 tq (XS.bipush X166.here hx rfl (hb hby at_113) kq)
                  obtain ⟨v176, _, ⟨T176, L176, k176, n176⟩, -, X176, ⟨Lc176, hQ176, l176, y176, z176⟩, st176⟩ := Jvm.LawKit.callS X166 hx (y := (⟨"com/example/tallyrule/tallyrule/BuffersGrownPinLaw", "byteAt", "(JI)B"⟩ : MethodName)) hown (mvT hZ (hW 5 _ rfl)) (mvT hZ (hW 6 _ rfl)) (mvT hZ (hW 7 _ rfl)) (mvT hZ (hW 8 _ rfl)) (by decide) (backOf (W := 2) (rmBA l Z a0 hw [] q1 (6 : Int32) h166 n0 (Nat.le_trans (Nat.le_trans (Nat.le_trans (Nat.le_trans (Nat.le_trans (Nat.le_trans (Nat.le_trans Z0 E93.1) (Keep.of_wr W106).1) (Keep.of_wr W118).1) (Keep.of_wr W130).1) (Keep.of_wr W142).1) (Keep.of_wr W154).1) (Keep.of_wr W166).1)) hZ (hW 8 _ rfl) (hW 7 _ rfl) (by decide) (by decide)) (g := (mkF m 115 #[.val (.int q0), .val (.long q1), .second, .val (.long q2), .second, .val (.int q3), .val (.int ln), .val (.ref b93), .unset, .unset, .unset, .unset, .unset, .unset, .unset, .unset] [(.int (6 : Int32)), (.long q1), (.int (6 : Int32)), (.ref b93)])) rfl (by rw [hml]; rfl) (argsL := [(.long q1), (.int (6 : Int32))]) (rest := [(.int (6 : Int32)), (.ref b93)]) (lenOf pd_97 rfl) rfl (by show 2 * 0 + _ ≤ _; exact Nat.le_of_eq rfl) (hb hby at_115) (fun _ _ => ⟨rfl, e166, (by decide : 1 + 0 ≤ _), (by decide : 7 + 0 ≤ _)⟩)
                  dsimp only [Pt.U, Pt.locs, Pt.cells, Pt.slots] at X176 l176 y176 z176 st176 hQ176
                  subst l176 y176 z176
                  obtain ⟨rfl, N176q, E176q⟩ := hQ176
                  have N176 := Fr.app N166 N176q
                  have K177 : Go p e below T176 (mkF m 118 #[.val (.int q0), .val (.long q1), .second, .val (.long q2), .second, .val (.int q3), .val (.int ln), .val (.ref b93), .unset, .unset, .unset, .unset, .unset, .unset, .unset, .unset] [(.int (own_B q1 (6 : Int32))), (.int (6 : Int32)), (.ref b93)]) G := fun tq kq => K175 tq (st176 tq kq)
                  obtain ⟨cl178, Ar178, q178, S178, Nn178, Hh178, Gg178⟩ := id V166
                  have hin178 : ¬ ((6 : Int32) < 0 ∨ cl178.slots.size ≤ ((6 : Int32)).toNatClampNeg) := inb_of S178 ⟨by decide, hc170⟩
                  obtain ⟨T178, h178, X178, e178, W178, st178⟩ := stB X176 hx hZ E176q Ar178 (j := (6 : Int32)) hin178 (g := (mkF m 118 #[.val (.int q0), .val (.long q1), .second, .val (.long q2), .second, .val (.int q3), .val (.int ln), .val (.ref b93), .unset, .unset, .unset, .unset, .unset, .unset, .unset, .unset] [(.int (own_B q1 (6 : Int32))), (.int (6 : Int32)), (.ref b93)])) rfl rfl (hb hby at_118)
                  rw [own_nB] at W178
                  have V178 : Arv Z h178 b93 k93 .byte ln [(.int (own_B q1 (0 : Int32))), (.int (own_B q1 (1 : Int32))), (.int (own_B q1 (2 : Int32))), (.int (own_B q1 (3 : Int32))), (.int (own_B q1 (4 : Int32))), (.int (own_B q1 (5 : Int32))), (.int (own_B q1 (6 : Int32)))] (.int (0 : Int32)) := Arv.set Ar178 q178 S178 Nn178 Hh178 Gg178 (fits_nar_byte _) W178 6 rfl (Nat.le_of_ble_eq_true rfl)
                  have N178 := Fr.snoc X178 N176 ge_b93
                  have K179 : Go p e below T178 (mkF m 119 #[.val (.int q0), .val (.long q1), .second, .val (.long q2), .second, .val (.int q3), .val (.int ln), .val (.ref b93), .unset, .unset, .unset, .unset, .unset, .unset, .unset, .unset] []) G := fun tq kq => K177 tq (st178 tq kq)
                  refine ⟨T178, h178, _, [(.int (own_B q1 (0 : Int32))), (.int (own_B q1 (1 : Int32))), (.int (own_B q1 (2 : Int32))), (.int (own_B q1 (3 : Int32))), (.int (own_B q1 (4 : Int32))), (.int (own_B q1 (5 : Int32))), (.int (own_B q1 (6 : Int32)))], X178, e178, N178, (Nat.le_trans (Nat.le_trans (Nat.le_trans (Nat.le_trans (Nat.le_trans (Nat.le_trans (Nat.le_trans (Nat.le_trans Z0 E93.1) (Keep.of_wr W106).1) (Keep.of_wr W118).1) (Keep.of_wr W130).1) (Keep.of_wr W142).1) (Keep.of_wr W154).1) (Keep.of_wr W166).1) (Keep.of_wr W178).1), V178, ?_, K179⟩
                  intro j j1 j2
                  have jj : j = (0 : Int32) ∨ j = (1 : Int32) ∨ j = (2 : Int32) ∨ j = (3 : Int32) ∨ j = (4 : Int32) ∨ j = (5 : Int32) ∨ j = (6 : Int32) := by
                    simp only [Int32.lt_iff_toInt_lt, ← Int32.toInt_inj, own_I0, own_I1, own_I2, own_I3, own_I4, own_I5, own_I6, own_I7, own_I31, own_I2147483647] at j1 j2 hc98 hc110 hc122 hc134 hc146 hc158 hc170 ⊢
                    omega
                  rcases jj with rfl | rfl | rfl | rfl | rfl | rfl | rfl <;> rfl
                · skip
                  have K180 : Go p e below T166 (mkF m 119 #[.val (.int q0), .val (.long q1), .second, .val (.long q2), .second, .val (.int q3), .val (.int ln), .val (.ref b93), .unset, .unset, .unset, .unset, .unset, .unset, .unset, .unset] []) G := fun tq kq => K169 tq (XS.icmpYes X166.here hx rfl (pc0 := 105) (pc' := 119) rfl (hb hby at_105) rfl ((flt hc170).2.2.2) (by decide) (by decide) kq)
                  refine ⟨T166, h166, _, [(.int (own_B q1 (0 : Int32))), (.int (own_B q1 (1 : Int32))), (.int (own_B q1 (2 : Int32))), (.int (own_B q1 (3 : Int32))), (.int (own_B q1 (4 : Int32))), (.int (own_B q1 (5 : Int32))), (.int (0 : Int32))], X166, e166, N166, (Nat.le_trans (Nat.le_trans (Nat.le_trans (Nat.le_trans (Nat.le_trans (Nat.le_trans (Nat.le_trans Z0 E93.1) (Keep.of_wr W106).1) (Keep.of_wr W118).1) (Keep.of_wr W130).1) (Keep.of_wr W142).1) (Keep.of_wr W154).1) (Keep.of_wr W166).1), V166, ?_, K180⟩
                  intro j j1 j2
                  have jj : j = (0 : Int32) ∨ j = (1 : Int32) ∨ j = (2 : Int32) ∨ j = (3 : Int32) ∨ j = (4 : Int32) ∨ j = (5 : Int32) := by
                    simp only [Int32.lt_iff_toInt_lt, ← Int32.toInt_inj, own_I0, own_I1, own_I2, own_I3, own_I4, own_I5, own_I6, own_I7, own_I31, own_I2147483647] at j1 j2 hc98 hc110 hc122 hc134 hc146 hc158 hc170 ⊢
                    omega
                  rcases jj with rfl | rfl | rfl | rfl | rfl | rfl <;> rfl
              · skip
                have K181 : Go p e below T154 (mkF m 101 #[.val (.int q0), .val (.long q1), .second, .val (.long q2), .second, .val (.int q3), .val (.int ln), .val (.ref b93), .unset, .unset, .unset, .unset, .unset, .unset, .unset, .unset] []) G := fun tq kq => K157 tq (XS.icmpYes X154.here hx rfl (pc0 := 89) (pc' := 101) rfl (hb hby at_89) rfl ((flt hc158).2.2.2) (by decide) (by decide) kq)
                have K182 : Go p e below T154 (mkF m 103 #[.val (.int q0), .val (.long q1), .second, .val (.long q2), .second, .val (.int q3), .val (.int ln), .val (.ref b93), .unset, .unset, .unset, .unset, .unset, .unset, .unset, .unset] [(.int ln)]) G := fun tq kq => K181 tq (XS.iload X154.here hx rfl (hb hby at_101) rfl kq)
                have K183 : Go p e below T154 (mkF m 105 #[.val (.int q0), .val (.long q1), .second, .val (.long q2), .second, .val (.int q3), .val (.int ln), .val (.ref b93), .unset, .unset, .unset, .unset, .unset, .unset, .unset, .unset] [(.int (6 : Int32)), (.int ln)]) G := fun tq kq => K182 tq (XS.bipush X154.here hx rfl (hb hby at_103) kq)
                by_cases hc184 : (6 : Int32) < ln
                · skip
                  exfalso
                  simp only [Int32.lt_iff_toInt_lt, own_I5, own_I6] at hc158 hc184
                  omega
                · skip
                  have K185 : Go p e below T154 (mkF m 119 #[.val (.int q0), .val (.long q1), .second, .val (.long q2), .second, .val (.int q3), .val (.int ln), .val (.ref b93), .unset, .unset, .unset, .unset, .unset, .unset, .unset, .unset] []) G := fun tq kq => K183 tq (XS.icmpYes X154.here hx rfl (pc0 := 105) (pc' := 119) rfl (hb hby at_105) rfl ((flt hc184).2.2.2) (by decide) (by decide) kq)
                  refine ⟨T154, h154, _, [(.int (own_B q1 (0 : Int32))), (.int (own_B q1 (1 : Int32))), (.int (own_B q1 (2 : Int32))), (.int (own_B q1 (3 : Int32))), (.int (own_B q1 (4 : Int32))), (.int (0 : Int32)), (.int (0 : Int32))], X154, e154, N154, (Nat.le_trans (Nat.le_trans (Nat.le_trans (Nat.le_trans (Nat.le_trans (Nat.le_trans Z0 E93.1) (Keep.of_wr W106).1) (Keep.of_wr W118).1) (Keep.of_wr W130).1) (Keep.of_wr W142).1) (Keep.of_wr W154).1), V154, ?_, K185⟩
                  intro j j1 j2
                  have jj : j = (0 : Int32) ∨ j = (1 : Int32) ∨ j = (2 : Int32) ∨ j = (3 : Int32) ∨ j = (4 : Int32) := by
                    simp only [Int32.lt_iff_toInt_lt, ← Int32.toInt_inj, own_I0, own_I1, own_I2, own_I3, own_I4, own_I5, own_I6, own_I7, own_I31, own_I2147483647] at j1 j2 hc98 hc110 hc122 hc134 hc146 hc158 hc184 ⊢
                    omega
                  rcases jj with rfl | rfl | rfl | rfl | rfl <;> rfl
            · skip
              have K186 : Go p e below T142 (mkF m 86 #[.val (.int q0), .val (.long q1), .second, .val (.long q2), .second, .val (.int q3), .val (.int ln), .val (.ref b93), .unset, .unset, .unset, .unset, .unset, .unset, .unset, .unset] []) G := fun tq kq => K145 tq (XS.icmpYes X142.here hx rfl (pc0 := 74) (pc' := 86) rfl (hb hby at_74) rfl ((flt hc146).2.2.2) (by decide) (by decide) kq)
              have K187 : Go p e below T142 (mkF m 88 #[.val (.int q0), .val (.long q1), .second, .val (.long q2), .second, .val (.int q3), .val (.int ln), .val (.ref b93), .unset, .unset, .unset, .unset, .unset, .unset, .unset, .unset] [(.int ln)]) G := fun tq kq => K186 tq (XS.iload X142.here hx rfl (hb hby at_86) rfl kq)
              have K188 : Go p e below T142 (mkF m 89 #[.val (.int q0), .val (.long q1), .second, .val (.long q2), .second, .val (.int q3), .val (.int ln), .val (.ref b93), .unset, .unset, .unset, .unset, .unset, .unset, .unset, .unset] [(.int (5 : Int32)), (.int ln)]) G := fun tq kq => K187 tq (XS.iconst X142.here hx rfl (hb hby at_88) kq)
              by_cases hc189 : (5 : Int32) < ln
              · skip
                exfalso
                simp only [Int32.lt_iff_toInt_lt, own_I4, own_I5] at hc146 hc189
                omega
              · skip
                have K190 : Go p e below T142 (mkF m 101 #[.val (.int q0), .val (.long q1), .second, .val (.long q2), .second, .val (.int q3), .val (.int ln), .val (.ref b93), .unset, .unset, .unset, .unset, .unset, .unset, .unset, .unset] []) G := fun tq kq => K188 tq (XS.icmpYes X142.here hx rfl (pc0 := 89) (pc' := 101) rfl (hb hby at_89) rfl ((flt hc189).2.2.2) (by decide) (by decide) kq)
                have K191 : Go p e below T142 (mkF m 103 #[.val (.int q0), .val (.long q1), .second, .val (.long q2), .second, .val (.int q3), .val (.int ln), .val (.ref b93), .unset, .unset, .unset, .unset, .unset, .unset, .unset, .unset] [(.int ln)]) G := fun tq kq => K190 tq (XS.iload X142.here hx rfl (hb hby at_101) rfl kq)
                have K192 : Go p e below T142 (mkF m 105 #[.val (.int q0), .val (.long q1), .second, .val (.long q2), .second, .val (.int q3), .val (.int ln), .val (.ref b93), .unset, .unset, .unset, .unset, .unset, .unset, .unset, .unset] [(.int (6 : Int32)), (.int ln)]) G := fun tq kq => K191 tq (XS.bipush X142.here hx rfl (hb hby at_103) kq)
                by_cases hc193 : (6 : Int32) < ln
                · skip
                  exfalso
                  simp only [Int32.lt_iff_toInt_lt, own_I4, own_I6] at hc146 hc193
                  omega
                · skip
                  have K194 : Go p e below T142 (mkF m 119 #[.val (.int q0), .val (.long q1), .second, .val (.long q2), .second, .val (.int q3), .val (.int ln), .val (.ref b93), .unset, .unset, .unset, .unset, .unset, .unset, .unset, .unset] []) G := fun tq kq => K192 tq (XS.icmpYes X142.here hx rfl (pc0 := 105) (pc' := 119) rfl (hb hby at_105) rfl ((flt hc193).2.2.2) (by decide) (by decide) kq)
                  refine ⟨T142, h142, _, [(.int (own_B q1 (0 : Int32))), (.int (own_B q1 (1 : Int32))), (.int (own_B q1 (2 : Int32))), (.int (own_B q1 (3 : Int32))), (.int (0 : Int32)), (.int (0 : Int32)), (.int (0 : Int32))], X142, e142, N142, (Nat.le_trans (Nat.le_trans (Nat.le_trans (Nat.le_trans (Nat.le_trans Z0 E93.1) (Keep.of_wr W106).1) (Keep.of_wr W118).1) (Keep.of_wr W130).1) (Keep.of_wr W142).1), V142, ?_, K194⟩
                  intro j j1 j2
                  have jj : j = (0 : Int32) ∨ j = (1 : Int32) ∨ j = (2 : Int32) ∨ j = (3 : Int32) := by
                    simp only [Int32.lt_iff_toInt_lt, ← Int32.toInt_inj, own_I0, own_I1, own_I2, own_I3, own_I4, own_I5, own_I6, own_I7, own_I31, own_I2147483647] at j1 j2 hc98 hc110 hc122 hc134 hc146 hc189 hc193 ⊢
                    omega
                  rcases jj with rfl | rfl | rfl | rfl <;> rfl
          · skip
            have K195 : Go p e below T130 (mkF m 71 #[.val (.int q0), .val (.long q1), .second, .val (.long q2), .second, .val (.int q3), .val (.int ln), .val (.ref b93), .unset, .unset, .unset, .unset, .unset, .unset, .unset, .unset] []) G := fun tq kq => K133 tq (XS.icmpYes X130.here hx rfl (pc0 := 59) (pc' := 71) rfl (hb hby at_59) rfl ((flt hc134).2.2.2) (by decide) (by decide) kq)
            have K196 : Go p e below T130 (mkF m 73 #[.val (.int q0), .val (.long q1), .second, .val (.long q2), .second, .val (.int q3), .val (.int ln), .val (.ref b93), .unset, .unset, .unset, .unset, .unset, .unset, .unset, .unset] [(.int ln)]) G := fun tq kq => K195 tq (XS.iload X130.here hx rfl (hb hby at_71) rfl kq)
            have K197 : Go p e below T130 (mkF m 74 #[.val (.int q0), .val (.long q1), .second, .val (.long q2), .second, .val (.int q3), .val (.int ln), .val (.ref b93), .unset, .unset, .unset, .unset, .unset, .unset, .unset, .unset] [(.int (4 : Int32)), (.int ln)]) G := fun tq kq => K196 tq (XS.iconst X130.here hx rfl (hb hby at_73) kq)
            by_cases hc198 : (4 : Int32) < ln
            · skip
              exfalso
              simp only [Int32.lt_iff_toInt_lt, own_I3, own_I4] at hc134 hc198
              omega
            · skip
              have K199 : Go p e below T130 (mkF m 86 #[.val (.int q0), .val (.long q1), .second, .val (.long q2), .second, .val (.int q3), .val (.int ln), .val (.ref b93), .unset, .unset, .unset, .unset, .unset, .unset, .unset, .unset] []) G := fun tq kq => K197 tq (XS.icmpYes X130.here hx rfl (pc0 := 74) (pc' := 86) rfl (hb hby at_74) rfl ((flt hc198).2.2.2) (by decide) (by decide) kq)
              have K200 : Go p e below T130 (mkF m 88 #[.val (.int q0), .val (.long q1), .second, .val (.long q2), .second, .val (.int q3), .val (.int ln), .val (.ref b93), .unset, .unset, .unset, .unset, .unset, .unset, .unset, .unset] [(.int ln)]) G := fun tq kq => K199 tq (XS.iload X130.here hx rfl (hb hby at_86) rfl kq)
              have K201 : Go p e below T130 (mkF m 89 #[.val (.int q0), .val (.long q1), .second, .val (.long q2), .second, .val (.int q3), .val (.int ln), .val (.ref b93), .unset, .unset, .unset, .unset, .unset, .unset, .unset, .unset] [(.int (5 : Int32)), (.int ln)]) G := fun tq kq => K200 tq (XS.iconst X130.here hx rfl (hb hby at_88) kq)
              by_cases hc202 : (5 : Int32) < ln
              · skip
                exfalso
                simp only [Int32.lt_iff_toInt_lt, own_I3, own_I5] at hc134 hc202
                omega
              · skip
                have K203 : Go p e below T130 (mkF m 101 #[.val (.int q0), .val (.long q1), .second, .val (.long q2), .second, .val (.int q3), .val (.int ln), .val (.ref b93), .unset, .unset, .unset, .unset, .unset, .unset, .unset, .unset] []) G := fun tq kq => K201 tq (XS.icmpYes X130.here hx rfl (pc0 := 89) (pc' := 101) rfl (hb hby at_89) rfl ((flt hc202).2.2.2) (by decide) (by decide) kq)
                have K204 : Go p e below T130 (mkF m 103 #[.val (.int q0), .val (.long q1), .second, .val (.long q2), .second, .val (.int q3), .val (.int ln), .val (.ref b93), .unset, .unset, .unset, .unset, .unset, .unset, .unset, .unset] [(.int ln)]) G := fun tq kq => K203 tq (XS.iload X130.here hx rfl (hb hby at_101) rfl kq)
                have K205 : Go p e below T130 (mkF m 105 #[.val (.int q0), .val (.long q1), .second, .val (.long q2), .second, .val (.int q3), .val (.int ln), .val (.ref b93), .unset, .unset, .unset, .unset, .unset, .unset, .unset, .unset] [(.int (6 : Int32)), (.int ln)]) G := fun tq kq => K204 tq (XS.bipush X130.here hx rfl (hb hby at_103) kq)
                by_cases hc206 : (6 : Int32) < ln
                · skip
                  exfalso
                  simp only [Int32.lt_iff_toInt_lt, own_I3, own_I6] at hc134 hc206
                  omega
                · skip
                  have K207 : Go p e below T130 (mkF m 119 #[.val (.int q0), .val (.long q1), .second, .val (.long q2), .second, .val (.int q3), .val (.int ln), .val (.ref b93), .unset, .unset, .unset, .unset, .unset, .unset, .unset, .unset] []) G := fun tq kq => K205 tq (XS.icmpYes X130.here hx rfl (pc0 := 105) (pc' := 119) rfl (hb hby at_105) rfl ((flt hc206).2.2.2) (by decide) (by decide) kq)
                  refine ⟨T130, h130, _, [(.int (own_B q1 (0 : Int32))), (.int (own_B q1 (1 : Int32))), (.int (own_B q1 (2 : Int32))), (.int (0 : Int32)), (.int (0 : Int32)), (.int (0 : Int32)), (.int (0 : Int32))], X130, e130, N130, (Nat.le_trans (Nat.le_trans (Nat.le_trans (Nat.le_trans Z0 E93.1) (Keep.of_wr W106).1) (Keep.of_wr W118).1) (Keep.of_wr W130).1), V130, ?_, K207⟩
                  intro j j1 j2
                  have jj : j = (0 : Int32) ∨ j = (1 : Int32) ∨ j = (2 : Int32) := by
                    simp only [Int32.lt_iff_toInt_lt, ← Int32.toInt_inj, own_I0, own_I1, own_I2, own_I3, own_I4, own_I5, own_I6, own_I7, own_I31, own_I2147483647] at j1 j2 hc98 hc110 hc122 hc134 hc198 hc202 hc206 ⊢
                    omega
                  rcases jj with rfl | rfl | rfl <;> rfl
        · skip
          have K208 : Go p e below T118 (mkF m 56 #[.val (.int q0), .val (.long q1), .second, .val (.long q2), .second, .val (.int q3), .val (.int ln), .val (.ref b93), .unset, .unset, .unset, .unset, .unset, .unset, .unset, .unset] []) G := fun tq kq => K121 tq (XS.icmpYes X118.here hx rfl (pc0 := 44) (pc' := 56) rfl (hb hby at_44) rfl ((flt hc122).2.2.2) (by decide) (by decide) kq)
          have K209 : Go p e below T118 (mkF m 58 #[.val (.int q0), .val (.long q1), .second, .val (.long q2), .second, .val (.int q3), .val (.int ln), .val (.ref b93), .unset, .unset, .unset, .unset, .unset, .unset, .unset, .unset] [(.int ln)]) G := fun tq kq => K208 tq (XS.iload X118.here hx rfl (hb hby at_56) rfl kq)
          have K210 : Go p e below T118 (mkF m 59 #[.val (.int q0), .val (.long q1), .second, .val (.long q2), .second, .val (.int q3), .val (.int ln), .val (.ref b93), .unset, .unset, .unset, .unset, .unset, .unset, .unset, .unset] [(.int (3 : Int32)), (.int ln)]) G := fun tq kq => K209 tq (XS.iconst X118.here hx rfl (hb hby at_58) kq)
          by_cases hc211 : (3 : Int32) < ln
          · skip
            exfalso
            simp only [Int32.lt_iff_toInt_lt, own_I2, own_I3] at hc122 hc211
            omega
          · skip
            have K212 : Go p e below T118 (mkF m 71 #[.val (.int q0), .val (.long q1), .second, .val (.long q2), .second, .val (.int q3), .val (.int ln), .val (.ref b93), .unset, .unset, .unset, .unset, .unset, .unset, .unset, .unset] []) G := fun tq kq => K210 tq (XS.icmpYes X118.here hx rfl (pc0 := 59) (pc' := 71) rfl (hb hby at_59) rfl ((flt hc211).2.2.2) (by decide) (by decide) kq)
            have K213 : Go p e below T118 (mkF m 73 #[.val (.int q0), .val (.long q1), .second, .val (.long q2), .second, .val (.int q3), .val (.int ln), .val (.ref b93), .unset, .unset, .unset, .unset, .unset, .unset, .unset, .unset] [(.int ln)]) G := fun tq kq => K212 tq (XS.iload X118.here hx rfl (hb hby at_71) rfl kq)
            have K214 : Go p e below T118 (mkF m 74 #[.val (.int q0), .val (.long q1), .second, .val (.long q2), .second, .val (.int q3), .val (.int ln), .val (.ref b93), .unset, .unset, .unset, .unset, .unset, .unset, .unset, .unset] [(.int (4 : Int32)), (.int ln)]) G := fun tq kq => K213 tq (XS.iconst X118.here hx rfl (hb hby at_73) kq)
            by_cases hc215 : (4 : Int32) < ln
            · skip
              exfalso
              simp only [Int32.lt_iff_toInt_lt, own_I2, own_I4] at hc122 hc215
              omega
            · skip
              have K216 : Go p e below T118 (mkF m 86 #[.val (.int q0), .val (.long q1), .second, .val (.long q2), .second, .val (.int q3), .val (.int ln), .val (.ref b93), .unset, .unset, .unset, .unset, .unset, .unset, .unset, .unset] []) G := fun tq kq => K214 tq (XS.icmpYes X118.here hx rfl (pc0 := 74) (pc' := 86) rfl (hb hby at_74) rfl ((flt hc215).2.2.2) (by decide) (by decide) kq)
              have K217 : Go p e below T118 (mkF m 88 #[.val (.int q0), .val (.long q1), .second, .val (.long q2), .second, .val (.int q3), .val (.int ln), .val (.ref b93), .unset, .unset, .unset, .unset, .unset, .unset, .unset, .unset] [(.int ln)]) G := fun tq kq => K216 tq (XS.iload X118.here hx rfl (hb hby at_86) rfl kq)
              have K218 : Go p e below T118 (mkF m 89 #[.val (.int q0), .val (.long q1), .second, .val (.long q2), .second, .val (.int q3), .val (.int ln), .val (.ref b93), .unset, .unset, .unset, .unset, .unset, .unset, .unset, .unset] [(.int (5 : Int32)), (.int ln)]) G := fun tq kq => K217 tq (XS.iconst X118.here hx rfl (hb hby at_88) kq)
              by_cases hc219 : (5 : Int32) < ln
              · skip
                exfalso
                simp only [Int32.lt_iff_toInt_lt, own_I2, own_I5] at hc122 hc219
                omega
              · skip
                have K220 : Go p e below T118 (mkF m 101 #[.val (.int q0), .val (.long q1), .second, .val (.long q2), .second, .val (.int q3), .val (.int ln), .val (.ref b93), .unset, .unset, .unset, .unset, .unset, .unset, .unset, .unset] []) G := fun tq kq => K218 tq (XS.icmpYes X118.here hx rfl (pc0 := 89) (pc' := 101) rfl (hb hby at_89) rfl ((flt hc219).2.2.2) (by decide) (by decide) kq)
                have K221 : Go p e below T118 (mkF m 103 #[.val (.int q0), .val (.long q1), .second, .val (.long q2), .second, .val (.int q3), .val (.int ln), .val (.ref b93), .unset, .unset, .unset, .unset, .unset, .unset, .unset, .unset] [(.int ln)]) G := fun tq kq => K220 tq (XS.iload X118.here hx rfl (hb hby at_101) rfl kq)
                have K222 : Go p e below T118 (mkF m 105 #[.val (.int q0), .val (.long q1), .second, .val (.long q2), .second, .val (.int q3), .val (.int ln), .val (.ref b93), .unset, .unset, .unset, .unset, .unset, .unset, .unset, .unset] [(.int (6 : Int32)), (.int ln)]) G := fun tq kq => K221 tq (XS.bipush X118.here hx rfl (hb hby at_103) kq)
                by_cases hc223 : (6 : Int32) < ln
                · skip
                  exfalso
                  simp only [Int32.lt_iff_toInt_lt, own_I2, own_I6] at hc122 hc223
                  omega
                · skip
                  have K224 : Go p e below T118 (mkF m 119 #[.val (.int q0), .val (.long q1), .second, .val (.long q2), .second, .val (.int q3), .val (.int ln), .val (.ref b93), .unset, .unset, .unset, .unset, .unset, .unset, .unset, .unset] []) G := fun tq kq => K222 tq (XS.icmpYes X118.here hx rfl (pc0 := 105) (pc' := 119) rfl (hb hby at_105) rfl ((flt hc223).2.2.2) (by decide) (by decide) kq)
                  refine ⟨T118, h118, _, [(.int (own_B q1 (0 : Int32))), (.int (own_B q1 (1 : Int32))), (.int (0 : Int32)), (.int (0 : Int32)), (.int (0 : Int32)), (.int (0 : Int32)), (.int (0 : Int32))], X118, e118, N118, (Nat.le_trans (Nat.le_trans (Nat.le_trans Z0 E93.1) (Keep.of_wr W106).1) (Keep.of_wr W118).1), V118, ?_, K224⟩
                  intro j j1 j2
                  have jj : j = (0 : Int32) ∨ j = (1 : Int32) := by
                    simp only [Int32.lt_iff_toInt_lt, ← Int32.toInt_inj, own_I0, own_I1, own_I2, own_I3, own_I4, own_I5, own_I6, own_I7, own_I31, own_I2147483647] at j1 j2 hc98 hc110 hc122 hc211 hc215 hc219 hc223 ⊢
                    omega
                  rcases jj with rfl | rfl <;> rfl
      · skip
        have K225 : Go p e below T106 (mkF m 41 #[.val (.int q0), .val (.long q1), .second, .val (.long q2), .second, .val (.int q3), .val (.int ln), .val (.ref b93), .unset, .unset, .unset, .unset, .unset, .unset, .unset, .unset] []) G := fun tq kq => K109 tq (XS.icmpYes X106.here hx rfl (pc0 := 29) (pc' := 41) rfl (hb hby at_29) rfl ((flt hc110).2.2.2) (by decide) (by decide) kq)
        have K226 : Go p e below T106 (mkF m 43 #[.val (.int q0), .val (.long q1), .second, .val (.long q2), .second, .val (.int q3), .val (.int ln), .val (.ref b93), .unset, .unset, .unset, .unset, .unset, .unset, .unset, .unset] [(.int ln)]) G := fun tq kq => K225 tq (XS.iload X106.here hx rfl (hb hby at_41) rfl kq)
        have K227 : Go p e below T106 (mkF m 44 #[.val (.int q0), .val (.long q1), .second, .val (.long q2), .second, .val (.int q3), .val (.int ln), .val (.ref b93), .unset, .unset, .unset, .unset, .unset, .unset, .unset, .unset] [(.int (2 : Int32)), (.int ln)]) G := fun tq kq => K226 tq (XS.iconst X106.here hx rfl (hb hby at_43) kq)
        by_cases hc228 : (2 : Int32) < ln
        · skip
          exfalso
          simp only [Int32.lt_iff_toInt_lt, own_I1, own_I2] at hc110 hc228
          omega
        · skip
          have K229 : Go p e below T106 (mkF m 56 #[.val (.int q0), .val (.long q1), .second, .val (.long q2), .second, .val (.int q3), .val (.int ln), .val (.ref b93), .unset, .unset, .unset, .unset, .unset, .unset, .unset, .unset] []) G := fun tq kq => K227 tq (XS.icmpYes X106.here hx rfl (pc0 := 44) (pc' := 56) rfl (hb hby at_44) rfl ((flt hc228).2.2.2) (by decide) (by decide) kq)
          have K230 : Go p e below T106 (mkF m 58 #[.val (.int q0), .val (.long q1), .second, .val (.long q2), .second, .val (.int q3), .val (.int ln), .val (.ref b93), .unset, .unset, .unset, .unset, .unset, .unset, .unset, .unset] [(.int ln)]) G := fun tq kq => K229 tq (XS.iload X106.here hx rfl (hb hby at_56) rfl kq)
          have K231 : Go p e below T106 (mkF m 59 #[.val (.int q0), .val (.long q1), .second, .val (.long q2), .second, .val (.int q3), .val (.int ln), .val (.ref b93), .unset, .unset, .unset, .unset, .unset, .unset, .unset, .unset] [(.int (3 : Int32)), (.int ln)]) G := fun tq kq => K230 tq (XS.iconst X106.here hx rfl (hb hby at_58) kq)
          by_cases hc232 : (3 : Int32) < ln
          · skip
            exfalso
            simp only [Int32.lt_iff_toInt_lt, own_I1, own_I3] at hc110 hc232
            omega
          · skip
            have K233 : Go p e below T106 (mkF m 71 #[.val (.int q0), .val (.long q1), .second, .val (.long q2), .second, .val (.int q3), .val (.int ln), .val (.ref b93), .unset, .unset, .unset, .unset, .unset, .unset, .unset, .unset] []) G := fun tq kq => K231 tq (XS.icmpYes X106.here hx rfl (pc0 := 59) (pc' := 71) rfl (hb hby at_59) rfl ((flt hc232).2.2.2) (by decide) (by decide) kq)
            have K234 : Go p e below T106 (mkF m 73 #[.val (.int q0), .val (.long q1), .second, .val (.long q2), .second, .val (.int q3), .val (.int ln), .val (.ref b93), .unset, .unset, .unset, .unset, .unset, .unset, .unset, .unset] [(.int ln)]) G := fun tq kq => K233 tq (XS.iload X106.here hx rfl (hb hby at_71) rfl kq)
            have K235 : Go p e below T106 (mkF m 74 #[.val (.int q0), .val (.long q1), .second, .val (.long q2), .second, .val (.int q3), .val (.int ln), .val (.ref b93), .unset, .unset, .unset, .unset, .unset, .unset, .unset, .unset] [(.int (4 : Int32)), (.int ln)]) G := fun tq kq => K234 tq (XS.iconst X106.here hx rfl (hb hby at_73) kq)
            by_cases hc236 : (4 : Int32) < ln
            · skip
              exfalso
              simp only [Int32.lt_iff_toInt_lt, own_I1, own_I4] at hc110 hc236
              omega
            · skip
              have K237 : Go p e below T106 (mkF m 86 #[.val (.int q0), .val (.long q1), .second, .val (.long q2), .second, .val (.int q3), .val (.int ln), .val (.ref b93), .unset, .unset, .unset, .unset, .unset, .unset, .unset, .unset] []) G := fun tq kq => K235 tq (XS.icmpYes X106.here hx rfl (pc0 := 74) (pc' := 86) rfl (hb hby at_74) rfl ((flt hc236).2.2.2) (by decide) (by decide) kq)
              have K238 : Go p e below T106 (mkF m 88 #[.val (.int q0), .val (.long q1), .second, .val (.long q2), .second, .val (.int q3), .val (.int ln), .val (.ref b93), .unset, .unset, .unset, .unset, .unset, .unset, .unset, .unset] [(.int ln)]) G := fun tq kq => K237 tq (XS.iload X106.here hx rfl (hb hby at_86) rfl kq)
              have K239 : Go p e below T106 (mkF m 89 #[.val (.int q0), .val (.long q1), .second, .val (.long q2), .second, .val (.int q3), .val (.int ln), .val (.ref b93), .unset, .unset, .unset, .unset, .unset, .unset, .unset, .unset] [(.int (5 : Int32)), (.int ln)]) G := fun tq kq => K238 tq (XS.iconst X106.here hx rfl (hb hby at_88) kq)
              by_cases hc240 : (5 : Int32) < ln
              · skip
                exfalso
                simp only [Int32.lt_iff_toInt_lt, own_I1, own_I5] at hc110 hc240
                omega
              · skip
                have K241 : Go p e below T106 (mkF m 101 #[.val (.int q0), .val (.long q1), .second, .val (.long q2), .second, .val (.int q3), .val (.int ln), .val (.ref b93), .unset, .unset, .unset, .unset, .unset, .unset, .unset, .unset] []) G := fun tq kq => K239 tq (XS.icmpYes X106.here hx rfl (pc0 := 89) (pc' := 101) rfl (hb hby at_89) rfl ((flt hc240).2.2.2) (by decide) (by decide) kq)
                have K242 : Go p e below T106 (mkF m 103 #[.val (.int q0), .val (.long q1), .second, .val (.long q2), .second, .val (.int q3), .val (.int ln), .val (.ref b93), .unset, .unset, .unset, .unset, .unset, .unset, .unset, .unset] [(.int ln)]) G := fun tq kq => K241 tq (XS.iload X106.here hx rfl (hb hby at_101) rfl kq)
                have K243 : Go p e below T106 (mkF m 105 #[.val (.int q0), .val (.long q1), .second, .val (.long q2), .second, .val (.int q3), .val (.int ln), .val (.ref b93), .unset, .unset, .unset, .unset, .unset, .unset, .unset, .unset] [(.int (6 : Int32)), (.int ln)]) G := fun tq kq => K242 tq (XS.bipush X106.here hx rfl (hb hby at_103) kq)
                by_cases hc244 : (6 : Int32) < ln
                · skip
                  exfalso
                  simp only [Int32.lt_iff_toInt_lt, own_I1, own_I6] at hc110 hc244
                  omega
                · skip
                  have K245 : Go p e below T106 (mkF m 119 #[.val (.int q0), .val (.long q1), .second, .val (.long q2), .second, .val (.int q3), .val (.int ln), .val (.ref b93), .unset, .unset, .unset, .unset, .unset, .unset, .unset, .unset] []) G := fun tq kq => K243 tq (XS.icmpYes X106.here hx rfl (pc0 := 105) (pc' := 119) rfl (hb hby at_105) rfl ((flt hc244).2.2.2) (by decide) (by decide) kq)
                  refine ⟨T106, h106, _, [(.int (own_B q1 (0 : Int32))), (.int (0 : Int32)), (.int (0 : Int32)), (.int (0 : Int32)), (.int (0 : Int32)), (.int (0 : Int32)), (.int (0 : Int32))], X106, e106, N106, (Nat.le_trans (Nat.le_trans Z0 E93.1) (Keep.of_wr W106).1), V106, ?_, K245⟩
                  intro j j1 j2
                  have jj : j = (0 : Int32) := by
                    simp only [Int32.lt_iff_toInt_lt, ← Int32.toInt_inj, own_I0, own_I1, own_I2, own_I3, own_I4, own_I5, own_I6, own_I7, own_I31, own_I2147483647] at j1 j2 hc98 hc110 hc228 hc232 hc236 hc240 hc244 ⊢
                    omega
                  subst jj; rfl
    · skip
      have K246 : Go p e below T93 (mkF m 26 #[.val (.int q0), .val (.long q1), .second, .val (.long q2), .second, .val (.int q3), .val (.int ln), .val (.ref b93), .unset, .unset, .unset, .unset, .unset, .unset, .unset, .unset] []) G := fun tq kq => K97 tq (XS.ifYes X93.here hx rfl (pc0 := 14) (pc' := 26) rfl (hb hby at_14) rfl ((if0 _ _).trans (flt hc98).2.2.2) (by decide) (by decide) kq)
      have K247 : Go p e below T93 (mkF m 28 #[.val (.int q0), .val (.long q1), .second, .val (.long q2), .second, .val (.int q3), .val (.int ln), .val (.ref b93), .unset, .unset, .unset, .unset, .unset, .unset, .unset, .unset] [(.int ln)]) G := fun tq kq => K246 tq (XS.iload X93.here hx rfl (hb hby at_26) rfl kq)
      have K248 : Go p e below T93 (mkF m 29 #[.val (.int q0), .val (.long q1), .second, .val (.long q2), .second, .val (.int q3), .val (.int ln), .val (.ref b93), .unset, .unset, .unset, .unset, .unset, .unset, .unset, .unset] [(.int (1 : Int32)), (.int ln)]) G := fun tq kq => K247 tq (XS.iconst X93.here hx rfl (hb hby at_28) kq)
      by_cases hc249 : (1 : Int32) < ln
      · skip
        exfalso
        simp only [Int32.lt_iff_toInt_lt, own_I0, own_I1] at hc98 hc249
        omega
      · skip
        have K250 : Go p e below T93 (mkF m 41 #[.val (.int q0), .val (.long q1), .second, .val (.long q2), .second, .val (.int q3), .val (.int ln), .val (.ref b93), .unset, .unset, .unset, .unset, .unset, .unset, .unset, .unset] []) G := fun tq kq => K248 tq (XS.icmpYes X93.here hx rfl (pc0 := 29) (pc' := 41) rfl (hb hby at_29) rfl ((flt hc249).2.2.2) (by decide) (by decide) kq)
        have K251 : Go p e below T93 (mkF m 43 #[.val (.int q0), .val (.long q1), .second, .val (.long q2), .second, .val (.int q3), .val (.int ln), .val (.ref b93), .unset, .unset, .unset, .unset, .unset, .unset, .unset, .unset] [(.int ln)]) G := fun tq kq => K250 tq (XS.iload X93.here hx rfl (hb hby at_41) rfl kq)
        have K252 : Go p e below T93 (mkF m 44 #[.val (.int q0), .val (.long q1), .second, .val (.long q2), .second, .val (.int q3), .val (.int ln), .val (.ref b93), .unset, .unset, .unset, .unset, .unset, .unset, .unset, .unset] [(.int (2 : Int32)), (.int ln)]) G := fun tq kq => K251 tq (XS.iconst X93.here hx rfl (hb hby at_43) kq)
        by_cases hc253 : (2 : Int32) < ln
        · skip
          exfalso
          simp only [Int32.lt_iff_toInt_lt, own_I0, own_I2] at hc98 hc253
          omega
        · skip
          have K254 : Go p e below T93 (mkF m 56 #[.val (.int q0), .val (.long q1), .second, .val (.long q2), .second, .val (.int q3), .val (.int ln), .val (.ref b93), .unset, .unset, .unset, .unset, .unset, .unset, .unset, .unset] []) G := fun tq kq => K252 tq (XS.icmpYes X93.here hx rfl (pc0 := 44) (pc' := 56) rfl (hb hby at_44) rfl ((flt hc253).2.2.2) (by decide) (by decide) kq)
          have K255 : Go p e below T93 (mkF m 58 #[.val (.int q0), .val (.long q1), .second, .val (.long q2), .second, .val (.int q3), .val (.int ln), .val (.ref b93), .unset, .unset, .unset, .unset, .unset, .unset, .unset, .unset] [(.int ln)]) G := fun tq kq => K254 tq (XS.iload X93.here hx rfl (hb hby at_56) rfl kq)
          have K256 : Go p e below T93 (mkF m 59 #[.val (.int q0), .val (.long q1), .second, .val (.long q2), .second, .val (.int q3), .val (.int ln), .val (.ref b93), .unset, .unset, .unset, .unset, .unset, .unset, .unset, .unset] [(.int (3 : Int32)), (.int ln)]) G := fun tq kq => K255 tq (XS.iconst X93.here hx rfl (hb hby at_58) kq)
          by_cases hc257 : (3 : Int32) < ln
          · skip
            exfalso
            simp only [Int32.lt_iff_toInt_lt, own_I0, own_I3] at hc98 hc257
            omega
          · skip
            have K258 : Go p e below T93 (mkF m 71 #[.val (.int q0), .val (.long q1), .second, .val (.long q2), .second, .val (.int q3), .val (.int ln), .val (.ref b93), .unset, .unset, .unset, .unset, .unset, .unset, .unset, .unset] []) G := fun tq kq => K256 tq (XS.icmpYes X93.here hx rfl (pc0 := 59) (pc' := 71) rfl (hb hby at_59) rfl ((flt hc257).2.2.2) (by decide) (by decide) kq)
            have K259 : Go p e below T93 (mkF m 73 #[.val (.int q0), .val (.long q1), .second, .val (.long q2), .second, .val (.int q3), .val (.int ln), .val (.ref b93), .unset, .unset, .unset, .unset, .unset, .unset, .unset, .unset] [(.int ln)]) G := fun tq kq => K258 tq (XS.iload X93.here hx rfl (hb hby at_71) rfl kq)
            have K260 : Go p e below T93 (mkF m 74 #[.val (.int q0), .val (.long q1), .second, .val (.long q2), .second, .val (.int q3), .val (.int ln), .val (.ref b93), .unset, .unset, .unset, .unset, .unset, .unset, .unset, .unset] [(.int (4 : Int32)), (.int ln)]) G := fun tq kq => K259 tq (XS.iconst X93.here hx rfl (hb hby at_73) kq)
            by_cases hc261 : (4 : Int32) < ln
            · skip
              exfalso
              simp only [Int32.lt_iff_toInt_lt, own_I0, own_I4] at hc98 hc261
              omega
            · skip
              have K262 : Go p e below T93 (mkF m 86 #[.val (.int q0), .val (.long q1), .second, .val (.long q2), .second, .val (.int q3), .val (.int ln), .val (.ref b93), .unset, .unset, .unset, .unset, .unset, .unset, .unset, .unset] []) G := fun tq kq => K260 tq (XS.icmpYes X93.here hx rfl (pc0 := 74) (pc' := 86) rfl (hb hby at_74) rfl ((flt hc261).2.2.2) (by decide) (by decide) kq)
              have K263 : Go p e below T93 (mkF m 88 #[.val (.int q0), .val (.long q1), .second, .val (.long q2), .second, .val (.int q3), .val (.int ln), .val (.ref b93), .unset, .unset, .unset, .unset, .unset, .unset, .unset, .unset] [(.int ln)]) G := fun tq kq => K262 tq (XS.iload X93.here hx rfl (hb hby at_86) rfl kq)
              have K264 : Go p e below T93 (mkF m 89 #[.val (.int q0), .val (.long q1), .second, .val (.long q2), .second, .val (.int q3), .val (.int ln), .val (.ref b93), .unset, .unset, .unset, .unset, .unset, .unset, .unset, .unset] [(.int (5 : Int32)), (.int ln)]) G := fun tq kq => K263 tq (XS.iconst X93.here hx rfl (hb hby at_88) kq)
              by_cases hc265 : (5 : Int32) < ln
              · skip
                exfalso
                simp only [Int32.lt_iff_toInt_lt, own_I0, own_I5] at hc98 hc265
                omega
              · skip
                have K266 : Go p e below T93 (mkF m 101 #[.val (.int q0), .val (.long q1), .second, .val (.long q2), .second, .val (.int q3), .val (.int ln), .val (.ref b93), .unset, .unset, .unset, .unset, .unset, .unset, .unset, .unset] []) G := fun tq kq => K264 tq (XS.icmpYes X93.here hx rfl (pc0 := 89) (pc' := 101) rfl (hb hby at_89) rfl ((flt hc265).2.2.2) (by decide) (by decide) kq)
                have K267 : Go p e below T93 (mkF m 103 #[.val (.int q0), .val (.long q1), .second, .val (.long q2), .second, .val (.int q3), .val (.int ln), .val (.ref b93), .unset, .unset, .unset, .unset, .unset, .unset, .unset, .unset] [(.int ln)]) G := fun tq kq => K266 tq (XS.iload X93.here hx rfl (hb hby at_101) rfl kq)
                have K268 : Go p e below T93 (mkF m 105 #[.val (.int q0), .val (.long q1), .second, .val (.long q2), .second, .val (.int q3), .val (.int ln), .val (.ref b93), .unset, .unset, .unset, .unset, .unset, .unset, .unset, .unset] [(.int (6 : Int32)), (.int ln)]) G := fun tq kq => K267 tq (XS.bipush X93.here hx rfl (hb hby at_103) kq)
                by_cases hc269 : (6 : Int32) < ln
                · skip
                  exfalso
                  simp only [Int32.lt_iff_toInt_lt, own_I0, own_I6] at hc98 hc269
                  omega
                · skip
                  have K270 : Go p e below T93 (mkF m 119 #[.val (.int q0), .val (.long q1), .second, .val (.long q2), .second, .val (.int q3), .val (.int ln), .val (.ref b93), .unset, .unset, .unset, .unset, .unset, .unset, .unset, .unset] []) G := fun tq kq => K268 tq (XS.icmpYes X93.here hx rfl (pc0 := 105) (pc' := 119) rfl (hb hby at_105) rfl ((flt hc269).2.2.2) (by decide) (by decide) kq)
                  refine ⟨T93, h93, _, [(.int (0 : Int32)), (.int (0 : Int32)), (.int (0 : Int32)), (.int (0 : Int32)), (.int (0 : Int32)), (.int (0 : Int32)), (.int (0 : Int32))], X93, e93, N0, (Nat.le_trans Z0 E93.1), V93, ?_, K270⟩
                  intro j j1 j2
                  exfalso
                  simp only [Int32.lt_iff_toInt_lt, own_I0, own_I1, own_I2, own_I3, own_I4, own_I5, own_I6, own_I7, own_I31, own_I2147483647] at j1 j2 hc98 hc249 hc253 hc257 hc261 hc265 hc269
                  omega
  obtain ⟨u, hj271, Kj271⟩ : ∃ (u : Int64), (u.toInt ≤ 31) ∧ Go p e below Tj (mkF m 136 #[.val (.int q0), .val (.long q1), .second, .val (.long q2), .second, .val (.int q3), .val (.int ln), .val (.ref b93), .unset, .unset, .unset, .unset, .unset, .unset, .unset, .unset] [(.long u)]) G := by
    have K272 : Go p e below Tj (mkF m 120 #[.val (.int q0), .val (.long q1), .second, .val (.long q2), .second, .val (.int q3), .val (.int ln), .val (.ref b93), .unset, .unset, .unset, .unset, .unset, .unset, .unset, .unset] [(.long q2)]) G := fun tq kq => Kj96 tq (XS.lloadN Xj.here hx rfl (hb hby at_119) rfl kq)
    have K273 : Go p e below Tj (mkF m 122 #[.val (.int q0), .val (.long q1), .second, .val (.long q2), .second, .val (.int q3), .val (.int ln), .val (.ref b93), .unset, .unset, .unset, .unset, .unset, .unset, .unset, .unset] [(.int ln), (.long q2)]) G := fun tq kq => K272 tq (XS.iload Xj.here hx rfl (hb hby at_120) rfl kq)
    have K274 : Go p e below Tj (mkF m 123 #[.val (.int q0), .val (.long q1), .second, .val (.long q2), .second, .val (.int q3), .val (.int ln), .val (.ref b93), .unset, .unset, .unset, .unset, .unset, .unset, .unset, .unset] [(.long (ln.toInt64)), (.long q2)]) G := fun tq kq => K273 tq (XS.i2l Xj.here hx rfl (hb hby at_122) rfl kq)
    have K275 : Go p e below Tj (mkF m 124 #[.val (.int q0), .val (.long q1), .second, .val (.long q2), .second, .val (.int q3), .val (.int ln), .val (.ref b93), .unset, .unset, .unset, .unset, .unset, .unset, .unset, .unset] [(.int (lcmpW q2 (ln.toInt64)))]) G := fun tq kq => K274 tq (XS.lcmp Xj.here hx rfl (hb hby at_123) rfl kq)
    by_cases hc276 : (ln.toInt64) < q2
    · skip
      have K277 : Go p e below Tj (mkF m 131 #[.val (.int q0), .val (.long q1), .second, .val (.long q2), .second, .val (.int q3), .val (.int ln), .val (.ref b93), .unset, .unset, .unset, .unset, .unset, .unset, .unset, .unset] []) G := fun tq kq => K275 tq (XS.ifYes Xj.here hx rfl (pc0 := 124) (pc' := 131) rfl (hb hby at_124) rfl ((if0 _ _).trans (tlt ((lw_gt _ _).mpr hc276)).2.2.1) (by decide) (by decide) kq)
      have K278 : Go p e below Tj (mkF m 132 #[.val (.int q0), .val (.long q1), .second, .val (.long q2), .second, .val (.int q3), .val (.int ln), .val (.ref b93), .unset, .unset, .unset, .unset, .unset, .unset, .unset, .unset] [(.long q2)]) G := fun tq kq => K277 tq (XS.lloadN Xj.here hx rfl (hb hby at_131) rfl kq)
      have K279 : Go p e below Tj (mkF m 135 #[.val (.int q0), .val (.long q1), .second, .val (.long q2), .second, .val (.int q3), .val (.int ln), .val (.ref b93), .unset, .unset, .unset, .unset, .unset, .unset, .unset, .unset] [(.long (31 : Int64)), (.long q2)]) G := fun tq kq => K278 tq (Xj.ldc2Long hx hown (mvT hZ (hW 9 _ rfl)) (g := (mkF m 132 #[.val (.int q0), .val (.long q1), .second, .val (.long q2), .second, .val (.int q3), .val (.int ln), .val (.ref b93), .unset, .unset, .unset, .unset, .unset, .unset, .unset, .unset] [(.long q2)])) rfl (hb hby at_132) _ kq)
      have K280 : Go p e below Tj (mkF m 136 #[.val (.int q0), .val (.long q1), .second, .val (.long q2), .second, .val (.int q3), .val (.int ln), .val (.ref b93), .unset, .unset, .unset, .unset, .unset, .unset, .unset, .unset] [(.long (q2 &&& (31 : Int64)))]) G := fun tq kq => K279 tq (XS.land Xj.here hx rfl (hb hby at_135) rfl kq)
      refine ⟨(q2 &&& (31 : Int64)), ?_, K280⟩
      exact own_and31 q2
    · skip
      have K281 : Go p e below Tj (mkF m 127 #[.val (.int q0), .val (.long q1), .second, .val (.long q2), .second, .val (.int q3), .val (.int ln), .val (.ref b93), .unset, .unset, .unset, .unset, .unset, .unset, .unset, .unset] []) G := fun tq kq => K275 tq (XS.ifNo Xj.here hx rfl (hb hby at_124) rfl ((if0 _ _).trans (flt (fun z => hc276 ((lw_gt _ _).mp z))).2.2.1) kq)
      have K282 : Go p e below Tj (mkF m 128 #[.val (.int q0), .val (.long q1), .second, .val (.long q2), .second, .val (.int q3), .val (.int ln), .val (.ref b93), .unset, .unset, .unset, .unset, .unset, .unset, .unset, .unset] [(.long q2)]) G := fun tq kq => K281 tq (XS.lloadN Xj.here hx rfl (hb hby at_127) rfl kq)
      have K283 : Go p e below Tj (mkF m 136 #[.val (.int q0), .val (.long q1), .second, .val (.long q2), .second, .val (.int q3), .val (.int ln), .val (.ref b93), .unset, .unset, .unset, .unset, .unset, .unset, .unset, .unset] [(.long q2)]) G := fun tq kq => K282 tq (XS.goto Xj.here hx rfl (pc0 := 128) (pc' := 136) rfl (hb hby at_128) (by decide) (by decide) kq)
      refine ⟨q2, ?_, K283⟩
      have q := hc276
      rw [Int64.lt_iff_toInt_lt, c_i2l] at q
      omega
  have hu := hj271
  have K284 : Go p e below Tj (mkF m 138 #[.val (.int q0), .val (.long q1), .second, .val (.long q2), .second, .val (.int q3), .val (.int ln), .val (.ref b93), .val (.long u), .second, .unset, .unset, .unset, .unset, .unset, .unset] []) G := fun tq kq => Kj271 tq (XS.lstore Xj.here hx rfl (hb hby at_136) rfl (l' := #[.val (.int q0), .val (.long q1), .second, .val (.long q2), .second, .val (.int q3), .val (.int ln), .val (.ref b93), .val (.long u), .second, .unset, .unset, .unset, .unset, .unset, .unset]) rfl kq)
  have K285 : Go p e below Tj (mkF m 140 #[.val (.int q0), .val (.long q1), .second, .val (.long q2), .second, .val (.int q3), .val (.int ln), .val (.ref b93), .val (.long u), .second, .unset, .unset, .unset, .unset, .unset, .unset] [(.ref b93)]) G := fun tq kq => K284 tq (XS.aload Xj.here hx rfl (hb hby at_138) rfl rfl kq)
  have K286 : Go p e below Tj (mkF m 142 #[.val (.int q0), .val (.long q1), .second, .val (.long q2), .second, .val (.int q3), .val (.int ln), .val (.ref b93), .val (.long u), .second, .unset, .unset, .unset, .unset, .unset, .unset] [(.long u), (.ref b93)]) G := fun tq kq => K285 tq (XS.lload Xj.here hx rfl (hb hby at_140) rfl kq)
  by_cases hgt : (ln.toInt64) < u
  · skip
    have hk := own_need u ln l1.1 l1.2 hu hgt
    obtain ⟨v287, _, ⟨T287, L287, k287, n287⟩, -, X287, ⟨Lc287, hQ287, l287, y287, z287⟩, st287⟩ := Jvm.LawKit.callS Xj hx (y := (⟨"com/example/tallyrule/tallyrule/Buffers", "grown", "([BJ)[B"⟩ : MethodName)) hown (mvT hZ (hW 1 _ rfl)) (mvT hZ (hW 2 _ rfl)) (mvT hZ (hW 3 _ rfl)) (mvT hZ (hW 4 _ rfl)) (by decide) (backOf (W := 0) (rmGB l Z a0 hw [] b93 u k93 ln vs hj n0 Zj Vj hgt l1 hu) hZ (hW 4 _ rfl) (hW 3 _ rfl) (by decide) (by decide)) (g := (mkF m 142 #[.val (.int q0), .val (.long q1), .second, .val (.long q2), .second, .val (.int q3), .val (.int ln), .val (.ref b93), .val (.long u), .second, .unset, .unset, .unset, .unset, .unset, .unset] [(.long u), (.ref b93)])) rfl (by rw [hml]; rfl) (argsL := [(.ref b93), (.long u)]) (rest := []) (lenOf pd_98 rfl) rfl (by show 2 * 0 + _ ≤ _; exact Nat.le_of_eq rfl) (hb hby at_142) (fun _ _ => ⟨rfl, ej, (by decide : 1 + 1 ≤ _), (by decide : 7 + 31 ≤ _)⟩)
    dsimp only [Pt.U, Pt.locs, Pt.cells, Pt.slots] at X287 l287 y287 z287 st287 hQ287
    subst l287 y287 z287
    obtain ⟨r, k', vr, rfl, N287q, K287q, szr, ger, Vr, hvr⟩ := hQ287
    have N287 := Fr.app Nj N287q
    have nea : b93 ≠ r := Nat.ne_of_lt (Nat.lt_of_lt_of_le Vj.lt szr)
    have K288 : Go p e below T287 (mkF m 145 #[.val (.int q0), .val (.long q1), .second, .val (.long q2), .second, .val (.int q3), .val (.int ln), .val (.ref b93), .val (.long u), .second, .unset, .unset, .unset, .unset, .unset, .unset] [(.ref r)]) G := fun tq kq => K286 tq (st287 tq kq)
    have K289 : Go p e below T287 (mkF m 147 #[.val (.int q0), .val (.long q1), .second, .val (.long q2), .second, .val (.int q3), .val (.int ln), .val (.ref b93), .val (.long u), .second, .val (.ref r), .unset, .unset, .unset, .unset, .unset] []) G := fun tq kq => K288 tq (XS.astore X287.here hx rfl (hb hby at_145) rfl rfl (l' := #[.val (.int q0), .val (.long q1), .second, .val (.long q2), .second, .val (.int q3), .val (.int ln), .val (.ref b93), .val (.long u), .second, .val (.ref r), .unset, .unset, .unset, .unset, .unset]) rfl kq)
    have K290 : Go p e below T287 (mkF m 149 #[.val (.int q0), .val (.long q1), .second, .val (.long q2), .second, .val (.int q3), .val (.int ln), .val (.ref b93), .val (.long u), .second, .val (.ref r), .unset, .unset, .unset, .unset, .unset] [(.long u)]) G := fun tq kq => K289 tq (XS.lload X287.here hx rfl (hb hby at_147) rfl kq)
    have K291 : Go p e below T287 (mkF m 151 #[.val (.int q0), .val (.long q1), .second, .val (.long q2), .second, .val (.int q3), .val (.int ln), .val (.ref b93), .val (.long u), .second, .val (.ref r), .unset, .unset, .unset, .unset, .unset] [(.int ln), (.long u)]) G := fun tq kq => K290 tq (XS.iload X287.here hx rfl (hb hby at_149) rfl kq)
    have K292 : Go p e below T287 (mkF m 152 #[.val (.int q0), .val (.long q1), .second, .val (.long q2), .second, .val (.int q3), .val (.int ln), .val (.ref b93), .val (.long u), .second, .val (.ref r), .unset, .unset, .unset, .unset, .unset] [(.long (ln.toInt64)), (.long u)]) G := fun tq kq => K291 tq (XS.i2l X287.here hx rfl (hb hby at_151) rfl kq)
    have K293 : Go p e below T287 (mkF m 153 #[.val (.int q0), .val (.long q1), .second, .val (.long q2), .second, .val (.int q3), .val (.int ln), .val (.ref b93), .val (.long u), .second, .val (.ref r), .unset, .unset, .unset, .unset, .unset] [(.int (lcmpW u (ln.toInt64)))]) G := fun tq kq => K292 tq (XS.lcmp X287.here hx rfl (hb hby at_152) rfl kq)
    have K294 : Go p e below T287 (mkF m 177 #[.val (.int q0), .val (.long q1), .second, .val (.long q2), .second, .val (.int q3), .val (.int ln), .val (.ref b93), .val (.long u), .second, .val (.ref r), .unset, .unset, .unset, .unset, .unset] []) G := fun tq kq => K293 tq (XS.ifYes X287.here hx rfl (pc0 := 153) (pc' := 177) rfl (hb hby at_153) rfl ((if0 _ _).trans (tlt ((lw_gt _ _).mpr hgt)).2.2.1) (by decide) (by decide) kq)
    have K295 : Go p e below T287 (mkF m 179 #[.val (.int q0), .val (.long q1), .second, .val (.long q2), .second, .val (.int q3), .val (.int ln), .val (.ref b93), .val (.long u), .second, .val (.ref r), .unset, .unset, .unset, .unset, .unset] [(.long u)]) G := fun tq kq => K294 tq (XS.lload X287.here hx rfl (hb hby at_177) rfl kq)
    have K296 : Go p e below T287 (mkF m 182 #[.val (.int q0), .val (.long q1), .second, .val (.long q2), .second, .val (.int q3), .val (.int ln), .val (.ref b93), .val (.long u), .second, .val (.ref r), .unset, .unset, .unset, .unset, .unset] [(.long (2 : Int64)), (.long u)]) G := fun tq kq => K295 tq (X287.ldc2Long hx hown (mvT hZ (hW 30 _ rfl)) (g := (mkF m 179 #[.val (.int q0), .val (.long q1), .second, .val (.long q2), .second, .val (.int q3), .val (.int ln), .val (.ref b93), .val (.long u), .second, .val (.ref r), .unset, .unset, .unset, .unset, .unset] [(.long u)])) rfl (hb hby at_179) _ kq)
    have K297 : Go p e below T287 (mkF m 184 #[.val (.int q0), .val (.long q1), .second, .val (.long q2), .second, .val (.int q3), .val (.int ln), .val (.ref b93), .val (.long u), .second, .val (.ref r), .unset, .unset, .unset, .unset, .unset] [(.int ln), (.long (2 : Int64)), (.long u)]) G := fun tq kq => K296 tq (XS.iload X287.here hx rfl (hb hby at_182) rfl kq)
    have K298 : Go p e below T287 (mkF m 185 #[.val (.int q0), .val (.long q1), .second, .val (.long q2), .second, .val (.int q3), .val (.int ln), .val (.ref b93), .val (.long u), .second, .val (.ref r), .unset, .unset, .unset, .unset, .unset] [(.long (ln.toInt64)), (.long (2 : Int64)), (.long u)]) G := fun tq kq => K297 tq (XS.i2l X287.here hx rfl (hb hby at_184) rfl kq)
    have K299 : Go p e below T287 (mkF m 186 #[.val (.int q0), .val (.long q1), .second, .val (.long q2), .second, .val (.int q3), .val (.int ln), .val (.ref b93), .val (.long u), .second, .val (.ref r), .unset, .unset, .unset, .unset, .unset] [(.long ((2 : Int64) * (ln.toInt64))), (.long u)]) G := fun tq kq => K298 tq (XS.lmul X287.here hx rfl (hb hby at_185) rfl kq)
    obtain ⟨v300, _, ⟨T300, L300, k300, n300⟩, -, X300, ⟨Lc300, hQ300, l300, y300, z300⟩, st300⟩ := Jvm.LawKit.callS X287 hx (y := (⟨"java/lang/Math", "max", "(JJ)J"⟩ : MethodName)) hown (mvT hZ (hW 31 _ rfl)) (mvT hZ (hW 13 _ rfl)) (mvT hZ (hW 14 _ rfl)) (mvT hZ (hW 15 _ rfl)) (by decide) (backOf (W := 0) (rmMaxJ l Z a0 hw [] u ((2 : Int64) * (ln.toInt64)) T287.heap n0 (Nat.le_trans Zj K287q.1)) hZ (hW 15 _ rfl) (hW 14 _ rfl) (by decide) (by decide)) (g := (mkF m 186 #[.val (.int q0), .val (.long q1), .second, .val (.long q2), .second, .val (.int q3), .val (.int ln), .val (.ref b93), .val (.long u), .second, .val (.ref r), .unset, .unset, .unset, .unset, .unset] [(.long ((2 : Int64) * (ln.toInt64))), (.long u)])) rfl (by rw [hml]; rfl) (argsL := [(.long u), (.long ((2 : Int64) * (ln.toInt64)))]) (rest := []) (lenOf pd_81 rfl) rfl (by show 2 * 0 + _ ≤ _; exact Nat.le_of_eq rfl) (hb hby at_186) (fun _ _ => ⟨rfl, rfl, (by decide : 2 + 0 ≤ _), (by decide : 38 + 0 ≤ _)⟩)
    dsimp only [Pt.U, Pt.locs, Pt.cells, Pt.slots] at X300 l300 y300 z300 st300 hQ300
    subst l300 y300 z300
    obtain ⟨rfl, N300q, E300q⟩ := hQ300
    have N300 := Fr.app N287 N300q
    have K301 : Go p e below T300 (mkF m 189 #[.val (.int q0), .val (.long q1), .second, .val (.long q2), .second, .val (.int q3), .val (.int ln), .val (.ref b93), .val (.long u), .second, .val (.ref r), .unset, .unset, .unset, .unset, .unset] [(.long (if u < ((2 : Int64) * (ln.toInt64)) then ((2 : Int64) * (ln.toInt64)) else u))]) G := fun tq kq => K299 tq (st300 tq kq)
    have K302 : Go p e below T300 (mkF m 191 #[.val (.int q0), .val (.long q1), .second, .val (.long q2), .second, .val (.int q3), .val (.int ln), .val (.ref b93), .val (.long u), .second, .val (.ref r), .val (.long (if u < ((2 : Int64) * (ln.toInt64)) then ((2 : Int64) * (ln.toInt64)) else u)), .second, .unset, .unset, .unset] []) G := fun tq kq => K301 tq (XS.lstore X300.here hx rfl (hb hby at_189) rfl (l' := #[.val (.int q0), .val (.long q1), .second, .val (.long q2), .second, .val (.int q3), .val (.int ln), .val (.ref b93), .val (.long u), .second, .val (.ref r), .val (.long (if u < ((2 : Int64) * (ln.toInt64)) then ((2 : Int64) * (ln.toInt64)) else u)), .second, .unset, .unset, .unset]) rfl kq)
    have hL : (((if u < ((2 : Int64) * (ln.toInt64)) then ((2 : Int64) * (ln.toInt64)) else u).toInt32).toInt64) = (if u < ((2 : Int64) * (ln.toInt64)) then ((2 : Int64) * (ln.toInt64)) else u) := by rw [← Int64.toInt_inj, c_i2l]; exact hk.2.1
    have rl0 : ((if u < ((2 : Int64) * (ln.toInt64)) then ((2 : Int64) * (ln.toInt64)) else u).toInt32) ≠ 0 := by
      intro q
      have q2 := hk.2.1
      rw [q, own_I0] at q2
      omega
    have K303 : Go p e below T300 (mkF m 193 #[.val (.int q0), .val (.long q1), .second, .val (.long q2), .second, .val (.int q3), .val (.int ln), .val (.ref b93), .val (.long u), .second, .val (.ref r), .val (.long (if u < ((2 : Int64) * (ln.toInt64)) then ((2 : Int64) * (ln.toInt64)) else u)), .second, .unset, .unset, .unset] [(.ref r)]) G := fun tq kq => K302 tq (XS.aload X300.here hx rfl (hb hby at_191) rfl rfl kq)
    have K304 : Go p e below T300 (mkF m 195 #[.val (.int q0), .val (.long q1), .second, .val (.long q2), .second, .val (.int q3), .val (.int ln), .val (.ref b93), .val (.long u), .second, .val (.ref r), .val (.long (if u < ((2 : Int64) * (ln.toInt64)) then ((2 : Int64) * (ln.toInt64)) else u)), .second, .unset, .unset, .unset] [(.ref b93), (.ref r)]) G := fun tq kq => K303 tq (XS.aload X300.here hx rfl (hb hby at_193) rfl rfl kq)
    have K305 : Go p e below T300 (mkF m 198 #[.val (.int q0), .val (.long q1), .second, .val (.long q2), .second, .val (.int q3), .val (.int ln), .val (.ref b93), .val (.long u), .second, .val (.ref r), .val (.long (if u < ((2 : Int64) * (ln.toInt64)) then ((2 : Int64) * (ln.toInt64)) else u)), .second, .unset, .unset, .unset] []) G := fun tq kq => K304 tq (Jvm.RoadKit.acmp (g := (mkF m 195 #[.val (.int q0), .val (.long q1), .second, .val (.long q2), .second, .val (.int q3), .val (.int ln), .val (.ref b93), .val (.long u), .second, .val (.ref r), .val (.long (if u < ((2 : Int64) * (ln.toInt64)) then ((2 : Int64) * (ln.toInt64)) else u)), .second, .unset, .unset, .unset] [(.ref b93), (.ref r)])) X300 hx rfl rfl rfl (pc0 := 195) (pc' := 198) (same := false) rfl (hb hby at_195) rfl (decide_eq_false fun q => (Ne.symm nea) (Value.ref.inj q)) (by decide) (by decide) kq)
    have K306 : Go p e below T300 (mkF m 200 #[.val (.int q0), .val (.long q1), .second, .val (.long q2), .second, .val (.int q3), .val (.int ln), .val (.ref b93), .val (.long u), .second, .val (.ref r), .val (.long (if u < ((2 : Int64) * (ln.toInt64)) then ((2 : Int64) * (ln.toInt64)) else u)), .second, .unset, .unset, .unset] [(.ref r)]) G := fun tq kq => K305 tq (XS.aload X300.here hx rfl (hb hby at_198) rfl rfl kq)
    obtain ⟨cl307, Ar307, q307, S307, Nn307, Hh307, Gg307⟩ := id Vr
    have K308 : Go p e below T300 (mkF m 201 #[.val (.int q0), .val (.long q1), .second, .val (.long q2), .second, .val (.int q3), .val (.int ln), .val (.ref b93), .val (.long u), .second, .val (.ref r), .val (.long (if u < ((2 : Int64) * (ln.toInt64)) then ((2 : Int64) * (ln.toInt64)) else u)), .second, .unset, .unset, .unset] [(.int ((if u < ((2 : Int64) * (ln.toInt64)) then ((2 : Int64) * (ln.toInt64)) else u).toInt32))]) G := fun tq kq => K306 tq (X300.arraylength hx (by rw [E300q]; exact Ar307.1) (State.isArrayOf_alike hZ.alike Ar307.2.1) (g := (mkF m 200 #[.val (.int q0), .val (.long q1), .second, .val (.long q2), .second, .val (.int q3), .val (.int ln), .val (.ref b93), .val (.long u), .second, .val (.ref r), .val (.long (if u < ((2 : Int64) * (ln.toInt64)) then ((2 : Int64) * (ln.toInt64)) else u)), .second, .unset, .unset, .unset] [(.ref r)])) rfl rfl (hb hby at_200) _ (by rw [len_of S307 Nn307]; exact kq))
    have K309 : Go p e below T300 (mkF m 202 #[.val (.int q0), .val (.long q1), .second, .val (.long q2), .second, .val (.int q3), .val (.int ln), .val (.ref b93), .val (.long u), .second, .val (.ref r), .val (.long (if u < ((2 : Int64) * (ln.toInt64)) then ((2 : Int64) * (ln.toInt64)) else u)), .second, .unset, .unset, .unset] [(.long (((if u < ((2 : Int64) * (ln.toInt64)) then ((2 : Int64) * (ln.toInt64)) else u).toInt32).toInt64))]) G := fun tq kq => K308 tq (XS.i2l X300.here hx rfl (hb hby at_201) rfl kq)
    have K310 : Go p e below T300 (mkF m 204 #[.val (.int q0), .val (.long q1), .second, .val (.long q2), .second, .val (.int q3), .val (.int ln), .val (.ref b93), .val (.long u), .second, .val (.ref r), .val (.long (if u < ((2 : Int64) * (ln.toInt64)) then ((2 : Int64) * (ln.toInt64)) else u)), .second, .unset, .unset, .unset] [(.long (if u < ((2 : Int64) * (ln.toInt64)) then ((2 : Int64) * (ln.toInt64)) else u)), (.long (((if u < ((2 : Int64) * (ln.toInt64)) then ((2 : Int64) * (ln.toInt64)) else u).toInt32).toInt64))]) G := fun tq kq => K309 tq (XS.lload X300.here hx rfl (hb hby at_202) rfl kq)
    have K311 : Go p e below T300 (mkF m 205 #[.val (.int q0), .val (.long q1), .second, .val (.long q2), .second, .val (.int q3), .val (.int ln), .val (.ref b93), .val (.long u), .second, .val (.ref r), .val (.long (if u < ((2 : Int64) * (ln.toInt64)) then ((2 : Int64) * (ln.toInt64)) else u)), .second, .unset, .unset, .unset] [(.int (lcmpW (((if u < ((2 : Int64) * (ln.toInt64)) then ((2 : Int64) * (ln.toInt64)) else u).toInt32).toInt64) (if u < ((2 : Int64) * (ln.toInt64)) then ((2 : Int64) * (ln.toInt64)) else u)))]) G := fun tq kq => K310 tq (XS.lcmp X300.here hx rfl (hb hby at_204) rfl kq)
    have K312 : Go p e below T300 (mkF m 210 #[.val (.int q0), .val (.long q1), .second, .val (.long q2), .second, .val (.int q3), .val (.int ln), .val (.ref b93), .val (.long u), .second, .val (.ref r), .val (.long (if u < ((2 : Int64) * (ln.toInt64)) then ((2 : Int64) * (ln.toInt64)) else u)), .second, .unset, .unset, .unset] []) G := fun tq kq => K311 tq (XS.ifYes X300.here hx rfl (pc0 := 205) (pc' := 210) rfl (hb hby at_205) rfl ((if0 _ _).trans (teq ((lw_eq _ _).mpr hL)).1) (by decide) (by decide) kq)
    have K313 : Go p e below T300 (mkF m 212 #[.val (.int q0), .val (.long q1), .second, .val (.long q2), .second, .val (.int q3), .val (.int ln), .val (.ref b93), .val (.long u), .second, .val (.ref r), .val (.long (if u < ((2 : Int64) * (ln.toInt64)) then ((2 : Int64) * (ln.toInt64)) else u)), .second, .unset, .unset, .unset] [(.int q3)]) G := fun tq kq => K312 tq (XS.iload X300.here hx rfl (hb hby at_210) rfl kq)
    have K314 : Go p e below T300 (mkF m 214 #[.val (.int q0), .val (.long q1), .second, .val (.long q2), .second, .val (.int q3), .val (.int ln), .val (.ref b93), .val (.long u), .second, .val (.ref r), .val (.long (if u < ((2 : Int64) * (ln.toInt64)) then ((2 : Int64) * (ln.toInt64)) else u)), .second, .unset, .unset, .unset] [(.int (2147483647 : Int32)), (.int q3)]) G := fun tq kq => K313 tq (X300.ldcInt hx hown (mvT hZ (hW 32 _ rfl)) (g := (mkF m 212 #[.val (.int q0), .val (.long q1), .second, .val (.long q2), .second, .val (.int q3), .val (.int ln), .val (.ref b93), .val (.long u), .second, .val (.ref r), .val (.long (if u < ((2 : Int64) * (ln.toInt64)) then ((2 : Int64) * (ln.toInt64)) else u)), .second, .unset, .unset, .unset] [(.int q3)])) rfl (hb hby at_212) _ kq)
    have K315 : Go p e below T300 (mkF m 215 #[.val (.int q0), .val (.long q1), .second, .val (.long q2), .second, .val (.int q3), .val (.int ln), .val (.ref b93), .val (.long u), .second, .val (.ref r), .val (.long (if u < ((2 : Int64) * (ln.toInt64)) then ((2 : Int64) * (ln.toInt64)) else u)), .second, .unset, .unset, .unset] [(.int (q3 &&& (2147483647 : Int32)))]) G := fun tq kq => K314 tq (XS.iand X300.here hx rfl (hb hby at_214) rfl kq)
    have K316 : Go p e below T300 (mkF m 217 #[.val (.int q0), .val (.long q1), .second, .val (.long q2), .second, .val (.int q3), .val (.int ln), .val (.ref b93), .val (.long u), .second, .val (.ref r), .val (.long (if u < ((2 : Int64) * (ln.toInt64)) then ((2 : Int64) * (ln.toInt64)) else u)), .second, .unset, .unset, .unset] [(.ref r), (.int (q3 &&& (2147483647 : Int32)))]) G := fun tq kq => K315 tq (XS.aload X300.here hx rfl (hb hby at_215) rfl rfl kq)
    obtain ⟨cl317, Ar317, q317, S317, Nn317, Hh317, Gg317⟩ := id Vr
    have K318 : Go p e below T300 (mkF m 218 #[.val (.int q0), .val (.long q1), .second, .val (.long q2), .second, .val (.int q3), .val (.int ln), .val (.ref b93), .val (.long u), .second, .val (.ref r), .val (.long (if u < ((2 : Int64) * (ln.toInt64)) then ((2 : Int64) * (ln.toInt64)) else u)), .second, .unset, .unset, .unset] [(.int ((if u < ((2 : Int64) * (ln.toInt64)) then ((2 : Int64) * (ln.toInt64)) else u).toInt32)), (.int (q3 &&& (2147483647 : Int32)))]) G := fun tq kq => K316 tq (X300.arraylength hx (by rw [E300q]; exact Ar317.1) (State.isArrayOf_alike hZ.alike Ar317.2.1) (g := (mkF m 217 #[.val (.int q0), .val (.long q1), .second, .val (.long q2), .second, .val (.int q3), .val (.int ln), .val (.ref b93), .val (.long u), .second, .val (.ref r), .val (.long (if u < ((2 : Int64) * (ln.toInt64)) then ((2 : Int64) * (ln.toInt64)) else u)), .second, .unset, .unset, .unset] [(.ref r), (.int (q3 &&& (2147483647 : Int32)))])) rfl rfl (hb hby at_217) _ (by rw [len_of S317 Nn317]; exact kq))
    have K319 : Go p e below T300 (mkF m 219 #[.val (.int q0), .val (.long q1), .second, .val (.long q2), .second, .val (.int q3), .val (.int ln), .val (.ref b93), .val (.long u), .second, .val (.ref r), .val (.long (if u < ((2 : Int64) * (ln.toInt64)) then ((2 : Int64) * (ln.toInt64)) else u)), .second, .unset, .unset, .unset] [(.int ((q3 &&& (2147483647 : Int32)) % ((if u < ((2 : Int64) * (ln.toInt64)) then ((2 : Int64) * (ln.toInt64)) else u).toInt32)))]) G := fun tq kq => K318 tq (iremM X300 hx rfl (hb hby at_218) rfl rl0 kq)
    have K320 : Go p e below T300 (mkF m 221 #[.val (.int q0), .val (.long q1), .second, .val (.long q2), .second, .val (.int q3), .val (.int ln), .val (.ref b93), .val (.long u), .second, .val (.ref r), .val (.long (if u < ((2 : Int64) * (ln.toInt64)) then ((2 : Int64) * (ln.toInt64)) else u)), .second, .val (.int ((q3 &&& (2147483647 : Int32)) % ((if u < ((2 : Int64) * (ln.toInt64)) then ((2 : Int64) * (ln.toInt64)) else u).toInt32))), .unset, .unset] []) G := fun tq kq => K319 tq (XS.istore X300.here hx rfl (hb hby at_219) rfl (l' := #[.val (.int q0), .val (.long q1), .second, .val (.long q2), .second, .val (.int q3), .val (.int ln), .val (.ref b93), .val (.long u), .second, .val (.ref r), .val (.long (if u < ((2 : Int64) * (ln.toInt64)) then ((2 : Int64) * (ln.toInt64)) else u)), .second, .val (.int ((q3 &&& (2147483647 : Int32)) % ((if u < ((2 : Int64) * (ln.toInt64)) then ((2 : Int64) * (ln.toInt64)) else u).toInt32))), .unset, .unset]) rfl kq)
    obtain ⟨kk, h_kk⟩ : ∃ z, z = ((q3 &&& (2147483647 : Int32)) % ((if u < ((2 : Int64) * (ln.toInt64)) then ((2 : Int64) * (ln.toInt64)) else u).toInt32)) := ⟨_, rfl⟩
    have K321 : Go p e below T300 (mkF m 221 #[.val (.int q0), .val (.long q1), .second, .val (.long q2), .second, .val (.int q3), .val (.int ln), .val (.ref b93), .val (.long u), .second, .val (.ref r), .val (.long (if u < ((2 : Int64) * (ln.toInt64)) then ((2 : Int64) * (ln.toInt64)) else u)), .second, .val (.int kk), .unset, .unset] []) G := by rw [h_kk]; exact K320
    have k1 : 0 ≤ kk.toInt ∧ kk.toInt < (((if u < ((2 : Int64) * (ln.toInt64)) then ((2 : Int64) * (ln.toInt64)) else u).toInt32)).toInt := by
      rw [h_kk]
      have q := c_and q3 (2147483647 : Int32) (by decide)
      have q2 := (c_iremV (q3 &&& (2147483647 : Int32)) ((if u < ((2 : Int64) * (ln.toInt64)) then ((2 : Int64) * (ln.toInt64)) else u).toInt32)).1 q.1 (by rw [hk.2.1]; omega)
      exact ⟨q2.1, q2.2.1⟩
    have k0 : ¬ kk < 0 := by
      rw [Int32.lt_iff_toInt_lt, own_I0]
      omega
    have k2 : kk < ((if u < ((2 : Int64) * (ln.toInt64)) then ((2 : Int64) * (ln.toInt64)) else u).toInt32) := by
      rw [Int32.lt_iff_toInt_lt]
      exact k1.2
    have ck := own_nat kk k0
    have K322 : Go p e below T300 (mkF m 223 #[.val (.int q0), .val (.long q1), .second, .val (.long q2), .second, .val (.int q3), .val (.int ln), .val (.ref b93), .val (.long u), .second, .val (.ref r), .val (.long (if u < ((2 : Int64) * (ln.toInt64)) then ((2 : Int64) * (ln.toInt64)) else u)), .second, .val (.int kk), .unset, .unset] [(.int kk)]) G := fun tq kq => K321 tq (XS.iload X300.here hx rfl (hb hby at_221) rfl kq)
    have K323 : Go p e below T300 (mkF m 225 #[.val (.int q0), .val (.long q1), .second, .val (.long q2), .second, .val (.int q3), .val (.int ln), .val (.ref b93), .val (.long u), .second, .val (.ref r), .val (.long (if u < ((2 : Int64) * (ln.toInt64)) then ((2 : Int64) * (ln.toInt64)) else u)), .second, .val (.int kk), .unset, .unset] [(.int ln), (.int kk)]) G := fun tq kq => K322 tq (XS.iload X300.here hx rfl (hb hby at_223) rfl kq)
    by_cases hc324 : kk < ln
    · skip
      have K325 : Go p e below T300 (mkF m 228 #[.val (.int q0), .val (.long q1), .second, .val (.long q2), .second, .val (.int q3), .val (.int ln), .val (.ref b93), .val (.long u), .second, .val (.ref r), .val (.long (if u < ((2 : Int64) * (ln.toInt64)) then ((2 : Int64) * (ln.toInt64)) else u)), .second, .val (.int kk), .unset, .unset] []) G := fun tq kq => K323 tq (XS.icmpNo X300.here hx rfl (hb hby at_225) rfl ((tlt hc324).2.1) kq)
      have K326 : Go p e below T300 (mkF m 229 #[.val (.int q0), .val (.long q1), .second, .val (.long q2), .second, .val (.int q3), .val (.int ln), .val (.ref b93), .val (.long u), .second, .val (.ref r), .val (.long (if u < ((2 : Int64) * (ln.toInt64)) then ((2 : Int64) * (ln.toInt64)) else u)), .second, .val (.int kk), .unset, .unset] [(.long q1)]) G := fun tq kq => K325 tq (XS.lloadN X300.here hx rfl (hb hby at_228) rfl kq)
      have K327 : Go p e below T300 (mkF m 231 #[.val (.int q0), .val (.long q1), .second, .val (.long q2), .second, .val (.int q3), .val (.int ln), .val (.ref b93), .val (.long u), .second, .val (.ref r), .val (.long (if u < ((2 : Int64) * (ln.toInt64)) then ((2 : Int64) * (ln.toInt64)) else u)), .second, .val (.int kk), .unset, .unset] [(.int kk), (.long q1)]) G := fun tq kq => K326 tq (XS.iload X300.here hx rfl (hb hby at_229) rfl kq)
      obtain ⟨v328, _, ⟨T328, L328, k328, n328⟩, -, X328, ⟨Lc328, hQ328, l328, y328, z328⟩, st328⟩ := Jvm.LawKit.callS X300 hx (y := (⟨"com/example/tallyrule/tallyrule/BuffersGrownPinLaw", "byteAt", "(JI)B"⟩ : MethodName)) hown (mvT hZ (hW 5 _ rfl)) (mvT hZ (hW 6 _ rfl)) (mvT hZ (hW 7 _ rfl)) (mvT hZ (hW 8 _ rfl)) (by decide) (backOf (W := 0) (rmBA l Z a0 hw [] q1 kk T287.heap n0 (Nat.le_trans Zj K287q.1)) hZ (hW 8 _ rfl) (hW 7 _ rfl) (by decide) (by decide)) (g := (mkF m 231 #[.val (.int q0), .val (.long q1), .second, .val (.long q2), .second, .val (.int q3), .val (.int ln), .val (.ref b93), .val (.long u), .second, .val (.ref r), .val (.long (if u < ((2 : Int64) * (ln.toInt64)) then ((2 : Int64) * (ln.toInt64)) else u)), .second, .val (.int kk), .unset, .unset] [(.int kk), (.long q1)])) rfl (by rw [hml]; rfl) (argsL := [(.long q1), (.int kk)]) (rest := []) (lenOf pd_97 rfl) rfl (by show 2 * 0 + _ ≤ _; exact Nat.le_of_eq rfl) (hb hby at_231) (fun _ _ => ⟨rfl, E300q, (by decide : 2 + 0 ≤ _), (by decide : 38 + 0 ≤ _)⟩)
      dsimp only [Pt.U, Pt.locs, Pt.cells, Pt.slots] at X328 l328 y328 z328 st328 hQ328
      subst l328 y328 z328
      obtain ⟨rfl, N328q, E328q⟩ := hQ328
      have N328 := Fr.app N300 N328q
      have K329 : Go p e below T328 (mkF m 234 #[.val (.int q0), .val (.long q1), .second, .val (.long q2), .second, .val (.int q3), .val (.int ln), .val (.ref b93), .val (.long u), .second, .val (.ref r), .val (.long (if u < ((2 : Int64) * (ln.toInt64)) then ((2 : Int64) * (ln.toInt64)) else u)), .second, .val (.int kk), .unset, .unset] [(.int (own_B q1 kk))]) G := fun tq kq => K327 tq (st328 tq kq)
      have K330 : Go p e below T328 (mkF m 238 #[.val (.int q0), .val (.long q1), .second, .val (.long q2), .second, .val (.int q3), .val (.int ln), .val (.ref b93), .val (.long u), .second, .val (.ref r), .val (.long (if u < ((2 : Int64) * (ln.toInt64)) then ((2 : Int64) * (ln.toInt64)) else u)), .second, .val (.int kk), .unset, .unset] [(.int (own_B q1 kk))]) G := fun tq kq => K329 tq (XS.goto X328.here hx rfl (pc0 := 234) (pc' := 238) rfl (hb hby at_234) (by decide) (by decide) kq)
      have K331 : Go p e below T328 (mkF m 240 #[.val (.int q0), .val (.long q1), .second, .val (.long q2), .second, .val (.int q3), .val (.int ln), .val (.ref b93), .val (.long u), .second, .val (.ref r), .val (.long (if u < ((2 : Int64) * (ln.toInt64)) then ((2 : Int64) * (ln.toInt64)) else u)), .second, .val (.int kk), .val (.int (own_B q1 kk)), .unset] []) G := fun tq kq => K330 tq (XS.istore X328.here hx rfl (hb hby at_238) rfl (l' := #[.val (.int q0), .val (.long q1), .second, .val (.long q2), .second, .val (.int q3), .val (.int ln), .val (.ref b93), .val (.long u), .second, .val (.ref r), .val (.long (if u < ((2 : Int64) * (ln.toInt64)) then ((2 : Int64) * (ln.toInt64)) else u)), .second, .val (.int kk), .val (.int (own_B q1 kk)), .unset]) rfl kq)
      have K332 : Go p e below T328 (mkF m 242 #[.val (.int q0), .val (.long q1), .second, .val (.long q2), .second, .val (.int q3), .val (.int ln), .val (.ref b93), .val (.long u), .second, .val (.ref r), .val (.long (if u < ((2 : Int64) * (ln.toInt64)) then ((2 : Int64) * (ln.toInt64)) else u)), .second, .val (.int kk), .val (.int (own_B q1 kk)), .unset] [(.ref r)]) G := fun tq kq => K331 tq (XS.aload X328.here hx rfl (hb hby at_240) rfl rfl kq)
      have K333 : Go p e below T328 (mkF m 244 #[.val (.int q0), .val (.long q1), .second, .val (.long q2), .second, .val (.int q3), .val (.int ln), .val (.ref b93), .val (.long u), .second, .val (.ref r), .val (.long (if u < ((2 : Int64) * (ln.toInt64)) then ((2 : Int64) * (ln.toInt64)) else u)), .second, .val (.int kk), .val (.int (own_B q1 kk)), .unset] [(.int kk), (.ref r)]) G := fun tq kq => K332 tq (XS.iload X328.here hx rfl (hb hby at_242) rfl kq)
      obtain ⟨cl334, Ar334, q334, S334, Nn334, Hh334, Gg334⟩ := id Vr
      have hin334 : ¬ (kk < 0 ∨ cl334.slots.size ≤ (kk).toNatClampNeg) := inb_of S334 ⟨k0, k2⟩
      have hat334 := Has.at (v := (.int (own_B q1 kk))) Hh334 hin334 (by rw [hvr, if_pos (by have q := hc324; rw [Int32.lt_iff_toInt_lt] at q; omega)]; exact hvs kk k0 hc324)
      have K335 : Go p e below T328 (mkF m 245 #[.val (.int q0), .val (.long q1), .second, .val (.long q2), .second, .val (.int q3), .val (.int ln), .val (.ref b93), .val (.long u), .second, .val (.ref r), .val (.long (if u < ((2 : Int64) * (ln.toInt64)) then ((2 : Int64) * (ln.toInt64)) else u)), .second, .val (.int kk), .val (.int (own_B q1 kk)), .unset] [(.int (own_B q1 kk))]) G := fun tq kq => K333 tq (X328.baloadBytes hx (j := kk) (v := (.int (own_B q1 kk))) (by rw [E328q]; exact Ar334.1) (State.isArrayOf_alike hZ.alike Ar334.2.1) Ar334.2.2 hin334 hat334 (g := (mkF m 244 #[.val (.int q0), .val (.long q1), .second, .val (.long q2), .second, .val (.int q3), .val (.int ln), .val (.ref b93), .val (.long u), .second, .val (.ref r), .val (.long (if u < ((2 : Int64) * (ln.toInt64)) then ((2 : Int64) * (ln.toInt64)) else u)), .second, .val (.int kk), .val (.int (own_B q1 kk)), .unset] [(.int kk), (.ref r)])) rfl rfl (hb hby at_244) _ kq)
      have K336 : Go p e below T328 (mkF m 247 #[.val (.int q0), .val (.long q1), .second, .val (.long q2), .second, .val (.int q3), .val (.int ln), .val (.ref b93), .val (.long u), .second, .val (.ref r), .val (.long (if u < ((2 : Int64) * (ln.toInt64)) then ((2 : Int64) * (ln.toInt64)) else u)), .second, .val (.int kk), .val (.int (own_B q1 kk)), .unset] [(.int (own_B q1 kk)), (.int (own_B q1 kk))]) G := fun tq kq => K335 tq (XS.iload X328.here hx rfl (hb hby at_245) rfl kq)
      have K337 : Go p e below T328 (mkF m 252 #[.val (.int q0), .val (.long q1), .second, .val (.long q2), .second, .val (.int q3), .val (.int ln), .val (.ref b93), .val (.long u), .second, .val (.ref r), .val (.long (if u < ((2 : Int64) * (ln.toInt64)) then ((2 : Int64) * (ln.toInt64)) else u)), .second, .val (.int kk), .val (.int (own_B q1 kk)), .unset] []) G := fun tq kq => K336 tq (XS.icmpYes X328.here hx rfl (pc0 := 247) (pc' := 252) rfl (hb hby at_247) rfl ((teq (rfl : (own_B q1 kk) = (own_B q1 kk))).1) (by decide) (by decide) kq)
      have K338 : Go p e below T328 (mkF m 254 #[.val (.int q0), .val (.long q1), .second, .val (.long q2), .second, .val (.int q3), .val (.int ln), .val (.ref b93), .val (.long u), .second, .val (.ref r), .val (.long (if u < ((2 : Int64) * (ln.toInt64)) then ((2 : Int64) * (ln.toInt64)) else u)), .second, .val (.int kk), .val (.int (own_B q1 kk)), .unset] [(.int ln)]) G := fun tq kq => K337 tq (XS.iload X328.here hx rfl (hb hby at_252) rfl kq)
      by_cases hc339 : (0 : Int32) < ln
      · skip
        have K340 : Go p e below T328 (mkF m 257 #[.val (.int q0), .val (.long q1), .second, .val (.long q2), .second, .val (.int q3), .val (.int ln), .val (.ref b93), .val (.long u), .second, .val (.ref r), .val (.long (if u < ((2 : Int64) * (ln.toInt64)) then ((2 : Int64) * (ln.toInt64)) else u)), .second, .val (.int kk), .val (.int (own_B q1 kk)), .unset] []) G := fun tq kq => K338 tq (XS.ifNo X328.here hx rfl (hb hby at_254) rfl ((if0 _ _).trans (tlt hc339).2.2.2) kq)
        have K341 : Go p e below T328 (mkF m 259 #[.val (.int q0), .val (.long q1), .second, .val (.long q2), .second, .val (.int q3), .val (.int ln), .val (.ref b93), .val (.long u), .second, .val (.ref r), .val (.long (if u < ((2 : Int64) * (ln.toInt64)) then ((2 : Int64) * (ln.toInt64)) else u)), .second, .val (.int kk), .val (.int (own_B q1 kk)), .unset] [(.int kk)]) G := fun tq kq => K340 tq (XS.iload X328.here hx rfl (hb hby at_257) rfl kq)
        have K342 : Go p e below T328 (mkF m 261 #[.val (.int q0), .val (.long q1), .second, .val (.long q2), .second, .val (.int q3), .val (.int ln), .val (.ref b93), .val (.long u), .second, .val (.ref r), .val (.long (if u < ((2 : Int64) * (ln.toInt64)) then ((2 : Int64) * (ln.toInt64)) else u)), .second, .val (.int kk), .val (.int (own_B q1 kk)), .unset] [(.int ln), (.int kk)]) G := fun tq kq => K341 tq (XS.iload X328.here hx rfl (hb hby at_259) rfl kq)
        have ln0 : ln ≠ 0 := by
          intro q
          have q2 := hc339
          rw [q, Int32.lt_iff_toInt_lt] at q2
          omega
        have K343 : Go p e below T328 (mkF m 262 #[.val (.int q0), .val (.long q1), .second, .val (.long q2), .second, .val (.int q3), .val (.int ln), .val (.ref b93), .val (.long u), .second, .val (.ref r), .val (.long (if u < ((2 : Int64) * (ln.toInt64)) then ((2 : Int64) * (ln.toInt64)) else u)), .second, .val (.int kk), .val (.int (own_B q1 kk)), .unset] [(.int (kk % ln))]) G := fun tq kq => K342 tq (iremM X328 hx rfl (hb hby at_261) rfl ln0 kq)
        have K344 : Go p e below T328 (mkF m 264 #[.val (.int q0), .val (.long q1), .second, .val (.long q2), .second, .val (.int q3), .val (.int ln), .val (.ref b93), .val (.long u), .second, .val (.ref r), .val (.long (if u < ((2 : Int64) * (ln.toInt64)) then ((2 : Int64) * (ln.toInt64)) else u)), .second, .val (.int kk), .val (.int (own_B q1 kk)), .val (.int (kk % ln))] []) G := fun tq kq => K343 tq (XS.istore X328.here hx rfl (hb hby at_262) rfl (l' := #[.val (.int q0), .val (.long q1), .second, .val (.long q2), .second, .val (.int q3), .val (.int ln), .val (.ref b93), .val (.long u), .second, .val (.ref r), .val (.long (if u < ((2 : Int64) * (ln.toInt64)) then ((2 : Int64) * (ln.toInt64)) else u)), .second, .val (.int kk), .val (.int (own_B q1 kk)), .val (.int (kk % ln))]) rfl kq)
        obtain ⟨jj, h_jj⟩ : ∃ z, z = (kk % ln) := ⟨_, rfl⟩
        have K345 : Go p e below T328 (mkF m 264 #[.val (.int q0), .val (.long q1), .second, .val (.long q2), .second, .val (.int q3), .val (.int ln), .val (.ref b93), .val (.long u), .second, .val (.ref r), .val (.long (if u < ((2 : Int64) * (ln.toInt64)) then ((2 : Int64) * (ln.toInt64)) else u)), .second, .val (.int kk), .val (.int (own_B q1 kk)), .val (.int jj)] []) G := by rw [h_jj]; exact K344
        have j1 : 0 ≤ jj.toInt ∧ jj.toInt < ln.toInt := by
          rw [h_jj]
          have q2 := (c_iremV kk ln).1 k1.1 (by have q := hc339; rw [Int32.lt_iff_toInt_lt, own_I0] at q; exact q)
          exact ⟨q2.1, q2.2.1⟩
        have j0 : ¬ jj < 0 := by
          rw [Int32.lt_iff_toInt_lt, own_I0]
          omega
        have j2 : jj < ln := by
          rw [Int32.lt_iff_toInt_lt]
          exact j1.2
        have K346 : Go p e below T328 (mkF m 266 #[.val (.int q0), .val (.long q1), .second, .val (.long q2), .second, .val (.int q3), .val (.int ln), .val (.ref b93), .val (.long u), .second, .val (.ref r), .val (.long (if u < ((2 : Int64) * (ln.toInt64)) then ((2 : Int64) * (ln.toInt64)) else u)), .second, .val (.int kk), .val (.int (own_B q1 kk)), .val (.int jj)] [(.ref b93)]) G := fun tq kq => K345 tq (XS.aload X328.here hx rfl (hb hby at_264) rfl rfl kq)
        have K347 : Go p e below T328 (mkF m 268 #[.val (.int q0), .val (.long q1), .second, .val (.long q2), .second, .val (.int q3), .val (.int ln), .val (.ref b93), .val (.long u), .second, .val (.ref r), .val (.long (if u < ((2 : Int64) * (ln.toInt64)) then ((2 : Int64) * (ln.toInt64)) else u)), .second, .val (.int kk), .val (.int (own_B q1 kk)), .val (.int jj)] [(.int jj), (.ref b93)]) G := fun tq kq => K346 tq (XS.iload X328.here hx rfl (hb hby at_266) rfl kq)
        obtain ⟨cl348, Ar348, q348, S348, Nn348, Hh348, Gg348⟩ := id (Vj.keep K287q nin0)
        have hin348 : ¬ (jj < 0 ∨ cl348.slots.size ≤ (jj).toNatClampNeg) := inb_of S348 ⟨j0, j2⟩
        have hat348 := Has.at (v := (.int (own_B q1 jj))) Hh348 hin348 (hvs jj j0 j2)
        have K349 : Go p e below T328 (mkF m 269 #[.val (.int q0), .val (.long q1), .second, .val (.long q2), .second, .val (.int q3), .val (.int ln), .val (.ref b93), .val (.long u), .second, .val (.ref r), .val (.long (if u < ((2 : Int64) * (ln.toInt64)) then ((2 : Int64) * (ln.toInt64)) else u)), .second, .val (.int kk), .val (.int (own_B q1 kk)), .val (.int jj)] [(.int (own_B q1 jj))]) G := fun tq kq => K347 tq (X328.baloadBytes hx (j := jj) (v := (.int (own_B q1 jj))) (by rw [E328q]; exact Ar348.1) (State.isArrayOf_alike hZ.alike Ar348.2.1) Ar348.2.2 hin348 hat348 (g := (mkF m 268 #[.val (.int q0), .val (.long q1), .second, .val (.long q2), .second, .val (.int q3), .val (.int ln), .val (.ref b93), .val (.long u), .second, .val (.ref r), .val (.long (if u < ((2 : Int64) * (ln.toInt64)) then ((2 : Int64) * (ln.toInt64)) else u)), .second, .val (.int kk), .val (.int (own_B q1 kk)), .val (.int jj)] [(.int jj), (.ref b93)])) rfl rfl (hb hby at_268) _ kq)
        have K350 : Go p e below T328 (mkF m 270 #[.val (.int q0), .val (.long q1), .second, .val (.long q2), .second, .val (.int q3), .val (.int ln), .val (.ref b93), .val (.long u), .second, .val (.ref r), .val (.long (if u < ((2 : Int64) * (ln.toInt64)) then ((2 : Int64) * (ln.toInt64)) else u)), .second, .val (.int kk), .val (.int (own_B q1 kk)), .val (.int jj)] [(.long q1), (.int (own_B q1 jj))]) G := fun tq kq => K349 tq (XS.lloadN X328.here hx rfl (hb hby at_269) rfl kq)
        have K351 : Go p e below T328 (mkF m 272 #[.val (.int q0), .val (.long q1), .second, .val (.long q2), .second, .val (.int q3), .val (.int ln), .val (.ref b93), .val (.long u), .second, .val (.ref r), .val (.long (if u < ((2 : Int64) * (ln.toInt64)) then ((2 : Int64) * (ln.toInt64)) else u)), .second, .val (.int kk), .val (.int (own_B q1 kk)), .val (.int jj)] [(.int jj), (.long q1), (.int (own_B q1 jj))]) G := fun tq kq => K350 tq (XS.iload X328.here hx rfl (hb hby at_270) rfl kq)
        obtain ⟨v352, _, ⟨T352, L352, k352, n352⟩, -, X352, ⟨Lc352, hQ352, l352, y352, z352⟩, st352⟩ := Jvm.LawKit.callS X328 hx (y := (⟨"com/example/tallyrule/tallyrule/BuffersGrownPinLaw", "byteAt", "(JI)B"⟩ : MethodName)) hown (mvT hZ (hW 5 _ rfl)) (mvT hZ (hW 6 _ rfl)) (mvT hZ (hW 7 _ rfl)) (mvT hZ (hW 8 _ rfl)) (by decide) (backOf (W := 1) (rmBA l Z a0 hw [] q1 jj T287.heap n0 (Nat.le_trans Zj K287q.1)) hZ (hW 8 _ rfl) (hW 7 _ rfl) (by decide) (by decide)) (g := (mkF m 272 #[.val (.int q0), .val (.long q1), .second, .val (.long q2), .second, .val (.int q3), .val (.int ln), .val (.ref b93), .val (.long u), .second, .val (.ref r), .val (.long (if u < ((2 : Int64) * (ln.toInt64)) then ((2 : Int64) * (ln.toInt64)) else u)), .second, .val (.int kk), .val (.int (own_B q1 kk)), .val (.int jj)] [(.int jj), (.long q1), (.int (own_B q1 jj))])) rfl (by rw [hml]; rfl) (argsL := [(.long q1), (.int jj)]) (rest := [(.int (own_B q1 jj))]) (lenOf pd_97 rfl) rfl (by show 2 * 0 + _ ≤ _; exact Nat.le_of_eq rfl) (hb hby at_272) (fun _ _ => ⟨rfl, E328q, (by decide : 2 + 0 ≤ _), (by decide : 38 + 0 ≤ _)⟩)
        dsimp only [Pt.U, Pt.locs, Pt.cells, Pt.slots] at X352 l352 y352 z352 st352 hQ352
        subst l352 y352 z352
        obtain ⟨rfl, N352q, E352q⟩ := hQ352
        have N352 := Fr.app N328 N352q
        have K353 : Go p e below T352 (mkF m 275 #[.val (.int q0), .val (.long q1), .second, .val (.long q2), .second, .val (.int q3), .val (.int ln), .val (.ref b93), .val (.long u), .second, .val (.ref r), .val (.long (if u < ((2 : Int64) * (ln.toInt64)) then ((2 : Int64) * (ln.toInt64)) else u)), .second, .val (.int kk), .val (.int (own_B q1 kk)), .val (.int jj)] [(.int (own_B q1 jj)), (.int (own_B q1 jj))]) G := fun tq kq => K351 tq (st352 tq kq)
        have K354 : Go p e below T352 (mkF m 280 #[.val (.int q0), .val (.long q1), .second, .val (.long q2), .second, .val (.int q3), .val (.int ln), .val (.ref b93), .val (.long u), .second, .val (.ref r), .val (.long (if u < ((2 : Int64) * (ln.toInt64)) then ((2 : Int64) * (ln.toInt64)) else u)), .second, .val (.int kk), .val (.int (own_B q1 kk)), .val (.int jj)] []) G := fun tq kq => K353 tq (XS.icmpYes X352.here hx rfl (pc0 := 275) (pc' := 280) rfl (hb hby at_275) rfl ((teq (rfl : (own_B q1 jj) = (own_B q1 jj))).1) (by decide) (by decide) kq)
        have K355 : Go p e below T352 (mkF m 282 #[.val (.int q0), .val (.long q1), .second, .val (.long q2), .second, .val (.int q3), .val (.int ln), .val (.ref b93), .val (.long u), .second, .val (.ref r), .val (.long (if u < ((2 : Int64) * (ln.toInt64)) then ((2 : Int64) * (ln.toInt64)) else u)), .second, .val (.int kk), .val (.int (own_B q1 kk)), .val (.int jj)] [(.ref b93)]) G := fun tq kq => K354 tq (XS.aload X352.here hx rfl (hb hby at_280) rfl rfl kq)
        obtain ⟨cl356, Ar356, q356, S356, Nn356, Hh356, Gg356⟩ := id (Vj.keep K287q nin0)
        have K357 : Go p e below T352 (mkF m 283 #[.val (.int q0), .val (.long q1), .second, .val (.long q2), .second, .val (.int q3), .val (.int ln), .val (.ref b93), .val (.long u), .second, .val (.ref r), .val (.long (if u < ((2 : Int64) * (ln.toInt64)) then ((2 : Int64) * (ln.toInt64)) else u)), .second, .val (.int kk), .val (.int (own_B q1 kk)), .val (.int jj)] [(.int ln)]) G := fun tq kq => K355 tq (X352.arraylength hx (by rw [E352q]; exact Ar356.1) (State.isArrayOf_alike hZ.alike Ar356.2.1) (g := (mkF m 282 #[.val (.int q0), .val (.long q1), .second, .val (.long q2), .second, .val (.int q3), .val (.int ln), .val (.ref b93), .val (.long u), .second, .val (.ref r), .val (.long (if u < ((2 : Int64) * (ln.toInt64)) then ((2 : Int64) * (ln.toInt64)) else u)), .second, .val (.int kk), .val (.int (own_B q1 kk)), .val (.int jj)] [(.ref b93)])) rfl rfl (hb hby at_282) _ (by rw [len_of S356 Nn356]; exact kq))
        have K358 : Go p e below T352 (mkF m 285 #[.val (.int q0), .val (.long q1), .second, .val (.long q2), .second, .val (.int q3), .val (.int ln), .val (.ref b93), .val (.long u), .second, .val (.ref r), .val (.long (if u < ((2 : Int64) * (ln.toInt64)) then ((2 : Int64) * (ln.toInt64)) else u)), .second, .val (.int kk), .val (.int (own_B q1 kk)), .val (.int jj)] [(.int ln), (.int ln)]) G := fun tq kq => K357 tq (XS.iload X352.here hx rfl (hb hby at_283) rfl kq)
        have K359 : Go p e below T352 (mkF m 288 #[.val (.int q0), .val (.long q1), .second, .val (.long q2), .second, .val (.int q3), .val (.int ln), .val (.ref b93), .val (.long u), .second, .val (.ref r), .val (.long (if u < ((2 : Int64) * (ln.toInt64)) then ((2 : Int64) * (ln.toInt64)) else u)), .second, .val (.int kk), .val (.int (own_B q1 kk)), .val (.int jj)] []) G := fun tq kq => K358 tq (XS.icmpNo X352.here hx rfl (hb hby at_285) rfl ((teq (rfl : ln = ln)).2) kq)
        have K360 : Go p e below T352 (mkF m 289 #[.val (.int q0), .val (.long q1), .second, .val (.long q2), .second, .val (.int q3), .val (.int ln), .val (.ref b93), .val (.long u), .second, .val (.ref r), .val (.long (if u < ((2 : Int64) * (ln.toInt64)) then ((2 : Int64) * (ln.toInt64)) else u)), .second, .val (.int kk), .val (.int (own_B q1 kk)), .val (.int jj)] [(.int (1 : Int32))]) G := fun tq kq => K359 tq (XS.iconst X352.here hx rfl (hb hby at_288) kq)
        have K361 : Go p e below T352 (mkF m 293 #[.val (.int q0), .val (.long q1), .second, .val (.long q2), .second, .val (.int q3), .val (.int ln), .val (.ref b93), .val (.long u), .second, .val (.ref r), .val (.long (if u < ((2 : Int64) * (ln.toInt64)) then ((2 : Int64) * (ln.toInt64)) else u)), .second, .val (.int kk), .val (.int (own_B q1 kk)), .val (.int jj)] [(.int (1 : Int32))]) G := fun tq kq => K360 tq (XS.goto X352.here hx rfl (pc0 := 289) (pc' := 293) rfl (hb hby at_289) (by decide) (by decide) kq)
        obtain ⟨fs, hr, hrun, hended, hWW, hsame⟩ := X352.leave (v := some (.int (1 : Int32))) (fun h => by rw [Bd.returns] at h; cases h)
        refine ⟨_, _, hG _ (K361 _ (retN X352 hx (t := .boolean) Bd.returns (by simp) (hb hby at_293) hr)), hrun, hended, _, _, rfl, ?_, ⟨_, rfl⟩, hWW, hsame.mono (by decide) (by decide)⟩
        show Q0 Z q0 q1 q2 q3 h0 n0 _ T352.heap _
        rw [E352q]
        exact ⟨rfl, N352⟩
      · skip
        have K362 : Go p e below T328 (mkF m 280 #[.val (.int q0), .val (.long q1), .second, .val (.long q2), .second, .val (.int q3), .val (.int ln), .val (.ref b93), .val (.long u), .second, .val (.ref r), .val (.long (if u < ((2 : Int64) * (ln.toInt64)) then ((2 : Int64) * (ln.toInt64)) else u)), .second, .val (.int kk), .val (.int (own_B q1 kk)), .unset] []) G := fun tq kq => K338 tq (XS.ifYes X328.here hx rfl (pc0 := 254) (pc' := 280) rfl (hb hby at_254) rfl ((if0 _ _).trans (flt hc339).2.2.2) (by decide) (by decide) kq)
        have K363 : Go p e below T328 (mkF m 282 #[.val (.int q0), .val (.long q1), .second, .val (.long q2), .second, .val (.int q3), .val (.int ln), .val (.ref b93), .val (.long u), .second, .val (.ref r), .val (.long (if u < ((2 : Int64) * (ln.toInt64)) then ((2 : Int64) * (ln.toInt64)) else u)), .second, .val (.int kk), .val (.int (own_B q1 kk)), .unset] [(.ref b93)]) G := fun tq kq => K362 tq (XS.aload X328.here hx rfl (hb hby at_280) rfl rfl kq)
        obtain ⟨cl364, Ar364, q364, S364, Nn364, Hh364, Gg364⟩ := id (Vj.keep K287q nin0)
        have K365 : Go p e below T328 (mkF m 283 #[.val (.int q0), .val (.long q1), .second, .val (.long q2), .second, .val (.int q3), .val (.int ln), .val (.ref b93), .val (.long u), .second, .val (.ref r), .val (.long (if u < ((2 : Int64) * (ln.toInt64)) then ((2 : Int64) * (ln.toInt64)) else u)), .second, .val (.int kk), .val (.int (own_B q1 kk)), .unset] [(.int ln)]) G := fun tq kq => K363 tq (X328.arraylength hx (by rw [E328q]; exact Ar364.1) (State.isArrayOf_alike hZ.alike Ar364.2.1) (g := (mkF m 282 #[.val (.int q0), .val (.long q1), .second, .val (.long q2), .second, .val (.int q3), .val (.int ln), .val (.ref b93), .val (.long u), .second, .val (.ref r), .val (.long (if u < ((2 : Int64) * (ln.toInt64)) then ((2 : Int64) * (ln.toInt64)) else u)), .second, .val (.int kk), .val (.int (own_B q1 kk)), .unset] [(.ref b93)])) rfl rfl (hb hby at_282) _ (by rw [len_of S364 Nn364]; exact kq))
        have K366 : Go p e below T328 (mkF m 285 #[.val (.int q0), .val (.long q1), .second, .val (.long q2), .second, .val (.int q3), .val (.int ln), .val (.ref b93), .val (.long u), .second, .val (.ref r), .val (.long (if u < ((2 : Int64) * (ln.toInt64)) then ((2 : Int64) * (ln.toInt64)) else u)), .second, .val (.int kk), .val (.int (own_B q1 kk)), .unset] [(.int ln), (.int ln)]) G := fun tq kq => K365 tq (XS.iload X328.here hx rfl (hb hby at_283) rfl kq)
        have K367 : Go p e below T328 (mkF m 288 #[.val (.int q0), .val (.long q1), .second, .val (.long q2), .second, .val (.int q3), .val (.int ln), .val (.ref b93), .val (.long u), .second, .val (.ref r), .val (.long (if u < ((2 : Int64) * (ln.toInt64)) then ((2 : Int64) * (ln.toInt64)) else u)), .second, .val (.int kk), .val (.int (own_B q1 kk)), .unset] []) G := fun tq kq => K366 tq (XS.icmpNo X328.here hx rfl (hb hby at_285) rfl ((teq (rfl : ln = ln)).2) kq)
        have K368 : Go p e below T328 (mkF m 289 #[.val (.int q0), .val (.long q1), .second, .val (.long q2), .second, .val (.int q3), .val (.int ln), .val (.ref b93), .val (.long u), .second, .val (.ref r), .val (.long (if u < ((2 : Int64) * (ln.toInt64)) then ((2 : Int64) * (ln.toInt64)) else u)), .second, .val (.int kk), .val (.int (own_B q1 kk)), .unset] [(.int (1 : Int32))]) G := fun tq kq => K367 tq (XS.iconst X328.here hx rfl (hb hby at_288) kq)
        have K369 : Go p e below T328 (mkF m 293 #[.val (.int q0), .val (.long q1), .second, .val (.long q2), .second, .val (.int q3), .val (.int ln), .val (.ref b93), .val (.long u), .second, .val (.ref r), .val (.long (if u < ((2 : Int64) * (ln.toInt64)) then ((2 : Int64) * (ln.toInt64)) else u)), .second, .val (.int kk), .val (.int (own_B q1 kk)), .unset] [(.int (1 : Int32))]) G := fun tq kq => K368 tq (XS.goto X328.here hx rfl (pc0 := 289) (pc' := 293) rfl (hb hby at_289) (by decide) (by decide) kq)
        obtain ⟨fs, hr, hrun, hended, hWW, hsame⟩ := X328.leave (v := some (.int (1 : Int32))) (fun h => by rw [Bd.returns] at h; cases h)
        refine ⟨_, _, hG _ (K369 _ (retN X328 hx (t := .boolean) Bd.returns (by simp) (hb hby at_293) hr)), hrun, hended, _, _, rfl, ?_, ⟨_, rfl⟩, hWW, hsame.mono (by decide) (by decide)⟩
        show Q0 Z q0 q1 q2 q3 h0 n0 _ T328.heap _
        rw [E328q]
        exact ⟨rfl, N328⟩
    · skip
      have K370 : Go p e below T300 (mkF m 237 #[.val (.int q0), .val (.long q1), .second, .val (.long q2), .second, .val (.int q3), .val (.int ln), .val (.ref b93), .val (.long u), .second, .val (.ref r), .val (.long (if u < ((2 : Int64) * (ln.toInt64)) then ((2 : Int64) * (ln.toInt64)) else u)), .second, .val (.int kk), .unset, .unset] []) G := fun tq kq => K323 tq (XS.icmpYes X300.here hx rfl (pc0 := 225) (pc' := 237) rfl (hb hby at_225) rfl ((flt hc324).2.1) (by decide) (by decide) kq)
      have K371 : Go p e below T300 (mkF m 238 #[.val (.int q0), .val (.long q1), .second, .val (.long q2), .second, .val (.int q3), .val (.int ln), .val (.ref b93), .val (.long u), .second, .val (.ref r), .val (.long (if u < ((2 : Int64) * (ln.toInt64)) then ((2 : Int64) * (ln.toInt64)) else u)), .second, .val (.int kk), .unset, .unset] [(.int (0 : Int32))]) G := fun tq kq => K370 tq (XS.iconst X300.here hx rfl (hb hby at_237) kq)
      have K372 : Go p e below T300 (mkF m 240 #[.val (.int q0), .val (.long q1), .second, .val (.long q2), .second, .val (.int q3), .val (.int ln), .val (.ref b93), .val (.long u), .second, .val (.ref r), .val (.long (if u < ((2 : Int64) * (ln.toInt64)) then ((2 : Int64) * (ln.toInt64)) else u)), .second, .val (.int kk), .val (.int (0 : Int32)), .unset] []) G := fun tq kq => K371 tq (XS.istore X300.here hx rfl (hb hby at_238) rfl (l' := #[.val (.int q0), .val (.long q1), .second, .val (.long q2), .second, .val (.int q3), .val (.int ln), .val (.ref b93), .val (.long u), .second, .val (.ref r), .val (.long (if u < ((2 : Int64) * (ln.toInt64)) then ((2 : Int64) * (ln.toInt64)) else u)), .second, .val (.int kk), .val (.int (0 : Int32)), .unset]) rfl kq)
      have K373 : Go p e below T300 (mkF m 242 #[.val (.int q0), .val (.long q1), .second, .val (.long q2), .second, .val (.int q3), .val (.int ln), .val (.ref b93), .val (.long u), .second, .val (.ref r), .val (.long (if u < ((2 : Int64) * (ln.toInt64)) then ((2 : Int64) * (ln.toInt64)) else u)), .second, .val (.int kk), .val (.int (0 : Int32)), .unset] [(.ref r)]) G := fun tq kq => K372 tq (XS.aload X300.here hx rfl (hb hby at_240) rfl rfl kq)
      have K374 : Go p e below T300 (mkF m 244 #[.val (.int q0), .val (.long q1), .second, .val (.long q2), .second, .val (.int q3), .val (.int ln), .val (.ref b93), .val (.long u), .second, .val (.ref r), .val (.long (if u < ((2 : Int64) * (ln.toInt64)) then ((2 : Int64) * (ln.toInt64)) else u)), .second, .val (.int kk), .val (.int (0 : Int32)), .unset] [(.int kk), (.ref r)]) G := fun tq kq => K373 tq (XS.iload X300.here hx rfl (hb hby at_242) rfl kq)
      obtain ⟨cl375, Ar375, q375, S375, Nn375, Hh375, Gg375⟩ := id Vr
      have hin375 : ¬ (kk < 0 ∨ cl375.slots.size ≤ (kk).toNatClampNeg) := inb_of S375 ⟨k0, k2⟩
      have hat375 := Has.at (v := (.int (0 : Int32))) Hh375 hin375 (by rw [hvr, if_neg (by have q := hc324; rw [Int32.lt_iff_toInt_lt] at q; omega)])
      have K376 : Go p e below T300 (mkF m 245 #[.val (.int q0), .val (.long q1), .second, .val (.long q2), .second, .val (.int q3), .val (.int ln), .val (.ref b93), .val (.long u), .second, .val (.ref r), .val (.long (if u < ((2 : Int64) * (ln.toInt64)) then ((2 : Int64) * (ln.toInt64)) else u)), .second, .val (.int kk), .val (.int (0 : Int32)), .unset] [(.int (0 : Int32))]) G := fun tq kq => K374 tq (X300.baloadBytes hx (j := kk) (v := (.int (0 : Int32))) (by rw [E300q]; exact Ar375.1) (State.isArrayOf_alike hZ.alike Ar375.2.1) Ar375.2.2 hin375 hat375 (g := (mkF m 244 #[.val (.int q0), .val (.long q1), .second, .val (.long q2), .second, .val (.int q3), .val (.int ln), .val (.ref b93), .val (.long u), .second, .val (.ref r), .val (.long (if u < ((2 : Int64) * (ln.toInt64)) then ((2 : Int64) * (ln.toInt64)) else u)), .second, .val (.int kk), .val (.int (0 : Int32)), .unset] [(.int kk), (.ref r)])) rfl rfl (hb hby at_244) _ kq)
      have K377 : Go p e below T300 (mkF m 247 #[.val (.int q0), .val (.long q1), .second, .val (.long q2), .second, .val (.int q3), .val (.int ln), .val (.ref b93), .val (.long u), .second, .val (.ref r), .val (.long (if u < ((2 : Int64) * (ln.toInt64)) then ((2 : Int64) * (ln.toInt64)) else u)), .second, .val (.int kk), .val (.int (0 : Int32)), .unset] [(.int (0 : Int32)), (.int (0 : Int32))]) G := fun tq kq => K376 tq (XS.iload X300.here hx rfl (hb hby at_245) rfl kq)
      have K378 : Go p e below T300 (mkF m 252 #[.val (.int q0), .val (.long q1), .second, .val (.long q2), .second, .val (.int q3), .val (.int ln), .val (.ref b93), .val (.long u), .second, .val (.ref r), .val (.long (if u < ((2 : Int64) * (ln.toInt64)) then ((2 : Int64) * (ln.toInt64)) else u)), .second, .val (.int kk), .val (.int (0 : Int32)), .unset] []) G := fun tq kq => K377 tq (XS.icmpYes X300.here hx rfl (pc0 := 247) (pc' := 252) rfl (hb hby at_247) rfl ((teq (by decide : (0 : Int32) = (0 : Int32))).1) (by decide) (by decide) kq)
      have K379 : Go p e below T300 (mkF m 254 #[.val (.int q0), .val (.long q1), .second, .val (.long q2), .second, .val (.int q3), .val (.int ln), .val (.ref b93), .val (.long u), .second, .val (.ref r), .val (.long (if u < ((2 : Int64) * (ln.toInt64)) then ((2 : Int64) * (ln.toInt64)) else u)), .second, .val (.int kk), .val (.int (0 : Int32)), .unset] [(.int ln)]) G := fun tq kq => K378 tq (XS.iload X300.here hx rfl (hb hby at_252) rfl kq)
      by_cases hc380 : (0 : Int32) < ln
      · skip
        have K381 : Go p e below T300 (mkF m 257 #[.val (.int q0), .val (.long q1), .second, .val (.long q2), .second, .val (.int q3), .val (.int ln), .val (.ref b93), .val (.long u), .second, .val (.ref r), .val (.long (if u < ((2 : Int64) * (ln.toInt64)) then ((2 : Int64) * (ln.toInt64)) else u)), .second, .val (.int kk), .val (.int (0 : Int32)), .unset] []) G := fun tq kq => K379 tq (XS.ifNo X300.here hx rfl (hb hby at_254) rfl ((if0 _ _).trans (tlt hc380).2.2.2) kq)
        have K382 : Go p e below T300 (mkF m 259 #[.val (.int q0), .val (.long q1), .second, .val (.long q2), .second, .val (.int q3), .val (.int ln), .val (.ref b93), .val (.long u), .second, .val (.ref r), .val (.long (if u < ((2 : Int64) * (ln.toInt64)) then ((2 : Int64) * (ln.toInt64)) else u)), .second, .val (.int kk), .val (.int (0 : Int32)), .unset] [(.int kk)]) G := fun tq kq => K381 tq (XS.iload X300.here hx rfl (hb hby at_257) rfl kq)
        have K383 : Go p e below T300 (mkF m 261 #[.val (.int q0), .val (.long q1), .second, .val (.long q2), .second, .val (.int q3), .val (.int ln), .val (.ref b93), .val (.long u), .second, .val (.ref r), .val (.long (if u < ((2 : Int64) * (ln.toInt64)) then ((2 : Int64) * (ln.toInt64)) else u)), .second, .val (.int kk), .val (.int (0 : Int32)), .unset] [(.int ln), (.int kk)]) G := fun tq kq => K382 tq (XS.iload X300.here hx rfl (hb hby at_259) rfl kq)
        have ln0 : ln ≠ 0 := by
          intro q
          have q2 := hc380
          rw [q, Int32.lt_iff_toInt_lt] at q2
          omega
        have K384 : Go p e below T300 (mkF m 262 #[.val (.int q0), .val (.long q1), .second, .val (.long q2), .second, .val (.int q3), .val (.int ln), .val (.ref b93), .val (.long u), .second, .val (.ref r), .val (.long (if u < ((2 : Int64) * (ln.toInt64)) then ((2 : Int64) * (ln.toInt64)) else u)), .second, .val (.int kk), .val (.int (0 : Int32)), .unset] [(.int (kk % ln))]) G := fun tq kq => K383 tq (iremM X300 hx rfl (hb hby at_261) rfl ln0 kq)
        have K385 : Go p e below T300 (mkF m 264 #[.val (.int q0), .val (.long q1), .second, .val (.long q2), .second, .val (.int q3), .val (.int ln), .val (.ref b93), .val (.long u), .second, .val (.ref r), .val (.long (if u < ((2 : Int64) * (ln.toInt64)) then ((2 : Int64) * (ln.toInt64)) else u)), .second, .val (.int kk), .val (.int (0 : Int32)), .val (.int (kk % ln))] []) G := fun tq kq => K384 tq (XS.istore X300.here hx rfl (hb hby at_262) rfl (l' := #[.val (.int q0), .val (.long q1), .second, .val (.long q2), .second, .val (.int q3), .val (.int ln), .val (.ref b93), .val (.long u), .second, .val (.ref r), .val (.long (if u < ((2 : Int64) * (ln.toInt64)) then ((2 : Int64) * (ln.toInt64)) else u)), .second, .val (.int kk), .val (.int (0 : Int32)), .val (.int (kk % ln))]) rfl kq)
        obtain ⟨jj, h_jj⟩ : ∃ z, z = (kk % ln) := ⟨_, rfl⟩
        have K386 : Go p e below T300 (mkF m 264 #[.val (.int q0), .val (.long q1), .second, .val (.long q2), .second, .val (.int q3), .val (.int ln), .val (.ref b93), .val (.long u), .second, .val (.ref r), .val (.long (if u < ((2 : Int64) * (ln.toInt64)) then ((2 : Int64) * (ln.toInt64)) else u)), .second, .val (.int kk), .val (.int (0 : Int32)), .val (.int jj)] []) G := by rw [h_jj]; exact K385
        have j1 : 0 ≤ jj.toInt ∧ jj.toInt < ln.toInt := by
          rw [h_jj]
          have q2 := (c_iremV kk ln).1 k1.1 (by have q := hc380; rw [Int32.lt_iff_toInt_lt, own_I0] at q; exact q)
          exact ⟨q2.1, q2.2.1⟩
        have j0 : ¬ jj < 0 := by
          rw [Int32.lt_iff_toInt_lt, own_I0]
          omega
        have j2 : jj < ln := by
          rw [Int32.lt_iff_toInt_lt]
          exact j1.2
        have K387 : Go p e below T300 (mkF m 266 #[.val (.int q0), .val (.long q1), .second, .val (.long q2), .second, .val (.int q3), .val (.int ln), .val (.ref b93), .val (.long u), .second, .val (.ref r), .val (.long (if u < ((2 : Int64) * (ln.toInt64)) then ((2 : Int64) * (ln.toInt64)) else u)), .second, .val (.int kk), .val (.int (0 : Int32)), .val (.int jj)] [(.ref b93)]) G := fun tq kq => K386 tq (XS.aload X300.here hx rfl (hb hby at_264) rfl rfl kq)
        have K388 : Go p e below T300 (mkF m 268 #[.val (.int q0), .val (.long q1), .second, .val (.long q2), .second, .val (.int q3), .val (.int ln), .val (.ref b93), .val (.long u), .second, .val (.ref r), .val (.long (if u < ((2 : Int64) * (ln.toInt64)) then ((2 : Int64) * (ln.toInt64)) else u)), .second, .val (.int kk), .val (.int (0 : Int32)), .val (.int jj)] [(.int jj), (.ref b93)]) G := fun tq kq => K387 tq (XS.iload X300.here hx rfl (hb hby at_266) rfl kq)
        obtain ⟨cl389, Ar389, q389, S389, Nn389, Hh389, Gg389⟩ := id (Vj.keep K287q nin0)
        have hin389 : ¬ (jj < 0 ∨ cl389.slots.size ≤ (jj).toNatClampNeg) := inb_of S389 ⟨j0, j2⟩
        have hat389 := Has.at (v := (.int (own_B q1 jj))) Hh389 hin389 (hvs jj j0 j2)
        have K390 : Go p e below T300 (mkF m 269 #[.val (.int q0), .val (.long q1), .second, .val (.long q2), .second, .val (.int q3), .val (.int ln), .val (.ref b93), .val (.long u), .second, .val (.ref r), .val (.long (if u < ((2 : Int64) * (ln.toInt64)) then ((2 : Int64) * (ln.toInt64)) else u)), .second, .val (.int kk), .val (.int (0 : Int32)), .val (.int jj)] [(.int (own_B q1 jj))]) G := fun tq kq => K388 tq (X300.baloadBytes hx (j := jj) (v := (.int (own_B q1 jj))) (by rw [E300q]; exact Ar389.1) (State.isArrayOf_alike hZ.alike Ar389.2.1) Ar389.2.2 hin389 hat389 (g := (mkF m 268 #[.val (.int q0), .val (.long q1), .second, .val (.long q2), .second, .val (.int q3), .val (.int ln), .val (.ref b93), .val (.long u), .second, .val (.ref r), .val (.long (if u < ((2 : Int64) * (ln.toInt64)) then ((2 : Int64) * (ln.toInt64)) else u)), .second, .val (.int kk), .val (.int (0 : Int32)), .val (.int jj)] [(.int jj), (.ref b93)])) rfl rfl (hb hby at_268) _ kq)
        have K391 : Go p e below T300 (mkF m 270 #[.val (.int q0), .val (.long q1), .second, .val (.long q2), .second, .val (.int q3), .val (.int ln), .val (.ref b93), .val (.long u), .second, .val (.ref r), .val (.long (if u < ((2 : Int64) * (ln.toInt64)) then ((2 : Int64) * (ln.toInt64)) else u)), .second, .val (.int kk), .val (.int (0 : Int32)), .val (.int jj)] [(.long q1), (.int (own_B q1 jj))]) G := fun tq kq => K390 tq (XS.lloadN X300.here hx rfl (hb hby at_269) rfl kq)
        have K392 : Go p e below T300 (mkF m 272 #[.val (.int q0), .val (.long q1), .second, .val (.long q2), .second, .val (.int q3), .val (.int ln), .val (.ref b93), .val (.long u), .second, .val (.ref r), .val (.long (if u < ((2 : Int64) * (ln.toInt64)) then ((2 : Int64) * (ln.toInt64)) else u)), .second, .val (.int kk), .val (.int (0 : Int32)), .val (.int jj)] [(.int jj), (.long q1), (.int (own_B q1 jj))]) G := fun tq kq => K391 tq (XS.iload X300.here hx rfl (hb hby at_270) rfl kq)
        obtain ⟨v393, _, ⟨T393, L393, k393, n393⟩, -, X393, ⟨Lc393, hQ393, l393, y393, z393⟩, st393⟩ := Jvm.LawKit.callS X300 hx (y := (⟨"com/example/tallyrule/tallyrule/BuffersGrownPinLaw", "byteAt", "(JI)B"⟩ : MethodName)) hown (mvT hZ (hW 5 _ rfl)) (mvT hZ (hW 6 _ rfl)) (mvT hZ (hW 7 _ rfl)) (mvT hZ (hW 8 _ rfl)) (by decide) (backOf (W := 1) (rmBA l Z a0 hw [] q1 jj T287.heap n0 (Nat.le_trans Zj K287q.1)) hZ (hW 8 _ rfl) (hW 7 _ rfl) (by decide) (by decide)) (g := (mkF m 272 #[.val (.int q0), .val (.long q1), .second, .val (.long q2), .second, .val (.int q3), .val (.int ln), .val (.ref b93), .val (.long u), .second, .val (.ref r), .val (.long (if u < ((2 : Int64) * (ln.toInt64)) then ((2 : Int64) * (ln.toInt64)) else u)), .second, .val (.int kk), .val (.int (0 : Int32)), .val (.int jj)] [(.int jj), (.long q1), (.int (own_B q1 jj))])) rfl (by rw [hml]; rfl) (argsL := [(.long q1), (.int jj)]) (rest := [(.int (own_B q1 jj))]) (lenOf pd_97 rfl) rfl (by show 2 * 0 + _ ≤ _; exact Nat.le_of_eq rfl) (hb hby at_272) (fun _ _ => ⟨rfl, E300q, (by decide : 2 + 0 ≤ _), (by decide : 38 + 0 ≤ _)⟩)
        dsimp only [Pt.U, Pt.locs, Pt.cells, Pt.slots] at X393 l393 y393 z393 st393 hQ393
        subst l393 y393 z393
        obtain ⟨rfl, N393q, E393q⟩ := hQ393
        have N393 := Fr.app N300 N393q
        have K394 : Go p e below T393 (mkF m 275 #[.val (.int q0), .val (.long q1), .second, .val (.long q2), .second, .val (.int q3), .val (.int ln), .val (.ref b93), .val (.long u), .second, .val (.ref r), .val (.long (if u < ((2 : Int64) * (ln.toInt64)) then ((2 : Int64) * (ln.toInt64)) else u)), .second, .val (.int kk), .val (.int (0 : Int32)), .val (.int jj)] [(.int (own_B q1 jj)), (.int (own_B q1 jj))]) G := fun tq kq => K392 tq (st393 tq kq)
        have K395 : Go p e below T393 (mkF m 280 #[.val (.int q0), .val (.long q1), .second, .val (.long q2), .second, .val (.int q3), .val (.int ln), .val (.ref b93), .val (.long u), .second, .val (.ref r), .val (.long (if u < ((2 : Int64) * (ln.toInt64)) then ((2 : Int64) * (ln.toInt64)) else u)), .second, .val (.int kk), .val (.int (0 : Int32)), .val (.int jj)] []) G := fun tq kq => K394 tq (XS.icmpYes X393.here hx rfl (pc0 := 275) (pc' := 280) rfl (hb hby at_275) rfl ((teq (rfl : (own_B q1 jj) = (own_B q1 jj))).1) (by decide) (by decide) kq)
        have K396 : Go p e below T393 (mkF m 282 #[.val (.int q0), .val (.long q1), .second, .val (.long q2), .second, .val (.int q3), .val (.int ln), .val (.ref b93), .val (.long u), .second, .val (.ref r), .val (.long (if u < ((2 : Int64) * (ln.toInt64)) then ((2 : Int64) * (ln.toInt64)) else u)), .second, .val (.int kk), .val (.int (0 : Int32)), .val (.int jj)] [(.ref b93)]) G := fun tq kq => K395 tq (XS.aload X393.here hx rfl (hb hby at_280) rfl rfl kq)
        obtain ⟨cl397, Ar397, q397, S397, Nn397, Hh397, Gg397⟩ := id (Vj.keep K287q nin0)
        have K398 : Go p e below T393 (mkF m 283 #[.val (.int q0), .val (.long q1), .second, .val (.long q2), .second, .val (.int q3), .val (.int ln), .val (.ref b93), .val (.long u), .second, .val (.ref r), .val (.long (if u < ((2 : Int64) * (ln.toInt64)) then ((2 : Int64) * (ln.toInt64)) else u)), .second, .val (.int kk), .val (.int (0 : Int32)), .val (.int jj)] [(.int ln)]) G := fun tq kq => K396 tq (X393.arraylength hx (by rw [E393q]; exact Ar397.1) (State.isArrayOf_alike hZ.alike Ar397.2.1) (g := (mkF m 282 #[.val (.int q0), .val (.long q1), .second, .val (.long q2), .second, .val (.int q3), .val (.int ln), .val (.ref b93), .val (.long u), .second, .val (.ref r), .val (.long (if u < ((2 : Int64) * (ln.toInt64)) then ((2 : Int64) * (ln.toInt64)) else u)), .second, .val (.int kk), .val (.int (0 : Int32)), .val (.int jj)] [(.ref b93)])) rfl rfl (hb hby at_282) _ (by rw [len_of S397 Nn397]; exact kq))
        have K399 : Go p e below T393 (mkF m 285 #[.val (.int q0), .val (.long q1), .second, .val (.long q2), .second, .val (.int q3), .val (.int ln), .val (.ref b93), .val (.long u), .second, .val (.ref r), .val (.long (if u < ((2 : Int64) * (ln.toInt64)) then ((2 : Int64) * (ln.toInt64)) else u)), .second, .val (.int kk), .val (.int (0 : Int32)), .val (.int jj)] [(.int ln), (.int ln)]) G := fun tq kq => K398 tq (XS.iload X393.here hx rfl (hb hby at_283) rfl kq)
        have K400 : Go p e below T393 (mkF m 288 #[.val (.int q0), .val (.long q1), .second, .val (.long q2), .second, .val (.int q3), .val (.int ln), .val (.ref b93), .val (.long u), .second, .val (.ref r), .val (.long (if u < ((2 : Int64) * (ln.toInt64)) then ((2 : Int64) * (ln.toInt64)) else u)), .second, .val (.int kk), .val (.int (0 : Int32)), .val (.int jj)] []) G := fun tq kq => K399 tq (XS.icmpNo X393.here hx rfl (hb hby at_285) rfl ((teq (rfl : ln = ln)).2) kq)
        have K401 : Go p e below T393 (mkF m 289 #[.val (.int q0), .val (.long q1), .second, .val (.long q2), .second, .val (.int q3), .val (.int ln), .val (.ref b93), .val (.long u), .second, .val (.ref r), .val (.long (if u < ((2 : Int64) * (ln.toInt64)) then ((2 : Int64) * (ln.toInt64)) else u)), .second, .val (.int kk), .val (.int (0 : Int32)), .val (.int jj)] [(.int (1 : Int32))]) G := fun tq kq => K400 tq (XS.iconst X393.here hx rfl (hb hby at_288) kq)
        have K402 : Go p e below T393 (mkF m 293 #[.val (.int q0), .val (.long q1), .second, .val (.long q2), .second, .val (.int q3), .val (.int ln), .val (.ref b93), .val (.long u), .second, .val (.ref r), .val (.long (if u < ((2 : Int64) * (ln.toInt64)) then ((2 : Int64) * (ln.toInt64)) else u)), .second, .val (.int kk), .val (.int (0 : Int32)), .val (.int jj)] [(.int (1 : Int32))]) G := fun tq kq => K401 tq (XS.goto X393.here hx rfl (pc0 := 289) (pc' := 293) rfl (hb hby at_289) (by decide) (by decide) kq)
        obtain ⟨fs, hr, hrun, hended, hWW, hsame⟩ := X393.leave (v := some (.int (1 : Int32))) (fun h => by rw [Bd.returns] at h; cases h)
        refine ⟨_, _, hG _ (K402 _ (retN X393 hx (t := .boolean) Bd.returns (by simp) (hb hby at_293) hr)), hrun, hended, _, _, rfl, ?_, ⟨_, rfl⟩, hWW, hsame.mono (by decide) (by decide)⟩
        show Q0 Z q0 q1 q2 q3 h0 n0 _ T393.heap _
        rw [E393q]
        exact ⟨rfl, N393⟩
      · skip
        have K403 : Go p e below T300 (mkF m 280 #[.val (.int q0), .val (.long q1), .second, .val (.long q2), .second, .val (.int q3), .val (.int ln), .val (.ref b93), .val (.long u), .second, .val (.ref r), .val (.long (if u < ((2 : Int64) * (ln.toInt64)) then ((2 : Int64) * (ln.toInt64)) else u)), .second, .val (.int kk), .val (.int (0 : Int32)), .unset] []) G := fun tq kq => K379 tq (XS.ifYes X300.here hx rfl (pc0 := 254) (pc' := 280) rfl (hb hby at_254) rfl ((if0 _ _).trans (flt hc380).2.2.2) (by decide) (by decide) kq)
        have K404 : Go p e below T300 (mkF m 282 #[.val (.int q0), .val (.long q1), .second, .val (.long q2), .second, .val (.int q3), .val (.int ln), .val (.ref b93), .val (.long u), .second, .val (.ref r), .val (.long (if u < ((2 : Int64) * (ln.toInt64)) then ((2 : Int64) * (ln.toInt64)) else u)), .second, .val (.int kk), .val (.int (0 : Int32)), .unset] [(.ref b93)]) G := fun tq kq => K403 tq (XS.aload X300.here hx rfl (hb hby at_280) rfl rfl kq)
        obtain ⟨cl405, Ar405, q405, S405, Nn405, Hh405, Gg405⟩ := id (Vj.keep K287q nin0)
        have K406 : Go p e below T300 (mkF m 283 #[.val (.int q0), .val (.long q1), .second, .val (.long q2), .second, .val (.int q3), .val (.int ln), .val (.ref b93), .val (.long u), .second, .val (.ref r), .val (.long (if u < ((2 : Int64) * (ln.toInt64)) then ((2 : Int64) * (ln.toInt64)) else u)), .second, .val (.int kk), .val (.int (0 : Int32)), .unset] [(.int ln)]) G := fun tq kq => K404 tq (X300.arraylength hx (by rw [E300q]; exact Ar405.1) (State.isArrayOf_alike hZ.alike Ar405.2.1) (g := (mkF m 282 #[.val (.int q0), .val (.long q1), .second, .val (.long q2), .second, .val (.int q3), .val (.int ln), .val (.ref b93), .val (.long u), .second, .val (.ref r), .val (.long (if u < ((2 : Int64) * (ln.toInt64)) then ((2 : Int64) * (ln.toInt64)) else u)), .second, .val (.int kk), .val (.int (0 : Int32)), .unset] [(.ref b93)])) rfl rfl (hb hby at_282) _ (by rw [len_of S405 Nn405]; exact kq))
        have K407 : Go p e below T300 (mkF m 285 #[.val (.int q0), .val (.long q1), .second, .val (.long q2), .second, .val (.int q3), .val (.int ln), .val (.ref b93), .val (.long u), .second, .val (.ref r), .val (.long (if u < ((2 : Int64) * (ln.toInt64)) then ((2 : Int64) * (ln.toInt64)) else u)), .second, .val (.int kk), .val (.int (0 : Int32)), .unset] [(.int ln), (.int ln)]) G := fun tq kq => K406 tq (XS.iload X300.here hx rfl (hb hby at_283) rfl kq)
        have K408 : Go p e below T300 (mkF m 288 #[.val (.int q0), .val (.long q1), .second, .val (.long q2), .second, .val (.int q3), .val (.int ln), .val (.ref b93), .val (.long u), .second, .val (.ref r), .val (.long (if u < ((2 : Int64) * (ln.toInt64)) then ((2 : Int64) * (ln.toInt64)) else u)), .second, .val (.int kk), .val (.int (0 : Int32)), .unset] []) G := fun tq kq => K407 tq (XS.icmpNo X300.here hx rfl (hb hby at_285) rfl ((teq (rfl : ln = ln)).2) kq)
        have K409 : Go p e below T300 (mkF m 289 #[.val (.int q0), .val (.long q1), .second, .val (.long q2), .second, .val (.int q3), .val (.int ln), .val (.ref b93), .val (.long u), .second, .val (.ref r), .val (.long (if u < ((2 : Int64) * (ln.toInt64)) then ((2 : Int64) * (ln.toInt64)) else u)), .second, .val (.int kk), .val (.int (0 : Int32)), .unset] [(.int (1 : Int32))]) G := fun tq kq => K408 tq (XS.iconst X300.here hx rfl (hb hby at_288) kq)
        have K410 : Go p e below T300 (mkF m 293 #[.val (.int q0), .val (.long q1), .second, .val (.long q2), .second, .val (.int q3), .val (.int ln), .val (.ref b93), .val (.long u), .second, .val (.ref r), .val (.long (if u < ((2 : Int64) * (ln.toInt64)) then ((2 : Int64) * (ln.toInt64)) else u)), .second, .val (.int kk), .val (.int (0 : Int32)), .unset] [(.int (1 : Int32))]) G := fun tq kq => K409 tq (XS.goto X300.here hx rfl (pc0 := 289) (pc' := 293) rfl (hb hby at_289) (by decide) (by decide) kq)
        obtain ⟨fs, hr, hrun, hended, hWW, hsame⟩ := X300.leave (v := some (.int (1 : Int32))) (fun h => by rw [Bd.returns] at h; cases h)
        refine ⟨_, _, hG _ (K410 _ (retN X300 hx (t := .boolean) Bd.returns (by simp) (hb hby at_293) hr)), hrun, hended, _, _, rfl, ?_, ⟨_, rfl⟩, hWW, hsame.mono (by decide) (by decide)⟩
        show Q0 Z q0 q1 q2 q3 h0 n0 _ T300.heap _
        rw [E300q]
        exact ⟨rfl, N300⟩
  · skip
    obtain ⟨v411, _, ⟨T411, L411, k411, n411⟩, -, X411, ⟨Lc411, hQ411, l411, y411, z411⟩, st411⟩ := Jvm.LawKit.callS Xj hx (y := (⟨"com/example/tallyrule/tallyrule/Buffers", "grown", "([BJ)[B"⟩ : MethodName)) hown (mvT hZ (hW 1 _ rfl)) (mvT hZ (hW 2 _ rfl)) (mvT hZ (hW 3 _ rfl)) (mvT hZ (hW 4 _ rfl)) (by decide) (backOf (W := 0) (rmGA l Z a0 hw [] b93 u k93 ln vs hj n0 Zj Vj hgt) hZ (hW 4 _ rfl) (hW 3 _ rfl) (by decide) (by decide)) (g := (mkF m 142 #[.val (.int q0), .val (.long q1), .second, .val (.long q2), .second, .val (.int q3), .val (.int ln), .val (.ref b93), .val (.long u), .second, .unset, .unset, .unset, .unset, .unset, .unset] [(.long u), (.ref b93)])) rfl (by rw [hml]; rfl) (argsL := [(.ref b93), (.long u)]) (rest := []) (lenOf pd_98 rfl) rfl (by show 2 * 0 + _ ≤ _; exact Nat.le_of_eq rfl) (hb hby at_142) (fun _ _ => ⟨rfl, ej, (by decide : 1 + 0 ≤ _), (by decide : 7 + 0 ≤ _)⟩)
    dsimp only [Pt.U, Pt.locs, Pt.cells, Pt.slots] at X411 l411 y411 z411 st411 hQ411
    subst l411 y411 z411
    obtain ⟨rfl, N411q, E411q⟩ := hQ411
    have N411 := Fr.app Nj N411q
    have K412 : Go p e below T411 (mkF m 145 #[.val (.int q0), .val (.long q1), .second, .val (.long q2), .second, .val (.int q3), .val (.int ln), .val (.ref b93), .val (.long u), .second, .unset, .unset, .unset, .unset, .unset, .unset] [(.ref b93)]) G := fun tq kq => K286 tq (st411 tq kq)
    have K413 : Go p e below T411 (mkF m 147 #[.val (.int q0), .val (.long q1), .second, .val (.long q2), .second, .val (.int q3), .val (.int ln), .val (.ref b93), .val (.long u), .second, .val (.ref b93), .unset, .unset, .unset, .unset, .unset] []) G := fun tq kq => K412 tq (XS.astore X411.here hx rfl (hb hby at_145) rfl rfl (l' := #[.val (.int q0), .val (.long q1), .second, .val (.long q2), .second, .val (.int q3), .val (.int ln), .val (.ref b93), .val (.long u), .second, .val (.ref b93), .unset, .unset, .unset, .unset, .unset]) rfl kq)
    have K414 : Go p e below T411 (mkF m 149 #[.val (.int q0), .val (.long q1), .second, .val (.long q2), .second, .val (.int q3), .val (.int ln), .val (.ref b93), .val (.long u), .second, .val (.ref b93), .unset, .unset, .unset, .unset, .unset] [(.long u)]) G := fun tq kq => K413 tq (XS.lload X411.here hx rfl (hb hby at_147) rfl kq)
    have K415 : Go p e below T411 (mkF m 151 #[.val (.int q0), .val (.long q1), .second, .val (.long q2), .second, .val (.int q3), .val (.int ln), .val (.ref b93), .val (.long u), .second, .val (.ref b93), .unset, .unset, .unset, .unset, .unset] [(.int ln), (.long u)]) G := fun tq kq => K414 tq (XS.iload X411.here hx rfl (hb hby at_149) rfl kq)
    have K416 : Go p e below T411 (mkF m 152 #[.val (.int q0), .val (.long q1), .second, .val (.long q2), .second, .val (.int q3), .val (.int ln), .val (.ref b93), .val (.long u), .second, .val (.ref b93), .unset, .unset, .unset, .unset, .unset] [(.long (ln.toInt64)), (.long u)]) G := fun tq kq => K415 tq (XS.i2l X411.here hx rfl (hb hby at_151) rfl kq)
    have K417 : Go p e below T411 (mkF m 153 #[.val (.int q0), .val (.long q1), .second, .val (.long q2), .second, .val (.int q3), .val (.int ln), .val (.ref b93), .val (.long u), .second, .val (.ref b93), .unset, .unset, .unset, .unset, .unset] [(.int (lcmpW u (ln.toInt64)))]) G := fun tq kq => K416 tq (XS.lcmp X411.here hx rfl (hb hby at_152) rfl kq)
    have K418 : Go p e below T411 (mkF m 156 #[.val (.int q0), .val (.long q1), .second, .val (.long q2), .second, .val (.int q3), .val (.int ln), .val (.ref b93), .val (.long u), .second, .val (.ref b93), .unset, .unset, .unset, .unset, .unset] []) G := fun tq kq => K417 tq (XS.ifNo X411.here hx rfl (hb hby at_153) rfl ((if0 _ _).trans (flt (fun z => hgt ((lw_gt _ _).mp z))).2.2.1) kq)
    have K419 : Go p e below T411 (mkF m 158 #[.val (.int q0), .val (.long q1), .second, .val (.long q2), .second, .val (.int q3), .val (.int ln), .val (.ref b93), .val (.long u), .second, .val (.ref b93), .unset, .unset, .unset, .unset, .unset] [(.ref b93)]) G := fun tq kq => K418 tq (XS.aload X411.here hx rfl (hb hby at_156) rfl rfl kq)
    have K420 : Go p e below T411 (mkF m 160 #[.val (.int q0), .val (.long q1), .second, .val (.long q2), .second, .val (.int q3), .val (.int ln), .val (.ref b93), .val (.long u), .second, .val (.ref b93), .unset, .unset, .unset, .unset, .unset] [(.ref b93), (.ref b93)]) G := fun tq kq => K419 tq (XS.aload X411.here hx rfl (hb hby at_158) rfl rfl kq)
    have K421 : Go p e below T411 (mkF m 163 #[.val (.int q0), .val (.long q1), .second, .val (.long q2), .second, .val (.int q3), .val (.int ln), .val (.ref b93), .val (.long u), .second, .val (.ref b93), .unset, .unset, .unset, .unset, .unset] []) G := fun tq kq => K420 tq (Jvm.RoadKit.acmp (g := (mkF m 160 #[.val (.int q0), .val (.long q1), .second, .val (.long q2), .second, .val (.int q3), .val (.int ln), .val (.ref b93), .val (.long u), .second, .val (.ref b93), .unset, .unset, .unset, .unset, .unset] [(.ref b93), (.ref b93)])) X411 hx rfl rfl rfl (pc0 := 160) (pc' := 163) (same := true) rfl (hb hby at_160) rfl (decide_eq_true rfl) (by decide) (by decide) kq)
    have K422 : Go p e below T411 (mkF m 165 #[.val (.int q0), .val (.long q1), .second, .val (.long q2), .second, .val (.int q3), .val (.int ln), .val (.ref b93), .val (.long u), .second, .val (.ref b93), .unset, .unset, .unset, .unset, .unset] [(.ref b93)]) G := fun tq kq => K421 tq (XS.aload X411.here hx rfl (hb hby at_163) rfl rfl kq)
    obtain ⟨cl423, Ar423, q423, S423, Nn423, Hh423, Gg423⟩ := id Vj
    have K424 : Go p e below T411 (mkF m 166 #[.val (.int q0), .val (.long q1), .second, .val (.long q2), .second, .val (.int q3), .val (.int ln), .val (.ref b93), .val (.long u), .second, .val (.ref b93), .unset, .unset, .unset, .unset, .unset] [(.int ln)]) G := fun tq kq => K422 tq (X411.arraylength hx (by rw [E411q]; exact Ar423.1) (State.isArrayOf_alike hZ.alike Ar423.2.1) (g := (mkF m 165 #[.val (.int q0), .val (.long q1), .second, .val (.long q2), .second, .val (.int q3), .val (.int ln), .val (.ref b93), .val (.long u), .second, .val (.ref b93), .unset, .unset, .unset, .unset, .unset] [(.ref b93)])) rfl rfl (hb hby at_165) _ (by rw [len_of S423 Nn423]; exact kq))
    have K425 : Go p e below T411 (mkF m 168 #[.val (.int q0), .val (.long q1), .second, .val (.long q2), .second, .val (.int q3), .val (.int ln), .val (.ref b93), .val (.long u), .second, .val (.ref b93), .unset, .unset, .unset, .unset, .unset] [(.int ln), (.int ln)]) G := fun tq kq => K424 tq (XS.iload X411.here hx rfl (hb hby at_166) rfl kq)
    have K426 : Go p e below T411 (mkF m 171 #[.val (.int q0), .val (.long q1), .second, .val (.long q2), .second, .val (.int q3), .val (.int ln), .val (.ref b93), .val (.long u), .second, .val (.ref b93), .unset, .unset, .unset, .unset, .unset] []) G := fun tq kq => K425 tq (XS.icmpNo X411.here hx rfl (hb hby at_168) rfl ((teq (rfl : ln = ln)).2) kq)
    have K427 : Go p e below T411 (mkF m 172 #[.val (.int q0), .val (.long q1), .second, .val (.long q2), .second, .val (.int q3), .val (.int ln), .val (.ref b93), .val (.long u), .second, .val (.ref b93), .unset, .unset, .unset, .unset, .unset] [(.int (1 : Int32))]) G := fun tq kq => K426 tq (XS.iconst X411.here hx rfl (hb hby at_171) kq)
    have K428 : Go p e below T411 (mkF m 176 #[.val (.int q0), .val (.long q1), .second, .val (.long q2), .second, .val (.int q3), .val (.int ln), .val (.ref b93), .val (.long u), .second, .val (.ref b93), .unset, .unset, .unset, .unset, .unset] [(.int (1 : Int32))]) G := fun tq kq => K427 tq (XS.goto X411.here hx rfl (pc0 := 172) (pc' := 176) rfl (hb hby at_172) (by decide) (by decide) kq)
    obtain ⟨fs, hr, hrun, hended, hWW, hsame⟩ := X411.leave (v := some (.int (1 : Int32))) (fun h => by rw [Bd.returns] at h; cases h)
    refine ⟨_, _, hG _ (K428 _ (retN X411 hx (t := .boolean) Bd.returns (by simp) (hb hby at_176) hr)), hrun, hended, _, _, rfl, ?_, ⟨_, rfl⟩, hWW, hsame.mono (by decide) (by decide)⟩
    show Q0 Z q0 q1 q2 q3 h0 n0 _ T411.heap _
    rw [E411q]
    exact ⟨rfl, N411⟩
set_option maxRecDepth 65536 in
set_option maxHeartbeats 40000000 in
theorem comes_1 {Post : Tables → Env → Array Value → State → Outcome → State → Prop} (hpost : ∀ tb e args s v u, (limb_1_1.after args s (.returned v) u = true ∧ limb_1_2.after args s (.returned v) u = true ∧ True) → FrameEnd s (.returned v) u (Jvm.fieldLocs frame_1_writes args s ++ Jvm.arrayLocs frame_1_arrays args s ++ Jvm.staticLocs frame_1_statics s) 16 192 → Post tb e args s (.returned v) u) :
    ArmFor flags0 classFile x code maxLocals ret World_1 tables_1 room_1 Calls_1 rest_1 Pre_1 Post := by
  intro l hfl _ _ p e ha hc hk s m args below hf hA hF happ hP
  obtain ⟨hcalls, hrest, hpre⟩ := hP
  obtain ⟨-, -, -, hnamed, -, -, -, hat⟩ := (Spec.applies_iff hf).mp happ
  obtain ⟨hg, hn⟩ := and_e (Cond.before_iff.mp (show (Jvm.Cond.and given_1 narrow_1).before args s = true from hpre))
  obtain ⟨gg1, gg2⟩ := and_e hg
  obtain ⟨gg3, gg4⟩ := and_e gg2
  obtain ⟨gg5, gg6⟩ := and_e gg4
  obtain ⟨gg7, gg8⟩ := and_e gg6
  obtain ⟨w0, w1, w2, w3, rfl⟩ : ∃ w0 w1 w2 w3 : Value, args = #[w0, w1, w2, w3] := by
    have hs : args.size = 4 := by simpa [Cond.value, given_1] using gg1
    obtain ⟨L⟩ := args
    match L, hs with
    | [w0, w1, w2, w3], _ => exact ⟨w0, w1, w2, w3, rfl⟩
  have hw := fun d (hd : d ∈ tables_1) => atoms_spec (ws := Jvm.Cond.code x code maxLocals ret :: tables_1) hat d (List.mem_cons_of_mem _ hd)
  have hW : ∀ (k : Nat) (d : Jvm.Cond), tables_1[k]? = some d → d.before _ s = true := fun k d h => hw d (List.mem_of_getElem? h)
  have hfit : Fit s := fun {y c} hc i hi => by
    obtain ⟨ha, rfl⟩ := Array.getElem?_eq_some_iff.mp hc
    have q := List.all_eq_true.mp ((Array.all_eq_true_iff_forall_mem.mp hF) _ (Array.getElem_mem ha)) i (List.mem_range.mpr hi)
    simpa [Array.getElem?_eq_getElem hi] using q
  obtain ⟨i0, ei0⟩ := is_v gg3
  obtain rfl : w0 = (.int i0) := Option.some.inj ei0
  obtain ⟨i1, ei1⟩ := isL_v gg5
  obtain rfl : w1 = (.long i1) := Option.some.inj ei1
  obtain ⟨i2, ei2⟩ := isL_v gg7
  obtain rfl : w2 = (.long i2) := Option.some.inj ei2
  obtain ⟨i3, ei3⟩ := is_v gg8
  obtain rfl : w3 = (.int i3) := Option.some.inj ei3
  obtain ⟨n, o, h1, h2, h3, _, L, rfl, ⟨rfl, N⟩, hq⟩ := rm0 l s _ hw tables_1 i0 i1 i2 i3  s.heap s.heap.size (Nat.le_refl _)  p e ha hc hk s m _ below hf ((Spec.applies_iff_loose hf).mp happ).1 ⟨rfl, State.Warmed39.refl s, rfl⟩ trivial
  refine ⟨n, _, h1, h2, h3, hpost _ _ _ _ _ _ ⟨Cond.after_iff.mpr rfl, Cond.after_iff.mpr (eq_i res_at (Term.int_eval (1)) rfl), trivial⟩ ⟨hq.1, hq.2.1, (hq.2.2.sift fun y hy => Or.inr (N y hy)).mono (by decide) (by decide)⟩⟩
theorem main_1_1 : Claimed_1_1 := comes_1 fun _ _ _ _ _ _ h hF => ⟨h.1, hF⟩
theorem main_1_2 : Claimed_1_2 := comes_1 fun _ _ _ _ _ _ h hF => ⟨h.2.1, hF⟩
end Jvm.Pilot.@@N@@
namespace Jvm.Pilot.@@N@@
open Jvm Jvm.ClassFile Sem Op Lib Jvm.Free Jvm.Stand Jvm.Pilot.@@N@@.Jvm.D
/-! MADE BY PROGRAM (witnessworld.py) out of the Statement's table words and the real class files: 12 classes; the members and pool entries that the words name. The judged class is class 1, her method 2. -/
namespace start1
open Jvm.ClassFile
def u (s : String) : CpInfo := .utf8 (stringToUtf16 s)
/-- a pool by its gaps: so many unusable entries, then the entry; so many at the end -/
def gap : Nat → List CpInfo → List CpInfo
  | 0, r => r
  | n + 1, r => .unusable :: gap n r
def poolList (es : List (Nat × CpInfo)) (last : Nat) : List CpInfo := es.foldr (fun e r => gap e.1 (e.2 :: r)) (gap last [])
def pool (es : List (Nat × CpInfo)) (last : Nat) : Array CpInfo := ⟨poolList es last⟩
def fileOf (pool : Array CpInfo) (this : Nat) (attrs : Array Attribute := #[]) (ms : Array MethodInfo := #[]) (fl : Nat := 33) (sup : Nat := 0) (ifs : Array Nat := #[]) (fds : Array FieldInfo := #[]) : ClassFile where
  minorVersion := 0
  majorVersion := 65
  constantPool := pool
  accessFlags := fl
  thisClass := this
  superClass := sup
  interfaces := ifs
  fields := fds
  methods := ms
  attributes := attrs
def plain (name : String) (sup : Option ClassId) : Class where
  name := name
  kind := .ordinary
  loader := none
  accessFlags := 33
  super := sup
  interfaces := #[]
  cf := none
  fields := #[]
  methods := #[]
  instanceTypes := #[]
  staticTypes := #[]
  resolved := #[]
  callSites := []
  init := .initialized
  statics := none
  mirror := none

def pool0 : Array CpInfo := pool [(5, u "<init>"), (0, u "()V"), (1, .class_ 10), (1, u "java/lang/Object")] 113

def k0m0 : Method := { name := "<init>", desc := "()V", sig := { parameters := [], returnType := none }, accessFlags := 1, code := none }
/-- java/lang/Object -/
def k0 : Class := { plain "java/lang/Object" none with
  accessFlags := 33
  interfaces := #[]
  cf := some (fileOf pool0 8 #[] #[{ accessFlags := 1, nameIndex := 5, descriptorIndex := 6, attributes := #[] }] 33 0 #[] #[])
  fields := #[]
  methods := #[k0m0]
  instanceTypes := #[]
  staticTypes := #[]
  resolved := Array.replicate 124 none
  statics := none }

def pool1 : Array CpInfo := pool [(2, .class_ 4), (1, u "java/lang/Object"), (0, u "<init>"), (0, u "()V"), (0, .methodref 8 9), (0, .class_ 10), (0, .nameAndType 11 12), (0, u "com/example/tallyrule/tallyrule/BuffersGrownPinLaw"), (0, u "byteAt"), (0, u "(JI)B"), (0, .long 31), (1, .methodref 16 17), (0, .class_ 18), (0, .nameAndType 19 20), (0, u "com/example/tallyrule/tallyrule/Buffers"), (0, u "grown"), (0, u "([BJ)[B"), (0, .long 2), (1, .methodref 24 25), (0, .class_ 26), (0, .nameAndType 27 28), (0, u "java/lang/Math"), (0, u "max"), (0, u "(JJ)J"), (0, .integer 2147483647), (2, u "law"), (0, u "(IJJI)Z")] 5

def k1m0 : Method := { name := "<init>", desc := "()V", sig := { parameters := [], returnType := none }, accessFlags := 2, code := none }
def k1c1 : Code := { maxStack := 4, maxLocals := 3, code := method_2_code, exceptionTable := #[], attributes := #[] }
def k1m1 : Method := { name := "byteAt", desc := "(JI)B", sig := { parameters := [.long, .int], returnType := some .byte }, accessFlags := 10, code := some k1c1 }
def k1c2 : Code := { maxStack := 6, maxLocals := 16, code := code, exceptionTable := #[], attributes := #[] }
def k1m2 : Method := { name := "law", desc := "(IJJI)Z", sig := { parameters := [.int, .long, .long, .int], returnType := some .boolean }, accessFlags := 9, code := some k1c2 }
/-- com/example/tallyrule/tallyrule/BuffersGrownPinLaw -/
def k1 : Class := { plain "com/example/tallyrule/tallyrule/BuffersGrownPinLaw" (some 0) with
  accessFlags := 49
  interfaces := #[]
  cf := some (fileOf pool1 8 #[] #[{ accessFlags := 2, nameIndex := 5, descriptorIndex := 6, attributes := #[] }, { accessFlags := 10, nameIndex := 11, descriptorIndex := 12, attributes := #[] }, { accessFlags := 9, nameIndex := 32, descriptorIndex := 33, attributes := #[] }] 49 2 #[] #[])
  fields := #[]
  methods := #[k1m0, k1m1, k1m2]
  instanceTypes := #[]
  staticTypes := #[]
  resolved := Array.replicate 39 none
  statics := none }

def pool2 : Array CpInfo := pool [(4, .class_ 6), (1, u "java/lang/Object"), (0, u "<init>"), (0, u "()V"), (0, .class_ 10), (0, u "com/example/tallyrule/tallyrule/Buffers"), (0, .long 2147483639), (1, .long 2), (1, .methodref 16 17), (0, .class_ 18), (0, .nameAndType 19 20), (0, u "java/lang/Math"), (0, u "max"), (0, u "(JJ)J"), (0, .methodref 16 22), (0, .nameAndType 23 20), (0, u "min"), (0, .methodref 25 26), (0, .class_ 27), (0, .nameAndType 28 29), (0, u "java/util/Arrays"), (0, u "copyOf"), (0, u "([BI)[B"), (0, u "LONGEST"), (0, u "I"), (4, u "grown"), (0, u "([BJ)[B")] 3

def k2m0 : Method := { name := "<init>", desc := "()V", sig := { parameters := [], returnType := none }, accessFlags := 2, code := none }
def k2c1 : Code := { maxStack := 9, maxLocals := 3, code := prog_3_method_2_code, exceptionTable := #[], attributes := #[] }
def k2m1 : Method := { name := "grown", desc := "([BJ)[B", sig := { parameters := [(.array .byte), .long], returnType := some (.array .byte) }, accessFlags := 8, code := some k2c1 }
/-- com/example/tallyrule/tallyrule/Buffers -/
def k2 : Class := { plain "com/example/tallyrule/tallyrule/Buffers" (some 0) with
  accessFlags := 32
  interfaces := #[]
  cf := some (fileOf pool2 9 #[] #[{ accessFlags := 2, nameIndex := 7, descriptorIndex := 8, attributes := #[] }, { accessFlags := 8, nameIndex := 36, descriptorIndex := 37, attributes := #[] }] 32 4 #[] #[{ accessFlags := 24, nameIndex := 30, descriptorIndex := 31, attributes := #[] }])
  fields := #[{ name := "LONGEST", type := .int, accessFlags := 24, slot := 0, constantValue := 0 }]
  methods := #[k2m0, k2m1]
  instanceTypes := #[]
  staticTypes := #[.int]
  resolved := Array.replicate 41 none
  statics := none }

def pool3 : Array CpInfo := pool [(1, .class_ 2), (0, u "java/lang/Math"), (1, .class_ 6), (1, u "java/lang/Object"), (0, u "<init>"), (0, u "()V"), (89, .class_ 100), (1, u "java/lang/Math$RandomNumberGeneratorHolder"), (20, u "(JJ)J"), (50, u "negativeZeroFloatBits"), (0, u "J"), (2, u "negativeZeroDoubleBits"), (21, u "max"), (2, u "min"), (43, u "$assertionsDisabled"), (0, u "Z"), (88, u "(II)I"), (2, u "twoToTheDoubleScaleDown"), (0, u "D"), (4, u "twoToTheDoubleScaleUp"), (9, u "E"), (3, u "PI"), (2, u "TAU"), (2, u "DEGREES_TO_RADIANS"), (0, u "RADIANS_TO_DEGREES")] 94

def k3m0 : Method := { name := "<init>", desc := "()V", sig := { parameters := [], returnType := none }, accessFlags := 2, code := none }
def k3c1 : Code := { maxStack := 4, maxLocals := 4, code := jdk_29_method_66_code, exceptionTable := #[], attributes := #[] }
def k3m1 : Method := { name := "max", desc := "(JJ)J", sig := { parameters := [.long, .long], returnType := some .long }, accessFlags := 9, code := some k3c1 }
def k3c2 : Code := { maxStack := 2, maxLocals := 2, code := jdk_29_method_69_code, exceptionTable := #[], attributes := #[] }
def k3m2 : Method := { name := "min", desc := "(II)I", sig := { parameters := [.int, .int], returnType := some .int }, accessFlags := 9, code := some k3c2 }
def k3c3 : Code := { maxStack := 4, maxLocals := 4, code := jdk_29_method_70_code, exceptionTable := #[], attributes := #[] }
def k3m3 : Method := { name := "min", desc := "(JJ)J", sig := { parameters := [.long, .long], returnType := some .long }, accessFlags := 9, code := some k3c3 }
/-- java/lang/Math -/
def k3 : Class := { plain "java/lang/Math" (some 0) with
  accessFlags := 49
  interfaces := #[]
  cf := some (fileOf pool3 1 #[.nestMembers #[98]] #[{ accessFlags := 2, nameIndex := 7, descriptorIndex := 8, attributes := #[] }, { accessFlags := 9, nameIndex := 198, descriptorIndex := 121, attributes := #[] }, { accessFlags := 9, nameIndex := 201, descriptorIndex := 335, attributes := #[] }, { accessFlags := 9, nameIndex := 201, descriptorIndex := 121, attributes := #[] }] 49 4 #[] #[{ accessFlags := 25, nameIndex := 354, descriptorIndex := 339, attributes := #[] }, { accessFlags := 25, nameIndex := 358, descriptorIndex := 339, attributes := #[] }, { accessFlags := 25, nameIndex := 361, descriptorIndex := 339, attributes := #[] }, { accessFlags := 26, nameIndex := 364, descriptorIndex := 339, attributes := #[] }, { accessFlags := 26, nameIndex := 365, descriptorIndex := 339, attributes := #[] }, { accessFlags := 26, nameIndex := 172, descriptorIndex := 173, attributes := #[] }, { accessFlags := 26, nameIndex := 176, descriptorIndex := 173, attributes := #[] }, { accessFlags := 8, nameIndex := 344, descriptorIndex := 339, attributes := #[] }, { accessFlags := 8, nameIndex := 338, descriptorIndex := 339, attributes := #[] }, { accessFlags := 4120, nameIndex := 245, descriptorIndex := 246, attributes := #[] }])
  fields := #[{ name := "E", type := .double, accessFlags := 25, slot := 0, constantValue := 0 }, { name := "PI", type := .double, accessFlags := 25, slot := 1, constantValue := 0 }, { name := "TAU", type := .double, accessFlags := 25, slot := 2, constantValue := 0 }, { name := "DEGREES_TO_RADIANS", type := .double, accessFlags := 26, slot := 3, constantValue := 0 }, { name := "RADIANS_TO_DEGREES", type := .double, accessFlags := 26, slot := 4, constantValue := 0 }, { name := "negativeZeroFloatBits", type := .long, accessFlags := 26, slot := 5, constantValue := 0 }, { name := "negativeZeroDoubleBits", type := .long, accessFlags := 26, slot := 6, constantValue := 0 }, { name := "twoToTheDoubleScaleUp", type := .double, accessFlags := 8, slot := 7, constantValue := 0 }, { name := "twoToTheDoubleScaleDown", type := .double, accessFlags := 8, slot := 8, constantValue := 0 }, { name := "$assertionsDisabled", type := .boolean, accessFlags := 4120, slot := 9, constantValue := 0 }]
  methods := #[k3m0, k3m1, k3m2, k3m3]
  instanceTypes := #[]
  staticTypes := #[.double, .double, .double, .double, .double, .long, .long, .double, .double, .boolean]
  resolved := Array.replicate 460 none
  statics := none }

def pool4 : Array CpInfo := pool [(2, .class_ 4), (1, u "java/lang/Object"), (0, u "<init>"), (0, u "()V"), (7, .class_ 16), (1, u "java/util/Arrays"), (57, .class_ 76), (1, u "java/util/Arrays$NaturalOrder"), (36, .class_ 115), (1, u "java/util/Arrays$LegacyMergeSort"), (1, u "Z"), (32, .methodref 151 152), (0, .class_ 153), (0, .nameAndType 154 155), (0, u "java/lang/System"), (0, u "arraycopy"), (0, u "(Ljava/lang/Object;ILjava/lang/Object;II)V"), (146, u "copyOf"), (1, .methodref 305 306), (0, .class_ 307), (0, .nameAndType 308 309), (0, u "java/lang/Math"), (0, u "min"), (0, u "(II)I"), (65, .class_ 376), (0, u "java/util/Arrays$ArrayList"), (68, u "$assertionsDisabled"), (269, u "MIN_ARRAY_SORT_GRAN"), (0, u "I"), (2, u "INSERTIONSORT_THRESHOLD"), (149, u "([BI)[B"), (105, .class_ 976), (0, u "java/util/Arrays$ArrayItr")] 52

def k4m0 : Method := { name := "<init>", desc := "()V", sig := { parameters := [], returnType := none }, accessFlags := 2, code := none }
def k4c1 : Code := { maxStack := 6, maxLocals := 3, code := jdk_65_method_121_code, exceptionTable := #[], attributes := #[] }
def k4m1 : Method := { name := "copyOf", desc := "([BI)[B", sig := { parameters := [(.array .byte), .int], returnType := some (.array .byte) }, accessFlags := 9, code := some k4c1 }
/-- java/util/Arrays -/
def k4 : Class := { plain "java/util/Arrays" (some 0) with
  accessFlags := 49
  interfaces := #[]
  cf := some (fileOf pool4 14 #[.nestMembers #[975, 375, 113, 74]] #[{ accessFlags := 2, nameIndex := 5, descriptorIndex := 6, attributes := #[] }, { accessFlags := 9, nameIndex := 302, descriptorIndex := 869, attributes := #[] }] 49 2 #[] #[{ accessFlags := 26, nameIndex := 715, descriptorIndex := 716, attributes := #[] }, { accessFlags := 26, nameIndex := 719, descriptorIndex := 716, attributes := #[] }, { accessFlags := 4120, nameIndex := 445, descriptorIndex := 117, attributes := #[] }])
  fields := #[{ name := "MIN_ARRAY_SORT_GRAN", type := .int, accessFlags := 26, slot := 0, constantValue := 0 }, { name := "INSERTIONSORT_THRESHOLD", type := .int, accessFlags := 26, slot := 1, constantValue := 0 }, { name := "$assertionsDisabled", type := .boolean, accessFlags := 4120, slot := 2, constantValue := 0 }]
  methods := #[k4m0, k4m1]
  instanceTypes := #[]
  staticTypes := #[.int, .int, .boolean]
  resolved := Array.replicate 1029 none
  statics := none }

def pool5 : Array CpInfo := pool [(2, .class_ 4), (1, u "java/lang/Object"), (0, u "<init>"), (0, u "()V"), (1, .class_ 10), (1, u "java/lang/System"), (0, u "allowSecurityManager"), (0, u "I"), (16, u "cons"), (0, u "Ljava/io/Console;"), (77, .class_ 110), (1, u "java/lang/System$CallersHolder"), (43, u "initialErrStream"), (0, u "Ljava/io/PrintStream;"), (19, u "security"), (0, u "Ljava/lang/SecurityManager;"), (31, .class_ 209), (0, u "java/lang/System$1"), (7, u "props"), (0, u "Ljava/util/Properties;"), (2, u "lineSeparator"), (0, u "Ljava/lang/String;"), (96, .class_ 321), (1, u "java/lang/System$LoggerFinder"), (5, .class_ 328), (0, u "java/lang/System$Logger"), (67, u "err"), (2, u "out"), (91, u "notSupportedJnuEncoding"), (15, u "in"), (17, u "initialIn"), (0, u "Ljava/io/InputStream;"), (35, u "bootLayer"), (0, u "Ljava/lang/ModuleLayer;"), (99, .class_ 664), (0, u "java/lang/System$2"), (9, u "NEVER"), (2, u "MAYBE"), (49, u "arraycopy"), (0, u "(Ljava/lang/Object;ILjava/lang/Object;II)V"), (72, .class_ 802), (0, u "java/lang/System$Logger$Level")] 31

def k5m0 : Method := { name := "<init>", desc := "()V", sig := { parameters := [], returnType := none }, accessFlags := 2, code := none }
def k5m1 : Method := { name := "arraycopy", desc := "(Ljava/lang/Object;ILjava/lang/Object;II)V", sig := { parameters := [(.object "java/lang/Object"), .int, (.object "java/lang/Object"), .int, .int], returnType := none }, accessFlags := 265, code := none }
/-- java/lang/System -/
def k5 : Class := { plain "java/lang/System" (some 0) with
  accessFlags := 49
  interfaces := #[]
  cf := some (fileOf pool5 8 #[.nestMembers #[319, 327, 801, 108, 663, 208]] #[{ accessFlags := 2, nameIndex := 5, descriptorIndex := 6, attributes := #[] }, { accessFlags := 265, nameIndex := 727, descriptorIndex := 728, attributes := #[] }] 49 2 #[] #[{ accessFlags := 25, nameIndex := 507, descriptorIndex := 526, attributes := #[] }, { accessFlags := 25, nameIndex := 399, descriptorIndex := 155, attributes := #[] }, { accessFlags := 25, nameIndex := 396, descriptorIndex := 155, attributes := #[] }, { accessFlags := 10, nameIndex := 525, descriptorIndex := 526, attributes := #[] }, { accessFlags := 26, nameIndex := 674, descriptorIndex := 12, attributes := #[] }, { accessFlags := 26, nameIndex := 677, descriptorIndex := 12, attributes := #[] }, { accessFlags := 10, nameIndex := 11, descriptorIndex := 12, attributes := #[] }, { accessFlags := 74, nameIndex := 175, descriptorIndex := 176, attributes := #[] }, { accessFlags := 10, nameIndex := 491, descriptorIndex := 222, attributes := #[] }, { accessFlags := 74, nameIndex := 29, descriptorIndex := 30, attributes := #[] }, { accessFlags := 74, nameIndex := 154, descriptorIndex := 155, attributes := #[] }, { accessFlags := 10, nameIndex := 217, descriptorIndex := 218, attributes := #[] }, { accessFlags := 10, nameIndex := 221, descriptorIndex := 222, attributes := #[] }, { accessFlags := 8, nameIndex := 562, descriptorIndex := 563, attributes := #[] }])
  fields := #[{ name := "in", type := (.object "java/io/InputStream"), accessFlags := 25, slot := 0, constantValue := 0 }, { name := "out", type := (.object "java/io/PrintStream"), accessFlags := 25, slot := 1, constantValue := 0 }, { name := "err", type := (.object "java/io/PrintStream"), accessFlags := 25, slot := 2, constantValue := 0 }, { name := "initialIn", type := (.object "java/io/InputStream"), accessFlags := 10, slot := 3, constantValue := 0 }, { name := "NEVER", type := .int, accessFlags := 26, slot := 4, constantValue := 0 }, { name := "MAYBE", type := .int, accessFlags := 26, slot := 5, constantValue := 0 }, { name := "allowSecurityManager", type := .int, accessFlags := 10, slot := 6, constantValue := 0 }, { name := "security", type := (.object "java/lang/SecurityManager"), accessFlags := 74, slot := 7, constantValue := 0 }, { name := "notSupportedJnuEncoding", type := (.object "java/lang/String"), accessFlags := 10, slot := 8, constantValue := 0 }, { name := "cons", type := (.object "java/io/Console"), accessFlags := 74, slot := 9, constantValue := 0 }, { name := "initialErrStream", type := (.object "java/io/PrintStream"), accessFlags := 74, slot := 10, constantValue := 0 }, { name := "props", type := (.object "java/util/Properties"), accessFlags := 10, slot := 11, constantValue := 0 }, { name := "lineSeparator", type := (.object "java/lang/String"), accessFlags := 10, slot := 12, constantValue := 0 }, { name := "bootLayer", type := (.object "java/lang/ModuleLayer"), accessFlags := 8, slot := 13, constantValue := 0 }]
  methods := #[k5m0, k5m1]
  instanceTypes := #[]
  staticTypes := #[(.object "java/io/InputStream"), (.object "java/io/PrintStream"), (.object "java/io/PrintStream"), (.object "java/io/InputStream"), .int, .int, .int, (.object "java/lang/SecurityManager"), (.object "java/lang/String"), (.object "java/io/Console"), (.object "java/io/PrintStream"), (.object "java/util/Properties"), (.object "java/lang/String"), (.object "java/lang/ModuleLayer")]
  resolved := Array.replicate 834 none
  statics := none }

def pool6 : Array CpInfo := pool [(1, u "java/lang/Cloneable"), (0, .class_ 1), (0, u "java/lang/Object"), (0, .class_ 3)] 3

/-- java/lang/Cloneable -/
def k6 : Class := { plain "java/lang/Cloneable" (some 0) with
  accessFlags := 1537
  interfaces := #[]
  cf := some (fileOf pool6 2 #[] #[] 1537 4 #[] #[])
  fields := #[]
  methods := #[]
  instanceTypes := #[]
  staticTypes := #[]
  resolved := Array.replicate 8 none
  statics := none }

def pool7 : Array CpInfo := pool [(1, u "java/io/Serializable"), (0, .class_ 1), (0, u "java/lang/Object"), (0, .class_ 3)] 3

/-- java/io/Serializable -/
def k7 : Class := { plain "java/io/Serializable" (some 0) with
  accessFlags := 1537
  interfaces := #[]
  cf := some (fileOf pool7 2 #[] #[] 1537 4 #[] #[])
  fields := #[]
  methods := #[]
  instanceTypes := #[]
  staticTypes := #[]
  resolved := Array.replicate 8 none
  statics := none }

/-- the primitive byte -/
def k8 : Class := { plain "byte" none with kind := .primitive 'B', accessFlags := 0x411 }
/-- [B -/
def k9 : Class := { plain "[B" (some 0) with kind := .array 8 .byte, interfaces := #[6, 7], accessFlags := 1041 }

/-- the primitive int -/
def k10 : Class := { plain "int" none with kind := .primitive 'I', accessFlags := 0x411 }
/-- [I -/
def k11 : Class := { plain "[I" (some 0) with kind := .array 10 .int, interfaces := #[6, 7], accessFlags := 1041 }

def heap : Heap := #[]
def classes : Array Class := #[k0, k1, k2, k3, k4, k5, k6, k7, k8, k9, k10, k11]
def interned : List (Array UInt16 × Addr) := []
def slotsUsed : Nat := 0
def theMethod : MethodId := ⟨1, 2⟩
def args0 : Array Value := #[.int 5, .long 30000, .long 4, .int 3]
def aboutOver (below : List Frame) : State where
  vm := { classes := classes, interned := interned.toArray }
  heap := heap
  slotsUsed := slotsUsed
  threads := #[{ frames := .invoking theMethod args0 :: below }]
def below0 : List Frame := [.native { method := ⟨0, 0⟩, args := #[] }]
def about1 : State := aboutOver below0
def p0 : Program := .bare "" "" ""
def e0 : Env := launch0.env 0 0 0
theorem w_frames : about1.frames = Frame.invoking theMethod args0 :: below0 := rfl
set_option maxRecDepth 65536 in
theorem w_args : argsFit about1.vm theMethod args0 = true := by decide +kernel
set_option maxRecDepth 65536 in
theorem w_heap : heapFits about1 = true := by decide +kernel
set_option maxRecDepth 65536 in
theorem w_runnable : about1.curStatus? = some .runnable := by decide +kernel
set_option maxRecDepth 65536 in
theorem w_alone : about1.alone = true := by decide +kernel
set_option maxRecDepth 65536 in
theorem w_named : about1.methodNamed? x = some theMethod := by decide +kernel
set_option maxRecDepth 65536 in
theorem w_hears : about1.hears theMethod below0 = true := by decide +kernel
set_option maxRecDepth 65536 in
theorem w_ripe : about1.ripe theMethod args0 below0 = true := by decide +kernel
theorem w_running : about1.status = .running := rfl
set_option maxRecDepth 65536 in
theorem w_room : about1.hasRoom e0.platform room_1 = true :=
  launch0.hasRoom_least _ room_1 (by decide +kernel) (by decide +kernel) (by decide +kernel) (by decide +kernel) (by decide +kernel) (by decide +kernel)
theorem allAtoms_all (ts : List Jvm.Cond) (a : Array Jvm.Value) (st : Jvm.State) : (allAtoms ts).before a st = ts.all (fun c => c.before a st) := by
  induction ts with
  | nil => rfl
  | cons c t ih =>
    show (Jvm.Cond.and c (allAtoms t)).before a st = _
    rw [Jvm.Cond.before_and, ih, List.all_cons]
def words1 : List Jvm.Cond := Jvm.Cond.code x code maxLocals ret :: tables_1
/-- a 'code' word, met by the world's own term for the bytes: nothing is compared byte by byte -/
theorem code_word {y : MethodName} {bytes : ByteArray} {mx : Nat} {rt : Option FieldType} {a : Array Value} {s : State} {m : MethodId} {meth : Method} {c : Code} (h1 : s.methodNamed? y = some m) (h2 : s.vm.method? m = some meth) (h3 : meth.code = some c) (h4 : c.code = bytes)
    (h5 : (c.maxLocals == mx && c.exceptionTable.isEmpty && decide (c.maxStack ≤ mostOperands) && decide (meth.sig.returnType = rt) && !meth.locks && decide (parseMethodDescriptor y.desc = some meth.sig)) = true) : (Jvm.Cond.code y bytes mx rt).before a s = true := by
  simp only [Bool.and_eq_true, beq_iff_eq, Bool.not_eq_true', decide_eq_true_eq] at h5
  obtain ⟨⟨⟨⟨⟨g1, g2⟩, g3⟩, g4⟩, g5⟩, g6⟩ := h5
  simp [Cond.before, Cond.holds, Cond.value, h1, h2, h3, h4, g1, g2, g3, g4, g5, g6]
def isCode : Jvm.Cond → Bool
  | .code _ _ _ _ => true
  | _ => false
theorem all_split {L : List Jvm.Cond} {P : Jvm.Cond → Bool} (h1 : L.all (fun c => isCode c || P c) = true) (h2 : ∀ c ∈ L.filter isCode, P c = true) : L.all P = true := by
  refine List.all_eq_true.mpr fun c hc => ?_
  have h := List.all_eq_true.mp h1 c hc
  rcases Bool.eq_false_or_eq_true (isCode c) with hi | hi
  · exact h2 c (List.mem_filter.mpr ⟨hc, hi⟩)
  · simpa [hi] using h
set_option maxRecDepth 65536 in
theorem w_c0 : (Jvm.Cond.code x code maxLocals ret).before args0 about1 = true := code_word (m := ⟨1, 2⟩) (meth := k1m2) (c := k1c2) (by decide +kernel) rfl rfl rfl (by decide +kernel)
set_option maxRecDepth 65536 in
theorem w_c1 : (Jvm.Cond.code ({ cls := "com/example/tallyrule/tallyrule/Buffers", name := "grown", desc := "([BJ)[B" } : Jvm.MethodName) prog_3_method_2_code (3 : Nat) (Option.some (Jvm.ClassFile.FieldType.array Jvm.ClassFile.FieldType.byte))).before args0 about1 = true := code_word (m := ⟨2, 1⟩) (meth := k2m1) (c := k2c1) (by decide +kernel) rfl rfl rfl (by decide +kernel)
set_option maxRecDepth 65536 in
theorem w_c2 : (Jvm.Cond.code ({ cls := "com/example/tallyrule/tallyrule/BuffersGrownPinLaw", name := "byteAt", desc := "(JI)B" } : Jvm.MethodName) method_2_code (3 : Nat) (Option.some Jvm.ClassFile.FieldType.byte)).before args0 about1 = true := code_word (m := ⟨1, 1⟩) (meth := k1m1) (c := k1c1) (by decide +kernel) rfl rfl rfl (by decide +kernel)
set_option maxRecDepth 65536 in
theorem w_c3 : (Jvm.Cond.code ({ cls := "java/lang/Math", name := "max", desc := "(JJ)J" } : Jvm.MethodName) jdk_29_method_66_code (4 : Nat) (Option.some Jvm.ClassFile.FieldType.long)).before args0 about1 = true := code_word (m := ⟨3, 1⟩) (meth := k3m1) (c := k3c1) (by decide +kernel) rfl rfl rfl (by decide +kernel)
set_option maxRecDepth 65536 in
theorem w_c4 : (Jvm.Cond.code ({ cls := "java/lang/Math", name := "min", desc := "(JJ)J" } : Jvm.MethodName) jdk_29_method_70_code (4 : Nat) (Option.some Jvm.ClassFile.FieldType.long)).before args0 about1 = true := code_word (m := ⟨3, 3⟩) (meth := k3m3) (c := k3c3) (by decide +kernel) rfl rfl rfl (by decide +kernel)
set_option maxRecDepth 65536 in
theorem w_c5 : (Jvm.Cond.code ({ cls := "java/util/Arrays", name := "copyOf", desc := "([BI)[B" } : Jvm.MethodName) jdk_65_method_121_code (3 : Nat) (Option.some (Jvm.ClassFile.FieldType.array Jvm.ClassFile.FieldType.byte))).before args0 about1 = true := code_word (m := ⟨4, 1⟩) (meth := k4m1) (c := k4c1) (by decide +kernel) rfl rfl rfl (by decide +kernel)
set_option maxRecDepth 65536 in
theorem w_c6 : (Jvm.Cond.code ({ cls := "java/lang/Math", name := "min", desc := "(II)I" } : Jvm.MethodName) jdk_29_method_69_code (2 : Nat) (Option.some Jvm.ClassFile.FieldType.int)).before args0 about1 = true := code_word (m := ⟨3, 2⟩) (meth := k3m2) (c := k3c2) (by decide +kernel) rfl rfl rfl (by decide +kernel)
def codes1 : List Jvm.Cond := [Jvm.Cond.code x code maxLocals ret, Jvm.Cond.code ({ cls := "com/example/tallyrule/tallyrule/Buffers", name := "grown", desc := "([BJ)[B" } : Jvm.MethodName) prog_3_method_2_code (3 : Nat) (Option.some (Jvm.ClassFile.FieldType.array Jvm.ClassFile.FieldType.byte)), Jvm.Cond.code ({ cls := "com/example/tallyrule/tallyrule/BuffersGrownPinLaw", name := "byteAt", desc := "(JI)B" } : Jvm.MethodName) method_2_code (3 : Nat) (Option.some Jvm.ClassFile.FieldType.byte), Jvm.Cond.code ({ cls := "java/lang/Math", name := "max", desc := "(JJ)J" } : Jvm.MethodName) jdk_29_method_66_code (4 : Nat) (Option.some Jvm.ClassFile.FieldType.long), Jvm.Cond.code ({ cls := "java/lang/Math", name := "min", desc := "(JJ)J" } : Jvm.MethodName) jdk_29_method_70_code (4 : Nat) (Option.some Jvm.ClassFile.FieldType.long), Jvm.Cond.code ({ cls := "java/util/Arrays", name := "copyOf", desc := "([BI)[B" } : Jvm.MethodName) jdk_65_method_121_code (3 : Nat) (Option.some (Jvm.ClassFile.FieldType.array Jvm.ClassFile.FieldType.byte)), Jvm.Cond.code ({ cls := "java/lang/Math", name := "min", desc := "(II)I" } : Jvm.MethodName) jdk_29_method_69_code (2 : Nat) (Option.some Jvm.ClassFile.FieldType.int)]
set_option maxRecDepth 65536 in
theorem codes_eq : words1.filter isCode = codes1 := rfl
theorem w_codes : ∀ c ∈ words1.filter isCode, c.before args0 about1 = true := by
  rw [codes_eq]
  intro c hc
  simp only [codes1, List.mem_cons, List.not_mem_nil, or_false] at hc
  rcases hc with rfl | rfl | rfl | rfl | rfl | rfl | rfl
  · exact w_c0
  · exact w_c1
  · exact w_c2
  · exact w_c3
  · exact w_c4
  · exact w_c5
  · exact w_c6
set_option maxRecDepth 65536 in
theorem w_t1 : (words1.take 24).all (fun c => isCode c || c.before args0 about1) = true := by decide +kernel
set_option maxRecDepth 65536 in
theorem w_t2 : (words1.drop 24).all (fun c => isCode c || c.before args0 about1) = true := by decide +kernel
theorem w_tables : (allAtoms (Jvm.Cond.code x code maxLocals ret :: tables_1)).before args0 about1 = true := by
  rw [allAtoms_all]
  show words1.all (fun c => c.before args0 about1) = true
  refine all_split ?_ w_codes
  rw [← List.take_append_drop 24 words1, List.all_append, w_t1, w_t2]
  rfl
set_option maxRecDepth 65536 in
theorem w_case : (Jvm.Cond.and given_1 narrow_1).before args0 about1 = true := by decide +kernel
theorem w_applies : (headSpec (Jvm.Cond.code x code maxLocals ret :: tables_1) room_1).applies x e0.platform about1 = true :=
  (Spec.applies_iff w_frames).mpr ⟨w_running, w_runnable, w_alone, w_named, w_hears, w_ripe, w_room, w_tables⟩
theorem atStart : AtStart classFile x code maxLocals ret World_1 tables_1 room_1 Calls_1 rest_1 Pre_1 launch0 p0 e0 about1 theMethod args0 below0 :=
  ⟨lists_1, trivial, launch0.admits_env _ _ _, launch0.least_env, fairChoices_fair.cas, fairChoices_fair.clock, w_frames, w_args, w_heap, w_applies, trivial, trivial, w_case⟩
end start1
theorem witness_1 : WitnessClaimed_1 := ⟨start1.p0, start1.e0, start1.about1, start1.theMethod, start1.args0, start1.below0, start1.atStart⟩
end Jvm.Pilot.@@N@@
