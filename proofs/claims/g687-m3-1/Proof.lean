import JvmDerived
import JvmDerived.Pilot.@@N@@Statement
import JvmDerived.Pilot.@@N@@Code
set_option linter.unusedVariables false
set_option linter.unusedSimpArgs false
namespace Jvm.Pilot.@@N@@
open Jvm Jvm.ClassFile Sem Op Lib Jvm.Free Jvm.Stand Jvm.LawKit Jvm.RoadKit Bundle Jvm.Pilot.@@N@@.Jvm.D
/-- every run that goes on from the frame g of T to t is one of G -/
abbrev Go (p : Program) (e : Env) (below : List Frame) (T : State) (g : JFrame) (G : State → Prop) : Prop := ∀ t, Steps p.tables e below (T.setTop g) t → G t
theorem pn_0 : plainName "com/example/vervet/vervet/Label" = true := by first | (simp [plainName, overriddenIn]; done) | decide +kernel
theorem ef_prog_11_method_8_J (m : MethodId) (x0 : Int64) : entryFrame m #[(.long x0)] 2 = mkF m 0 #[.val (.long x0), .second] [] := by first | (simp [entryFrame, mkF, argsToLocals, Value.category]; done) | rfl
theorem d_prog_11_method_8_0 : decode prog_11_method_8_code 0 = .ok (.lload_n 0, 1) := by decide +kernel
theorem d_prog_11_method_8_1 : decode prog_11_method_8_code 1 = .ok (.lconst 0, 1) := by decide +kernel
theorem d_prog_11_method_8_2 : decode prog_11_method_8_code 2 = .ok (.lcmp, 1) := by decide +kernel
theorem d_prog_11_method_8_3 : decode prog_11_method_8_code 3 = .ok (.ifCond .lt 15, 3) := by decide +kernel
theorem d_prog_11_method_8_6 : decode prog_11_method_8_code 6 = .ok (.lload_n 0, 1) := by decide +kernel
theorem d_prog_11_method_8_7 : decode prog_11_method_8_code 7 = .ok (.ldc2_w 55, 3) := by decide +kernel
theorem d_prog_11_method_8_10 : decode prog_11_method_8_code 10 = .ok (.lcmp, 1) := by decide +kernel
theorem d_prog_11_method_8_11 : decode prog_11_method_8_code 11 = .ok (.ifCond .gt 7, 3) := by decide +kernel
theorem d_prog_11_method_8_14 : decode prog_11_method_8_code 14 = .ok (.iconst 1, 1) := by decide +kernel
theorem d_prog_11_method_8_15 : decode prog_11_method_8_code 15 = .ok (.goto 4, 3) := by decide +kernel
theorem d_prog_11_method_8_18 : decode prog_11_method_8_code 18 = .ok (.iconst 0, 1) := by decide +kernel
theorem d_prog_11_method_8_19 : decode prog_11_method_8_code 19 = .ok (.ireturn, 1) := by decide +kernel
def Q1 (Z : State) (u : Int64) (h0 : Heap) (n0 : Nat) (v : Option Value) (h : Heap) (L : List Loc) : Prop := v = some (.int (if ¬ (u < (0 : Int64)) ∧ ¬ ((4294967294 : Int64) < u) then (1 : Int32) else 0)) ∧ Fr n0 L ∧ h = h0
set_option maxRecDepth 65536 in
set_option maxHeartbeats 40000000 in
theorem rm1 (l : Launch) (Z : State) (a0 : Array Value) (hw : ∀ d ∈ tables_1, d.before a0 Z = true) (ws : List Jvm.Cond) (u : Int64) (h0 : Heap) (n0 : Nat) (Z0 : n0 ≤ h0.size) :
    MetFree l (⟨"com/example/vervet/vervet/Label", "isValidUid", "(J)Z"⟩ : MethodName) (head1 (Jvm.Cond.code (⟨"com/example/vervet/vervet/Label", "isValidUid", "(J)Z"⟩ : MethodName) prog_11_method_8_code 2 (some .boolean) :: ws) ({ frames := 0, cells := 0, slots := 0, locals := 0 } : Room)) (fun aa UU => aa = #[(.long u)] ∧ Z.Warmed39 UU.vm ∧ UU.heap = h0) (fun _ _ _ _ _ => True) (fun _ UU oo UU' => ∃ vv LL, oo = .returned vv ∧ Q1 Z u h0 n0 vv UU'.heap LL ∧ FrameEnd UU oo UU' LL ({ frames := 0, cells := 0, slots := 0, locals := 0 } : Room).cells ({ frames := 0, cells := 0, slots := 0, locals := 0 } : Room).slots) := by
  refine MetFree.of_bodySF (plainFor_of_name pn_0) hisR ?_
  intro p e s m args below meth c s₁ Bd hml0 hP hK
  obtain ⟨rfl, hZ, hh⟩ := hP
  have hx := Bd.exec
  have hby := Bd.bytes
  have hml : c.maxLocals = 2 := hml0
  have hown : s.vm.findClass "com/example/vervet/vervet/Label" = some m.cls := findClass_of_methodNamed Bd.named
  have hnm := (name_of_methodNamed Bd.named Bd.method).1
  have hW : ∀ (k : Nat) (d : Jvm.Cond), tables_1[k]? = some d → d.before a0 Z = true := fun k d h => hw d (List.mem_of_getElem? h)
  have X0 : Stand p l e ({ frames := 0, cells := 0, slots := 0, locals := 0 } : Room) s m #[(.long u)] below meth c s₁ [] 0 0 := Stand.of_body Bd
  have e0 : s₁.heap = h0 := by rw [← hh, Bd.state]; rfl
  have N0 := Fr.nil n0
  obtain ⟨G, hG, K0⟩ : ∃ G : State → Prop, (∀ t, G t → Steps p.tables e below (s₁.setTop (entryFrame m #[(.long u)] 2)) t) ∧ Go p e below s₁ (mkF m 0 #[.val (.long u), .second] []) G := ⟨fun t => Steps p.tables e below (s₁.setTop (entryFrame m #[(.long u)] 2)) t, fun _ h => h, fun t k => castTop (ef_prog_11_method_8_J m u) k⟩
  have K1 : Go p e below s₁ (mkF m 1 #[.val (.long u), .second] [(.long u)]) G := fun t k => K0 t (XS.lloadN X0.here hx rfl (hb hby d_prog_11_method_8_0) rfl k)
  have K2 : Go p e below s₁ (mkF m 2 #[.val (.long u), .second] [(.long (0 : Int64)), (.long u)]) G := fun t k => K1 t (XS.lconst X0.here hx rfl (hb hby d_prog_11_method_8_1) k)
  have K3 : Go p e below s₁ (mkF m 3 #[.val (.long u), .second] [(.int (lcmpW u (0 : Int64)))]) G := fun t k => K2 t (XS.lcmp X0.here hx rfl (hb hby d_prog_11_method_8_2) rfl k)
  by_cases hc4 : u < (0 : Int64)
  · skip
    have K5 : Go p e below s₁ (mkF m 18 #[.val (.long u), .second] []) G := fun t k => K3 t (XS.ifYes X0.here hx rfl (pc0 := 3) (pc' := 18) rfl (hb hby d_prog_11_method_8_3) rfl ((if0 _ _).trans (tlt ((lw_lt _ _).mpr hc4)).1) (by decide) (by decide) k)
    have K6 : Go p e below s₁ (mkF m 19 #[.val (.long u), .second] [(.int (0 : Int32))]) G := fun t k => K5 t (XS.iconst X0.here hx rfl (hb hby d_prog_11_method_8_18) k)
    obtain ⟨fs, hr, hrun, hended, hWW, hsame⟩ := X0.leave (v := some (.int (0 : Int32))) (fun h => by rw [Bd.returns] at h; cases h)
    refine ⟨_, _, hG _ (K6 _ (retN X0 hx (t := .boolean) Bd.returns (by simp) (hb hby d_prog_11_method_8_19) hr)), hrun, hended, _, _, rfl, ?_, ⟨_, rfl⟩, hWW, hsame.mono (by decide) (by decide)⟩
    show Q1 Z u h0 n0 _ s₁.heap _
    rw [e0]
    exact ⟨by simp [hc4], N0, rfl⟩
  · skip
    have K7 : Go p e below s₁ (mkF m 6 #[.val (.long u), .second] []) G := fun t k => K3 t (XS.ifNo X0.here hx rfl (hb hby d_prog_11_method_8_3) rfl ((if0 _ _).trans (flt (fun z => hc4 ((lw_lt _ _).mp z))).1) k)
    have K8 : Go p e below s₁ (mkF m 7 #[.val (.long u), .second] [(.long u)]) G := fun t k => K7 t (XS.lloadN X0.here hx rfl (hb hby d_prog_11_method_8_6) rfl k)
    have K9 : Go p e below s₁ (mkF m 10 #[.val (.long u), .second] [(.long (4294967294 : Int64)), (.long u)]) G := fun t k => K8 t (X0.ldc2Long hx hown (mvT hZ (hW 7 _ rfl)) (g := (mkF m 7 #[.val (.long u), .second] [(.long u)])) rfl (hb hby d_prog_11_method_8_7) _ k)
    have K10 : Go p e below s₁ (mkF m 11 #[.val (.long u), .second] [(.int (lcmpW u (4294967294 : Int64)))]) G := fun t k => K9 t (XS.lcmp X0.here hx rfl (hb hby d_prog_11_method_8_10) rfl k)
    by_cases hc11 : (4294967294 : Int64) < u
    · skip
      have K12 : Go p e below s₁ (mkF m 18 #[.val (.long u), .second] []) G := fun t k => K10 t (XS.ifYes X0.here hx rfl (pc0 := 11) (pc' := 18) rfl (hb hby d_prog_11_method_8_11) rfl ((if0 _ _).trans (tlt ((lw_gt _ _).mpr hc11)).2.2.1) (by decide) (by decide) k)
      have K13 : Go p e below s₁ (mkF m 19 #[.val (.long u), .second] [(.int (0 : Int32))]) G := fun t k => K12 t (XS.iconst X0.here hx rfl (hb hby d_prog_11_method_8_18) k)
      obtain ⟨fs, hr, hrun, hended, hWW, hsame⟩ := X0.leave (v := some (.int (0 : Int32))) (fun h => by rw [Bd.returns] at h; cases h)
      refine ⟨_, _, hG _ (K13 _ (retN X0 hx (t := .boolean) Bd.returns (by simp) (hb hby d_prog_11_method_8_19) hr)), hrun, hended, _, _, rfl, ?_, ⟨_, rfl⟩, hWW, hsame.mono (by decide) (by decide)⟩
      show Q1 Z u h0 n0 _ s₁.heap _
      rw [e0]
      exact ⟨by simp [hc4, hc11], N0, rfl⟩
    · skip
      have K14 : Go p e below s₁ (mkF m 14 #[.val (.long u), .second] []) G := fun t k => K10 t (XS.ifNo X0.here hx rfl (hb hby d_prog_11_method_8_11) rfl ((if0 _ _).trans (flt (fun z => hc11 ((lw_gt _ _).mp z))).2.2.1) k)
      have K15 : Go p e below s₁ (mkF m 15 #[.val (.long u), .second] [(.int (1 : Int32))]) G := fun t k => K14 t (XS.iconst X0.here hx rfl (hb hby d_prog_11_method_8_14) k)
      have K16 : Go p e below s₁ (mkF m 19 #[.val (.long u), .second] [(.int (1 : Int32))]) G := fun t k => K15 t (XS.goto X0.here hx rfl (pc0 := 15) (pc' := 19) rfl (hb hby d_prog_11_method_8_15) (by decide) (by decide) k)
      obtain ⟨fs, hr, hrun, hended, hWW, hsame⟩ := X0.leave (v := some (.int (1 : Int32))) (fun h => by rw [Bd.returns] at h; cases h)
      refine ⟨_, _, hG _ (K16 _ (retN X0 hx (t := .boolean) Bd.returns (by simp) (hb hby d_prog_11_method_8_19) hr)), hrun, hended, _, _, rfl, ?_, ⟨_, rfl⟩, hWW, hsame.mono (by decide) (by decide)⟩
      show Q1 Z u h0 n0 _ s₁.heap _
      rw [e0]
      exact ⟨by simp [hc4, hc11], N0, rfl⟩
theorem own_lit1 : (4294967294 : Int64).toInt = 4294967294 := by decide
theorem own_lit2 : (4294967295 : Int64).toInt = 4294967295 := by decide
theorem own_lit0 : (0 : Int64).toInt = 0 := by decide
theorem own_law (u : Int64) : ((u.toUInt64 >>> ((32 : Int32) &&& 0x3f).toInt64.toUInt64).toInt64 = (0 : Int64) ∧ ¬ (u = (4294967295 : Int64))) ↔ (¬ (u < (0 : Int64)) ∧ ¬ ((4294967294 : Int64) < u)) := by
  have h := c_lushr u (32 : Int32) 32 (by decide) (by decide)
  have r := rng64 u
  rw [← Int64.toInt_inj, ← Int64.toInt_inj, Int64.lt_iff_toInt_lt, Int64.lt_iff_toInt_lt, h, own_lit1, own_lit2, own_lit0]
  omega
theorem pn_14 : plainName "com/example/vervet/vervet/LabelIsValidUidPinLaw" = true := by first | (simp [plainName, overriddenIn]; done) | decide +kernel
theorem ef_code_JI (m : MethodId) (x0 : Int64) (x1 : Int32) : entryFrame m #[(.long x0), (.int x1)] maxLocals = mkF m 0 #[.val (.long x0), .second, .val (.int x1), .unset, .unset, .unset, .unset, .unset, .unset] [] := by first | (simp [entryFrame, mkF, argsToLocals, Value.category, maxLocals]; done) | rfl
theorem pd_16 : parseMethodDescriptor "(J)Z" = some ⟨[.long], some .boolean⟩ := by decide +kernel
def Q0 (Z : State) (q0 : Int64) (q1 : Int32) (h0 : Heap) (n0 : Nat) (v : Option Value) (h : Heap) (L : List Loc) : Prop := v = some (.int 1) ∧ Fr n0 L
set_option maxRecDepth 65536 in
set_option maxHeartbeats 40000000 in
theorem rm0 (l : Launch) (Z : State) (a0 : Array Value) (hw : ∀ d ∈ tables_1, d.before a0 Z = true) (ws : List Jvm.Cond) (q0 : Int64) (q1 : Int32) (h0 : Heap) (n0 : Nat) (Z0 : n0 ≤ h0.size) :
    MetFree l x (head1 (Jvm.Cond.code x code maxLocals ret :: ws) room_1) (fun aa UU => aa = #[(.long q0), (.int q1)] ∧ Z.Warmed39 UU.vm ∧ UU.heap = h0) (fun _ _ _ _ _ => True) (fun _ UU oo UU' => ∃ vv LL, oo = .returned vv ∧ Q0 Z q0 q1 h0 n0 vv UU'.heap LL ∧ FrameEnd UU oo UU' LL 0 0) := by
  refine MetFree.of_bodySF (plainFor_of_name pn_14) hisR ?_
  intro p e s m args below meth c s₁ Bd hml0 hP hK
  obtain ⟨rfl, hZ, hh⟩ := hP
  have hx := Bd.exec
  have hby := Bd.bytes
  have hml : c.maxLocals = 9 := hml0
  have hown : s.vm.findClass "com/example/vervet/vervet/LabelIsValidUidPinLaw" = some m.cls := findClass_of_methodNamed Bd.named
  have hnm := (name_of_methodNamed Bd.named Bd.method).1
  have hW : ∀ (k : Nat) (d : Jvm.Cond), tables_1[k]? = some d → d.before a0 Z = true := fun k d h => hw d (List.mem_of_getElem? h)
  have X0 : Stand p l e room_1 s m #[(.long q0), (.int q1)] below meth c s₁ [] 0 0 := Stand.of_body Bd
  have e0 : s₁.heap = h0 := by rw [← hh, Bd.state]; rfl
  have N0 := Fr.nil n0
  obtain ⟨G, hG, K0⟩ : ∃ G : State → Prop, (∀ t, G t → Steps p.tables e below (s₁.setTop (entryFrame m #[(.long q0), (.int q1)] maxLocals)) t) ∧ Go p e below s₁ (mkF m 0 #[.val (.long q0), .second, .val (.int q1), .unset, .unset, .unset, .unset, .unset, .unset] []) G := ⟨fun t => Steps p.tables e below (s₁.setTop (entryFrame m #[(.long q0), (.int q1)] maxLocals)) t, fun _ h => h, fun t k => castTop (ef_code_JI m q0 q1) k⟩
  obtain ⟨uid, Kj17⟩ : ∃ (uid : Int64), Go p e below s₁ (mkF m 62 #[.val (.long q0), .second, .val (.int q1), .val (.int (q1 &&& (3 : Int32))), .val (.long ((((q1 >>> ((2 : Int32) &&& 31)) &&& (7 : Int32)).toInt64) - (4 : Int64))), .second, .val (.long uid), .second, .unset] []) G := by
    have K18 : Go p e below s₁ (mkF m 1 #[.val (.long q0), .second, .val (.int q1), .unset, .unset, .unset, .unset, .unset, .unset] [(.int q1)]) G := fun t k => K0 t (XS.iloadN X0.here hx rfl (hb hby at_0) rfl k)
    have K19 : Go p e below s₁ (mkF m 2 #[.val (.long q0), .second, .val (.int q1), .unset, .unset, .unset, .unset, .unset, .unset] [(.int (3 : Int32)), (.int q1)]) G := fun t k => K18 t (XS.iconst X0.here hx rfl (hb hby at_1) k)
    have K20 : Go p e below s₁ (mkF m 3 #[.val (.long q0), .second, .val (.int q1), .unset, .unset, .unset, .unset, .unset, .unset] [(.int (q1 &&& (3 : Int32)))]) G := fun t k => K19 t (XS.iand X0.here hx rfl (hb hby at_2) rfl k)
    have K21 : Go p e below s₁ (mkF m 4 #[.val (.long q0), .second, .val (.int q1), .val (.int (q1 &&& (3 : Int32))), .unset, .unset, .unset, .unset, .unset] []) G := fun t k => K20 t (XS.istoreN X0.here hx rfl (hb hby at_3) rfl (l' := #[.val (.long q0), .second, .val (.int q1), .val (.int (q1 &&& (3 : Int32))), .unset, .unset, .unset, .unset, .unset]) rfl k)
    have K22 : Go p e below s₁ (mkF m 5 #[.val (.long q0), .second, .val (.int q1), .val (.int (q1 &&& (3 : Int32))), .unset, .unset, .unset, .unset, .unset] [(.int q1)]) G := fun t k => K21 t (XS.iloadN X0.here hx rfl (hb hby at_4) rfl k)
    have K23 : Go p e below s₁ (mkF m 6 #[.val (.long q0), .second, .val (.int q1), .val (.int (q1 &&& (3 : Int32))), .unset, .unset, .unset, .unset, .unset] [(.int (2 : Int32)), (.int q1)]) G := fun t k => K22 t (XS.iconst X0.here hx rfl (hb hby at_5) k)
    have K24 : Go p e below s₁ (mkF m 7 #[.val (.long q0), .second, .val (.int q1), .val (.int (q1 &&& (3 : Int32))), .unset, .unset, .unset, .unset, .unset] [(.int (q1 >>> ((2 : Int32) &&& 31)))]) G := fun t k => K23 t (XS.ishr X0.here hx rfl (hb hby at_6) rfl k)
    have K25 : Go p e below s₁ (mkF m 9 #[.val (.long q0), .second, .val (.int q1), .val (.int (q1 &&& (3 : Int32))), .unset, .unset, .unset, .unset, .unset] [(.int (7 : Int32)), (.int (q1 >>> ((2 : Int32) &&& 31)))]) G := fun t k => K24 t (XS.bipush X0.here hx rfl (hb hby at_7) k)
    have K26 : Go p e below s₁ (mkF m 10 #[.val (.long q0), .second, .val (.int q1), .val (.int (q1 &&& (3 : Int32))), .unset, .unset, .unset, .unset, .unset] [(.int ((q1 >>> ((2 : Int32) &&& 31)) &&& (7 : Int32)))]) G := fun t k => K25 t (XS.iand X0.here hx rfl (hb hby at_9) rfl k)
    have K27 : Go p e below s₁ (mkF m 11 #[.val (.long q0), .second, .val (.int q1), .val (.int (q1 &&& (3 : Int32))), .unset, .unset, .unset, .unset, .unset] [(.long (((q1 >>> ((2 : Int32) &&& 31)) &&& (7 : Int32)).toInt64))]) G := fun t k => K26 t (XS.i2l X0.here hx rfl (hb hby at_10) rfl k)
    have K28 : Go p e below s₁ (mkF m 14 #[.val (.long q0), .second, .val (.int q1), .val (.int (q1 &&& (3 : Int32))), .unset, .unset, .unset, .unset, .unset] [(.long (4 : Int64)), (.long (((q1 >>> ((2 : Int32) &&& 31)) &&& (7 : Int32)).toInt64))]) G := fun t k => K27 t (X0.ldc2Long hx hown (mvT hZ (hW 0 _ rfl)) (g := (mkF m 11 #[.val (.long q0), .second, .val (.int q1), .val (.int (q1 &&& (3 : Int32))), .unset, .unset, .unset, .unset, .unset] [(.long (((q1 >>> ((2 : Int32) &&& 31)) &&& (7 : Int32)).toInt64))])) rfl (hb hby at_11) _ k)
    have K29 : Go p e below s₁ (mkF m 15 #[.val (.long q0), .second, .val (.int q1), .val (.int (q1 &&& (3 : Int32))), .unset, .unset, .unset, .unset, .unset] [(.long ((((q1 >>> ((2 : Int32) &&& 31)) &&& (7 : Int32)).toInt64) - (4 : Int64)))]) G := fun t k => K28 t (XS.lsub X0.here hx rfl (hb hby at_14) rfl k)
    have K30 : Go p e below s₁ (mkF m 17 #[.val (.long q0), .second, .val (.int q1), .val (.int (q1 &&& (3 : Int32))), .val (.long ((((q1 >>> ((2 : Int32) &&& 31)) &&& (7 : Int32)).toInt64) - (4 : Int64))), .second, .unset, .unset, .unset] []) G := fun t k => K29 t (XS.lstore X0.here hx rfl (hb hby at_15) rfl (l' := #[.val (.long q0), .second, .val (.int q1), .val (.int (q1 &&& (3 : Int32))), .val (.long ((((q1 >>> ((2 : Int32) &&& 31)) &&& (7 : Int32)).toInt64) - (4 : Int64))), .second, .unset, .unset, .unset]) rfl k)
    have K31 : Go p e below s₁ (mkF m 18 #[.val (.long q0), .second, .val (.int q1), .val (.int (q1 &&& (3 : Int32))), .val (.long ((((q1 >>> ((2 : Int32) &&& 31)) &&& (7 : Int32)).toInt64) - (4 : Int64))), .second, .unset, .unset, .unset] [(.int (q1 &&& (3 : Int32)))]) G := fun t k => K30 t (XS.iloadN X0.here hx rfl (hb hby at_17) rfl k)
    by_cases hc32 : (q1 &&& (3 : Int32)) = (0 : Int32)
    · skip
      have K33 : Go p e below s₁ (mkF m 21 #[.val (.long q0), .second, .val (.int q1), .val (.int (q1 &&& (3 : Int32))), .val (.long ((((q1 >>> ((2 : Int32) &&& 31)) &&& (7 : Int32)).toInt64) - (4 : Int64))), .second, .unset, .unset, .unset] []) G := fun t k => K31 t (XS.ifNo X0.here hx rfl (hb hby at_18) rfl ((if0 _ _).trans (teq hc32).2) k)
      have K34 : Go p e below s₁ (mkF m 22 #[.val (.long q0), .second, .val (.int q1), .val (.int (q1 &&& (3 : Int32))), .val (.long ((((q1 >>> ((2 : Int32) &&& 31)) &&& (7 : Int32)).toInt64) - (4 : Int64))), .second, .unset, .unset, .unset] [(.long q0)]) G := fun t k => K33 t (XS.lloadN X0.here hx rfl (hb hby at_21) rfl k)
      have K35 : Go p e below s₁ (mkF m 24 #[.val (.long q0), .second, .val (.int q1), .val (.int (q1 &&& (3 : Int32))), .val (.long ((((q1 >>> ((2 : Int32) &&& 31)) &&& (7 : Int32)).toInt64) - (4 : Int64))), .second, .val (.long q0), .second, .unset] []) G := fun t k => K34 t (XS.lstore X0.here hx rfl (hb hby at_22) rfl (l' := #[.val (.long q0), .second, .val (.int q1), .val (.int (q1 &&& (3 : Int32))), .val (.long ((((q1 >>> ((2 : Int32) &&& 31)) &&& (7 : Int32)).toInt64) - (4 : Int64))), .second, .val (.long q0), .second, .unset]) rfl k)
      have K36 : Go p e below s₁ (mkF m 62 #[.val (.long q0), .second, .val (.int q1), .val (.int (q1 &&& (3 : Int32))), .val (.long ((((q1 >>> ((2 : Int32) &&& 31)) &&& (7 : Int32)).toInt64) - (4 : Int64))), .second, .val (.long q0), .second, .unset] []) G := fun t k => K35 t (XS.goto X0.here hx rfl (pc0 := 24) (pc' := 62) rfl (hb hby at_24) (by decide) (by decide) k)
      exact ⟨q0, K36⟩
    · skip
      have K37 : Go p e below s₁ (mkF m 27 #[.val (.long q0), .second, .val (.int q1), .val (.int (q1 &&& (3 : Int32))), .val (.long ((((q1 >>> ((2 : Int32) &&& 31)) &&& (7 : Int32)).toInt64) - (4 : Int64))), .second, .unset, .unset, .unset] []) G := fun t k => K31 t (XS.ifYes X0.here hx rfl (pc0 := 18) (pc' := 27) rfl (hb hby at_18) rfl ((if0 _ _).trans (feq hc32).2) (by decide) (by decide) k)
      have K38 : Go p e below s₁ (mkF m 28 #[.val (.long q0), .second, .val (.int q1), .val (.int (q1 &&& (3 : Int32))), .val (.long ((((q1 >>> ((2 : Int32) &&& 31)) &&& (7 : Int32)).toInt64) - (4 : Int64))), .second, .unset, .unset, .unset] [(.int (q1 &&& (3 : Int32)))]) G := fun t k => K37 t (XS.iloadN X0.here hx rfl (hb hby at_27) rfl k)
      have K39 : Go p e below s₁ (mkF m 29 #[.val (.long q0), .second, .val (.int q1), .val (.int (q1 &&& (3 : Int32))), .val (.long ((((q1 >>> ((2 : Int32) &&& 31)) &&& (7 : Int32)).toInt64) - (4 : Int64))), .second, .unset, .unset, .unset] [(.int (1 : Int32)), (.int (q1 &&& (3 : Int32)))]) G := fun t k => K38 t (XS.iconst X0.here hx rfl (hb hby at_28) k)
      by_cases hc40 : (q1 &&& (3 : Int32)) = (1 : Int32)
      · skip
        have K41 : Go p e below s₁ (mkF m 32 #[.val (.long q0), .second, .val (.int q1), .val (.int (q1 &&& (3 : Int32))), .val (.long ((((q1 >>> ((2 : Int32) &&& 31)) &&& (7 : Int32)).toInt64) - (4 : Int64))), .second, .unset, .unset, .unset] []) G := fun t k => K39 t (XS.icmpNo X0.here hx rfl (hb hby at_29) rfl ((teq hc40).2) k)
        have K42 : Go p e below s₁ (mkF m 34 #[.val (.long q0), .second, .val (.int q1), .val (.int (q1 &&& (3 : Int32))), .val (.long ((((q1 >>> ((2 : Int32) &&& 31)) &&& (7 : Int32)).toInt64) - (4 : Int64))), .second, .unset, .unset, .unset] [(.long ((((q1 >>> ((2 : Int32) &&& 31)) &&& (7 : Int32)).toInt64) - (4 : Int64)))]) G := fun t k => K41 t (XS.lload X0.here hx rfl (hb hby at_32) rfl k)
        have K43 : Go p e below s₁ (mkF m 36 #[.val (.long q0), .second, .val (.int q1), .val (.int (q1 &&& (3 : Int32))), .val (.long ((((q1 >>> ((2 : Int32) &&& 31)) &&& (7 : Int32)).toInt64) - (4 : Int64))), .second, .val (.long ((((q1 >>> ((2 : Int32) &&& 31)) &&& (7 : Int32)).toInt64) - (4 : Int64))), .second, .unset] []) G := fun t k => K42 t (XS.lstore X0.here hx rfl (hb hby at_34) rfl (l' := #[.val (.long q0), .second, .val (.int q1), .val (.int (q1 &&& (3 : Int32))), .val (.long ((((q1 >>> ((2 : Int32) &&& 31)) &&& (7 : Int32)).toInt64) - (4 : Int64))), .second, .val (.long ((((q1 >>> ((2 : Int32) &&& 31)) &&& (7 : Int32)).toInt64) - (4 : Int64))), .second, .unset]) rfl k)
        have K44 : Go p e below s₁ (mkF m 62 #[.val (.long q0), .second, .val (.int q1), .val (.int (q1 &&& (3 : Int32))), .val (.long ((((q1 >>> ((2 : Int32) &&& 31)) &&& (7 : Int32)).toInt64) - (4 : Int64))), .second, .val (.long ((((q1 >>> ((2 : Int32) &&& 31)) &&& (7 : Int32)).toInt64) - (4 : Int64))), .second, .unset] []) G := fun t k => K43 t (XS.goto X0.here hx rfl (pc0 := 36) (pc' := 62) rfl (hb hby at_36) (by decide) (by decide) k)
        exact ⟨((((q1 >>> ((2 : Int32) &&& 31)) &&& (7 : Int32)).toInt64) - (4 : Int64)), K44⟩
      · skip
        have K45 : Go p e below s₁ (mkF m 39 #[.val (.long q0), .second, .val (.int q1), .val (.int (q1 &&& (3 : Int32))), .val (.long ((((q1 >>> ((2 : Int32) &&& 31)) &&& (7 : Int32)).toInt64) - (4 : Int64))), .second, .unset, .unset, .unset] []) G := fun t k => K39 t (XS.icmpYes X0.here hx rfl (pc0 := 29) (pc' := 39) rfl (hb hby at_29) rfl ((feq hc40).2) (by decide) (by decide) k)
        have K46 : Go p e below s₁ (mkF m 40 #[.val (.long q0), .second, .val (.int q1), .val (.int (q1 &&& (3 : Int32))), .val (.long ((((q1 >>> ((2 : Int32) &&& 31)) &&& (7 : Int32)).toInt64) - (4 : Int64))), .second, .unset, .unset, .unset] [(.int (q1 &&& (3 : Int32)))]) G := fun t k => K45 t (XS.iloadN X0.here hx rfl (hb hby at_39) rfl k)
        have K47 : Go p e below s₁ (mkF m 41 #[.val (.long q0), .second, .val (.int q1), .val (.int (q1 &&& (3 : Int32))), .val (.long ((((q1 >>> ((2 : Int32) &&& 31)) &&& (7 : Int32)).toInt64) - (4 : Int64))), .second, .unset, .unset, .unset] [(.int (2 : Int32)), (.int (q1 &&& (3 : Int32)))]) G := fun t k => K46 t (XS.iconst X0.here hx rfl (hb hby at_40) k)
        by_cases hc48 : (q1 &&& (3 : Int32)) = (2 : Int32)
        · skip
          have K49 : Go p e below s₁ (mkF m 44 #[.val (.long q0), .second, .val (.int q1), .val (.int (q1 &&& (3 : Int32))), .val (.long ((((q1 >>> ((2 : Int32) &&& 31)) &&& (7 : Int32)).toInt64) - (4 : Int64))), .second, .unset, .unset, .unset] []) G := fun t k => K47 t (XS.icmpNo X0.here hx rfl (hb hby at_41) rfl ((teq hc48).2) k)
          have K50 : Go p e below s₁ (mkF m 47 #[.val (.long q0), .second, .val (.int q1), .val (.int (q1 &&& (3 : Int32))), .val (.long ((((q1 >>> ((2 : Int32) &&& 31)) &&& (7 : Int32)).toInt64) - (4 : Int64))), .second, .unset, .unset, .unset] [(.long (4294967294 : Int64))]) G := fun t k => K49 t (X0.ldc2Long hx hown (mvT hZ (hW 1 _ rfl)) (g := (mkF m 44 #[.val (.long q0), .second, .val (.int q1), .val (.int (q1 &&& (3 : Int32))), .val (.long ((((q1 >>> ((2 : Int32) &&& 31)) &&& (7 : Int32)).toInt64) - (4 : Int64))), .second, .unset, .unset, .unset] [])) rfl (hb hby at_44) _ k)
          have K51 : Go p e below s₁ (mkF m 49 #[.val (.long q0), .second, .val (.int q1), .val (.int (q1 &&& (3 : Int32))), .val (.long ((((q1 >>> ((2 : Int32) &&& 31)) &&& (7 : Int32)).toInt64) - (4 : Int64))), .second, .unset, .unset, .unset] [(.long ((((q1 >>> ((2 : Int32) &&& 31)) &&& (7 : Int32)).toInt64) - (4 : Int64))), (.long (4294967294 : Int64))]) G := fun t k => K50 t (XS.lload X0.here hx rfl (hb hby at_47) rfl k)
          have K52 : Go p e below s₁ (mkF m 50 #[.val (.long q0), .second, .val (.int q1), .val (.int (q1 &&& (3 : Int32))), .val (.long ((((q1 >>> ((2 : Int32) &&& 31)) &&& (7 : Int32)).toInt64) - (4 : Int64))), .second, .unset, .unset, .unset] [(.long ((4294967294 : Int64) + ((((q1 >>> ((2 : Int32) &&& 31)) &&& (7 : Int32)).toInt64) - (4 : Int64))))]) G := fun t k => K51 t (XS.ladd X0.here hx rfl (hb hby at_49) rfl k)
          have K53 : Go p e below s₁ (mkF m 52 #[.val (.long q0), .second, .val (.int q1), .val (.int (q1 &&& (3 : Int32))), .val (.long ((((q1 >>> ((2 : Int32) &&& 31)) &&& (7 : Int32)).toInt64) - (4 : Int64))), .second, .val (.long ((4294967294 : Int64) + ((((q1 >>> ((2 : Int32) &&& 31)) &&& (7 : Int32)).toInt64) - (4 : Int64)))), .second, .unset] []) G := fun t k => K52 t (XS.lstore X0.here hx rfl (hb hby at_50) rfl (l' := #[.val (.long q0), .second, .val (.int q1), .val (.int (q1 &&& (3 : Int32))), .val (.long ((((q1 >>> ((2 : Int32) &&& 31)) &&& (7 : Int32)).toInt64) - (4 : Int64))), .second, .val (.long ((4294967294 : Int64) + ((((q1 >>> ((2 : Int32) &&& 31)) &&& (7 : Int32)).toInt64) - (4 : Int64)))), .second, .unset]) rfl k)
          have K54 : Go p e below s₁ (mkF m 62 #[.val (.long q0), .second, .val (.int q1), .val (.int (q1 &&& (3 : Int32))), .val (.long ((((q1 >>> ((2 : Int32) &&& 31)) &&& (7 : Int32)).toInt64) - (4 : Int64))), .second, .val (.long ((4294967294 : Int64) + ((((q1 >>> ((2 : Int32) &&& 31)) &&& (7 : Int32)).toInt64) - (4 : Int64)))), .second, .unset] []) G := fun t k => K53 t (XS.goto X0.here hx rfl (pc0 := 52) (pc' := 62) rfl (hb hby at_52) (by decide) (by decide) k)
          exact ⟨((4294967294 : Int64) + ((((q1 >>> ((2 : Int32) &&& 31)) &&& (7 : Int32)).toInt64) - (4 : Int64))), K54⟩
        · skip
          have K55 : Go p e below s₁ (mkF m 55 #[.val (.long q0), .second, .val (.int q1), .val (.int (q1 &&& (3 : Int32))), .val (.long ((((q1 >>> ((2 : Int32) &&& 31)) &&& (7 : Int32)).toInt64) - (4 : Int64))), .second, .unset, .unset, .unset] []) G := fun t k => K47 t (XS.icmpYes X0.here hx rfl (pc0 := 41) (pc' := 55) rfl (hb hby at_41) rfl ((feq hc48).2) (by decide) (by decide) k)
          have K56 : Go p e below s₁ (mkF m 56 #[.val (.long q0), .second, .val (.int q1), .val (.int (q1 &&& (3 : Int32))), .val (.long ((((q1 >>> ((2 : Int32) &&& 31)) &&& (7 : Int32)).toInt64) - (4 : Int64))), .second, .unset, .unset, .unset] [(.long q0)]) G := fun t k => K55 t (XS.lloadN X0.here hx rfl (hb hby at_55) rfl k)
          have K57 : Go p e below s₁ (mkF m 59 #[.val (.long q0), .second, .val (.int q1), .val (.int (q1 &&& (3 : Int32))), .val (.long ((((q1 >>> ((2 : Int32) &&& 31)) &&& (7 : Int32)).toInt64) - (4 : Int64))), .second, .unset, .unset, .unset] [(.long (4294967295 : Int64)), (.long q0)]) G := fun t k => K56 t (X0.ldc2Long hx hown (mvT hZ (hW 2 _ rfl)) (g := (mkF m 56 #[.val (.long q0), .second, .val (.int q1), .val (.int (q1 &&& (3 : Int32))), .val (.long ((((q1 >>> ((2 : Int32) &&& 31)) &&& (7 : Int32)).toInt64) - (4 : Int64))), .second, .unset, .unset, .unset] [(.long q0)])) rfl (hb hby at_56) _ k)
          have K58 : Go p e below s₁ (mkF m 60 #[.val (.long q0), .second, .val (.int q1), .val (.int (q1 &&& (3 : Int32))), .val (.long ((((q1 >>> ((2 : Int32) &&& 31)) &&& (7 : Int32)).toInt64) - (4 : Int64))), .second, .unset, .unset, .unset] [(.long (q0 &&& (4294967295 : Int64)))]) G := fun t k => K57 t (XS.land X0.here hx rfl (hb hby at_59) rfl k)
          have K59 : Go p e below s₁ (mkF m 62 #[.val (.long q0), .second, .val (.int q1), .val (.int (q1 &&& (3 : Int32))), .val (.long ((((q1 >>> ((2 : Int32) &&& 31)) &&& (7 : Int32)).toInt64) - (4 : Int64))), .second, .val (.long (q0 &&& (4294967295 : Int64))), .second, .unset] []) G := fun t k => K58 t (XS.lstore X0.here hx rfl (hb hby at_60) rfl (l' := #[.val (.long q0), .second, .val (.int q1), .val (.int (q1 &&& (3 : Int32))), .val (.long ((((q1 >>> ((2 : Int32) &&& 31)) &&& (7 : Int32)).toInt64) - (4 : Int64))), .second, .val (.long (q0 &&& (4294967295 : Int64))), .second, .unset]) rfl k)
          exact ⟨(q0 &&& (4294967295 : Int64)), K59⟩
  have K60 : Go p e below s₁ (mkF m 64 #[.val (.long q0), .second, .val (.int q1), .val (.int (q1 &&& (3 : Int32))), .val (.long ((((q1 >>> ((2 : Int32) &&& 31)) &&& (7 : Int32)).toInt64) - (4 : Int64))), .second, .val (.long uid), .second, .unset] [(.long uid)]) G := fun t k => Kj17 t (XS.lload X0.here hx rfl (hb hby at_62) rfl k)
  have K61 : Go p e below s₁ (mkF m 66 #[.val (.long q0), .second, .val (.int q1), .val (.int (q1 &&& (3 : Int32))), .val (.long ((((q1 >>> ((2 : Int32) &&& 31)) &&& (7 : Int32)).toInt64) - (4 : Int64))), .second, .val (.long uid), .second, .unset] [(.int (32 : Int32)), (.long uid)]) G := fun t k => K60 t (XS.bipush X0.here hx rfl (hb hby at_64) k)
  have K62 : Go p e below s₁ (mkF m 67 #[.val (.long q0), .second, .val (.int q1), .val (.int (q1 &&& (3 : Int32))), .val (.long ((((q1 >>> ((2 : Int32) &&& 31)) &&& (7 : Int32)).toInt64) - (4 : Int64))), .second, .val (.long uid), .second, .unset] [(.long ((uid.toUInt64 >>> ((32 : Int32) &&& 0x3f).toInt64.toUInt64).toInt64))]) G := fun t k => K61 t (XS.lushr X0.here hx rfl (hb hby at_66) rfl k)
  have K63 : Go p e below s₁ (mkF m 68 #[.val (.long q0), .second, .val (.int q1), .val (.int (q1 &&& (3 : Int32))), .val (.long ((((q1 >>> ((2 : Int32) &&& 31)) &&& (7 : Int32)).toInt64) - (4 : Int64))), .second, .val (.long uid), .second, .unset] [(.long (0 : Int64)), (.long ((uid.toUInt64 >>> ((32 : Int32) &&& 0x3f).toInt64.toUInt64).toInt64))]) G := fun t k => K62 t (XS.lconst X0.here hx rfl (hb hby at_67) k)
  have K64 : Go p e below s₁ (mkF m 69 #[.val (.long q0), .second, .val (.int q1), .val (.int (q1 &&& (3 : Int32))), .val (.long ((((q1 >>> ((2 : Int32) &&& 31)) &&& (7 : Int32)).toInt64) - (4 : Int64))), .second, .val (.long uid), .second, .unset] [(.int (lcmpW ((uid.toUInt64 >>> ((32 : Int32) &&& 0x3f).toInt64.toUInt64).toInt64) (0 : Int64)))]) G := fun t k => K63 t (XS.lcmp X0.here hx rfl (hb hby at_68) rfl k)
  by_cases hc65 : ((uid.toUInt64 >>> ((32 : Int32) &&& 0x3f).toInt64.toUInt64).toInt64) = (0 : Int64)
  · skip
    have K66 : Go p e below s₁ (mkF m 72 #[.val (.long q0), .second, .val (.int q1), .val (.int (q1 &&& (3 : Int32))), .val (.long ((((q1 >>> ((2 : Int32) &&& 31)) &&& (7 : Int32)).toInt64) - (4 : Int64))), .second, .val (.long uid), .second, .unset] []) G := fun t k => K64 t (XS.ifNo X0.here hx rfl (hb hby at_69) rfl ((if0 _ _).trans (teq ((lw_eq _ _).mpr hc65)).2) k)
    have K67 : Go p e below s₁ (mkF m 74 #[.val (.long q0), .second, .val (.int q1), .val (.int (q1 &&& (3 : Int32))), .val (.long ((((q1 >>> ((2 : Int32) &&& 31)) &&& (7 : Int32)).toInt64) - (4 : Int64))), .second, .val (.long uid), .second, .unset] [(.long uid)]) G := fun t k => K66 t (XS.lload X0.here hx rfl (hb hby at_72) rfl k)
    have K68 : Go p e below s₁ (mkF m 77 #[.val (.long q0), .second, .val (.int q1), .val (.int (q1 &&& (3 : Int32))), .val (.long ((((q1 >>> ((2 : Int32) &&& 31)) &&& (7 : Int32)).toInt64) - (4 : Int64))), .second, .val (.long uid), .second, .unset] [(.long (4294967295 : Int64)), (.long uid)]) G := fun t k => K67 t (X0.ldc2Long hx hown (mvT hZ (hW 2 _ rfl)) (g := (mkF m 74 #[.val (.long q0), .second, .val (.int q1), .val (.int (q1 &&& (3 : Int32))), .val (.long ((((q1 >>> ((2 : Int32) &&& 31)) &&& (7 : Int32)).toInt64) - (4 : Int64))), .second, .val (.long uid), .second, .unset] [(.long uid)])) rfl (hb hby at_74) _ k)
    have K69 : Go p e below s₁ (mkF m 78 #[.val (.long q0), .second, .val (.int q1), .val (.int (q1 &&& (3 : Int32))), .val (.long ((((q1 >>> ((2 : Int32) &&& 31)) &&& (7 : Int32)).toInt64) - (4 : Int64))), .second, .val (.long uid), .second, .unset] [(.int (lcmpW uid (4294967295 : Int64)))]) G := fun t k => K68 t (XS.lcmp X0.here hx rfl (hb hby at_77) rfl k)
    by_cases hc70 : uid = (4294967295 : Int64)
    · skip
      have K71 : Go p e below s₁ (mkF m 85 #[.val (.long q0), .second, .val (.int q1), .val (.int (q1 &&& (3 : Int32))), .val (.long ((((q1 >>> ((2 : Int32) &&& 31)) &&& (7 : Int32)).toInt64) - (4 : Int64))), .second, .val (.long uid), .second, .unset] []) G := fun t k => K69 t (XS.ifYes X0.here hx rfl (pc0 := 78) (pc' := 85) rfl (hb hby at_78) rfl ((if0 _ _).trans (teq ((lw_eq _ _).mpr hc70)).1) (by decide) (by decide) k)
      have K72 : Go p e below s₁ (mkF m 86 #[.val (.long q0), .second, .val (.int q1), .val (.int (q1 &&& (3 : Int32))), .val (.long ((((q1 >>> ((2 : Int32) &&& 31)) &&& (7 : Int32)).toInt64) - (4 : Int64))), .second, .val (.long uid), .second, .unset] [(.int (0 : Int32))]) G := fun t k => K71 t (XS.iconst X0.here hx rfl (hb hby at_85) k)
      have K73 : Go p e below s₁ (mkF m 88 #[.val (.long q0), .second, .val (.int q1), .val (.int (q1 &&& (3 : Int32))), .val (.long ((((q1 >>> ((2 : Int32) &&& 31)) &&& (7 : Int32)).toInt64) - (4 : Int64))), .second, .val (.long uid), .second, .val (.int (0 : Int32))] []) G := fun t k => K72 t (XS.istore X0.here hx rfl (hb hby at_86) rfl (l' := #[.val (.long q0), .second, .val (.int q1), .val (.int (q1 &&& (3 : Int32))), .val (.long ((((q1 >>> ((2 : Int32) &&& 31)) &&& (7 : Int32)).toInt64) - (4 : Int64))), .second, .val (.long uid), .second, .val (.int (0 : Int32))]) rfl k)
      have K74 : Go p e below s₁ (mkF m 90 #[.val (.long q0), .second, .val (.int q1), .val (.int (q1 &&& (3 : Int32))), .val (.long ((((q1 >>> ((2 : Int32) &&& 31)) &&& (7 : Int32)).toInt64) - (4 : Int64))), .second, .val (.long uid), .second, .val (.int (0 : Int32))] [(.long uid)]) G := fun t k => K73 t (XS.lload X0.here hx rfl (hb hby at_88) rfl k)
      obtain ⟨v75, _, ⟨T75, L75, k75, n75⟩, -, X75, ⟨Lc75, hQ75, l75, y75, z75⟩, st75⟩ := Jvm.LawKit.callS X0 hx (y := (⟨"com/example/vervet/vervet/Label", "isValidUid", "(J)Z"⟩ : MethodName)) hown (mvT hZ (hW 3 _ rfl)) (mvT hZ (hW 4 _ rfl)) (mvT hZ (hW 5 _ rfl)) (mvT hZ (hW 6 _ rfl)) (by decide) (backOf (W := 0) (rm1 l Z a0 hw [] uid h0 n0 Z0) hZ (hW 6 _ rfl) (hW 5 _ rfl) (by decide) (by decide)) (g := (mkF m 90 #[.val (.long q0), .second, .val (.int q1), .val (.int (q1 &&& (3 : Int32))), .val (.long ((((q1 >>> ((2 : Int32) &&& 31)) &&& (7 : Int32)).toInt64) - (4 : Int64))), .second, .val (.long uid), .second, .val (.int (0 : Int32))] [(.long uid)])) rfl (by rw [hml]; rfl) (argsL := [(.long uid)]) (rest := []) (lenOf pd_16 rfl) rfl (by show 2 * 0 + _ ≤ _; exact Nat.le_of_eq rfl) (hb hby at_90) (fun _ _ => ⟨rfl, e0, (by decide : 0 + 0 ≤ _), (by decide : 0 + 0 ≤ _)⟩)
      dsimp only [Pt.U, Pt.locs, Pt.cells, Pt.slots] at X75 l75 y75 z75 st75 hQ75
      subst l75 y75 z75
      by_cases hc76 : ¬ (uid < (0 : Int64)) ∧ ¬ ((4294967294 : Int64) < uid)
      · skip
        rw [Q1, if_pos hc76] at hQ75
        obtain ⟨rfl, N75q, E75q⟩ := hQ75
        have N75 := Fr.app N0 N75q
        have K77 : Go p e below T75 (mkF m 93 #[.val (.long q0), .second, .val (.int q1), .val (.int (q1 &&& (3 : Int32))), .val (.long ((((q1 >>> ((2 : Int32) &&& 31)) &&& (7 : Int32)).toInt64) - (4 : Int64))), .second, .val (.long uid), .second, .val (.int (0 : Int32))] [(.int (1 : Int32))]) G := fun t k => K74 t (st75 t k)
        have K78 : Go p e below T75 (mkF m 95 #[.val (.long q0), .second, .val (.int q1), .val (.int (q1 &&& (3 : Int32))), .val (.long ((((q1 >>> ((2 : Int32) &&& 31)) &&& (7 : Int32)).toInt64) - (4 : Int64))), .second, .val (.long uid), .second, .val (.int (0 : Int32))] [(.int (0 : Int32)), (.int (1 : Int32))]) G := fun t k => K77 t (XS.iload X75.here hx rfl (hb hby at_93) rfl k)
        have K79 : Go p e below T75 (mkF m 102 #[.val (.long q0), .second, .val (.int q1), .val (.int (q1 &&& (3 : Int32))), .val (.long ((((q1 >>> ((2 : Int32) &&& 31)) &&& (7 : Int32)).toInt64) - (4 : Int64))), .second, .val (.long uid), .second, .val (.int (0 : Int32))] []) G := fun t k => K78 t (XS.icmpYes X75.here hx rfl (pc0 := 95) (pc' := 102) rfl (hb hby at_95) rfl ((feq (by decide : ¬ ((1 : Int32) = (0 : Int32)))).2) (by decide) (by decide) k)
        have K80 : Go p e below T75 (mkF m 103 #[.val (.long q0), .second, .val (.int q1), .val (.int (q1 &&& (3 : Int32))), .val (.long ((((q1 >>> ((2 : Int32) &&& 31)) &&& (7 : Int32)).toInt64) - (4 : Int64))), .second, .val (.long uid), .second, .val (.int (0 : Int32))] [(.int (0 : Int32))]) G := fun t k => K79 t (XS.iconst X75.here hx rfl (hb hby at_102) k)
        exact absurd hc70 ((own_law uid).mpr hc76).2
      · skip
        rw [Q1, if_neg hc76] at hQ75
        obtain ⟨rfl, N75q, E75q⟩ := hQ75
        have N75 := Fr.app N0 N75q
        have K81 : Go p e below T75 (mkF m 93 #[.val (.long q0), .second, .val (.int q1), .val (.int (q1 &&& (3 : Int32))), .val (.long ((((q1 >>> ((2 : Int32) &&& 31)) &&& (7 : Int32)).toInt64) - (4 : Int64))), .second, .val (.long uid), .second, .val (.int (0 : Int32))] [(.int (0 : Int32))]) G := fun t k => K74 t (st75 t k)
        have K82 : Go p e below T75 (mkF m 95 #[.val (.long q0), .second, .val (.int q1), .val (.int (q1 &&& (3 : Int32))), .val (.long ((((q1 >>> ((2 : Int32) &&& 31)) &&& (7 : Int32)).toInt64) - (4 : Int64))), .second, .val (.long uid), .second, .val (.int (0 : Int32))] [(.int (0 : Int32)), (.int (0 : Int32))]) G := fun t k => K81 t (XS.iload X75.here hx rfl (hb hby at_93) rfl k)
        have K83 : Go p e below T75 (mkF m 98 #[.val (.long q0), .second, .val (.int q1), .val (.int (q1 &&& (3 : Int32))), .val (.long ((((q1 >>> ((2 : Int32) &&& 31)) &&& (7 : Int32)).toInt64) - (4 : Int64))), .second, .val (.long uid), .second, .val (.int (0 : Int32))] []) G := fun t k => K82 t (XS.icmpNo X75.here hx rfl (hb hby at_95) rfl ((teq (by decide : (0 : Int32) = (0 : Int32))).2) k)
        have K84 : Go p e below T75 (mkF m 99 #[.val (.long q0), .second, .val (.int q1), .val (.int (q1 &&& (3 : Int32))), .val (.long ((((q1 >>> ((2 : Int32) &&& 31)) &&& (7 : Int32)).toInt64) - (4 : Int64))), .second, .val (.long uid), .second, .val (.int (0 : Int32))] [(.int (1 : Int32))]) G := fun t k => K83 t (XS.iconst X75.here hx rfl (hb hby at_98) k)
        have K85 : Go p e below T75 (mkF m 103 #[.val (.long q0), .second, .val (.int q1), .val (.int (q1 &&& (3 : Int32))), .val (.long ((((q1 >>> ((2 : Int32) &&& 31)) &&& (7 : Int32)).toInt64) - (4 : Int64))), .second, .val (.long uid), .second, .val (.int (0 : Int32))] [(.int (1 : Int32))]) G := fun t k => K84 t (XS.goto X75.here hx rfl (pc0 := 99) (pc' := 103) rfl (hb hby at_99) (by decide) (by decide) k)
        obtain ⟨fs, hr, hrun, hended, hWW, hsame⟩ := X75.leave (v := some (.int (1 : Int32))) (fun h => by rw [Bd.returns] at h; cases h)
        refine ⟨_, _, hG _ (K85 _ (retN X75 hx (t := .boolean) Bd.returns (by simp) (hb hby at_103) hr)), hrun, hended, _, _, rfl, ?_, ⟨_, rfl⟩, hWW, hsame.mono (by decide) (by decide)⟩
        show Q0 Z q0 q1 h0 n0 _ T75.heap _
        rw [E75q]
        exact ⟨rfl, N75⟩
    · skip
      have K86 : Go p e below s₁ (mkF m 81 #[.val (.long q0), .second, .val (.int q1), .val (.int (q1 &&& (3 : Int32))), .val (.long ((((q1 >>> ((2 : Int32) &&& 31)) &&& (7 : Int32)).toInt64) - (4 : Int64))), .second, .val (.long uid), .second, .unset] []) G := fun t k => K69 t (XS.ifNo X0.here hx rfl (hb hby at_78) rfl ((if0 _ _).trans (feq (fun z => hc70 ((lw_eq _ _).mp z))).1) k)
      have K87 : Go p e below s₁ (mkF m 82 #[.val (.long q0), .second, .val (.int q1), .val (.int (q1 &&& (3 : Int32))), .val (.long ((((q1 >>> ((2 : Int32) &&& 31)) &&& (7 : Int32)).toInt64) - (4 : Int64))), .second, .val (.long uid), .second, .unset] [(.int (1 : Int32))]) G := fun t k => K86 t (XS.iconst X0.here hx rfl (hb hby at_81) k)
      have K88 : Go p e below s₁ (mkF m 86 #[.val (.long q0), .second, .val (.int q1), .val (.int (q1 &&& (3 : Int32))), .val (.long ((((q1 >>> ((2 : Int32) &&& 31)) &&& (7 : Int32)).toInt64) - (4 : Int64))), .second, .val (.long uid), .second, .unset] [(.int (1 : Int32))]) G := fun t k => K87 t (XS.goto X0.here hx rfl (pc0 := 82) (pc' := 86) rfl (hb hby at_82) (by decide) (by decide) k)
      have K89 : Go p e below s₁ (mkF m 88 #[.val (.long q0), .second, .val (.int q1), .val (.int (q1 &&& (3 : Int32))), .val (.long ((((q1 >>> ((2 : Int32) &&& 31)) &&& (7 : Int32)).toInt64) - (4 : Int64))), .second, .val (.long uid), .second, .val (.int (1 : Int32))] []) G := fun t k => K88 t (XS.istore X0.here hx rfl (hb hby at_86) rfl (l' := #[.val (.long q0), .second, .val (.int q1), .val (.int (q1 &&& (3 : Int32))), .val (.long ((((q1 >>> ((2 : Int32) &&& 31)) &&& (7 : Int32)).toInt64) - (4 : Int64))), .second, .val (.long uid), .second, .val (.int (1 : Int32))]) rfl k)
      have K90 : Go p e below s₁ (mkF m 90 #[.val (.long q0), .second, .val (.int q1), .val (.int (q1 &&& (3 : Int32))), .val (.long ((((q1 >>> ((2 : Int32) &&& 31)) &&& (7 : Int32)).toInt64) - (4 : Int64))), .second, .val (.long uid), .second, .val (.int (1 : Int32))] [(.long uid)]) G := fun t k => K89 t (XS.lload X0.here hx rfl (hb hby at_88) rfl k)
      obtain ⟨v91, _, ⟨T91, L91, k91, n91⟩, -, X91, ⟨Lc91, hQ91, l91, y91, z91⟩, st91⟩ := Jvm.LawKit.callS X0 hx (y := (⟨"com/example/vervet/vervet/Label", "isValidUid", "(J)Z"⟩ : MethodName)) hown (mvT hZ (hW 3 _ rfl)) (mvT hZ (hW 4 _ rfl)) (mvT hZ (hW 5 _ rfl)) (mvT hZ (hW 6 _ rfl)) (by decide) (backOf (W := 0) (rm1 l Z a0 hw [] uid h0 n0 Z0) hZ (hW 6 _ rfl) (hW 5 _ rfl) (by decide) (by decide)) (g := (mkF m 90 #[.val (.long q0), .second, .val (.int q1), .val (.int (q1 &&& (3 : Int32))), .val (.long ((((q1 >>> ((2 : Int32) &&& 31)) &&& (7 : Int32)).toInt64) - (4 : Int64))), .second, .val (.long uid), .second, .val (.int (1 : Int32))] [(.long uid)])) rfl (by rw [hml]; rfl) (argsL := [(.long uid)]) (rest := []) (lenOf pd_16 rfl) rfl (by show 2 * 0 + _ ≤ _; exact Nat.le_of_eq rfl) (hb hby at_90) (fun _ _ => ⟨rfl, e0, (by decide : 0 + 0 ≤ _), (by decide : 0 + 0 ≤ _)⟩)
      dsimp only [Pt.U, Pt.locs, Pt.cells, Pt.slots] at X91 l91 y91 z91 st91 hQ91
      subst l91 y91 z91
      by_cases hc92 : ¬ (uid < (0 : Int64)) ∧ ¬ ((4294967294 : Int64) < uid)
      · skip
        rw [Q1, if_pos hc92] at hQ91
        obtain ⟨rfl, N91q, E91q⟩ := hQ91
        have N91 := Fr.app N0 N91q
        have K93 : Go p e below T91 (mkF m 93 #[.val (.long q0), .second, .val (.int q1), .val (.int (q1 &&& (3 : Int32))), .val (.long ((((q1 >>> ((2 : Int32) &&& 31)) &&& (7 : Int32)).toInt64) - (4 : Int64))), .second, .val (.long uid), .second, .val (.int (1 : Int32))] [(.int (1 : Int32))]) G := fun t k => K90 t (st91 t k)
        have K94 : Go p e below T91 (mkF m 95 #[.val (.long q0), .second, .val (.int q1), .val (.int (q1 &&& (3 : Int32))), .val (.long ((((q1 >>> ((2 : Int32) &&& 31)) &&& (7 : Int32)).toInt64) - (4 : Int64))), .second, .val (.long uid), .second, .val (.int (1 : Int32))] [(.int (1 : Int32)), (.int (1 : Int32))]) G := fun t k => K93 t (XS.iload X91.here hx rfl (hb hby at_93) rfl k)
        have K95 : Go p e below T91 (mkF m 98 #[.val (.long q0), .second, .val (.int q1), .val (.int (q1 &&& (3 : Int32))), .val (.long ((((q1 >>> ((2 : Int32) &&& 31)) &&& (7 : Int32)).toInt64) - (4 : Int64))), .second, .val (.long uid), .second, .val (.int (1 : Int32))] []) G := fun t k => K94 t (XS.icmpNo X91.here hx rfl (hb hby at_95) rfl ((teq (by decide : (1 : Int32) = (1 : Int32))).2) k)
        have K96 : Go p e below T91 (mkF m 99 #[.val (.long q0), .second, .val (.int q1), .val (.int (q1 &&& (3 : Int32))), .val (.long ((((q1 >>> ((2 : Int32) &&& 31)) &&& (7 : Int32)).toInt64) - (4 : Int64))), .second, .val (.long uid), .second, .val (.int (1 : Int32))] [(.int (1 : Int32))]) G := fun t k => K95 t (XS.iconst X91.here hx rfl (hb hby at_98) k)
        have K97 : Go p e below T91 (mkF m 103 #[.val (.long q0), .second, .val (.int q1), .val (.int (q1 &&& (3 : Int32))), .val (.long ((((q1 >>> ((2 : Int32) &&& 31)) &&& (7 : Int32)).toInt64) - (4 : Int64))), .second, .val (.long uid), .second, .val (.int (1 : Int32))] [(.int (1 : Int32))]) G := fun t k => K96 t (XS.goto X91.here hx rfl (pc0 := 99) (pc' := 103) rfl (hb hby at_99) (by decide) (by decide) k)
        obtain ⟨fs, hr, hrun, hended, hWW, hsame⟩ := X91.leave (v := some (.int (1 : Int32))) (fun h => by rw [Bd.returns] at h; cases h)
        refine ⟨_, _, hG _ (K97 _ (retN X91 hx (t := .boolean) Bd.returns (by simp) (hb hby at_103) hr)), hrun, hended, _, _, rfl, ?_, ⟨_, rfl⟩, hWW, hsame.mono (by decide) (by decide)⟩
        show Q0 Z q0 q1 h0 n0 _ T91.heap _
        rw [E91q]
        exact ⟨rfl, N91⟩
      · skip
        rw [Q1, if_neg hc92] at hQ91
        obtain ⟨rfl, N91q, E91q⟩ := hQ91
        have N91 := Fr.app N0 N91q
        have K98 : Go p e below T91 (mkF m 93 #[.val (.long q0), .second, .val (.int q1), .val (.int (q1 &&& (3 : Int32))), .val (.long ((((q1 >>> ((2 : Int32) &&& 31)) &&& (7 : Int32)).toInt64) - (4 : Int64))), .second, .val (.long uid), .second, .val (.int (1 : Int32))] [(.int (0 : Int32))]) G := fun t k => K90 t (st91 t k)
        have K99 : Go p e below T91 (mkF m 95 #[.val (.long q0), .second, .val (.int q1), .val (.int (q1 &&& (3 : Int32))), .val (.long ((((q1 >>> ((2 : Int32) &&& 31)) &&& (7 : Int32)).toInt64) - (4 : Int64))), .second, .val (.long uid), .second, .val (.int (1 : Int32))] [(.int (1 : Int32)), (.int (0 : Int32))]) G := fun t k => K98 t (XS.iload X91.here hx rfl (hb hby at_93) rfl k)
        have K100 : Go p e below T91 (mkF m 102 #[.val (.long q0), .second, .val (.int q1), .val (.int (q1 &&& (3 : Int32))), .val (.long ((((q1 >>> ((2 : Int32) &&& 31)) &&& (7 : Int32)).toInt64) - (4 : Int64))), .second, .val (.long uid), .second, .val (.int (1 : Int32))] []) G := fun t k => K99 t (XS.icmpYes X91.here hx rfl (pc0 := 95) (pc' := 102) rfl (hb hby at_95) rfl ((feq (by decide : ¬ ((0 : Int32) = (1 : Int32)))).2) (by decide) (by decide) k)
        have K101 : Go p e below T91 (mkF m 103 #[.val (.long q0), .second, .val (.int q1), .val (.int (q1 &&& (3 : Int32))), .val (.long ((((q1 >>> ((2 : Int32) &&& 31)) &&& (7 : Int32)).toInt64) - (4 : Int64))), .second, .val (.long uid), .second, .val (.int (1 : Int32))] [(.int (0 : Int32))]) G := fun t k => K100 t (XS.iconst X91.here hx rfl (hb hby at_102) k)
        exact absurd ((own_law uid).mp ⟨hc65, hc70⟩) hc92
  · skip
    have K102 : Go p e below s₁ (mkF m 85 #[.val (.long q0), .second, .val (.int q1), .val (.int (q1 &&& (3 : Int32))), .val (.long ((((q1 >>> ((2 : Int32) &&& 31)) &&& (7 : Int32)).toInt64) - (4 : Int64))), .second, .val (.long uid), .second, .unset] []) G := fun t k => K64 t (XS.ifYes X0.here hx rfl (pc0 := 69) (pc' := 85) rfl (hb hby at_69) rfl ((if0 _ _).trans (feq (fun z => hc65 ((lw_eq _ _).mp z))).2) (by decide) (by decide) k)
    have K103 : Go p e below s₁ (mkF m 86 #[.val (.long q0), .second, .val (.int q1), .val (.int (q1 &&& (3 : Int32))), .val (.long ((((q1 >>> ((2 : Int32) &&& 31)) &&& (7 : Int32)).toInt64) - (4 : Int64))), .second, .val (.long uid), .second, .unset] [(.int (0 : Int32))]) G := fun t k => K102 t (XS.iconst X0.here hx rfl (hb hby at_85) k)
    have K104 : Go p e below s₁ (mkF m 88 #[.val (.long q0), .second, .val (.int q1), .val (.int (q1 &&& (3 : Int32))), .val (.long ((((q1 >>> ((2 : Int32) &&& 31)) &&& (7 : Int32)).toInt64) - (4 : Int64))), .second, .val (.long uid), .second, .val (.int (0 : Int32))] []) G := fun t k => K103 t (XS.istore X0.here hx rfl (hb hby at_86) rfl (l' := #[.val (.long q0), .second, .val (.int q1), .val (.int (q1 &&& (3 : Int32))), .val (.long ((((q1 >>> ((2 : Int32) &&& 31)) &&& (7 : Int32)).toInt64) - (4 : Int64))), .second, .val (.long uid), .second, .val (.int (0 : Int32))]) rfl k)
    have K105 : Go p e below s₁ (mkF m 90 #[.val (.long q0), .second, .val (.int q1), .val (.int (q1 &&& (3 : Int32))), .val (.long ((((q1 >>> ((2 : Int32) &&& 31)) &&& (7 : Int32)).toInt64) - (4 : Int64))), .second, .val (.long uid), .second, .val (.int (0 : Int32))] [(.long uid)]) G := fun t k => K104 t (XS.lload X0.here hx rfl (hb hby at_88) rfl k)
    obtain ⟨v106, _, ⟨T106, L106, k106, n106⟩, -, X106, ⟨Lc106, hQ106, l106, y106, z106⟩, st106⟩ := Jvm.LawKit.callS X0 hx (y := (⟨"com/example/vervet/vervet/Label", "isValidUid", "(J)Z"⟩ : MethodName)) hown (mvT hZ (hW 3 _ rfl)) (mvT hZ (hW 4 _ rfl)) (mvT hZ (hW 5 _ rfl)) (mvT hZ (hW 6 _ rfl)) (by decide) (backOf (W := 0) (rm1 l Z a0 hw [] uid h0 n0 Z0) hZ (hW 6 _ rfl) (hW 5 _ rfl) (by decide) (by decide)) (g := (mkF m 90 #[.val (.long q0), .second, .val (.int q1), .val (.int (q1 &&& (3 : Int32))), .val (.long ((((q1 >>> ((2 : Int32) &&& 31)) &&& (7 : Int32)).toInt64) - (4 : Int64))), .second, .val (.long uid), .second, .val (.int (0 : Int32))] [(.long uid)])) rfl (by rw [hml]; rfl) (argsL := [(.long uid)]) (rest := []) (lenOf pd_16 rfl) rfl (by show 2 * 0 + _ ≤ _; exact Nat.le_of_eq rfl) (hb hby at_90) (fun _ _ => ⟨rfl, e0, (by decide : 0 + 0 ≤ _), (by decide : 0 + 0 ≤ _)⟩)
    dsimp only [Pt.U, Pt.locs, Pt.cells, Pt.slots] at X106 l106 y106 z106 st106 hQ106
    subst l106 y106 z106
    by_cases hc107 : ¬ (uid < (0 : Int64)) ∧ ¬ ((4294967294 : Int64) < uid)
    · skip
      rw [Q1, if_pos hc107] at hQ106
      obtain ⟨rfl, N106q, E106q⟩ := hQ106
      have N106 := Fr.app N0 N106q
      have K108 : Go p e below T106 (mkF m 93 #[.val (.long q0), .second, .val (.int q1), .val (.int (q1 &&& (3 : Int32))), .val (.long ((((q1 >>> ((2 : Int32) &&& 31)) &&& (7 : Int32)).toInt64) - (4 : Int64))), .second, .val (.long uid), .second, .val (.int (0 : Int32))] [(.int (1 : Int32))]) G := fun t k => K105 t (st106 t k)
      have K109 : Go p e below T106 (mkF m 95 #[.val (.long q0), .second, .val (.int q1), .val (.int (q1 &&& (3 : Int32))), .val (.long ((((q1 >>> ((2 : Int32) &&& 31)) &&& (7 : Int32)).toInt64) - (4 : Int64))), .second, .val (.long uid), .second, .val (.int (0 : Int32))] [(.int (0 : Int32)), (.int (1 : Int32))]) G := fun t k => K108 t (XS.iload X106.here hx rfl (hb hby at_93) rfl k)
      have K110 : Go p e below T106 (mkF m 102 #[.val (.long q0), .second, .val (.int q1), .val (.int (q1 &&& (3 : Int32))), .val (.long ((((q1 >>> ((2 : Int32) &&& 31)) &&& (7 : Int32)).toInt64) - (4 : Int64))), .second, .val (.long uid), .second, .val (.int (0 : Int32))] []) G := fun t k => K109 t (XS.icmpYes X106.here hx rfl (pc0 := 95) (pc' := 102) rfl (hb hby at_95) rfl ((feq (by decide : ¬ ((1 : Int32) = (0 : Int32)))).2) (by decide) (by decide) k)
      have K111 : Go p e below T106 (mkF m 103 #[.val (.long q0), .second, .val (.int q1), .val (.int (q1 &&& (3 : Int32))), .val (.long ((((q1 >>> ((2 : Int32) &&& 31)) &&& (7 : Int32)).toInt64) - (4 : Int64))), .second, .val (.long uid), .second, .val (.int (0 : Int32))] [(.int (0 : Int32))]) G := fun t k => K110 t (XS.iconst X106.here hx rfl (hb hby at_102) k)
      exact absurd ((own_law uid).mpr hc107).1 hc65
    · skip
      rw [Q1, if_neg hc107] at hQ106
      obtain ⟨rfl, N106q, E106q⟩ := hQ106
      have N106 := Fr.app N0 N106q
      have K112 : Go p e below T106 (mkF m 93 #[.val (.long q0), .second, .val (.int q1), .val (.int (q1 &&& (3 : Int32))), .val (.long ((((q1 >>> ((2 : Int32) &&& 31)) &&& (7 : Int32)).toInt64) - (4 : Int64))), .second, .val (.long uid), .second, .val (.int (0 : Int32))] [(.int (0 : Int32))]) G := fun t k => K105 t (st106 t k)
      have K113 : Go p e below T106 (mkF m 95 #[.val (.long q0), .second, .val (.int q1), .val (.int (q1 &&& (3 : Int32))), .val (.long ((((q1 >>> ((2 : Int32) &&& 31)) &&& (7 : Int32)).toInt64) - (4 : Int64))), .second, .val (.long uid), .second, .val (.int (0 : Int32))] [(.int (0 : Int32)), (.int (0 : Int32))]) G := fun t k => K112 t (XS.iload X106.here hx rfl (hb hby at_93) rfl k)
      have K114 : Go p e below T106 (mkF m 98 #[.val (.long q0), .second, .val (.int q1), .val (.int (q1 &&& (3 : Int32))), .val (.long ((((q1 >>> ((2 : Int32) &&& 31)) &&& (7 : Int32)).toInt64) - (4 : Int64))), .second, .val (.long uid), .second, .val (.int (0 : Int32))] []) G := fun t k => K113 t (XS.icmpNo X106.here hx rfl (hb hby at_95) rfl ((teq (by decide : (0 : Int32) = (0 : Int32))).2) k)
      have K115 : Go p e below T106 (mkF m 99 #[.val (.long q0), .second, .val (.int q1), .val (.int (q1 &&& (3 : Int32))), .val (.long ((((q1 >>> ((2 : Int32) &&& 31)) &&& (7 : Int32)).toInt64) - (4 : Int64))), .second, .val (.long uid), .second, .val (.int (0 : Int32))] [(.int (1 : Int32))]) G := fun t k => K114 t (XS.iconst X106.here hx rfl (hb hby at_98) k)
      have K116 : Go p e below T106 (mkF m 103 #[.val (.long q0), .second, .val (.int q1), .val (.int (q1 &&& (3 : Int32))), .val (.long ((((q1 >>> ((2 : Int32) &&& 31)) &&& (7 : Int32)).toInt64) - (4 : Int64))), .second, .val (.long uid), .second, .val (.int (0 : Int32))] [(.int (1 : Int32))]) G := fun t k => K115 t (XS.goto X106.here hx rfl (pc0 := 99) (pc' := 103) rfl (hb hby at_99) (by decide) (by decide) k)
      obtain ⟨fs, hr, hrun, hended, hWW, hsame⟩ := X106.leave (v := some (.int (1 : Int32))) (fun h => by rw [Bd.returns] at h; cases h)
      refine ⟨_, _, hG _ (K116 _ (retN X106 hx (t := .boolean) Bd.returns (by simp) (hb hby at_103) hr)), hrun, hended, _, _, rfl, ?_, ⟨_, rfl⟩, hWW, hsame.mono (by decide) (by decide)⟩
      show Q0 Z q0 q1 h0 n0 _ T106.heap _
      rw [E106q]
      exact ⟨rfl, N106⟩
set_option maxRecDepth 65536 in
set_option maxHeartbeats 40000000 in
theorem comes_1 {Post : Tables → Env → Array Value → State → Outcome → State → Prop} (hpost : ∀ tb e args s v u, (limb_1_1.after args s (.returned v) u = true ∧ limb_1_2.after args s (.returned v) u = true ∧ True) → FrameEnd s (.returned v) u (Jvm.fieldLocs frame_1_writes args s ++ Jvm.arrayLocs frame_1_arrays args s ++ Jvm.staticLocs frame_1_statics s) 0 0 → Post tb e args s (.returned v) u) :
    ArmFor flags0 classFile x code maxLocals ret World_1 tables_1 room_1 Calls_1 rest_1 Pre_1 Post := by
  intro l hfl _ _ p e ha hc hk s m args below hf hA hF happ hP
  obtain ⟨hcalls, hrest, hpre⟩ := hP
  obtain ⟨-, -, -, hnamed, -, -, -, hat⟩ := (Spec.applies_iff hf).mp happ
  obtain ⟨hg, hn⟩ := and_e (Cond.before_iff.mp (show (Jvm.Cond.and given_1 narrow_1).before args s = true from hpre))
  obtain ⟨gg1, gg2⟩ := and_e hg
  obtain ⟨gg3, gg4⟩ := and_e gg2
  obtain ⟨w0, w1, rfl⟩ : ∃ w0 w1 : Value, args = #[w0, w1] := by
    have hs : args.size = 2 := by simpa [Cond.value, given_1] using gg1
    obtain ⟨L⟩ := args
    match L, hs with
    | [w0, w1], _ => exact ⟨w0, w1, rfl⟩
  have hw := fun d (hd : d ∈ tables_1) => atoms_spec (ws := Jvm.Cond.code x code maxLocals ret :: tables_1) hat d (List.mem_cons_of_mem _ hd)
  have hW : ∀ (k : Nat) (d : Jvm.Cond), tables_1[k]? = some d → d.before _ s = true := fun k d h => hw d (List.mem_of_getElem? h)
  have hfit : Fit s := fun {y c} hc i hi => by
    obtain ⟨ha, rfl⟩ := Array.getElem?_eq_some_iff.mp hc
    have q := List.all_eq_true.mp ((Array.all_eq_true_iff_forall_mem.mp hF) _ (Array.getElem_mem ha)) i (List.mem_range.mpr hi)
    simpa [Array.getElem?_eq_getElem hi] using q
  obtain ⟨i0, ei0⟩ := isL_v gg3
  obtain rfl : w0 = (.long i0) := Option.some.inj ei0
  obtain ⟨i1, ei1⟩ := is_v gg4
  obtain rfl : w1 = (.int i1) := Option.some.inj ei1
  obtain ⟨n, o, h1, h2, h3, _, L, rfl, ⟨rfl, N⟩, hq⟩ := rm0 l s _ hw tables_1 i0 i1  s.heap s.heap.size (Nat.le_refl _)  p e ha hc hk s m _ below hf ((Spec.applies_iff_loose hf).mp happ).1 ⟨rfl, State.Warmed39.refl s, rfl⟩ trivial
  refine ⟨n, _, h1, h2, h3, hpost _ _ _ _ _ _ ⟨Cond.after_iff.mpr rfl, Cond.after_iff.mpr (eq_i res_at (Term.int_eval (1)) rfl), trivial⟩ ⟨hq.1, hq.2.1, (hq.2.2.sift fun y hy => Or.inr (N y hy)).mono (by decide) (by decide)⟩⟩
theorem main_1_1 : Claimed_1_1 := comes_1 fun _ _ _ _ _ _ h hF => ⟨h.1, hF⟩
theorem main_1_2 : Claimed_1_2 := comes_1 fun _ _ _ _ _ _ h hF => ⟨h.2.1, hF⟩
end Jvm.Pilot.@@N@@
namespace Jvm.Pilot.@@N@@
open Jvm Jvm.ClassFile Sem Op Lib Jvm.Free Jvm.Stand Jvm.Pilot.@@N@@.Jvm.D
/-! MADE BY PROGRAM (witnessworld.py) out of the Statement's table words and the real class files: 10 classes; the members and pool entries that the words name. The judged class is class 1, her method 1. -/
namespace start1
open Jvm.ClassFile
def u (s : String) : CpInfo := .utf8 (stringToUtf16 s)
/-- a pool by its gaps: so many unusable entries, then the entry; so many at the end -/
def gap : Nat → List CpInfo → List CpInfo
  | 0, r => r
  | n + 1, r => .unusable :: gap n r
def poolList (es : List (Nat × CpInfo)) (last : Nat) : List CpInfo := es.foldr (fun e r => gap e.1 (e.2 :: r)) (gap last [])
def pool (es : List (Nat × CpInfo)) (last : Nat) : Array CpInfo := ⟨poolList es last⟩
def fileOf (pool : Array CpInfo) (this : Nat) (attrs : Array Attribute := #[]) (ms : Array MethodInfo := #[]) (fl : Nat := 33) (sup : Nat := 0) (ifs : Array Nat := #[]) (fds : Array FieldInfo := #[]) : ClassFile where
  minorVersion := 0
  majorVersion := 65
  constantPool := pool
  accessFlags := fl
  thisClass := this
  superClass := sup
  interfaces := ifs
  fields := fds
  methods := ms
  attributes := attrs
def plain (name : String) (sup : Option ClassId) : Class where
  name := name
  kind := .ordinary
  loader := none
  accessFlags := 33
  super := sup
  interfaces := #[]
  cf := none
  fields := #[]
  methods := #[]
  instanceTypes := #[]
  staticTypes := #[]
  resolved := #[]
  callSites := []
  init := .initialized
  statics := none
  mirror := none

def pool0 : Array CpInfo := pool [(5, u "<init>"), (0, u "()V"), (1, .class_ 10), (1, u "java/lang/Object")] 113

def k0m0 : Method := { name := "<init>", desc := "()V", sig := { parameters := [], returnType := none }, accessFlags := 1, code := none }
/-- java/lang/Object -/
def k0 : Class := { plain "java/lang/Object" none with
  accessFlags := 33
  interfaces := #[]
  cf := some (fileOf pool0 8 #[] #[{ accessFlags := 1, nameIndex := 5, descriptorIndex := 6, attributes := #[] }] 33 0 #[] #[])
  fields := #[]
  methods := #[k0m0]
  instanceTypes := #[]
  staticTypes := #[]
  resolved := Array.replicate 124 none
  statics := none }

def pool1 : Array CpInfo := pool [(2, .class_ 4), (1, u "java/lang/Object"), (0, u "<init>"), (0, u "()V"), (0, .long 4), (1, .long 4294967294), (1, .long 4294967295), (1, .methodref 14 15), (0, .class_ 16), (0, .nameAndType 17 18), (0, u "com/example/vervet/vervet/Label"), (0, u "isValidUid"), (0, u "(J)Z"), (0, .class_ 20), (0, u "com/example/vervet/vervet/LabelIsValidUidPinLaw"), (2, u "law"), (0, u "(JI)Z")] 3

def k1m0 : Method := { name := "<init>", desc := "()V", sig := { parameters := [], returnType := none }, accessFlags := 2, code := none }
def k1c1 : Code := { maxStack := 4, maxLocals := 9, code := code, exceptionTable := #[], attributes := #[] }
def k1m1 : Method := { name := "law", desc := "(JI)Z", sig := { parameters := [.long, .int], returnType := some .boolean }, accessFlags := 9, code := some k1c1 }
/-- com/example/vervet/vervet/LabelIsValidUidPinLaw -/
def k1 : Class := { plain "com/example/vervet/vervet/LabelIsValidUidPinLaw" (some 0) with
  accessFlags := 49
  interfaces := #[]
  cf := some (fileOf pool1 19 #[] #[{ accessFlags := 2, nameIndex := 5, descriptorIndex := 6, attributes := #[] }, { accessFlags := 9, nameIndex := 23, descriptorIndex := 24, attributes := #[] }] 49 2 #[] #[])
  fields := #[]
  methods := #[k1m0, k1m1]
  instanceTypes := #[]
  staticTypes := #[]
  resolved := Array.replicate 28 none
  statics := none }

def pool2 : Array CpInfo := pool [(2, .class_ 4), (1, u "java/lang/Object"), (0, u "<init>"), (0, u "()V"), (5, .class_ 14), (1, u "com/example/vervet/vervet/Value")] 51

def k2m0 : Method := { name := "<init>", desc := "()V", sig := { parameters := [], returnType := none }, accessFlags := 0, code := none }
/-- com/example/vervet/vervet/Value -/
def k2 : Class := { plain "com/example/vervet/vervet/Value" (some 0) with
  accessFlags := 1056
  interfaces := #[]
  cf := some (fileOf pool2 12 #[] #[{ accessFlags := 0, nameIndex := 5, descriptorIndex := 6, attributes := #[] }] 1056 2 #[] #[])
  fields := #[]
  methods := #[k2m0]
  instanceTypes := #[]
  staticTypes := #[]
  resolved := Array.replicate 66 none
  statics := none }

def pool3 : Array CpInfo := pool [(2, .class_ 4), (1, u "com/example/vervet/vervet/Value"), (3, u "secrecy"), (6, .class_ 16), (0, u "com/example/vervet/vervet/Label$Level"), (1, .class_ 20), (1, u "com/example/vervet/vervet/Label"), (0, u "Lcom/example/vervet/vervet/Label$Level;"), (1, u "integrity"), (4, u "category"), (0, u "Ljava/util/OptionalLong;"), (25, .long 4294967294), (3, u "isValidUid"), (0, u "(J)Z"), (18, u "SYSTEM"), (0, u "Lcom/example/vervet/vervet/Label;"), (0, u "FIRST_APP_UID"), (0, u "J"), (3, u "MAX_UID"), (15, .class_ 103), (0, u "com/example/vervet/vervet/Label$Kind")] 17

def k3c0 : Code := { maxStack := 4, maxLocals := 2, code := prog_11_method_8_code, exceptionTable := #[], attributes := #[] }
def k3m0 : Method := { name := "isValidUid", desc := "(J)Z", sig := { parameters := [.long], returnType := some .boolean }, accessFlags := 9, code := some k3c0 }
/-- com/example/vervet/vervet/Label -/
def k3 : Class := { plain "com/example/vervet/vervet/Label" (some 2) with
  accessFlags := 49
  interfaces := #[]
  cf := some (fileOf pool3 18 #[.nestMembers #[102, 15]] #[{ accessFlags := 9, nameIndex := 59, descriptorIndex := 60, attributes := #[] }] 49 2 #[] #[{ accessFlags := 25, nameIndex := 81, descriptorIndex := 82, attributes := #[] }, { accessFlags := 25, nameIndex := 86, descriptorIndex := 82, attributes := #[] }, { accessFlags := 25, nameIndex := 79, descriptorIndex := 80, attributes := #[] }, { accessFlags := 18, nameIndex := 8, descriptorIndex := 21, attributes := #[] }, { accessFlags := 18, nameIndex := 23, descriptorIndex := 21, attributes := #[] }, { accessFlags := 18, nameIndex := 28, descriptorIndex := 29, attributes := #[] }])
  fields := #[{ name := "FIRST_APP_UID", type := .long, accessFlags := 25, slot := 0, constantValue := 0 }, { name := "MAX_UID", type := .long, accessFlags := 25, slot := 1, constantValue := 0 }, { name := "SYSTEM", type := (.object "com/example/vervet/vervet/Label"), accessFlags := 25, slot := 2, constantValue := 0 }, { name := "secrecy", type := (.object "com/example/vervet/vervet/Label$Level"), accessFlags := 18, slot := 0, constantValue := 0 }, { name := "integrity", type := (.object "com/example/vervet/vervet/Label$Level"), accessFlags := 18, slot := 1, constantValue := 0 }, { name := "category", type := (.object "java/util/OptionalLong"), accessFlags := 18, slot := 2, constantValue := 0 }]
  methods := #[k3m0]
  instanceTypes := #[(.object "com/example/vervet/vervet/Label$Level"), (.object "com/example/vervet/vervet/Label$Level"), (.object "java/util/OptionalLong")]
  staticTypes := #[.long, .long, (.object "com/example/vervet/vervet/Label")]
  resolved := Array.replicate 121 none
  statics := none }

def pool4 : Array CpInfo := pool [(1, u "java/lang/Cloneable"), (0, .class_ 1), (0, u "java/lang/Object"), (0, .class_ 3)] 3

/-- java/lang/Cloneable -/
def k4 : Class := { plain "java/lang/Cloneable" (some 0) with
  accessFlags := 1537
  interfaces := #[]
  cf := some (fileOf pool4 2 #[] #[] 1537 4 #[] #[])
  fields := #[]
  methods := #[]
  instanceTypes := #[]
  staticTypes := #[]
  resolved := Array.replicate 8 none
  statics := none }

def pool5 : Array CpInfo := pool [(1, u "java/io/Serializable"), (0, .class_ 1), (0, u "java/lang/Object"), (0, .class_ 3)] 3

/-- java/io/Serializable -/
def k5 : Class := { plain "java/io/Serializable" (some 0) with
  accessFlags := 1537
  interfaces := #[]
  cf := some (fileOf pool5 2 #[] #[] 1537 4 #[] #[])
  fields := #[]
  methods := #[]
  instanceTypes := #[]
  staticTypes := #[]
  resolved := Array.replicate 8 none
  statics := none }

/-- the primitive byte -/
def k6 : Class := { plain "byte" none with kind := .primitive 'B', accessFlags := 0x411 }
/-- [B -/
def k7 : Class := { plain "[B" (some 0) with kind := .array 6 .byte, interfaces := #[4, 5], accessFlags := 1041 }

/-- the primitive int -/
def k8 : Class := { plain "int" none with kind := .primitive 'I', accessFlags := 0x411 }
/-- [I -/
def k9 : Class := { plain "[I" (some 0) with kind := .array 8 .int, interfaces := #[4, 5], accessFlags := 1041 }

def heap : Heap := #[]
def classes : Array Class := #[k0, k1, k2, k3, k4, k5, k6, k7, k8, k9]
def interned : List (Array UInt16 × Addr) := []
def slotsUsed : Nat := 0
def theMethod : MethodId := ⟨1, 1⟩
def args0 : Array Value := #[.long 5, .int 3]
def aboutOver (below : List Frame) : State where
  vm := { classes := classes, interned := interned.toArray }
  heap := heap
  slotsUsed := slotsUsed
  threads := #[{ frames := .invoking theMethod args0 :: below }]
def below0 : List Frame := [.native { method := ⟨0, 0⟩, args := #[] }]
def about1 : State := aboutOver below0
def p0 : Program := .bare "" "" ""
def e0 : Env := launch0.env 0 0 0
theorem w_frames : about1.frames = Frame.invoking theMethod args0 :: below0 := rfl
set_option maxRecDepth 65536 in
theorem w_args : argsFit about1.vm theMethod args0 = true := by decide +kernel
set_option maxRecDepth 65536 in
theorem w_heap : heapFits about1 = true := by decide +kernel
set_option maxRecDepth 65536 in
theorem w_runnable : about1.curStatus? = some .runnable := by decide +kernel
set_option maxRecDepth 65536 in
theorem w_alone : about1.alone = true := by decide +kernel
set_option maxRecDepth 65536 in
theorem w_named : about1.methodNamed? x = some theMethod := by decide +kernel
set_option maxRecDepth 65536 in
theorem w_hears : about1.hears theMethod below0 = true := by decide +kernel
set_option maxRecDepth 65536 in
theorem w_ripe : about1.ripe theMethod args0 below0 = true := by decide +kernel
theorem w_running : about1.status = .running := rfl
set_option maxRecDepth 65536 in
theorem w_room : about1.hasRoom e0.platform room_1 = true :=
  launch0.hasRoom_least _ room_1 (by decide +kernel) (by decide +kernel) (by decide +kernel) (by decide +kernel) (by decide +kernel) (by decide +kernel)
theorem allAtoms_all (ts : List Jvm.Cond) (a : Array Jvm.Value) (st : Jvm.State) : (allAtoms ts).before a st = ts.all (fun c => c.before a st) := by
  induction ts with
  | nil => rfl
  | cons c t ih =>
    show (Jvm.Cond.and c (allAtoms t)).before a st = _
    rw [Jvm.Cond.before_and, ih, List.all_cons]
def words1 : List Jvm.Cond := Jvm.Cond.code x code maxLocals ret :: tables_1
/-- a 'code' word, met by the world's own term for the bytes: nothing is compared byte by byte -/
theorem code_word {y : MethodName} {bytes : ByteArray} {mx : Nat} {rt : Option FieldType} {a : Array Value} {s : State} {m : MethodId} {meth : Method} {c : Code} (h1 : s.methodNamed? y = some m) (h2 : s.vm.method? m = some meth) (h3 : meth.code = some c) (h4 : c.code = bytes)
    (h5 : (c.maxLocals == mx && c.exceptionTable.isEmpty && decide (c.maxStack ≤ mostOperands) && decide (meth.sig.returnType = rt) && !meth.locks && decide (parseMethodDescriptor y.desc = some meth.sig)) = true) : (Jvm.Cond.code y bytes mx rt).before a s = true := by
  simp only [Bool.and_eq_true, beq_iff_eq, Bool.not_eq_true', decide_eq_true_eq] at h5
  obtain ⟨⟨⟨⟨⟨g1, g2⟩, g3⟩, g4⟩, g5⟩, g6⟩ := h5
  simp [Cond.before, Cond.holds, Cond.value, h1, h2, h3, h4, g1, g2, g3, g4, g5, g6]
def isCode : Jvm.Cond → Bool
  | .code _ _ _ _ => true
  | _ => false
theorem all_split {L : List Jvm.Cond} {P : Jvm.Cond → Bool} (h1 : L.all (fun c => isCode c || P c) = true) (h2 : ∀ c ∈ L.filter isCode, P c = true) : L.all P = true := by
  refine List.all_eq_true.mpr fun c hc => ?_
  have h := List.all_eq_true.mp h1 c hc
  rcases Bool.eq_false_or_eq_true (isCode c) with hi | hi
  · exact h2 c (List.mem_filter.mpr ⟨hc, hi⟩)
  · simpa [hi] using h
set_option maxRecDepth 65536 in
theorem w_c0 : (Jvm.Cond.code x code maxLocals ret).before args0 about1 = true := code_word (m := ⟨1, 1⟩) (meth := k1m1) (c := k1c1) (by decide +kernel) rfl rfl rfl (by decide +kernel)
set_option maxRecDepth 65536 in
theorem w_c1 : (Jvm.Cond.code ({ cls := "com/example/vervet/vervet/Label", name := "isValidUid", desc := "(J)Z" } : Jvm.MethodName) prog_11_method_8_code (2 : Nat) (Option.some Jvm.ClassFile.FieldType.boolean)).before args0 about1 = true := code_word (m := ⟨3, 0⟩) (meth := k3m0) (c := k3c0) (by decide +kernel) rfl rfl rfl (by decide +kernel)
def codes1 : List Jvm.Cond := [Jvm.Cond.code x code maxLocals ret, Jvm.Cond.code ({ cls := "com/example/vervet/vervet/Label", name := "isValidUid", desc := "(J)Z" } : Jvm.MethodName) prog_11_method_8_code (2 : Nat) (Option.some Jvm.ClassFile.FieldType.boolean)]
set_option maxRecDepth 65536 in
theorem codes_eq : words1.filter isCode = codes1 := rfl
theorem w_codes : ∀ c ∈ words1.filter isCode, c.before args0 about1 = true := by
  rw [codes_eq]
  intro c hc
  simp only [codes1, List.mem_cons, List.not_mem_nil, or_false] at hc
  rcases hc with rfl | rfl
  · exact w_c0
  · exact w_c1
set_option maxRecDepth 65536 in
theorem w_t1 : words1.all (fun c => isCode c || c.before args0 about1) = true := by decide +kernel
theorem w_tables : (allAtoms (Jvm.Cond.code x code maxLocals ret :: tables_1)).before args0 about1 = true := by
  rw [allAtoms_all]
  show words1.all (fun c => c.before args0 about1) = true
  refine all_split ?_ w_codes
  rw [w_t1]
set_option maxRecDepth 65536 in
theorem w_case : (Jvm.Cond.and given_1 narrow_1).before args0 about1 = true := by decide +kernel
theorem w_applies : (headSpec (Jvm.Cond.code x code maxLocals ret :: tables_1) room_1).applies x e0.platform about1 = true :=
  (Spec.applies_iff w_frames).mpr ⟨w_running, w_runnable, w_alone, w_named, w_hears, w_ripe, w_room, w_tables⟩
theorem atStart : AtStart classFile x code maxLocals ret World_1 tables_1 room_1 Calls_1 rest_1 Pre_1 launch0 p0 e0 about1 theMethod args0 below0 :=
  ⟨lists_1, trivial, launch0.admits_env _ _ _, launch0.least_env, fairChoices_fair.cas, fairChoices_fair.clock, w_frames, w_args, w_heap, w_applies, trivial, trivial, w_case⟩
end start1
theorem witness_1 : WitnessClaimed_1 := ⟨start1.p0, start1.e0, start1.about1, start1.theMethod, start1.args0, start1.below0, start1.atStart⟩
end Jvm.Pilot.@@N@@
