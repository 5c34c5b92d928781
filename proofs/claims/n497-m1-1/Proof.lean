import JvmDerived
import JvmDerived.Pilot.@@N@@Statement
import JvmDerived.Pilot.@@N@@Code
set_option linter.unusedVariables false
set_option linter.unusedSimpArgs false
namespace Jvm.Pilot.@@N@@
open Jvm Jvm.ClassFile Sem Op Lib Jvm.Free Jvm.Stand Jvm.LawKit Jvm.RoadKit Bundle Jvm.Pilot.@@N@@.Jvm.D
def own_Go (tb : Tables) (e : Env) (below : List Frame) (R : Outcome → State → Prop) (S : State) : Prop := ∃ s₂ o, Steps tb e below S s₂ ∧ s₂.status = .running ∧ Ended s₂ below o ∧ R o s₂
theorem own_go {tb : Tables} {e : Env} {below : List Frame} {R : Outcome → State → Prop} {S S' : State} (k : ∀ t, Steps tb e below S' t → Steps tb e below S t) (h : own_Go tb e below R S') : own_Go tb e below R S := by
  obtain ⟨a, b, c, d⟩ := h
  exact ⟨a, b, k _ c, d⟩
theorem own_to {tb : Tables} {e : Env} {below : List Frame} {R : Outcome → State → Prop} {S S' : State} (k : Steps tb e below S S') (h : own_Go tb e below R S') : own_Go tb e below R S := by
  obtain ⟨a, b, c, d⟩ := h
  exact ⟨a, b, k.trans c, d⟩
theorem own_narR {t : FieldType} {v : Value} (ht : t.isReference = true) (hv : v.isRef = true) : narrow t v = v := by
  cases t <;> first | (cases ht; done) | (cases v <;> first | rfl | (cases hv; done))
def own_not (r sF sT sU : Addr) : Value := if (Value.ref r) = (Value.ref sT) then .ref sF else if (Value.ref r) = (Value.ref sF) then .ref sT else .ref sU
theorem d1_0 : decode prog_92_method_7_code 0 = .ok (.aload_n 0, 1) := by decide +kernel
theorem d1_1 : decode prog_92_method_7_code 1 = .ok (.getstatic 10, 3) := by decide +kernel
theorem d1_4 : decode prog_92_method_7_code 4 = .ok (.if_acmp .ne 10, 3) := by decide +kernel
theorem d1_7 : decode prog_92_method_7_code 7 = .ok (.getstatic 3, 3) := by decide +kernel
theorem d1_10 : decode prog_92_method_7_code 10 = .ok (.astore_n 1, 1) := by decide +kernel
theorem d1_11 : decode prog_92_method_7_code 11 = .ok (.goto 21, 3) := by decide +kernel
theorem d1_32 : decode prog_92_method_7_code 32 = .ok (.aload_n 1, 1) := by decide +kernel
theorem d1_33 : decode prog_92_method_7_code 33 = .ok (.areturn, 1) := by decide +kernel
theorem d1_14 : decode prog_92_method_7_code 14 = .ok (.aload_n 0, 1) := by decide +kernel
theorem d1_15 : decode prog_92_method_7_code 15 = .ok (.getstatic 3, 3) := by decide +kernel
theorem d1_18 : decode prog_92_method_7_code 18 = .ok (.if_acmp .ne 10, 3) := by decide +kernel
theorem d1_21 : decode prog_92_method_7_code 21 = .ok (.getstatic 10, 3) := by decide +kernel
theorem d1_24 : decode prog_92_method_7_code 24 = .ok (.astore_n 1, 1) := by decide +kernel
theorem d1_25 : decode prog_92_method_7_code 25 = .ok (.goto 7, 3) := by decide +kernel
theorem d1_28 : decode prog_92_method_7_code 28 = .ok (.getstatic 7, 3) := by decide +kernel
theorem d1_31 : decode prog_92_method_7_code 31 = .ok (.astore_n 1, 1) := by decide +kernel
theorem pn_com_example_coordinator_coordinator_control_Qualifier_Truth : plainName "com/example/coordinator/coordinator/control/Qualifier$Truth" = true := by first | (simp [plainName, overriddenIn]; done) | decide +kernel
theorem ef1 (m : MethodId) (x0 : Addr) : entryFrame m #[(.ref x0)] 2 = mkF m 0 #[.val (.ref x0), .unset] [] := by first | (simp [entryFrame, mkF, argsToLocals, Value.category]; done) | rfl
def Q1 (Z : State) (r : Addr) (sF : Addr) (sT : Addr) (sU : Addr) (h0 : Heap) (n0 : Nat) (v : Option Value) (h : Heap) (L : List Loc) : Prop := v = some (own_not r sF sT sU) ∧ Fr n0 L ∧ h = h0
set_option maxRecDepth 65536 in
set_option maxHeartbeats 40000000 in
theorem rm1 (l : Launch) (Z : State) (a0 : Array Value) (hw : ∀ d ∈ tables_1, d.before a0 Z = true) (ws : List Jvm.Cond) (r : Addr) (sF : Addr) (sT : Addr) (sU : Addr) (h0 : Heap) (n0 : Nat) (Z0 : n0 ≤ h0.size) (O0 : Old Z n0 h0) (S_FALSE : Sta Z Z.heap "com/example/coordinator/coordinator/control/Qualifier$Truth" "FALSE" "Lcom/example/coordinator/coordinator/control/Qualifier$Truth;" (.ref sF)) (S_TRUE : Sta Z Z.heap "com/example/coordinator/coordinator/control/Qualifier$Truth" "TRUE" "Lcom/example/coordinator/coordinator/control/Qualifier$Truth;" (.ref sT)) (S_UNKNOWN : Sta Z Z.heap "com/example/coordinator/coordinator/control/Qualifier$Truth" "UNKNOWN" "Lcom/example/coordinator/coordinator/control/Qualifier$Truth;" (.ref sU)) :
    MetFree l (⟨"com/example/coordinator/coordinator/control/Qualifier$Truth", "not", "()Lcom/example/coordinator/coordinator/control/Qualifier$Truth;"⟩ : MethodName) (head1 (Jvm.Cond.code (⟨"com/example/coordinator/coordinator/control/Qualifier$Truth", "not", "()Lcom/example/coordinator/coordinator/control/Qualifier$Truth;"⟩ : MethodName) prog_92_method_7_code 2 ((Option.some (FieldType.object "com/example/coordinator/coordinator/control/Qualifier$Truth"))) :: ws) ({ frames := 0, cells := 0, slots := 0, locals := 0 } : Room)) (fun a U => a = #[(.ref r)] ∧ Z.Warmed39 U.vm ∧ U.heap = h0) (fun _ _ _ _ _ => True) (fun _ U o U' => ∃ v L, o = .returned v ∧ Q1 Z r sF sT sU h0 n0 v U'.heap L ∧ FrameEnd U o U' L ({ frames := 0, cells := 0, slots := 0, locals := 0 } : Room).cells ({ frames := 0, cells := 0, slots := 0, locals := 0 } : Room).slots) := by
  refine MetFree.of_bodySF (plainFor_of_name pn_com_example_coordinator_coordinator_control_Qualifier_Truth) hisR ?_
  intro p e s m args below meth c s₁ Bd hml0 hP hK
  obtain ⟨rfl, hZ, hh⟩ := hP
  have hx := Bd.exec
  have hby := Bd.bytes
  have hml : c.maxLocals = 2 := hml0
  have hown : s.vm.findClass "com/example/coordinator/coordinator/control/Qualifier$Truth" = some m.cls := findClass_of_methodNamed Bd.named
  have hnm := (name_of_methodNamed Bd.named Bd.method).1
  have X0 : Stand p l e ({ frames := 0, cells := 0, slots := 0, locals := 0 } : Room) s m #[(.ref r)] below meth c s₁ [] 0 0 := Stand.of_body Bd
  have e0 : s₁.heap = h0 := by rw [← hh, Bd.state]; rfl
  have N0 := Fr.nil n0
  show own_Go p.tables e below (fun o U' => ∃ v L, o = .returned v ∧ Q1 Z r sF sT sU h0 n0 v U'.heap L ∧ FrameEnd s o U' L ({ frames := 0, cells := 0, slots := 0, locals := 0 } : Room).cells ({ frames := 0, cells := 0, slots := 0, locals := 0 } : Room).slots) (s₁.setTop (entryFrame m #[(.ref r)] 2))
  refine own_go (S' := s₁.setTop (mkF m 0 #[.val (.ref r), .unset] [])) (fun t k => castTop (ef1 m r) k) ?_
  refine own_go (S' := s₁.setTop (mkF m 1 #[.val (.ref r), .unset] [(.ref r)])) (fun t k => XS.aloadN X0.here hx rfl (hb hby d1_0) rfl rfl k) ?_
  obtain ⟨T1, X1, e1, st1⟩ := getS (host := "") X0 hx hZ hown (hw _ (List.mem_of_getElem? (i := 11) rfl)) Via.refl e0 (S_TRUE.ext O0.2) (g := (mkF m 1 #[.val (.ref r), .unset] [(.ref r)])) rfl (hb hby d1_1)
  refine own_go (S' := T1.setTop (mkF m 4 #[.val (.ref r), .unset] [(.ref sT), (.ref r)])) (st1) ?_
  by_cases c2 : (Value.ref r) = (Value.ref sT)
  · refine own_go (S' := T1.setTop (mkF m 7 #[.val (.ref r), .unset] [])) (fun t k => XT.acmpNo X1.here hx rfl (hb hby d1_4) rfl rfl rfl (XT.aa_ne_f c2) k) ?_
    obtain ⟨T3, X3, e3, st3⟩ := getS (host := "") X1 hx hZ hown (hw _ (List.mem_of_getElem? (i := 12) rfl)) Via.refl e1 (S_FALSE.ext O0.2) (g := (mkF m 7 #[.val (.ref r), .unset] [])) rfl (hb hby d1_7)
    refine own_go (S' := T3.setTop (mkF m 10 #[.val (.ref r), .unset] [(.ref sF)])) (st3) ?_
    refine own_go (S' := T3.setTop (mkF m 11 #[.val (.ref r), .val (.ref sF)] [])) (fun t k => XS.astoreN X3.here hx rfl (hb hby d1_10) rfl rfl (l' := #[.val (.ref r), .val (.ref sF)]) rfl k) ?_
    refine own_go (S' := T3.setTop (mkF m 32 #[.val (.ref r), .val (.ref sF)] [])) (fun t k => XS.goto X3.here hx rfl (pc0 := 11) (pc' := 32) rfl (hb hby d1_11) (by decide) (by decide) k) ?_
    refine own_go (S' := T3.setTop (mkF m 33 #[.val (.ref r), .val (.ref sF)] [(.ref sF)])) (fun t k => XS.aloadN X3.here hx rfl (hb hby d1_32) rfl rfl k) ?_
    obtain ⟨fs, hr, hrun, hended, hW, hsame⟩ := X3.leave (v := some (.ref sF)) (fun h => by rw [Bd.returns] at h; cases h)
    refine ⟨_, _, retOut X3 hx (i := .areturn) Bd.returns (own_narR rfl rfl) (Or.inr (Or.inr (Or.inr (Or.inr ⟨rfl, rfl, rfl⟩)))) (hb hby d1_33) hr, hrun, hended, _, _, rfl, ?_, ⟨_, rfl⟩, hW, hsame.mono (by decide) (by decide)⟩
    show Q1 Z r sF sT sU h0 n0 (some (.ref sF)) T3.heap _
    rw [e3]
    exact ⟨by unfold own_not; rw [if_pos c2], N0, rfl⟩
  · refine own_go (S' := T1.setTop (mkF m 14 #[.val (.ref r), .unset] [])) (fun t k => XT.acmpYes X1.here hx rfl (pc0 := 4) (pc' := 14) rfl (hb hby d1_4) rfl rfl rfl (XT.aa_ne_t c2) (by decide) (by decide) k) ?_
    refine own_go (S' := T1.setTop (mkF m 15 #[.val (.ref r), .unset] [(.ref r)])) (fun t k => XS.aloadN X1.here hx rfl (hb hby d1_14) rfl rfl k) ?_
    obtain ⟨T4, X4, e4, st4⟩ := getS (host := "") X1 hx hZ hown (hw _ (List.mem_of_getElem? (i := 12) rfl)) Via.refl e1 (S_FALSE.ext O0.2) (g := (mkF m 15 #[.val (.ref r), .unset] [(.ref r)])) rfl (hb hby d1_15)
    refine own_go (S' := T4.setTop (mkF m 18 #[.val (.ref r), .unset] [(.ref sF), (.ref r)])) (st4) ?_
    by_cases c5 : (Value.ref r) = (Value.ref sF)
    · refine own_go (S' := T4.setTop (mkF m 21 #[.val (.ref r), .unset] [])) (fun t k => XT.acmpNo X4.here hx rfl (hb hby d1_18) rfl rfl rfl (XT.aa_ne_f c5) k) ?_
      obtain ⟨T6, X6, e6, st6⟩ := getS (host := "") X4 hx hZ hown (hw _ (List.mem_of_getElem? (i := 11) rfl)) Via.refl e4 (S_TRUE.ext O0.2) (g := (mkF m 21 #[.val (.ref r), .unset] [])) rfl (hb hby d1_21)
      refine own_go (S' := T6.setTop (mkF m 24 #[.val (.ref r), .unset] [(.ref sT)])) (st6) ?_
      refine own_go (S' := T6.setTop (mkF m 25 #[.val (.ref r), .val (.ref sT)] [])) (fun t k => XS.astoreN X6.here hx rfl (hb hby d1_24) rfl rfl (l' := #[.val (.ref r), .val (.ref sT)]) rfl k) ?_
      refine own_go (S' := T6.setTop (mkF m 32 #[.val (.ref r), .val (.ref sT)] [])) (fun t k => XS.goto X6.here hx rfl (pc0 := 25) (pc' := 32) rfl (hb hby d1_25) (by decide) (by decide) k) ?_
      refine own_go (S' := T6.setTop (mkF m 33 #[.val (.ref r), .val (.ref sT)] [(.ref sT)])) (fun t k => XS.aloadN X6.here hx rfl (hb hby d1_32) rfl rfl k) ?_
      obtain ⟨fs, hr, hrun, hended, hW, hsame⟩ := X6.leave (v := some (.ref sT)) (fun h => by rw [Bd.returns] at h; cases h)
      refine ⟨_, _, retOut X6 hx (i := .areturn) Bd.returns (own_narR rfl rfl) (Or.inr (Or.inr (Or.inr (Or.inr ⟨rfl, rfl, rfl⟩)))) (hb hby d1_33) hr, hrun, hended, _, _, rfl, ?_, ⟨_, rfl⟩, hW, hsame.mono (by decide) (by decide)⟩
      show Q1 Z r sF sT sU h0 n0 (some (.ref sT)) T6.heap _
      rw [e6]
      exact ⟨by unfold own_not; rw [if_neg c2, if_pos c5], N0, rfl⟩
    · refine own_go (S' := T4.setTop (mkF m 28 #[.val (.ref r), .unset] [])) (fun t k => XT.acmpYes X4.here hx rfl (pc0 := 18) (pc' := 28) rfl (hb hby d1_18) rfl rfl rfl (XT.aa_ne_t c5) (by decide) (by decide) k) ?_
      obtain ⟨T7, X7, e7, st7⟩ := getS (host := "") X4 hx hZ hown (hw _ (List.mem_of_getElem? (i := 15) rfl)) Via.refl e4 (S_UNKNOWN.ext O0.2) (g := (mkF m 28 #[.val (.ref r), .unset] [])) rfl (hb hby d1_28)
      refine own_go (S' := T7.setTop (mkF m 31 #[.val (.ref r), .unset] [(.ref sU)])) (st7) ?_
      refine own_go (S' := T7.setTop (mkF m 32 #[.val (.ref r), .val (.ref sU)] [])) (fun t k => XS.astoreN X7.here hx rfl (hb hby d1_31) rfl rfl (l' := #[.val (.ref r), .val (.ref sU)]) rfl k) ?_
      refine own_go (S' := T7.setTop (mkF m 33 #[.val (.ref r), .val (.ref sU)] [(.ref sU)])) (fun t k => XS.aloadN X7.here hx rfl (hb hby d1_32) rfl rfl k) ?_
      obtain ⟨fs, hr, hrun, hended, hW, hsame⟩ := X7.leave (v := some (.ref sU)) (fun h => by rw [Bd.returns] at h; cases h)
      refine ⟨_, _, retOut X7 hx (i := .areturn) Bd.returns (own_narR rfl rfl) (Or.inr (Or.inr (Or.inr (Or.inr ⟨rfl, rfl, rfl⟩)))) (hb hby d1_33) hr, hrun, hended, _, _, rfl, ?_, ⟨_, rfl⟩, hW, hsame.mono (by decide) (by decide)⟩
      show Q1 Z r sF sT sU h0 n0 (some (.ref sU)) T7.heap _
      rw [e7]
      exact ⟨by unfold own_not; rw [if_neg c2, if_neg c5], N0, rfl⟩
theorem own_not_F {sF sT sU : Addr} (h : sF ≠ sT) : own_not sF sF sT sU = .ref sT := by
  unfold own_not
  rw [if_neg (fun q => h (Value.ref.inj q)), if_pos rfl]
theorem own_not_T {sF sT sU : Addr} : own_not sT sF sT sU = .ref sF := by
  unfold own_not
  rw [if_pos rfl]
theorem own_not_U {sF sT sU : Addr} (h1 : sU ≠ sT) (h2 : sU ≠ sF) : own_not sU sF sT sU = .ref sU := by
  unfold own_not
  rw [if_neg (fun q => h1 (Value.ref.inj q)), if_neg (fun q => h2 (Value.ref.inj q))]
theorem pd___Lcom_example_coordinator_coordinator_control_Qualifier_Truth_ : parseMethodDescriptor "()Lcom/example/coordinator/coordinator/control/Qualifier$Truth;" = some ⟨[], some (.object "com/example/coordinator/coordinator/control/Qualifier$Truth")⟩ := by decide +kernel
theorem pn_com_example_coordinator_coordinator_control_TruthNotPinLaw : plainName "com/example/coordinator/coordinator/control/TruthNotPinLaw" = true := by first | (simp [plainName, overriddenIn]; done) | decide +kernel
theorem ef0 (m : MethodId) (x0 : Int32) : entryFrame m #[(.int x0)] maxLocals = mkF m 0 #[.val (.int x0), .unset, .unset, .unset] [] := by first | (simp [entryFrame, mkF, argsToLocals, Value.category, maxLocals]; done) | rfl
def Q0 (Z : State) (p1 : Int32) (sF : Addr) (sT : Addr) (sU : Addr) (h0 : Heap) (n0 : Nat) (v : Option Value) (h : Heap) (L : List Loc) : Prop := v = some (.int 1) ∧ Fr n0 L
set_option maxRecDepth 65536 in
set_option maxHeartbeats 40000000 in
theorem rm0 (l : Launch) (Z : State) (a0 : Array Value) (hw : ∀ d ∈ tables_1, d.before a0 Z = true) (ws : List Jvm.Cond) (p1 : Int32) (sF : Addr) (sT : Addr) (sU : Addr) (h0 : Heap) (n0 : Nat) (Z0 : n0 ≤ h0.size) (O0 : Old Z n0 h0) (S_FALSE : Sta Z Z.heap "com/example/coordinator/coordinator/control/Qualifier$Truth" "FALSE" "Lcom/example/coordinator/coordinator/control/Qualifier$Truth;" (.ref sF)) (S_TRUE : Sta Z Z.heap "com/example/coordinator/coordinator/control/Qualifier$Truth" "TRUE" "Lcom/example/coordinator/coordinator/control/Qualifier$Truth;" (.ref sT)) (S_UNKNOWN : Sta Z Z.heap "com/example/coordinator/coordinator/control/Qualifier$Truth" "UNKNOWN" "Lcom/example/coordinator/coordinator/control/Qualifier$Truth;" (.ref sU)) (E_FALSE : Exa Z Z.heap sF "com/example/coordinator/coordinator/control/Qualifier$Truth") (E_TRUE : Exa Z Z.heap sT "com/example/coordinator/coordinator/control/Qualifier$Truth") (E_UNKNOWN : Exa Z Z.heap sU "com/example/coordinator/coordinator/control/Qualifier$Truth") (nFT : sF ≠ sT) (nUT : sU ≠ sT) (nUF : sU ≠ sF) :
    MetFree l x (head1 (Jvm.Cond.code x code maxLocals ret :: ws) room_1) (fun a U => a = #[(.int p1)] ∧ Z.Warmed39 U.vm ∧ U.heap = h0) (fun _ _ _ _ _ => True) (fun _ U o U' => ∃ v L, o = .returned v ∧ Q0 Z p1 sF sT sU h0 n0 v U'.heap L ∧ FrameEnd U o U' L room_1.cells room_1.slots) := by
  refine MetFree.of_bodySF (plainFor_of_name pn_com_example_coordinator_coordinator_control_TruthNotPinLaw) hisR ?_
  intro p e s m args below meth c s₁ Bd hml0 hP hK
  obtain ⟨rfl, hZ, hh⟩ := hP
  have hx := Bd.exec
  have hby := Bd.bytes
  have hml : c.maxLocals = 4 := hml0
  have hown : s.vm.findClass "com/example/coordinator/coordinator/control/TruthNotPinLaw" = some m.cls := findClass_of_methodNamed Bd.named
  have hnm := (name_of_methodNamed Bd.named Bd.method).1
  have X0 : Stand p l e room_1 s m #[(.int p1)] below meth c s₁ [] 0 0 := Stand.of_body Bd
  have e0 : s₁.heap = h0 := by rw [← hh, Bd.state]; rfl
  have N0 := Fr.nil n0
  show own_Go p.tables e below (fun o U' => ∃ v L, o = .returned v ∧ Q0 Z p1 sF sT sU h0 n0 v U'.heap L ∧ FrameEnd s o U' L room_1.cells room_1.slots) (s₁.setTop (entryFrame m #[(.int p1)] maxLocals))
  refine own_go (S' := s₁.setTop (mkF m 0 #[.val (.int p1), .unset, .unset, .unset] [])) (fun t k => castTop (ef0 m p1) k) ?_
  refine own_go (S' := s₁.setTop (mkF m 1 #[.val (.int p1), .unset, .unset, .unset] [(.int p1)])) (fun t k => XS.iloadN X0.here hx rfl (hb hby at_0) rfl k) ?_
  refine own_go (S' := s₁.setTop (mkF m 3 #[.val (.int p1), .unset, .unset, .unset] [(.int (2147483647 : Int32)), (.int p1)])) (fun t k => Stand.ldcI X0 hx (v := (2147483647 : Int32)) hown (mvT hZ (hw _ (List.mem_of_getElem? (i := 0) rfl))) rfl (hb hby at_1) k) ?_
  refine own_go (S' := s₁.setTop (mkF m 4 #[.val (.int p1), .unset, .unset, .unset] [(.int (p1 &&& (2147483647 : Int32)))])) (fun t k => XS.iand X0.here hx rfl (hb hby at_3) rfl k) ?_
  refine own_go (S' := s₁.setTop (mkF m 5 #[.val (.int p1), .unset, .unset, .unset] [(.int (3 : Int32)), (.int (p1 &&& (2147483647 : Int32)))])) (fun t k => XT.iconstV X0.here hx rfl (3 : Int32) (hb hby at_4) (by decide) k) ?_
  refine own_go (S' := s₁.setTop (mkF m 6 #[.val (.int p1), .unset, .unset, .unset] [(.int ((p1 &&& (2147483647 : Int32)) % (3 : Int32)))])) (fun t k => iremM X0 hx rfl (hb hby at_5) rfl (by decide) k) ?_
  refine own_go (S' := s₁.setTop (mkF m 7 #[.val (.int p1), .val (.int ((p1 &&& (2147483647 : Int32)) % (3 : Int32))), .unset, .unset] [])) (fun t k => XS.istoreN X0.here hx rfl (hb hby at_6) rfl (l' := #[.val (.int p1), .val (.int ((p1 &&& (2147483647 : Int32)) % (3 : Int32))), .unset, .unset]) rfl k) ?_
  refine own_go (S' := s₁.setTop (mkF m 8 #[.val (.int p1), .val (.int ((p1 &&& (2147483647 : Int32)) % (3 : Int32))), .unset, .unset] [(.int ((p1 &&& (2147483647 : Int32)) % (3 : Int32)))])) (fun t k => XS.iloadN X0.here hx rfl (hb hby at_7) rfl k) ?_
  by_cases c1 : ((p1 &&& (2147483647 : Int32)) % (3 : Int32)) = 0
  · refine own_go (S' := s₁.setTop (mkF m 11 #[.val (.int p1), .val (.int ((p1 &&& (2147483647 : Int32)) % (3 : Int32))), .unset, .unset] [])) (fun t k => XS.ifNo X0.here hx rfl (hb hby at_8) rfl (XT.i0_ne_f c1) k) ?_
    obtain ⟨T2, X2, e2, st2⟩ := getS (host := "") X0 hx hZ hown (hw _ (List.mem_of_getElem? (i := 1) rfl)) Via.refl e0 (S_FALSE.ext O0.2) (g := (mkF m 11 #[.val (.int p1), .val (.int ((p1 &&& (2147483647 : Int32)) % (3 : Int32))), .unset, .unset] [])) rfl (hb hby at_11)
    refine own_go (S' := T2.setTop (mkF m 14 #[.val (.int p1), .val (.int ((p1 &&& (2147483647 : Int32)) % (3 : Int32))), .unset, .unset] [(.ref sF)])) (st2) ?_
    refine own_go (S' := T2.setTop (mkF m 15 #[.val (.int p1), .val (.int ((p1 &&& (2147483647 : Int32)) % (3 : Int32))), .val (.ref sF), .unset] [])) (fun t k => XS.astoreN X2.here hx rfl (hb hby at_14) rfl rfl (l' := #[.val (.int p1), .val (.int ((p1 &&& (2147483647 : Int32)) % (3 : Int32))), .val (.ref sF), .unset]) rfl k) ?_
    obtain ⟨T3, X3, e3, st3⟩ := getS (host := "") X2 hx hZ hown (hw _ (List.mem_of_getElem? (i := 4) rfl)) Via.refl e2 (S_TRUE.ext O0.2) (g := (mkF m 15 #[.val (.int p1), .val (.int ((p1 &&& (2147483647 : Int32)) % (3 : Int32))), .val (.ref sF), .unset] [])) rfl (hb hby at_15)
    refine own_go (S' := T3.setTop (mkF m 18 #[.val (.int p1), .val (.int ((p1 &&& (2147483647 : Int32)) % (3 : Int32))), .val (.ref sF), .unset] [(.ref sT)])) (st3) ?_
    refine own_go (S' := T3.setTop (mkF m 19 #[.val (.int p1), .val (.int ((p1 &&& (2147483647 : Int32)) % (3 : Int32))), .val (.ref sF), .val (.ref sT)] [])) (fun t k => XS.astoreN X3.here hx rfl (hb hby at_18) rfl rfl (l' := #[.val (.int p1), .val (.int ((p1 &&& (2147483647 : Int32)) % (3 : Int32))), .val (.ref sF), .val (.ref sT)]) rfl k) ?_
    refine own_go (S' := T3.setTop (mkF m 46 #[.val (.int p1), .val (.int ((p1 &&& (2147483647 : Int32)) % (3 : Int32))), .val (.ref sF), .val (.ref sT)] [])) (fun t k => XS.goto X3.here hx rfl (pc0 := 19) (pc' := 46) rfl (hb hby at_19) (by decide) (by decide) k) ?_
    refine own_go (S' := T3.setTop (mkF m 47 #[.val (.int p1), .val (.int ((p1 &&& (2147483647 : Int32)) % (3 : Int32))), .val (.ref sF), .val (.ref sT)] [(.ref sF)])) (fun t k => XS.aloadN X3.here hx rfl (hb hby at_46) rfl rfl k) ?_
    obtain ⟨cq4, kq4, qa4, qb4, qc4⟩ := isOf hZ e3 (E_FALSE.ext O0.2)
    obtain ⟨v4, _, ⟨T4, L4, k4, n4⟩, -, X4, ⟨Lc4, hQ4, l4, y4, z4⟩, st4⟩ := X3.virtualBack hx (y := (⟨"com/example/coordinator/coordinator/control/Qualifier$Truth", "not", "()Lcom/example/coordinator/coordinator/control/Qualifier$Truth;"⟩ : MethodName)) (z := (⟨"com/example/coordinator/coordinator/control/Qualifier$Truth", "not", "()Lcom/example/coordinator/coordinator/control/Qualifier$Truth;"⟩ : MethodName)) hown (mvT hZ (hw _ (List.mem_of_getElem? (i := 6) rfl))) (mvT hZ (hw _ (List.mem_of_getElem? (i := 7) rfl))) (notFace_of_selects (args := #[]) (mvT hZ (hw _ (List.mem_of_getElem? (i := 9) rfl)))) (mvT hZ (hw _ (List.mem_of_getElem? (i := 9) rfl))) (mvT hZ (hw _ (List.mem_of_getElem? (i := 8) rfl))) (by decide) (backOf (W := 0) (rm1 l Z a0 hw [] sF sF sT sU h0 n0 Z0 O0 S_FALSE S_TRUE S_UNKNOWN) hZ (hw _ (List.mem_of_getElem? (i := 10) rfl)) (hw _ (List.mem_of_getElem? (i := 2) rfl)) (by decide) (by decide)) qa4 qc4 (g := (mkF m 47 #[.val (.int p1), .val (.int ((p1 &&& (2147483647 : Int32)) % (3 : Int32))), .val (.ref sF), .val (.ref sT)] [(.ref sF)])) rfl (by rw [hml]; rfl) (Steps.refl _) (argsL := []) (rest := []) (lenOf pd___Lcom_example_coordinator_coordinator_control_Qualifier_Truth_ rfl) rfl (by show 2 * 0 + _ ≤ _; exact Nat.le_of_eq rfl) (hb hby at_47) (fun _ _ => ⟨rfl, e3, (by decide : 0 + 0 ≤ _), (by decide : 0 + 0 ≤ _)⟩)
    dsimp only [Pt.U, Pt.locs, Pt.cells, Pt.slots] at X4 l4 y4 z4 st4 hQ4
    subst l4 y4 z4
    obtain ⟨hv4, M5, e4⟩ := hQ4
    obtain rfl : v4 = some (.ref sT) := by rw [hv4]; rw [own_not_F nFT]
    have N5 := Fr.app N0 M5
    refine own_to (S' := T4.setTop (mkF m 50 #[.val (.int p1), .val (.int ((p1 &&& (2147483647 : Int32)) % (3 : Int32))), .val (.ref sF), .val (.ref sT)] [(.ref sT)])) st4 ?_
    refine own_go (S' := T4.setTop (mkF m 51 #[.val (.int p1), .val (.int ((p1 &&& (2147483647 : Int32)) % (3 : Int32))), .val (.ref sF), .val (.ref sT)] [(.ref sT), (.ref sT)])) (fun t k => XS.aloadN X4.here hx rfl (hb hby at_50) rfl rfl k) ?_
    refine own_go (S' := T4.setTop (mkF m 54 #[.val (.int p1), .val (.int ((p1 &&& (2147483647 : Int32)) % (3 : Int32))), .val (.ref sF), .val (.ref sT)] [])) (fun t k => XT.acmpNo X4.here hx rfl (hb hby at_51) rfl rfl rfl (XT.aa_ne_f rfl) k) ?_
    refine own_go (S' := T4.setTop (mkF m 55 #[.val (.int p1), .val (.int ((p1 &&& (2147483647 : Int32)) % (3 : Int32))), .val (.ref sF), .val (.ref sT)] [(.int (1 : Int32))])) (fun t k => XT.iconstV X4.here hx rfl (1 : Int32) (hb hby at_54) (by decide) k) ?_
    refine own_go (S' := T4.setTop (mkF m 59 #[.val (.int p1), .val (.int ((p1 &&& (2147483647 : Int32)) % (3 : Int32))), .val (.ref sF), .val (.ref sT)] [(.int (1 : Int32))])) (fun t k => XS.goto X4.here hx rfl (pc0 := 55) (pc' := 59) rfl (hb hby at_55) (by decide) (by decide) k) ?_
    obtain ⟨fs, hr, hrun, hended, hW, hsame⟩ := X4.leave (v := some (.int (1 : Int32))) (fun h => by rw [Bd.returns] at h; cases h)
    refine ⟨_, _, retN X4 hx (t := .boolean) Bd.returns (by simp) (hb hby at_59) hr, hrun, hended, _, _, rfl, ?_, ⟨_, rfl⟩, hW, hsame.mono (by decide) (by decide)⟩
    show Q0 Z p1 sF sT sU h0 n0 (some (.int (1 : Int32))) T4.heap _
    rw [e4]
    exact ⟨rfl, N5⟩
  · refine own_go (S' := s₁.setTop (mkF m 22 #[.val (.int p1), .val (.int ((p1 &&& (2147483647 : Int32)) % (3 : Int32))), .unset, .unset] [])) (fun t k => XS.ifYes X0.here hx rfl (pc0 := 8) (pc' := 22) rfl (hb hby at_8) rfl (XT.i0_ne_t c1) (by decide) (by decide) k) ?_
    refine own_go (S' := s₁.setTop (mkF m 23 #[.val (.int p1), .val (.int ((p1 &&& (2147483647 : Int32)) % (3 : Int32))), .unset, .unset] [(.int ((p1 &&& (2147483647 : Int32)) % (3 : Int32)))])) (fun t k => XS.iloadN X0.here hx rfl (hb hby at_22) rfl k) ?_
    refine own_go (S' := s₁.setTop (mkF m 24 #[.val (.int p1), .val (.int ((p1 &&& (2147483647 : Int32)) % (3 : Int32))), .unset, .unset] [(.int (1 : Int32)), (.int ((p1 &&& (2147483647 : Int32)) % (3 : Int32)))])) (fun t k => XT.iconstV X0.here hx rfl (1 : Int32) (hb hby at_23) (by decide) k) ?_
    by_cases c6 : ((p1 &&& (2147483647 : Int32)) % (3 : Int32)) = (1 : Int32)
    · refine own_go (S' := s₁.setTop (mkF m 27 #[.val (.int p1), .val (.int ((p1 &&& (2147483647 : Int32)) % (3 : Int32))), .unset, .unset] [])) (fun t k => XS.icmpNo X0.here hx rfl (hb hby at_24) rfl (XT.ii_ne_f c6) k) ?_
      obtain ⟨T7, X7, e7, st7⟩ := getS (host := "") X0 hx hZ hown (hw _ (List.mem_of_getElem? (i := 13) rfl)) Via.refl e0 (S_UNKNOWN.ext O0.2) (g := (mkF m 27 #[.val (.int p1), .val (.int ((p1 &&& (2147483647 : Int32)) % (3 : Int32))), .unset, .unset] [])) rfl (hb hby at_27)
      refine own_go (S' := T7.setTop (mkF m 30 #[.val (.int p1), .val (.int ((p1 &&& (2147483647 : Int32)) % (3 : Int32))), .unset, .unset] [(.ref sU)])) (st7) ?_
      refine own_go (S' := T7.setTop (mkF m 31 #[.val (.int p1), .val (.int ((p1 &&& (2147483647 : Int32)) % (3 : Int32))), .val (.ref sU), .unset] [])) (fun t k => XS.astoreN X7.here hx rfl (hb hby at_30) rfl rfl (l' := #[.val (.int p1), .val (.int ((p1 &&& (2147483647 : Int32)) % (3 : Int32))), .val (.ref sU), .unset]) rfl k) ?_
      obtain ⟨T8, X8, e8, st8⟩ := getS (host := "") X7 hx hZ hown (hw _ (List.mem_of_getElem? (i := 13) rfl)) Via.refl e7 (S_UNKNOWN.ext O0.2) (g := (mkF m 31 #[.val (.int p1), .val (.int ((p1 &&& (2147483647 : Int32)) % (3 : Int32))), .val (.ref sU), .unset] [])) rfl (hb hby at_31)
      refine own_go (S' := T8.setTop (mkF m 34 #[.val (.int p1), .val (.int ((p1 &&& (2147483647 : Int32)) % (3 : Int32))), .val (.ref sU), .unset] [(.ref sU)])) (st8) ?_
      refine own_go (S' := T8.setTop (mkF m 35 #[.val (.int p1), .val (.int ((p1 &&& (2147483647 : Int32)) % (3 : Int32))), .val (.ref sU), .val (.ref sU)] [])) (fun t k => XS.astoreN X8.here hx rfl (hb hby at_34) rfl rfl (l' := #[.val (.int p1), .val (.int ((p1 &&& (2147483647 : Int32)) % (3 : Int32))), .val (.ref sU), .val (.ref sU)]) rfl k) ?_
      refine own_go (S' := T8.setTop (mkF m 46 #[.val (.int p1), .val (.int ((p1 &&& (2147483647 : Int32)) % (3 : Int32))), .val (.ref sU), .val (.ref sU)] [])) (fun t k => XS.goto X8.here hx rfl (pc0 := 35) (pc' := 46) rfl (hb hby at_35) (by decide) (by decide) k) ?_
      refine own_go (S' := T8.setTop (mkF m 47 #[.val (.int p1), .val (.int ((p1 &&& (2147483647 : Int32)) % (3 : Int32))), .val (.ref sU), .val (.ref sU)] [(.ref sU)])) (fun t k => XS.aloadN X8.here hx rfl (hb hby at_46) rfl rfl k) ?_
      obtain ⟨cq9, kq9, qa9, qb9, qc9⟩ := isOf hZ e8 (E_UNKNOWN.ext O0.2)
      obtain ⟨v9, _, ⟨T9, L9, k9, n9⟩, -, X9, ⟨Lc9, hQ9, l9, y9, z9⟩, st9⟩ := X8.virtualBack hx (y := (⟨"com/example/coordinator/coordinator/control/Qualifier$Truth", "not", "()Lcom/example/coordinator/coordinator/control/Qualifier$Truth;"⟩ : MethodName)) (z := (⟨"com/example/coordinator/coordinator/control/Qualifier$Truth", "not", "()Lcom/example/coordinator/coordinator/control/Qualifier$Truth;"⟩ : MethodName)) hown (mvT hZ (hw _ (List.mem_of_getElem? (i := 6) rfl))) (mvT hZ (hw _ (List.mem_of_getElem? (i := 7) rfl))) (notFace_of_selects (args := #[]) (mvT hZ (hw _ (List.mem_of_getElem? (i := 9) rfl)))) (mvT hZ (hw _ (List.mem_of_getElem? (i := 9) rfl))) (mvT hZ (hw _ (List.mem_of_getElem? (i := 8) rfl))) (by decide) (backOf (W := 0) (rm1 l Z a0 hw [] sU sF sT sU h0 n0 Z0 O0 S_FALSE S_TRUE S_UNKNOWN) hZ (hw _ (List.mem_of_getElem? (i := 10) rfl)) (hw _ (List.mem_of_getElem? (i := 2) rfl)) (by decide) (by decide)) qa9 qc9 (g := (mkF m 47 #[.val (.int p1), .val (.int ((p1 &&& (2147483647 : Int32)) % (3 : Int32))), .val (.ref sU), .val (.ref sU)] [(.ref sU)])) rfl (by rw [hml]; rfl) (Steps.refl _) (argsL := []) (rest := []) (lenOf pd___Lcom_example_coordinator_coordinator_control_Qualifier_Truth_ rfl) rfl (by show 2 * 0 + _ ≤ _; exact Nat.le_of_eq rfl) (hb hby at_47) (fun _ _ => ⟨rfl, e8, (by decide : 0 + 0 ≤ _), (by decide : 0 + 0 ≤ _)⟩)
      dsimp only [Pt.U, Pt.locs, Pt.cells, Pt.slots] at X9 l9 y9 z9 st9 hQ9
      subst l9 y9 z9
      obtain ⟨hv9, M10, e9⟩ := hQ9
      obtain rfl : v9 = some (.ref sU) := by rw [hv9]; rw [own_not_U nUT nUF]
      have N10 := Fr.app N0 M10
      refine own_to (S' := T9.setTop (mkF m 50 #[.val (.int p1), .val (.int ((p1 &&& (2147483647 : Int32)) % (3 : Int32))), .val (.ref sU), .val (.ref sU)] [(.ref sU)])) st9 ?_
      refine own_go (S' := T9.setTop (mkF m 51 #[.val (.int p1), .val (.int ((p1 &&& (2147483647 : Int32)) % (3 : Int32))), .val (.ref sU), .val (.ref sU)] [(.ref sU), (.ref sU)])) (fun t k => XS.aloadN X9.here hx rfl (hb hby at_50) rfl rfl k) ?_
      refine own_go (S' := T9.setTop (mkF m 54 #[.val (.int p1), .val (.int ((p1 &&& (2147483647 : Int32)) % (3 : Int32))), .val (.ref sU), .val (.ref sU)] [])) (fun t k => XT.acmpNo X9.here hx rfl (hb hby at_51) rfl rfl rfl (XT.aa_ne_f rfl) k) ?_
      refine own_go (S' := T9.setTop (mkF m 55 #[.val (.int p1), .val (.int ((p1 &&& (2147483647 : Int32)) % (3 : Int32))), .val (.ref sU), .val (.ref sU)] [(.int (1 : Int32))])) (fun t k => XT.iconstV X9.here hx rfl (1 : Int32) (hb hby at_54) (by decide) k) ?_
      refine own_go (S' := T9.setTop (mkF m 59 #[.val (.int p1), .val (.int ((p1 &&& (2147483647 : Int32)) % (3 : Int32))), .val (.ref sU), .val (.ref sU)] [(.int (1 : Int32))])) (fun t k => XS.goto X9.here hx rfl (pc0 := 55) (pc' := 59) rfl (hb hby at_55) (by decide) (by decide) k) ?_
      obtain ⟨fs, hr, hrun, hended, hW, hsame⟩ := X9.leave (v := some (.int (1 : Int32))) (fun h => by rw [Bd.returns] at h; cases h)
      refine ⟨_, _, retN X9 hx (t := .boolean) Bd.returns (by simp) (hb hby at_59) hr, hrun, hended, _, _, rfl, ?_, ⟨_, rfl⟩, hW, hsame.mono (by decide) (by decide)⟩
      show Q0 Z p1 sF sT sU h0 n0 (some (.int (1 : Int32))) T9.heap _
      rw [e9]
      exact ⟨rfl, N10⟩
    · refine own_go (S' := s₁.setTop (mkF m 38 #[.val (.int p1), .val (.int ((p1 &&& (2147483647 : Int32)) % (3 : Int32))), .unset, .unset] [])) (fun t k => XS.icmpYes X0.here hx rfl (pc0 := 24) (pc' := 38) rfl (hb hby at_24) rfl (XT.ii_ne_t c6) (by decide) (by decide) k) ?_
      obtain ⟨T11, X11, e11, st11⟩ := getS (host := "") X0 hx hZ hown (hw _ (List.mem_of_getElem? (i := 4) rfl)) Via.refl e0 (S_TRUE.ext O0.2) (g := (mkF m 38 #[.val (.int p1), .val (.int ((p1 &&& (2147483647 : Int32)) % (3 : Int32))), .unset, .unset] [])) rfl (hb hby at_38)
      refine own_go (S' := T11.setTop (mkF m 41 #[.val (.int p1), .val (.int ((p1 &&& (2147483647 : Int32)) % (3 : Int32))), .unset, .unset] [(.ref sT)])) (st11) ?_
      refine own_go (S' := T11.setTop (mkF m 42 #[.val (.int p1), .val (.int ((p1 &&& (2147483647 : Int32)) % (3 : Int32))), .val (.ref sT), .unset] [])) (fun t k => XS.astoreN X11.here hx rfl (hb hby at_41) rfl rfl (l' := #[.val (.int p1), .val (.int ((p1 &&& (2147483647 : Int32)) % (3 : Int32))), .val (.ref sT), .unset]) rfl k) ?_
      obtain ⟨T12, X12, e12, st12⟩ := getS (host := "") X11 hx hZ hown (hw _ (List.mem_of_getElem? (i := 1) rfl)) Via.refl e11 (S_FALSE.ext O0.2) (g := (mkF m 42 #[.val (.int p1), .val (.int ((p1 &&& (2147483647 : Int32)) % (3 : Int32))), .val (.ref sT), .unset] [])) rfl (hb hby at_42)
      refine own_go (S' := T12.setTop (mkF m 45 #[.val (.int p1), .val (.int ((p1 &&& (2147483647 : Int32)) % (3 : Int32))), .val (.ref sT), .unset] [(.ref sF)])) (st12) ?_
      refine own_go (S' := T12.setTop (mkF m 46 #[.val (.int p1), .val (.int ((p1 &&& (2147483647 : Int32)) % (3 : Int32))), .val (.ref sT), .val (.ref sF)] [])) (fun t k => XS.astoreN X12.here hx rfl (hb hby at_45) rfl rfl (l' := #[.val (.int p1), .val (.int ((p1 &&& (2147483647 : Int32)) % (3 : Int32))), .val (.ref sT), .val (.ref sF)]) rfl k) ?_
      refine own_go (S' := T12.setTop (mkF m 47 #[.val (.int p1), .val (.int ((p1 &&& (2147483647 : Int32)) % (3 : Int32))), .val (.ref sT), .val (.ref sF)] [(.ref sT)])) (fun t k => XS.aloadN X12.here hx rfl (hb hby at_46) rfl rfl k) ?_
      obtain ⟨cq13, kq13, qa13, qb13, qc13⟩ := isOf hZ e12 (E_TRUE.ext O0.2)
      obtain ⟨v13, _, ⟨T13, L13, k13, n13⟩, -, X13, ⟨Lc13, hQ13, l13, y13, z13⟩, st13⟩ := X12.virtualBack hx (y := (⟨"com/example/coordinator/coordinator/control/Qualifier$Truth", "not", "()Lcom/example/coordinator/coordinator/control/Qualifier$Truth;"⟩ : MethodName)) (z := (⟨"com/example/coordinator/coordinator/control/Qualifier$Truth", "not", "()Lcom/example/coordinator/coordinator/control/Qualifier$Truth;"⟩ : MethodName)) hown (mvT hZ (hw _ (List.mem_of_getElem? (i := 6) rfl))) (mvT hZ (hw _ (List.mem_of_getElem? (i := 7) rfl))) (notFace_of_selects (args := #[]) (mvT hZ (hw _ (List.mem_of_getElem? (i := 9) rfl)))) (mvT hZ (hw _ (List.mem_of_getElem? (i := 9) rfl))) (mvT hZ (hw _ (List.mem_of_getElem? (i := 8) rfl))) (by decide) (backOf (W := 0) (rm1 l Z a0 hw [] sT sF sT sU h0 n0 Z0 O0 S_FALSE S_TRUE S_UNKNOWN) hZ (hw _ (List.mem_of_getElem? (i := 10) rfl)) (hw _ (List.mem_of_getElem? (i := 2) rfl)) (by decide) (by decide)) qa13 qc13 (g := (mkF m 47 #[.val (.int p1), .val (.int ((p1 &&& (2147483647 : Int32)) % (3 : Int32))), .val (.ref sT), .val (.ref sF)] [(.ref sT)])) rfl (by rw [hml]; rfl) (Steps.refl _) (argsL := []) (rest := []) (lenOf pd___Lcom_example_coordinator_coordinator_control_Qualifier_Truth_ rfl) rfl (by show 2 * 0 + _ ≤ _; exact Nat.le_of_eq rfl) (hb hby at_47) (fun _ _ => ⟨rfl, e12, (by decide : 0 + 0 ≤ _), (by decide : 0 + 0 ≤ _)⟩)
      dsimp only [Pt.U, Pt.locs, Pt.cells, Pt.slots] at X13 l13 y13 z13 st13 hQ13
      subst l13 y13 z13
      obtain ⟨hv13, M14, e13⟩ := hQ13
      obtain rfl : v13 = some (.ref sF) := by rw [hv13]; rw [own_not_T]
      have N14 := Fr.app N0 M14
      refine own_to (S' := T13.setTop (mkF m 50 #[.val (.int p1), .val (.int ((p1 &&& (2147483647 : Int32)) % (3 : Int32))), .val (.ref sT), .val (.ref sF)] [(.ref sF)])) st13 ?_
      refine own_go (S' := T13.setTop (mkF m 51 #[.val (.int p1), .val (.int ((p1 &&& (2147483647 : Int32)) % (3 : Int32))), .val (.ref sT), .val (.ref sF)] [(.ref sF), (.ref sF)])) (fun t k => XS.aloadN X13.here hx rfl (hb hby at_50) rfl rfl k) ?_
      refine own_go (S' := T13.setTop (mkF m 54 #[.val (.int p1), .val (.int ((p1 &&& (2147483647 : Int32)) % (3 : Int32))), .val (.ref sT), .val (.ref sF)] [])) (fun t k => XT.acmpNo X13.here hx rfl (hb hby at_51) rfl rfl rfl (XT.aa_ne_f rfl) k) ?_
      refine own_go (S' := T13.setTop (mkF m 55 #[.val (.int p1), .val (.int ((p1 &&& (2147483647 : Int32)) % (3 : Int32))), .val (.ref sT), .val (.ref sF)] [(.int (1 : Int32))])) (fun t k => XT.iconstV X13.here hx rfl (1 : Int32) (hb hby at_54) (by decide) k) ?_
      refine own_go (S' := T13.setTop (mkF m 59 #[.val (.int p1), .val (.int ((p1 &&& (2147483647 : Int32)) % (3 : Int32))), .val (.ref sT), .val (.ref sF)] [(.int (1 : Int32))])) (fun t k => XS.goto X13.here hx rfl (pc0 := 55) (pc' := 59) rfl (hb hby at_55) (by decide) (by decide) k) ?_
      obtain ⟨fs, hr, hrun, hended, hW, hsame⟩ := X13.leave (v := some (.int (1 : Int32))) (fun h => by rw [Bd.returns] at h; cases h)
      refine ⟨_, _, retN X13 hx (t := .boolean) Bd.returns (by simp) (hb hby at_59) hr, hrun, hended, _, _, rfl, ?_, ⟨_, rfl⟩, hW, hsame.mono (by decide) (by decide)⟩
      show Q0 Z p1 sF sT sU h0 n0 (some (.int (1 : Int32))) T13.heap _
      rw [e13]
      exact ⟨rfl, N14⟩
set_option maxRecDepth 65536 in
set_option maxHeartbeats 40000000 in
theorem comes_1 {Post : Tables → Env → Array Value → State → Outcome → State → Prop} (hpost : ∀ tb e args s v u, (limb_1_1.after args s (.returned v) u = true ∧ limb_1_2.after args s (.returned v) u = true ∧ True) → FrameEnd s (.returned v) u (Jvm.fieldLocs frame_1_writes args s ++ Jvm.arrayLocs frame_1_arrays args s ++ Jvm.staticLocs frame_1_statics s) 0 0 → Post tb e args s (.returned v) u) :
    ArmFor flags0 classFile x code maxLocals ret World_1 tables_1 room_1 Calls_1 rest_1 Pre_1 Post := by
  intro l hfl _ _ p e ha hc hk s m args below hf hA hF happ hP
  obtain ⟨hcalls, hrest, hpre⟩ := hP
  obtain ⟨-, -, -, hnamed, -, -, -, hat⟩ := (Spec.applies_iff hf).mp happ
  obtain ⟨hg, hn⟩ := and_e (Cond.before_iff.mp (show (Jvm.Cond.and given_1 narrow_1).before args s = true from hpre))
  obtain ⟨hgl, hgr⟩ := and_e hg
  obtain ⟨w0, rfl⟩ : ∃ w0 : Value, args = #[w0] := by
    have hs : args.size = 1 := by simpa [Cond.value] using hgl
    obtain ⟨L⟩ := args
    match L, hs with
    | [w0], _ => exact ⟨w0, rfl⟩
  have hw := fun d (hd : d ∈ tables_1) => atoms_spec (ws := Jvm.Cond.code x code maxLocals ret :: tables_1) hat d (List.mem_cons_of_mem _ hd)
  have hfit : Fit s := fun {y c} hc i hi => by
    obtain ⟨ha, rfl⟩ := Array.getElem?_eq_some_iff.mp hc
    have q := List.all_eq_true.mp ((Array.all_eq_true_iff_forall_mem.mp hF) _ (Array.getElem_mem ha)) i (List.mem_range.mpr hi)
    simpa [Array.getElem?_eq_getElem hi] using q
  obtain ⟨p1, ew0⟩ := is_v hgr
  obtain rfl : w0 = (.int p1) := Option.some.inj ew0
  obtain ⟨hnl, hnr⟩ := and_e hn
  obtain ⟨hnrl, hnrr⟩ := and_e hnr
  obtain ⟨hnrrl, hnrrr⟩ := and_e hnrr
  obtain ⟨hnrrrl, hnrrrr⟩ := and_e hnrrr
  obtain ⟨hnrrrrl, hnrrrrr⟩ := and_e hnrrrr
  obtain ⟨s_FALSE, ev_FALSE⟩ := exa_v hnl
  have E_FALSE := Exa.start ev_FALSE hnl
  have S_FALSE := Sta.start ev_FALSE (Or.inr ⟨(hw _ (List.mem_of_getElem? (i := 2) rfl)), (hw _ (List.mem_of_getElem? (i := 3) rfl))⟩)
  obtain ⟨s_TRUE, ev_TRUE⟩ := exa_v hnrl
  have E_TRUE := Exa.start ev_TRUE hnrl
  have S_TRUE := Sta.start ev_TRUE (Or.inr ⟨(hw _ (List.mem_of_getElem? (i := 2) rfl)), (hw _ (List.mem_of_getElem? (i := 5) rfl))⟩)
  obtain ⟨s_UNKNOWN, ev_UNKNOWN⟩ := exa_v hnrrrrl
  have E_UNKNOWN := Exa.start ev_UNKNOWN hnrrrrl
  have S_UNKNOWN := Sta.start ev_UNKNOWN (Or.inr ⟨(hw _ (List.mem_of_getElem? (i := 2) rfl)), (hw _ (List.mem_of_getElem? (i := 14) rfl))⟩)
  have F_FALSE_ordinal : Fld s s.heap s_FALSE "java/lang/Enum" "ordinal" "I" (.int (0 : Int32)) := Fld.start ((fld_at ev_FALSE).symm.trans (Cond.eq_int (Cond.before_iff.mpr hnrrl) rfl))
  have F_TRUE_ordinal : Fld s s.heap s_TRUE "java/lang/Enum" "ordinal" "I" (.int (2 : Int32)) := Fld.start ((fld_at ev_TRUE).symm.trans (Cond.eq_int (Cond.before_iff.mpr hnrrrl) rfl))
  have F_UNKNOWN_ordinal : Fld s s.heap s_UNKNOWN "java/lang/Enum" "ordinal" "I" (.int (1 : Int32)) := Fld.start ((fld_at ev_UNKNOWN).symm.trans (Cond.eq_int (Cond.before_iff.mpr hnrrrrr) rfl))
  obtain ⟨n, o, h1, h2, h3, _, L, rfl, ⟨rfl, N⟩, hq⟩ := rm0 l s _ hw tables_1 p1 s_FALSE s_TRUE s_UNKNOWN s.heap s.heap.size (Nat.le_refl _) (Old.start s) S_FALSE S_TRUE S_UNKNOWN E_FALSE E_TRUE E_UNKNOWN (F_FALSE_ordinal.ne F_TRUE_ordinal (by decide)) (F_UNKNOWN_ordinal.ne F_TRUE_ordinal (by decide)) (F_UNKNOWN_ordinal.ne F_FALSE_ordinal (by decide)) p e ha hc hk s m _ below hf ((Spec.applies_iff_loose hf).mp happ).1 ⟨rfl, State.Warmed39.refl s, rfl⟩ trivial
  refine ⟨n, _, h1, h2, h3, hpost _ _ _ _ _ _ ⟨Cond.after_iff.mpr rfl, Cond.after_iff.mpr (eq_i res_at (Term.int_eval (1)) rfl), trivial⟩ ⟨hq.1, hq.2.1, (hq.2.2.sift fun y hy => Or.inr (N y hy)).mono (by decide) (by decide)⟩⟩
theorem main_1_1 : Claimed_1_1 := comes_1 fun _ _ _ _ _ _ h hF => ⟨h.1, hF⟩
theorem main_1_2 : Claimed_1_2 := comes_1 fun _ _ _ _ _ _ h hF => ⟨h.2.1, hF⟩
end Jvm.Pilot.@@N@@
namespace Jvm.Pilot.@@N@@
open Jvm Jvm.ClassFile Sem Op Lib Jvm.Free Jvm.Stand Jvm.Pilot.@@N@@.Jvm.D
/-! MADE BY PROGRAM (witnessworld.py) out of the Statement's table words and the real class files: 12 classes; the members and pool entries that the words name. The judged class is class 1, her method 1. -/
namespace start1
open Jvm.ClassFile
def u (s : String) : CpInfo := .utf8 (stringToUtf16 s)
/-- a pool by its gaps: so many unusable entries, then the entry; so many at the end -/
def gap : Nat → List CpInfo → List CpInfo
  | 0, r => r
  | n + 1, r => .unusable :: gap n r
def poolList (es : List (Nat × CpInfo)) (last : Nat) : List CpInfo := es.foldr (fun e r => gap e.1 (e.2 :: r)) (gap last [])
def pool (es : List (Nat × CpInfo)) (last : Nat) : Array CpInfo := ⟨poolList es last⟩
def fileOf (pool : Array CpInfo) (this : Nat) (attrs : Array Attribute := #[]) (ms : Array MethodInfo := #[]) (fl : Nat := 33) (sup : Nat := 0) (ifs : Array Nat := #[]) (fds : Array FieldInfo := #[]) : ClassFile where
  minorVersion := 0
  majorVersion := 65
  constantPool := pool
  accessFlags := fl
  thisClass := this
  superClass := sup
  interfaces := ifs
  fields := fds
  methods := ms
  attributes := attrs
def plain (name : String) (sup : Option ClassId) : Class where
  name := name
  kind := .ordinary
  loader := none
  accessFlags := 33
  super := sup
  interfaces := #[]
  cf := none
  fields := #[]
  methods := #[]
  instanceTypes := #[]
  staticTypes := #[]
  resolved := #[]
  callSites := []
  init := .initialized
  statics := none
  mirror := none

def pool0 : Array CpInfo := pool [(5, u "<init>"), (0, u "()V"), (1, .class_ 10), (1, u "java/lang/Object")] 113

def k0m0 : Method := { name := "<init>", desc := "()V", sig := { parameters := [], returnType := none }, accessFlags := 1, code := none }
/-- java/lang/Object -/
def k0 : Class := { plain "java/lang/Object" none with
  accessFlags := 33
  interfaces := #[]
  cf := some (fileOf pool0 8 #[] #[{ accessFlags := 1, nameIndex := 5, descriptorIndex := 6, attributes := #[] }] 33 0 #[] #[])
  fields := #[]
  methods := #[k0m0]
  instanceTypes := #[]
  staticTypes := #[]
  resolved := Array.replicate 124 none
  statics := none }

def pool1 : Array CpInfo := pool [(2, .class_ 4), (1, u "java/lang/Object"), (0, u "<init>"), (0, u "()V"), (0, .integer 2147483647), (0, .fieldref 9 10), (0, .class_ 11), (0, .nameAndType 12 13), (0, u "com/example/coordinator/coordinator/control/Qualifier$Truth"), (0, u "FALSE"), (0, u "Lcom/example/coordinator/coordinator/control/Qualifier$Truth;"), (0, .fieldref 9 15), (0, .nameAndType 16 13), (0, u "TRUE"), (0, .fieldref 9 18), (0, .nameAndType 19 13), (0, u "UNKNOWN"), (0, .methodref 9 21), (0, .nameAndType 22 23), (0, u "not"), (0, u "()Lcom/example/coordinator/coordinator/control/Qualifier$Truth;"), (0, .class_ 25), (0, u "com/example/coordinator/coordinator/control/TruthNotPinLaw"), (2, u "law"), (0, u "(I)Z")] 7

def k1m0 : Method := { name := "<init>", desc := "()V", sig := { parameters := [], returnType := none }, accessFlags := 1, code := none }
def k1c1 : Code := { maxStack := 2, maxLocals := 4, code := code, exceptionTable := #[], attributes := #[] }
def k1m1 : Method := { name := "law", desc := "(I)Z", sig := { parameters := [.int], returnType := some .boolean }, accessFlags := 9, code := some k1c1 }
/-- com/example/coordinator/coordinator/control/TruthNotPinLaw -/
def k1 : Class := { plain "com/example/coordinator/coordinator/control/TruthNotPinLaw" (some 0) with
  accessFlags := 49
  interfaces := #[]
  cf := some (fileOf pool1 24 #[] #[{ accessFlags := 1, nameIndex := 5, descriptorIndex := 6, attributes := #[] }, { accessFlags := 9, nameIndex := 28, descriptorIndex := 29, attributes := #[] }] 49 2 #[] #[])
  fields := #[]
  methods := #[k1m0, k1m1]
  instanceTypes := #[]
  staticTypes := #[]
  resolved := Array.replicate 37 none
  statics := none }

def pool2 : Array CpInfo := pool [(1, .class_ 2), (0, u "java/lang/constant/Constable"), (0, .class_ 4), (0, u "java/lang/Object")] 6

/-- java/lang/constant/Constable -/
def k2 : Class := { plain "java/lang/constant/Constable" (some 0) with
  accessFlags := 1537
  interfaces := #[]
  cf := some (fileOf pool2 1 #[] #[] 1537 3 #[] #[])
  fields := #[]
  methods := #[]
  instanceTypes := #[]
  staticTypes := #[]
  resolved := Array.replicate 11 none
  statics := none }

def pool3 : Array CpInfo := pool [(1, .class_ 2), (0, u "java/lang/Comparable"), (0, .class_ 4), (0, u "java/lang/Object")] 7

/-- java/lang/Comparable -/
def k3 : Class := { plain "java/lang/Comparable" (some 0) with
  accessFlags := 1537
  interfaces := #[]
  cf := some (fileOf pool3 1 #[] #[] 1537 3 #[] #[])
  fields := #[]
  methods := #[]
  instanceTypes := #[]
  staticTypes := #[]
  resolved := Array.replicate 12 none
  statics := none }

def pool4 : Array CpInfo := pool [(1, .class_ 2), (0, u "java/io/Serializable"), (0, .class_ 4), (0, u "java/lang/Object")] 2

/-- java/io/Serializable -/
def k4 : Class := { plain "java/io/Serializable" (some 0) with
  accessFlags := 1537
  interfaces := #[]
  cf := some (fileOf pool4 1 #[] #[] 1537 3 #[] #[])
  fields := #[]
  methods := #[]
  instanceTypes := #[]
  staticTypes := #[]
  resolved := Array.replicate 7 none
  statics := none }

def pool5 : Array CpInfo := pool [(2, .class_ 4), (1, u "java/lang/Enum"), (0, u "name"), (0, u "Ljava/lang/String;"), (2, u "ordinal"), (0, u "I"), (1, .class_ 14), (1, u "java/lang/Object"), (4, u "hash"), (86, .class_ 108), (1, u "java/lang/Enum$EnumDesc"), (2, .class_ 112), (0, u "java/lang/constant/Constable"), (0, .class_ 114), (0, u "java/lang/Comparable"), (0, .class_ 116), (0, u "java/io/Serializable")] 87

/-- java/lang/Enum -/
def k5 : Class := { plain "java/lang/Enum" (some 0) with
  accessFlags := 1057
  interfaces := #[2, 3, 4]
  cf := some (fileOf pool5 2 #[.nestMembers #[106]] #[] 1057 12 #[111, 113, 115] #[{ accessFlags := 18, nameIndex := 5, descriptorIndex := 6, attributes := #[] }, { accessFlags := 18, nameIndex := 9, descriptorIndex := 10, attributes := #[] }, { accessFlags := 2, nameIndex := 19, descriptorIndex := 10, attributes := #[] }])
  fields := #[{ name := "name", type := (.object "java/lang/String"), accessFlags := 18, slot := 0, constantValue := 0 }, { name := "ordinal", type := .int, accessFlags := 18, slot := 1, constantValue := 0 }, { name := "hash", type := .int, accessFlags := 2, slot := 2, constantValue := 0 }]
  methods := #[]
  instanceTypes := #[(.object "java/lang/String"), .int, .int]
  staticTypes := #[]
  resolved := Array.replicate 204 none
  statics := none }

def pool6 : Array CpInfo := pool [(1, .class_ 2), (0, u "com/example/coordinator/coordinator/control/Qualifier$Truth"), (0, .fieldref 1 4), (0, .nameAndType 5 6), (0, u "FALSE"), (0, u "Lcom/example/coordinator/coordinator/control/Qualifier$Truth;"), (0, .fieldref 1 8), (0, .nameAndType 9 6), (0, u "UNKNOWN"), (0, .fieldref 1 11), (0, .nameAndType 12 6), (0, u "TRUE"), (2, u "$VALUES"), (0, u "[Lcom/example/coordinator/coordinator/control/Qualifier$Truth;"), (6, .class_ 25), (1, u "java/lang/Enum"), (31, u "not"), (0, u "()Lcom/example/coordinator/coordinator/control/Qualifier$Truth;"), (5, .class_ 65), (0, u "com/example/coordinator/coordinator/control/Qualifier")] 2

def k6c0 : Code := { maxStack := 2, maxLocals := 2, code := prog_92_method_7_code, exceptionTable := #[], attributes := #[] }
def k6m0 : Method := { name := "not", desc := "()Lcom/example/coordinator/coordinator/control/Qualifier$Truth;", sig := { parameters := [], returnType := some (.object "com/example/coordinator/coordinator/control/Qualifier$Truth") }, accessFlags := 0, code := some k6c0 }
/-- com/example/coordinator/coordinator/control/Qualifier$Truth -/
def k6 : Class := { plain "com/example/coordinator/coordinator/control/Qualifier$Truth" (some 5) with
  accessFlags := 16432
  interfaces := #[]
  cf := some (fileOf pool6 1 #[.nestHost 64] #[{ accessFlags := 0, nameIndex := 57, descriptorIndex := 58, attributes := #[] }] 16432 23 #[] #[{ accessFlags := 16409, nameIndex := 5, descriptorIndex := 6, attributes := #[] }, { accessFlags := 16409, nameIndex := 9, descriptorIndex := 6, attributes := #[] }, { accessFlags := 16409, nameIndex := 12, descriptorIndex := 6, attributes := #[] }, { accessFlags := 4122, nameIndex := 15, descriptorIndex := 16, attributes := #[] }])
  fields := #[{ name := "FALSE", type := (.object "com/example/coordinator/coordinator/control/Qualifier$Truth"), accessFlags := 16409, slot := 0, constantValue := 0 }, { name := "UNKNOWN", type := (.object "com/example/coordinator/coordinator/control/Qualifier$Truth"), accessFlags := 16409, slot := 1, constantValue := 0 }, { name := "TRUE", type := (.object "com/example/coordinator/coordinator/control/Qualifier$Truth"), accessFlags := 16409, slot := 2, constantValue := 0 }, { name := "$VALUES", type := (.array (.object "com/example/coordinator/coordinator/control/Qualifier$Truth")), accessFlags := 4122, slot := 3, constantValue := 0 }]
  methods := #[k6m0]
  instanceTypes := #[(.object "java/lang/String"), .int, .int]
  staticTypes := #[(.object "com/example/coordinator/coordinator/control/Qualifier$Truth"), (.object "com/example/coordinator/coordinator/control/Qualifier$Truth"), (.object "com/example/coordinator/coordinator/control/Qualifier$Truth"), (.array (.object "com/example/coordinator/coordinator/control/Qualifier$Truth"))]
  resolved := Array.replicate 68 none
  statics := some 0 }

def pool7 : Array CpInfo := pool [(1, u "java/lang/Cloneable"), (0, .class_ 1), (0, u "java/lang/Object"), (0, .class_ 3)] 3

/-- java/lang/Cloneable -/
def k7 : Class := { plain "java/lang/Cloneable" (some 0) with
  accessFlags := 1537
  interfaces := #[]
  cf := some (fileOf pool7 2 #[] #[] 1537 4 #[] #[])
  fields := #[]
  methods := #[]
  instanceTypes := #[]
  staticTypes := #[]
  resolved := Array.replicate 8 none
  statics := none }

/-- the primitive byte -/
def k8 : Class := { plain "byte" none with kind := .primitive 'B', accessFlags := 0x411 }
/-- [B -/
def k9 : Class := { plain "[B" (some 0) with kind := .array 8 .byte, interfaces := #[7, 4], accessFlags := 1041 }

/-- the primitive int -/
def k10 : Class := { plain "int" none with kind := .primitive 'I', accessFlags := 0x411 }
/-- [I -/
def k11 : Class := { plain "[I" (some 0) with kind := .array 10 .int, interfaces := #[7, 4], accessFlags := 1041 }

def heap : Heap := #[{ cls := 6, slots := #[.ref 1, .ref 3, .ref 2, .null], vm := .statics 6 },
  { cls := 6, slots := #[.null, .int 0, .int 0], vm := .none },
  { cls := 6, slots := #[.null, .int 2, .int 0], vm := .none },
  { cls := 6, slots := #[.null, .int 1, .int 0], vm := .none }]
def classes : Array Class := #[k0, k1, k2, k3, k4, k5, k6, k7, k8, k9, k10, k11]
def interned : List (Array UInt16 × Addr) := []
def slotsUsed : Nat := 13
def theMethod : MethodId := ⟨1, 1⟩
def args0 : Array Value := #[.int 5]
def aboutOver (below : List Frame) : State where
  vm := { classes := classes, interned := interned.toArray }
  heap := heap
  slotsUsed := slotsUsed
  threads := #[{ frames := .invoking theMethod args0 :: below }]
def below0 : List Frame := [.native { method := ⟨0, 0⟩, args := #[] }]
def about1 : State := aboutOver below0
def p0 : Program := .bare "" "" ""
def e0 : Env := launch0.env 0 0 0
theorem w_frames : about1.frames = Frame.invoking theMethod args0 :: below0 := rfl
set_option maxRecDepth 65536 in
theorem w_args : argsFit about1.vm theMethod args0 = true := by decide +kernel
set_option maxRecDepth 65536 in
theorem w_heap : heapFits about1 = true := by decide +kernel
set_option maxRecDepth 65536 in
theorem w_runnable : about1.curStatus? = some .runnable := by decide +kernel
set_option maxRecDepth 65536 in
theorem w_alone : about1.alone = true := by decide +kernel
set_option maxRecDepth 65536 in
theorem w_named : about1.methodNamed? x = some theMethod := by decide +kernel
set_option maxRecDepth 65536 in
theorem w_hears : about1.hears theMethod below0 = true := by decide +kernel
set_option maxRecDepth 65536 in
theorem w_ripe : about1.ripe theMethod args0 below0 = true := by decide +kernel
theorem w_running : about1.status = .running := rfl
set_option maxRecDepth 65536 in
theorem w_room : about1.hasRoom e0.platform room_1 = true :=
  launch0.hasRoom_least _ room_1 (by decide +kernel) (by decide +kernel) (by decide +kernel) (by decide +kernel) (by decide +kernel) (by decide +kernel)
theorem allAtoms_all (ts : List Jvm.Cond) (a : Array Jvm.Value) (st : Jvm.State) : (allAtoms ts).before a st = ts.all (fun c => c.before a st) := by
  induction ts with
  | nil => rfl
  | cons c t ih =>
    show (Jvm.Cond.and c (allAtoms t)).before a st = _
    rw [Jvm.Cond.before_and, ih, List.all_cons]
def words1 : List Jvm.Cond := Jvm.Cond.code x code maxLocals ret :: tables_1
/-- a 'code' word, met by the world's own term for the bytes: nothing is compared byte by byte -/
theorem code_word {y : MethodName} {bytes : ByteArray} {mx : Nat} {rt : Option FieldType} {a : Array Value} {s : State} {m : MethodId} {meth : Method} {c : Code} (h1 : s.methodNamed? y = some m) (h2 : s.vm.method? m = some meth) (h3 : meth.code = some c) (h4 : c.code = bytes)
    (h5 : (c.maxLocals == mx && c.exceptionTable.isEmpty && decide (c.maxStack ≤ mostOperands) && decide (meth.sig.returnType = rt) && !meth.locks && decide (parseMethodDescriptor y.desc = some meth.sig)) = true) : (Jvm.Cond.code y bytes mx rt).before a s = true := by
  simp only [Bool.and_eq_true, beq_iff_eq, Bool.not_eq_true', decide_eq_true_eq] at h5
  obtain ⟨⟨⟨⟨⟨g1, g2⟩, g3⟩, g4⟩, g5⟩, g6⟩ := h5
  simp [Cond.before, Cond.holds, Cond.value, h1, h2, h3, h4, g1, g2, g3, g4, g5, g6]
def isCode : Jvm.Cond → Bool
  | .code _ _ _ _ => true
  | _ => false
theorem all_split {L : List Jvm.Cond} {P : Jvm.Cond → Bool} (h1 : L.all (fun c => isCode c || P c) = true) (h2 : ∀ c ∈ L.filter isCode, P c = true) : L.all P = true := by
  refine List.all_eq_true.mpr fun c hc => ?_
  have h := List.all_eq_true.mp h1 c hc
  rcases Bool.eq_false_or_eq_true (isCode c) with hi | hi
  · exact h2 c (List.mem_filter.mpr ⟨hc, hi⟩)
  · simpa [hi] using h
set_option maxRecDepth 65536 in
theorem w_c0 : (Jvm.Cond.code x code maxLocals ret).before args0 about1 = true := code_word (m := ⟨1, 1⟩) (meth := k1m1) (c := k1c1) (by decide +kernel) rfl rfl rfl (by decide +kernel)
set_option maxRecDepth 65536 in
theorem w_c1 : (Jvm.Cond.code ({ cls := "com/example/coordinator/coordinator/control/Qualifier$Truth", name := "not", desc := "()Lcom/example/coordinator/coordinator/control/Qualifier$Truth;" } : Jvm.MethodName) prog_92_method_7_code (2 : Nat) (Option.some (Jvm.ClassFile.FieldType.object "com/example/coordinator/coordinator/control/Qualifier$Truth"))).before args0 about1 = true := code_word (m := ⟨6, 0⟩) (meth := k6m0) (c := k6c0) (by decide +kernel) rfl rfl rfl (by decide +kernel)
def codes1 : List Jvm.Cond := [Jvm.Cond.code x code maxLocals ret, Jvm.Cond.code ({ cls := "com/example/coordinator/coordinator/control/Qualifier$Truth", name := "not", desc := "()Lcom/example/coordinator/coordinator/control/Qualifier$Truth;" } : Jvm.MethodName) prog_92_method_7_code (2 : Nat) (Option.some (Jvm.ClassFile.FieldType.object "com/example/coordinator/coordinator/control/Qualifier$Truth"))]
set_option maxRecDepth 65536 in
theorem codes_eq : words1.filter isCode = codes1 := rfl
theorem w_codes : ∀ c ∈ words1.filter isCode, c.before args0 about1 = true := by
  rw [codes_eq]
  intro c hc
  simp only [codes1, List.mem_cons, List.not_mem_nil, or_false] at hc
  rcases hc with rfl | rfl
  · exact w_c0
  · exact w_c1
set_option maxRecDepth 65536 in
theorem w_t1 : words1.all (fun c => isCode c || c.before args0 about1) = true := by decide +kernel
theorem w_tables : (allAtoms (Jvm.Cond.code x code maxLocals ret :: tables_1)).before args0 about1 = true := by
  rw [allAtoms_all]
  show words1.all (fun c => c.before args0 about1) = true
  refine all_split ?_ w_codes
  rw [w_t1]
set_option maxRecDepth 65536 in
theorem w_case : (Jvm.Cond.and given_1 narrow_1).before args0 about1 = true := by decide +kernel
theorem w_applies : (headSpec (Jvm.Cond.code x code maxLocals ret :: tables_1) room_1).applies x e0.platform about1 = true :=
  (Spec.applies_iff w_frames).mpr ⟨w_running, w_runnable, w_alone, w_named, w_hears, w_ripe, w_room, w_tables⟩
theorem atStart : AtStart classFile x code maxLocals ret World_1 tables_1 room_1 Calls_1 rest_1 Pre_1 launch0 p0 e0 about1 theMethod args0 below0 :=
  ⟨lists_1, trivial, launch0.admits_env _ _ _, launch0.least_env, fairChoices_fair.cas, fairChoices_fair.clock, w_frames, w_args, w_heap, w_applies, trivial, trivial, w_case⟩
end start1
theorem witness_1 : WitnessClaimed_1 := ⟨start1.p0, start1.e0, start1.about1, start1.theMethod, start1.args0, start1.below0, start1.atStart⟩
end Jvm.Pilot.@@N@@
