import JvmDerived
import JvmDerived.Pilot.@@N@@Statement
import JvmDerived.Pilot.@@N@@Code
set_option linter.unusedVariables false
set_option linter.unusedSimpArgs false
namespace Jvm.Pilot.@@N@@
open Jvm Jvm.ClassFile Sem Op Lib Jvm.Free Jvm.Stand Jvm.LawKit Jvm.RoadKit Bundle Jvm.Pilot.@@N@@.Jvm.D
def own_Go (tb : Tables) (e : Env) (below : List Frame) (R : Outcome → State → Prop) (S : State) : Prop := ∃ s₂ o, Steps tb e below S s₂ ∧ s₂.status = .running ∧ Ended s₂ below o ∧ R o s₂
theorem own_go {tb : Tables} {e : Env} {below : List Frame} {R : Outcome → State → Prop} {S S' : State} (k : ∀ t, Steps tb e below S' t → Steps tb e below S t) (h : own_Go tb e below R S') : own_Go tb e below R S := by
  obtain ⟨a, b, c, d⟩ := h
  exact ⟨a, b, k _ c, d⟩
theorem own_to {tb : Tables} {e : Env} {below : List Frame} {R : Outcome → State → Prop} {S S' : State} (k : Steps tb e below S S') (h : own_Go tb e below R S') : own_Go tb e below R S := by
  obtain ⟨a, b, c, d⟩ := h
  exact ⟨a, b, k.trans c, d⟩
theorem own_narR {t : FieldType} {v : Value} (ht : t.isReference = true) (hv : v.isRef = true) : narrow t v = v := by
  cases t <;> first | (cases ht; done) | (cases v <;> first | rfl | (cases hv; done))
def own_holds (o vl ve vg : Int32) : Int32 := if o < 0 then vl else if o = 0 then ve else vg
theorem own_h_EQUAL (o : Int32) : own_holds o (0 : Int32) (1 : Int32) (0 : Int32) = if o = 0 then (1 : Int32) else (0 : Int32) := by
  have e0 : (0 : Int32).toInt = 0 := rfl
  unfold own_holds
  by_cases h1 : o < 0
  · have h2 : ¬ o = 0 := fun q => by rw [q] at h1; exact absurd h1 (by decide)
    have h3 : ¬ 0 < o := fun q => by rw [Int32.lt_iff_toInt_lt] at h1 q; omega
    simp [h1, h2, h3]
  · by_cases h2 : o = 0
    · subst h2; decide
    · have h3 : 0 < o := by
        rw [Int32.lt_iff_toInt_lt] at h1 ⊢
        rw [← Int32.toInt_inj] at h2
        omega
      simp [h1, h2, h3]
theorem own_h_NOT_EQUAL (o : Int32) : own_holds o (1 : Int32) (0 : Int32) (1 : Int32) = if o = 0 then (0 : Int32) else (1 : Int32) := by
  have e0 : (0 : Int32).toInt = 0 := rfl
  unfold own_holds
  by_cases h1 : o < 0
  · have h2 : ¬ o = 0 := fun q => by rw [q] at h1; exact absurd h1 (by decide)
    have h3 : ¬ 0 < o := fun q => by rw [Int32.lt_iff_toInt_lt] at h1 q; omega
    simp [h1, h2, h3]
  · by_cases h2 : o = 0
    · subst h2; decide
    · have h3 : 0 < o := by
        rw [Int32.lt_iff_toInt_lt] at h1 ⊢
        rw [← Int32.toInt_inj] at h2
        omega
      simp [h1, h2, h3]
theorem own_h_LESS_THAN (o : Int32) : own_holds o (1 : Int32) (0 : Int32) (0 : Int32) = if o < 0 then (1 : Int32) else (0 : Int32) := by
  have e0 : (0 : Int32).toInt = 0 := rfl
  unfold own_holds
  by_cases h1 : o < 0
  · have h2 : ¬ o = 0 := fun q => by rw [q] at h1; exact absurd h1 (by decide)
    have h3 : ¬ 0 < o := fun q => by rw [Int32.lt_iff_toInt_lt] at h1 q; omega
    simp [h1, h2, h3]
  · by_cases h2 : o = 0
    · subst h2; decide
    · have h3 : 0 < o := by
        rw [Int32.lt_iff_toInt_lt] at h1 ⊢
        rw [← Int32.toInt_inj] at h2
        omega
      simp [h1, h2, h3]
theorem own_h_LESS_THAN_OR_EQUAL (o : Int32) : own_holds o (1 : Int32) (1 : Int32) (0 : Int32) = if 0 < o then (0 : Int32) else (1 : Int32) := by
  have e0 : (0 : Int32).toInt = 0 := rfl
  unfold own_holds
  by_cases h1 : o < 0
  · have h2 : ¬ o = 0 := fun q => by rw [q] at h1; exact absurd h1 (by decide)
    have h3 : ¬ 0 < o := fun q => by rw [Int32.lt_iff_toInt_lt] at h1 q; omega
    simp [h1, h2, h3]
  · by_cases h2 : o = 0
    · subst h2; decide
    · have h3 : 0 < o := by
        rw [Int32.lt_iff_toInt_lt] at h1 ⊢
        rw [← Int32.toInt_inj] at h2
        omega
      simp [h1, h2, h3]
theorem own_h_GREATER_THAN (o : Int32) : own_holds o (0 : Int32) (0 : Int32) (1 : Int32) = if 0 < o then (1 : Int32) else (0 : Int32) := by
  have e0 : (0 : Int32).toInt = 0 := rfl
  unfold own_holds
  by_cases h1 : o < 0
  · have h2 : ¬ o = 0 := fun q => by rw [q] at h1; exact absurd h1 (by decide)
    have h3 : ¬ 0 < o := fun q => by rw [Int32.lt_iff_toInt_lt] at h1 q; omega
    simp [h1, h2, h3]
  · by_cases h2 : o = 0
    · subst h2; decide
    · have h3 : 0 < o := by
        rw [Int32.lt_iff_toInt_lt] at h1 ⊢
        rw [← Int32.toInt_inj] at h2
        omega
      simp [h1, h2, h3]
theorem own_h_GREATER_THAN_OR_EQUAL (o : Int32) : own_holds o (0 : Int32) (1 : Int32) (1 : Int32) = if o < 0 then (0 : Int32) else (1 : Int32) := by
  have e0 : (0 : Int32).toInt = 0 := rfl
  unfold own_holds
  by_cases h1 : o < 0
  · have h2 : ¬ o = 0 := fun q => by rw [q] at h1; exact absurd h1 (by decide)
    have h3 : ¬ 0 < o := fun q => by rw [Int32.lt_iff_toInt_lt] at h1 q; omega
    simp [h1, h2, h3]
  · by_cases h2 : o = 0
    · subst h2; decide
    · have h3 : 0 < o := by
        rw [Int32.lt_iff_toInt_lt] at h1 ⊢
        rw [← Int32.toInt_inj] at h2
        omega
      simp [h1, h2, h3]
theorem d1_0 : decode prog_92_method_5_code 0 = .ok (.iload_n 1, 1) := by decide +kernel
theorem d1_1 : decode prog_92_method_5_code 1 = .ok (.ifCond .ge 11, 3) := by decide +kernel
theorem d1_4 : decode prog_92_method_5_code 4 = .ok (.aload_n 0, 1) := by decide +kernel
theorem d1_5 : decode prog_92_method_5_code 5 = .ok (.getfield 45, 3) := by decide +kernel
theorem d1_8 : decode prog_92_method_5_code 8 = .ok (.istore_n 2, 1) := by decide +kernel
theorem d1_9 : decode prog_92_method_5_code 9 = .ok (.goto 20, 3) := by decide +kernel
theorem d1_29 : decode prog_92_method_5_code 29 = .ok (.iload_n 2, 1) := by decide +kernel
theorem d1_30 : decode prog_92_method_5_code 30 = .ok (.ireturn, 1) := by decide +kernel
theorem d1_12 : decode prog_92_method_5_code 12 = .ok (.iload_n 1, 1) := by decide +kernel
theorem d1_13 : decode prog_92_method_5_code 13 = .ok (.ifCond .ne 11, 3) := by decide +kernel
theorem d1_16 : decode prog_92_method_5_code 16 = .ok (.aload_n 0, 1) := by decide +kernel
theorem d1_17 : decode prog_92_method_5_code 17 = .ok (.getfield 49, 3) := by decide +kernel
theorem d1_20 : decode prog_92_method_5_code 20 = .ok (.istore_n 2, 1) := by decide +kernel
theorem d1_21 : decode prog_92_method_5_code 21 = .ok (.goto 8, 3) := by decide +kernel
theorem d1_24 : decode prog_92_method_5_code 24 = .ok (.aload_n 0, 1) := by decide +kernel
theorem d1_25 : decode prog_92_method_5_code 25 = .ok (.getfield 52, 3) := by decide +kernel
theorem d1_28 : decode prog_92_method_5_code 28 = .ok (.istore_n 2, 1) := by decide +kernel
theorem pn_com_example_coordinator_coordinator_control_Qualifier_Operator : plainName "com/example/coordinator/coordinator/control/Qualifier$Operator" = true := by first | (simp [plainName, overriddenIn]; done) | decide +kernel
theorem ef1 (m : MethodId) (x0 : Addr) (x1 : Int32) : entryFrame m #[(.ref x0), (.int x1)] 3 = mkF m 0 #[.val (.ref x0), .val (.int x1), .unset] [] := by first | (simp [entryFrame, mkF, argsToLocals, Value.category]; done) | rfl
def Q1 (Z : State) (r : Addr) (o : Int32) (vl : Int32) (ve : Int32) (vg : Int32) (h0 : Heap) (n0 : Nat) (v : Option Value) (h : Heap) (L : List Loc) : Prop := v = some (.int (own_holds o vl ve vg)) ∧ Fr n0 L ∧ h = h0
set_option maxRecDepth 65536 in
set_option maxHeartbeats 40000000 in
theorem rm1 (l : Launch) (Z : State) (a0 : Array Value) (hw : ∀ d ∈ tables_1, d.before a0 Z = true) (ws : List Jvm.Cond) (r : Addr) (o : Int32) (vl : Int32) (ve : Int32) (vg : Int32) (h0 : Heap) (n0 : Nat) (Z0 : n0 ≤ h0.size) (O0 : Old Z n0 h0) (FwhenLess : Fld Z Z.heap r "com/example/coordinator/coordinator/control/Qualifier$Operator" "whenLess" "Z" (.int vl)) (FwhenEqual : Fld Z Z.heap r "com/example/coordinator/coordinator/control/Qualifier$Operator" "whenEqual" "Z" (.int ve)) (FwhenGreater : Fld Z Z.heap r "com/example/coordinator/coordinator/control/Qualifier$Operator" "whenGreater" "Z" (.int vg)) (bvl : narrow .boolean (.int vl) = .int vl) (bve : narrow .boolean (.int ve) = .int ve) (bvg : narrow .boolean (.int vg) = .int vg) :
    MetFree l (⟨"com/example/coordinator/coordinator/control/Qualifier$Operator", "holds", "(I)Z"⟩ : MethodName) (head1 (Jvm.Cond.code (⟨"com/example/coordinator/coordinator/control/Qualifier$Operator", "holds", "(I)Z"⟩ : MethodName) prog_92_method_5_code 3 ((Option.some FieldType.boolean)) :: ws) ({ frames := 0, cells := 0, slots := 0, locals := 0 } : Room)) (fun a U => a = #[(.ref r), (.int o)] ∧ Z.Warmed39 U.vm ∧ U.heap = h0) (fun _ _ _ _ _ => True) (fun _ U ou U' => ∃ v L, ou = .returned v ∧ Q1 Z r o vl ve vg h0 n0 v U'.heap L ∧ FrameEnd U ou U' L ({ frames := 0, cells := 0, slots := 0, locals := 0 } : Room).cells ({ frames := 0, cells := 0, slots := 0, locals := 0 } : Room).slots) := by
  refine MetFree.of_bodySF (plainFor_of_name pn_com_example_coordinator_coordinator_control_Qualifier_Operator) hisR ?_
  intro pg e s m args below meth c s₁ Bd hml0 hP hK
  obtain ⟨rfl, hZ, hh⟩ := hP
  have hx := Bd.exec
  have hby := Bd.bytes
  have hml : c.maxLocals = 3 := hml0
  have hown : s.vm.findClass "com/example/coordinator/coordinator/control/Qualifier$Operator" = some m.cls := findClass_of_methodNamed Bd.named
  have hnm := (name_of_methodNamed Bd.named Bd.method).1
  have X0 : Stand pg l e ({ frames := 0, cells := 0, slots := 0, locals := 0 } : Room) s m #[(.ref r), (.int o)] below meth c s₁ [] 0 0 := Stand.of_body Bd
  have e0 : s₁.heap = h0 := by rw [← hh, Bd.state]; rfl
  have N0 := Fr.nil n0
  show own_Go pg.tables e below (fun ou U' => ∃ v L, ou = .returned v ∧ Q1 Z r o vl ve vg h0 n0 v U'.heap L ∧ FrameEnd s ou U' L ({ frames := 0, cells := 0, slots := 0, locals := 0 } : Room).cells ({ frames := 0, cells := 0, slots := 0, locals := 0 } : Room).slots) (s₁.setTop (entryFrame m #[(.ref r), (.int o)] 3))
  refine own_go (S' := s₁.setTop (mkF m 0 #[.val (.ref r), .val (.int o), .unset] [])) (fun tg kk => castTop (ef1 m r o) kk) ?_
  refine own_go (S' := s₁.setTop (mkF m 1 #[.val (.ref r), .val (.int o), .unset] [(.int o)])) (fun tg kk => XS.iloadN X0.here hx rfl (hb hby d1_0) rfl kk) ?_
  by_cases c1 : o < 0
  · refine own_go (S' := s₁.setTop (mkF m 4 #[.val (.ref r), .val (.int o), .unset] [])) (fun tg kk => XS.ifNo X0.here hx rfl (hb hby d1_1) rfl (XT.i0_ge_f c1) kk) ?_
    refine own_go (S' := s₁.setTop (mkF m 5 #[.val (.ref r), .val (.int o), .unset] [(.ref r)])) (fun tg kk => XS.aloadN X0.here hx rfl (hb hby d1_4) rfl rfl kk) ?_
    obtain ⟨T2, X2, e2, st2⟩ := getF X0 hx hZ hown (host := "") (Or.inl (hw _ (List.mem_of_getElem? (i := 13) rfl))) Via.refl e0 (FwhenLess.ext O0.2) (g := (mkF m 5 #[.val (.ref r), .val (.int o), .unset] [(.ref r)])) rfl rfl (hb hby d1_5)
    refine own_go (S' := T2.setTop (mkF m 8 #[.val (.ref r), .val (.int o), .unset] [(.int vl)])) (st2) ?_
    refine own_go (S' := T2.setTop (mkF m 9 #[.val (.ref r), .val (.int o), .val (.int vl)] [])) (fun tg kk => XS.istoreN X2.here hx rfl (hb hby d1_8) rfl (l' := #[.val (.ref r), .val (.int o), .val (.int vl)]) rfl kk) ?_
    refine own_go (S' := T2.setTop (mkF m 29 #[.val (.ref r), .val (.int o), .val (.int vl)] [])) (fun tg kk => XS.goto X2.here hx rfl (pc0 := 9) (pc' := 29) rfl (hb hby d1_9) (by decide) (by decide) kk) ?_
    refine own_go (S' := T2.setTop (mkF m 30 #[.val (.ref r), .val (.int o), .val (.int vl)] [(.int vl)])) (fun tg kk => XS.iloadN X2.here hx rfl (hb hby d1_29) rfl kk) ?_
    obtain ⟨fs, hr, hrun, hended, hW, hsame⟩ := X2.leave (v := some (.int vl)) (fun h => by rw [Bd.returns] at h; cases h)
    refine ⟨_, _, retOut X2 hx (t := .boolean) (i := .ireturn) Bd.returns bvl (Or.inl ⟨rfl, by simp, _, rfl⟩) (hb hby d1_30) hr, hrun, hended, _, _, rfl, ?_, ⟨_, rfl⟩, hW, hsame.mono (by decide) (by decide)⟩
    show Q1 Z r o vl ve vg h0 n0 (some (.int vl)) T2.heap _
    rw [e2]
    exact ⟨by unfold own_holds; rw [if_pos c1], N0, rfl⟩
  · refine own_go (S' := s₁.setTop (mkF m 12 #[.val (.ref r), .val (.int o), .unset] [])) (fun tg kk => XS.ifYes X0.here hx rfl (pc0 := 1) (pc' := 12) rfl (hb hby d1_1) rfl (XT.i0_ge_t c1) (by decide) (by decide) kk) ?_
    refine own_go (S' := s₁.setTop (mkF m 13 #[.val (.ref r), .val (.int o), .unset] [(.int o)])) (fun tg kk => XS.iloadN X0.here hx rfl (hb hby d1_12) rfl kk) ?_
    by_cases c3 : o = 0
    · refine own_go (S' := s₁.setTop (mkF m 16 #[.val (.ref r), .val (.int o), .unset] [])) (fun tg kk => XS.ifNo X0.here hx rfl (hb hby d1_13) rfl (XT.i0_ne_f c3) kk) ?_
      refine own_go (S' := s₁.setTop (mkF m 17 #[.val (.ref r), .val (.int o), .unset] [(.ref r)])) (fun tg kk => XS.aloadN X0.here hx rfl (hb hby d1_16) rfl rfl kk) ?_
      obtain ⟨T4, X4, e4, st4⟩ := getF X0 hx hZ hown (host := "") (Or.inl (hw _ (List.mem_of_getElem? (i := 23) rfl))) Via.refl e0 (FwhenEqual.ext O0.2) (g := (mkF m 17 #[.val (.ref r), .val (.int o), .unset] [(.ref r)])) rfl rfl (hb hby d1_17)
      refine own_go (S' := T4.setTop (mkF m 20 #[.val (.ref r), .val (.int o), .unset] [(.int ve)])) (st4) ?_
      refine own_go (S' := T4.setTop (mkF m 21 #[.val (.ref r), .val (.int o), .val (.int ve)] [])) (fun tg kk => XS.istoreN X4.here hx rfl (hb hby d1_20) rfl (l' := #[.val (.ref r), .val (.int o), .val (.int ve)]) rfl kk) ?_
      refine own_go (S' := T4.setTop (mkF m 29 #[.val (.ref r), .val (.int o), .val (.int ve)] [])) (fun tg kk => XS.goto X4.here hx rfl (pc0 := 21) (pc' := 29) rfl (hb hby d1_21) (by decide) (by decide) kk) ?_
      refine own_go (S' := T4.setTop (mkF m 30 #[.val (.ref r), .val (.int o), .val (.int ve)] [(.int ve)])) (fun tg kk => XS.iloadN X4.here hx rfl (hb hby d1_29) rfl kk) ?_
      obtain ⟨fs, hr, hrun, hended, hW, hsame⟩ := X4.leave (v := some (.int ve)) (fun h => by rw [Bd.returns] at h; cases h)
      refine ⟨_, _, retOut X4 hx (t := .boolean) (i := .ireturn) Bd.returns bve (Or.inl ⟨rfl, by simp, _, rfl⟩) (hb hby d1_30) hr, hrun, hended, _, _, rfl, ?_, ⟨_, rfl⟩, hW, hsame.mono (by decide) (by decide)⟩
      show Q1 Z r o vl ve vg h0 n0 (some (.int ve)) T4.heap _
      rw [e4]
      exact ⟨by unfold own_holds; rw [if_neg c1, if_pos c3], N0, rfl⟩
    · refine own_go (S' := s₁.setTop (mkF m 24 #[.val (.ref r), .val (.int o), .unset] [])) (fun tg kk => XS.ifYes X0.here hx rfl (pc0 := 13) (pc' := 24) rfl (hb hby d1_13) rfl (XT.i0_ne_t c3) (by decide) (by decide) kk) ?_
      refine own_go (S' := s₁.setTop (mkF m 25 #[.val (.ref r), .val (.int o), .unset] [(.ref r)])) (fun tg kk => XS.aloadN X0.here hx rfl (hb hby d1_24) rfl rfl kk) ?_
      obtain ⟨T5, X5, e5, st5⟩ := getF X0 hx hZ hown (host := "") (Or.inl (hw _ (List.mem_of_getElem? (i := 9) rfl))) Via.refl e0 (FwhenGreater.ext O0.2) (g := (mkF m 25 #[.val (.ref r), .val (.int o), .unset] [(.ref r)])) rfl rfl (hb hby d1_25)
      refine own_go (S' := T5.setTop (mkF m 28 #[.val (.ref r), .val (.int o), .unset] [(.int vg)])) (st5) ?_
      refine own_go (S' := T5.setTop (mkF m 29 #[.val (.ref r), .val (.int o), .val (.int vg)] [])) (fun tg kk => XS.istoreN X5.here hx rfl (hb hby d1_28) rfl (l' := #[.val (.ref r), .val (.int o), .val (.int vg)]) rfl kk) ?_
      refine own_go (S' := T5.setTop (mkF m 30 #[.val (.ref r), .val (.int o), .val (.int vg)] [(.int vg)])) (fun tg kk => XS.iloadN X5.here hx rfl (hb hby d1_29) rfl kk) ?_
      obtain ⟨fs, hr, hrun, hended, hW, hsame⟩ := X5.leave (v := some (.int vg)) (fun h => by rw [Bd.returns] at h; cases h)
      refine ⟨_, _, retOut X5 hx (t := .boolean) (i := .ireturn) Bd.returns bvg (Or.inl ⟨rfl, by simp, _, rfl⟩) (hb hby d1_30) hr, hrun, hended, _, _, rfl, ?_, ⟨_, rfl⟩, hW, hsame.mono (by decide) (by decide)⟩
      show Q1 Z r o vl ve vg h0 n0 (some (.int vg)) T5.heap _
      rw [e5]
      exact ⟨by unfold own_holds; rw [if_neg c1, if_neg c3], N0, rfl⟩
theorem pd__I_Z : parseMethodDescriptor "(I)Z" = some ⟨[.int], some .boolean⟩ := by decide +kernel
theorem pn_com_example_coordinator_coordinator_control_OperatorHoldsPinLaw : plainName "com/example/coordinator/coordinator/control/OperatorHoldsPinLaw" = true := by first | (simp [plainName, overriddenIn]; done) | decide +kernel
theorem ef0 (m : MethodId) (x0 : Int32) (x1 : Int32) : entryFrame m #[(.int x0), (.int x1)] maxLocals = mkF m 0 #[.val (.int x0), .val (.int x1), .unset, .unset, .unset] [] := by first | (simp [entryFrame, mkF, argsToLocals, Value.category, maxLocals]; done) | rfl
def Q0 (Z : State) (p1 : Int32) (p2 : Int32) (s0 : Addr) (s1 : Addr) (s2 : Addr) (s3 : Addr) (s4 : Addr) (s5 : Addr) (h0 : Heap) (n0 : Nat) (v : Option Value) (h : Heap) (L : List Loc) : Prop := v = some (.int 1) ∧ Fr n0 L
set_option maxRecDepth 65536 in
set_option maxHeartbeats 40000000 in
theorem rm0 (l : Launch) (Z : State) (a0 : Array Value) (hw : ∀ d ∈ tables_1, d.before a0 Z = true) (ws : List Jvm.Cond) (p1 : Int32) (p2 : Int32) (s0 : Addr) (s1 : Addr) (s2 : Addr) (s3 : Addr) (s4 : Addr) (s5 : Addr) (h0 : Heap) (n0 : Nat) (Z0 : n0 ≤ h0.size) (O0 : Old Z n0 h0) (S_EQUAL : Sta Z Z.heap "com/example/coordinator/coordinator/control/Qualifier$Operator" "EQUAL" "Lcom/example/coordinator/coordinator/control/Qualifier$Operator;" (.ref s0)) (S_NOT_EQUAL : Sta Z Z.heap "com/example/coordinator/coordinator/control/Qualifier$Operator" "NOT_EQUAL" "Lcom/example/coordinator/coordinator/control/Qualifier$Operator;" (.ref s1)) (S_LESS_THAN : Sta Z Z.heap "com/example/coordinator/coordinator/control/Qualifier$Operator" "LESS_THAN" "Lcom/example/coordinator/coordinator/control/Qualifier$Operator;" (.ref s2)) (S_LESS_THAN_OR_EQUAL : Sta Z Z.heap "com/example/coordinator/coordinator/control/Qualifier$Operator" "LESS_THAN_OR_EQUAL" "Lcom/example/coordinator/coordinator/control/Qualifier$Operator;" (.ref s3)) (S_GREATER_THAN : Sta Z Z.heap "com/example/coordinator/coordinator/control/Qualifier$Operator" "GREATER_THAN" "Lcom/example/coordinator/coordinator/control/Qualifier$Operator;" (.ref s4)) (S_GREATER_THAN_OR_EQUAL : Sta Z Z.heap "com/example/coordinator/coordinator/control/Qualifier$Operator" "GREATER_THAN_OR_EQUAL" "Lcom/example/coordinator/coordinator/control/Qualifier$Operator;" (.ref s5)) (E_EQUAL : Exa Z Z.heap s0 "com/example/coordinator/coordinator/control/Qualifier$Operator") (E_NOT_EQUAL : Exa Z Z.heap s1 "com/example/coordinator/coordinator/control/Qualifier$Operator") (E_LESS_THAN : Exa Z Z.heap s2 "com/example/coordinator/coordinator/control/Qualifier$Operator") (E_LESS_THAN_OR_EQUAL : Exa Z Z.heap s3 "com/example/coordinator/coordinator/control/Qualifier$Operator") (E_GREATER_THAN : Exa Z Z.heap s4 "com/example/coordinator/coordinator/control/Qualifier$Operator") (E_GREATER_THAN_OR_EQUAL : Exa Z Z.heap s5 "com/example/coordinator/coordinator/control/Qualifier$Operator") (F_EQUAL_whenLess : Fld Z Z.heap s0 "com/example/coordinator/coordinator/control/Qualifier$Operator" "whenLess" "Z" (.int (0 : Int32))) (F_EQUAL_whenEqual : Fld Z Z.heap s0 "com/example/coordinator/coordinator/control/Qualifier$Operator" "whenEqual" "Z" (.int (1 : Int32))) (F_EQUAL_whenGreater : Fld Z Z.heap s0 "com/example/coordinator/coordinator/control/Qualifier$Operator" "whenGreater" "Z" (.int (0 : Int32))) (F_NOT_EQUAL_whenLess : Fld Z Z.heap s1 "com/example/coordinator/coordinator/control/Qualifier$Operator" "whenLess" "Z" (.int (1 : Int32))) (F_NOT_EQUAL_whenEqual : Fld Z Z.heap s1 "com/example/coordinator/coordinator/control/Qualifier$Operator" "whenEqual" "Z" (.int (0 : Int32))) (F_NOT_EQUAL_whenGreater : Fld Z Z.heap s1 "com/example/coordinator/coordinator/control/Qualifier$Operator" "whenGreater" "Z" (.int (1 : Int32))) (F_LESS_THAN_whenLess : Fld Z Z.heap s2 "com/example/coordinator/coordinator/control/Qualifier$Operator" "whenLess" "Z" (.int (1 : Int32))) (F_LESS_THAN_whenEqual : Fld Z Z.heap s2 "com/example/coordinator/coordinator/control/Qualifier$Operator" "whenEqual" "Z" (.int (0 : Int32))) (F_LESS_THAN_whenGreater : Fld Z Z.heap s2 "com/example/coordinator/coordinator/control/Qualifier$Operator" "whenGreater" "Z" (.int (0 : Int32))) (F_LESS_THAN_OR_EQUAL_whenLess : Fld Z Z.heap s3 "com/example/coordinator/coordinator/control/Qualifier$Operator" "whenLess" "Z" (.int (1 : Int32))) (F_LESS_THAN_OR_EQUAL_whenEqual : Fld Z Z.heap s3 "com/example/coordinator/coordinator/control/Qualifier$Operator" "whenEqual" "Z" (.int (1 : Int32))) (F_LESS_THAN_OR_EQUAL_whenGreater : Fld Z Z.heap s3 "com/example/coordinator/coordinator/control/Qualifier$Operator" "whenGreater" "Z" (.int (0 : Int32))) (F_GREATER_THAN_whenLess : Fld Z Z.heap s4 "com/example/coordinator/coordinator/control/Qualifier$Operator" "whenLess" "Z" (.int (0 : Int32))) (F_GREATER_THAN_whenEqual : Fld Z Z.heap s4 "com/example/coordinator/coordinator/control/Qualifier$Operator" "whenEqual" "Z" (.int (0 : Int32))) (F_GREATER_THAN_whenGreater : Fld Z Z.heap s4 "com/example/coordinator/coordinator/control/Qualifier$Operator" "whenGreater" "Z" (.int (1 : Int32))) (F_GREATER_THAN_OR_EQUAL_whenLess : Fld Z Z.heap s5 "com/example/coordinator/coordinator/control/Qualifier$Operator" "whenLess" "Z" (.int (0 : Int32))) (F_GREATER_THAN_OR_EQUAL_whenEqual : Fld Z Z.heap s5 "com/example/coordinator/coordinator/control/Qualifier$Operator" "whenEqual" "Z" (.int (1 : Int32))) (F_GREATER_THAN_OR_EQUAL_whenGreater : Fld Z Z.heap s5 "com/example/coordinator/coordinator/control/Qualifier$Operator" "whenGreater" "Z" (.int (1 : Int32))) :
    MetFree l x (head1 (Jvm.Cond.code x code maxLocals ret :: ws) room_1) (fun a U => a = #[(.int p1), (.int p2)] ∧ Z.Warmed39 U.vm ∧ U.heap = h0) (fun _ _ _ _ _ => True) (fun _ U ou U' => ∃ v L, ou = .returned v ∧ Q0 Z p1 p2 s0 s1 s2 s3 s4 s5 h0 n0 v U'.heap L ∧ FrameEnd U ou U' L room_1.cells room_1.slots) := by
  refine MetFree.of_bodySF (plainFor_of_name pn_com_example_coordinator_coordinator_control_OperatorHoldsPinLaw) hisR ?_
  intro pg e s m args below meth c s₁ Bd hml0 hP hK
  obtain ⟨rfl, hZ, hh⟩ := hP
  have hx := Bd.exec
  have hby := Bd.bytes
  have hml : c.maxLocals = 5 := hml0
  have hown : s.vm.findClass "com/example/coordinator/coordinator/control/OperatorHoldsPinLaw" = some m.cls := findClass_of_methodNamed Bd.named
  have hnm := (name_of_methodNamed Bd.named Bd.method).1
  have X0 : Stand pg l e room_1 s m #[(.int p1), (.int p2)] below meth c s₁ [] 0 0 := Stand.of_body Bd
  have e0 : s₁.heap = h0 := by rw [← hh, Bd.state]; rfl
  have N0 := Fr.nil n0
  show own_Go pg.tables e below (fun ou U' => ∃ v L, ou = .returned v ∧ Q0 Z p1 p2 s0 s1 s2 s3 s4 s5 h0 n0 v U'.heap L ∧ FrameEnd s ou U' L room_1.cells room_1.slots) (s₁.setTop (entryFrame m #[(.int p1), (.int p2)] maxLocals))
  refine own_go (S' := s₁.setTop (mkF m 0 #[.val (.int p1), .val (.int p2), .unset, .unset, .unset] [])) (fun tg kk => castTop (ef0 m p1 p2) kk) ?_
  refine own_go (S' := s₁.setTop (mkF m 1 #[.val (.int p1), .val (.int p2), .unset, .unset, .unset] [(.int p1)])) (fun tg kk => XS.iloadN X0.here hx rfl (hb hby at_0) rfl kk) ?_
  refine own_go (S' := s₁.setTop (mkF m 3 #[.val (.int p1), .val (.int p2), .unset, .unset, .unset] [(.int (2147483647 : Int32)), (.int p1)])) (fun tg kk => Stand.ldcI X0 hx (v := (2147483647 : Int32)) hown (mvT hZ (hw _ (List.mem_of_getElem? (i := 0) rfl))) rfl (hb hby at_1) kk) ?_
  refine own_go (S' := s₁.setTop (mkF m 4 #[.val (.int p1), .val (.int p2), .unset, .unset, .unset] [(.int (p1 &&& (2147483647 : Int32)))])) (fun tg kk => XS.iand X0.here hx rfl (hb hby at_3) rfl kk) ?_
  refine own_go (S' := s₁.setTop (mkF m 6 #[.val (.int p1), .val (.int p2), .unset, .unset, .unset] [(.int (6 : Int32)), (.int (p1 &&& (2147483647 : Int32)))])) (fun tg kk => XT.bipushV X0.here hx rfl (6 : Int32) (hb hby at_4) (by decide) kk) ?_
  refine own_go (S' := s₁.setTop (mkF m 7 #[.val (.int p1), .val (.int p2), .unset, .unset, .unset] [(.int ((p1 &&& (2147483647 : Int32)) % (6 : Int32)))])) (fun tg kk => iremM X0 hx rfl (hb hby at_6) rfl (by decide) kk) ?_
  refine own_go (S' := s₁.setTop (mkF m 8 #[.val (.int p1), .val (.int p2), .val (.int ((p1 &&& (2147483647 : Int32)) % (6 : Int32))), .unset, .unset] [])) (fun tg kk => XS.istoreN X0.here hx rfl (hb hby at_7) rfl (l' := #[.val (.int p1), .val (.int p2), .val (.int ((p1 &&& (2147483647 : Int32)) % (6 : Int32))), .unset, .unset]) rfl kk) ?_
  refine own_go (S' := s₁.setTop (mkF m 9 #[.val (.int p1), .val (.int p2), .val (.int ((p1 &&& (2147483647 : Int32)) % (6 : Int32))), .unset, .unset] [(.int ((p1 &&& (2147483647 : Int32)) % (6 : Int32)))])) (fun tg kk => XS.iloadN X0.here hx rfl (hb hby at_8) rfl kk) ?_
  by_cases c1 : ((p1 &&& (2147483647 : Int32)) % (6 : Int32)) = 0
  · refine own_go (S' := s₁.setTop (mkF m 12 #[.val (.int p1), .val (.int p2), .val (.int ((p1 &&& (2147483647 : Int32)) % (6 : Int32))), .unset, .unset] [])) (fun tg kk => XS.ifNo X0.here hx rfl (hb hby at_9) rfl (XT.i0_ne_f c1) kk) ?_
    obtain ⟨T2, X2, e2, st2⟩ := getS (host := "") X0 hx hZ hown (hw _ (List.mem_of_getElem? (i := 1) rfl)) Via.refl e0 (S_EQUAL.ext O0.2) (g := (mkF m 12 #[.val (.int p1), .val (.int p2), .val (.int ((p1 &&& (2147483647 : Int32)) % (6 : Int32))), .unset, .unset] [])) rfl (hb hby at_12)
    refine own_go (S' := T2.setTop (mkF m 15 #[.val (.int p1), .val (.int p2), .val (.int ((p1 &&& (2147483647 : Int32)) % (6 : Int32))), .unset, .unset] [(.ref s0)])) (st2) ?_
    refine own_go (S' := T2.setTop (mkF m 16 #[.val (.int p1), .val (.int p2), .val (.int ((p1 &&& (2147483647 : Int32)) % (6 : Int32))), .val (.ref s0), .unset] [])) (fun tg kk => XS.astoreN X2.here hx rfl (hb hby at_15) rfl rfl (l' := #[.val (.int p1), .val (.int p2), .val (.int ((p1 &&& (2147483647 : Int32)) % (6 : Int32))), .val (.ref s0), .unset]) rfl kk) ?_
    refine own_go (S' := T2.setTop (mkF m 17 #[.val (.int p1), .val (.int p2), .val (.int ((p1 &&& (2147483647 : Int32)) % (6 : Int32))), .val (.ref s0), .unset] [(.int p2)])) (fun tg kk => XS.iloadN X2.here hx rfl (hb hby at_16) rfl kk) ?_
    by_cases c3 : p2 = 0
    · refine own_go (S' := T2.setTop (mkF m 20 #[.val (.int p1), .val (.int p2), .val (.int ((p1 &&& (2147483647 : Int32)) % (6 : Int32))), .val (.ref s0), .unset] [])) (fun tg kk => XS.ifNo X2.here hx rfl (hb hby at_17) rfl (XT.i0_ne_f c3) kk) ?_
      refine own_go (S' := T2.setTop (mkF m 21 #[.val (.int p1), .val (.int p2), .val (.int ((p1 &&& (2147483647 : Int32)) % (6 : Int32))), .val (.ref s0), .unset] [(.int (1 : Int32))])) (fun tg kk => XT.iconstV X2.here hx rfl (1 : Int32) (hb hby at_20) (by decide) kk) ?_
      refine own_go (S' := T2.setTop (mkF m 25 #[.val (.int p1), .val (.int p2), .val (.int ((p1 &&& (2147483647 : Int32)) % (6 : Int32))), .val (.ref s0), .unset] [(.int (1 : Int32))])) (fun tg kk => XS.goto X2.here hx rfl (pc0 := 21) (pc' := 25) rfl (hb hby at_21) (by decide) (by decide) kk) ?_
      refine own_go (S' := T2.setTop (mkF m 27 #[.val (.int p1), .val (.int p2), .val (.int ((p1 &&& (2147483647 : Int32)) % (6 : Int32))), .val (.ref s0), .val (.int (1 : Int32))] [])) (fun tg kk => XS.istore X2.here hx rfl (hb hby at_25) rfl (l' := #[.val (.int p1), .val (.int p2), .val (.int ((p1 &&& (2147483647 : Int32)) % (6 : Int32))), .val (.ref s0), .val (.int (1 : Int32))]) rfl kk) ?_
      refine own_go (S' := T2.setTop (mkF m 137 #[.val (.int p1), .val (.int p2), .val (.int ((p1 &&& (2147483647 : Int32)) % (6 : Int32))), .val (.ref s0), .val (.int (1 : Int32))] [])) (fun tg kk => XS.goto X2.here hx rfl (pc0 := 27) (pc' := 137) rfl (hb hby at_27) (by decide) (by decide) kk) ?_
      refine own_go (S' := T2.setTop (mkF m 138 #[.val (.int p1), .val (.int p2), .val (.int ((p1 &&& (2147483647 : Int32)) % (6 : Int32))), .val (.ref s0), .val (.int (1 : Int32))] [(.ref s0)])) (fun tg kk => XS.aloadN X2.here hx rfl (hb hby at_137) rfl rfl kk) ?_
      refine own_go (S' := T2.setTop (mkF m 139 #[.val (.int p1), .val (.int p2), .val (.int ((p1 &&& (2147483647 : Int32)) % (6 : Int32))), .val (.ref s0), .val (.int (1 : Int32))] [(.int p2), (.ref s0)])) (fun tg kk => XS.iloadN X2.here hx rfl (hb hby at_138) rfl kk) ?_
      obtain ⟨cq4, kq4, qa4, qb4, qc4⟩ := isOf hZ e2 (E_EQUAL.ext O0.2)
      obtain ⟨v4, _, ⟨T4, L4, k4, n4⟩, -, X4, ⟨Lc4, hQ4, l4, y4, z4⟩, st4⟩ := X2.virtualBack hx (y := (⟨"com/example/coordinator/coordinator/control/Qualifier$Operator", "holds", "(I)Z"⟩ : MethodName)) (z := (⟨"com/example/coordinator/coordinator/control/Qualifier$Operator", "holds", "(I)Z"⟩ : MethodName)) hown (mvT hZ (hw _ (List.mem_of_getElem? (i := 4) rfl))) (mvT hZ (hw _ (List.mem_of_getElem? (i := 5) rfl))) (notFace_of_selects (args := #[]) (mvT hZ (hw _ (List.mem_of_getElem? (i := 7) rfl)))) (mvT hZ (hw _ (List.mem_of_getElem? (i := 7) rfl))) (mvT hZ (hw _ (List.mem_of_getElem? (i := 6) rfl))) (by decide) (backOf (W := 0) (rm1 l Z a0 hw [] s0 p2 (0 : Int32) (1 : Int32) (0 : Int32) h0 n0 Z0 O0 F_EQUAL_whenLess F_EQUAL_whenEqual F_EQUAL_whenGreater rfl rfl rfl) hZ (hw _ (List.mem_of_getElem? (i := 8) rfl)) (hw _ (List.mem_of_getElem? (i := 2) rfl)) (by decide) (by decide)) qa4 qc4 (g := (mkF m 139 #[.val (.int p1), .val (.int p2), .val (.int ((p1 &&& (2147483647 : Int32)) % (6 : Int32))), .val (.ref s0), .val (.int (1 : Int32))] [(.int p2), (.ref s0)])) rfl (by rw [hml]; rfl) (Steps.refl _) (argsL := [(.int p2)]) (rest := []) (lenOf pd__I_Z rfl) rfl (by show 2 * 0 + _ ≤ _; exact Nat.le_of_eq rfl) (hb hby at_139) (fun _ _ => ⟨rfl, e2, (by decide : 0 + 0 ≤ _), (by decide : 0 + 0 ≤ _)⟩)
      dsimp only [Pt.U, Pt.locs, Pt.cells, Pt.slots] at X4 l4 y4 z4 st4 hQ4
      subst l4 y4 z4
      obtain ⟨hv4, M5, e4⟩ := hQ4
      obtain rfl : v4 = some (.int (1 : Int32)) := by rw [hv4]; rw [own_h_EQUAL, if_pos c3]
      have N5 := Fr.app N0 M5
      refine own_to (S' := T4.setTop (mkF m 142 #[.val (.int p1), .val (.int p2), .val (.int ((p1 &&& (2147483647 : Int32)) % (6 : Int32))), .val (.ref s0), .val (.int (1 : Int32))] [(.int (1 : Int32))])) st4 ?_
      refine own_go (S' := T4.setTop (mkF m 144 #[.val (.int p1), .val (.int p2), .val (.int ((p1 &&& (2147483647 : Int32)) % (6 : Int32))), .val (.ref s0), .val (.int (1 : Int32))] [(.int (1 : Int32)), (.int (1 : Int32))])) (fun tg kk => XS.iload X4.here hx rfl (hb hby at_142) rfl kk) ?_
      refine own_go (S' := T4.setTop (mkF m 147 #[.val (.int p1), .val (.int p2), .val (.int ((p1 &&& (2147483647 : Int32)) % (6 : Int32))), .val (.ref s0), .val (.int (1 : Int32))] [])) (fun tg kk => XS.icmpNo X4.here hx rfl (hb hby at_144) rfl (XT.ii_ne_f (by decide)) kk) ?_
      refine own_go (S' := T4.setTop (mkF m 148 #[.val (.int p1), .val (.int p2), .val (.int ((p1 &&& (2147483647 : Int32)) % (6 : Int32))), .val (.ref s0), .val (.int (1 : Int32))] [(.int (1 : Int32))])) (fun tg kk => XT.iconstV X4.here hx rfl (1 : Int32) (hb hby at_147) (by decide) kk) ?_
      refine own_go (S' := T4.setTop (mkF m 152 #[.val (.int p1), .val (.int p2), .val (.int ((p1 &&& (2147483647 : Int32)) % (6 : Int32))), .val (.ref s0), .val (.int (1 : Int32))] [(.int (1 : Int32))])) (fun tg kk => XS.goto X4.here hx rfl (pc0 := 148) (pc' := 152) rfl (hb hby at_148) (by decide) (by decide) kk) ?_
      obtain ⟨fs, hr, hrun, hended, hW, hsame⟩ := X4.leave (v := some (.int (1 : Int32))) (fun h => by rw [Bd.returns] at h; cases h)
      refine ⟨_, _, retN X4 hx (t := .boolean) Bd.returns (by simp) (hb hby at_152) hr, hrun, hended, _, _, rfl, ?_, ⟨_, rfl⟩, hW, hsame.mono (by decide) (by decide)⟩
      show Q0 Z p1 p2 s0 s1 s2 s3 s4 s5 h0 n0 (some (.int (1 : Int32))) T4.heap _
      rw [e4]
      exact ⟨rfl, N5⟩
    · refine own_go (S' := T2.setTop (mkF m 24 #[.val (.int p1), .val (.int p2), .val (.int ((p1 &&& (2147483647 : Int32)) % (6 : Int32))), .val (.ref s0), .unset] [])) (fun tg kk => XS.ifYes X2.here hx rfl (pc0 := 17) (pc' := 24) rfl (hb hby at_17) rfl (XT.i0_ne_t c3) (by decide) (by decide) kk) ?_
      refine own_go (S' := T2.setTop (mkF m 25 #[.val (.int p1), .val (.int p2), .val (.int ((p1 &&& (2147483647 : Int32)) % (6 : Int32))), .val (.ref s0), .unset] [(.int (0 : Int32))])) (fun tg kk => XT.iconstV X2.here hx rfl (0 : Int32) (hb hby at_24) (by decide) kk) ?_
      refine own_go (S' := T2.setTop (mkF m 27 #[.val (.int p1), .val (.int p2), .val (.int ((p1 &&& (2147483647 : Int32)) % (6 : Int32))), .val (.ref s0), .val (.int (0 : Int32))] [])) (fun tg kk => XS.istore X2.here hx rfl (hb hby at_25) rfl (l' := #[.val (.int p1), .val (.int p2), .val (.int ((p1 &&& (2147483647 : Int32)) % (6 : Int32))), .val (.ref s0), .val (.int (0 : Int32))]) rfl kk) ?_
      refine own_go (S' := T2.setTop (mkF m 137 #[.val (.int p1), .val (.int p2), .val (.int ((p1 &&& (2147483647 : Int32)) % (6 : Int32))), .val (.ref s0), .val (.int (0 : Int32))] [])) (fun tg kk => XS.goto X2.here hx rfl (pc0 := 27) (pc' := 137) rfl (hb hby at_27) (by decide) (by decide) kk) ?_
      refine own_go (S' := T2.setTop (mkF m 138 #[.val (.int p1), .val (.int p2), .val (.int ((p1 &&& (2147483647 : Int32)) % (6 : Int32))), .val (.ref s0), .val (.int (0 : Int32))] [(.ref s0)])) (fun tg kk => XS.aloadN X2.here hx rfl (hb hby at_137) rfl rfl kk) ?_
      refine own_go (S' := T2.setTop (mkF m 139 #[.val (.int p1), .val (.int p2), .val (.int ((p1 &&& (2147483647 : Int32)) % (6 : Int32))), .val (.ref s0), .val (.int (0 : Int32))] [(.int p2), (.ref s0)])) (fun tg kk => XS.iloadN X2.here hx rfl (hb hby at_138) rfl kk) ?_
      obtain ⟨cq6, kq6, qa6, qb6, qc6⟩ := isOf hZ e2 (E_EQUAL.ext O0.2)
      obtain ⟨v6, _, ⟨T6, L6, k6, n6⟩, -, X6, ⟨Lc6, hQ6, l6, y6, z6⟩, st6⟩ := X2.virtualBack hx (y := (⟨"com/example/coordinator/coordinator/control/Qualifier$Operator", "holds", "(I)Z"⟩ : MethodName)) (z := (⟨"com/example/coordinator/coordinator/control/Qualifier$Operator", "holds", "(I)Z"⟩ : MethodName)) hown (mvT hZ (hw _ (List.mem_of_getElem? (i := 4) rfl))) (mvT hZ (hw _ (List.mem_of_getElem? (i := 5) rfl))) (notFace_of_selects (args := #[]) (mvT hZ (hw _ (List.mem_of_getElem? (i := 7) rfl)))) (mvT hZ (hw _ (List.mem_of_getElem? (i := 7) rfl))) (mvT hZ (hw _ (List.mem_of_getElem? (i := 6) rfl))) (by decide) (backOf (W := 0) (rm1 l Z a0 hw [] s0 p2 (0 : Int32) (1 : Int32) (0 : Int32) h0 n0 Z0 O0 F_EQUAL_whenLess F_EQUAL_whenEqual F_EQUAL_whenGreater rfl rfl rfl) hZ (hw _ (List.mem_of_getElem? (i := 8) rfl)) (hw _ (List.mem_of_getElem? (i := 2) rfl)) (by decide) (by decide)) qa6 qc6 (g := (mkF m 139 #[.val (.int p1), .val (.int p2), .val (.int ((p1 &&& (2147483647 : Int32)) % (6 : Int32))), .val (.ref s0), .val (.int (0 : Int32))] [(.int p2), (.ref s0)])) rfl (by rw [hml]; rfl) (Steps.refl _) (argsL := [(.int p2)]) (rest := []) (lenOf pd__I_Z rfl) rfl (by show 2 * 0 + _ ≤ _; exact Nat.le_of_eq rfl) (hb hby at_139) (fun _ _ => ⟨rfl, e2, (by decide : 0 + 0 ≤ _), (by decide : 0 + 0 ≤ _)⟩)
      dsimp only [Pt.U, Pt.locs, Pt.cells, Pt.slots] at X6 l6 y6 z6 st6 hQ6
      subst l6 y6 z6
      obtain ⟨hv6, M7, e6⟩ := hQ6
      obtain rfl : v6 = some (.int (0 : Int32)) := by rw [hv6]; rw [own_h_EQUAL, if_neg c3]
      have N7 := Fr.app N0 M7
      refine own_to (S' := T6.setTop (mkF m 142 #[.val (.int p1), .val (.int p2), .val (.int ((p1 &&& (2147483647 : Int32)) % (6 : Int32))), .val (.ref s0), .val (.int (0 : Int32))] [(.int (0 : Int32))])) st6 ?_
      refine own_go (S' := T6.setTop (mkF m 144 #[.val (.int p1), .val (.int p2), .val (.int ((p1 &&& (2147483647 : Int32)) % (6 : Int32))), .val (.ref s0), .val (.int (0 : Int32))] [(.int (0 : Int32)), (.int (0 : Int32))])) (fun tg kk => XS.iload X6.here hx rfl (hb hby at_142) rfl kk) ?_
      refine own_go (S' := T6.setTop (mkF m 147 #[.val (.int p1), .val (.int p2), .val (.int ((p1 &&& (2147483647 : Int32)) % (6 : Int32))), .val (.ref s0), .val (.int (0 : Int32))] [])) (fun tg kk => XS.icmpNo X6.here hx rfl (hb hby at_144) rfl (XT.ii_ne_f (by decide)) kk) ?_
      refine own_go (S' := T6.setTop (mkF m 148 #[.val (.int p1), .val (.int p2), .val (.int ((p1 &&& (2147483647 : Int32)) % (6 : Int32))), .val (.ref s0), .val (.int (0 : Int32))] [(.int (1 : Int32))])) (fun tg kk => XT.iconstV X6.here hx rfl (1 : Int32) (hb hby at_147) (by decide) kk) ?_
      refine own_go (S' := T6.setTop (mkF m 152 #[.val (.int p1), .val (.int p2), .val (.int ((p1 &&& (2147483647 : Int32)) % (6 : Int32))), .val (.ref s0), .val (.int (0 : Int32))] [(.int (1 : Int32))])) (fun tg kk => XS.goto X6.here hx rfl (pc0 := 148) (pc' := 152) rfl (hb hby at_148) (by decide) (by decide) kk) ?_
      obtain ⟨fs, hr, hrun, hended, hW, hsame⟩ := X6.leave (v := some (.int (1 : Int32))) (fun h => by rw [Bd.returns] at h; cases h)
      refine ⟨_, _, retN X6 hx (t := .boolean) Bd.returns (by simp) (hb hby at_152) hr, hrun, hended, _, _, rfl, ?_, ⟨_, rfl⟩, hW, hsame.mono (by decide) (by decide)⟩
      show Q0 Z p1 p2 s0 s1 s2 s3 s4 s5 h0 n0 (some (.int (1 : Int32))) T6.heap _
      rw [e6]
      exact ⟨rfl, N7⟩
  · refine own_go (S' := s₁.setTop (mkF m 30 #[.val (.int p1), .val (.int p2), .val (.int ((p1 &&& (2147483647 : Int32)) % (6 : Int32))), .unset, .unset] [])) (fun tg kk => XS.ifYes X0.here hx rfl (pc0 := 9) (pc' := 30) rfl (hb hby at_9) rfl (XT.i0_ne_t c1) (by decide) (by decide) kk) ?_
    refine own_go (S' := s₁.setTop (mkF m 31 #[.val (.int p1), .val (.int p2), .val (.int ((p1 &&& (2147483647 : Int32)) % (6 : Int32))), .unset, .unset] [(.int ((p1 &&& (2147483647 : Int32)) % (6 : Int32)))])) (fun tg kk => XS.iloadN X0.here hx rfl (hb hby at_30) rfl kk) ?_
    refine own_go (S' := s₁.setTop (mkF m 32 #[.val (.int p1), .val (.int p2), .val (.int ((p1 &&& (2147483647 : Int32)) % (6 : Int32))), .unset, .unset] [(.int (1 : Int32)), (.int ((p1 &&& (2147483647 : Int32)) % (6 : Int32)))])) (fun tg kk => XT.iconstV X0.here hx rfl (1 : Int32) (hb hby at_31) (by decide) kk) ?_
    by_cases c8 : ((p1 &&& (2147483647 : Int32)) % (6 : Int32)) = (1 : Int32)
    · refine own_go (S' := s₁.setTop (mkF m 35 #[.val (.int p1), .val (.int p2), .val (.int ((p1 &&& (2147483647 : Int32)) % (6 : Int32))), .unset, .unset] [])) (fun tg kk => XS.icmpNo X0.here hx rfl (hb hby at_32) rfl (XT.ii_ne_f c8) kk) ?_
      obtain ⟨T9, X9, e9, st9⟩ := getS (host := "") X0 hx hZ hown (hw _ (List.mem_of_getElem? (i := 17) rfl)) Via.refl e0 (S_NOT_EQUAL.ext O0.2) (g := (mkF m 35 #[.val (.int p1), .val (.int p2), .val (.int ((p1 &&& (2147483647 : Int32)) % (6 : Int32))), .unset, .unset] [])) rfl (hb hby at_35)
      refine own_go (S' := T9.setTop (mkF m 38 #[.val (.int p1), .val (.int p2), .val (.int ((p1 &&& (2147483647 : Int32)) % (6 : Int32))), .unset, .unset] [(.ref s1)])) (st9) ?_
      refine own_go (S' := T9.setTop (mkF m 39 #[.val (.int p1), .val (.int p2), .val (.int ((p1 &&& (2147483647 : Int32)) % (6 : Int32))), .val (.ref s1), .unset] [])) (fun tg kk => XS.astoreN X9.here hx rfl (hb hby at_38) rfl rfl (l' := #[.val (.int p1), .val (.int p2), .val (.int ((p1 &&& (2147483647 : Int32)) % (6 : Int32))), .val (.ref s1), .unset]) rfl kk) ?_
      refine own_go (S' := T9.setTop (mkF m 40 #[.val (.int p1), .val (.int p2), .val (.int ((p1 &&& (2147483647 : Int32)) % (6 : Int32))), .val (.ref s1), .unset] [(.int p2)])) (fun tg kk => XS.iloadN X9.here hx rfl (hb hby at_39) rfl kk) ?_
      by_cases c10 : p2 = 0
      · refine own_go (S' := T9.setTop (mkF m 47 #[.val (.int p1), .val (.int p2), .val (.int ((p1 &&& (2147483647 : Int32)) % (6 : Int32))), .val (.ref s1), .unset] [])) (fun tg kk => XS.ifYes X9.here hx rfl (pc0 := 40) (pc' := 47) rfl (hb hby at_40) rfl (XT.i0_eq_t c10) (by decide) (by decide) kk) ?_
        refine own_go (S' := T9.setTop (mkF m 48 #[.val (.int p1), .val (.int p2), .val (.int ((p1 &&& (2147483647 : Int32)) % (6 : Int32))), .val (.ref s1), .unset] [(.int (0 : Int32))])) (fun tg kk => XT.iconstV X9.here hx rfl (0 : Int32) (hb hby at_47) (by decide) kk) ?_
        refine own_go (S' := T9.setTop (mkF m 50 #[.val (.int p1), .val (.int p2), .val (.int ((p1 &&& (2147483647 : Int32)) % (6 : Int32))), .val (.ref s1), .val (.int (0 : Int32))] [])) (fun tg kk => XS.istore X9.here hx rfl (hb hby at_48) rfl (l' := #[.val (.int p1), .val (.int p2), .val (.int ((p1 &&& (2147483647 : Int32)) % (6 : Int32))), .val (.ref s1), .val (.int (0 : Int32))]) rfl kk) ?_
        refine own_go (S' := T9.setTop (mkF m 137 #[.val (.int p1), .val (.int p2), .val (.int ((p1 &&& (2147483647 : Int32)) % (6 : Int32))), .val (.ref s1), .val (.int (0 : Int32))] [])) (fun tg kk => XS.goto X9.here hx rfl (pc0 := 50) (pc' := 137) rfl (hb hby at_50) (by decide) (by decide) kk) ?_
        refine own_go (S' := T9.setTop (mkF m 138 #[.val (.int p1), .val (.int p2), .val (.int ((p1 &&& (2147483647 : Int32)) % (6 : Int32))), .val (.ref s1), .val (.int (0 : Int32))] [(.ref s1)])) (fun tg kk => XS.aloadN X9.here hx rfl (hb hby at_137) rfl rfl kk) ?_
        refine own_go (S' := T9.setTop (mkF m 139 #[.val (.int p1), .val (.int p2), .val (.int ((p1 &&& (2147483647 : Int32)) % (6 : Int32))), .val (.ref s1), .val (.int (0 : Int32))] [(.int p2), (.ref s1)])) (fun tg kk => XS.iloadN X9.here hx rfl (hb hby at_138) rfl kk) ?_
        obtain ⟨cq11, kq11, qa11, qb11, qc11⟩ := isOf hZ e9 (E_NOT_EQUAL.ext O0.2)
        obtain ⟨v11, _, ⟨T11, L11, k11, n11⟩, -, X11, ⟨Lc11, hQ11, l11, y11, z11⟩, st11⟩ := X9.virtualBack hx (y := (⟨"com/example/coordinator/coordinator/control/Qualifier$Operator", "holds", "(I)Z"⟩ : MethodName)) (z := (⟨"com/example/coordinator/coordinator/control/Qualifier$Operator", "holds", "(I)Z"⟩ : MethodName)) hown (mvT hZ (hw _ (List.mem_of_getElem? (i := 4) rfl))) (mvT hZ (hw _ (List.mem_of_getElem? (i := 5) rfl))) (notFace_of_selects (args := #[]) (mvT hZ (hw _ (List.mem_of_getElem? (i := 7) rfl)))) (mvT hZ (hw _ (List.mem_of_getElem? (i := 7) rfl))) (mvT hZ (hw _ (List.mem_of_getElem? (i := 6) rfl))) (by decide) (backOf (W := 0) (rm1 l Z a0 hw [] s1 p2 (1 : Int32) (0 : Int32) (1 : Int32) h0 n0 Z0 O0 F_NOT_EQUAL_whenLess F_NOT_EQUAL_whenEqual F_NOT_EQUAL_whenGreater rfl rfl rfl) hZ (hw _ (List.mem_of_getElem? (i := 8) rfl)) (hw _ (List.mem_of_getElem? (i := 2) rfl)) (by decide) (by decide)) qa11 qc11 (g := (mkF m 139 #[.val (.int p1), .val (.int p2), .val (.int ((p1 &&& (2147483647 : Int32)) % (6 : Int32))), .val (.ref s1), .val (.int (0 : Int32))] [(.int p2), (.ref s1)])) rfl (by rw [hml]; rfl) (Steps.refl _) (argsL := [(.int p2)]) (rest := []) (lenOf pd__I_Z rfl) rfl (by show 2 * 0 + _ ≤ _; exact Nat.le_of_eq rfl) (hb hby at_139) (fun _ _ => ⟨rfl, e9, (by decide : 0 + 0 ≤ _), (by decide : 0 + 0 ≤ _)⟩)
        dsimp only [Pt.U, Pt.locs, Pt.cells, Pt.slots] at X11 l11 y11 z11 st11 hQ11
        subst l11 y11 z11
        obtain ⟨hv11, M12, e11⟩ := hQ11
        obtain rfl : v11 = some (.int (0 : Int32)) := by rw [hv11]; rw [own_h_NOT_EQUAL, if_pos c10]
        have N12 := Fr.app N0 M12
        refine own_to (S' := T11.setTop (mkF m 142 #[.val (.int p1), .val (.int p2), .val (.int ((p1 &&& (2147483647 : Int32)) % (6 : Int32))), .val (.ref s1), .val (.int (0 : Int32))] [(.int (0 : Int32))])) st11 ?_
        refine own_go (S' := T11.setTop (mkF m 144 #[.val (.int p1), .val (.int p2), .val (.int ((p1 &&& (2147483647 : Int32)) % (6 : Int32))), .val (.ref s1), .val (.int (0 : Int32))] [(.int (0 : Int32)), (.int (0 : Int32))])) (fun tg kk => XS.iload X11.here hx rfl (hb hby at_142) rfl kk) ?_
        refine own_go (S' := T11.setTop (mkF m 147 #[.val (.int p1), .val (.int p2), .val (.int ((p1 &&& (2147483647 : Int32)) % (6 : Int32))), .val (.ref s1), .val (.int (0 : Int32))] [])) (fun tg kk => XS.icmpNo X11.here hx rfl (hb hby at_144) rfl (XT.ii_ne_f (by decide)) kk) ?_
        refine own_go (S' := T11.setTop (mkF m 148 #[.val (.int p1), .val (.int p2), .val (.int ((p1 &&& (2147483647 : Int32)) % (6 : Int32))), .val (.ref s1), .val (.int (0 : Int32))] [(.int (1 : Int32))])) (fun tg kk => XT.iconstV X11.here hx rfl (1 : Int32) (hb hby at_147) (by decide) kk) ?_
        refine own_go (S' := T11.setTop (mkF m 152 #[.val (.int p1), .val (.int p2), .val (.int ((p1 &&& (2147483647 : Int32)) % (6 : Int32))), .val (.ref s1), .val (.int (0 : Int32))] [(.int (1 : Int32))])) (fun tg kk => XS.goto X11.here hx rfl (pc0 := 148) (pc' := 152) rfl (hb hby at_148) (by decide) (by decide) kk) ?_
        obtain ⟨fs, hr, hrun, hended, hW, hsame⟩ := X11.leave (v := some (.int (1 : Int32))) (fun h => by rw [Bd.returns] at h; cases h)
        refine ⟨_, _, retN X11 hx (t := .boolean) Bd.returns (by simp) (hb hby at_152) hr, hrun, hended, _, _, rfl, ?_, ⟨_, rfl⟩, hW, hsame.mono (by decide) (by decide)⟩
        show Q0 Z p1 p2 s0 s1 s2 s3 s4 s5 h0 n0 (some (.int (1 : Int32))) T11.heap _
        rw [e11]
        exact ⟨rfl, N12⟩
      · refine own_go (S' := T9.setTop (mkF m 43 #[.val (.int p1), .val (.int p2), .val (.int ((p1 &&& (2147483647 : Int32)) % (6 : Int32))), .val (.ref s1), .unset] [])) (fun tg kk => XS.ifNo X9.here hx rfl (hb hby at_40) rfl (XT.i0_eq_f c10) kk) ?_
        refine own_go (S' := T9.setTop (mkF m 44 #[.val (.int p1), .val (.int p2), .val (.int ((p1 &&& (2147483647 : Int32)) % (6 : Int32))), .val (.ref s1), .unset] [(.int (1 : Int32))])) (fun tg kk => XT.iconstV X9.here hx rfl (1 : Int32) (hb hby at_43) (by decide) kk) ?_
        refine own_go (S' := T9.setTop (mkF m 48 #[.val (.int p1), .val (.int p2), .val (.int ((p1 &&& (2147483647 : Int32)) % (6 : Int32))), .val (.ref s1), .unset] [(.int (1 : Int32))])) (fun tg kk => XS.goto X9.here hx rfl (pc0 := 44) (pc' := 48) rfl (hb hby at_44) (by decide) (by decide) kk) ?_
        refine own_go (S' := T9.setTop (mkF m 50 #[.val (.int p1), .val (.int p2), .val (.int ((p1 &&& (2147483647 : Int32)) % (6 : Int32))), .val (.ref s1), .val (.int (1 : Int32))] [])) (fun tg kk => XS.istore X9.here hx rfl (hb hby at_48) rfl (l' := #[.val (.int p1), .val (.int p2), .val (.int ((p1 &&& (2147483647 : Int32)) % (6 : Int32))), .val (.ref s1), .val (.int (1 : Int32))]) rfl kk) ?_
        refine own_go (S' := T9.setTop (mkF m 137 #[.val (.int p1), .val (.int p2), .val (.int ((p1 &&& (2147483647 : Int32)) % (6 : Int32))), .val (.ref s1), .val (.int (1 : Int32))] [])) (fun tg kk => XS.goto X9.here hx rfl (pc0 := 50) (pc' := 137) rfl (hb hby at_50) (by decide) (by decide) kk) ?_
        refine own_go (S' := T9.setTop (mkF m 138 #[.val (.int p1), .val (.int p2), .val (.int ((p1 &&& (2147483647 : Int32)) % (6 : Int32))), .val (.ref s1), .val (.int (1 : Int32))] [(.ref s1)])) (fun tg kk => XS.aloadN X9.here hx rfl (hb hby at_137) rfl rfl kk) ?_
        refine own_go (S' := T9.setTop (mkF m 139 #[.val (.int p1), .val (.int p2), .val (.int ((p1 &&& (2147483647 : Int32)) % (6 : Int32))), .val (.ref s1), .val (.int (1 : Int32))] [(.int p2), (.ref s1)])) (fun tg kk => XS.iloadN X9.here hx rfl (hb hby at_138) rfl kk) ?_
        obtain ⟨cq13, kq13, qa13, qb13, qc13⟩ := isOf hZ e9 (E_NOT_EQUAL.ext O0.2)
        obtain ⟨v13, _, ⟨T13, L13, k13, n13⟩, -, X13, ⟨Lc13, hQ13, l13, y13, z13⟩, st13⟩ := X9.virtualBack hx (y := (⟨"com/example/coordinator/coordinator/control/Qualifier$Operator", "holds", "(I)Z"⟩ : MethodName)) (z := (⟨"com/example/coordinator/coordinator/control/Qualifier$Operator", "holds", "(I)Z"⟩ : MethodName)) hown (mvT hZ (hw _ (List.mem_of_getElem? (i := 4) rfl))) (mvT hZ (hw _ (List.mem_of_getElem? (i := 5) rfl))) (notFace_of_selects (args := #[]) (mvT hZ (hw _ (List.mem_of_getElem? (i := 7) rfl)))) (mvT hZ (hw _ (List.mem_of_getElem? (i := 7) rfl))) (mvT hZ (hw _ (List.mem_of_getElem? (i := 6) rfl))) (by decide) (backOf (W := 0) (rm1 l Z a0 hw [] s1 p2 (1 : Int32) (0 : Int32) (1 : Int32) h0 n0 Z0 O0 F_NOT_EQUAL_whenLess F_NOT_EQUAL_whenEqual F_NOT_EQUAL_whenGreater rfl rfl rfl) hZ (hw _ (List.mem_of_getElem? (i := 8) rfl)) (hw _ (List.mem_of_getElem? (i := 2) rfl)) (by decide) (by decide)) qa13 qc13 (g := (mkF m 139 #[.val (.int p1), .val (.int p2), .val (.int ((p1 &&& (2147483647 : Int32)) % (6 : Int32))), .val (.ref s1), .val (.int (1 : Int32))] [(.int p2), (.ref s1)])) rfl (by rw [hml]; rfl) (Steps.refl _) (argsL := [(.int p2)]) (rest := []) (lenOf pd__I_Z rfl) rfl (by show 2 * 0 + _ ≤ _; exact Nat.le_of_eq rfl) (hb hby at_139) (fun _ _ => ⟨rfl, e9, (by decide : 0 + 0 ≤ _), (by decide : 0 + 0 ≤ _)⟩)
        dsimp only [Pt.U, Pt.locs, Pt.cells, Pt.slots] at X13 l13 y13 z13 st13 hQ13
        subst l13 y13 z13
        obtain ⟨hv13, M14, e13⟩ := hQ13
        obtain rfl : v13 = some (.int (1 : Int32)) := by rw [hv13]; rw [own_h_NOT_EQUAL, if_neg c10]
        have N14 := Fr.app N0 M14
        refine own_to (S' := T13.setTop (mkF m 142 #[.val (.int p1), .val (.int p2), .val (.int ((p1 &&& (2147483647 : Int32)) % (6 : Int32))), .val (.ref s1), .val (.int (1 : Int32))] [(.int (1 : Int32))])) st13 ?_
        refine own_go (S' := T13.setTop (mkF m 144 #[.val (.int p1), .val (.int p2), .val (.int ((p1 &&& (2147483647 : Int32)) % (6 : Int32))), .val (.ref s1), .val (.int (1 : Int32))] [(.int (1 : Int32)), (.int (1 : Int32))])) (fun tg kk => XS.iload X13.here hx rfl (hb hby at_142) rfl kk) ?_
        refine own_go (S' := T13.setTop (mkF m 147 #[.val (.int p1), .val (.int p2), .val (.int ((p1 &&& (2147483647 : Int32)) % (6 : Int32))), .val (.ref s1), .val (.int (1 : Int32))] [])) (fun tg kk => XS.icmpNo X13.here hx rfl (hb hby at_144) rfl (XT.ii_ne_f (by decide)) kk) ?_
        refine own_go (S' := T13.setTop (mkF m 148 #[.val (.int p1), .val (.int p2), .val (.int ((p1 &&& (2147483647 : Int32)) % (6 : Int32))), .val (.ref s1), .val (.int (1 : Int32))] [(.int (1 : Int32))])) (fun tg kk => XT.iconstV X13.here hx rfl (1 : Int32) (hb hby at_147) (by decide) kk) ?_
        refine own_go (S' := T13.setTop (mkF m 152 #[.val (.int p1), .val (.int p2), .val (.int ((p1 &&& (2147483647 : Int32)) % (6 : Int32))), .val (.ref s1), .val (.int (1 : Int32))] [(.int (1 : Int32))])) (fun tg kk => XS.goto X13.here hx rfl (pc0 := 148) (pc' := 152) rfl (hb hby at_148) (by decide) (by decide) kk) ?_
        obtain ⟨fs, hr, hrun, hended, hW, hsame⟩ := X13.leave (v := some (.int (1 : Int32))) (fun h => by rw [Bd.returns] at h; cases h)
        refine ⟨_, _, retN X13 hx (t := .boolean) Bd.returns (by simp) (hb hby at_152) hr, hrun, hended, _, _, rfl, ?_, ⟨_, rfl⟩, hW, hsame.mono (by decide) (by decide)⟩
        show Q0 Z p1 p2 s0 s1 s2 s3 s4 s5 h0 n0 (some (.int (1 : Int32))) T13.heap _
        rw [e13]
        exact ⟨rfl, N14⟩
    · refine own_go (S' := s₁.setTop (mkF m 53 #[.val (.int p1), .val (.int p2), .val (.int ((p1 &&& (2147483647 : Int32)) % (6 : Int32))), .unset, .unset] [])) (fun tg kk => XS.icmpYes X0.here hx rfl (pc0 := 32) (pc' := 53) rfl (hb hby at_32) rfl (XT.ii_ne_t c8) (by decide) (by decide) kk) ?_
      refine own_go (S' := s₁.setTop (mkF m 54 #[.val (.int p1), .val (.int p2), .val (.int ((p1 &&& (2147483647 : Int32)) % (6 : Int32))), .unset, .unset] [(.int ((p1 &&& (2147483647 : Int32)) % (6 : Int32)))])) (fun tg kk => XS.iloadN X0.here hx rfl (hb hby at_53) rfl kk) ?_
      refine own_go (S' := s₁.setTop (mkF m 55 #[.val (.int p1), .val (.int p2), .val (.int ((p1 &&& (2147483647 : Int32)) % (6 : Int32))), .unset, .unset] [(.int (2 : Int32)), (.int ((p1 &&& (2147483647 : Int32)) % (6 : Int32)))])) (fun tg kk => XT.iconstV X0.here hx rfl (2 : Int32) (hb hby at_54) (by decide) kk) ?_
      by_cases c15 : ((p1 &&& (2147483647 : Int32)) % (6 : Int32)) = (2 : Int32)
      · refine own_go (S' := s₁.setTop (mkF m 58 #[.val (.int p1), .val (.int p2), .val (.int ((p1 &&& (2147483647 : Int32)) % (6 : Int32))), .unset, .unset] [])) (fun tg kk => XS.icmpNo X0.here hx rfl (hb hby at_55) rfl (XT.ii_ne_f c15) kk) ?_
        obtain ⟨T16, X16, e16, st16⟩ := getS (host := "") X0 hx hZ hown (hw _ (List.mem_of_getElem? (i := 11) rfl)) Via.refl e0 (S_LESS_THAN.ext O0.2) (g := (mkF m 58 #[.val (.int p1), .val (.int p2), .val (.int ((p1 &&& (2147483647 : Int32)) % (6 : Int32))), .unset, .unset] [])) rfl (hb hby at_58)
        refine own_go (S' := T16.setTop (mkF m 61 #[.val (.int p1), .val (.int p2), .val (.int ((p1 &&& (2147483647 : Int32)) % (6 : Int32))), .unset, .unset] [(.ref s2)])) (st16) ?_
        refine own_go (S' := T16.setTop (mkF m 62 #[.val (.int p1), .val (.int p2), .val (.int ((p1 &&& (2147483647 : Int32)) % (6 : Int32))), .val (.ref s2), .unset] [])) (fun tg kk => XS.astoreN X16.here hx rfl (hb hby at_61) rfl rfl (l' := #[.val (.int p1), .val (.int p2), .val (.int ((p1 &&& (2147483647 : Int32)) % (6 : Int32))), .val (.ref s2), .unset]) rfl kk) ?_
        refine own_go (S' := T16.setTop (mkF m 63 #[.val (.int p1), .val (.int p2), .val (.int ((p1 &&& (2147483647 : Int32)) % (6 : Int32))), .val (.ref s2), .unset] [(.int p2)])) (fun tg kk => XS.iloadN X16.here hx rfl (hb hby at_62) rfl kk) ?_
        by_cases c17 : p2 < 0
        · refine own_go (S' := T16.setTop (mkF m 66 #[.val (.int p1), .val (.int p2), .val (.int ((p1 &&& (2147483647 : Int32)) % (6 : Int32))), .val (.ref s2), .unset] [])) (fun tg kk => XS.ifNo X16.here hx rfl (hb hby at_63) rfl (XT.i0_ge_f c17) kk) ?_
          refine own_go (S' := T16.setTop (mkF m 67 #[.val (.int p1), .val (.int p2), .val (.int ((p1 &&& (2147483647 : Int32)) % (6 : Int32))), .val (.ref s2), .unset] [(.int (1 : Int32))])) (fun tg kk => XT.iconstV X16.here hx rfl (1 : Int32) (hb hby at_66) (by decide) kk) ?_
          refine own_go (S' := T16.setTop (mkF m 71 #[.val (.int p1), .val (.int p2), .val (.int ((p1 &&& (2147483647 : Int32)) % (6 : Int32))), .val (.ref s2), .unset] [(.int (1 : Int32))])) (fun tg kk => XS.goto X16.here hx rfl (pc0 := 67) (pc' := 71) rfl (hb hby at_67) (by decide) (by decide) kk) ?_
          refine own_go (S' := T16.setTop (mkF m 73 #[.val (.int p1), .val (.int p2), .val (.int ((p1 &&& (2147483647 : Int32)) % (6 : Int32))), .val (.ref s2), .val (.int (1 : Int32))] [])) (fun tg kk => XS.istore X16.here hx rfl (hb hby at_71) rfl (l' := #[.val (.int p1), .val (.int p2), .val (.int ((p1 &&& (2147483647 : Int32)) % (6 : Int32))), .val (.ref s2), .val (.int (1 : Int32))]) rfl kk) ?_
          refine own_go (S' := T16.setTop (mkF m 137 #[.val (.int p1), .val (.int p2), .val (.int ((p1 &&& (2147483647 : Int32)) % (6 : Int32))), .val (.ref s2), .val (.int (1 : Int32))] [])) (fun tg kk => XS.goto X16.here hx rfl (pc0 := 73) (pc' := 137) rfl (hb hby at_73) (by decide) (by decide) kk) ?_
          refine own_go (S' := T16.setTop (mkF m 138 #[.val (.int p1), .val (.int p2), .val (.int ((p1 &&& (2147483647 : Int32)) % (6 : Int32))), .val (.ref s2), .val (.int (1 : Int32))] [(.ref s2)])) (fun tg kk => XS.aloadN X16.here hx rfl (hb hby at_137) rfl rfl kk) ?_
          refine own_go (S' := T16.setTop (mkF m 139 #[.val (.int p1), .val (.int p2), .val (.int ((p1 &&& (2147483647 : Int32)) % (6 : Int32))), .val (.ref s2), .val (.int (1 : Int32))] [(.int p2), (.ref s2)])) (fun tg kk => XS.iloadN X16.here hx rfl (hb hby at_138) rfl kk) ?_
          obtain ⟨cq18, kq18, qa18, qb18, qc18⟩ := isOf hZ e16 (E_LESS_THAN.ext O0.2)
          obtain ⟨v18, _, ⟨T18, L18, k18, n18⟩, -, X18, ⟨Lc18, hQ18, l18, y18, z18⟩, st18⟩ := X16.virtualBack hx (y := (⟨"com/example/coordinator/coordinator/control/Qualifier$Operator", "holds", "(I)Z"⟩ : MethodName)) (z := (⟨"com/example/coordinator/coordinator/control/Qualifier$Operator", "holds", "(I)Z"⟩ : MethodName)) hown (mvT hZ (hw _ (List.mem_of_getElem? (i := 4) rfl))) (mvT hZ (hw _ (List.mem_of_getElem? (i := 5) rfl))) (notFace_of_selects (args := #[]) (mvT hZ (hw _ (List.mem_of_getElem? (i := 7) rfl)))) (mvT hZ (hw _ (List.mem_of_getElem? (i := 7) rfl))) (mvT hZ (hw _ (List.mem_of_getElem? (i := 6) rfl))) (by decide) (backOf (W := 0) (rm1 l Z a0 hw [] s2 p2 (1 : Int32) (0 : Int32) (0 : Int32) h0 n0 Z0 O0 F_LESS_THAN_whenLess F_LESS_THAN_whenEqual F_LESS_THAN_whenGreater rfl rfl rfl) hZ (hw _ (List.mem_of_getElem? (i := 8) rfl)) (hw _ (List.mem_of_getElem? (i := 2) rfl)) (by decide) (by decide)) qa18 qc18 (g := (mkF m 139 #[.val (.int p1), .val (.int p2), .val (.int ((p1 &&& (2147483647 : Int32)) % (6 : Int32))), .val (.ref s2), .val (.int (1 : Int32))] [(.int p2), (.ref s2)])) rfl (by rw [hml]; rfl) (Steps.refl _) (argsL := [(.int p2)]) (rest := []) (lenOf pd__I_Z rfl) rfl (by show 2 * 0 + _ ≤ _; exact Nat.le_of_eq rfl) (hb hby at_139) (fun _ _ => ⟨rfl, e16, (by decide : 0 + 0 ≤ _), (by decide : 0 + 0 ≤ _)⟩)
          dsimp only [Pt.U, Pt.locs, Pt.cells, Pt.slots] at X18 l18 y18 z18 st18 hQ18
          subst l18 y18 z18
          obtain ⟨hv18, M19, e18⟩ := hQ18
          obtain rfl : v18 = some (.int (1 : Int32)) := by rw [hv18]; rw [own_h_LESS_THAN, if_pos c17]
          have N19 := Fr.app N0 M19
          refine own_to (S' := T18.setTop (mkF m 142 #[.val (.int p1), .val (.int p2), .val (.int ((p1 &&& (2147483647 : Int32)) % (6 : Int32))), .val (.ref s2), .val (.int (1 : Int32))] [(.int (1 : Int32))])) st18 ?_
          refine own_go (S' := T18.setTop (mkF m 144 #[.val (.int p1), .val (.int p2), .val (.int ((p1 &&& (2147483647 : Int32)) % (6 : Int32))), .val (.ref s2), .val (.int (1 : Int32))] [(.int (1 : Int32)), (.int (1 : Int32))])) (fun tg kk => XS.iload X18.here hx rfl (hb hby at_142) rfl kk) ?_
          refine own_go (S' := T18.setTop (mkF m 147 #[.val (.int p1), .val (.int p2), .val (.int ((p1 &&& (2147483647 : Int32)) % (6 : Int32))), .val (.ref s2), .val (.int (1 : Int32))] [])) (fun tg kk => XS.icmpNo X18.here hx rfl (hb hby at_144) rfl (XT.ii_ne_f (by decide)) kk) ?_
          refine own_go (S' := T18.setTop (mkF m 148 #[.val (.int p1), .val (.int p2), .val (.int ((p1 &&& (2147483647 : Int32)) % (6 : Int32))), .val (.ref s2), .val (.int (1 : Int32))] [(.int (1 : Int32))])) (fun tg kk => XT.iconstV X18.here hx rfl (1 : Int32) (hb hby at_147) (by decide) kk) ?_
          refine own_go (S' := T18.setTop (mkF m 152 #[.val (.int p1), .val (.int p2), .val (.int ((p1 &&& (2147483647 : Int32)) % (6 : Int32))), .val (.ref s2), .val (.int (1 : Int32))] [(.int (1 : Int32))])) (fun tg kk => XS.goto X18.here hx rfl (pc0 := 148) (pc' := 152) rfl (hb hby at_148) (by decide) (by decide) kk) ?_
          obtain ⟨fs, hr, hrun, hended, hW, hsame⟩ := X18.leave (v := some (.int (1 : Int32))) (fun h => by rw [Bd.returns] at h; cases h)
          refine ⟨_, _, retN X18 hx (t := .boolean) Bd.returns (by simp) (hb hby at_152) hr, hrun, hended, _, _, rfl, ?_, ⟨_, rfl⟩, hW, hsame.mono (by decide) (by decide)⟩
          show Q0 Z p1 p2 s0 s1 s2 s3 s4 s5 h0 n0 (some (.int (1 : Int32))) T18.heap _
          rw [e18]
          exact ⟨rfl, N19⟩
        · refine own_go (S' := T16.setTop (mkF m 70 #[.val (.int p1), .val (.int p2), .val (.int ((p1 &&& (2147483647 : Int32)) % (6 : Int32))), .val (.ref s2), .unset] [])) (fun tg kk => XS.ifYes X16.here hx rfl (pc0 := 63) (pc' := 70) rfl (hb hby at_63) rfl (XT.i0_ge_t c17) (by decide) (by decide) kk) ?_
          refine own_go (S' := T16.setTop (mkF m 71 #[.val (.int p1), .val (.int p2), .val (.int ((p1 &&& (2147483647 : Int32)) % (6 : Int32))), .val (.ref s2), .unset] [(.int (0 : Int32))])) (fun tg kk => XT.iconstV X16.here hx rfl (0 : Int32) (hb hby at_70) (by decide) kk) ?_
          refine own_go (S' := T16.setTop (mkF m 73 #[.val (.int p1), .val (.int p2), .val (.int ((p1 &&& (2147483647 : Int32)) % (6 : Int32))), .val (.ref s2), .val (.int (0 : Int32))] [])) (fun tg kk => XS.istore X16.here hx rfl (hb hby at_71) rfl (l' := #[.val (.int p1), .val (.int p2), .val (.int ((p1 &&& (2147483647 : Int32)) % (6 : Int32))), .val (.ref s2), .val (.int (0 : Int32))]) rfl kk) ?_
          refine own_go (S' := T16.setTop (mkF m 137 #[.val (.int p1), .val (.int p2), .val (.int ((p1 &&& (2147483647 : Int32)) % (6 : Int32))), .val (.ref s2), .val (.int (0 : Int32))] [])) (fun tg kk => XS.goto X16.here hx rfl (pc0 := 73) (pc' := 137) rfl (hb hby at_73) (by decide) (by decide) kk) ?_
          refine own_go (S' := T16.setTop (mkF m 138 #[.val (.int p1), .val (.int p2), .val (.int ((p1 &&& (2147483647 : Int32)) % (6 : Int32))), .val (.ref s2), .val (.int (0 : Int32))] [(.ref s2)])) (fun tg kk => XS.aloadN X16.here hx rfl (hb hby at_137) rfl rfl kk) ?_
          refine own_go (S' := T16.setTop (mkF m 139 #[.val (.int p1), .val (.int p2), .val (.int ((p1 &&& (2147483647 : Int32)) % (6 : Int32))), .val (.ref s2), .val (.int (0 : Int32))] [(.int p2), (.ref s2)])) (fun tg kk => XS.iloadN X16.here hx rfl (hb hby at_138) rfl kk) ?_
          obtain ⟨cq20, kq20, qa20, qb20, qc20⟩ := isOf hZ e16 (E_LESS_THAN.ext O0.2)
          obtain ⟨v20, _, ⟨T20, L20, k20, n20⟩, -, X20, ⟨Lc20, hQ20, l20, y20, z20⟩, st20⟩ := X16.virtualBack hx (y := (⟨"com/example/coordinator/coordinator/control/Qualifier$Operator", "holds", "(I)Z"⟩ : MethodName)) (z := (⟨"com/example/coordinator/coordinator/control/Qualifier$Operator", "holds", "(I)Z"⟩ : MethodName)) hown (mvT hZ (hw _ (List.mem_of_getElem? (i := 4) rfl))) (mvT hZ (hw _ (List.mem_of_getElem? (i := 5) rfl))) (notFace_of_selects (args := #[]) (mvT hZ (hw _ (List.mem_of_getElem? (i := 7) rfl)))) (mvT hZ (hw _ (List.mem_of_getElem? (i := 7) rfl))) (mvT hZ (hw _ (List.mem_of_getElem? (i := 6) rfl))) (by decide) (backOf (W := 0) (rm1 l Z a0 hw [] s2 p2 (1 : Int32) (0 : Int32) (0 : Int32) h0 n0 Z0 O0 F_LESS_THAN_whenLess F_LESS_THAN_whenEqual F_LESS_THAN_whenGreater rfl rfl rfl) hZ (hw _ (List.mem_of_getElem? (i := 8) rfl)) (hw _ (List.mem_of_getElem? (i := 2) rfl)) (by decide) (by decide)) qa20 qc20 (g := (mkF m 139 #[.val (.int p1), .val (.int p2), .val (.int ((p1 &&& (2147483647 : Int32)) % (6 : Int32))), .val (.ref s2), .val (.int (0 : Int32))] [(.int p2), (.ref s2)])) rfl (by rw [hml]; rfl) (Steps.refl _) (argsL := [(.int p2)]) (rest := []) (lenOf pd__I_Z rfl) rfl (by show 2 * 0 + _ ≤ _; exact Nat.le_of_eq rfl) (hb hby at_139) (fun _ _ => ⟨rfl, e16, (by decide : 0 + 0 ≤ _), (by decide : 0 + 0 ≤ _)⟩)
          dsimp only [Pt.U, Pt.locs, Pt.cells, Pt.slots] at X20 l20 y20 z20 st20 hQ20
          subst l20 y20 z20
          obtain ⟨hv20, M21, e20⟩ := hQ20
          obtain rfl : v20 = some (.int (0 : Int32)) := by rw [hv20]; rw [own_h_LESS_THAN, if_neg c17]
          have N21 := Fr.app N0 M21
          refine own_to (S' := T20.setTop (mkF m 142 #[.val (.int p1), .val (.int p2), .val (.int ((p1 &&& (2147483647 : Int32)) % (6 : Int32))), .val (.ref s2), .val (.int (0 : Int32))] [(.int (0 : Int32))])) st20 ?_
          refine own_go (S' := T20.setTop (mkF m 144 #[.val (.int p1), .val (.int p2), .val (.int ((p1 &&& (2147483647 : Int32)) % (6 : Int32))), .val (.ref s2), .val (.int (0 : Int32))] [(.int (0 : Int32)), (.int (0 : Int32))])) (fun tg kk => XS.iload X20.here hx rfl (hb hby at_142) rfl kk) ?_
          refine own_go (S' := T20.setTop (mkF m 147 #[.val (.int p1), .val (.int p2), .val (.int ((p1 &&& (2147483647 : Int32)) % (6 : Int32))), .val (.ref s2), .val (.int (0 : Int32))] [])) (fun tg kk => XS.icmpNo X20.here hx rfl (hb hby at_144) rfl (XT.ii_ne_f (by decide)) kk) ?_
          refine own_go (S' := T20.setTop (mkF m 148 #[.val (.int p1), .val (.int p2), .val (.int ((p1 &&& (2147483647 : Int32)) % (6 : Int32))), .val (.ref s2), .val (.int (0 : Int32))] [(.int (1 : Int32))])) (fun tg kk => XT.iconstV X20.here hx rfl (1 : Int32) (hb hby at_147) (by decide) kk) ?_
          refine own_go (S' := T20.setTop (mkF m 152 #[.val (.int p1), .val (.int p2), .val (.int ((p1 &&& (2147483647 : Int32)) % (6 : Int32))), .val (.ref s2), .val (.int (0 : Int32))] [(.int (1 : Int32))])) (fun tg kk => XS.goto X20.here hx rfl (pc0 := 148) (pc' := 152) rfl (hb hby at_148) (by decide) (by decide) kk) ?_
          obtain ⟨fs, hr, hrun, hended, hW, hsame⟩ := X20.leave (v := some (.int (1 : Int32))) (fun h => by rw [Bd.returns] at h; cases h)
          refine ⟨_, _, retN X20 hx (t := .boolean) Bd.returns (by simp) (hb hby at_152) hr, hrun, hended, _, _, rfl, ?_, ⟨_, rfl⟩, hW, hsame.mono (by decide) (by decide)⟩
          show Q0 Z p1 p2 s0 s1 s2 s3 s4 s5 h0 n0 (some (.int (1 : Int32))) T20.heap _
          rw [e20]
          exact ⟨rfl, N21⟩
      · refine own_go (S' := s₁.setTop (mkF m 76 #[.val (.int p1), .val (.int p2), .val (.int ((p1 &&& (2147483647 : Int32)) % (6 : Int32))), .unset, .unset] [])) (fun tg kk => XS.icmpYes X0.here hx rfl (pc0 := 55) (pc' := 76) rfl (hb hby at_55) rfl (XT.ii_ne_t c15) (by decide) (by decide) kk) ?_
        refine own_go (S' := s₁.setTop (mkF m 77 #[.val (.int p1), .val (.int p2), .val (.int ((p1 &&& (2147483647 : Int32)) % (6 : Int32))), .unset, .unset] [(.int ((p1 &&& (2147483647 : Int32)) % (6 : Int32)))])) (fun tg kk => XS.iloadN X0.here hx rfl (hb hby at_76) rfl kk) ?_
        refine own_go (S' := s₁.setTop (mkF m 78 #[.val (.int p1), .val (.int p2), .val (.int ((p1 &&& (2147483647 : Int32)) % (6 : Int32))), .unset, .unset] [(.int (3 : Int32)), (.int ((p1 &&& (2147483647 : Int32)) % (6 : Int32)))])) (fun tg kk => XT.iconstV X0.here hx rfl (3 : Int32) (hb hby at_77) (by decide) kk) ?_
        by_cases c22 : ((p1 &&& (2147483647 : Int32)) % (6 : Int32)) = (3 : Int32)
        · refine own_go (S' := s₁.setTop (mkF m 81 #[.val (.int p1), .val (.int p2), .val (.int ((p1 &&& (2147483647 : Int32)) % (6 : Int32))), .unset, .unset] [])) (fun tg kk => XS.icmpNo X0.here hx rfl (hb hby at_78) rfl (XT.ii_ne_f c22) kk) ?_
          obtain ⟨T23, X23, e23, st23⟩ := getS (host := "") X0 hx hZ hown (hw _ (List.mem_of_getElem? (i := 21) rfl)) Via.refl e0 (S_LESS_THAN_OR_EQUAL.ext O0.2) (g := (mkF m 81 #[.val (.int p1), .val (.int p2), .val (.int ((p1 &&& (2147483647 : Int32)) % (6 : Int32))), .unset, .unset] [])) rfl (hb hby at_81)
          refine own_go (S' := T23.setTop (mkF m 84 #[.val (.int p1), .val (.int p2), .val (.int ((p1 &&& (2147483647 : Int32)) % (6 : Int32))), .unset, .unset] [(.ref s3)])) (st23) ?_
          refine own_go (S' := T23.setTop (mkF m 85 #[.val (.int p1), .val (.int p2), .val (.int ((p1 &&& (2147483647 : Int32)) % (6 : Int32))), .val (.ref s3), .unset] [])) (fun tg kk => XS.astoreN X23.here hx rfl (hb hby at_84) rfl rfl (l' := #[.val (.int p1), .val (.int p2), .val (.int ((p1 &&& (2147483647 : Int32)) % (6 : Int32))), .val (.ref s3), .unset]) rfl kk) ?_
          refine own_go (S' := T23.setTop (mkF m 86 #[.val (.int p1), .val (.int p2), .val (.int ((p1 &&& (2147483647 : Int32)) % (6 : Int32))), .val (.ref s3), .unset] [(.int p2)])) (fun tg kk => XS.iloadN X23.here hx rfl (hb hby at_85) rfl kk) ?_
          by_cases c24 : 0 < p2
          · refine own_go (S' := T23.setTop (mkF m 93 #[.val (.int p1), .val (.int p2), .val (.int ((p1 &&& (2147483647 : Int32)) % (6 : Int32))), .val (.ref s3), .unset] [])) (fun tg kk => XS.ifYes X23.here hx rfl (pc0 := 86) (pc' := 93) rfl (hb hby at_86) rfl (XT.i0_gt_t c24) (by decide) (by decide) kk) ?_
            refine own_go (S' := T23.setTop (mkF m 94 #[.val (.int p1), .val (.int p2), .val (.int ((p1 &&& (2147483647 : Int32)) % (6 : Int32))), .val (.ref s3), .unset] [(.int (0 : Int32))])) (fun tg kk => XT.iconstV X23.here hx rfl (0 : Int32) (hb hby at_93) (by decide) kk) ?_
            refine own_go (S' := T23.setTop (mkF m 96 #[.val (.int p1), .val (.int p2), .val (.int ((p1 &&& (2147483647 : Int32)) % (6 : Int32))), .val (.ref s3), .val (.int (0 : Int32))] [])) (fun tg kk => XS.istore X23.here hx rfl (hb hby at_94) rfl (l' := #[.val (.int p1), .val (.int p2), .val (.int ((p1 &&& (2147483647 : Int32)) % (6 : Int32))), .val (.ref s3), .val (.int (0 : Int32))]) rfl kk) ?_
            refine own_go (S' := T23.setTop (mkF m 137 #[.val (.int p1), .val (.int p2), .val (.int ((p1 &&& (2147483647 : Int32)) % (6 : Int32))), .val (.ref s3), .val (.int (0 : Int32))] [])) (fun tg kk => XS.goto X23.here hx rfl (pc0 := 96) (pc' := 137) rfl (hb hby at_96) (by decide) (by decide) kk) ?_
            refine own_go (S' := T23.setTop (mkF m 138 #[.val (.int p1), .val (.int p2), .val (.int ((p1 &&& (2147483647 : Int32)) % (6 : Int32))), .val (.ref s3), .val (.int (0 : Int32))] [(.ref s3)])) (fun tg kk => XS.aloadN X23.here hx rfl (hb hby at_137) rfl rfl kk) ?_
            refine own_go (S' := T23.setTop (mkF m 139 #[.val (.int p1), .val (.int p2), .val (.int ((p1 &&& (2147483647 : Int32)) % (6 : Int32))), .val (.ref s3), .val (.int (0 : Int32))] [(.int p2), (.ref s3)])) (fun tg kk => XS.iloadN X23.here hx rfl (hb hby at_138) rfl kk) ?_
            obtain ⟨cq25, kq25, qa25, qb25, qc25⟩ := isOf hZ e23 (E_LESS_THAN_OR_EQUAL.ext O0.2)
            obtain ⟨v25, _, ⟨T25, L25, k25, n25⟩, -, X25, ⟨Lc25, hQ25, l25, y25, z25⟩, st25⟩ := X23.virtualBack hx (y := (⟨"com/example/coordinator/coordinator/control/Qualifier$Operator", "holds", "(I)Z"⟩ : MethodName)) (z := (⟨"com/example/coordinator/coordinator/control/Qualifier$Operator", "holds", "(I)Z"⟩ : MethodName)) hown (mvT hZ (hw _ (List.mem_of_getElem? (i := 4) rfl))) (mvT hZ (hw _ (List.mem_of_getElem? (i := 5) rfl))) (notFace_of_selects (args := #[]) (mvT hZ (hw _ (List.mem_of_getElem? (i := 7) rfl)))) (mvT hZ (hw _ (List.mem_of_getElem? (i := 7) rfl))) (mvT hZ (hw _ (List.mem_of_getElem? (i := 6) rfl))) (by decide) (backOf (W := 0) (rm1 l Z a0 hw [] s3 p2 (1 : Int32) (1 : Int32) (0 : Int32) h0 n0 Z0 O0 F_LESS_THAN_OR_EQUAL_whenLess F_LESS_THAN_OR_EQUAL_whenEqual F_LESS_THAN_OR_EQUAL_whenGreater rfl rfl rfl) hZ (hw _ (List.mem_of_getElem? (i := 8) rfl)) (hw _ (List.mem_of_getElem? (i := 2) rfl)) (by decide) (by decide)) qa25 qc25 (g := (mkF m 139 #[.val (.int p1), .val (.int p2), .val (.int ((p1 &&& (2147483647 : Int32)) % (6 : Int32))), .val (.ref s3), .val (.int (0 : Int32))] [(.int p2), (.ref s3)])) rfl (by rw [hml]; rfl) (Steps.refl _) (argsL := [(.int p2)]) (rest := []) (lenOf pd__I_Z rfl) rfl (by show 2 * 0 + _ ≤ _; exact Nat.le_of_eq rfl) (hb hby at_139) (fun _ _ => ⟨rfl, e23, (by decide : 0 + 0 ≤ _), (by decide : 0 + 0 ≤ _)⟩)
            dsimp only [Pt.U, Pt.locs, Pt.cells, Pt.slots] at X25 l25 y25 z25 st25 hQ25
            subst l25 y25 z25
            obtain ⟨hv25, M26, e25⟩ := hQ25
            obtain rfl : v25 = some (.int (0 : Int32)) := by rw [hv25]; rw [own_h_LESS_THAN_OR_EQUAL, if_pos c24]
            have N26 := Fr.app N0 M26
            refine own_to (S' := T25.setTop (mkF m 142 #[.val (.int p1), .val (.int p2), .val (.int ((p1 &&& (2147483647 : Int32)) % (6 : Int32))), .val (.ref s3), .val (.int (0 : Int32))] [(.int (0 : Int32))])) st25 ?_
            refine own_go (S' := T25.setTop (mkF m 144 #[.val (.int p1), .val (.int p2), .val (.int ((p1 &&& (2147483647 : Int32)) % (6 : Int32))), .val (.ref s3), .val (.int (0 : Int32))] [(.int (0 : Int32)), (.int (0 : Int32))])) (fun tg kk => XS.iload X25.here hx rfl (hb hby at_142) rfl kk) ?_
            refine own_go (S' := T25.setTop (mkF m 147 #[.val (.int p1), .val (.int p2), .val (.int ((p1 &&& (2147483647 : Int32)) % (6 : Int32))), .val (.ref s3), .val (.int (0 : Int32))] [])) (fun tg kk => XS.icmpNo X25.here hx rfl (hb hby at_144) rfl (XT.ii_ne_f (by decide)) kk) ?_
            refine own_go (S' := T25.setTop (mkF m 148 #[.val (.int p1), .val (.int p2), .val (.int ((p1 &&& (2147483647 : Int32)) % (6 : Int32))), .val (.ref s3), .val (.int (0 : Int32))] [(.int (1 : Int32))])) (fun tg kk => XT.iconstV X25.here hx rfl (1 : Int32) (hb hby at_147) (by decide) kk) ?_
            refine own_go (S' := T25.setTop (mkF m 152 #[.val (.int p1), .val (.int p2), .val (.int ((p1 &&& (2147483647 : Int32)) % (6 : Int32))), .val (.ref s3), .val (.int (0 : Int32))] [(.int (1 : Int32))])) (fun tg kk => XS.goto X25.here hx rfl (pc0 := 148) (pc' := 152) rfl (hb hby at_148) (by decide) (by decide) kk) ?_
            obtain ⟨fs, hr, hrun, hended, hW, hsame⟩ := X25.leave (v := some (.int (1 : Int32))) (fun h => by rw [Bd.returns] at h; cases h)
            refine ⟨_, _, retN X25 hx (t := .boolean) Bd.returns (by simp) (hb hby at_152) hr, hrun, hended, _, _, rfl, ?_, ⟨_, rfl⟩, hW, hsame.mono (by decide) (by decide)⟩
            show Q0 Z p1 p2 s0 s1 s2 s3 s4 s5 h0 n0 (some (.int (1 : Int32))) T25.heap _
            rw [e25]
            exact ⟨rfl, N26⟩
          · refine own_go (S' := T23.setTop (mkF m 89 #[.val (.int p1), .val (.int p2), .val (.int ((p1 &&& (2147483647 : Int32)) % (6 : Int32))), .val (.ref s3), .unset] [])) (fun tg kk => XS.ifNo X23.here hx rfl (hb hby at_86) rfl (XT.i0_gt_f c24) kk) ?_
            refine own_go (S' := T23.setTop (mkF m 90 #[.val (.int p1), .val (.int p2), .val (.int ((p1 &&& (2147483647 : Int32)) % (6 : Int32))), .val (.ref s3), .unset] [(.int (1 : Int32))])) (fun tg kk => XT.iconstV X23.here hx rfl (1 : Int32) (hb hby at_89) (by decide) kk) ?_
            refine own_go (S' := T23.setTop (mkF m 94 #[.val (.int p1), .val (.int p2), .val (.int ((p1 &&& (2147483647 : Int32)) % (6 : Int32))), .val (.ref s3), .unset] [(.int (1 : Int32))])) (fun tg kk => XS.goto X23.here hx rfl (pc0 := 90) (pc' := 94) rfl (hb hby at_90) (by decide) (by decide) kk) ?_
            refine own_go (S' := T23.setTop (mkF m 96 #[.val (.int p1), .val (.int p2), .val (.int ((p1 &&& (2147483647 : Int32)) % (6 : Int32))), .val (.ref s3), .val (.int (1 : Int32))] [])) (fun tg kk => XS.istore X23.here hx rfl (hb hby at_94) rfl (l' := #[.val (.int p1), .val (.int p2), .val (.int ((p1 &&& (2147483647 : Int32)) % (6 : Int32))), .val (.ref s3), .val (.int (1 : Int32))]) rfl kk) ?_
            refine own_go (S' := T23.setTop (mkF m 137 #[.val (.int p1), .val (.int p2), .val (.int ((p1 &&& (2147483647 : Int32)) % (6 : Int32))), .val (.ref s3), .val (.int (1 : Int32))] [])) (fun tg kk => XS.goto X23.here hx rfl (pc0 := 96) (pc' := 137) rfl (hb hby at_96) (by decide) (by decide) kk) ?_
            refine own_go (S' := T23.setTop (mkF m 138 #[.val (.int p1), .val (.int p2), .val (.int ((p1 &&& (2147483647 : Int32)) % (6 : Int32))), .val (.ref s3), .val (.int (1 : Int32))] [(.ref s3)])) (fun tg kk => XS.aloadN X23.here hx rfl (hb hby at_137) rfl rfl kk) ?_
            refine own_go (S' := T23.setTop (mkF m 139 #[.val (.int p1), .val (.int p2), .val (.int ((p1 &&& (2147483647 : Int32)) % (6 : Int32))), .val (.ref s3), .val (.int (1 : Int32))] [(.int p2), (.ref s3)])) (fun tg kk => XS.iloadN X23.here hx rfl (hb hby at_138) rfl kk) ?_
            obtain ⟨cq27, kq27, qa27, qb27, qc27⟩ := isOf hZ e23 (E_LESS_THAN_OR_EQUAL.ext O0.2)
            obtain ⟨v27, _, ⟨T27, L27, k27, n27⟩, -, X27, ⟨Lc27, hQ27, l27, y27, z27⟩, st27⟩ := X23.virtualBack hx (y := (⟨"com/example/coordinator/coordinator/control/Qualifier$Operator", "holds", "(I)Z"⟩ : MethodName)) (z := (⟨"com/example/coordinator/coordinator/control/Qualifier$Operator", "holds", "(I)Z"⟩ : MethodName)) hown (mvT hZ (hw _ (List.mem_of_getElem? (i := 4) rfl))) (mvT hZ (hw _ (List.mem_of_getElem? (i := 5) rfl))) (notFace_of_selects (args := #[]) (mvT hZ (hw _ (List.mem_of_getElem? (i := 7) rfl)))) (mvT hZ (hw _ (List.mem_of_getElem? (i := 7) rfl))) (mvT hZ (hw _ (List.mem_of_getElem? (i := 6) rfl))) (by decide) (backOf (W := 0) (rm1 l Z a0 hw [] s3 p2 (1 : Int32) (1 : Int32) (0 : Int32) h0 n0 Z0 O0 F_LESS_THAN_OR_EQUAL_whenLess F_LESS_THAN_OR_EQUAL_whenEqual F_LESS_THAN_OR_EQUAL_whenGreater rfl rfl rfl) hZ (hw _ (List.mem_of_getElem? (i := 8) rfl)) (hw _ (List.mem_of_getElem? (i := 2) rfl)) (by decide) (by decide)) qa27 qc27 (g := (mkF m 139 #[.val (.int p1), .val (.int p2), .val (.int ((p1 &&& (2147483647 : Int32)) % (6 : Int32))), .val (.ref s3), .val (.int (1 : Int32))] [(.int p2), (.ref s3)])) rfl (by rw [hml]; rfl) (Steps.refl _) (argsL := [(.int p2)]) (rest := []) (lenOf pd__I_Z rfl) rfl (by show 2 * 0 + _ ≤ _; exact Nat.le_of_eq rfl) (hb hby at_139) (fun _ _ => ⟨rfl, e23, (by decide : 0 + 0 ≤ _), (by decide : 0 + 0 ≤ _)⟩)
            dsimp only [Pt.U, Pt.locs, Pt.cells, Pt.slots] at X27 l27 y27 z27 st27 hQ27
            subst l27 y27 z27
            obtain ⟨hv27, M28, e27⟩ := hQ27
            obtain rfl : v27 = some (.int (1 : Int32)) := by rw [hv27]; rw [own_h_LESS_THAN_OR_EQUAL, if_neg c24]
            have N28 := Fr.app N0 M28
            refine own_to (S' := T27.setTop (mkF m 142 #[.val (.int p1), .val (.int p2), .val (.int ((p1 &&& (2147483647 : Int32)) % (6 : Int32))), .val (.ref s3), .val (.int (1 : Int32))] [(.int (1 : Int32))])) st27 ?_
            refine own_go (S' := T27.setTop (mkF m 144 #[.val (.int p1), .val (.int p2), .val (.int ((p1 &&& (2147483647 : Int32)) % (6 : Int32))), .val (.ref s3), .val (.int (1 : Int32))] [(.int (1 : Int32)), (.int (1 : Int32))])) (fun tg kk => XS.iload X27.here hx rfl (hb hby at_142) rfl kk) ?_
            refine own_go (S' := T27.setTop (mkF m 147 #[.val (.int p1), .val (.int p2), .val (.int ((p1 &&& (2147483647 : Int32)) % (6 : Int32))), .val (.ref s3), .val (.int (1 : Int32))] [])) (fun tg kk => XS.icmpNo X27.here hx rfl (hb hby at_144) rfl (XT.ii_ne_f (by decide)) kk) ?_
            refine own_go (S' := T27.setTop (mkF m 148 #[.val (.int p1), .val (.int p2), .val (.int ((p1 &&& (2147483647 : Int32)) % (6 : Int32))), .val (.ref s3), .val (.int (1 : Int32))] [(.int (1 : Int32))])) (fun tg kk => XT.iconstV X27.here hx rfl (1 : Int32) (hb hby at_147) (by decide) kk) ?_
            refine own_go (S' := T27.setTop (mkF m 152 #[.val (.int p1), .val (.int p2), .val (.int ((p1 &&& (2147483647 : Int32)) % (6 : Int32))), .val (.ref s3), .val (.int (1 : Int32))] [(.int (1 : Int32))])) (fun tg kk => XS.goto X27.here hx rfl (pc0 := 148) (pc' := 152) rfl (hb hby at_148) (by decide) (by decide) kk) ?_
            obtain ⟨fs, hr, hrun, hended, hW, hsame⟩ := X27.leave (v := some (.int (1 : Int32))) (fun h => by rw [Bd.returns] at h; cases h)
            refine ⟨_, _, retN X27 hx (t := .boolean) Bd.returns (by simp) (hb hby at_152) hr, hrun, hended, _, _, rfl, ?_, ⟨_, rfl⟩, hW, hsame.mono (by decide) (by decide)⟩
            show Q0 Z p1 p2 s0 s1 s2 s3 s4 s5 h0 n0 (some (.int (1 : Int32))) T27.heap _
            rw [e27]
            exact ⟨rfl, N28⟩
        · refine own_go (S' := s₁.setTop (mkF m 99 #[.val (.int p1), .val (.int p2), .val (.int ((p1 &&& (2147483647 : Int32)) % (6 : Int32))), .unset, .unset] [])) (fun tg kk => XS.icmpYes X0.here hx rfl (pc0 := 78) (pc' := 99) rfl (hb hby at_78) rfl (XT.ii_ne_t c22) (by decide) (by decide) kk) ?_
          refine own_go (S' := s₁.setTop (mkF m 100 #[.val (.int p1), .val (.int p2), .val (.int ((p1 &&& (2147483647 : Int32)) % (6 : Int32))), .unset, .unset] [(.int ((p1 &&& (2147483647 : Int32)) % (6 : Int32)))])) (fun tg kk => XS.iloadN X0.here hx rfl (hb hby at_99) rfl kk) ?_
          refine own_go (S' := s₁.setTop (mkF m 101 #[.val (.int p1), .val (.int p2), .val (.int ((p1 &&& (2147483647 : Int32)) % (6 : Int32))), .unset, .unset] [(.int (4 : Int32)), (.int ((p1 &&& (2147483647 : Int32)) % (6 : Int32)))])) (fun tg kk => XT.iconstV X0.here hx rfl (4 : Int32) (hb hby at_100) (by decide) kk) ?_
          by_cases c29 : ((p1 &&& (2147483647 : Int32)) % (6 : Int32)) = (4 : Int32)
          · refine own_go (S' := s₁.setTop (mkF m 104 #[.val (.int p1), .val (.int p2), .val (.int ((p1 &&& (2147483647 : Int32)) % (6 : Int32))), .unset, .unset] [])) (fun tg kk => XS.icmpNo X0.here hx rfl (hb hby at_101) rfl (XT.ii_ne_f c29) kk) ?_
            obtain ⟨T30, X30, e30, st30⟩ := getS (host := "") X0 hx hZ hown (hw _ (List.mem_of_getElem? (i := 15) rfl)) Via.refl e0 (S_GREATER_THAN.ext O0.2) (g := (mkF m 104 #[.val (.int p1), .val (.int p2), .val (.int ((p1 &&& (2147483647 : Int32)) % (6 : Int32))), .unset, .unset] [])) rfl (hb hby at_104)
            refine own_go (S' := T30.setTop (mkF m 107 #[.val (.int p1), .val (.int p2), .val (.int ((p1 &&& (2147483647 : Int32)) % (6 : Int32))), .unset, .unset] [(.ref s4)])) (st30) ?_
            refine own_go (S' := T30.setTop (mkF m 108 #[.val (.int p1), .val (.int p2), .val (.int ((p1 &&& (2147483647 : Int32)) % (6 : Int32))), .val (.ref s4), .unset] [])) (fun tg kk => XS.astoreN X30.here hx rfl (hb hby at_107) rfl rfl (l' := #[.val (.int p1), .val (.int p2), .val (.int ((p1 &&& (2147483647 : Int32)) % (6 : Int32))), .val (.ref s4), .unset]) rfl kk) ?_
            refine own_go (S' := T30.setTop (mkF m 109 #[.val (.int p1), .val (.int p2), .val (.int ((p1 &&& (2147483647 : Int32)) % (6 : Int32))), .val (.ref s4), .unset] [(.int p2)])) (fun tg kk => XS.iloadN X30.here hx rfl (hb hby at_108) rfl kk) ?_
            by_cases c31 : 0 < p2
            · refine own_go (S' := T30.setTop (mkF m 112 #[.val (.int p1), .val (.int p2), .val (.int ((p1 &&& (2147483647 : Int32)) % (6 : Int32))), .val (.ref s4), .unset] [])) (fun tg kk => XS.ifNo X30.here hx rfl (hb hby at_109) rfl (XT.i0_le_f c31) kk) ?_
              refine own_go (S' := T30.setTop (mkF m 113 #[.val (.int p1), .val (.int p2), .val (.int ((p1 &&& (2147483647 : Int32)) % (6 : Int32))), .val (.ref s4), .unset] [(.int (1 : Int32))])) (fun tg kk => XT.iconstV X30.here hx rfl (1 : Int32) (hb hby at_112) (by decide) kk) ?_
              refine own_go (S' := T30.setTop (mkF m 117 #[.val (.int p1), .val (.int p2), .val (.int ((p1 &&& (2147483647 : Int32)) % (6 : Int32))), .val (.ref s4), .unset] [(.int (1 : Int32))])) (fun tg kk => XS.goto X30.here hx rfl (pc0 := 113) (pc' := 117) rfl (hb hby at_113) (by decide) (by decide) kk) ?_
              refine own_go (S' := T30.setTop (mkF m 119 #[.val (.int p1), .val (.int p2), .val (.int ((p1 &&& (2147483647 : Int32)) % (6 : Int32))), .val (.ref s4), .val (.int (1 : Int32))] [])) (fun tg kk => XS.istore X30.here hx rfl (hb hby at_117) rfl (l' := #[.val (.int p1), .val (.int p2), .val (.int ((p1 &&& (2147483647 : Int32)) % (6 : Int32))), .val (.ref s4), .val (.int (1 : Int32))]) rfl kk) ?_
              refine own_go (S' := T30.setTop (mkF m 137 #[.val (.int p1), .val (.int p2), .val (.int ((p1 &&& (2147483647 : Int32)) % (6 : Int32))), .val (.ref s4), .val (.int (1 : Int32))] [])) (fun tg kk => XS.goto X30.here hx rfl (pc0 := 119) (pc' := 137) rfl (hb hby at_119) (by decide) (by decide) kk) ?_
              refine own_go (S' := T30.setTop (mkF m 138 #[.val (.int p1), .val (.int p2), .val (.int ((p1 &&& (2147483647 : Int32)) % (6 : Int32))), .val (.ref s4), .val (.int (1 : Int32))] [(.ref s4)])) (fun tg kk => XS.aloadN X30.here hx rfl (hb hby at_137) rfl rfl kk) ?_
              refine own_go (S' := T30.setTop (mkF m 139 #[.val (.int p1), .val (.int p2), .val (.int ((p1 &&& (2147483647 : Int32)) % (6 : Int32))), .val (.ref s4), .val (.int (1 : Int32))] [(.int p2), (.ref s4)])) (fun tg kk => XS.iloadN X30.here hx rfl (hb hby at_138) rfl kk) ?_
              obtain ⟨cq32, kq32, qa32, qb32, qc32⟩ := isOf hZ e30 (E_GREATER_THAN.ext O0.2)
              obtain ⟨v32, _, ⟨T32, L32, k32, n32⟩, -, X32, ⟨Lc32, hQ32, l32, y32, z32⟩, st32⟩ := X30.virtualBack hx (y := (⟨"com/example/coordinator/coordinator/control/Qualifier$Operator", "holds", "(I)Z"⟩ : MethodName)) (z := (⟨"com/example/coordinator/coordinator/control/Qualifier$Operator", "holds", "(I)Z"⟩ : MethodName)) hown (mvT hZ (hw _ (List.mem_of_getElem? (i := 4) rfl))) (mvT hZ (hw _ (List.mem_of_getElem? (i := 5) rfl))) (notFace_of_selects (args := #[]) (mvT hZ (hw _ (List.mem_of_getElem? (i := 7) rfl)))) (mvT hZ (hw _ (List.mem_of_getElem? (i := 7) rfl))) (mvT hZ (hw _ (List.mem_of_getElem? (i := 6) rfl))) (by decide) (backOf (W := 0) (rm1 l Z a0 hw [] s4 p2 (0 : Int32) (0 : Int32) (1 : Int32) h0 n0 Z0 O0 F_GREATER_THAN_whenLess F_GREATER_THAN_whenEqual F_GREATER_THAN_whenGreater rfl rfl rfl) hZ (hw _ (List.mem_of_getElem? (i := 8) rfl)) (hw _ (List.mem_of_getElem? (i := 2) rfl)) (by decide) (by decide)) qa32 qc32 (g := (mkF m 139 #[.val (.int p1), .val (.int p2), .val (.int ((p1 &&& (2147483647 : Int32)) % (6 : Int32))), .val (.ref s4), .val (.int (1 : Int32))] [(.int p2), (.ref s4)])) rfl (by rw [hml]; rfl) (Steps.refl _) (argsL := [(.int p2)]) (rest := []) (lenOf pd__I_Z rfl) rfl (by show 2 * 0 + _ ≤ _; exact Nat.le_of_eq rfl) (hb hby at_139) (fun _ _ => ⟨rfl, e30, (by decide : 0 + 0 ≤ _), (by decide : 0 + 0 ≤ _)⟩)
              dsimp only [Pt.U, Pt.locs, Pt.cells, Pt.slots] at X32 l32 y32 z32 st32 hQ32
              subst l32 y32 z32
              obtain ⟨hv32, M33, e32⟩ := hQ32
              obtain rfl : v32 = some (.int (1 : Int32)) := by rw [hv32]; rw [own_h_GREATER_THAN, if_pos c31]
              have N33 := Fr.app N0 M33
              refine own_to (S' := T32.setTop (mkF m 142 #[.val (.int p1), .val (.int p2), .val (.int ((p1 &&& (2147483647 : Int32)) % (6 : Int32))), .val (.ref s4), .val (.int (1 : Int32))] [(.int (1 : Int32))])) st32 ?_
              refine own_go (S' := T32.setTop (mkF m 144 #[.val (.int p1), .val (.int p2), .val (.int ((p1 &&& (2147483647 : Int32)) % (6 : Int32))), .val (.ref s4), .val (.int (1 : Int32))] [(.int (1 : Int32)), (.int (1 : Int32))])) (fun tg kk => XS.iload X32.here hx rfl (hb hby at_142) rfl kk) ?_
              refine own_go (S' := T32.setTop (mkF m 147 #[.val (.int p1), .val (.int p2), .val (.int ((p1 &&& (2147483647 : Int32)) % (6 : Int32))), .val (.ref s4), .val (.int (1 : Int32))] [])) (fun tg kk => XS.icmpNo X32.here hx rfl (hb hby at_144) rfl (XT.ii_ne_f (by decide)) kk) ?_
              refine own_go (S' := T32.setTop (mkF m 148 #[.val (.int p1), .val (.int p2), .val (.int ((p1 &&& (2147483647 : Int32)) % (6 : Int32))), .val (.ref s4), .val (.int (1 : Int32))] [(.int (1 : Int32))])) (fun tg kk => XT.iconstV X32.here hx rfl (1 : Int32) (hb hby at_147) (by decide) kk) ?_
              refine own_go (S' := T32.setTop (mkF m 152 #[.val (.int p1), .val (.int p2), .val (.int ((p1 &&& (2147483647 : Int32)) % (6 : Int32))), .val (.ref s4), .val (.int (1 : Int32))] [(.int (1 : Int32))])) (fun tg kk => XS.goto X32.here hx rfl (pc0 := 148) (pc' := 152) rfl (hb hby at_148) (by decide) (by decide) kk) ?_
              obtain ⟨fs, hr, hrun, hended, hW, hsame⟩ := X32.leave (v := some (.int (1 : Int32))) (fun h => by rw [Bd.returns] at h; cases h)
              refine ⟨_, _, retN X32 hx (t := .boolean) Bd.returns (by simp) (hb hby at_152) hr, hrun, hended, _, _, rfl, ?_, ⟨_, rfl⟩, hW, hsame.mono (by decide) (by decide)⟩
              show Q0 Z p1 p2 s0 s1 s2 s3 s4 s5 h0 n0 (some (.int (1 : Int32))) T32.heap _
              rw [e32]
              exact ⟨rfl, N33⟩
            · refine own_go (S' := T30.setTop (mkF m 116 #[.val (.int p1), .val (.int p2), .val (.int ((p1 &&& (2147483647 : Int32)) % (6 : Int32))), .val (.ref s4), .unset] [])) (fun tg kk => XS.ifYes X30.here hx rfl (pc0 := 109) (pc' := 116) rfl (hb hby at_109) rfl (XT.i0_le_t c31) (by decide) (by decide) kk) ?_
              refine own_go (S' := T30.setTop (mkF m 117 #[.val (.int p1), .val (.int p2), .val (.int ((p1 &&& (2147483647 : Int32)) % (6 : Int32))), .val (.ref s4), .unset] [(.int (0 : Int32))])) (fun tg kk => XT.iconstV X30.here hx rfl (0 : Int32) (hb hby at_116) (by decide) kk) ?_
              refine own_go (S' := T30.setTop (mkF m 119 #[.val (.int p1), .val (.int p2), .val (.int ((p1 &&& (2147483647 : Int32)) % (6 : Int32))), .val (.ref s4), .val (.int (0 : Int32))] [])) (fun tg kk => XS.istore X30.here hx rfl (hb hby at_117) rfl (l' := #[.val (.int p1), .val (.int p2), .val (.int ((p1 &&& (2147483647 : Int32)) % (6 : Int32))), .val (.ref s4), .val (.int (0 : Int32))]) rfl kk) ?_
              refine own_go (S' := T30.setTop (mkF m 137 #[.val (.int p1), .val (.int p2), .val (.int ((p1 &&& (2147483647 : Int32)) % (6 : Int32))), .val (.ref s4), .val (.int (0 : Int32))] [])) (fun tg kk => XS.goto X30.here hx rfl (pc0 := 119) (pc' := 137) rfl (hb hby at_119) (by decide) (by decide) kk) ?_
              refine own_go (S' := T30.setTop (mkF m 138 #[.val (.int p1), .val (.int p2), .val (.int ((p1 &&& (2147483647 : Int32)) % (6 : Int32))), .val (.ref s4), .val (.int (0 : Int32))] [(.ref s4)])) (fun tg kk => XS.aloadN X30.here hx rfl (hb hby at_137) rfl rfl kk) ?_
              refine own_go (S' := T30.setTop (mkF m 139 #[.val (.int p1), .val (.int p2), .val (.int ((p1 &&& (2147483647 : Int32)) % (6 : Int32))), .val (.ref s4), .val (.int (0 : Int32))] [(.int p2), (.ref s4)])) (fun tg kk => XS.iloadN X30.here hx rfl (hb hby at_138) rfl kk) ?_
              obtain ⟨cq34, kq34, qa34, qb34, qc34⟩ := isOf hZ e30 (E_GREATER_THAN.ext O0.2)
              obtain ⟨v34, _, ⟨T34, L34, k34, n34⟩, -, X34, ⟨Lc34, hQ34, l34, y34, z34⟩, st34⟩ := X30.virtualBack hx (y := (⟨"com/example/coordinator/coordinator/control/Qualifier$Operator", "holds", "(I)Z"⟩ : MethodName)) (z := (⟨"com/example/coordinator/coordinator/control/Qualifier$Operator", "holds", "(I)Z"⟩ : MethodName)) hown (mvT hZ (hw _ (List.mem_of_getElem? (i := 4) rfl))) (mvT hZ (hw _ (List.mem_of_getElem? (i := 5) rfl))) (notFace_of_selects (args := #[]) (mvT hZ (hw _ (List.mem_of_getElem? (i := 7) rfl)))) (mvT hZ (hw _ (List.mem_of_getElem? (i := 7) rfl))) (mvT hZ (hw _ (List.mem_of_getElem? (i := 6) rfl))) (by decide) (backOf (W := 0) (rm1 l Z a0 hw [] s4 p2 (0 : Int32) (0 : Int32) (1 : Int32) h0 n0 Z0 O0 F_GREATER_THAN_whenLess F_GREATER_THAN_whenEqual F_GREATER_THAN_whenGreater rfl rfl rfl) hZ (hw _ (List.mem_of_getElem? (i := 8) rfl)) (hw _ (List.mem_of_getElem? (i := 2) rfl)) (by decide) (by decide)) qa34 qc34 (g := (mkF m 139 #[.val (.int p1), .val (.int p2), .val (.int ((p1 &&& (2147483647 : Int32)) % (6 : Int32))), .val (.ref s4), .val (.int (0 : Int32))] [(.int p2), (.ref s4)])) rfl (by rw [hml]; rfl) (Steps.refl _) (argsL := [(.int p2)]) (rest := []) (lenOf pd__I_Z rfl) rfl (by show 2 * 0 + _ ≤ _; exact Nat.le_of_eq rfl) (hb hby at_139) (fun _ _ => ⟨rfl, e30, (by decide : 0 + 0 ≤ _), (by decide : 0 + 0 ≤ _)⟩)
              dsimp only [Pt.U, Pt.locs, Pt.cells, Pt.slots] at X34 l34 y34 z34 st34 hQ34
              subst l34 y34 z34
              obtain ⟨hv34, M35, e34⟩ := hQ34
              obtain rfl : v34 = some (.int (0 : Int32)) := by rw [hv34]; rw [own_h_GREATER_THAN, if_neg c31]
              have N35 := Fr.app N0 M35
              refine own_to (S' := T34.setTop (mkF m 142 #[.val (.int p1), .val (.int p2), .val (.int ((p1 &&& (2147483647 : Int32)) % (6 : Int32))), .val (.ref s4), .val (.int (0 : Int32))] [(.int (0 : Int32))])) st34 ?_
              refine own_go (S' := T34.setTop (mkF m 144 #[.val (.int p1), .val (.int p2), .val (.int ((p1 &&& (2147483647 : Int32)) % (6 : Int32))), .val (.ref s4), .val (.int (0 : Int32))] [(.int (0 : Int32)), (.int (0 : Int32))])) (fun tg kk => XS.iload X34.here hx rfl (hb hby at_142) rfl kk) ?_
              refine own_go (S' := T34.setTop (mkF m 147 #[.val (.int p1), .val (.int p2), .val (.int ((p1 &&& (2147483647 : Int32)) % (6 : Int32))), .val (.ref s4), .val (.int (0 : Int32))] [])) (fun tg kk => XS.icmpNo X34.here hx rfl (hb hby at_144) rfl (XT.ii_ne_f (by decide)) kk) ?_
              refine own_go (S' := T34.setTop (mkF m 148 #[.val (.int p1), .val (.int p2), .val (.int ((p1 &&& (2147483647 : Int32)) % (6 : Int32))), .val (.ref s4), .val (.int (0 : Int32))] [(.int (1 : Int32))])) (fun tg kk => XT.iconstV X34.here hx rfl (1 : Int32) (hb hby at_147) (by decide) kk) ?_
              refine own_go (S' := T34.setTop (mkF m 152 #[.val (.int p1), .val (.int p2), .val (.int ((p1 &&& (2147483647 : Int32)) % (6 : Int32))), .val (.ref s4), .val (.int (0 : Int32))] [(.int (1 : Int32))])) (fun tg kk => XS.goto X34.here hx rfl (pc0 := 148) (pc' := 152) rfl (hb hby at_148) (by decide) (by decide) kk) ?_
              obtain ⟨fs, hr, hrun, hended, hW, hsame⟩ := X34.leave (v := some (.int (1 : Int32))) (fun h => by rw [Bd.returns] at h; cases h)
              refine ⟨_, _, retN X34 hx (t := .boolean) Bd.returns (by simp) (hb hby at_152) hr, hrun, hended, _, _, rfl, ?_, ⟨_, rfl⟩, hW, hsame.mono (by decide) (by decide)⟩
              show Q0 Z p1 p2 s0 s1 s2 s3 s4 s5 h0 n0 (some (.int (1 : Int32))) T34.heap _
              rw [e34]
              exact ⟨rfl, N35⟩
          · refine own_go (S' := s₁.setTop (mkF m 122 #[.val (.int p1), .val (.int p2), .val (.int ((p1 &&& (2147483647 : Int32)) % (6 : Int32))), .unset, .unset] [])) (fun tg kk => XS.icmpYes X0.here hx rfl (pc0 := 101) (pc' := 122) rfl (hb hby at_101) rfl (XT.ii_ne_t c29) (by decide) (by decide) kk) ?_
            obtain ⟨T36, X36, e36, st36⟩ := getS (host := "") X0 hx hZ hown (hw _ (List.mem_of_getElem? (i := 19) rfl)) Via.refl e0 (S_GREATER_THAN_OR_EQUAL.ext O0.2) (g := (mkF m 122 #[.val (.int p1), .val (.int p2), .val (.int ((p1 &&& (2147483647 : Int32)) % (6 : Int32))), .unset, .unset] [])) rfl (hb hby at_122)
            refine own_go (S' := T36.setTop (mkF m 125 #[.val (.int p1), .val (.int p2), .val (.int ((p1 &&& (2147483647 : Int32)) % (6 : Int32))), .unset, .unset] [(.ref s5)])) (st36) ?_
            refine own_go (S' := T36.setTop (mkF m 126 #[.val (.int p1), .val (.int p2), .val (.int ((p1 &&& (2147483647 : Int32)) % (6 : Int32))), .val (.ref s5), .unset] [])) (fun tg kk => XS.astoreN X36.here hx rfl (hb hby at_125) rfl rfl (l' := #[.val (.int p1), .val (.int p2), .val (.int ((p1 &&& (2147483647 : Int32)) % (6 : Int32))), .val (.ref s5), .unset]) rfl kk) ?_
            refine own_go (S' := T36.setTop (mkF m 127 #[.val (.int p1), .val (.int p2), .val (.int ((p1 &&& (2147483647 : Int32)) % (6 : Int32))), .val (.ref s5), .unset] [(.int p2)])) (fun tg kk => XS.iloadN X36.here hx rfl (hb hby at_126) rfl kk) ?_
            by_cases c37 : p2 < 0
            · refine own_go (S' := T36.setTop (mkF m 134 #[.val (.int p1), .val (.int p2), .val (.int ((p1 &&& (2147483647 : Int32)) % (6 : Int32))), .val (.ref s5), .unset] [])) (fun tg kk => XS.ifYes X36.here hx rfl (pc0 := 127) (pc' := 134) rfl (hb hby at_127) rfl (XT.i0_lt_t c37) (by decide) (by decide) kk) ?_
              refine own_go (S' := T36.setTop (mkF m 135 #[.val (.int p1), .val (.int p2), .val (.int ((p1 &&& (2147483647 : Int32)) % (6 : Int32))), .val (.ref s5), .unset] [(.int (0 : Int32))])) (fun tg kk => XT.iconstV X36.here hx rfl (0 : Int32) (hb hby at_134) (by decide) kk) ?_
              refine own_go (S' := T36.setTop (mkF m 137 #[.val (.int p1), .val (.int p2), .val (.int ((p1 &&& (2147483647 : Int32)) % (6 : Int32))), .val (.ref s5), .val (.int (0 : Int32))] [])) (fun tg kk => XS.istore X36.here hx rfl (hb hby at_135) rfl (l' := #[.val (.int p1), .val (.int p2), .val (.int ((p1 &&& (2147483647 : Int32)) % (6 : Int32))), .val (.ref s5), .val (.int (0 : Int32))]) rfl kk) ?_
              refine own_go (S' := T36.setTop (mkF m 138 #[.val (.int p1), .val (.int p2), .val (.int ((p1 &&& (2147483647 : Int32)) % (6 : Int32))), .val (.ref s5), .val (.int (0 : Int32))] [(.ref s5)])) (fun tg kk => XS.aloadN X36.here hx rfl (hb hby at_137) rfl rfl kk) ?_
              refine own_go (S' := T36.setTop (mkF m 139 #[.val (.int p1), .val (.int p2), .val (.int ((p1 &&& (2147483647 : Int32)) % (6 : Int32))), .val (.ref s5), .val (.int (0 : Int32))] [(.int p2), (.ref s5)])) (fun tg kk => XS.iloadN X36.here hx rfl (hb hby at_138) rfl kk) ?_
              obtain ⟨cq38, kq38, qa38, qb38, qc38⟩ := isOf hZ e36 (E_GREATER_THAN_OR_EQUAL.ext O0.2)
              obtain ⟨v38, _, ⟨T38, L38, k38, n38⟩, -, X38, ⟨Lc38, hQ38, l38, y38, z38⟩, st38⟩ := X36.virtualBack hx (y := (⟨"com/example/coordinator/coordinator/control/Qualifier$Operator", "holds", "(I)Z"⟩ : MethodName)) (z := (⟨"com/example/coordinator/coordinator/control/Qualifier$Operator", "holds", "(I)Z"⟩ : MethodName)) hown (mvT hZ (hw _ (List.mem_of_getElem? (i := 4) rfl))) (mvT hZ (hw _ (List.mem_of_getElem? (i := 5) rfl))) (notFace_of_selects (args := #[]) (mvT hZ (hw _ (List.mem_of_getElem? (i := 7) rfl)))) (mvT hZ (hw _ (List.mem_of_getElem? (i := 7) rfl))) (mvT hZ (hw _ (List.mem_of_getElem? (i := 6) rfl))) (by decide) (backOf (W := 0) (rm1 l Z a0 hw [] s5 p2 (0 : Int32) (1 : Int32) (1 : Int32) h0 n0 Z0 O0 F_GREATER_THAN_OR_EQUAL_whenLess F_GREATER_THAN_OR_EQUAL_whenEqual F_GREATER_THAN_OR_EQUAL_whenGreater rfl rfl rfl) hZ (hw _ (List.mem_of_getElem? (i := 8) rfl)) (hw _ (List.mem_of_getElem? (i := 2) rfl)) (by decide) (by decide)) qa38 qc38 (g := (mkF m 139 #[.val (.int p1), .val (.int p2), .val (.int ((p1 &&& (2147483647 : Int32)) % (6 : Int32))), .val (.ref s5), .val (.int (0 : Int32))] [(.int p2), (.ref s5)])) rfl (by rw [hml]; rfl) (Steps.refl _) (argsL := [(.int p2)]) (rest := []) (lenOf pd__I_Z rfl) rfl (by show 2 * 0 + _ ≤ _; exact Nat.le_of_eq rfl) (hb hby at_139) (fun _ _ => ⟨rfl, e36, (by decide : 0 + 0 ≤ _), (by decide : 0 + 0 ≤ _)⟩)
              dsimp only [Pt.U, Pt.locs, Pt.cells, Pt.slots] at X38 l38 y38 z38 st38 hQ38
              subst l38 y38 z38
              obtain ⟨hv38, M39, e38⟩ := hQ38
              obtain rfl : v38 = some (.int (0 : Int32)) := by rw [hv38]; rw [own_h_GREATER_THAN_OR_EQUAL, if_pos c37]
              have N39 := Fr.app N0 M39
              refine own_to (S' := T38.setTop (mkF m 142 #[.val (.int p1), .val (.int p2), .val (.int ((p1 &&& (2147483647 : Int32)) % (6 : Int32))), .val (.ref s5), .val (.int (0 : Int32))] [(.int (0 : Int32))])) st38 ?_
              refine own_go (S' := T38.setTop (mkF m 144 #[.val (.int p1), .val (.int p2), .val (.int ((p1 &&& (2147483647 : Int32)) % (6 : Int32))), .val (.ref s5), .val (.int (0 : Int32))] [(.int (0 : Int32)), (.int (0 : Int32))])) (fun tg kk => XS.iload X38.here hx rfl (hb hby at_142) rfl kk) ?_
              refine own_go (S' := T38.setTop (mkF m 147 #[.val (.int p1), .val (.int p2), .val (.int ((p1 &&& (2147483647 : Int32)) % (6 : Int32))), .val (.ref s5), .val (.int (0 : Int32))] [])) (fun tg kk => XS.icmpNo X38.here hx rfl (hb hby at_144) rfl (XT.ii_ne_f (by decide)) kk) ?_
              refine own_go (S' := T38.setTop (mkF m 148 #[.val (.int p1), .val (.int p2), .val (.int ((p1 &&& (2147483647 : Int32)) % (6 : Int32))), .val (.ref s5), .val (.int (0 : Int32))] [(.int (1 : Int32))])) (fun tg kk => XT.iconstV X38.here hx rfl (1 : Int32) (hb hby at_147) (by decide) kk) ?_
              refine own_go (S' := T38.setTop (mkF m 152 #[.val (.int p1), .val (.int p2), .val (.int ((p1 &&& (2147483647 : Int32)) % (6 : Int32))), .val (.ref s5), .val (.int (0 : Int32))] [(.int (1 : Int32))])) (fun tg kk => XS.goto X38.here hx rfl (pc0 := 148) (pc' := 152) rfl (hb hby at_148) (by decide) (by decide) kk) ?_
              obtain ⟨fs, hr, hrun, hended, hW, hsame⟩ := X38.leave (v := some (.int (1 : Int32))) (fun h => by rw [Bd.returns] at h; cases h)
              refine ⟨_, _, retN X38 hx (t := .boolean) Bd.returns (by simp) (hb hby at_152) hr, hrun, hended, _, _, rfl, ?_, ⟨_, rfl⟩, hW, hsame.mono (by decide) (by decide)⟩
              show Q0 Z p1 p2 s0 s1 s2 s3 s4 s5 h0 n0 (some (.int (1 : Int32))) T38.heap _
              rw [e38]
              exact ⟨rfl, N39⟩
            · refine own_go (S' := T36.setTop (mkF m 130 #[.val (.int p1), .val (.int p2), .val (.int ((p1 &&& (2147483647 : Int32)) % (6 : Int32))), .val (.ref s5), .unset] [])) (fun tg kk => XS.ifNo X36.here hx rfl (hb hby at_127) rfl (XT.i0_lt_f c37) kk) ?_
              refine own_go (S' := T36.setTop (mkF m 131 #[.val (.int p1), .val (.int p2), .val (.int ((p1 &&& (2147483647 : Int32)) % (6 : Int32))), .val (.ref s5), .unset] [(.int (1 : Int32))])) (fun tg kk => XT.iconstV X36.here hx rfl (1 : Int32) (hb hby at_130) (by decide) kk) ?_
              refine own_go (S' := T36.setTop (mkF m 135 #[.val (.int p1), .val (.int p2), .val (.int ((p1 &&& (2147483647 : Int32)) % (6 : Int32))), .val (.ref s5), .unset] [(.int (1 : Int32))])) (fun tg kk => XS.goto X36.here hx rfl (pc0 := 131) (pc' := 135) rfl (hb hby at_131) (by decide) (by decide) kk) ?_
              refine own_go (S' := T36.setTop (mkF m 137 #[.val (.int p1), .val (.int p2), .val (.int ((p1 &&& (2147483647 : Int32)) % (6 : Int32))), .val (.ref s5), .val (.int (1 : Int32))] [])) (fun tg kk => XS.istore X36.here hx rfl (hb hby at_135) rfl (l' := #[.val (.int p1), .val (.int p2), .val (.int ((p1 &&& (2147483647 : Int32)) % (6 : Int32))), .val (.ref s5), .val (.int (1 : Int32))]) rfl kk) ?_
              refine own_go (S' := T36.setTop (mkF m 138 #[.val (.int p1), .val (.int p2), .val (.int ((p1 &&& (2147483647 : Int32)) % (6 : Int32))), .val (.ref s5), .val (.int (1 : Int32))] [(.ref s5)])) (fun tg kk => XS.aloadN X36.here hx rfl (hb hby at_137) rfl rfl kk) ?_
              refine own_go (S' := T36.setTop (mkF m 139 #[.val (.int p1), .val (.int p2), .val (.int ((p1 &&& (2147483647 : Int32)) % (6 : Int32))), .val (.ref s5), .val (.int (1 : Int32))] [(.int p2), (.ref s5)])) (fun tg kk => XS.iloadN X36.here hx rfl (hb hby at_138) rfl kk) ?_
              obtain ⟨cq40, kq40, qa40, qb40, qc40⟩ := isOf hZ e36 (E_GREATER_THAN_OR_EQUAL.ext O0.2)
              obtain ⟨v40, _, ⟨T40, L40, k40, n40⟩, -, X40, ⟨Lc40, hQ40, l40, y40, z40⟩, st40⟩ := X36.virtualBack hx (y := (⟨"com/example/coordinator/coordinator/control/Qualifier$Operator", "holds", "(I)Z"⟩ : MethodName)) (z := (⟨"com/example/coordinator/coordinator/control/Qualifier$Operator", "holds", "(I)Z"⟩ : MethodName)) hown (mvT hZ (hw _ (List.mem_of_getElem? (i := 4) rfl))) (mvT hZ (hw _ (List.mem_of_getElem? (i := 5) rfl))) (notFace_of_selects (args := #[]) (mvT hZ (hw _ (List.mem_of_getElem? (i := 7) rfl)))) (mvT hZ (hw _ (List.mem_of_getElem? (i := 7) rfl))) (mvT hZ (hw _ (List.mem_of_getElem? (i := 6) rfl))) (by decide) (backOf (W := 0) (rm1 l Z a0 hw [] s5 p2 (0 : Int32) (1 : Int32) (1 : Int32) h0 n0 Z0 O0 F_GREATER_THAN_OR_EQUAL_whenLess F_GREATER_THAN_OR_EQUAL_whenEqual F_GREATER_THAN_OR_EQUAL_whenGreater rfl rfl rfl) hZ (hw _ (List.mem_of_getElem? (i := 8) rfl)) (hw _ (List.mem_of_getElem? (i := 2) rfl)) (by decide) (by decide)) qa40 qc40 (g := (mkF m 139 #[.val (.int p1), .val (.int p2), .val (.int ((p1 &&& (2147483647 : Int32)) % (6 : Int32))), .val (.ref s5), .val (.int (1 : Int32))] [(.int p2), (.ref s5)])) rfl (by rw [hml]; rfl) (Steps.refl _) (argsL := [(.int p2)]) (rest := []) (lenOf pd__I_Z rfl) rfl (by show 2 * 0 + _ ≤ _; exact Nat.le_of_eq rfl) (hb hby at_139) (fun _ _ => ⟨rfl, e36, (by decide : 0 + 0 ≤ _), (by decide : 0 + 0 ≤ _)⟩)
              dsimp only [Pt.U, Pt.locs, Pt.cells, Pt.slots] at X40 l40 y40 z40 st40 hQ40
              subst l40 y40 z40
              obtain ⟨hv40, M41, e40⟩ := hQ40
              obtain rfl : v40 = some (.int (1 : Int32)) := by rw [hv40]; rw [own_h_GREATER_THAN_OR_EQUAL, if_neg c37]
              have N41 := Fr.app N0 M41
              refine own_to (S' := T40.setTop (mkF m 142 #[.val (.int p1), .val (.int p2), .val (.int ((p1 &&& (2147483647 : Int32)) % (6 : Int32))), .val (.ref s5), .val (.int (1 : Int32))] [(.int (1 : Int32))])) st40 ?_
              refine own_go (S' := T40.setTop (mkF m 144 #[.val (.int p1), .val (.int p2), .val (.int ((p1 &&& (2147483647 : Int32)) % (6 : Int32))), .val (.ref s5), .val (.int (1 : Int32))] [(.int (1 : Int32)), (.int (1 : Int32))])) (fun tg kk => XS.iload X40.here hx rfl (hb hby at_142) rfl kk) ?_
              refine own_go (S' := T40.setTop (mkF m 147 #[.val (.int p1), .val (.int p2), .val (.int ((p1 &&& (2147483647 : Int32)) % (6 : Int32))), .val (.ref s5), .val (.int (1 : Int32))] [])) (fun tg kk => XS.icmpNo X40.here hx rfl (hb hby at_144) rfl (XT.ii_ne_f (by decide)) kk) ?_
              refine own_go (S' := T40.setTop (mkF m 148 #[.val (.int p1), .val (.int p2), .val (.int ((p1 &&& (2147483647 : Int32)) % (6 : Int32))), .val (.ref s5), .val (.int (1 : Int32))] [(.int (1 : Int32))])) (fun tg kk => XT.iconstV X40.here hx rfl (1 : Int32) (hb hby at_147) (by decide) kk) ?_
              refine own_go (S' := T40.setTop (mkF m 152 #[.val (.int p1), .val (.int p2), .val (.int ((p1 &&& (2147483647 : Int32)) % (6 : Int32))), .val (.ref s5), .val (.int (1 : Int32))] [(.int (1 : Int32))])) (fun tg kk => XS.goto X40.here hx rfl (pc0 := 148) (pc' := 152) rfl (hb hby at_148) (by decide) (by decide) kk) ?_
              obtain ⟨fs, hr, hrun, hended, hW, hsame⟩ := X40.leave (v := some (.int (1 : Int32))) (fun h => by rw [Bd.returns] at h; cases h)
              refine ⟨_, _, retN X40 hx (t := .boolean) Bd.returns (by simp) (hb hby at_152) hr, hrun, hended, _, _, rfl, ?_, ⟨_, rfl⟩, hW, hsame.mono (by decide) (by decide)⟩
              show Q0 Z p1 p2 s0 s1 s2 s3 s4 s5 h0 n0 (some (.int (1 : Int32))) T40.heap _
              rw [e40]
              exact ⟨rfl, N41⟩
set_option maxRecDepth 65536 in
set_option maxHeartbeats 40000000 in
theorem comes_1 {Post : Tables → Env → Array Value → State → Outcome → State → Prop} (hpost : ∀ tb e args s v u, (limb_1_1.after args s (.returned v) u = true ∧ limb_1_2.after args s (.returned v) u = true ∧ True) → FrameEnd s (.returned v) u (Jvm.fieldLocs frame_1_writes args s ++ Jvm.arrayLocs frame_1_arrays args s ++ Jvm.staticLocs frame_1_statics s) 0 0 → Post tb e args s (.returned v) u) :
    ArmFor flags0 classFile x code maxLocals ret World_1 tables_1 room_1 Calls_1 rest_1 Pre_1 Post := by
  intro l hfl _ _ p e ha hc hk s m args below hf hA hF happ hP
  obtain ⟨hcalls, hrest, hpre⟩ := hP
  obtain ⟨-, -, -, hnamed, -, -, -, hat⟩ := (Spec.applies_iff hf).mp happ
  obtain ⟨hg, hn⟩ := and_e (Cond.before_iff.mp (show (Jvm.Cond.and given_1 narrow_1).before args s = true from hpre))
  obtain ⟨hgl, hgr⟩ := and_e hg
  obtain ⟨hgrl, hgrr⟩ := and_e hgr
  obtain ⟨w0, w1, rfl⟩ : ∃ w0 w1 : Value, args = #[w0, w1] := by
    have hs : args.size = 2 := by simpa [Cond.value] using hgl
    obtain ⟨L⟩ := args
    match L, hs with
    | [w0, w1], _ => exact ⟨w0, w1, rfl⟩
  have hw := fun d (hd : d ∈ tables_1) => atoms_spec (ws := Jvm.Cond.code x code maxLocals ret :: tables_1) hat d (List.mem_cons_of_mem _ hd)
  have hfit : Fit s := fun {y c} hc i hi => by
    obtain ⟨ha, rfl⟩ := Array.getElem?_eq_some_iff.mp hc
    have q := List.all_eq_true.mp ((Array.all_eq_true_iff_forall_mem.mp hF) _ (Array.getElem_mem ha)) i (List.mem_range.mpr hi)
    simpa [Array.getElem?_eq_getElem hi] using q
  obtain ⟨p1, ew0⟩ := is_v hgrl
  obtain rfl : w0 = (.int p1) := Option.some.inj ew0
  obtain ⟨p2, ew1⟩ := is_v hgrr
  obtain rfl : w1 = (.int p2) := Option.some.inj ew1
  obtain ⟨hnl, hnr⟩ := and_e hn
  obtain ⟨hnrl, hnrr⟩ := and_e hnr
  obtain ⟨hnrrl, hnrrr⟩ := and_e hnrr
  obtain ⟨hnrrrl, hnrrrr⟩ := and_e hnrrr
  obtain ⟨hnrrrrl, hnrrrrr⟩ := and_e hnrrrr
  obtain ⟨hnrrrrrl, hnrrrrrr⟩ := and_e hnrrrrr
  obtain ⟨hnrrrrrrl, hnrrrrrrr⟩ := and_e hnrrrrrr
  obtain ⟨hnrrrrrrrl, hnrrrrrrrr⟩ := and_e hnrrrrrrr
  obtain ⟨hnrrrrrrrrl, hnrrrrrrrrr⟩ := and_e hnrrrrrrrr
  obtain ⟨hnrrrrrrrrrl, hnrrrrrrrrrr⟩ := and_e hnrrrrrrrrr
  obtain ⟨hnrrrrrrrrrrl, hnrrrrrrrrrrr⟩ := and_e hnrrrrrrrrrr
  obtain ⟨hnrrrrrrrrrrrl, hnrrrrrrrrrrrr⟩ := and_e hnrrrrrrrrrrr
  obtain ⟨hnrrrrrrrrrrrrl, hnrrrrrrrrrrrrr⟩ := and_e hnrrrrrrrrrrrr
  obtain ⟨hnrrrrrrrrrrrrrl, hnrrrrrrrrrrrrrr⟩ := and_e hnrrrrrrrrrrrrr
  obtain ⟨hnrrrrrrrrrrrrrrl, hnrrrrrrrrrrrrrrr⟩ := and_e hnrrrrrrrrrrrrrr
  obtain ⟨hnrrrrrrrrrrrrrrrl, hnrrrrrrrrrrrrrrrr⟩ := and_e hnrrrrrrrrrrrrrrr
  obtain ⟨hnrrrrrrrrrrrrrrrrl, hnrrrrrrrrrrrrrrrrr⟩ := and_e hnrrrrrrrrrrrrrrrr
  obtain ⟨hnrrrrrrrrrrrrrrrrrl, hnrrrrrrrrrrrrrrrrrr⟩ := and_e hnrrrrrrrrrrrrrrrrr
  obtain ⟨hnrrrrrrrrrrrrrrrrrrl, hnrrrrrrrrrrrrrrrrrrr⟩ := and_e hnrrrrrrrrrrrrrrrrrr
  obtain ⟨hnrrrrrrrrrrrrrrrrrrrl, hnrrrrrrrrrrrrrrrrrrrr⟩ := and_e hnrrrrrrrrrrrrrrrrrrr
  obtain ⟨hnrrrrrrrrrrrrrrrrrrrrl, hnrrrrrrrrrrrrrrrrrrrrr⟩ := and_e hnrrrrrrrrrrrrrrrrrrrr
  obtain ⟨hnrrrrrrrrrrrrrrrrrrrrrl, hnrrrrrrrrrrrrrrrrrrrrrr⟩ := and_e hnrrrrrrrrrrrrrrrrrrrrr
  obtain ⟨hnrrrrrrrrrrrrrrrrrrrrrrl, hnrrrrrrrrrrrrrrrrrrrrrrr⟩ := and_e hnrrrrrrrrrrrrrrrrrrrrrr
  obtain ⟨s_EQUAL, ev_EQUAL⟩ := exa_v hnl
  have E_EQUAL := Exa.start ev_EQUAL hnl
  have S_EQUAL := Sta.start ev_EQUAL (Or.inr ⟨(hw _ (List.mem_of_getElem? (i := 2) rfl)), (hw _ (List.mem_of_getElem? (i := 3) rfl))⟩)
  obtain ⟨s_LESS_THAN, ev_LESS_THAN⟩ := exa_v hnrrl
  have E_LESS_THAN := Exa.start ev_LESS_THAN hnrrl
  have S_LESS_THAN := Sta.start ev_LESS_THAN (Or.inr ⟨(hw _ (List.mem_of_getElem? (i := 2) rfl)), (hw _ (List.mem_of_getElem? (i := 12) rfl))⟩)
  obtain ⟨s_GREATER_THAN, ev_GREATER_THAN⟩ := exa_v hnrrrrrl
  have E_GREATER_THAN := Exa.start ev_GREATER_THAN hnrrrrrl
  have S_GREATER_THAN := Sta.start ev_GREATER_THAN (Or.inr ⟨(hw _ (List.mem_of_getElem? (i := 2) rfl)), (hw _ (List.mem_of_getElem? (i := 16) rfl))⟩)
  obtain ⟨s_NOT_EQUAL, ev_NOT_EQUAL⟩ := exa_v hnrrrrrrrl
  have E_NOT_EQUAL := Exa.start ev_NOT_EQUAL hnrrrrrrrl
  have S_NOT_EQUAL := Sta.start ev_NOT_EQUAL (Or.inr ⟨(hw _ (List.mem_of_getElem? (i := 2) rfl)), (hw _ (List.mem_of_getElem? (i := 18) rfl))⟩)
  obtain ⟨s_GREATER_THAN_OR_EQUAL, ev_GREATER_THAN_OR_EQUAL⟩ := exa_v hnrrrrrrrrrrl
  have E_GREATER_THAN_OR_EQUAL := Exa.start ev_GREATER_THAN_OR_EQUAL hnrrrrrrrrrrl
  have S_GREATER_THAN_OR_EQUAL := Sta.start ev_GREATER_THAN_OR_EQUAL (Or.inr ⟨(hw _ (List.mem_of_getElem? (i := 2) rfl)), (hw _ (List.mem_of_getElem? (i := 20) rfl))⟩)
  obtain ⟨s_LESS_THAN_OR_EQUAL, ev_LESS_THAN_OR_EQUAL⟩ := exa_v hnrrrrrrrrrrrrl
  have E_LESS_THAN_OR_EQUAL := Exa.start ev_LESS_THAN_OR_EQUAL hnrrrrrrrrrrrrl
  have S_LESS_THAN_OR_EQUAL := Sta.start ev_LESS_THAN_OR_EQUAL (Or.inr ⟨(hw _ (List.mem_of_getElem? (i := 2) rfl)), (hw _ (List.mem_of_getElem? (i := 22) rfl))⟩)
  have F_EQUAL_whenGreater : Fld s s.heap s_EQUAL "com/example/coordinator/coordinator/control/Qualifier$Operator" "whenGreater" "Z" (.int (0 : Int32)) := Fld.start ((fld_at ev_EQUAL).symm.trans (Cond.eq_int (Cond.before_iff.mpr hnrl) rfl))
  have F_LESS_THAN_whenGreater : Fld s s.heap s_LESS_THAN "com/example/coordinator/coordinator/control/Qualifier$Operator" "whenGreater" "Z" (.int (0 : Int32)) := Fld.start ((fld_at ev_LESS_THAN).symm.trans (Cond.eq_int (Cond.before_iff.mpr hnrrrl) rfl))
  have F_LESS_THAN_whenLess : Fld s s.heap s_LESS_THAN "com/example/coordinator/coordinator/control/Qualifier$Operator" "whenLess" "Z" (.int (1 : Int32)) := Fld.start ((fld_at ev_LESS_THAN).symm.trans (Cond.eq_int (Cond.before_iff.mpr hnrrrrl) rfl))
  have F_GREATER_THAN_whenLess : Fld s s.heap s_GREATER_THAN "com/example/coordinator/coordinator/control/Qualifier$Operator" "whenLess" "Z" (.int (0 : Int32)) := Fld.start ((fld_at ev_GREATER_THAN).symm.trans (Cond.eq_int (Cond.before_iff.mpr hnrrrrrrl) rfl))
  have F_NOT_EQUAL_whenGreater : Fld s s.heap s_NOT_EQUAL "com/example/coordinator/coordinator/control/Qualifier$Operator" "whenGreater" "Z" (.int (1 : Int32)) := Fld.start ((fld_at ev_NOT_EQUAL).symm.trans (Cond.eq_int (Cond.before_iff.mpr hnrrrrrrrrl) rfl))
  have F_EQUAL_whenLess : Fld s s.heap s_EQUAL "com/example/coordinator/coordinator/control/Qualifier$Operator" "whenLess" "Z" (.int (0 : Int32)) := Fld.start ((fld_at ev_EQUAL).symm.trans (Cond.eq_int (Cond.before_iff.mpr hnrrrrrrrrrl) rfl))
  have F_GREATER_THAN_OR_EQUAL_whenGreater : Fld s s.heap s_GREATER_THAN_OR_EQUAL "com/example/coordinator/coordinator/control/Qualifier$Operator" "whenGreater" "Z" (.int (1 : Int32)) := Fld.start ((fld_at ev_GREATER_THAN_OR_EQUAL).symm.trans (Cond.eq_int (Cond.before_iff.mpr hnrrrrrrrrrrrl) rfl))
  have F_LESS_THAN_OR_EQUAL_whenGreater : Fld s s.heap s_LESS_THAN_OR_EQUAL "com/example/coordinator/coordinator/control/Qualifier$Operator" "whenGreater" "Z" (.int (0 : Int32)) := Fld.start ((fld_at ev_LESS_THAN_OR_EQUAL).symm.trans (Cond.eq_int (Cond.before_iff.mpr hnrrrrrrrrrrrrrl) rfl))
  have F_LESS_THAN_OR_EQUAL_whenLess : Fld s s.heap s_LESS_THAN_OR_EQUAL "com/example/coordinator/coordinator/control/Qualifier$Operator" "whenLess" "Z" (.int (1 : Int32)) := Fld.start ((fld_at ev_LESS_THAN_OR_EQUAL).symm.trans (Cond.eq_int (Cond.before_iff.mpr hnrrrrrrrrrrrrrrl) rfl))
  have F_GREATER_THAN_whenGreater : Fld s s.heap s_GREATER_THAN "com/example/coordinator/coordinator/control/Qualifier$Operator" "whenGreater" "Z" (.int (1 : Int32)) := Fld.start ((fld_at ev_GREATER_THAN).symm.trans (Cond.eq_int (Cond.before_iff.mpr hnrrrrrrrrrrrrrrrl) rfl))
  have F_NOT_EQUAL_whenLess : Fld s s.heap s_NOT_EQUAL "com/example/coordinator/coordinator/control/Qualifier$Operator" "whenLess" "Z" (.int (1 : Int32)) := Fld.start ((fld_at ev_NOT_EQUAL).symm.trans (Cond.eq_int (Cond.before_iff.mpr hnrrrrrrrrrrrrrrrrl) rfl))
  have F_GREATER_THAN_OR_EQUAL_whenLess : Fld s s.heap s_GREATER_THAN_OR_EQUAL "com/example/coordinator/coordinator/control/Qualifier$Operator" "whenLess" "Z" (.int (0 : Int32)) := Fld.start ((fld_at ev_GREATER_THAN_OR_EQUAL).symm.trans (Cond.eq_int (Cond.before_iff.mpr hnrrrrrrrrrrrrrrrrrl) rfl))
  have F_LESS_THAN_OR_EQUAL_whenEqual : Fld s s.heap s_LESS_THAN_OR_EQUAL "com/example/coordinator/coordinator/control/Qualifier$Operator" "whenEqual" "Z" (.int (1 : Int32)) := Fld.start ((fld_at ev_LESS_THAN_OR_EQUAL).symm.trans (Cond.eq_int (Cond.before_iff.mpr hnrrrrrrrrrrrrrrrrrrl) rfl))
  have F_EQUAL_whenEqual : Fld s s.heap s_EQUAL "com/example/coordinator/coordinator/control/Qualifier$Operator" "whenEqual" "Z" (.int (1 : Int32)) := Fld.start ((fld_at ev_EQUAL).symm.trans (Cond.eq_int (Cond.before_iff.mpr hnrrrrrrrrrrrrrrrrrrrl) rfl))
  have F_LESS_THAN_whenEqual : Fld s s.heap s_LESS_THAN "com/example/coordinator/coordinator/control/Qualifier$Operator" "whenEqual" "Z" (.int (0 : Int32)) := Fld.start ((fld_at ev_LESS_THAN).symm.trans (Cond.eq_int (Cond.before_iff.mpr hnrrrrrrrrrrrrrrrrrrrrl) rfl))
  have F_NOT_EQUAL_whenEqual : Fld s s.heap s_NOT_EQUAL "com/example/coordinator/coordinator/control/Qualifier$Operator" "whenEqual" "Z" (.int (0 : Int32)) := Fld.start ((fld_at ev_NOT_EQUAL).symm.trans (Cond.eq_int (Cond.before_iff.mpr hnrrrrrrrrrrrrrrrrrrrrrl) rfl))
  have F_GREATER_THAN_whenEqual : Fld s s.heap s_GREATER_THAN "com/example/coordinator/coordinator/control/Qualifier$Operator" "whenEqual" "Z" (.int (0 : Int32)) := Fld.start ((fld_at ev_GREATER_THAN).symm.trans (Cond.eq_int (Cond.before_iff.mpr hnrrrrrrrrrrrrrrrrrrrrrrl) rfl))
  have F_GREATER_THAN_OR_EQUAL_whenEqual : Fld s s.heap s_GREATER_THAN_OR_EQUAL "com/example/coordinator/coordinator/control/Qualifier$Operator" "whenEqual" "Z" (.int (1 : Int32)) := Fld.start ((fld_at ev_GREATER_THAN_OR_EQUAL).symm.trans (Cond.eq_int (Cond.before_iff.mpr hnrrrrrrrrrrrrrrrrrrrrrrr) rfl))
  obtain ⟨n, o, h1, h2, h3, _, L, rfl, ⟨rfl, N⟩, hq⟩ := rm0 l s _ hw tables_1 p1 p2 s_EQUAL s_NOT_EQUAL s_LESS_THAN s_LESS_THAN_OR_EQUAL s_GREATER_THAN s_GREATER_THAN_OR_EQUAL s.heap s.heap.size (Nat.le_refl _) (Old.start s) S_EQUAL S_NOT_EQUAL S_LESS_THAN S_LESS_THAN_OR_EQUAL S_GREATER_THAN S_GREATER_THAN_OR_EQUAL E_EQUAL E_NOT_EQUAL E_LESS_THAN E_LESS_THAN_OR_EQUAL E_GREATER_THAN E_GREATER_THAN_OR_EQUAL F_EQUAL_whenLess F_EQUAL_whenEqual F_EQUAL_whenGreater F_NOT_EQUAL_whenLess F_NOT_EQUAL_whenEqual F_NOT_EQUAL_whenGreater F_LESS_THAN_whenLess F_LESS_THAN_whenEqual F_LESS_THAN_whenGreater F_LESS_THAN_OR_EQUAL_whenLess F_LESS_THAN_OR_EQUAL_whenEqual F_LESS_THAN_OR_EQUAL_whenGreater F_GREATER_THAN_whenLess F_GREATER_THAN_whenEqual F_GREATER_THAN_whenGreater F_GREATER_THAN_OR_EQUAL_whenLess F_GREATER_THAN_OR_EQUAL_whenEqual F_GREATER_THAN_OR_EQUAL_whenGreater p e ha hc hk s m _ below hf ((Spec.applies_iff_loose hf).mp happ).1 ⟨rfl, State.Warmed39.refl s, rfl⟩ trivial
  refine ⟨n, _, h1, h2, h3, hpost _ _ _ _ _ _ ⟨Cond.after_iff.mpr rfl, Cond.after_iff.mpr (eq_i res_at (Term.int_eval (1)) rfl), trivial⟩ ⟨hq.1, hq.2.1, (hq.2.2.sift fun y hy => Or.inr (N y hy)).mono (by decide) (by decide)⟩⟩
theorem main_1_1 : Claimed_1_1 := comes_1 fun _ _ _ _ _ _ h hF => ⟨h.1, hF⟩
theorem main_1_2 : Claimed_1_2 := comes_1 fun _ _ _ _ _ _ h hF => ⟨h.2.1, hF⟩
end Jvm.Pilot.@@N@@
namespace Jvm.Pilot.@@N@@
open Jvm Jvm.ClassFile Sem Op Lib Jvm.Free Jvm.Stand Jvm.Pilot.@@N@@.Jvm.D
/-! MADE BY PROGRAM (witnessworld.py) out of the Statement's table words and the real class files: 12 classes; the members and pool entries that the words name. The judged class is class 1, her method 1. -/
namespace start1
open Jvm.ClassFile
def u (s : String) : CpInfo := .utf8 (stringToUtf16 s)
/-- a pool by its gaps: so many unusable entries, then the entry; so many at the end -/
def gap : Nat → List CpInfo → List CpInfo
  | 0, r => r
  | n + 1, r => .unusable :: gap n r
def poolList (es : List (Nat × CpInfo)) (last : Nat) : List CpInfo := es.foldr (fun e r => gap e.1 (e.2 :: r)) (gap last [])
def pool (es : List (Nat × CpInfo)) (last : Nat) : Array CpInfo := ⟨poolList es last⟩
def fileOf (pool : Array CpInfo) (this : Nat) (attrs : Array Attribute := #[]) (ms : Array MethodInfo := #[]) (fl : Nat := 33) (sup : Nat := 0) (ifs : Array Nat := #[]) (fds : Array FieldInfo := #[]) : ClassFile where
  minorVersion := 0
  majorVersion := 65
  constantPool := pool
  accessFlags := fl
  thisClass := this
  superClass := sup
  interfaces := ifs
  fields := fds
  methods := ms
  attributes := attrs
def plain (name : String) (sup : Option ClassId) : Class where
  name := name
  kind := .ordinary
  loader := none
  accessFlags := 33
  super := sup
  interfaces := #[]
  cf := none
  fields := #[]
  methods := #[]
  instanceTypes := #[]
  staticTypes := #[]
  resolved := #[]
  callSites := []
  init := .initialized
  statics := none
  mirror := none

def pool0 : Array CpInfo := pool [(5, u "<init>"), (0, u "()V"), (1, .class_ 10), (1, u "java/lang/Object")] 113

def k0m0 : Method := { name := "<init>", desc := "()V", sig := { parameters := [], returnType := none }, accessFlags := 1, code := none }
/-- java/lang/Object -/
def k0 : Class := { plain "java/lang/Object" none with
  accessFlags := 33
  interfaces := #[]
  cf := some (fileOf pool0 8 #[] #[{ accessFlags := 1, nameIndex := 5, descriptorIndex := 6, attributes := #[] }] 33 0 #[] #[])
  fields := #[]
  methods := #[k0m0]
  instanceTypes := #[]
  staticTypes := #[]
  resolved := Array.replicate 124 none
  statics := none }

def pool1 : Array CpInfo := pool [(2, .class_ 4), (1, u "java/lang/Object"), (0, u "<init>"), (0, u "()V"), (0, .integer 2147483647), (0, .fieldref 9 10), (0, .class_ 11), (0, .nameAndType 12 13), (0, u "com/example/coordinator/coordinator/control/Qualifier$Operator"), (0, u "EQUAL"), (0, u "Lcom/example/coordinator/coordinator/control/Qualifier$Operator;"), (0, .fieldref 9 15), (0, .nameAndType 16 13), (0, u "NOT_EQUAL"), (0, .fieldref 9 18), (0, .nameAndType 19 13), (0, u "LESS_THAN"), (0, .fieldref 9 21), (0, .nameAndType 22 13), (0, u "LESS_THAN_OR_EQUAL"), (0, .fieldref 9 24), (0, .nameAndType 25 13), (0, u "GREATER_THAN"), (0, .fieldref 9 27), (0, .nameAndType 28 13), (0, u "GREATER_THAN_OR_EQUAL"), (0, .methodref 9 30), (0, .nameAndType 31 32), (0, u "holds"), (0, u "(I)Z"), (0, .class_ 34), (0, u "com/example/coordinator/coordinator/control/OperatorHoldsPinLaw"), (2, u "law"), (0, u "(II)Z")] 7

def k1m0 : Method := { name := "<init>", desc := "()V", sig := { parameters := [], returnType := none }, accessFlags := 1, code := none }
def k1c1 : Code := { maxStack := 2, maxLocals := 5, code := code, exceptionTable := #[], attributes := #[] }
def k1m1 : Method := { name := "law", desc := "(II)Z", sig := { parameters := [.int, .int], returnType := some .boolean }, accessFlags := 9, code := some k1c1 }
/-- com/example/coordinator/coordinator/control/OperatorHoldsPinLaw -/
def k1 : Class := { plain "com/example/coordinator/coordinator/control/OperatorHoldsPinLaw" (some 0) with
  accessFlags := 49
  interfaces := #[]
  cf := some (fileOf pool1 33 #[] #[{ accessFlags := 1, nameIndex := 5, descriptorIndex := 6, attributes := #[] }, { accessFlags := 9, nameIndex := 37, descriptorIndex := 38, attributes := #[] }] 49 2 #[] #[])
  fields := #[]
  methods := #[k1m0, k1m1]
  instanceTypes := #[]
  staticTypes := #[]
  resolved := Array.replicate 46 none
  statics := none }

def pool2 : Array CpInfo := pool [(1, .class_ 2), (0, u "java/lang/constant/Constable"), (0, .class_ 4), (0, u "java/lang/Object")] 6

/-- java/lang/constant/Constable -/
def k2 : Class := { plain "java/lang/constant/Constable" (some 0) with
  accessFlags := 1537
  interfaces := #[]
  cf := some (fileOf pool2 1 #[] #[] 1537 3 #[] #[])
  fields := #[]
  methods := #[]
  instanceTypes := #[]
  staticTypes := #[]
  resolved := Array.replicate 11 none
  statics := none }

def pool3 : Array CpInfo := pool [(1, .class_ 2), (0, u "java/lang/Comparable"), (0, .class_ 4), (0, u "java/lang/Object")] 7

/-- java/lang/Comparable -/
def k3 : Class := { plain "java/lang/Comparable" (some 0) with
  accessFlags := 1537
  interfaces := #[]
  cf := some (fileOf pool3 1 #[] #[] 1537 3 #[] #[])
  fields := #[]
  methods := #[]
  instanceTypes := #[]
  staticTypes := #[]
  resolved := Array.replicate 12 none
  statics := none }

def pool4 : Array CpInfo := pool [(1, .class_ 2), (0, u "java/io/Serializable"), (0, .class_ 4), (0, u "java/lang/Object")] 2

/-- java/io/Serializable -/
def k4 : Class := { plain "java/io/Serializable" (some 0) with
  accessFlags := 1537
  interfaces := #[]
  cf := some (fileOf pool4 1 #[] #[] 1537 3 #[] #[])
  fields := #[]
  methods := #[]
  instanceTypes := #[]
  staticTypes := #[]
  resolved := Array.replicate 7 none
  statics := none }

def pool5 : Array CpInfo := pool [(2, .class_ 4), (1, u "java/lang/Enum"), (0, u "name"), (0, u "Ljava/lang/String;"), (2, u "ordinal"), (0, u "I"), (1, .class_ 14), (1, u "java/lang/Object"), (4, u "hash"), (86, .class_ 108), (1, u "java/lang/Enum$EnumDesc"), (2, .class_ 112), (0, u "java/lang/constant/Constable"), (0, .class_ 114), (0, u "java/lang/Comparable"), (0, .class_ 116), (0, u "java/io/Serializable")] 87

/-- java/lang/Enum -/
def k5 : Class := { plain "java/lang/Enum" (some 0) with
  accessFlags := 1057
  interfaces := #[2, 3, 4]
  cf := some (fileOf pool5 2 #[.nestMembers #[106]] #[] 1057 12 #[111, 113, 115] #[{ accessFlags := 18, nameIndex := 5, descriptorIndex := 6, attributes := #[] }, { accessFlags := 18, nameIndex := 9, descriptorIndex := 10, attributes := #[] }, { accessFlags := 2, nameIndex := 19, descriptorIndex := 10, attributes := #[] }])
  fields := #[{ name := "name", type := (.object "java/lang/String"), accessFlags := 18, slot := 0, constantValue := 0 }, { name := "ordinal", type := .int, accessFlags := 18, slot := 1, constantValue := 0 }, { name := "hash", type := .int, accessFlags := 2, slot := 2, constantValue := 0 }]
  methods := #[]
  instanceTypes := #[(.object "java/lang/String"), .int, .int]
  staticTypes := #[]
  resolved := Array.replicate 204 none
  statics := none }

def pool6 : Array CpInfo := pool [(1, .class_ 2), (0, u "com/example/coordinator/coordinator/control/Qualifier$Operator"), (2, u "EQUAL"), (0, u "Lcom/example/coordinator/coordinator/control/Qualifier$Operator;"), (2, u "NOT_EQUAL"), (2, u "LESS_THAN"), (2, u "LESS_THAN_OR_EQUAL"), (2, u "GREATER_THAN"), (2, u "GREATER_THAN_OR_EQUAL"), (2, u "$VALUES"), (0, u "[Lcom/example/coordinator/coordinator/control/Qualifier$Operator;"), (6, .class_ 34), (1, u "java/lang/Enum"), (8, u "symbol"), (0, u "Ljava/lang/String;"), (0, .fieldref 1 46), (0, .nameAndType 47 48), (0, u "whenLess"), (0, u "Z"), (0, .fieldref 1 50), (0, .nameAndType 51 48), (0, u "whenEqual"), (0, .fieldref 1 53), (0, .nameAndType 54 48), (0, u "whenGreater"), (34, u "holds"), (0, u "(I)Z"), (7, .class_ 99), (0, u "com/example/coordinator/coordinator/control/Qualifier")] 2

def k6c0 : Code := { maxStack := 1, maxLocals := 3, code := prog_92_method_5_code, exceptionTable := #[], attributes := #[] }
def k6m0 : Method := { name := "holds", desc := "(I)Z", sig := { parameters := [.int], returnType := some .boolean }, accessFlags := 0, code := some k6c0 }
/-- com/example/coordinator/coordinator/control/Qualifier$Operator -/
def k6 : Class := { plain "com/example/coordinator/coordinator/control/Qualifier$Operator" (some 5) with
  accessFlags := 16433
  interfaces := #[]
  cf := some (fileOf pool6 1 #[.nestHost 98] #[{ accessFlags := 0, nameIndex := 89, descriptorIndex := 90, attributes := #[] }] 16433 32 #[] #[{ accessFlags := 16409, nameIndex := 5, descriptorIndex := 6, attributes := #[] }, { accessFlags := 16409, nameIndex := 9, descriptorIndex := 6, attributes := #[] }, { accessFlags := 16409, nameIndex := 12, descriptorIndex := 6, attributes := #[] }, { accessFlags := 16409, nameIndex := 15, descriptorIndex := 6, attributes := #[] }, { accessFlags := 16409, nameIndex := 18, descriptorIndex := 6, attributes := #[] }, { accessFlags := 16409, nameIndex := 21, descriptorIndex := 6, attributes := #[] }, { accessFlags := 18, nameIndex := 43, descriptorIndex := 44, attributes := #[] }, { accessFlags := 18, nameIndex := 47, descriptorIndex := 48, attributes := #[] }, { accessFlags := 18, nameIndex := 51, descriptorIndex := 48, attributes := #[] }, { accessFlags := 18, nameIndex := 54, descriptorIndex := 48, attributes := #[] }, { accessFlags := 4122, nameIndex := 24, descriptorIndex := 25, attributes := #[] }])
  fields := #[{ name := "EQUAL", type := (.object "com/example/coordinator/coordinator/control/Qualifier$Operator"), accessFlags := 16409, slot := 0, constantValue := 0 }, { name := "NOT_EQUAL", type := (.object "com/example/coordinator/coordinator/control/Qualifier$Operator"), accessFlags := 16409, slot := 1, constantValue := 0 }, { name := "LESS_THAN", type := (.object "com/example/coordinator/coordinator/control/Qualifier$Operator"), accessFlags := 16409, slot := 2, constantValue := 0 }, { name := "LESS_THAN_OR_EQUAL", type := (.object "com/example/coordinator/coordinator/control/Qualifier$Operator"), accessFlags := 16409, slot := 3, constantValue := 0 }, { name := "GREATER_THAN", type := (.object "com/example/coordinator/coordinator/control/Qualifier$Operator"), accessFlags := 16409, slot := 4, constantValue := 0 }, { name := "GREATER_THAN_OR_EQUAL", type := (.object "com/example/coordinator/coordinator/control/Qualifier$Operator"), accessFlags := 16409, slot := 5, constantValue := 0 }, { name := "symbol", type := (.object "java/lang/String"), accessFlags := 18, slot := 3, constantValue := 0 }, { name := "whenLess", type := .boolean, accessFlags := 18, slot := 4, constantValue := 0 }, { name := "whenEqual", type := .boolean, accessFlags := 18, slot := 5, constantValue := 0 }, { name := "whenGreater", type := .boolean, accessFlags := 18, slot := 6, constantValue := 0 }, { name := "$VALUES", type := (.array (.object "com/example/coordinator/coordinator/control/Qualifier$Operator")), accessFlags := 4122, slot := 6, constantValue := 0 }]
  methods := #[k6m0]
  instanceTypes := #[(.object "java/lang/String"), .int, .int, (.object "java/lang/String"), .boolean, .boolean, .boolean]
  staticTypes := #[(.object "com/example/coordinator/coordinator/control/Qualifier$Operator"), (.object "com/example/coordinator/coordinator/control/Qualifier$Operator"), (.object "com/example/coordinator/coordinator/control/Qualifier$Operator"), (.object "com/example/coordinator/coordinator/control/Qualifier$Operator"), (.object "com/example/coordinator/coordinator/control/Qualifier$Operator"), (.object "com/example/coordinator/coordinator/control/Qualifier$Operator"), (.array (.object "com/example/coordinator/coordinator/control/Qualifier$Operator"))]
  resolved := Array.replicate 102 none
  statics := some 0 }

def pool7 : Array CpInfo := pool [(1, u "java/lang/Cloneable"), (0, .class_ 1), (0, u "java/lang/Object"), (0, .class_ 3)] 3

/-- java/lang/Cloneable -/
def k7 : Class := { plain "java/lang/Cloneable" (some 0) with
  accessFlags := 1537
  interfaces := #[]
  cf := some (fileOf pool7 2 #[] #[] 1537 4 #[] #[])
  fields := #[]
  methods := #[]
  instanceTypes := #[]
  staticTypes := #[]
  resolved := Array.replicate 8 none
  statics := none }

/-- the primitive byte -/
def k8 : Class := { plain "byte" none with kind := .primitive 'B', accessFlags := 0x411 }
/-- [B -/
def k9 : Class := { plain "[B" (some 0) with kind := .array 8 .byte, interfaces := #[7, 4], accessFlags := 1041 }

/-- the primitive int -/
def k10 : Class := { plain "int" none with kind := .primitive 'I', accessFlags := 0x411 }
/-- [I -/
def k11 : Class := { plain "[I" (some 0) with kind := .array 10 .int, interfaces := #[7, 4], accessFlags := 1041 }

def heap : Heap := #[{ cls := 6, slots := #[.ref 1, .ref 2, .ref 3, .ref 4, .ref 5, .ref 6, .null], vm := .statics 6 },
  { cls := 6, slots := #[.null, .int 0, .int 0, .null, .int 0, .int 1, .int 0], vm := .none },
  { cls := 6, slots := #[.null, .int 1, .int 0, .null, .int 1, .int 0, .int 1], vm := .none },
  { cls := 6, slots := #[.null, .int 2, .int 0, .null, .int 1, .int 0, .int 0], vm := .none },
  { cls := 6, slots := #[.null, .int 3, .int 0, .null, .int 1, .int 1, .int 0], vm := .none },
  { cls := 6, slots := #[.null, .int 4, .int 0, .null, .int 0, .int 0, .int 1], vm := .none },
  { cls := 6, slots := #[.null, .int 5, .int 0, .null, .int 0, .int 1, .int 1], vm := .none }]
def classes : Array Class := #[k0, k1, k2, k3, k4, k5, k6, k7, k8, k9, k10, k11]
def interned : List (Array UInt16 × Addr) := []
def slotsUsed : Nat := 49
def theMethod : MethodId := ⟨1, 1⟩
def args0 : Array Value := #[.int 5, .int 3]
def aboutOver (below : List Frame) : State where
  vm := { classes := classes, interned := interned.toArray }
  heap := heap
  slotsUsed := slotsUsed
  threads := #[{ frames := .invoking theMethod args0 :: below }]
def below0 : List Frame := [.native { method := ⟨0, 0⟩, args := #[] }]
def about1 : State := aboutOver below0
def p0 : Program := .bare "" "" ""
def e0 : Env := launch0.env 0 0 0
theorem w_frames : about1.frames = Frame.invoking theMethod args0 :: below0 := rfl
set_option maxRecDepth 65536 in
theorem w_args : argsFit about1.vm theMethod args0 = true := by decide +kernel
set_option maxRecDepth 65536 in
theorem w_heap : heapFits about1 = true := by decide +kernel
set_option maxRecDepth 65536 in
theorem w_runnable : about1.curStatus? = some .runnable := by decide +kernel
set_option maxRecDepth 65536 in
theorem w_alone : about1.alone = true := by decide +kernel
set_option maxRecDepth 65536 in
theorem w_named : about1.methodNamed? x = some theMethod := by decide +kernel
set_option maxRecDepth 65536 in
theorem w_hears : about1.hears theMethod below0 = true := by decide +kernel
set_option maxRecDepth 65536 in
theorem w_ripe : about1.ripe theMethod args0 below0 = true := by decide +kernel
theorem w_running : about1.status = .running := rfl
set_option maxRecDepth 65536 in
theorem w_room : about1.hasRoom e0.platform room_1 = true :=
  launch0.hasRoom_least _ room_1 (by decide +kernel) (by decide +kernel) (by decide +kernel) (by decide +kernel) (by decide +kernel) (by decide +kernel)
theorem allAtoms_all (ts : List Jvm.Cond) (a : Array Jvm.Value) (st : Jvm.State) : (allAtoms ts).before a st = ts.all (fun c => c.before a st) := by
  induction ts with
  | nil => rfl
  | cons c t ih =>
    show (Jvm.Cond.and c (allAtoms t)).before a st = _
    rw [Jvm.Cond.before_and, ih, List.all_cons]
def words1 : List Jvm.Cond := Jvm.Cond.code x code maxLocals ret :: tables_1
/-- a 'code' word, met by the world's own term for the bytes: nothing is compared byte by byte -/
theorem code_word {y : MethodName} {bytes : ByteArray} {mx : Nat} {rt : Option FieldType} {a : Array Value} {s : State} {m : MethodId} {meth : Method} {c : Code} (h1 : s.methodNamed? y = some m) (h2 : s.vm.method? m = some meth) (h3 : meth.code = some c) (h4 : c.code = bytes)
    (h5 : (c.maxLocals == mx && c.exceptionTable.isEmpty && decide (c.maxStack ≤ mostOperands) && decide (meth.sig.returnType = rt) && !meth.locks && decide (parseMethodDescriptor y.desc = some meth.sig)) = true) : (Jvm.Cond.code y bytes mx rt).before a s = true := by
  simp only [Bool.and_eq_true, beq_iff_eq, Bool.not_eq_true', decide_eq_true_eq] at h5
  obtain ⟨⟨⟨⟨⟨g1, g2⟩, g3⟩, g4⟩, g5⟩, g6⟩ := h5
  simp [Cond.before, Cond.holds, Cond.value, h1, h2, h3, h4, g1, g2, g3, g4, g5, g6]
def isCode : Jvm.Cond → Bool
  | .code _ _ _ _ => true
  | _ => false
theorem all_split {L : List Jvm.Cond} {P : Jvm.Cond → Bool} (h1 : L.all (fun c => isCode c || P c) = true) (h2 : ∀ c ∈ L.filter isCode, P c = true) : L.all P = true := by
  refine List.all_eq_true.mpr fun c hc => ?_
  have h := List.all_eq_true.mp h1 c hc
  rcases Bool.eq_false_or_eq_true (isCode c) with hi | hi
  · exact h2 c (List.mem_filter.mpr ⟨hc, hi⟩)
  · simpa [hi] using h
set_option maxRecDepth 65536 in
theorem w_c0 : (Jvm.Cond.code x code maxLocals ret).before args0 about1 = true := code_word (m := ⟨1, 1⟩) (meth := k1m1) (c := k1c1) (by decide +kernel) rfl rfl rfl (by decide +kernel)
set_option maxRecDepth 65536 in
theorem w_c1 : (Jvm.Cond.code ({ cls := "com/example/coordinator/coordinator/control/Qualifier$Operator", name := "holds", desc := "(I)Z" } : Jvm.MethodName) prog_92_method_5_code (3 : Nat) (Option.some Jvm.ClassFile.FieldType.boolean)).before args0 about1 = true := code_word (m := ⟨6, 0⟩) (meth := k6m0) (c := k6c0) (by decide +kernel) rfl rfl rfl (by decide +kernel)
def codes1 : List Jvm.Cond := [Jvm.Cond.code x code maxLocals ret, Jvm.Cond.code ({ cls := "com/example/coordinator/coordinator/control/Qualifier$Operator", name := "holds", desc := "(I)Z" } : Jvm.MethodName) prog_92_method_5_code (3 : Nat) (Option.some Jvm.ClassFile.FieldType.boolean)]
set_option maxRecDepth 65536 in
theorem codes_eq : words1.filter isCode = codes1 := rfl
theorem w_codes : ∀ c ∈ words1.filter isCode, c.before args0 about1 = true := by
  rw [codes_eq]
  intro c hc
  simp only [codes1, List.mem_cons, List.not_mem_nil, or_false] at hc
  rcases hc with rfl | rfl
  · exact w_c0
  · exact w_c1
set_option maxRecDepth 65536 in
theorem w_t1 : (words1.take 24).all (fun c => isCode c || c.before args0 about1) = true := by decide +kernel
set_option maxRecDepth 65536 in
theorem w_t2 : (words1.drop 24).all (fun c => isCode c || c.before args0 about1) = true := by decide +kernel
theorem w_tables : (allAtoms (Jvm.Cond.code x code maxLocals ret :: tables_1)).before args0 about1 = true := by
  rw [allAtoms_all]
  show words1.all (fun c => c.before args0 about1) = true
  refine all_split ?_ w_codes
  rw [← List.take_append_drop 24 words1, List.all_append, w_t1, w_t2]
  rfl
set_option maxRecDepth 65536 in
theorem w_case : (Jvm.Cond.and given_1 narrow_1).before args0 about1 = true := by decide +kernel
theorem w_applies : (headSpec (Jvm.Cond.code x code maxLocals ret :: tables_1) room_1).applies x e0.platform about1 = true :=
  (Spec.applies_iff w_frames).mpr ⟨w_running, w_runnable, w_alone, w_named, w_hears, w_ripe, w_room, w_tables⟩
theorem atStart : AtStart classFile x code maxLocals ret World_1 tables_1 room_1 Calls_1 rest_1 Pre_1 launch0 p0 e0 about1 theMethod args0 below0 :=
  ⟨lists_1, trivial, launch0.admits_env _ _ _, launch0.least_env, fairChoices_fair.cas, fairChoices_fair.clock, w_frames, w_args, w_heap, w_applies, trivial, trivial, w_case⟩
end start1
theorem witness_1 : WitnessClaimed_1 := ⟨start1.p0, start1.e0, start1.about1, start1.theMethod, start1.args0, start1.below0, start1.atStart⟩
end Jvm.Pilot.@@N@@
