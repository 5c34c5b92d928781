import JvmDerived
import JvmDerived.Pilot.@@N@@Statement
import JvmDerived.Pilot.@@N@@Code
set_option linter.unusedVariables false
set_option linter.unusedSimpArgs false
namespace Jvm.RoadKit
open Sem ClassFile Op Lib Jvm.Stand Jvm.Free Jvm.LawKit
section New
variable {p : Program} {l : Launch} {e : Env} {R : Room} {s : State} {m : MethodId} {args : Array Value} {below : List Frame} {meth : Method} {c : Code} {T : State} {locs : List Loc} {cells slots : Nat}
theorem retI (X : Stand p l e R s m args below meth c T locs cells slots) (hx : p.tables.exec = Jvm.exec) {pc : Nat} {Ls : Array Slot} {z : Int32} {rest : List Value} (hret : meth.sig.returnType = some .int) (hd : decode c.code pc = .ok (.ireturn, 1)) {fs : List Frame}
    (hl : ∀ (f : JFrame) (acts : List Action), f.method = m → f.locked = none → f.entered = [] → (doReturn e (T.setTop f) acts (some (.int z))).1 = T.setFrames fs) : Steps p.tables e below (T.setTop (mkF m pc Ls (.int z :: rest))) (T.setFrames fs) := retOut X hx hret rfl (Or.inl ⟨rfl, Or.inl rfl, z, rfl⟩) hd hl
end New
end Jvm.RoadKit
namespace Jvm.Pilot.@@N@@
open Jvm Jvm.ClassFile Sem Op Lib Jvm.Free Jvm.Stand Jvm.LawKit Jvm.RoadKit Bundle Jvm.Pilot.@@N@@.Jvm.D
def own_Go (tb : Tables) (e : Env) (below : List Frame) (R : Outcome → State → Prop) (S : State) : Prop := ∃ s₂ o, Steps tb e below S s₂ ∧ s₂.status = .running ∧ Ended s₂ below o ∧ R o s₂
theorem own_go {tb : Tables} {e : Env} {below : List Frame} {R : Outcome → State → Prop} {S S' : State} (k : ∀ t, Steps tb e below S' t → Steps tb e below S t) (h : own_Go tb e below R S') : own_Go tb e below R S := by
  obtain ⟨a, b, c, d⟩ := h
  exact ⟨a, b, k _ c, d⟩
theorem own_to {tb : Tables} {e : Env} {below : List Frame} {R : Outcome → State → Prop} {S S' : State} (k : Steps tb e below S S') (h : own_Go tb e below R S') : own_Go tb e below R S := by
  obtain ⟨a, b, c, d⟩ := h
  exact ⟨a, b, k.trans c, d⟩
theorem own_narR {t : FieldType} {v : Value} (ht : t.isReference = true) (hv : v.isRef = true) : narrow t v = v := by
  cases t <;> first | (cases ht; done) | (cases v <;> first | rfl | (cases hv; done))
theorem own_le3 (x : Int32) : x &&& (3 : Int32) = (0 : Int32) ∨ x &&& (3 : Int32) = (1 : Int32) ∨ x &&& (3 : Int32) = (2 : Int32) ∨ x &&& (3 : Int32) = (3 : Int32) := by
  have h := c_mask x 3 2 (by decide) (by decide)
  simp only [← Int32.toInt_inj]
  generalize (x &&& 3).toInt = y at h ⊢
  have e0 : (0 : Int32).toInt = 0 := by decide
  have e1 : (1 : Int32).toInt = 1 := by decide
  have e2 : (2 : Int32).toInt = 2 := by decide
  have e3 : (3 : Int32).toInt = 3 := by decide
  omega
def own_pick (i : Int32) (s0 s1 s2 s3 : Addr) : Addr := if i = 0 then s0 else if i = (1 : Int32) then s1 else if i = (2 : Int32) then s2 else s3
def own_moves (o : Int32) (t s0 s2 s3 : Addr) : Int32 := if o = (0 : Int32) then (if (Value.ref t) = (Value.ref s0) then 0 else 1) else if o = (1 : Int32) then (if (Value.ref t) = (Value.ref s2) then 1 else if (Value.ref t) = (Value.ref s3) then 1 else 0) else 0
def own_disp (r s0 s1 : Addr) : Int32 := if (Value.ref r) = (Value.ref s0) then 1 else if (Value.ref r) = (Value.ref s1) then 1 else 0
theorem d1_0 : decode method_2_code 0 = .ok (.iload_n 0, 1) := by decide +kernel
theorem d1_1 : decode method_2_code 1 = .ok (.ifCond .ne 7, 3) := by decide +kernel
theorem d1_4 : decode method_2_code 4 = .ok (.getstatic 7, 3) := by decide +kernel
theorem d1_7 : decode method_2_code 7 = .ok (.areturn, 1) := by decide +kernel
theorem d1_8 : decode method_2_code 8 = .ok (.iload_n 0, 1) := by decide +kernel
theorem d1_9 : decode method_2_code 9 = .ok (.iconst 1, 1) := by decide +kernel
theorem d1_10 : decode method_2_code 10 = .ok (.if_icmp .ne 7, 3) := by decide +kernel
theorem d1_13 : decode method_2_code 13 = .ok (.getstatic 13, 3) := by decide +kernel
theorem d1_16 : decode method_2_code 16 = .ok (.areturn, 1) := by decide +kernel
theorem d1_17 : decode method_2_code 17 = .ok (.iload_n 0, 1) := by decide +kernel
theorem d1_18 : decode method_2_code 18 = .ok (.iconst 2, 1) := by decide +kernel
theorem d1_19 : decode method_2_code 19 = .ok (.if_icmp .ne 7, 3) := by decide +kernel
theorem d1_22 : decode method_2_code 22 = .ok (.getstatic 16, 3) := by decide +kernel
theorem d1_25 : decode method_2_code 25 = .ok (.areturn, 1) := by decide +kernel
theorem d1_26 : decode method_2_code 26 = .ok (.getstatic 19, 3) := by decide +kernel
theorem d1_29 : decode method_2_code 29 = .ok (.areturn, 1) := by decide +kernel
theorem pn_com_example_zapis_zapis_PrescriptionStatusIsDispensablePinLaw : plainName "com/example/zapis/zapis/PrescriptionStatusIsDispensablePinLaw" = true := by first | (simp [plainName, overriddenIn]; done) | decide +kernel
theorem ef1 (m : MethodId) (x0 : Int32) : entryFrame m #[(.int x0)] 1 = mkF m 0 #[.val (.int x0)] [] := by first | (simp [entryFrame, mkF, argsToLocals, Value.category]; done) | rfl
def Q1 (Z : State) (i : Int32) (s0 : Addr) (s1 : Addr) (s2 : Addr) (s3 : Addr) (h0 : Heap) (n0 : Nat) (v : Option Value) (h : Heap) (L : List Loc) : Prop := v = some (.ref (own_pick i s0 s1 s2 s3)) ∧ Fr n0 L ∧ h = h0
set_option maxRecDepth 65536 in
set_option maxHeartbeats 40000000 in
theorem rm1 (l : Launch) (Z : State) (a0 : Array Value) (hw : ∀ d ∈ tables_1, d.before a0 Z = true) (ws : List Jvm.Cond) (i : Int32) (s0 : Addr) (s1 : Addr) (s2 : Addr) (s3 : Addr) (h0 : Heap) (n0 : Nat) (Z0 : n0 ≤ h0.size) (O0 : Old Z n0 h0) (S_ACTIVE : Sta Z Z.heap "com/example/zapis/zapis/PrescriptionStatus" "ACTIVE" "Lcom/example/zapis/zapis/PrescriptionStatus;" (.ref s0)) (S_ON_HOLD : Sta Z Z.heap "com/example/zapis/zapis/PrescriptionStatus" "ON_HOLD" "Lcom/example/zapis/zapis/PrescriptionStatus;" (.ref s1)) (S_CANCELLED : Sta Z Z.heap "com/example/zapis/zapis/PrescriptionStatus" "CANCELLED" "Lcom/example/zapis/zapis/PrescriptionStatus;" (.ref s2)) (S_COMPLETED : Sta Z Z.heap "com/example/zapis/zapis/PrescriptionStatus" "COMPLETED" "Lcom/example/zapis/zapis/PrescriptionStatus;" (.ref s3)) :
    MetFree l (⟨"com/example/zapis/zapis/PrescriptionStatusIsDispensablePinLaw", "pick", "(I)Lcom/example/zapis/zapis/PrescriptionStatus;"⟩ : MethodName) (head1 (Jvm.Cond.code (⟨"com/example/zapis/zapis/PrescriptionStatusIsDispensablePinLaw", "pick", "(I)Lcom/example/zapis/zapis/PrescriptionStatus;"⟩ : MethodName) method_2_code 1 ((Option.some (FieldType.object "com/example/zapis/zapis/PrescriptionStatus"))) :: ws) ({ frames := 0, cells := 0, slots := 0, locals := 0 } : Room)) (fun a U => a = #[(.int i)] ∧ Z.Warmed39 U.vm ∧ U.heap = h0) (fun _ _ _ _ _ => True) (fun _ U ou U' => ∃ v L, ou = .returned v ∧ Q1 Z i s0 s1 s2 s3 h0 n0 v U'.heap L ∧ FrameEnd U ou U' L ({ frames := 0, cells := 0, slots := 0, locals := 0 } : Room).cells ({ frames := 0, cells := 0, slots := 0, locals := 0 } : Room).slots) := by
  refine MetFree.of_bodySF (plainFor_of_name pn_com_example_zapis_zapis_PrescriptionStatusIsDispensablePinLaw) hisR ?_
  intro pg e s m args below meth c s₁ Bd hml0 hP hK
  obtain ⟨rfl, hZ, hh⟩ := hP
  have hx := Bd.exec
  have hby := Bd.bytes
  have hml : c.maxLocals = 1 := hml0
  have hown : s.vm.findClass "com/example/zapis/zapis/PrescriptionStatusIsDispensablePinLaw" = some m.cls := findClass_of_methodNamed Bd.named
  have hnm := (name_of_methodNamed Bd.named Bd.method).1
  have X0 : Stand pg l e ({ frames := 0, cells := 0, slots := 0, locals := 0 } : Room) s m #[(.int i)] below meth c s₁ [] 0 0 := Stand.of_body Bd
  have e0 : s₁.heap = h0 := by rw [← hh, Bd.state]; rfl
  have N0 := Fr.nil n0
  show own_Go pg.tables e below (fun ou U' => ∃ v L, ou = .returned v ∧ Q1 Z i s0 s1 s2 s3 h0 n0 v U'.heap L ∧ FrameEnd s ou U' L ({ frames := 0, cells := 0, slots := 0, locals := 0 } : Room).cells ({ frames := 0, cells := 0, slots := 0, locals := 0 } : Room).slots) (s₁.setTop (entryFrame m #[(.int i)] 1))
  refine own_go (S' := s₁.setTop (mkF m 0 #[.val (.int i)] [])) (fun tg kk => castTop (ef1 m i) kk) ?_
  refine own_go (S' := s₁.setTop (mkF m 1 #[.val (.int i)] [(.int i)])) (fun tg kk => XS.iloadN X0.here hx rfl (hb hby d1_0) rfl kk) ?_
  by_cases c1 : i = 0
  · refine own_go (S' := s₁.setTop (mkF m 4 #[.val (.int i)] [])) (fun tg kk => XS.ifNo X0.here hx rfl (hb hby d1_1) rfl (XT.i0_ne_f c1) kk) ?_
    obtain ⟨T2, X2, e2, st2⟩ := getS (host := "") X0 hx hZ hown (hw _ (List.mem_of_getElem? (i := 4) rfl)) Via.refl e0 (S_ACTIVE.ext O0.2) (g := (mkF m 4 #[.val (.int i)] [])) rfl (hb hby d1_4)
    refine own_go (S' := T2.setTop (mkF m 7 #[.val (.int i)] [(.ref s0)])) (st2) ?_
    obtain ⟨fs, hr, hrun, hended, hW, hsame⟩ := X2.leave (v := some (.ref s0)) (fun h => by rw [Bd.returns] at h; cases h)
    refine ⟨_, _, retOut X2 hx (i := .areturn) Bd.returns (own_narR rfl rfl) (Or.inr (Or.inr (Or.inr (Or.inr ⟨rfl, rfl, rfl⟩)))) (hb hby d1_7) hr, hrun, hended, _, _, rfl, ?_, ⟨_, rfl⟩, hW, hsame.mono (by decide) (by decide)⟩
    show Q1 Z i s0 s1 s2 s3 h0 n0 (some (.ref s0)) T2.heap _
    rw [e2]
    exact ⟨by unfold own_pick; rw [if_pos c1], N0, rfl⟩
  · refine own_go (S' := s₁.setTop (mkF m 8 #[.val (.int i)] [])) (fun tg kk => XS.ifYes X0.here hx rfl (pc0 := 1) (pc' := 8) rfl (hb hby d1_1) rfl (XT.i0_ne_t c1) (by decide) (by decide) kk) ?_
    refine own_go (S' := s₁.setTop (mkF m 9 #[.val (.int i)] [(.int i)])) (fun tg kk => XS.iloadN X0.here hx rfl (hb hby d1_8) rfl kk) ?_
    refine own_go (S' := s₁.setTop (mkF m 10 #[.val (.int i)] [(.int (1 : Int32)), (.int i)])) (fun tg kk => XT.iconstV X0.here hx rfl (1 : Int32) (hb hby d1_9) (by decide) kk) ?_
    by_cases c3 : i = (1 : Int32)
    · refine own_go (S' := s₁.setTop (mkF m 13 #[.val (.int i)] [])) (fun tg kk => XS.icmpNo X0.here hx rfl (hb hby d1_10) rfl (XT.ii_ne_f c3) kk) ?_
      obtain ⟨T4, X4, e4, st4⟩ := getS (host := "") X0 hx hZ hown (hw _ (List.mem_of_getElem? (i := 33) rfl)) Via.refl e0 (S_ON_HOLD.ext O0.2) (g := (mkF m 13 #[.val (.int i)] [])) rfl (hb hby d1_13)
      refine own_go (S' := T4.setTop (mkF m 16 #[.val (.int i)] [(.ref s1)])) (st4) ?_
      obtain ⟨fs, hr, hrun, hended, hW, hsame⟩ := X4.leave (v := some (.ref s1)) (fun h => by rw [Bd.returns] at h; cases h)
      refine ⟨_, _, retOut X4 hx (i := .areturn) Bd.returns (own_narR rfl rfl) (Or.inr (Or.inr (Or.inr (Or.inr ⟨rfl, rfl, rfl⟩)))) (hb hby d1_16) hr, hrun, hended, _, _, rfl, ?_, ⟨_, rfl⟩, hW, hsame.mono (by decide) (by decide)⟩
      show Q1 Z i s0 s1 s2 s3 h0 n0 (some (.ref s1)) T4.heap _
      rw [e4]
      exact ⟨by unfold own_pick; rw [if_neg c1, if_pos c3], N0, rfl⟩
    · refine own_go (S' := s₁.setTop (mkF m 17 #[.val (.int i)] [])) (fun tg kk => XS.icmpYes X0.here hx rfl (pc0 := 10) (pc' := 17) rfl (hb hby d1_10) rfl (XT.ii_ne_t c3) (by decide) (by decide) kk) ?_
      refine own_go (S' := s₁.setTop (mkF m 18 #[.val (.int i)] [(.int i)])) (fun tg kk => XS.iloadN X0.here hx rfl (hb hby d1_17) rfl kk) ?_
      refine own_go (S' := s₁.setTop (mkF m 19 #[.val (.int i)] [(.int (2 : Int32)), (.int i)])) (fun tg kk => XT.iconstV X0.here hx rfl (2 : Int32) (hb hby d1_18) (by decide) kk) ?_
      by_cases c5 : i = (2 : Int32)
      · refine own_go (S' := s₁.setTop (mkF m 22 #[.val (.int i)] [])) (fun tg kk => XS.icmpNo X0.here hx rfl (hb hby d1_19) rfl (XT.ii_ne_f c5) kk) ?_
        obtain ⟨T6, X6, e6, st6⟩ := getS (host := "") X0 hx hZ hown (hw _ (List.mem_of_getElem? (i := 31) rfl)) Via.refl e0 (S_CANCELLED.ext O0.2) (g := (mkF m 22 #[.val (.int i)] [])) rfl (hb hby d1_22)
        refine own_go (S' := T6.setTop (mkF m 25 #[.val (.int i)] [(.ref s2)])) (st6) ?_
        obtain ⟨fs, hr, hrun, hended, hW, hsame⟩ := X6.leave (v := some (.ref s2)) (fun h => by rw [Bd.returns] at h; cases h)
        refine ⟨_, _, retOut X6 hx (i := .areturn) Bd.returns (own_narR rfl rfl) (Or.inr (Or.inr (Or.inr (Or.inr ⟨rfl, rfl, rfl⟩)))) (hb hby d1_25) hr, hrun, hended, _, _, rfl, ?_, ⟨_, rfl⟩, hW, hsame.mono (by decide) (by decide)⟩
        show Q1 Z i s0 s1 s2 s3 h0 n0 (some (.ref s2)) T6.heap _
        rw [e6]
        exact ⟨by unfold own_pick; rw [if_neg c1, if_neg c3, if_pos c5], N0, rfl⟩
      · refine own_go (S' := s₁.setTop (mkF m 26 #[.val (.int i)] [])) (fun tg kk => XS.icmpYes X0.here hx rfl (pc0 := 19) (pc' := 26) rfl (hb hby d1_19) rfl (XT.ii_ne_t c5) (by decide) (by decide) kk) ?_
        obtain ⟨T7, X7, e7, st7⟩ := getS (host := "") X0 hx hZ hown (hw _ (List.mem_of_getElem? (i := 13) rfl)) Via.refl e0 (S_COMPLETED.ext O0.2) (g := (mkF m 26 #[.val (.int i)] [])) rfl (hb hby d1_26)
        refine own_go (S' := T7.setTop (mkF m 29 #[.val (.int i)] [(.ref s3)])) (st7) ?_
        obtain ⟨fs, hr, hrun, hended, hW, hsame⟩ := X7.leave (v := some (.ref s3)) (fun h => by rw [Bd.returns] at h; cases h)
        refine ⟨_, _, retOut X7 hx (i := .areturn) Bd.returns (own_narR rfl rfl) (Or.inr (Or.inr (Or.inr (Or.inr ⟨rfl, rfl, rfl⟩)))) (hb hby d1_29) hr, hrun, hended, _, _, rfl, ?_, ⟨_, rfl⟩, hW, hsame.mono (by decide) (by decide)⟩
        show Q1 Z i s0 s1 s2 s3 h0 n0 (some (.ref s3)) T7.heap _
        rw [e7]
        exact ⟨by unfold own_pick; rw [if_neg c1, if_neg c3, if_neg c5], N0, rfl⟩
theorem d4_0 : decode jdk_37_method_2_code 0 = .ok (.aload_n 0, 1) := by decide +kernel
theorem d4_1 : decode jdk_37_method_2_code 1 = .ok (.getfield 7, 3) := by decide +kernel
theorem d4_4 : decode jdk_37_method_2_code 4 = .ok (.ireturn, 1) := by decide +kernel
theorem pn_java_lang_Enum : plainName "java/lang/Enum" = true := by first | (simp [plainName, overriddenIn]; done) | decide +kernel
theorem ef4 (m : MethodId) (x0 : Addr) : entryFrame m #[(.ref x0)] 1 = mkF m 0 #[.val (.ref x0)] [] := by first | (simp [entryFrame, mkF, argsToLocals, Value.category]; done) | rfl
def Q4 (Z : State) (r : Addr) (o : Int32) (h0 : Heap) (n0 : Nat) (v : Option Value) (h : Heap) (L : List Loc) : Prop := v = some (.int o) ∧ Fr n0 L ∧ h = h0
set_option maxRecDepth 65536 in
set_option maxHeartbeats 40000000 in
theorem rm4 (l : Launch) (Z : State) (a0 : Array Value) (hw : ∀ d ∈ tables_1, d.before a0 Z = true) (ws : List Jvm.Cond) (r : Addr) (o : Int32) (h0 : Heap) (n0 : Nat) (Z0 : n0 ≤ h0.size) (O0 : Old Z n0 h0) (Fo : Fld Z Z.heap r "java/lang/Enum" "ordinal" "I" (.int o)) :
    MetFree l (⟨"java/lang/Enum", "ordinal", "()I"⟩ : MethodName) (head1 (Jvm.Cond.code (⟨"java/lang/Enum", "ordinal", "()I"⟩ : MethodName) jdk_37_method_2_code 1 ((Option.some FieldType.int)) :: ws) ({ frames := 0, cells := 0, slots := 0, locals := 0 } : Room)) (fun a U => a = #[(.ref r)] ∧ Z.Warmed39 U.vm ∧ U.heap = h0) (fun _ _ _ _ _ => True) (fun _ U ou U' => ∃ v L, ou = .returned v ∧ Q4 Z r o h0 n0 v U'.heap L ∧ FrameEnd U ou U' L ({ frames := 0, cells := 0, slots := 0, locals := 0 } : Room).cells ({ frames := 0, cells := 0, slots := 0, locals := 0 } : Room).slots) := by
  refine MetFree.of_bodySF (plainFor_of_name pn_java_lang_Enum) hisR ?_
  intro pg e s m args below meth c s₁ Bd hml0 hP hK
  obtain ⟨rfl, hZ, hh⟩ := hP
  have hx := Bd.exec
  have hby := Bd.bytes
  have hml : c.maxLocals = 1 := hml0
  have hown : s.vm.findClass "java/lang/Enum" = some m.cls := findClass_of_methodNamed Bd.named
  have hnm := (name_of_methodNamed Bd.named Bd.method).1
  have X0 : Stand pg l e ({ frames := 0, cells := 0, slots := 0, locals := 0 } : Room) s m #[(.ref r)] below meth c s₁ [] 0 0 := Stand.of_body Bd
  have e0 : s₁.heap = h0 := by rw [← hh, Bd.state]; rfl
  have N0 := Fr.nil n0
  show own_Go pg.tables e below (fun ou U' => ∃ v L, ou = .returned v ∧ Q4 Z r o h0 n0 v U'.heap L ∧ FrameEnd s ou U' L ({ frames := 0, cells := 0, slots := 0, locals := 0 } : Room).cells ({ frames := 0, cells := 0, slots := 0, locals := 0 } : Room).slots) (s₁.setTop (entryFrame m #[(.ref r)] 1))
  refine own_go (S' := s₁.setTop (mkF m 0 #[.val (.ref r)] [])) (fun tg kk => castTop (ef4 m r) kk) ?_
  refine own_go (S' := s₁.setTop (mkF m 1 #[.val (.ref r)] [(.ref r)])) (fun tg kk => XS.aloadN X0.here hx rfl (hb hby d4_0) rfl rfl kk) ?_
  obtain ⟨T1, X1, e1, st1⟩ := getF X0 hx hZ hown (host := "") (Or.inl (hw _ (List.mem_of_getElem? (i := 27) rfl))) Via.refl e0 (Fo.ext O0.2) (g := (mkF m 1 #[.val (.ref r)] [(.ref r)])) rfl rfl (hb hby d4_1)
  refine own_go (S' := T1.setTop (mkF m 4 #[.val (.ref r)] [(.int o)])) (st1) ?_
  obtain ⟨fs, hr, hrun, hended, hW, hsame⟩ := X1.leave (v := some (.int o)) (fun h => by rw [Bd.returns] at h; cases h)
  refine ⟨_, _, retI X1 hx Bd.returns (hb hby d4_4) hr, hrun, hended, _, _, rfl, ?_, ⟨_, rfl⟩, hW, hsame.mono (by decide) (by decide)⟩
  show Q4 Z r o h0 n0 (some (.int o)) T1.heap _
  rw [e1]
  exact ⟨rfl, N0, rfl⟩
theorem d3_0 : decode prog_12_method_6_code 0 = .ok (.aload_n 0, 1) := by decide +kernel
theorem pd___I : parseMethodDescriptor "()I" = some ⟨[], some .int⟩ := by decide +kernel
theorem d3_1 : decode prog_12_method_6_code 1 = .ok (.invokevirtual 63, 3) := by decide +kernel
theorem d3_4 : decode prog_12_method_6_code 4 = .ok (.tableswitch 32 0 3 #[42, 57, 79, 79], 32) := by decide +kernel
theorem d3_46 : decode prog_12_method_6_code 46 = .ok (.aload_n 1, 1) := by decide +kernel
theorem d3_47 : decode prog_12_method_6_code 47 = .ok (.getstatic 3, 3) := by decide +kernel
theorem d3_50 : decode prog_12_method_6_code 50 = .ok (.if_acmp .eq 7, 3) := by decide +kernel
theorem d3_57 : decode prog_12_method_6_code 57 = .ok (.iconst 0, 1) := by decide +kernel
theorem d3_58 : decode prog_12_method_6_code 58 = .ok (.goto 26, 3) := by decide +kernel
theorem d3_84 : decode prog_12_method_6_code 84 = .ok (.ireturn, 1) := by decide +kernel
theorem d3_53 : decode prog_12_method_6_code 53 = .ok (.iconst 1, 1) := by decide +kernel
theorem d3_54 : decode prog_12_method_6_code 54 = .ok (.goto 30, 3) := by decide +kernel
theorem d3_61 : decode prog_12_method_6_code 61 = .ok (.aload_n 1, 1) := by decide +kernel
theorem d3_62 : decode prog_12_method_6_code 62 = .ok (.getstatic 10, 3) := by decide +kernel
theorem d3_65 : decode prog_12_method_6_code 65 = .ok (.if_acmp .eq 10, 3) := by decide +kernel
theorem d3_75 : decode prog_12_method_6_code 75 = .ok (.iconst 1, 1) := by decide +kernel
theorem d3_76 : decode prog_12_method_6_code 76 = .ok (.goto 8, 3) := by decide +kernel
theorem d3_68 : decode prog_12_method_6_code 68 = .ok (.aload_n 1, 1) := by decide +kernel
theorem d3_69 : decode prog_12_method_6_code 69 = .ok (.getstatic 13, 3) := by decide +kernel
theorem d3_72 : decode prog_12_method_6_code 72 = .ok (.if_acmp .ne 7, 3) := by decide +kernel
theorem d3_79 : decode prog_12_method_6_code 79 = .ok (.iconst 0, 1) := by decide +kernel
theorem d3_80 : decode prog_12_method_6_code 80 = .ok (.goto 4, 3) := by decide +kernel
theorem d3_83 : decode prog_12_method_6_code 83 = .ok (.iconst 0, 1) := by decide +kernel
theorem pn_com_example_zapis_zapis_PrescriptionStatus : plainName "com/example/zapis/zapis/PrescriptionStatus" = true := by first | (simp [plainName, overriddenIn]; done) | decide +kernel
theorem ef3 (m : MethodId) (x0 : Addr) (x1 : Addr) : entryFrame m #[(.ref x0), (.ref x1)] 2 = mkF m 0 #[.val (.ref x0), .val (.ref x1)] [] := by first | (simp [entryFrame, mkF, argsToLocals, Value.category]; done) | rfl
def Q3 (Z : State) (r : Addr) (t : Addr) (o : Int32) (s0 : Addr) (s1 : Addr) (s2 : Addr) (s3 : Addr) (h0 : Heap) (n0 : Nat) (v : Option Value) (h : Heap) (L : List Loc) : Prop := v = some (.int (own_moves o t s0 s2 s3)) ∧ Fr n0 L ∧ h = h0
set_option maxRecDepth 65536 in
set_option maxHeartbeats 40000000 in
theorem rm3 (l : Launch) (Z : State) (a0 : Array Value) (hw : ∀ d ∈ tables_1, d.before a0 Z = true) (ws : List Jvm.Cond) (r : Addr) (t : Addr) (o : Int32) (s0 : Addr) (s1 : Addr) (s2 : Addr) (s3 : Addr) (h0 : Heap) (n0 : Nat) (Z0 : n0 ≤ h0.size) (O0 : Old Z n0 h0) (S_ACTIVE : Sta Z Z.heap "com/example/zapis/zapis/PrescriptionStatus" "ACTIVE" "Lcom/example/zapis/zapis/PrescriptionStatus;" (.ref s0)) (S_ON_HOLD : Sta Z Z.heap "com/example/zapis/zapis/PrescriptionStatus" "ON_HOLD" "Lcom/example/zapis/zapis/PrescriptionStatus;" (.ref s1)) (S_CANCELLED : Sta Z Z.heap "com/example/zapis/zapis/PrescriptionStatus" "CANCELLED" "Lcom/example/zapis/zapis/PrescriptionStatus;" (.ref s2)) (S_COMPLETED : Sta Z Z.heap "com/example/zapis/zapis/PrescriptionStatus" "COMPLETED" "Lcom/example/zapis/zapis/PrescriptionStatus;" (.ref s3)) (Fo : Fld Z Z.heap r "java/lang/Enum" "ordinal" "I" (.int o)) (Er : Exa Z Z.heap r "com/example/zapis/zapis/PrescriptionStatus") (ho : o = (0 : Int32) ∨ o = (1 : Int32) ∨ o = (2 : Int32) ∨ o = (3 : Int32)) :
    MetFree l (⟨"com/example/zapis/zapis/PrescriptionStatus", "movesTo", "(Lcom/example/zapis/zapis/PrescriptionStatus;)Z"⟩ : MethodName) (head1 (Jvm.Cond.code (⟨"com/example/zapis/zapis/PrescriptionStatus", "movesTo", "(Lcom/example/zapis/zapis/PrescriptionStatus;)Z"⟩ : MethodName) prog_12_method_6_code 2 ((Option.some FieldType.boolean)) :: ws) ({ frames := 1, cells := 0, slots := 0, locals := 12 } : Room)) (fun a U => a = #[(.ref r), (.ref t)] ∧ Z.Warmed39 U.vm ∧ U.heap = h0) (fun _ _ _ _ _ => True) (fun _ U ou U' => ∃ v L, ou = .returned v ∧ Q3 Z r t o s0 s1 s2 s3 h0 n0 v U'.heap L ∧ FrameEnd U ou U' L ({ frames := 1, cells := 0, slots := 0, locals := 12 } : Room).cells ({ frames := 1, cells := 0, slots := 0, locals := 12 } : Room).slots) := by
  refine MetFree.of_bodySF (plainFor_of_name pn_com_example_zapis_zapis_PrescriptionStatus) hisR ?_
  intro pg e s m args below meth c s₁ Bd hml0 hP hK
  obtain ⟨rfl, hZ, hh⟩ := hP
  have hx := Bd.exec
  have hby := Bd.bytes
  have hml : c.maxLocals = 2 := hml0
  have hown : s.vm.findClass "com/example/zapis/zapis/PrescriptionStatus" = some m.cls := findClass_of_methodNamed Bd.named
  have hnm := (name_of_methodNamed Bd.named Bd.method).1
  have X0 : Stand pg l e ({ frames := 1, cells := 0, slots := 0, locals := 12 } : Room) s m #[(.ref r), (.ref t)] below meth c s₁ [] 0 0 := Stand.of_body Bd
  have e0 : s₁.heap = h0 := by rw [← hh, Bd.state]; rfl
  have N0 := Fr.nil n0
  show own_Go pg.tables e below (fun ou U' => ∃ v L, ou = .returned v ∧ Q3 Z r t o s0 s1 s2 s3 h0 n0 v U'.heap L ∧ FrameEnd s ou U' L ({ frames := 1, cells := 0, slots := 0, locals := 12 } : Room).cells ({ frames := 1, cells := 0, slots := 0, locals := 12 } : Room).slots) (s₁.setTop (entryFrame m #[(.ref r), (.ref t)] 2))
  refine own_go (S' := s₁.setTop (mkF m 0 #[.val (.ref r), .val (.ref t)] [])) (fun tg kk => castTop (ef3 m r t) kk) ?_
  refine own_go (S' := s₁.setTop (mkF m 1 #[.val (.ref r), .val (.ref t)] [(.ref r)])) (fun tg kk => XS.aloadN X0.here hx rfl (hb hby d3_0) rfl rfl kk) ?_
  obtain ⟨cq1, kq1, qa1, qb1, qc1⟩ := isOf hZ e0 (Er.ext O0.2)
  obtain ⟨v1, _, ⟨T1, L1, k1, n1⟩, -, X1, ⟨Lc1, hQ1, l1, y1, z1⟩, st1⟩ := X0.virtualBackUp hx (x := (⟨"com/example/zapis/zapis/PrescriptionStatus", "ordinal", "()I"⟩ : MethodName)) (y := (⟨"java/lang/Enum", "ordinal", "()I"⟩ : MethodName)) (owner := "java/lang/Enum") hown (mvT hZ (hw _ (List.mem_of_getElem? (i := 20) rfl))) (mvT hZ (hw _ (List.mem_of_getElem? (i := 21) rfl))) (mvT hZ (hw _ (List.mem_of_getElem? (i := 22) rfl))) (by decide) (mvT hZ (hw _ (List.mem_of_getElem? (i := 24) rfl))) (mvT hZ (hw _ (List.mem_of_getElem? (i := 23) rfl))) (backOf (W := 0) (rm4 l Z a0 hw [] r o h0 n0 Z0 O0 Fo) hZ (hw _ (List.mem_of_getElem? (i := 26) rfl)) (hw _ (List.mem_of_getElem? (i := 25) rfl)) (by decide) (by decide)) qa1 qc1 (g := (mkF m 1 #[.val (.ref r), .val (.ref t)] [(.ref r)])) rfl (by rw [hml]; rfl) (Steps.refl _) (argsL := []) (rest := []) (lenOf pd___I rfl) rfl (by show 2 * 0 + _ ≤ _; exact Nat.le_of_eq rfl) (hb hby d3_1) (fun _ _ => ⟨rfl, e0, (by decide : 0 + 0 ≤ _), (by decide : 0 + 0 ≤ _)⟩)
  dsimp only [Pt.U, Pt.locs, Pt.cells, Pt.slots] at X1 l1 y1 z1 st1 hQ1
  subst l1 y1 z1
  obtain ⟨rfl, M2, e1⟩ := hQ1
  have N2 := Fr.app N0 M2
  refine own_to (S' := T1.setTop (mkF m 4 #[.val (.ref r), .val (.ref t)] [(.int o)])) st1 ?_
  rcases ho with u3 | u3 | u3 | u3
  · refine own_go (S' := T1.setTop (mkF m 46 #[.val (.ref r), .val (.ref t)] [])) (fun tg kk => XS.tswIn X1.here hx rfl (pc0 := 4) (pc' := 46) (o := 42) rfl (hb hby d3_4) rfl (by rw [u3]; decide) (by rw [u3]; decide) (by decide) (by decide) kk) ?_
    refine own_go (S' := T1.setTop (mkF m 47 #[.val (.ref r), .val (.ref t)] [(.ref t)])) (fun tg kk => XS.aloadN X1.here hx rfl (hb hby d3_46) rfl rfl kk) ?_
    obtain ⟨T4, X4, e4, st4⟩ := getS (host := "") X1 hx hZ hown (hw _ (List.mem_of_getElem? (i := 12) rfl)) Via.refl e1 (S_ACTIVE.ext O0.2) (g := (mkF m 47 #[.val (.ref r), .val (.ref t)] [(.ref t)])) rfl (hb hby d3_47)
    refine own_go (S' := T4.setTop (mkF m 50 #[.val (.ref r), .val (.ref t)] [(.ref s0), (.ref t)])) (st4) ?_
    by_cases c5 : (Value.ref t) = (Value.ref s0)
    · refine own_go (S' := T4.setTop (mkF m 57 #[.val (.ref r), .val (.ref t)] [])) (fun tg kk => XT.acmpYes X4.here hx rfl (pc0 := 50) (pc' := 57) rfl (hb hby d3_50) rfl rfl rfl (XT.aa_eq_t c5) (by decide) (by decide) kk) ?_
      refine own_go (S' := T4.setTop (mkF m 58 #[.val (.ref r), .val (.ref t)] [(.int (0 : Int32))])) (fun tg kk => XT.iconstV X4.here hx rfl (0 : Int32) (hb hby d3_57) (by decide) kk) ?_
      refine own_go (S' := T4.setTop (mkF m 84 #[.val (.ref r), .val (.ref t)] [(.int (0 : Int32))])) (fun tg kk => XS.goto X4.here hx rfl (pc0 := 58) (pc' := 84) rfl (hb hby d3_58) (by decide) (by decide) kk) ?_
      obtain ⟨fs, hr, hrun, hended, hW, hsame⟩ := X4.leave (v := some (.int (0 : Int32))) (fun h => by rw [Bd.returns] at h; cases h)
      refine ⟨_, _, retN X4 hx (t := .boolean) Bd.returns (by simp) (hb hby d3_84) hr, hrun, hended, _, _, rfl, ?_, ⟨_, rfl⟩, hW, hsame.mono (by decide) (by decide)⟩
      show Q3 Z r t o s0 s1 s2 s3 h0 n0 (some (.int (0 : Int32))) T4.heap _
      rw [e4]
      exact ⟨by rw [own_moves, u3, if_pos rfl, if_pos c5], N2, rfl⟩
    · refine own_go (S' := T4.setTop (mkF m 53 #[.val (.ref r), .val (.ref t)] [])) (fun tg kk => XT.acmpNo X4.here hx rfl (hb hby d3_50) rfl rfl rfl (XT.aa_eq_f c5) kk) ?_
      refine own_go (S' := T4.setTop (mkF m 54 #[.val (.ref r), .val (.ref t)] [(.int (1 : Int32))])) (fun tg kk => XT.iconstV X4.here hx rfl (1 : Int32) (hb hby d3_53) (by decide) kk) ?_
      refine own_go (S' := T4.setTop (mkF m 84 #[.val (.ref r), .val (.ref t)] [(.int (1 : Int32))])) (fun tg kk => XS.goto X4.here hx rfl (pc0 := 54) (pc' := 84) rfl (hb hby d3_54) (by decide) (by decide) kk) ?_
      obtain ⟨fs, hr, hrun, hended, hW, hsame⟩ := X4.leave (v := some (.int (1 : Int32))) (fun h => by rw [Bd.returns] at h; cases h)
      refine ⟨_, _, retN X4 hx (t := .boolean) Bd.returns (by simp) (hb hby d3_84) hr, hrun, hended, _, _, rfl, ?_, ⟨_, rfl⟩, hW, hsame.mono (by decide) (by decide)⟩
      show Q3 Z r t o s0 s1 s2 s3 h0 n0 (some (.int (1 : Int32))) T4.heap _
      rw [e4]
      exact ⟨by rw [own_moves, u3, if_pos rfl, if_neg c5], N2, rfl⟩
  · refine own_go (S' := T1.setTop (mkF m 61 #[.val (.ref r), .val (.ref t)] [])) (fun tg kk => XS.tswIn X1.here hx rfl (pc0 := 4) (pc' := 61) (o := 57) rfl (hb hby d3_4) rfl (by rw [u3]; decide) (by rw [u3]; decide) (by decide) (by decide) kk) ?_
    refine own_go (S' := T1.setTop (mkF m 62 #[.val (.ref r), .val (.ref t)] [(.ref t)])) (fun tg kk => XS.aloadN X1.here hx rfl (hb hby d3_61) rfl rfl kk) ?_
    obtain ⟨T6, X6, e6, st6⟩ := getS (host := "") X1 hx hZ hown (hw _ (List.mem_of_getElem? (i := 34) rfl)) Via.refl e1 (S_CANCELLED.ext O0.2) (g := (mkF m 62 #[.val (.ref r), .val (.ref t)] [(.ref t)])) rfl (hb hby d3_62)
    refine own_go (S' := T6.setTop (mkF m 65 #[.val (.ref r), .val (.ref t)] [(.ref s2), (.ref t)])) (st6) ?_
    by_cases c7 : (Value.ref t) = (Value.ref s2)
    · refine own_go (S' := T6.setTop (mkF m 75 #[.val (.ref r), .val (.ref t)] [])) (fun tg kk => XT.acmpYes X6.here hx rfl (pc0 := 65) (pc' := 75) rfl (hb hby d3_65) rfl rfl rfl (XT.aa_eq_t c7) (by decide) (by decide) kk) ?_
      refine own_go (S' := T6.setTop (mkF m 76 #[.val (.ref r), .val (.ref t)] [(.int (1 : Int32))])) (fun tg kk => XT.iconstV X6.here hx rfl (1 : Int32) (hb hby d3_75) (by decide) kk) ?_
      refine own_go (S' := T6.setTop (mkF m 84 #[.val (.ref r), .val (.ref t)] [(.int (1 : Int32))])) (fun tg kk => XS.goto X6.here hx rfl (pc0 := 76) (pc' := 84) rfl (hb hby d3_76) (by decide) (by decide) kk) ?_
      obtain ⟨fs, hr, hrun, hended, hW, hsame⟩ := X6.leave (v := some (.int (1 : Int32))) (fun h => by rw [Bd.returns] at h; cases h)
      refine ⟨_, _, retN X6 hx (t := .boolean) Bd.returns (by simp) (hb hby d3_84) hr, hrun, hended, _, _, rfl, ?_, ⟨_, rfl⟩, hW, hsame.mono (by decide) (by decide)⟩
      show Q3 Z r t o s0 s1 s2 s3 h0 n0 (some (.int (1 : Int32))) T6.heap _
      rw [e6]
      exact ⟨by rw [own_moves, u3, if_neg (by decide), if_pos rfl, if_pos c7], N2, rfl⟩
    · refine own_go (S' := T6.setTop (mkF m 68 #[.val (.ref r), .val (.ref t)] [])) (fun tg kk => XT.acmpNo X6.here hx rfl (hb hby d3_65) rfl rfl rfl (XT.aa_eq_f c7) kk) ?_
      refine own_go (S' := T6.setTop (mkF m 69 #[.val (.ref r), .val (.ref t)] [(.ref t)])) (fun tg kk => XS.aloadN X6.here hx rfl (hb hby d3_68) rfl rfl kk) ?_
      obtain ⟨T8, X8, e8, st8⟩ := getS (host := "") X6 hx hZ hown (hw _ (List.mem_of_getElem? (i := 35) rfl)) Via.refl e6 (S_COMPLETED.ext O0.2) (g := (mkF m 69 #[.val (.ref r), .val (.ref t)] [(.ref t)])) rfl (hb hby d3_69)
      refine own_go (S' := T8.setTop (mkF m 72 #[.val (.ref r), .val (.ref t)] [(.ref s3), (.ref t)])) (st8) ?_
      by_cases c9 : (Value.ref t) = (Value.ref s3)
      · refine own_go (S' := T8.setTop (mkF m 75 #[.val (.ref r), .val (.ref t)] [])) (fun tg kk => XT.acmpNo X8.here hx rfl (hb hby d3_72) rfl rfl rfl (XT.aa_ne_f c9) kk) ?_
        refine own_go (S' := T8.setTop (mkF m 76 #[.val (.ref r), .val (.ref t)] [(.int (1 : Int32))])) (fun tg kk => XT.iconstV X8.here hx rfl (1 : Int32) (hb hby d3_75) (by decide) kk) ?_
        refine own_go (S' := T8.setTop (mkF m 84 #[.val (.ref r), .val (.ref t)] [(.int (1 : Int32))])) (fun tg kk => XS.goto X8.here hx rfl (pc0 := 76) (pc' := 84) rfl (hb hby d3_76) (by decide) (by decide) kk) ?_
        obtain ⟨fs, hr, hrun, hended, hW, hsame⟩ := X8.leave (v := some (.int (1 : Int32))) (fun h => by rw [Bd.returns] at h; cases h)
        refine ⟨_, _, retN X8 hx (t := .boolean) Bd.returns (by simp) (hb hby d3_84) hr, hrun, hended, _, _, rfl, ?_, ⟨_, rfl⟩, hW, hsame.mono (by decide) (by decide)⟩
        show Q3 Z r t o s0 s1 s2 s3 h0 n0 (some (.int (1 : Int32))) T8.heap _
        rw [e8]
        exact ⟨by rw [own_moves, u3, if_neg (by decide), if_pos rfl, if_neg c7, if_pos c9], N2, rfl⟩
      · refine own_go (S' := T8.setTop (mkF m 79 #[.val (.ref r), .val (.ref t)] [])) (fun tg kk => XT.acmpYes X8.here hx rfl (pc0 := 72) (pc' := 79) rfl (hb hby d3_72) rfl rfl rfl (XT.aa_ne_t c9) (by decide) (by decide) kk) ?_
        refine own_go (S' := T8.setTop (mkF m 80 #[.val (.ref r), .val (.ref t)] [(.int (0 : Int32))])) (fun tg kk => XT.iconstV X8.here hx rfl (0 : Int32) (hb hby d3_79) (by decide) kk) ?_
        refine own_go (S' := T8.setTop (mkF m 84 #[.val (.ref r), .val (.ref t)] [(.int (0 : Int32))])) (fun tg kk => XS.goto X8.here hx rfl (pc0 := 80) (pc' := 84) rfl (hb hby d3_80) (by decide) (by decide) kk) ?_
        obtain ⟨fs, hr, hrun, hended, hW, hsame⟩ := X8.leave (v := some (.int (0 : Int32))) (fun h => by rw [Bd.returns] at h; cases h)
        refine ⟨_, _, retN X8 hx (t := .boolean) Bd.returns (by simp) (hb hby d3_84) hr, hrun, hended, _, _, rfl, ?_, ⟨_, rfl⟩, hW, hsame.mono (by decide) (by decide)⟩
        show Q3 Z r t o s0 s1 s2 s3 h0 n0 (some (.int (0 : Int32))) T8.heap _
        rw [e8]
        exact ⟨by rw [own_moves, u3, if_neg (by decide), if_pos rfl, if_neg c7, if_neg c9], N2, rfl⟩
  · refine own_go (S' := T1.setTop (mkF m 83 #[.val (.ref r), .val (.ref t)] [])) (fun tg kk => XS.tswIn X1.here hx rfl (pc0 := 4) (pc' := 83) (o := 79) rfl (hb hby d3_4) rfl (by rw [u3]; decide) (by rw [u3]; decide) (by decide) (by decide) kk) ?_
    refine own_go (S' := T1.setTop (mkF m 84 #[.val (.ref r), .val (.ref t)] [(.int (0 : Int32))])) (fun tg kk => XT.iconstV X1.here hx rfl (0 : Int32) (hb hby d3_83) (by decide) kk) ?_
    obtain ⟨fs, hr, hrun, hended, hW, hsame⟩ := X1.leave (v := some (.int (0 : Int32))) (fun h => by rw [Bd.returns] at h; cases h)
    refine ⟨_, _, retN X1 hx (t := .boolean) Bd.returns (by simp) (hb hby d3_84) hr, hrun, hended, _, _, rfl, ?_, ⟨_, rfl⟩, hW, hsame.mono (by decide) (by decide)⟩
    show Q3 Z r t o s0 s1 s2 s3 h0 n0 (some (.int (0 : Int32))) T1.heap _
    rw [e1]
    exact ⟨by rw [own_moves, u3, if_neg (by decide), if_neg (by decide)], N2, rfl⟩
  · refine own_go (S' := T1.setTop (mkF m 83 #[.val (.ref r), .val (.ref t)] [])) (fun tg kk => XS.tswIn X1.here hx rfl (pc0 := 4) (pc' := 83) (o := 79) rfl (hb hby d3_4) rfl (by rw [u3]; decide) (by rw [u3]; decide) (by decide) (by decide) kk) ?_
    refine own_go (S' := T1.setTop (mkF m 84 #[.val (.ref r), .val (.ref t)] [(.int (0 : Int32))])) (fun tg kk => XT.iconstV X1.here hx rfl (0 : Int32) (hb hby d3_83) (by decide) kk) ?_
    obtain ⟨fs, hr, hrun, hended, hW, hsame⟩ := X1.leave (v := some (.int (0 : Int32))) (fun h => by rw [Bd.returns] at h; cases h)
    refine ⟨_, _, retN X1 hx (t := .boolean) Bd.returns (by simp) (hb hby d3_84) hr, hrun, hended, _, _, rfl, ?_, ⟨_, rfl⟩, hW, hsame.mono (by decide) (by decide)⟩
    show Q3 Z r t o s0 s1 s2 s3 h0 n0 (some (.int (0 : Int32))) T1.heap _
    rw [e1]
    exact ⟨by rw [own_moves, u3, if_neg (by decide), if_neg (by decide)], N2, rfl⟩
theorem d2_0 : decode prog_12_method_7_code 0 = .ok (.aload_n 0, 1) := by decide +kernel
theorem d2_1 : decode prog_12_method_7_code 1 = .ok (.getstatic 3, 3) := by decide +kernel
theorem d2_4 : decode prog_12_method_7_code 4 = .ok (.if_acmp .eq 10, 3) := by decide +kernel
theorem d2_14 : decode prog_12_method_7_code 14 = .ok (.iconst 1, 1) := by decide +kernel
theorem d2_15 : decode prog_12_method_7_code 15 = .ok (.goto 4, 3) := by decide +kernel
theorem d2_19 : decode prog_12_method_7_code 19 = .ok (.ireturn, 1) := by decide +kernel
theorem d2_7 : decode prog_12_method_7_code 7 = .ok (.aload_n 0, 1) := by decide +kernel
theorem d2_8 : decode prog_12_method_7_code 8 = .ok (.getstatic 7, 3) := by decide +kernel
theorem d2_11 : decode prog_12_method_7_code 11 = .ok (.if_acmp .ne 7, 3) := by decide +kernel
theorem d2_18 : decode prog_12_method_7_code 18 = .ok (.iconst 0, 1) := by decide +kernel
theorem ef2 (m : MethodId) (x0 : Addr) : entryFrame m #[(.ref x0)] 1 = mkF m 0 #[.val (.ref x0)] [] := by first | (simp [entryFrame, mkF, argsToLocals, Value.category]; done) | rfl
def Q2 (Z : State) (r : Addr) (s0 : Addr) (s1 : Addr) (s2 : Addr) (s3 : Addr) (h0 : Heap) (n0 : Nat) (v : Option Value) (h : Heap) (L : List Loc) : Prop := v = some (.int (own_disp r s0 s1)) ∧ Fr n0 L ∧ h = h0
set_option maxRecDepth 65536 in
set_option maxHeartbeats 40000000 in
theorem rm2 (l : Launch) (Z : State) (a0 : Array Value) (hw : ∀ d ∈ tables_1, d.before a0 Z = true) (ws : List Jvm.Cond) (r : Addr) (s0 : Addr) (s1 : Addr) (s2 : Addr) (s3 : Addr) (h0 : Heap) (n0 : Nat) (Z0 : n0 ≤ h0.size) (O0 : Old Z n0 h0) (S_ACTIVE : Sta Z Z.heap "com/example/zapis/zapis/PrescriptionStatus" "ACTIVE" "Lcom/example/zapis/zapis/PrescriptionStatus;" (.ref s0)) (S_ON_HOLD : Sta Z Z.heap "com/example/zapis/zapis/PrescriptionStatus" "ON_HOLD" "Lcom/example/zapis/zapis/PrescriptionStatus;" (.ref s1)) (S_CANCELLED : Sta Z Z.heap "com/example/zapis/zapis/PrescriptionStatus" "CANCELLED" "Lcom/example/zapis/zapis/PrescriptionStatus;" (.ref s2)) (S_COMPLETED : Sta Z Z.heap "com/example/zapis/zapis/PrescriptionStatus" "COMPLETED" "Lcom/example/zapis/zapis/PrescriptionStatus;" (.ref s3)) :
    MetFree l (⟨"com/example/zapis/zapis/PrescriptionStatus", "isDispensable", "()Z"⟩ : MethodName) (head1 (Jvm.Cond.code (⟨"com/example/zapis/zapis/PrescriptionStatus", "isDispensable", "()Z"⟩ : MethodName) prog_12_method_7_code 1 ((Option.some FieldType.boolean)) :: ws) ({ frames := 0, cells := 0, slots := 0, locals := 0 } : Room)) (fun a U => a = #[(.ref r)] ∧ Z.Warmed39 U.vm ∧ U.heap = h0) (fun _ _ _ _ _ => True) (fun _ U ou U' => ∃ v L, ou = .returned v ∧ Q2 Z r s0 s1 s2 s3 h0 n0 v U'.heap L ∧ FrameEnd U ou U' L ({ frames := 0, cells := 0, slots := 0, locals := 0 } : Room).cells ({ frames := 0, cells := 0, slots := 0, locals := 0 } : Room).slots) := by
  refine MetFree.of_bodySF (plainFor_of_name pn_com_example_zapis_zapis_PrescriptionStatus) hisR ?_
  intro pg e s m args below meth c s₁ Bd hml0 hP hK
  obtain ⟨rfl, hZ, hh⟩ := hP
  have hx := Bd.exec
  have hby := Bd.bytes
  have hml : c.maxLocals = 1 := hml0
  have hown : s.vm.findClass "com/example/zapis/zapis/PrescriptionStatus" = some m.cls := findClass_of_methodNamed Bd.named
  have hnm := (name_of_methodNamed Bd.named Bd.method).1
  have X0 : Stand pg l e ({ frames := 0, cells := 0, slots := 0, locals := 0 } : Room) s m #[(.ref r)] below meth c s₁ [] 0 0 := Stand.of_body Bd
  have e0 : s₁.heap = h0 := by rw [← hh, Bd.state]; rfl
  have N0 := Fr.nil n0
  show own_Go pg.tables e below (fun ou U' => ∃ v L, ou = .returned v ∧ Q2 Z r s0 s1 s2 s3 h0 n0 v U'.heap L ∧ FrameEnd s ou U' L ({ frames := 0, cells := 0, slots := 0, locals := 0 } : Room).cells ({ frames := 0, cells := 0, slots := 0, locals := 0 } : Room).slots) (s₁.setTop (entryFrame m #[(.ref r)] 1))
  refine own_go (S' := s₁.setTop (mkF m 0 #[.val (.ref r)] [])) (fun tg kk => castTop (ef2 m r) kk) ?_
  refine own_go (S' := s₁.setTop (mkF m 1 #[.val (.ref r)] [(.ref r)])) (fun tg kk => XS.aloadN X0.here hx rfl (hb hby d2_0) rfl rfl kk) ?_
  obtain ⟨T1, X1, e1, st1⟩ := getS (host := "") X0 hx hZ hown (hw _ (List.mem_of_getElem? (i := 12) rfl)) Via.refl e0 (S_ACTIVE.ext O0.2) (g := (mkF m 1 #[.val (.ref r)] [(.ref r)])) rfl (hb hby d2_1)
  refine own_go (S' := T1.setTop (mkF m 4 #[.val (.ref r)] [(.ref s0), (.ref r)])) (st1) ?_
  by_cases c2 : (Value.ref r) = (Value.ref s0)
  · refine own_go (S' := T1.setTop (mkF m 14 #[.val (.ref r)] [])) (fun tg kk => XT.acmpYes X1.here hx rfl (pc0 := 4) (pc' := 14) rfl (hb hby d2_4) rfl rfl rfl (XT.aa_eq_t c2) (by decide) (by decide) kk) ?_
    refine own_go (S' := T1.setTop (mkF m 15 #[.val (.ref r)] [(.int (1 : Int32))])) (fun tg kk => XT.iconstV X1.here hx rfl (1 : Int32) (hb hby d2_14) (by decide) kk) ?_
    refine own_go (S' := T1.setTop (mkF m 19 #[.val (.ref r)] [(.int (1 : Int32))])) (fun tg kk => XS.goto X1.here hx rfl (pc0 := 15) (pc' := 19) rfl (hb hby d2_15) (by decide) (by decide) kk) ?_
    obtain ⟨fs, hr, hrun, hended, hW, hsame⟩ := X1.leave (v := some (.int (1 : Int32))) (fun h => by rw [Bd.returns] at h; cases h)
    refine ⟨_, _, retN X1 hx (t := .boolean) Bd.returns (by simp) (hb hby d2_19) hr, hrun, hended, _, _, rfl, ?_, ⟨_, rfl⟩, hW, hsame.mono (by decide) (by decide)⟩
    show Q2 Z r s0 s1 s2 s3 h0 n0 (some (.int (1 : Int32))) T1.heap _
    rw [e1]
    exact ⟨by unfold own_disp; rw [if_pos c2], N0, rfl⟩
  · refine own_go (S' := T1.setTop (mkF m 7 #[.val (.ref r)] [])) (fun tg kk => XT.acmpNo X1.here hx rfl (hb hby d2_4) rfl rfl rfl (XT.aa_eq_f c2) kk) ?_
    refine own_go (S' := T1.setTop (mkF m 8 #[.val (.ref r)] [(.ref r)])) (fun tg kk => XS.aloadN X1.here hx rfl (hb hby d2_7) rfl rfl kk) ?_
    obtain ⟨T3, X3, e3, st3⟩ := getS (host := "") X1 hx hZ hown (hw _ (List.mem_of_getElem? (i := 29) rfl)) Via.refl e1 (S_ON_HOLD.ext O0.2) (g := (mkF m 8 #[.val (.ref r)] [(.ref r)])) rfl (hb hby d2_8)
    refine own_go (S' := T3.setTop (mkF m 11 #[.val (.ref r)] [(.ref s1), (.ref r)])) (st3) ?_
    by_cases c4 : (Value.ref r) = (Value.ref s1)
    · refine own_go (S' := T3.setTop (mkF m 14 #[.val (.ref r)] [])) (fun tg kk => XT.acmpNo X3.here hx rfl (hb hby d2_11) rfl rfl rfl (XT.aa_ne_f c4) kk) ?_
      refine own_go (S' := T3.setTop (mkF m 15 #[.val (.ref r)] [(.int (1 : Int32))])) (fun tg kk => XT.iconstV X3.here hx rfl (1 : Int32) (hb hby d2_14) (by decide) kk) ?_
      refine own_go (S' := T3.setTop (mkF m 19 #[.val (.ref r)] [(.int (1 : Int32))])) (fun tg kk => XS.goto X3.here hx rfl (pc0 := 15) (pc' := 19) rfl (hb hby d2_15) (by decide) (by decide) kk) ?_
      obtain ⟨fs, hr, hrun, hended, hW, hsame⟩ := X3.leave (v := some (.int (1 : Int32))) (fun h => by rw [Bd.returns] at h; cases h)
      refine ⟨_, _, retN X3 hx (t := .boolean) Bd.returns (by simp) (hb hby d2_19) hr, hrun, hended, _, _, rfl, ?_, ⟨_, rfl⟩, hW, hsame.mono (by decide) (by decide)⟩
      show Q2 Z r s0 s1 s2 s3 h0 n0 (some (.int (1 : Int32))) T3.heap _
      rw [e3]
      exact ⟨by unfold own_disp; rw [if_neg c2, if_pos c4], N0, rfl⟩
    · refine own_go (S' := T3.setTop (mkF m 18 #[.val (.ref r)] [])) (fun tg kk => XT.acmpYes X3.here hx rfl (pc0 := 11) (pc' := 18) rfl (hb hby d2_11) rfl rfl rfl (XT.aa_ne_t c4) (by decide) (by decide) kk) ?_
      refine own_go (S' := T3.setTop (mkF m 19 #[.val (.ref r)] [(.int (0 : Int32))])) (fun tg kk => XT.iconstV X3.here hx rfl (0 : Int32) (hb hby d2_18) (by decide) kk) ?_
      obtain ⟨fs, hr, hrun, hended, hW, hsame⟩ := X3.leave (v := some (.int (0 : Int32))) (fun h => by rw [Bd.returns] at h; cases h)
      refine ⟨_, _, retN X3 hx (t := .boolean) Bd.returns (by simp) (hb hby d2_19) hr, hrun, hended, _, _, rfl, ?_, ⟨_, rfl⟩, hW, hsame.mono (by decide) (by decide)⟩
      show Q2 Z r s0 s1 s2 s3 h0 n0 (some (.int (0 : Int32))) T3.heap _
      rw [e3]
      exact ⟨by unfold own_disp; rw [if_neg c2, if_neg c4], N0, rfl⟩
theorem pd__I_Lcom_example_zapis_zapis_PrescriptionStatus_ : parseMethodDescriptor "(I)Lcom/example/zapis/zapis/PrescriptionStatus;" = some ⟨[.int], some (.object "com/example/zapis/zapis/PrescriptionStatus")⟩ := by decide +kernel
theorem pd___Z : parseMethodDescriptor "()Z" = some ⟨[], some .boolean⟩ := by decide +kernel
theorem pd__Lcom_example_zapis_zapis_PrescriptionStatus__Z : parseMethodDescriptor "(Lcom/example/zapis/zapis/PrescriptionStatus;)Z" = some ⟨[.object "com/example/zapis/zapis/PrescriptionStatus"], some .boolean⟩ := by decide +kernel
theorem ef0 (m : MethodId) (x0 : Int32) : entryFrame m #[(.int x0)] maxLocals = mkF m 0 #[.val (.int x0), .unset, .unset, .unset, .unset, .unset] [] := by first | (simp [entryFrame, mkF, argsToLocals, Value.category, maxLocals]; done) | rfl
def Q0 (Z : State) (p1 : Int32) (s0 : Addr) (s1 : Addr) (s2 : Addr) (s3 : Addr) (h0 : Heap) (n0 : Nat) (v : Option Value) (h : Heap) (L : List Loc) : Prop := v = some (.int 1) ∧ Fr n0 L
set_option maxRecDepth 65536 in
set_option maxHeartbeats 40000000 in
theorem rm0 (l : Launch) (Z : State) (a0 : Array Value) (hw : ∀ d ∈ tables_1, d.before a0 Z = true) (ws : List Jvm.Cond) (p1 : Int32) (s0 : Addr) (s1 : Addr) (s2 : Addr) (s3 : Addr) (h0 : Heap) (n0 : Nat) (Z0 : n0 ≤ h0.size) (O0 : Old Z n0 h0) (S_ACTIVE : Sta Z Z.heap "com/example/zapis/zapis/PrescriptionStatus" "ACTIVE" "Lcom/example/zapis/zapis/PrescriptionStatus;" (.ref s0)) (S_ON_HOLD : Sta Z Z.heap "com/example/zapis/zapis/PrescriptionStatus" "ON_HOLD" "Lcom/example/zapis/zapis/PrescriptionStatus;" (.ref s1)) (S_CANCELLED : Sta Z Z.heap "com/example/zapis/zapis/PrescriptionStatus" "CANCELLED" "Lcom/example/zapis/zapis/PrescriptionStatus;" (.ref s2)) (S_COMPLETED : Sta Z Z.heap "com/example/zapis/zapis/PrescriptionStatus" "COMPLETED" "Lcom/example/zapis/zapis/PrescriptionStatus;" (.ref s3)) (E_ACTIVE : Exa Z Z.heap s0 "com/example/zapis/zapis/PrescriptionStatus") (E_ON_HOLD : Exa Z Z.heap s1 "com/example/zapis/zapis/PrescriptionStatus") (E_CANCELLED : Exa Z Z.heap s2 "com/example/zapis/zapis/PrescriptionStatus") (E_COMPLETED : Exa Z Z.heap s3 "com/example/zapis/zapis/PrescriptionStatus") (F_ACTIVE_ordinal : Fld Z Z.heap s0 "java/lang/Enum" "ordinal" "I" (.int (0 : Int32))) (F_ON_HOLD_ordinal : Fld Z Z.heap s1 "java/lang/Enum" "ordinal" "I" (.int (1 : Int32))) (F_CANCELLED_ordinal : Fld Z Z.heap s2 "java/lang/Enum" "ordinal" "I" (.int (2 : Int32))) (F_COMPLETED_ordinal : Fld Z Z.heap s3 "java/lang/Enum" "ordinal" "I" (.int (3 : Int32))) (n01 : s0 ≠ s1) (n02 : s0 ≠ s2) (n03 : s0 ≠ s3) (n10 : s1 ≠ s0) (n12 : s1 ≠ s2) (n13 : s1 ≠ s3) (n20 : s2 ≠ s0) (n21 : s2 ≠ s1) (n23 : s2 ≠ s3) (n30 : s3 ≠ s0) (n31 : s3 ≠ s1) (n32 : s3 ≠ s2) :
    MetFree l x (head1 (Jvm.Cond.code x code maxLocals ret :: ws) room_1) (fun a U => a = #[(.int p1)] ∧ Z.Warmed39 U.vm ∧ U.heap = h0) (fun _ _ _ _ _ => True) (fun _ U ou U' => ∃ v L, ou = .returned v ∧ Q0 Z p1 s0 s1 s2 s3 h0 n0 v U'.heap L ∧ FrameEnd U ou U' L room_1.cells room_1.slots) := by
  refine MetFree.of_bodySF (plainFor_of_name pn_com_example_zapis_zapis_PrescriptionStatusIsDispensablePinLaw) hisR ?_
  intro pg e s m args below meth c s₁ Bd hml0 hP hK
  obtain ⟨rfl, hZ, hh⟩ := hP
  have hx := Bd.exec
  have hby := Bd.bytes
  have hml : c.maxLocals = 6 := hml0
  have hown : s.vm.findClass "com/example/zapis/zapis/PrescriptionStatusIsDispensablePinLaw" = some m.cls := findClass_of_methodNamed Bd.named
  have hnm := (name_of_methodNamed Bd.named Bd.method).1
  have X0 : Stand pg l e room_1 s m #[(.int p1)] below meth c s₁ [] 0 0 := Stand.of_body Bd
  have e0 : s₁.heap = h0 := by rw [← hh, Bd.state]; rfl
  have N0 := Fr.nil n0
  show own_Go pg.tables e below (fun ou U' => ∃ v L, ou = .returned v ∧ Q0 Z p1 s0 s1 s2 s3 h0 n0 v U'.heap L ∧ FrameEnd s ou U' L room_1.cells room_1.slots) (s₁.setTop (entryFrame m #[(.int p1)] maxLocals))
  refine own_go (S' := s₁.setTop (mkF m 0 #[.val (.int p1), .unset, .unset, .unset, .unset, .unset] [])) (fun tg kk => castTop (ef0 m p1) kk) ?_
  refine own_go (S' := s₁.setTop (mkF m 1 #[.val (.int p1), .unset, .unset, .unset, .unset, .unset] [(.int p1)])) (fun tg kk => XS.iloadN X0.here hx rfl (hb hby at_0) rfl kk) ?_
  refine own_go (S' := s₁.setTop (mkF m 2 #[.val (.int p1), .unset, .unset, .unset, .unset, .unset] [(.int (3 : Int32)), (.int p1)])) (fun tg kk => XT.iconstV X0.here hx rfl (3 : Int32) (hb hby at_1) (by decide) kk) ?_
  refine own_go (S' := s₁.setTop (mkF m 3 #[.val (.int p1), .unset, .unset, .unset, .unset, .unset] [(.int (p1 &&& (3 : Int32)))])) (fun tg kk => XS.iand X0.here hx rfl (hb hby at_2) rfl kk) ?_
  refine own_go (S' := s₁.setTop (mkF m 4 #[.val (.int p1), .val (.int (p1 &&& (3 : Int32))), .unset, .unset, .unset, .unset] [])) (fun tg kk => XS.istoreN X0.here hx rfl (hb hby at_3) rfl (l' := #[.val (.int p1), .val (.int (p1 &&& (3 : Int32))), .unset, .unset, .unset, .unset]) rfl kk) ?_
  rcases own_le3 p1 with u1 | u1 | u1 | u1
  · refine own_go (S' := s₁.setTop (mkF m 5 #[.val (.int p1), .val (.int (p1 &&& (3 : Int32))), .unset, .unset, .unset, .unset] [(.int (p1 &&& (3 : Int32)))])) (fun tg kk => XS.iloadN X0.here hx rfl (hb hby at_4) rfl kk) ?_
    obtain ⟨v2, _, ⟨T2, L2, k2, n2⟩, -, X2, ⟨Lc2, hQ2, l2, y2, z2⟩, st2⟩ := Jvm.LawKit.callS X0 hx (y := (⟨"com/example/zapis/zapis/PrescriptionStatusIsDispensablePinLaw", "pick", "(I)Lcom/example/zapis/zapis/PrescriptionStatus;"⟩ : MethodName)) hown (mvT hZ (hw _ (List.mem_of_getElem? (i := 0) rfl))) (mvT hZ (hw _ (List.mem_of_getElem? (i := 1) rfl))) (mvT hZ (hw _ (List.mem_of_getElem? (i := 2) rfl))) (mvT hZ (hw _ (List.mem_of_getElem? (i := 3) rfl))) (by decide) (backOf (W := 0) (rm1 l Z a0 hw [] (p1 &&& (3 : Int32)) s0 s1 s2 s3 h0 n0 Z0 O0 S_ACTIVE S_ON_HOLD S_CANCELLED S_COMPLETED) hZ (hw _ (List.mem_of_getElem? (i := 3) rfl)) (hw _ (List.mem_of_getElem? (i := 2) rfl)) (by decide) (by decide)) (g := (mkF m 5 #[.val (.int p1), .val (.int (p1 &&& (3 : Int32))), .unset, .unset, .unset, .unset] [(.int (p1 &&& (3 : Int32)))])) rfl (by rw [hml]; rfl) (argsL := [(.int (p1 &&& (3 : Int32)))]) (rest := []) (lenOf pd__I_Lcom_example_zapis_zapis_PrescriptionStatus_ rfl) rfl (by show 2 * 0 + _ ≤ _; exact Nat.le_of_eq rfl) (hb hby at_5) (fun _ _ => ⟨rfl, e0, (by decide : 0 + 0 ≤ _), (by decide : 0 + 0 ≤ _)⟩)
    dsimp only [Pt.U, Pt.locs, Pt.cells, Pt.slots] at X2 l2 y2 z2 st2 hQ2
    subst l2 y2 z2
    obtain ⟨hv2, M3, e2⟩ := hQ2
    obtain rfl : v2 = some (.ref s0) := by rw [hv2]; rw [own_pick, u1, if_pos rfl]
    have N3 := Fr.app N0 M3
    refine own_go (S' := T2.setTop (mkF m 8 #[.val (.int p1), .val (.int (p1 &&& (3 : Int32))), .unset, .unset, .unset, .unset] [(.ref s0)])) st2 ?_
    refine own_go (S' := T2.setTop (mkF m 9 #[.val (.int p1), .val (.int (p1 &&& (3 : Int32))), .val (.ref s0), .unset, .unset, .unset] [])) (fun tg kk => XS.astoreN X2.here hx rfl (hb hby at_8) rfl rfl (l' := #[.val (.int p1), .val (.int (p1 &&& (3 : Int32))), .val (.ref s0), .unset, .unset, .unset]) rfl kk) ?_
    refine own_go (S' := T2.setTop (mkF m 10 #[.val (.int p1), .val (.int (p1 &&& (3 : Int32))), .val (.ref s0), .unset, .unset, .unset] [(.ref s0)])) (fun tg kk => XS.aloadN X2.here hx rfl (hb hby at_9) rfl rfl kk) ?_
    obtain ⟨cq4, kq4, qa4, qb4, qc4⟩ := isOf hZ e2 (E_ACTIVE.ext O0.2)
    obtain ⟨v4, _, ⟨T4, L4, k4, n4⟩, -, X4, ⟨Lc4, hQ4, l4, y4, z4⟩, st4⟩ := X2.virtualBack hx (y := (⟨"com/example/zapis/zapis/PrescriptionStatus", "isDispensable", "()Z"⟩ : MethodName)) (z := (⟨"com/example/zapis/zapis/PrescriptionStatus", "isDispensable", "()Z"⟩ : MethodName)) hown (mvT hZ (hw _ (List.mem_of_getElem? (i := 7) rfl))) (mvT hZ (hw _ (List.mem_of_getElem? (i := 8) rfl))) (notFace_of_selects (args := #[]) (mvT hZ (hw _ (List.mem_of_getElem? (i := 10) rfl)))) (mvT hZ (hw _ (List.mem_of_getElem? (i := 10) rfl))) (mvT hZ (hw _ (List.mem_of_getElem? (i := 9) rfl))) (by decide) (backOf (W := 0) (rm2 l Z a0 hw [] s0 s0 s1 s2 s3 h0 n0 Z0 O0 S_ACTIVE S_ON_HOLD S_CANCELLED S_COMPLETED) hZ (hw _ (List.mem_of_getElem? (i := 11) rfl)) (hw _ (List.mem_of_getElem? (i := 5) rfl)) (by decide) (by decide)) qa4 qc4 (g := (mkF m 10 #[.val (.int p1), .val (.int (p1 &&& (3 : Int32))), .val (.ref s0), .unset, .unset, .unset] [(.ref s0)])) rfl (by rw [hml]; rfl) (Steps.refl _) (argsL := []) (rest := []) (lenOf pd___Z rfl) rfl (by show 2 * 0 + _ ≤ _; exact Nat.le_of_eq rfl) (hb hby at_10) (fun _ _ => ⟨rfl, e2, (by decide : 0 + 0 ≤ _), (by decide : 0 + 0 ≤ _)⟩)
    dsimp only [Pt.U, Pt.locs, Pt.cells, Pt.slots] at X4 l4 y4 z4 st4 hQ4
    subst l4 y4 z4
    obtain ⟨hv4, M5, e4⟩ := hQ4
    obtain rfl : v4 = some (.int (1 : Int32)) := by rw [hv4]; rw [own_disp, if_pos rfl]
    have N5 := Fr.app N3 M5
    refine own_to (S' := T4.setTop (mkF m 13 #[.val (.int p1), .val (.int (p1 &&& (3 : Int32))), .val (.ref s0), .unset, .unset, .unset] [(.int (1 : Int32))])) st4 ?_
    refine own_go (S' := T4.setTop (mkF m 14 #[.val (.int p1), .val (.int (p1 &&& (3 : Int32))), .val (.ref s0), .val (.int (1 : Int32)), .unset, .unset] [])) (fun tg kk => XS.istoreN X4.here hx rfl (hb hby at_13) rfl (l' := #[.val (.int p1), .val (.int (p1 &&& (3 : Int32))), .val (.ref s0), .val (.int (1 : Int32)), .unset, .unset]) rfl kk) ?_
    refine own_go (S' := T4.setTop (mkF m 15 #[.val (.int p1), .val (.int (p1 &&& (3 : Int32))), .val (.ref s0), .val (.int (1 : Int32)), .unset, .unset] [(.int (p1 &&& (3 : Int32)))])) (fun tg kk => XS.iloadN X4.here hx rfl (hb hby at_14) rfl kk) ?_
    refine own_go (S' := T4.setTop (mkF m 16 #[.val (.int p1), .val (.int (p1 &&& (3 : Int32))), .val (.ref s0), .val (.int (1 : Int32)), .unset, .unset] [(.int (1 : Int32)), (.int (p1 &&& (3 : Int32)))])) (fun tg kk => XT.iconstV X4.here hx rfl (1 : Int32) (hb hby at_15) (by decide) kk) ?_
    refine own_go (S' := T4.setTop (mkF m 19 #[.val (.int p1), .val (.int (p1 &&& (3 : Int32))), .val (.ref s0), .val (.int (1 : Int32)), .unset, .unset] [])) (fun tg kk => XS.icmpNo X4.here hx rfl (hb hby at_16) rfl (XT.ii_gt_f (by rw [u1]; decide)) kk) ?_
    refine own_go (S' := T4.setTop (mkF m 20 #[.val (.int p1), .val (.int (p1 &&& (3 : Int32))), .val (.ref s0), .val (.int (1 : Int32)), .unset, .unset] [(.int (1 : Int32))])) (fun tg kk => XT.iconstV X4.here hx rfl (1 : Int32) (hb hby at_19) (by decide) kk) ?_
    refine own_go (S' := T4.setTop (mkF m 24 #[.val (.int p1), .val (.int (p1 &&& (3 : Int32))), .val (.ref s0), .val (.int (1 : Int32)), .unset, .unset] [(.int (1 : Int32))])) (fun tg kk => XS.goto X4.here hx rfl (pc0 := 20) (pc' := 24) rfl (hb hby at_20) (by decide) (by decide) kk) ?_
    refine own_go (S' := T4.setTop (mkF m 26 #[.val (.int p1), .val (.int (p1 &&& (3 : Int32))), .val (.ref s0), .val (.int (1 : Int32)), .val (.int (1 : Int32)), .unset] [])) (fun tg kk => XS.istore X4.here hx rfl (hb hby at_24) rfl (l' := #[.val (.int p1), .val (.int (p1 &&& (3 : Int32))), .val (.ref s0), .val (.int (1 : Int32)), .val (.int (1 : Int32)), .unset]) rfl kk) ?_
    refine own_go (S' := T4.setTop (mkF m 27 #[.val (.int p1), .val (.int (p1 &&& (3 : Int32))), .val (.ref s0), .val (.int (1 : Int32)), .val (.int (1 : Int32)), .unset] [(.ref s0)])) (fun tg kk => XS.aloadN X4.here hx rfl (hb hby at_26) rfl rfl kk) ?_
    obtain ⟨T6, X6, e6, st6⟩ := getS (host := "") X4 hx hZ hown (hw _ (List.mem_of_getElem? (i := 13) rfl)) Via.refl e4 (S_COMPLETED.ext O0.2) (g := (mkF m 27 #[.val (.int p1), .val (.int (p1 &&& (3 : Int32))), .val (.ref s0), .val (.int (1 : Int32)), .val (.int (1 : Int32)), .unset] [(.ref s0)])) rfl (hb hby at_27)
    refine own_go (S' := T6.setTop (mkF m 30 #[.val (.int p1), .val (.int (p1 &&& (3 : Int32))), .val (.ref s0), .val (.int (1 : Int32)), .val (.int (1 : Int32)), .unset] [(.ref s3), (.ref s0)])) (st6) ?_
    obtain ⟨cq7, kq7, qa7, qb7, qc7⟩ := isOf hZ e6 (E_ACTIVE.ext O0.2)
    obtain ⟨v7, _, ⟨T7, L7, k7, n7⟩, -, X7, ⟨Lc7, hQ7, l7, y7, z7⟩, st7⟩ := X6.virtualBack hx (y := (⟨"com/example/zapis/zapis/PrescriptionStatus", "movesTo", "(Lcom/example/zapis/zapis/PrescriptionStatus;)Z"⟩ : MethodName)) (z := (⟨"com/example/zapis/zapis/PrescriptionStatus", "movesTo", "(Lcom/example/zapis/zapis/PrescriptionStatus;)Z"⟩ : MethodName)) hown (mvT hZ (hw _ (List.mem_of_getElem? (i := 15) rfl))) (mvT hZ (hw _ (List.mem_of_getElem? (i := 16) rfl))) (notFace_of_selects (args := #[]) (mvT hZ (hw _ (List.mem_of_getElem? (i := 18) rfl)))) (mvT hZ (hw _ (List.mem_of_getElem? (i := 18) rfl))) (mvT hZ (hw _ (List.mem_of_getElem? (i := 17) rfl))) (by decide) (backOf (W := 0) (rm3 l Z a0 hw [] s0 s3 (0 : Int32) s0 s1 s2 s3 h0 n0 Z0 O0 S_ACTIVE S_ON_HOLD S_CANCELLED S_COMPLETED F_ACTIVE_ordinal E_ACTIVE (Or.inl rfl)) hZ (hw _ (List.mem_of_getElem? (i := 19) rfl)) (hw _ (List.mem_of_getElem? (i := 5) rfl)) (by decide) (by decide)) qa7 qc7 (g := (mkF m 30 #[.val (.int p1), .val (.int (p1 &&& (3 : Int32))), .val (.ref s0), .val (.int (1 : Int32)), .val (.int (1 : Int32)), .unset] [(.ref s3), (.ref s0)])) rfl (by rw [hml]; rfl) (Steps.refl _) (argsL := [(.ref s3)]) (rest := []) (lenOf pd__Lcom_example_zapis_zapis_PrescriptionStatus__Z rfl) rfl (by show 2 * 0 + _ ≤ _; exact Nat.le_of_eq rfl) (hb hby at_30) (fun _ _ => ⟨rfl, e6, (by decide : 0 + 0 ≤ _), (by decide : 0 + 0 ≤ _)⟩)
    dsimp only [Pt.U, Pt.locs, Pt.cells, Pt.slots] at X7 l7 y7 z7 st7 hQ7
    subst l7 y7 z7
    obtain ⟨hv7, M8, e7⟩ := hQ7
    obtain rfl : v7 = some (.int (1 : Int32)) := by rw [hv7]; rw [own_moves, if_pos rfl, if_neg (fun q => n30 (Value.ref.inj q))]
    have N8 := Fr.app N5 M8
    refine own_to (S' := T7.setTop (mkF m 33 #[.val (.int p1), .val (.int (p1 &&& (3 : Int32))), .val (.ref s0), .val (.int (1 : Int32)), .val (.int (1 : Int32)), .unset] [(.int (1 : Int32))])) st7 ?_
    refine own_go (S' := T7.setTop (mkF m 35 #[.val (.int p1), .val (.int (p1 &&& (3 : Int32))), .val (.ref s0), .val (.int (1 : Int32)), .val (.int (1 : Int32)), .val (.int (1 : Int32))] [])) (fun tg kk => XS.istore X7.here hx rfl (hb hby at_33) rfl (l' := #[.val (.int p1), .val (.int (p1 &&& (3 : Int32))), .val (.ref s0), .val (.int (1 : Int32)), .val (.int (1 : Int32)), .val (.int (1 : Int32))]) rfl kk) ?_
    refine own_go (S' := T7.setTop (mkF m 36 #[.val (.int p1), .val (.int (p1 &&& (3 : Int32))), .val (.ref s0), .val (.int (1 : Int32)), .val (.int (1 : Int32)), .val (.int (1 : Int32))] [(.int (1 : Int32))])) (fun tg kk => XS.iloadN X7.here hx rfl (hb hby at_35) rfl kk) ?_
    refine own_go (S' := T7.setTop (mkF m 38 #[.val (.int p1), .val (.int (p1 &&& (3 : Int32))), .val (.ref s0), .val (.int (1 : Int32)), .val (.int (1 : Int32)), .val (.int (1 : Int32))] [(.int (1 : Int32)), (.int (1 : Int32))])) (fun tg kk => XS.iload X7.here hx rfl (hb hby at_36) rfl kk) ?_
    refine own_go (S' := T7.setTop (mkF m 41 #[.val (.int p1), .val (.int (p1 &&& (3 : Int32))), .val (.ref s0), .val (.int (1 : Int32)), .val (.int (1 : Int32)), .val (.int (1 : Int32))] [])) (fun tg kk => XS.icmpNo X7.here hx rfl (hb hby at_38) rfl (XT.ii_ne_f (by decide)) kk) ?_
    refine own_go (S' := T7.setTop (mkF m 42 #[.val (.int p1), .val (.int (p1 &&& (3 : Int32))), .val (.ref s0), .val (.int (1 : Int32)), .val (.int (1 : Int32)), .val (.int (1 : Int32))] [(.int (1 : Int32))])) (fun tg kk => XS.iloadN X7.here hx rfl (hb hby at_41) rfl kk) ?_
    refine own_go (S' := T7.setTop (mkF m 44 #[.val (.int p1), .val (.int (p1 &&& (3 : Int32))), .val (.ref s0), .val (.int (1 : Int32)), .val (.int (1 : Int32)), .val (.int (1 : Int32))] [(.int (1 : Int32)), (.int (1 : Int32))])) (fun tg kk => XS.iload X7.here hx rfl (hb hby at_42) rfl kk) ?_
    refine own_go (S' := T7.setTop (mkF m 47 #[.val (.int p1), .val (.int (p1 &&& (3 : Int32))), .val (.ref s0), .val (.int (1 : Int32)), .val (.int (1 : Int32)), .val (.int (1 : Int32))] [])) (fun tg kk => XS.icmpNo X7.here hx rfl (hb hby at_44) rfl (XT.ii_ne_f (by decide)) kk) ?_
    refine own_go (S' := T7.setTop (mkF m 48 #[.val (.int p1), .val (.int (p1 &&& (3 : Int32))), .val (.ref s0), .val (.int (1 : Int32)), .val (.int (1 : Int32)), .val (.int (1 : Int32))] [(.int (1 : Int32))])) (fun tg kk => XT.iconstV X7.here hx rfl (1 : Int32) (hb hby at_47) (by decide) kk) ?_
    refine own_go (S' := T7.setTop (mkF m 52 #[.val (.int p1), .val (.int (p1 &&& (3 : Int32))), .val (.ref s0), .val (.int (1 : Int32)), .val (.int (1 : Int32)), .val (.int (1 : Int32))] [(.int (1 : Int32))])) (fun tg kk => XS.goto X7.here hx rfl (pc0 := 48) (pc' := 52) rfl (hb hby at_48) (by decide) (by decide) kk) ?_
    obtain ⟨fs, hr, hrun, hended, hW, hsame⟩ := X7.leave (v := some (.int (1 : Int32))) (fun h => by rw [Bd.returns] at h; cases h)
    refine ⟨_, _, retN X7 hx (t := .boolean) Bd.returns (by simp) (hb hby at_52) hr, hrun, hended, _, _, rfl, ?_, ⟨_, rfl⟩, hW, hsame.mono (by decide) (by decide)⟩
    show Q0 Z p1 s0 s1 s2 s3 h0 n0 (some (.int (1 : Int32))) T7.heap _
    rw [e7]
    exact ⟨rfl, N8⟩
  · refine own_go (S' := s₁.setTop (mkF m 5 #[.val (.int p1), .val (.int (p1 &&& (3 : Int32))), .unset, .unset, .unset, .unset] [(.int (p1 &&& (3 : Int32)))])) (fun tg kk => XS.iloadN X0.here hx rfl (hb hby at_4) rfl kk) ?_
    obtain ⟨v9, _, ⟨T9, L9, k9, n9⟩, -, X9, ⟨Lc9, hQ9, l9, y9, z9⟩, st9⟩ := Jvm.LawKit.callS X0 hx (y := (⟨"com/example/zapis/zapis/PrescriptionStatusIsDispensablePinLaw", "pick", "(I)Lcom/example/zapis/zapis/PrescriptionStatus;"⟩ : MethodName)) hown (mvT hZ (hw _ (List.mem_of_getElem? (i := 0) rfl))) (mvT hZ (hw _ (List.mem_of_getElem? (i := 1) rfl))) (mvT hZ (hw _ (List.mem_of_getElem? (i := 2) rfl))) (mvT hZ (hw _ (List.mem_of_getElem? (i := 3) rfl))) (by decide) (backOf (W := 0) (rm1 l Z a0 hw [] (p1 &&& (3 : Int32)) s0 s1 s2 s3 h0 n0 Z0 O0 S_ACTIVE S_ON_HOLD S_CANCELLED S_COMPLETED) hZ (hw _ (List.mem_of_getElem? (i := 3) rfl)) (hw _ (List.mem_of_getElem? (i := 2) rfl)) (by decide) (by decide)) (g := (mkF m 5 #[.val (.int p1), .val (.int (p1 &&& (3 : Int32))), .unset, .unset, .unset, .unset] [(.int (p1 &&& (3 : Int32)))])) rfl (by rw [hml]; rfl) (argsL := [(.int (p1 &&& (3 : Int32)))]) (rest := []) (lenOf pd__I_Lcom_example_zapis_zapis_PrescriptionStatus_ rfl) rfl (by show 2 * 0 + _ ≤ _; exact Nat.le_of_eq rfl) (hb hby at_5) (fun _ _ => ⟨rfl, e0, (by decide : 0 + 0 ≤ _), (by decide : 0 + 0 ≤ _)⟩)
    dsimp only [Pt.U, Pt.locs, Pt.cells, Pt.slots] at X9 l9 y9 z9 st9 hQ9
    subst l9 y9 z9
    obtain ⟨hv9, M10, e9⟩ := hQ9
    obtain rfl : v9 = some (.ref s1) := by rw [hv9]; rw [own_pick, u1, if_neg (by decide), if_pos rfl]
    have N10 := Fr.app N0 M10
    refine own_go (S' := T9.setTop (mkF m 8 #[.val (.int p1), .val (.int (p1 &&& (3 : Int32))), .unset, .unset, .unset, .unset] [(.ref s1)])) st9 ?_
    refine own_go (S' := T9.setTop (mkF m 9 #[.val (.int p1), .val (.int (p1 &&& (3 : Int32))), .val (.ref s1), .unset, .unset, .unset] [])) (fun tg kk => XS.astoreN X9.here hx rfl (hb hby at_8) rfl rfl (l' := #[.val (.int p1), .val (.int (p1 &&& (3 : Int32))), .val (.ref s1), .unset, .unset, .unset]) rfl kk) ?_
    refine own_go (S' := T9.setTop (mkF m 10 #[.val (.int p1), .val (.int (p1 &&& (3 : Int32))), .val (.ref s1), .unset, .unset, .unset] [(.ref s1)])) (fun tg kk => XS.aloadN X9.here hx rfl (hb hby at_9) rfl rfl kk) ?_
    obtain ⟨cq11, kq11, qa11, qb11, qc11⟩ := isOf hZ e9 (E_ON_HOLD.ext O0.2)
    obtain ⟨v11, _, ⟨T11, L11, k11, n11⟩, -, X11, ⟨Lc11, hQ11, l11, y11, z11⟩, st11⟩ := X9.virtualBack hx (y := (⟨"com/example/zapis/zapis/PrescriptionStatus", "isDispensable", "()Z"⟩ : MethodName)) (z := (⟨"com/example/zapis/zapis/PrescriptionStatus", "isDispensable", "()Z"⟩ : MethodName)) hown (mvT hZ (hw _ (List.mem_of_getElem? (i := 7) rfl))) (mvT hZ (hw _ (List.mem_of_getElem? (i := 8) rfl))) (notFace_of_selects (args := #[]) (mvT hZ (hw _ (List.mem_of_getElem? (i := 10) rfl)))) (mvT hZ (hw _ (List.mem_of_getElem? (i := 10) rfl))) (mvT hZ (hw _ (List.mem_of_getElem? (i := 9) rfl))) (by decide) (backOf (W := 0) (rm2 l Z a0 hw [] s1 s0 s1 s2 s3 h0 n0 Z0 O0 S_ACTIVE S_ON_HOLD S_CANCELLED S_COMPLETED) hZ (hw _ (List.mem_of_getElem? (i := 11) rfl)) (hw _ (List.mem_of_getElem? (i := 5) rfl)) (by decide) (by decide)) qa11 qc11 (g := (mkF m 10 #[.val (.int p1), .val (.int (p1 &&& (3 : Int32))), .val (.ref s1), .unset, .unset, .unset] [(.ref s1)])) rfl (by rw [hml]; rfl) (Steps.refl _) (argsL := []) (rest := []) (lenOf pd___Z rfl) rfl (by show 2 * 0 + _ ≤ _; exact Nat.le_of_eq rfl) (hb hby at_10) (fun _ _ => ⟨rfl, e9, (by decide : 0 + 0 ≤ _), (by decide : 0 + 0 ≤ _)⟩)
    dsimp only [Pt.U, Pt.locs, Pt.cells, Pt.slots] at X11 l11 y11 z11 st11 hQ11
    subst l11 y11 z11
    obtain ⟨hv11, M12, e11⟩ := hQ11
    obtain rfl : v11 = some (.int (1 : Int32)) := by rw [hv11]; rw [own_disp, if_neg (fun q => n10 (Value.ref.inj q)), if_pos rfl]
    have N12 := Fr.app N10 M12
    refine own_to (S' := T11.setTop (mkF m 13 #[.val (.int p1), .val (.int (p1 &&& (3 : Int32))), .val (.ref s1), .unset, .unset, .unset] [(.int (1 : Int32))])) st11 ?_
    refine own_go (S' := T11.setTop (mkF m 14 #[.val (.int p1), .val (.int (p1 &&& (3 : Int32))), .val (.ref s1), .val (.int (1 : Int32)), .unset, .unset] [])) (fun tg kk => XS.istoreN X11.here hx rfl (hb hby at_13) rfl (l' := #[.val (.int p1), .val (.int (p1 &&& (3 : Int32))), .val (.ref s1), .val (.int (1 : Int32)), .unset, .unset]) rfl kk) ?_
    refine own_go (S' := T11.setTop (mkF m 15 #[.val (.int p1), .val (.int (p1 &&& (3 : Int32))), .val (.ref s1), .val (.int (1 : Int32)), .unset, .unset] [(.int (p1 &&& (3 : Int32)))])) (fun tg kk => XS.iloadN X11.here hx rfl (hb hby at_14) rfl kk) ?_
    refine own_go (S' := T11.setTop (mkF m 16 #[.val (.int p1), .val (.int (p1 &&& (3 : Int32))), .val (.ref s1), .val (.int (1 : Int32)), .unset, .unset] [(.int (1 : Int32)), (.int (p1 &&& (3 : Int32)))])) (fun tg kk => XT.iconstV X11.here hx rfl (1 : Int32) (hb hby at_15) (by decide) kk) ?_
    refine own_go (S' := T11.setTop (mkF m 19 #[.val (.int p1), .val (.int (p1 &&& (3 : Int32))), .val (.ref s1), .val (.int (1 : Int32)), .unset, .unset] [])) (fun tg kk => XS.icmpNo X11.here hx rfl (hb hby at_16) rfl (XT.ii_gt_f (by rw [u1]; decide)) kk) ?_
    refine own_go (S' := T11.setTop (mkF m 20 #[.val (.int p1), .val (.int (p1 &&& (3 : Int32))), .val (.ref s1), .val (.int (1 : Int32)), .unset, .unset] [(.int (1 : Int32))])) (fun tg kk => XT.iconstV X11.here hx rfl (1 : Int32) (hb hby at_19) (by decide) kk) ?_
    refine own_go (S' := T11.setTop (mkF m 24 #[.val (.int p1), .val (.int (p1 &&& (3 : Int32))), .val (.ref s1), .val (.int (1 : Int32)), .unset, .unset] [(.int (1 : Int32))])) (fun tg kk => XS.goto X11.here hx rfl (pc0 := 20) (pc' := 24) rfl (hb hby at_20) (by decide) (by decide) kk) ?_
    refine own_go (S' := T11.setTop (mkF m 26 #[.val (.int p1), .val (.int (p1 &&& (3 : Int32))), .val (.ref s1), .val (.int (1 : Int32)), .val (.int (1 : Int32)), .unset] [])) (fun tg kk => XS.istore X11.here hx rfl (hb hby at_24) rfl (l' := #[.val (.int p1), .val (.int (p1 &&& (3 : Int32))), .val (.ref s1), .val (.int (1 : Int32)), .val (.int (1 : Int32)), .unset]) rfl kk) ?_
    refine own_go (S' := T11.setTop (mkF m 27 #[.val (.int p1), .val (.int (p1 &&& (3 : Int32))), .val (.ref s1), .val (.int (1 : Int32)), .val (.int (1 : Int32)), .unset] [(.ref s1)])) (fun tg kk => XS.aloadN X11.here hx rfl (hb hby at_26) rfl rfl kk) ?_
    obtain ⟨T13, X13, e13, st13⟩ := getS (host := "") X11 hx hZ hown (hw _ (List.mem_of_getElem? (i := 13) rfl)) Via.refl e11 (S_COMPLETED.ext O0.2) (g := (mkF m 27 #[.val (.int p1), .val (.int (p1 &&& (3 : Int32))), .val (.ref s1), .val (.int (1 : Int32)), .val (.int (1 : Int32)), .unset] [(.ref s1)])) rfl (hb hby at_27)
    refine own_go (S' := T13.setTop (mkF m 30 #[.val (.int p1), .val (.int (p1 &&& (3 : Int32))), .val (.ref s1), .val (.int (1 : Int32)), .val (.int (1 : Int32)), .unset] [(.ref s3), (.ref s1)])) (st13) ?_
    obtain ⟨cq14, kq14, qa14, qb14, qc14⟩ := isOf hZ e13 (E_ON_HOLD.ext O0.2)
    obtain ⟨v14, _, ⟨T14, L14, k14, n14⟩, -, X14, ⟨Lc14, hQ14, l14, y14, z14⟩, st14⟩ := X13.virtualBack hx (y := (⟨"com/example/zapis/zapis/PrescriptionStatus", "movesTo", "(Lcom/example/zapis/zapis/PrescriptionStatus;)Z"⟩ : MethodName)) (z := (⟨"com/example/zapis/zapis/PrescriptionStatus", "movesTo", "(Lcom/example/zapis/zapis/PrescriptionStatus;)Z"⟩ : MethodName)) hown (mvT hZ (hw _ (List.mem_of_getElem? (i := 15) rfl))) (mvT hZ (hw _ (List.mem_of_getElem? (i := 16) rfl))) (notFace_of_selects (args := #[]) (mvT hZ (hw _ (List.mem_of_getElem? (i := 18) rfl)))) (mvT hZ (hw _ (List.mem_of_getElem? (i := 18) rfl))) (mvT hZ (hw _ (List.mem_of_getElem? (i := 17) rfl))) (by decide) (backOf (W := 0) (rm3 l Z a0 hw [] s1 s3 (1 : Int32) s0 s1 s2 s3 h0 n0 Z0 O0 S_ACTIVE S_ON_HOLD S_CANCELLED S_COMPLETED F_ON_HOLD_ordinal E_ON_HOLD (Or.inr (Or.inl rfl))) hZ (hw _ (List.mem_of_getElem? (i := 19) rfl)) (hw _ (List.mem_of_getElem? (i := 5) rfl)) (by decide) (by decide)) qa14 qc14 (g := (mkF m 30 #[.val (.int p1), .val (.int (p1 &&& (3 : Int32))), .val (.ref s1), .val (.int (1 : Int32)), .val (.int (1 : Int32)), .unset] [(.ref s3), (.ref s1)])) rfl (by rw [hml]; rfl) (Steps.refl _) (argsL := [(.ref s3)]) (rest := []) (lenOf pd__Lcom_example_zapis_zapis_PrescriptionStatus__Z rfl) rfl (by show 2 * 0 + _ ≤ _; exact Nat.le_of_eq rfl) (hb hby at_30) (fun _ _ => ⟨rfl, e13, (by decide : 0 + 0 ≤ _), (by decide : 0 + 0 ≤ _)⟩)
    dsimp only [Pt.U, Pt.locs, Pt.cells, Pt.slots] at X14 l14 y14 z14 st14 hQ14
    subst l14 y14 z14
    obtain ⟨hv14, M15, e14⟩ := hQ14
    obtain rfl : v14 = some (.int (1 : Int32)) := by rw [hv14]; rw [own_moves, if_neg (by decide), if_pos rfl, if_neg (fun q => n32 (Value.ref.inj q)), if_pos rfl]
    have N15 := Fr.app N12 M15
    refine own_to (S' := T14.setTop (mkF m 33 #[.val (.int p1), .val (.int (p1 &&& (3 : Int32))), .val (.ref s1), .val (.int (1 : Int32)), .val (.int (1 : Int32)), .unset] [(.int (1 : Int32))])) st14 ?_
    refine own_go (S' := T14.setTop (mkF m 35 #[.val (.int p1), .val (.int (p1 &&& (3 : Int32))), .val (.ref s1), .val (.int (1 : Int32)), .val (.int (1 : Int32)), .val (.int (1 : Int32))] [])) (fun tg kk => XS.istore X14.here hx rfl (hb hby at_33) rfl (l' := #[.val (.int p1), .val (.int (p1 &&& (3 : Int32))), .val (.ref s1), .val (.int (1 : Int32)), .val (.int (1 : Int32)), .val (.int (1 : Int32))]) rfl kk) ?_
    refine own_go (S' := T14.setTop (mkF m 36 #[.val (.int p1), .val (.int (p1 &&& (3 : Int32))), .val (.ref s1), .val (.int (1 : Int32)), .val (.int (1 : Int32)), .val (.int (1 : Int32))] [(.int (1 : Int32))])) (fun tg kk => XS.iloadN X14.here hx rfl (hb hby at_35) rfl kk) ?_
    refine own_go (S' := T14.setTop (mkF m 38 #[.val (.int p1), .val (.int (p1 &&& (3 : Int32))), .val (.ref s1), .val (.int (1 : Int32)), .val (.int (1 : Int32)), .val (.int (1 : Int32))] [(.int (1 : Int32)), (.int (1 : Int32))])) (fun tg kk => XS.iload X14.here hx rfl (hb hby at_36) rfl kk) ?_
    refine own_go (S' := T14.setTop (mkF m 41 #[.val (.int p1), .val (.int (p1 &&& (3 : Int32))), .val (.ref s1), .val (.int (1 : Int32)), .val (.int (1 : Int32)), .val (.int (1 : Int32))] [])) (fun tg kk => XS.icmpNo X14.here hx rfl (hb hby at_38) rfl (XT.ii_ne_f (by decide)) kk) ?_
    refine own_go (S' := T14.setTop (mkF m 42 #[.val (.int p1), .val (.int (p1 &&& (3 : Int32))), .val (.ref s1), .val (.int (1 : Int32)), .val (.int (1 : Int32)), .val (.int (1 : Int32))] [(.int (1 : Int32))])) (fun tg kk => XS.iloadN X14.here hx rfl (hb hby at_41) rfl kk) ?_
    refine own_go (S' := T14.setTop (mkF m 44 #[.val (.int p1), .val (.int (p1 &&& (3 : Int32))), .val (.ref s1), .val (.int (1 : Int32)), .val (.int (1 : Int32)), .val (.int (1 : Int32))] [(.int (1 : Int32)), (.int (1 : Int32))])) (fun tg kk => XS.iload X14.here hx rfl (hb hby at_42) rfl kk) ?_
    refine own_go (S' := T14.setTop (mkF m 47 #[.val (.int p1), .val (.int (p1 &&& (3 : Int32))), .val (.ref s1), .val (.int (1 : Int32)), .val (.int (1 : Int32)), .val (.int (1 : Int32))] [])) (fun tg kk => XS.icmpNo X14.here hx rfl (hb hby at_44) rfl (XT.ii_ne_f (by decide)) kk) ?_
    refine own_go (S' := T14.setTop (mkF m 48 #[.val (.int p1), .val (.int (p1 &&& (3 : Int32))), .val (.ref s1), .val (.int (1 : Int32)), .val (.int (1 : Int32)), .val (.int (1 : Int32))] [(.int (1 : Int32))])) (fun tg kk => XT.iconstV X14.here hx rfl (1 : Int32) (hb hby at_47) (by decide) kk) ?_
    refine own_go (S' := T14.setTop (mkF m 52 #[.val (.int p1), .val (.int (p1 &&& (3 : Int32))), .val (.ref s1), .val (.int (1 : Int32)), .val (.int (1 : Int32)), .val (.int (1 : Int32))] [(.int (1 : Int32))])) (fun tg kk => XS.goto X14.here hx rfl (pc0 := 48) (pc' := 52) rfl (hb hby at_48) (by decide) (by decide) kk) ?_
    obtain ⟨fs, hr, hrun, hended, hW, hsame⟩ := X14.leave (v := some (.int (1 : Int32))) (fun h => by rw [Bd.returns] at h; cases h)
    refine ⟨_, _, retN X14 hx (t := .boolean) Bd.returns (by simp) (hb hby at_52) hr, hrun, hended, _, _, rfl, ?_, ⟨_, rfl⟩, hW, hsame.mono (by decide) (by decide)⟩
    show Q0 Z p1 s0 s1 s2 s3 h0 n0 (some (.int (1 : Int32))) T14.heap _
    rw [e14]
    exact ⟨rfl, N15⟩
  · refine own_go (S' := s₁.setTop (mkF m 5 #[.val (.int p1), .val (.int (p1 &&& (3 : Int32))), .unset, .unset, .unset, .unset] [(.int (p1 &&& (3 : Int32)))])) (fun tg kk => XS.iloadN X0.here hx rfl (hb hby at_4) rfl kk) ?_
    obtain ⟨v16, _, ⟨T16, L16, k16, n16⟩, -, X16, ⟨Lc16, hQ16, l16, y16, z16⟩, st16⟩ := Jvm.LawKit.callS X0 hx (y := (⟨"com/example/zapis/zapis/PrescriptionStatusIsDispensablePinLaw", "pick", "(I)Lcom/example/zapis/zapis/PrescriptionStatus;"⟩ : MethodName)) hown (mvT hZ (hw _ (List.mem_of_getElem? (i := 0) rfl))) (mvT hZ (hw _ (List.mem_of_getElem? (i := 1) rfl))) (mvT hZ (hw _ (List.mem_of_getElem? (i := 2) rfl))) (mvT hZ (hw _ (List.mem_of_getElem? (i := 3) rfl))) (by decide) (backOf (W := 0) (rm1 l Z a0 hw [] (p1 &&& (3 : Int32)) s0 s1 s2 s3 h0 n0 Z0 O0 S_ACTIVE S_ON_HOLD S_CANCELLED S_COMPLETED) hZ (hw _ (List.mem_of_getElem? (i := 3) rfl)) (hw _ (List.mem_of_getElem? (i := 2) rfl)) (by decide) (by decide)) (g := (mkF m 5 #[.val (.int p1), .val (.int (p1 &&& (3 : Int32))), .unset, .unset, .unset, .unset] [(.int (p1 &&& (3 : Int32)))])) rfl (by rw [hml]; rfl) (argsL := [(.int (p1 &&& (3 : Int32)))]) (rest := []) (lenOf pd__I_Lcom_example_zapis_zapis_PrescriptionStatus_ rfl) rfl (by show 2 * 0 + _ ≤ _; exact Nat.le_of_eq rfl) (hb hby at_5) (fun _ _ => ⟨rfl, e0, (by decide : 0 + 0 ≤ _), (by decide : 0 + 0 ≤ _)⟩)
    dsimp only [Pt.U, Pt.locs, Pt.cells, Pt.slots] at X16 l16 y16 z16 st16 hQ16
    subst l16 y16 z16
    obtain ⟨hv16, M17, e16⟩ := hQ16
    obtain rfl : v16 = some (.ref s2) := by rw [hv16]; rw [own_pick, u1, if_neg (by decide), if_neg (by decide), if_pos rfl]
    have N17 := Fr.app N0 M17
    refine own_go (S' := T16.setTop (mkF m 8 #[.val (.int p1), .val (.int (p1 &&& (3 : Int32))), .unset, .unset, .unset, .unset] [(.ref s2)])) st16 ?_
    refine own_go (S' := T16.setTop (mkF m 9 #[.val (.int p1), .val (.int (p1 &&& (3 : Int32))), .val (.ref s2), .unset, .unset, .unset] [])) (fun tg kk => XS.astoreN X16.here hx rfl (hb hby at_8) rfl rfl (l' := #[.val (.int p1), .val (.int (p1 &&& (3 : Int32))), .val (.ref s2), .unset, .unset, .unset]) rfl kk) ?_
    refine own_go (S' := T16.setTop (mkF m 10 #[.val (.int p1), .val (.int (p1 &&& (3 : Int32))), .val (.ref s2), .unset, .unset, .unset] [(.ref s2)])) (fun tg kk => XS.aloadN X16.here hx rfl (hb hby at_9) rfl rfl kk) ?_
    obtain ⟨cq18, kq18, qa18, qb18, qc18⟩ := isOf hZ e16 (E_CANCELLED.ext O0.2)
    obtain ⟨v18, _, ⟨T18, L18, k18, n18⟩, -, X18, ⟨Lc18, hQ18, l18, y18, z18⟩, st18⟩ := X16.virtualBack hx (y := (⟨"com/example/zapis/zapis/PrescriptionStatus", "isDispensable", "()Z"⟩ : MethodName)) (z := (⟨"com/example/zapis/zapis/PrescriptionStatus", "isDispensable", "()Z"⟩ : MethodName)) hown (mvT hZ (hw _ (List.mem_of_getElem? (i := 7) rfl))) (mvT hZ (hw _ (List.mem_of_getElem? (i := 8) rfl))) (notFace_of_selects (args := #[]) (mvT hZ (hw _ (List.mem_of_getElem? (i := 10) rfl)))) (mvT hZ (hw _ (List.mem_of_getElem? (i := 10) rfl))) (mvT hZ (hw _ (List.mem_of_getElem? (i := 9) rfl))) (by decide) (backOf (W := 0) (rm2 l Z a0 hw [] s2 s0 s1 s2 s3 h0 n0 Z0 O0 S_ACTIVE S_ON_HOLD S_CANCELLED S_COMPLETED) hZ (hw _ (List.mem_of_getElem? (i := 11) rfl)) (hw _ (List.mem_of_getElem? (i := 5) rfl)) (by decide) (by decide)) qa18 qc18 (g := (mkF m 10 #[.val (.int p1), .val (.int (p1 &&& (3 : Int32))), .val (.ref s2), .unset, .unset, .unset] [(.ref s2)])) rfl (by rw [hml]; rfl) (Steps.refl _) (argsL := []) (rest := []) (lenOf pd___Z rfl) rfl (by show 2 * 0 + _ ≤ _; exact Nat.le_of_eq rfl) (hb hby at_10) (fun _ _ => ⟨rfl, e16, (by decide : 0 + 0 ≤ _), (by decide : 0 + 0 ≤ _)⟩)
    dsimp only [Pt.U, Pt.locs, Pt.cells, Pt.slots] at X18 l18 y18 z18 st18 hQ18
    subst l18 y18 z18
    obtain ⟨hv18, M19, e18⟩ := hQ18
    obtain rfl : v18 = some (.int (0 : Int32)) := by rw [hv18]; rw [own_disp, if_neg (fun q => n20 (Value.ref.inj q)), if_neg (fun q => n21 (Value.ref.inj q))]
    have N19 := Fr.app N17 M19
    refine own_to (S' := T18.setTop (mkF m 13 #[.val (.int p1), .val (.int (p1 &&& (3 : Int32))), .val (.ref s2), .unset, .unset, .unset] [(.int (0 : Int32))])) st18 ?_
    refine own_go (S' := T18.setTop (mkF m 14 #[.val (.int p1), .val (.int (p1 &&& (3 : Int32))), .val (.ref s2), .val (.int (0 : Int32)), .unset, .unset] [])) (fun tg kk => XS.istoreN X18.here hx rfl (hb hby at_13) rfl (l' := #[.val (.int p1), .val (.int (p1 &&& (3 : Int32))), .val (.ref s2), .val (.int (0 : Int32)), .unset, .unset]) rfl kk) ?_
    refine own_go (S' := T18.setTop (mkF m 15 #[.val (.int p1), .val (.int (p1 &&& (3 : Int32))), .val (.ref s2), .val (.int (0 : Int32)), .unset, .unset] [(.int (p1 &&& (3 : Int32)))])) (fun tg kk => XS.iloadN X18.here hx rfl (hb hby at_14) rfl kk) ?_
    refine own_go (S' := T18.setTop (mkF m 16 #[.val (.int p1), .val (.int (p1 &&& (3 : Int32))), .val (.ref s2), .val (.int (0 : Int32)), .unset, .unset] [(.int (1 : Int32)), (.int (p1 &&& (3 : Int32)))])) (fun tg kk => XT.iconstV X18.here hx rfl (1 : Int32) (hb hby at_15) (by decide) kk) ?_
    refine own_go (S' := T18.setTop (mkF m 23 #[.val (.int p1), .val (.int (p1 &&& (3 : Int32))), .val (.ref s2), .val (.int (0 : Int32)), .unset, .unset] [])) (fun tg kk => XS.icmpYes X18.here hx rfl (pc0 := 16) (pc' := 23) rfl (hb hby at_16) rfl (XT.ii_gt_t (by rw [u1]; decide)) (by decide) (by decide) kk) ?_
    refine own_go (S' := T18.setTop (mkF m 24 #[.val (.int p1), .val (.int (p1 &&& (3 : Int32))), .val (.ref s2), .val (.int (0 : Int32)), .unset, .unset] [(.int (0 : Int32))])) (fun tg kk => XT.iconstV X18.here hx rfl (0 : Int32) (hb hby at_23) (by decide) kk) ?_
    refine own_go (S' := T18.setTop (mkF m 26 #[.val (.int p1), .val (.int (p1 &&& (3 : Int32))), .val (.ref s2), .val (.int (0 : Int32)), .val (.int (0 : Int32)), .unset] [])) (fun tg kk => XS.istore X18.here hx rfl (hb hby at_24) rfl (l' := #[.val (.int p1), .val (.int (p1 &&& (3 : Int32))), .val (.ref s2), .val (.int (0 : Int32)), .val (.int (0 : Int32)), .unset]) rfl kk) ?_
    refine own_go (S' := T18.setTop (mkF m 27 #[.val (.int p1), .val (.int (p1 &&& (3 : Int32))), .val (.ref s2), .val (.int (0 : Int32)), .val (.int (0 : Int32)), .unset] [(.ref s2)])) (fun tg kk => XS.aloadN X18.here hx rfl (hb hby at_26) rfl rfl kk) ?_
    obtain ⟨T20, X20, e20, st20⟩ := getS (host := "") X18 hx hZ hown (hw _ (List.mem_of_getElem? (i := 13) rfl)) Via.refl e18 (S_COMPLETED.ext O0.2) (g := (mkF m 27 #[.val (.int p1), .val (.int (p1 &&& (3 : Int32))), .val (.ref s2), .val (.int (0 : Int32)), .val (.int (0 : Int32)), .unset] [(.ref s2)])) rfl (hb hby at_27)
    refine own_go (S' := T20.setTop (mkF m 30 #[.val (.int p1), .val (.int (p1 &&& (3 : Int32))), .val (.ref s2), .val (.int (0 : Int32)), .val (.int (0 : Int32)), .unset] [(.ref s3), (.ref s2)])) (st20) ?_
    obtain ⟨cq21, kq21, qa21, qb21, qc21⟩ := isOf hZ e20 (E_CANCELLED.ext O0.2)
    obtain ⟨v21, _, ⟨T21, L21, k21, n21⟩, -, X21, ⟨Lc21, hQ21, l21, y21, z21⟩, st21⟩ := X20.virtualBack hx (y := (⟨"com/example/zapis/zapis/PrescriptionStatus", "movesTo", "(Lcom/example/zapis/zapis/PrescriptionStatus;)Z"⟩ : MethodName)) (z := (⟨"com/example/zapis/zapis/PrescriptionStatus", "movesTo", "(Lcom/example/zapis/zapis/PrescriptionStatus;)Z"⟩ : MethodName)) hown (mvT hZ (hw _ (List.mem_of_getElem? (i := 15) rfl))) (mvT hZ (hw _ (List.mem_of_getElem? (i := 16) rfl))) (notFace_of_selects (args := #[]) (mvT hZ (hw _ (List.mem_of_getElem? (i := 18) rfl)))) (mvT hZ (hw _ (List.mem_of_getElem? (i := 18) rfl))) (mvT hZ (hw _ (List.mem_of_getElem? (i := 17) rfl))) (by decide) (backOf (W := 0) (rm3 l Z a0 hw [] s2 s3 (2 : Int32) s0 s1 s2 s3 h0 n0 Z0 O0 S_ACTIVE S_ON_HOLD S_CANCELLED S_COMPLETED F_CANCELLED_ordinal E_CANCELLED (Or.inr (Or.inr (Or.inl rfl)))) hZ (hw _ (List.mem_of_getElem? (i := 19) rfl)) (hw _ (List.mem_of_getElem? (i := 5) rfl)) (by decide) (by decide)) qa21 qc21 (g := (mkF m 30 #[.val (.int p1), .val (.int (p1 &&& (3 : Int32))), .val (.ref s2), .val (.int (0 : Int32)), .val (.int (0 : Int32)), .unset] [(.ref s3), (.ref s2)])) rfl (by rw [hml]; rfl) (Steps.refl _) (argsL := [(.ref s3)]) (rest := []) (lenOf pd__Lcom_example_zapis_zapis_PrescriptionStatus__Z rfl) rfl (by show 2 * 0 + _ ≤ _; exact Nat.le_of_eq rfl) (hb hby at_30) (fun _ _ => ⟨rfl, e20, (by decide : 0 + 0 ≤ _), (by decide : 0 + 0 ≤ _)⟩)
    dsimp only [Pt.U, Pt.locs, Pt.cells, Pt.slots] at X21 l21 y21 z21 st21 hQ21
    subst l21 y21 z21
    obtain ⟨hv21, M22, e21⟩ := hQ21
    obtain rfl : v21 = some (.int (0 : Int32)) := by rw [hv21]; rw [own_moves, if_neg (by decide), if_neg (by decide)]
    have N22 := Fr.app N19 M22
    refine own_to (S' := T21.setTop (mkF m 33 #[.val (.int p1), .val (.int (p1 &&& (3 : Int32))), .val (.ref s2), .val (.int (0 : Int32)), .val (.int (0 : Int32)), .unset] [(.int (0 : Int32))])) st21 ?_
    refine own_go (S' := T21.setTop (mkF m 35 #[.val (.int p1), .val (.int (p1 &&& (3 : Int32))), .val (.ref s2), .val (.int (0 : Int32)), .val (.int (0 : Int32)), .val (.int (0 : Int32))] [])) (fun tg kk => XS.istore X21.here hx rfl (hb hby at_33) rfl (l' := #[.val (.int p1), .val (.int (p1 &&& (3 : Int32))), .val (.ref s2), .val (.int (0 : Int32)), .val (.int (0 : Int32)), .val (.int (0 : Int32))]) rfl kk) ?_
    refine own_go (S' := T21.setTop (mkF m 36 #[.val (.int p1), .val (.int (p1 &&& (3 : Int32))), .val (.ref s2), .val (.int (0 : Int32)), .val (.int (0 : Int32)), .val (.int (0 : Int32))] [(.int (0 : Int32))])) (fun tg kk => XS.iloadN X21.here hx rfl (hb hby at_35) rfl kk) ?_
    refine own_go (S' := T21.setTop (mkF m 38 #[.val (.int p1), .val (.int (p1 &&& (3 : Int32))), .val (.ref s2), .val (.int (0 : Int32)), .val (.int (0 : Int32)), .val (.int (0 : Int32))] [(.int (0 : Int32)), (.int (0 : Int32))])) (fun tg kk => XS.iload X21.here hx rfl (hb hby at_36) rfl kk) ?_
    refine own_go (S' := T21.setTop (mkF m 41 #[.val (.int p1), .val (.int (p1 &&& (3 : Int32))), .val (.ref s2), .val (.int (0 : Int32)), .val (.int (0 : Int32)), .val (.int (0 : Int32))] [])) (fun tg kk => XS.icmpNo X21.here hx rfl (hb hby at_38) rfl (XT.ii_ne_f (by decide)) kk) ?_
    refine own_go (S' := T21.setTop (mkF m 42 #[.val (.int p1), .val (.int (p1 &&& (3 : Int32))), .val (.ref s2), .val (.int (0 : Int32)), .val (.int (0 : Int32)), .val (.int (0 : Int32))] [(.int (0 : Int32))])) (fun tg kk => XS.iloadN X21.here hx rfl (hb hby at_41) rfl kk) ?_
    refine own_go (S' := T21.setTop (mkF m 44 #[.val (.int p1), .val (.int (p1 &&& (3 : Int32))), .val (.ref s2), .val (.int (0 : Int32)), .val (.int (0 : Int32)), .val (.int (0 : Int32))] [(.int (0 : Int32)), (.int (0 : Int32))])) (fun tg kk => XS.iload X21.here hx rfl (hb hby at_42) rfl kk) ?_
    refine own_go (S' := T21.setTop (mkF m 47 #[.val (.int p1), .val (.int (p1 &&& (3 : Int32))), .val (.ref s2), .val (.int (0 : Int32)), .val (.int (0 : Int32)), .val (.int (0 : Int32))] [])) (fun tg kk => XS.icmpNo X21.here hx rfl (hb hby at_44) rfl (XT.ii_ne_f (by decide)) kk) ?_
    refine own_go (S' := T21.setTop (mkF m 48 #[.val (.int p1), .val (.int (p1 &&& (3 : Int32))), .val (.ref s2), .val (.int (0 : Int32)), .val (.int (0 : Int32)), .val (.int (0 : Int32))] [(.int (1 : Int32))])) (fun tg kk => XT.iconstV X21.here hx rfl (1 : Int32) (hb hby at_47) (by decide) kk) ?_
    refine own_go (S' := T21.setTop (mkF m 52 #[.val (.int p1), .val (.int (p1 &&& (3 : Int32))), .val (.ref s2), .val (.int (0 : Int32)), .val (.int (0 : Int32)), .val (.int (0 : Int32))] [(.int (1 : Int32))])) (fun tg kk => XS.goto X21.here hx rfl (pc0 := 48) (pc' := 52) rfl (hb hby at_48) (by decide) (by decide) kk) ?_
    obtain ⟨fs, hr, hrun, hended, hW, hsame⟩ := X21.leave (v := some (.int (1 : Int32))) (fun h => by rw [Bd.returns] at h; cases h)
    refine ⟨_, _, retN X21 hx (t := .boolean) Bd.returns (by simp) (hb hby at_52) hr, hrun, hended, _, _, rfl, ?_, ⟨_, rfl⟩, hW, hsame.mono (by decide) (by decide)⟩
    show Q0 Z p1 s0 s1 s2 s3 h0 n0 (some (.int (1 : Int32))) T21.heap _
    rw [e21]
    exact ⟨rfl, N22⟩
  · refine own_go (S' := s₁.setTop (mkF m 5 #[.val (.int p1), .val (.int (p1 &&& (3 : Int32))), .unset, .unset, .unset, .unset] [(.int (p1 &&& (3 : Int32)))])) (fun tg kk => XS.iloadN X0.here hx rfl (hb hby at_4) rfl kk) ?_
    obtain ⟨v23, _, ⟨T23, L23, k23, n23⟩, -, X23, ⟨Lc23, hQ23, l23, y23, z23⟩, st23⟩ := Jvm.LawKit.callS X0 hx (y := (⟨"com/example/zapis/zapis/PrescriptionStatusIsDispensablePinLaw", "pick", "(I)Lcom/example/zapis/zapis/PrescriptionStatus;"⟩ : MethodName)) hown (mvT hZ (hw _ (List.mem_of_getElem? (i := 0) rfl))) (mvT hZ (hw _ (List.mem_of_getElem? (i := 1) rfl))) (mvT hZ (hw _ (List.mem_of_getElem? (i := 2) rfl))) (mvT hZ (hw _ (List.mem_of_getElem? (i := 3) rfl))) (by decide) (backOf (W := 0) (rm1 l Z a0 hw [] (p1 &&& (3 : Int32)) s0 s1 s2 s3 h0 n0 Z0 O0 S_ACTIVE S_ON_HOLD S_CANCELLED S_COMPLETED) hZ (hw _ (List.mem_of_getElem? (i := 3) rfl)) (hw _ (List.mem_of_getElem? (i := 2) rfl)) (by decide) (by decide)) (g := (mkF m 5 #[.val (.int p1), .val (.int (p1 &&& (3 : Int32))), .unset, .unset, .unset, .unset] [(.int (p1 &&& (3 : Int32)))])) rfl (by rw [hml]; rfl) (argsL := [(.int (p1 &&& (3 : Int32)))]) (rest := []) (lenOf pd__I_Lcom_example_zapis_zapis_PrescriptionStatus_ rfl) rfl (by show 2 * 0 + _ ≤ _; exact Nat.le_of_eq rfl) (hb hby at_5) (fun _ _ => ⟨rfl, e0, (by decide : 0 + 0 ≤ _), (by decide : 0 + 0 ≤ _)⟩)
    dsimp only [Pt.U, Pt.locs, Pt.cells, Pt.slots] at X23 l23 y23 z23 st23 hQ23
    subst l23 y23 z23
    obtain ⟨hv23, M24, e23⟩ := hQ23
    obtain rfl : v23 = some (.ref s3) := by rw [hv23]; rw [own_pick, u1, if_neg (by decide), if_neg (by decide), if_neg (by decide)]
    have N24 := Fr.app N0 M24
    refine own_go (S' := T23.setTop (mkF m 8 #[.val (.int p1), .val (.int (p1 &&& (3 : Int32))), .unset, .unset, .unset, .unset] [(.ref s3)])) st23 ?_
    refine own_go (S' := T23.setTop (mkF m 9 #[.val (.int p1), .val (.int (p1 &&& (3 : Int32))), .val (.ref s3), .unset, .unset, .unset] [])) (fun tg kk => XS.astoreN X23.here hx rfl (hb hby at_8) rfl rfl (l' := #[.val (.int p1), .val (.int (p1 &&& (3 : Int32))), .val (.ref s3), .unset, .unset, .unset]) rfl kk) ?_
    refine own_go (S' := T23.setTop (mkF m 10 #[.val (.int p1), .val (.int (p1 &&& (3 : Int32))), .val (.ref s3), .unset, .unset, .unset] [(.ref s3)])) (fun tg kk => XS.aloadN X23.here hx rfl (hb hby at_9) rfl rfl kk) ?_
    obtain ⟨cq25, kq25, qa25, qb25, qc25⟩ := isOf hZ e23 (E_COMPLETED.ext O0.2)
    obtain ⟨v25, _, ⟨T25, L25, k25, n25⟩, -, X25, ⟨Lc25, hQ25, l25, y25, z25⟩, st25⟩ := X23.virtualBack hx (y := (⟨"com/example/zapis/zapis/PrescriptionStatus", "isDispensable", "()Z"⟩ : MethodName)) (z := (⟨"com/example/zapis/zapis/PrescriptionStatus", "isDispensable", "()Z"⟩ : MethodName)) hown (mvT hZ (hw _ (List.mem_of_getElem? (i := 7) rfl))) (mvT hZ (hw _ (List.mem_of_getElem? (i := 8) rfl))) (notFace_of_selects (args := #[]) (mvT hZ (hw _ (List.mem_of_getElem? (i := 10) rfl)))) (mvT hZ (hw _ (List.mem_of_getElem? (i := 10) rfl))) (mvT hZ (hw _ (List.mem_of_getElem? (i := 9) rfl))) (by decide) (backOf (W := 0) (rm2 l Z a0 hw [] s3 s0 s1 s2 s3 h0 n0 Z0 O0 S_ACTIVE S_ON_HOLD S_CANCELLED S_COMPLETED) hZ (hw _ (List.mem_of_getElem? (i := 11) rfl)) (hw _ (List.mem_of_getElem? (i := 5) rfl)) (by decide) (by decide)) qa25 qc25 (g := (mkF m 10 #[.val (.int p1), .val (.int (p1 &&& (3 : Int32))), .val (.ref s3), .unset, .unset, .unset] [(.ref s3)])) rfl (by rw [hml]; rfl) (Steps.refl _) (argsL := []) (rest := []) (lenOf pd___Z rfl) rfl (by show 2 * 0 + _ ≤ _; exact Nat.le_of_eq rfl) (hb hby at_10) (fun _ _ => ⟨rfl, e23, (by decide : 0 + 0 ≤ _), (by decide : 0 + 0 ≤ _)⟩)
    dsimp only [Pt.U, Pt.locs, Pt.cells, Pt.slots] at X25 l25 y25 z25 st25 hQ25
    subst l25 y25 z25
    obtain ⟨hv25, M26, e25⟩ := hQ25
    obtain rfl : v25 = some (.int (0 : Int32)) := by rw [hv25]; rw [own_disp, if_neg (fun q => n30 (Value.ref.inj q)), if_neg (fun q => n31 (Value.ref.inj q))]
    have N26 := Fr.app N24 M26
    refine own_to (S' := T25.setTop (mkF m 13 #[.val (.int p1), .val (.int (p1 &&& (3 : Int32))), .val (.ref s3), .unset, .unset, .unset] [(.int (0 : Int32))])) st25 ?_
    refine own_go (S' := T25.setTop (mkF m 14 #[.val (.int p1), .val (.int (p1 &&& (3 : Int32))), .val (.ref s3), .val (.int (0 : Int32)), .unset, .unset] [])) (fun tg kk => XS.istoreN X25.here hx rfl (hb hby at_13) rfl (l' := #[.val (.int p1), .val (.int (p1 &&& (3 : Int32))), .val (.ref s3), .val (.int (0 : Int32)), .unset, .unset]) rfl kk) ?_
    refine own_go (S' := T25.setTop (mkF m 15 #[.val (.int p1), .val (.int (p1 &&& (3 : Int32))), .val (.ref s3), .val (.int (0 : Int32)), .unset, .unset] [(.int (p1 &&& (3 : Int32)))])) (fun tg kk => XS.iloadN X25.here hx rfl (hb hby at_14) rfl kk) ?_
    refine own_go (S' := T25.setTop (mkF m 16 #[.val (.int p1), .val (.int (p1 &&& (3 : Int32))), .val (.ref s3), .val (.int (0 : Int32)), .unset, .unset] [(.int (1 : Int32)), (.int (p1 &&& (3 : Int32)))])) (fun tg kk => XT.iconstV X25.here hx rfl (1 : Int32) (hb hby at_15) (by decide) kk) ?_
    refine own_go (S' := T25.setTop (mkF m 23 #[.val (.int p1), .val (.int (p1 &&& (3 : Int32))), .val (.ref s3), .val (.int (0 : Int32)), .unset, .unset] [])) (fun tg kk => XS.icmpYes X25.here hx rfl (pc0 := 16) (pc' := 23) rfl (hb hby at_16) rfl (XT.ii_gt_t (by rw [u1]; decide)) (by decide) (by decide) kk) ?_
    refine own_go (S' := T25.setTop (mkF m 24 #[.val (.int p1), .val (.int (p1 &&& (3 : Int32))), .val (.ref s3), .val (.int (0 : Int32)), .unset, .unset] [(.int (0 : Int32))])) (fun tg kk => XT.iconstV X25.here hx rfl (0 : Int32) (hb hby at_23) (by decide) kk) ?_
    refine own_go (S' := T25.setTop (mkF m 26 #[.val (.int p1), .val (.int (p1 &&& (3 : Int32))), .val (.ref s3), .val (.int (0 : Int32)), .val (.int (0 : Int32)), .unset] [])) (fun tg kk => XS.istore X25.here hx rfl (hb hby at_24) rfl (l' := #[.val (.int p1), .val (.int (p1 &&& (3 : Int32))), .val (.ref s3), .val (.int (0 : Int32)), .val (.int (0 : Int32)), .unset]) rfl kk) ?_
    refine own_go (S' := T25.setTop (mkF m 27 #[.val (.int p1), .val (.int (p1 &&& (3 : Int32))), .val (.ref s3), .val (.int (0 : Int32)), .val (.int (0 : Int32)), .unset] [(.ref s3)])) (fun tg kk => XS.aloadN X25.here hx rfl (hb hby at_26) rfl rfl kk) ?_
    obtain ⟨T27, X27, e27, st27⟩ := getS (host := "") X25 hx hZ hown (hw _ (List.mem_of_getElem? (i := 13) rfl)) Via.refl e25 (S_COMPLETED.ext O0.2) (g := (mkF m 27 #[.val (.int p1), .val (.int (p1 &&& (3 : Int32))), .val (.ref s3), .val (.int (0 : Int32)), .val (.int (0 : Int32)), .unset] [(.ref s3)])) rfl (hb hby at_27)
    refine own_go (S' := T27.setTop (mkF m 30 #[.val (.int p1), .val (.int (p1 &&& (3 : Int32))), .val (.ref s3), .val (.int (0 : Int32)), .val (.int (0 : Int32)), .unset] [(.ref s3), (.ref s3)])) (st27) ?_
    obtain ⟨cq28, kq28, qa28, qb28, qc28⟩ := isOf hZ e27 (E_COMPLETED.ext O0.2)
    obtain ⟨v28, _, ⟨T28, L28, k28, n28⟩, -, X28, ⟨Lc28, hQ28, l28, y28, z28⟩, st28⟩ := X27.virtualBack hx (y := (⟨"com/example/zapis/zapis/PrescriptionStatus", "movesTo", "(Lcom/example/zapis/zapis/PrescriptionStatus;)Z"⟩ : MethodName)) (z := (⟨"com/example/zapis/zapis/PrescriptionStatus", "movesTo", "(Lcom/example/zapis/zapis/PrescriptionStatus;)Z"⟩ : MethodName)) hown (mvT hZ (hw _ (List.mem_of_getElem? (i := 15) rfl))) (mvT hZ (hw _ (List.mem_of_getElem? (i := 16) rfl))) (notFace_of_selects (args := #[]) (mvT hZ (hw _ (List.mem_of_getElem? (i := 18) rfl)))) (mvT hZ (hw _ (List.mem_of_getElem? (i := 18) rfl))) (mvT hZ (hw _ (List.mem_of_getElem? (i := 17) rfl))) (by decide) (backOf (W := 0) (rm3 l Z a0 hw [] s3 s3 (3 : Int32) s0 s1 s2 s3 h0 n0 Z0 O0 S_ACTIVE S_ON_HOLD S_CANCELLED S_COMPLETED F_COMPLETED_ordinal E_COMPLETED (Or.inr (Or.inr (Or.inr rfl)))) hZ (hw _ (List.mem_of_getElem? (i := 19) rfl)) (hw _ (List.mem_of_getElem? (i := 5) rfl)) (by decide) (by decide)) qa28 qc28 (g := (mkF m 30 #[.val (.int p1), .val (.int (p1 &&& (3 : Int32))), .val (.ref s3), .val (.int (0 : Int32)), .val (.int (0 : Int32)), .unset] [(.ref s3), (.ref s3)])) rfl (by rw [hml]; rfl) (Steps.refl _) (argsL := [(.ref s3)]) (rest := []) (lenOf pd__Lcom_example_zapis_zapis_PrescriptionStatus__Z rfl) rfl (by show 2 * 0 + _ ≤ _; exact Nat.le_of_eq rfl) (hb hby at_30) (fun _ _ => ⟨rfl, e27, (by decide : 0 + 0 ≤ _), (by decide : 0 + 0 ≤ _)⟩)
    dsimp only [Pt.U, Pt.locs, Pt.cells, Pt.slots] at X28 l28 y28 z28 st28 hQ28
    subst l28 y28 z28
    obtain ⟨hv28, M29, e28⟩ := hQ28
    obtain rfl : v28 = some (.int (0 : Int32)) := by rw [hv28]; rw [own_moves, if_neg (by decide), if_neg (by decide)]
    have N29 := Fr.app N26 M29
    refine own_to (S' := T28.setTop (mkF m 33 #[.val (.int p1), .val (.int (p1 &&& (3 : Int32))), .val (.ref s3), .val (.int (0 : Int32)), .val (.int (0 : Int32)), .unset] [(.int (0 : Int32))])) st28 ?_
    refine own_go (S' := T28.setTop (mkF m 35 #[.val (.int p1), .val (.int (p1 &&& (3 : Int32))), .val (.ref s3), .val (.int (0 : Int32)), .val (.int (0 : Int32)), .val (.int (0 : Int32))] [])) (fun tg kk => XS.istore X28.here hx rfl (hb hby at_33) rfl (l' := #[.val (.int p1), .val (.int (p1 &&& (3 : Int32))), .val (.ref s3), .val (.int (0 : Int32)), .val (.int (0 : Int32)), .val (.int (0 : Int32))]) rfl kk) ?_
    refine own_go (S' := T28.setTop (mkF m 36 #[.val (.int p1), .val (.int (p1 &&& (3 : Int32))), .val (.ref s3), .val (.int (0 : Int32)), .val (.int (0 : Int32)), .val (.int (0 : Int32))] [(.int (0 : Int32))])) (fun tg kk => XS.iloadN X28.here hx rfl (hb hby at_35) rfl kk) ?_
    refine own_go (S' := T28.setTop (mkF m 38 #[.val (.int p1), .val (.int (p1 &&& (3 : Int32))), .val (.ref s3), .val (.int (0 : Int32)), .val (.int (0 : Int32)), .val (.int (0 : Int32))] [(.int (0 : Int32)), (.int (0 : Int32))])) (fun tg kk => XS.iload X28.here hx rfl (hb hby at_36) rfl kk) ?_
    refine own_go (S' := T28.setTop (mkF m 41 #[.val (.int p1), .val (.int (p1 &&& (3 : Int32))), .val (.ref s3), .val (.int (0 : Int32)), .val (.int (0 : Int32)), .val (.int (0 : Int32))] [])) (fun tg kk => XS.icmpNo X28.here hx rfl (hb hby at_38) rfl (XT.ii_ne_f (by decide)) kk) ?_
    refine own_go (S' := T28.setTop (mkF m 42 #[.val (.int p1), .val (.int (p1 &&& (3 : Int32))), .val (.ref s3), .val (.int (0 : Int32)), .val (.int (0 : Int32)), .val (.int (0 : Int32))] [(.int (0 : Int32))])) (fun tg kk => XS.iloadN X28.here hx rfl (hb hby at_41) rfl kk) ?_
    refine own_go (S' := T28.setTop (mkF m 44 #[.val (.int p1), .val (.int (p1 &&& (3 : Int32))), .val (.ref s3), .val (.int (0 : Int32)), .val (.int (0 : Int32)), .val (.int (0 : Int32))] [(.int (0 : Int32)), (.int (0 : Int32))])) (fun tg kk => XS.iload X28.here hx rfl (hb hby at_42) rfl kk) ?_
    refine own_go (S' := T28.setTop (mkF m 47 #[.val (.int p1), .val (.int (p1 &&& (3 : Int32))), .val (.ref s3), .val (.int (0 : Int32)), .val (.int (0 : Int32)), .val (.int (0 : Int32))] [])) (fun tg kk => XS.icmpNo X28.here hx rfl (hb hby at_44) rfl (XT.ii_ne_f (by decide)) kk) ?_
    refine own_go (S' := T28.setTop (mkF m 48 #[.val (.int p1), .val (.int (p1 &&& (3 : Int32))), .val (.ref s3), .val (.int (0 : Int32)), .val (.int (0 : Int32)), .val (.int (0 : Int32))] [(.int (1 : Int32))])) (fun tg kk => XT.iconstV X28.here hx rfl (1 : Int32) (hb hby at_47) (by decide) kk) ?_
    refine own_go (S' := T28.setTop (mkF m 52 #[.val (.int p1), .val (.int (p1 &&& (3 : Int32))), .val (.ref s3), .val (.int (0 : Int32)), .val (.int (0 : Int32)), .val (.int (0 : Int32))] [(.int (1 : Int32))])) (fun tg kk => XS.goto X28.here hx rfl (pc0 := 48) (pc' := 52) rfl (hb hby at_48) (by decide) (by decide) kk) ?_
    obtain ⟨fs, hr, hrun, hended, hW, hsame⟩ := X28.leave (v := some (.int (1 : Int32))) (fun h => by rw [Bd.returns] at h; cases h)
    refine ⟨_, _, retN X28 hx (t := .boolean) Bd.returns (by simp) (hb hby at_52) hr, hrun, hended, _, _, rfl, ?_, ⟨_, rfl⟩, hW, hsame.mono (by decide) (by decide)⟩
    show Q0 Z p1 s0 s1 s2 s3 h0 n0 (some (.int (1 : Int32))) T28.heap _
    rw [e28]
    exact ⟨rfl, N29⟩
set_option maxRecDepth 65536 in
set_option maxHeartbeats 40000000 in
theorem comes_1 {Post : Tables → Env → Array Value → State → Outcome → State → Prop} (hpost : ∀ tb e args s v u, (limb_1_1.after args s (.returned v) u = true ∧ limb_1_2.after args s (.returned v) u = true ∧ True) → FrameEnd s (.returned v) u (Jvm.fieldLocs frame_1_writes args s ++ Jvm.arrayLocs frame_1_arrays args s ++ Jvm.staticLocs frame_1_statics s) 0 0 → Post tb e args s (.returned v) u) :
    ArmFor flags0 classFile x code maxLocals ret World_1 tables_1 room_1 Calls_1 rest_1 Pre_1 Post := by
  intro l hfl _ _ p e ha hc hk s m args below hf hA hF happ hP
  obtain ⟨hcalls, hrest, hpre⟩ := hP
  obtain ⟨-, -, -, hnamed, -, -, -, hat⟩ := (Spec.applies_iff hf).mp happ
  obtain ⟨hg, hn⟩ := and_e (Cond.before_iff.mp (show (Jvm.Cond.and given_1 narrow_1).before args s = true from hpre))
  obtain ⟨hgl, hgr⟩ := and_e hg
  obtain ⟨w0, rfl⟩ : ∃ w0 : Value, args = #[w0] := by
    have hs : args.size = 1 := by simpa [Cond.value] using hgl
    obtain ⟨L⟩ := args
    match L, hs with
    | [w0], _ => exact ⟨w0, rfl⟩
  have hw := fun d (hd : d ∈ tables_1) => atoms_spec (ws := Jvm.Cond.code x code maxLocals ret :: tables_1) hat d (List.mem_cons_of_mem _ hd)
  have hfit : Fit s := fun {y c} hc i hi => by
    obtain ⟨ha, rfl⟩ := Array.getElem?_eq_some_iff.mp hc
    have q := List.all_eq_true.mp ((Array.all_eq_true_iff_forall_mem.mp hF) _ (Array.getElem_mem ha)) i (List.mem_range.mpr hi)
    simpa [Array.getElem?_eq_getElem hi] using q
  obtain ⟨p1, ew0⟩ := is_v hgr
  obtain rfl : w0 = (.int p1) := Option.some.inj ew0
  obtain ⟨hnl, hnr⟩ := and_e hn
  obtain ⟨hnrl, hnrr⟩ := and_e hnr
  obtain ⟨hnrrl, hnrrr⟩ := and_e hnrr
  obtain ⟨hnrrrl, hnrrrr⟩ := and_e hnrrr
  obtain ⟨hnrrrrl, hnrrrrr⟩ := and_e hnrrrr
  obtain ⟨hnrrrrrl, hnrrrrrr⟩ := and_e hnrrrrr
  obtain ⟨hnrrrrrrl, hnrrrrrrr⟩ := and_e hnrrrrrr
  obtain ⟨s_ACTIVE, ev_ACTIVE⟩ := exa_v hnl
  have E_ACTIVE := Exa.start ev_ACTIVE hnl
  have S_ACTIVE := Sta.start ev_ACTIVE (Or.inr ⟨(hw _ (List.mem_of_getElem? (i := 5) rfl)), (hw _ (List.mem_of_getElem? (i := 6) rfl))⟩)
  obtain ⟨s_COMPLETED, ev_COMPLETED⟩ := exa_v hnrl
  have E_COMPLETED := Exa.start ev_COMPLETED hnrl
  have S_COMPLETED := Sta.start ev_COMPLETED (Or.inr ⟨(hw _ (List.mem_of_getElem? (i := 5) rfl)), (hw _ (List.mem_of_getElem? (i := 14) rfl))⟩)
  obtain ⟨s_ON_HOLD, ev_ON_HOLD⟩ := exa_v hnrrrrl
  have E_ON_HOLD := Exa.start ev_ON_HOLD hnrrrrl
  have S_ON_HOLD := Sta.start ev_ON_HOLD (Or.inr ⟨(hw _ (List.mem_of_getElem? (i := 5) rfl)), (hw _ (List.mem_of_getElem? (i := 30) rfl))⟩)
  obtain ⟨s_CANCELLED, ev_CANCELLED⟩ := exa_v hnrrrrrrl
  have E_CANCELLED := Exa.start ev_CANCELLED hnrrrrrrl
  have S_CANCELLED := Sta.start ev_CANCELLED (Or.inr ⟨(hw _ (List.mem_of_getElem? (i := 5) rfl)), (hw _ (List.mem_of_getElem? (i := 32) rfl))⟩)
  have F_ACTIVE_ordinal : Fld s s.heap s_ACTIVE "java/lang/Enum" "ordinal" "I" (.int (0 : Int32)) := Fld.start ((fld_at ev_ACTIVE).symm.trans (Cond.eq_int (Cond.before_iff.mpr hnrrl) rfl))
  have F_COMPLETED_ordinal : Fld s s.heap s_COMPLETED "java/lang/Enum" "ordinal" "I" (.int (3 : Int32)) := Fld.start ((fld_at ev_COMPLETED).symm.trans (Cond.eq_int (Cond.before_iff.mpr hnrrrl) rfl))
  have F_ON_HOLD_ordinal : Fld s s.heap s_ON_HOLD "java/lang/Enum" "ordinal" "I" (.int (1 : Int32)) := Fld.start ((fld_at ev_ON_HOLD).symm.trans (Cond.eq_int (Cond.before_iff.mpr hnrrrrrl) rfl))
  have F_CANCELLED_ordinal : Fld s s.heap s_CANCELLED "java/lang/Enum" "ordinal" "I" (.int (2 : Int32)) := Fld.start ((fld_at ev_CANCELLED).symm.trans (Cond.eq_int (Cond.before_iff.mpr hnrrrrrrr) rfl))
  obtain ⟨n, o, h1, h2, h3, _, L, rfl, ⟨rfl, N⟩, hq⟩ := rm0 l s _ hw tables_1 p1 s_ACTIVE s_ON_HOLD s_CANCELLED s_COMPLETED s.heap s.heap.size (Nat.le_refl _) (Old.start s) S_ACTIVE S_ON_HOLD S_CANCELLED S_COMPLETED E_ACTIVE E_ON_HOLD E_CANCELLED E_COMPLETED F_ACTIVE_ordinal F_ON_HOLD_ordinal F_CANCELLED_ordinal F_COMPLETED_ordinal (F_ACTIVE_ordinal.ne F_ON_HOLD_ordinal (by decide)) (F_ACTIVE_ordinal.ne F_CANCELLED_ordinal (by decide)) (F_ACTIVE_ordinal.ne F_COMPLETED_ordinal (by decide)) (F_ON_HOLD_ordinal.ne F_ACTIVE_ordinal (by decide)) (F_ON_HOLD_ordinal.ne F_CANCELLED_ordinal (by decide)) (F_ON_HOLD_ordinal.ne F_COMPLETED_ordinal (by decide)) (F_CANCELLED_ordinal.ne F_ACTIVE_ordinal (by decide)) (F_CANCELLED_ordinal.ne F_ON_HOLD_ordinal (by decide)) (F_CANCELLED_ordinal.ne F_COMPLETED_ordinal (by decide)) (F_COMPLETED_ordinal.ne F_ACTIVE_ordinal (by decide)) (F_COMPLETED_ordinal.ne F_ON_HOLD_ordinal (by decide)) (F_COMPLETED_ordinal.ne F_CANCELLED_ordinal (by decide)) p e ha hc hk s m _ below hf ((Spec.applies_iff_loose hf).mp happ).1 ⟨rfl, State.Warmed39.refl s, rfl⟩ trivial
  refine ⟨n, _, h1, h2, h3, hpost _ _ _ _ _ _ ⟨Cond.after_iff.mpr rfl, Cond.after_iff.mpr (eq_i res_at (Term.int_eval (1)) rfl), trivial⟩ ⟨hq.1, hq.2.1, (hq.2.2.sift fun y hy => Or.inr (N y hy)).mono (by decide) (by decide)⟩⟩
theorem main_1_1 : Claimed_1_1 := comes_1 fun _ _ _ _ _ _ h hF => ⟨h.1, hF⟩
theorem main_1_2 : Claimed_1_2 := comes_1 fun _ _ _ _ _ _ h hF => ⟨h.2.1, hF⟩
end Jvm.Pilot.@@N@@
namespace Jvm.Pilot.@@N@@
open Jvm Jvm.ClassFile Sem Op Lib Jvm.Free Jvm.Stand Jvm.Pilot.@@N@@.Jvm.D
/-! MADE BY PROGRAM (witnessworld.py) out of the Statement's table words and the real class files: 12 classes; the members and pool entries that the words name. The judged class is class 1, her method 2. -/
namespace start1
open Jvm.ClassFile
def u (s : String) : CpInfo := .utf8 (stringToUtf16 s)
/-- a pool by its gaps: so many unusable entries, then the entry; so many at the end -/
def gap : Nat → List CpInfo → List CpInfo
  | 0, r => r
  | n + 1, r => .unusable :: gap n r
def poolList (es : List (Nat × CpInfo)) (last : Nat) : List CpInfo := es.foldr (fun e r => gap e.1 (e.2 :: r)) (gap last [])
def pool (es : List (Nat × CpInfo)) (last : Nat) : Array CpInfo := ⟨poolList es last⟩
def fileOf (pool : Array CpInfo) (this : Nat) (attrs : Array Attribute := #[]) (ms : Array MethodInfo := #[]) (fl : Nat := 33) (sup : Nat := 0) (ifs : Array Nat := #[]) (fds : Array FieldInfo := #[]) : ClassFile where
  minorVersion := 0
  majorVersion := 65
  constantPool := pool
  accessFlags := fl
  thisClass := this
  superClass := sup
  interfaces := ifs
  fields := fds
  methods := ms
  attributes := attrs
def plain (name : String) (sup : Option ClassId) : Class where
  name := name
  kind := .ordinary
  loader := none
  accessFlags := 33
  super := sup
  interfaces := #[]
  cf := none
  fields := #[]
  methods := #[]
  instanceTypes := #[]
  staticTypes := #[]
  resolved := #[]
  callSites := []
  init := .initialized
  statics := none
  mirror := none

def pool0 : Array CpInfo := pool [(5, u "<init>"), (0, u "()V"), (1, .class_ 10), (1, u "java/lang/Object")] 113

def k0m0 : Method := { name := "<init>", desc := "()V", sig := { parameters := [], returnType := none }, accessFlags := 1, code := none }
/-- java/lang/Object -/
def k0 : Class := { plain "java/lang/Object" none with
  accessFlags := 33
  interfaces := #[]
  cf := some (fileOf pool0 8 #[] #[{ accessFlags := 1, nameIndex := 5, descriptorIndex := 6, attributes := #[] }] 33 0 #[] #[])
  fields := #[]
  methods := #[k0m0]
  instanceTypes := #[]
  staticTypes := #[]
  resolved := Array.replicate 124 none
  statics := none }

def pool1 : Array CpInfo := pool [(2, .class_ 4), (1, u "java/lang/Object"), (0, u "<init>"), (0, u "()V"), (0, .fieldref 8 9), (0, .class_ 10), (0, .nameAndType 11 12), (0, u "com/example/zapis/zapis/PrescriptionStatus"), (0, u "ACTIVE"), (0, u "Lcom/example/zapis/zapis/PrescriptionStatus;"), (0, .fieldref 8 14), (0, .nameAndType 15 12), (0, u "ON_HOLD"), (0, .fieldref 8 17), (0, .nameAndType 18 12), (0, u "CANCELLED"), (0, .fieldref 8 20), (0, .nameAndType 21 12), (0, u "COMPLETED"), (0, .methodref 23 24), (0, .class_ 25), (0, .nameAndType 26 27), (0, u "com/example/zapis/zapis/PrescriptionStatusIsDispensablePinLaw"), (0, u "pick"), (0, u "(I)Lcom/example/zapis/zapis/PrescriptionStatus;"), (0, .methodref 8 29), (0, .nameAndType 30 31), (0, u "isDispensable"), (0, u "()Z"), (0, .methodref 8 33), (0, .nameAndType 34 35), (0, u "movesTo"), (0, u "(Lcom/example/zapis/zapis/PrescriptionStatus;)Z"), (3, u "law"), (0, u "(I)Z")] 2

def k1m0 : Method := { name := "<init>", desc := "()V", sig := { parameters := [], returnType := none }, accessFlags := 1, code := none }
def k1c1 : Code := { maxStack := 2, maxLocals := 1, code := method_2_code, exceptionTable := #[], attributes := #[] }
def k1m1 : Method := { name := "pick", desc := "(I)Lcom/example/zapis/zapis/PrescriptionStatus;", sig := { parameters := [.int], returnType := some (.object "com/example/zapis/zapis/PrescriptionStatus") }, accessFlags := 10, code := some k1c1 }
def k1c2 : Code := { maxStack := 2, maxLocals := 6, code := code, exceptionTable := #[], attributes := #[] }
def k1m2 : Method := { name := "law", desc := "(I)Z", sig := { parameters := [.int], returnType := some .boolean }, accessFlags := 9, code := some k1c2 }
/-- com/example/zapis/zapis/PrescriptionStatusIsDispensablePinLaw -/
def k1 : Class := { plain "com/example/zapis/zapis/PrescriptionStatusIsDispensablePinLaw" (some 0) with
  accessFlags := 49
  interfaces := #[]
  cf := some (fileOf pool1 23 #[] #[{ accessFlags := 1, nameIndex := 5, descriptorIndex := 6, attributes := #[] }, { accessFlags := 10, nameIndex := 26, descriptorIndex := 27, attributes := #[] }, { accessFlags := 9, nameIndex := 39, descriptorIndex := 40, attributes := #[] }] 49 2 #[] #[])
  fields := #[]
  methods := #[k1m0, k1m1, k1m2]
  instanceTypes := #[]
  staticTypes := #[]
  resolved := Array.replicate 43 none
  statics := none }

def pool2 : Array CpInfo := pool [(1, .class_ 2), (0, u "java/lang/constant/Constable"), (0, .class_ 4), (0, u "java/lang/Object")] 6

/-- java/lang/constant/Constable -/
def k2 : Class := { plain "java/lang/constant/Constable" (some 0) with
  accessFlags := 1537
  interfaces := #[]
  cf := some (fileOf pool2 1 #[] #[] 1537 3 #[] #[])
  fields := #[]
  methods := #[]
  instanceTypes := #[]
  staticTypes := #[]
  resolved := Array.replicate 11 none
  statics := none }

def pool3 : Array CpInfo := pool [(1, .class_ 2), (0, u "java/lang/Comparable"), (0, .class_ 4), (0, u "java/lang/Object")] 7

/-- java/lang/Comparable -/
def k3 : Class := { plain "java/lang/Comparable" (some 0) with
  accessFlags := 1537
  interfaces := #[]
  cf := some (fileOf pool3 1 #[] #[] 1537 3 #[] #[])
  fields := #[]
  methods := #[]
  instanceTypes := #[]
  staticTypes := #[]
  resolved := Array.replicate 12 none
  statics := none }

def pool4 : Array CpInfo := pool [(1, .class_ 2), (0, u "java/io/Serializable"), (0, .class_ 4), (0, u "java/lang/Object")] 2

/-- java/io/Serializable -/
def k4 : Class := { plain "java/io/Serializable" (some 0) with
  accessFlags := 1537
  interfaces := #[]
  cf := some (fileOf pool4 1 #[] #[] 1537 3 #[] #[])
  fields := #[]
  methods := #[]
  instanceTypes := #[]
  staticTypes := #[]
  resolved := Array.replicate 7 none
  statics := none }

def pool5 : Array CpInfo := pool [(2, .class_ 4), (1, u "java/lang/Enum"), (0, u "name"), (0, u "Ljava/lang/String;"), (0, .fieldref 2 8), (0, .nameAndType 9 10), (0, u "ordinal"), (0, u "I"), (1, .class_ 14), (1, u "java/lang/Object"), (4, u "hash"), (86, .class_ 108), (1, u "java/lang/Enum$EnumDesc"), (2, .class_ 112), (0, u "java/lang/constant/Constable"), (0, .class_ 114), (0, u "java/lang/Comparable"), (0, .class_ 116), (0, u "java/io/Serializable"), (9, u "()I")] 77

def k5c0 : Code := { maxStack := 1, maxLocals := 1, code := jdk_37_method_2_code, exceptionTable := #[], attributes := #[] }
def k5m0 : Method := { name := "ordinal", desc := "()I", sig := { parameters := [], returnType := some .int }, accessFlags := 17, code := some k5c0 }
/-- java/lang/Enum -/
def k5 : Class := { plain "java/lang/Enum" (some 0) with
  accessFlags := 1057
  interfaces := #[2, 3, 4]
  cf := some (fileOf pool5 2 #[.nestMembers #[106]] #[{ accessFlags := 17, nameIndex := 9, descriptorIndex := 126, attributes := #[] }] 1057 12 #[111, 113, 115] #[{ accessFlags := 18, nameIndex := 5, descriptorIndex := 6, attributes := #[] }, { accessFlags := 18, nameIndex := 9, descriptorIndex := 10, attributes := #[] }, { accessFlags := 2, nameIndex := 19, descriptorIndex := 10, attributes := #[] }])
  fields := #[{ name := "name", type := (.object "java/lang/String"), accessFlags := 18, slot := 0, constantValue := 0 }, { name := "ordinal", type := .int, accessFlags := 18, slot := 1, constantValue := 0 }, { name := "hash", type := .int, accessFlags := 2, slot := 2, constantValue := 0 }]
  methods := #[k5m0]
  instanceTypes := #[(.object "java/lang/String"), .int, .int]
  staticTypes := #[]
  resolved := Array.replicate 204 none
  statics := none }

def pool6 : Array CpInfo := pool [(1, .class_ 2), (0, u "com/example/zapis/zapis/PrescriptionStatus"), (0, .fieldref 1 4), (0, .nameAndType 5 6), (0, u "ACTIVE"), (0, u "Lcom/example/zapis/zapis/PrescriptionStatus;"), (0, .fieldref 1 8), (0, .nameAndType 9 6), (0, u "ON_HOLD"), (0, .fieldref 1 11), (0, .nameAndType 12 6), (0, u "CANCELLED"), (0, .fieldref 1 14), (0, .nameAndType 15 6), (0, u "COMPLETED"), (2, u "$VALUES"), (0, u "[Lcom/example/zapis/zapis/PrescriptionStatus;"), (6, .class_ 28), (1, u "java/lang/Enum"), (8, u "code"), (0, u "Ljava/lang/String;"), (24, .methodref 1 64), (0, .nameAndType 65 66), (0, u "ordinal"), (0, u "()I"), (39, u "COST"), (0, u "Ljava/util/regex/Pattern;"), (0, u "DISPENSED"), (13, u "movesTo"), (0, u "(Lcom/example/zapis/zapis/PrescriptionStatus;)Z"), (1, u "isDispensable"), (0, u "()Z")] 26

def k6c0 : Code := { maxStack := 4, maxLocals := 2, code := prog_12_method_6_code, exceptionTable := #[], attributes := #[] }
def k6m0 : Method := { name := "movesTo", desc := "(Lcom/example/zapis/zapis/PrescriptionStatus;)Z", sig := { parameters := [(.object "com/example/zapis/zapis/PrescriptionStatus")], returnType := some .boolean }, accessFlags := 0, code := some k6c0 }
def k6c1 : Code := { maxStack := 2, maxLocals := 1, code := prog_12_method_7_code, exceptionTable := #[], attributes := #[] }
def k6m1 : Method := { name := "isDispensable", desc := "()Z", sig := { parameters := [], returnType := some .boolean }, accessFlags := 0, code := some k6c1 }
/-- com/example/zapis/zapis/PrescriptionStatus -/
def k6 : Class := { plain "com/example/zapis/zapis/PrescriptionStatus" (some 5) with
  accessFlags := 16432
  interfaces := #[]
  cf := some (fileOf pool6 1 #[] #[{ accessFlags := 0, nameIndex := 122, descriptorIndex := 123, attributes := #[] }, { accessFlags := 0, nameIndex := 125, descriptorIndex := 126, attributes := #[] }] 16432 26 #[] #[{ accessFlags := 16409, nameIndex := 5, descriptorIndex := 6, attributes := #[] }, { accessFlags := 16409, nameIndex := 9, descriptorIndex := 6, attributes := #[] }, { accessFlags := 16409, nameIndex := 12, descriptorIndex := 6, attributes := #[] }, { accessFlags := 16409, nameIndex := 15, descriptorIndex := 6, attributes := #[] }, { accessFlags := 24, nameIndex := 106, descriptorIndex := 107, attributes := #[] }, { accessFlags := 24, nameIndex := 108, descriptorIndex := 38, attributes := #[] }, { accessFlags := 18, nameIndex := 37, descriptorIndex := 38, attributes := #[] }, { accessFlags := 4122, nameIndex := 18, descriptorIndex := 19, attributes := #[] }])
  fields := #[{ name := "ACTIVE", type := (.object "com/example/zapis/zapis/PrescriptionStatus"), accessFlags := 16409, slot := 0, constantValue := 0 }, { name := "ON_HOLD", type := (.object "com/example/zapis/zapis/PrescriptionStatus"), accessFlags := 16409, slot := 1, constantValue := 0 }, { name := "CANCELLED", type := (.object "com/example/zapis/zapis/PrescriptionStatus"), accessFlags := 16409, slot := 2, constantValue := 0 }, { name := "COMPLETED", type := (.object "com/example/zapis/zapis/PrescriptionStatus"), accessFlags := 16409, slot := 3, constantValue := 0 }, { name := "COST", type := (.object "java/util/regex/Pattern"), accessFlags := 24, slot := 4, constantValue := 0 }, { name := "DISPENSED", type := (.object "java/lang/String"), accessFlags := 24, slot := 5, constantValue := 0 }, { name := "code", type := (.object "java/lang/String"), accessFlags := 18, slot := 3, constantValue := 0 }, { name := "$VALUES", type := (.array (.object "com/example/zapis/zapis/PrescriptionStatus")), accessFlags := 4122, slot := 6, constantValue := 0 }]
  methods := #[k6m0, k6m1]
  instanceTypes := #[(.object "java/lang/String"), .int, .int, (.object "java/lang/String")]
  staticTypes := #[(.object "com/example/zapis/zapis/PrescriptionStatus"), (.object "com/example/zapis/zapis/PrescriptionStatus"), (.object "com/example/zapis/zapis/PrescriptionStatus"), (.object "com/example/zapis/zapis/PrescriptionStatus"), (.object "java/util/regex/Pattern"), (.object "java/lang/String"), (.array (.object "com/example/zapis/zapis/PrescriptionStatus"))]
  resolved := Array.replicate 153 none
  statics := some 0 }

def pool7 : Array CpInfo := pool [(1, u "java/lang/Cloneable"), (0, .class_ 1), (0, u "java/lang/Object"), (0, .class_ 3)] 3

/-- java/lang/Cloneable -/
def k7 : Class := { plain "java/lang/Cloneable" (some 0) with
  accessFlags := 1537
  interfaces := #[]
  cf := some (fileOf pool7 2 #[] #[] 1537 4 #[] #[])
  fields := #[]
  methods := #[]
  instanceTypes := #[]
  staticTypes := #[]
  resolved := Array.replicate 8 none
  statics := none }

/-- the primitive byte -/
def k8 : Class := { plain "byte" none with kind := .primitive 'B', accessFlags := 0x411 }
/-- [B -/
def k9 : Class := { plain "[B" (some 0) with kind := .array 8 .byte, interfaces := #[7, 4], accessFlags := 1041 }

/-- the primitive int -/
def k10 : Class := { plain "int" none with kind := .primitive 'I', accessFlags := 0x411 }
/-- [I -/
def k11 : Class := { plain "[I" (some 0) with kind := .array 10 .int, interfaces := #[7, 4], accessFlags := 1041 }

def heap : Heap := #[{ cls := 6, slots := #[.ref 1, .ref 2, .ref 3, .ref 4, .null, .null, .null], vm := .statics 6 },
  { cls := 6, slots := #[.null, .int 0, .int 0, .null], vm := .none },
  { cls := 6, slots := #[.null, .int 1, .int 0, .null], vm := .none },
  { cls := 6, slots := #[.null, .int 2, .int 0, .null], vm := .none },
  { cls := 6, slots := #[.null, .int 3, .int 0, .null], vm := .none }]
def classes : Array Class := #[k0, k1, k2, k3, k4, k5, k6, k7, k8, k9, k10, k11]
def interned : List (Array UInt16 × Addr) := []
def slotsUsed : Nat := 23
def theMethod : MethodId := ⟨1, 2⟩
def args0 : Array Value := #[.int 5]
def aboutOver (below : List Frame) : State where
  vm := { classes := classes, interned := interned.toArray }
  heap := heap
  slotsUsed := slotsUsed
  threads := #[{ frames := .invoking theMethod args0 :: below }]
def below0 : List Frame := [.native { method := ⟨0, 0⟩, args := #[] }]
def about1 : State := aboutOver below0
def p0 : Program := .bare "" "" ""
def e0 : Env := launch0.env 0 0 0
theorem w_frames : about1.frames = Frame.invoking theMethod args0 :: below0 := rfl
set_option maxRecDepth 65536 in
theorem w_args : argsFit about1.vm theMethod args0 = true := by decide +kernel
set_option maxRecDepth 65536 in
theorem w_heap : heapFits about1 = true := by decide +kernel
set_option maxRecDepth 65536 in
theorem w_runnable : about1.curStatus? = some .runnable := by decide +kernel
set_option maxRecDepth 65536 in
theorem w_alone : about1.alone = true := by decide +kernel
set_option maxRecDepth 65536 in
theorem w_named : about1.methodNamed? x = some theMethod := by decide +kernel
set_option maxRecDepth 65536 in
theorem w_hears : about1.hears theMethod below0 = true := by decide +kernel
set_option maxRecDepth 65536 in
theorem w_ripe : about1.ripe theMethod args0 below0 = true := by decide +kernel
theorem w_running : about1.status = .running := rfl
set_option maxRecDepth 65536 in
theorem w_room : about1.hasRoom e0.platform room_1 = true :=
  launch0.hasRoom_least _ room_1 (by decide +kernel) (by decide +kernel) (by decide +kernel) (by decide +kernel) (by decide +kernel) (by decide +kernel)
theorem allAtoms_all (ts : List Jvm.Cond) (a : Array Jvm.Value) (st : Jvm.State) : (allAtoms ts).before a st = ts.all (fun c => c.before a st) := by
  induction ts with
  | nil => rfl
  | cons c t ih =>
    show (Jvm.Cond.and c (allAtoms t)).before a st = _
    rw [Jvm.Cond.before_and, ih, List.all_cons]
def words1 : List Jvm.Cond := Jvm.Cond.code x code maxLocals ret :: tables_1
/-- a 'code' word, met by the world's own term for the bytes: nothing is compared byte by byte -/
theorem code_word {y : MethodName} {bytes : ByteArray} {mx : Nat} {rt : Option FieldType} {a : Array Value} {s : State} {m : MethodId} {meth : Method} {c : Code} (h1 : s.methodNamed? y = some m) (h2 : s.vm.method? m = some meth) (h3 : meth.code = some c) (h4 : c.code = bytes)
    (h5 : (c.maxLocals == mx && c.exceptionTable.isEmpty && decide (c.maxStack ≤ mostOperands) && decide (meth.sig.returnType = rt) && !meth.locks && decide (parseMethodDescriptor y.desc = some meth.sig)) = true) : (Jvm.Cond.code y bytes mx rt).before a s = true := by
  simp only [Bool.and_eq_true, beq_iff_eq, Bool.not_eq_true', decide_eq_true_eq] at h5
  obtain ⟨⟨⟨⟨⟨g1, g2⟩, g3⟩, g4⟩, g5⟩, g6⟩ := h5
  simp [Cond.before, Cond.holds, Cond.value, h1, h2, h3, h4, g1, g2, g3, g4, g5, g6]
def isCode : Jvm.Cond → Bool
  | .code _ _ _ _ => true
  | _ => false
theorem all_split {L : List Jvm.Cond} {P : Jvm.Cond → Bool} (h1 : L.all (fun c => isCode c || P c) = true) (h2 : ∀ c ∈ L.filter isCode, P c = true) : L.all P = true := by
  refine List.all_eq_true.mpr fun c hc => ?_
  have h := List.all_eq_true.mp h1 c hc
  rcases Bool.eq_false_or_eq_true (isCode c) with hi | hi
  · exact h2 c (List.mem_filter.mpr ⟨hc, hi⟩)
  · simpa [hi] using h
set_option maxRecDepth 65536 in
theorem w_c0 : (Jvm.Cond.code x code maxLocals ret).before args0 about1 = true := code_word (m := ⟨1, 2⟩) (meth := k1m2) (c := k1c2) (by decide +kernel) rfl rfl rfl (by decide +kernel)
set_option maxRecDepth 65536 in
theorem w_c1 : (Jvm.Cond.code ({ cls := "com/example/zapis/zapis/PrescriptionStatusIsDispensablePinLaw", name := "pick", desc := "(I)Lcom/example/zapis/zapis/PrescriptionStatus;" } : Jvm.MethodName) method_2_code (1 : Nat) (Option.some (Jvm.ClassFile.FieldType.object "com/example/zapis/zapis/PrescriptionStatus"))).before args0 about1 = true := code_word (m := ⟨1, 1⟩) (meth := k1m1) (c := k1c1) (by decide +kernel) rfl rfl rfl (by decide +kernel)
set_option maxRecDepth 65536 in
theorem w_c2 : (Jvm.Cond.code ({ cls := "com/example/zapis/zapis/PrescriptionStatus", name := "isDispensable", desc := "()Z" } : Jvm.MethodName) prog_12_method_7_code (1 : Nat) (Option.some Jvm.ClassFile.FieldType.boolean)).before args0 about1 = true := code_word (m := ⟨6, 1⟩) (meth := k6m1) (c := k6c1) (by decide +kernel) rfl rfl rfl (by decide +kernel)
set_option maxRecDepth 65536 in
theorem w_c3 : (Jvm.Cond.code ({ cls := "com/example/zapis/zapis/PrescriptionStatus", name := "movesTo", desc := "(Lcom/example/zapis/zapis/PrescriptionStatus;)Z" } : Jvm.MethodName) prog_12_method_6_code (2 : Nat) (Option.some Jvm.ClassFile.FieldType.boolean)).before args0 about1 = true := code_word (m := ⟨6, 0⟩) (meth := k6m0) (c := k6c0) (by decide +kernel) rfl rfl rfl (by decide +kernel)
set_option maxRecDepth 65536 in
theorem w_c4 : (Jvm.Cond.code ({ cls := "java/lang/Enum", name := "ordinal", desc := "()I" } : Jvm.MethodName) jdk_37_method_2_code (1 : Nat) (Option.some Jvm.ClassFile.FieldType.int)).before args0 about1 = true := code_word (m := ⟨5, 0⟩) (meth := k5m0) (c := k5c0) (by decide +kernel) rfl rfl rfl (by decide +kernel)
def codes1 : List Jvm.Cond := [Jvm.Cond.code x code maxLocals ret, Jvm.Cond.code ({ cls := "com/example/zapis/zapis/PrescriptionStatusIsDispensablePinLaw", name := "pick", desc := "(I)Lcom/example/zapis/zapis/PrescriptionStatus;" } : Jvm.MethodName) method_2_code (1 : Nat) (Option.some (Jvm.ClassFile.FieldType.object "com/example/zapis/zapis/PrescriptionStatus")), Jvm.Cond.code ({ cls := "com/example/zapis/zapis/PrescriptionStatus", name := "isDispensable", desc := "()Z" } : Jvm.MethodName) prog_12_method_7_code (1 : Nat) (Option.some Jvm.ClassFile.FieldType.boolean), Jvm.Cond.code ({ cls := "com/example/zapis/zapis/PrescriptionStatus", name := "movesTo", desc := "(Lcom/example/zapis/zapis/PrescriptionStatus;)Z" } : Jvm.MethodName) prog_12_method_6_code (2 : Nat) (Option.some Jvm.ClassFile.FieldType.boolean), Jvm.Cond.code ({ cls := "java/lang/Enum", name := "ordinal", desc := "()I" } : Jvm.MethodName) jdk_37_method_2_code (1 : Nat) (Option.some Jvm.ClassFile.FieldType.int)]
set_option maxRecDepth 65536 in
theorem codes_eq : words1.filter isCode = codes1 := rfl
theorem w_codes : ∀ c ∈ words1.filter isCode, c.before args0 about1 = true := by
  rw [codes_eq]
  intro c hc
  simp only [codes1, List.mem_cons, List.not_mem_nil, or_false] at hc
  rcases hc with rfl | rfl | rfl | rfl | rfl
  · exact w_c0
  · exact w_c1
  · exact w_c2
  · exact w_c3
  · exact w_c4
set_option maxRecDepth 65536 in
theorem w_t1 : (words1.take 24).all (fun c => isCode c || c.before args0 about1) = true := by decide +kernel
set_option maxRecDepth 65536 in
theorem w_t2 : (words1.drop 24).all (fun c => isCode c || c.before args0 about1) = true := by decide +kernel
theorem w_tables : (allAtoms (Jvm.Cond.code x code maxLocals ret :: tables_1)).before args0 about1 = true := by
  rw [allAtoms_all]
  show words1.all (fun c => c.before args0 about1) = true
  refine all_split ?_ w_codes
  rw [← List.take_append_drop 24 words1, List.all_append, w_t1, w_t2]
  rfl
set_option maxRecDepth 65536 in
theorem w_case : (Jvm.Cond.and given_1 narrow_1).before args0 about1 = true := by decide +kernel
theorem w_applies : (headSpec (Jvm.Cond.code x code maxLocals ret :: tables_1) room_1).applies x e0.platform about1 = true :=
  (Spec.applies_iff w_frames).mpr ⟨w_running, w_runnable, w_alone, w_named, w_hears, w_ripe, w_room, w_tables⟩
theorem atStart : AtStart classFile x code maxLocals ret World_1 tables_1 room_1 Calls_1 rest_1 Pre_1 launch0 p0 e0 about1 theMethod args0 below0 :=
  ⟨lists_1, trivial, launch0.admits_env _ _ _, launch0.least_env, fairChoices_fair.cas, fairChoices_fair.clock, w_frames, w_args, w_heap, w_applies, trivial, trivial, w_case⟩
end start1
theorem witness_1 : WitnessClaimed_1 := ⟨start1.p0, start1.e0, start1.about1, start1.theMethod, start1.args0, start1.below0, start1.atStart⟩
end Jvm.Pilot.@@N@@
