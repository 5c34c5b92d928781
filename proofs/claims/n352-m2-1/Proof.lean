import JvmDerived
import JvmDerived.Pilot.@@N@@Statement
import JvmDerived.Pilot.@@N@@Code
set_option linter.unusedVariables false
set_option linter.unusedSimpArgs false
namespace Jvm.RoadKit
open Sem ClassFile Op Lib Jvm.Stand Jvm.Free Jvm.LawKit
section New
variable {p : Program} {l : Launch} {e : Env} {R : Room} {s : State} {m : MethodId} {args : Array Value} {below : List Frame} {meth : Method} {c : Code} {T : State} {locs : List Loc} {cells slots : Nat}
theorem retI (X : Stand p l e R s m args below meth c T locs cells slots) (hx : p.tables.exec = Jvm.exec) {pc : Nat} {Ls : Array Slot} {z : Int32} {rest : List Value} (hret : meth.sig.returnType = some .int) (hd : decode c.code pc = .ok (.ireturn, 1)) {fs : List Frame}
    (hl : ∀ (f : JFrame) (acts : List Action), f.method = m → f.locked = none → f.entered = [] → (doReturn e (T.setTop f) acts (some (.int z))).1 = T.setFrames fs) : Steps p.tables e below (T.setTop (mkF m pc Ls (.int z :: rest))) (T.setFrames fs) := retOut X hx hret rfl (Or.inl ⟨rfl, Or.inl rfl, z, rfl⟩) hd hl
end New
end Jvm.RoadKit
namespace Jvm.Pilot.@@N@@
open Jvm Jvm.ClassFile Sem Op Lib Jvm.Free Jvm.Stand Jvm.LawKit Jvm.RoadKit Bundle Jvm.Pilot.@@N@@.Jvm.D
def own_Go (tb : Tables) (e : Env) (below : List Frame) (R : Outcome → State → Prop) (S : State) : Prop := ∃ s₂ o, Steps tb e below S s₂ ∧ s₂.status = .running ∧ Ended s₂ below o ∧ R o s₂
theorem own_go {tb : Tables} {e : Env} {below : List Frame} {R : Outcome → State → Prop} {S S' : State} (k : ∀ t, Steps tb e below S' t → Steps tb e below S t) (h : own_Go tb e below R S') : own_Go tb e below R S := by
  obtain ⟨a, b, c, d⟩ := h
  exact ⟨a, b, k _ c, d⟩
theorem own_to {tb : Tables} {e : Env} {below : List Frame} {R : Outcome → State → Prop} {S S' : State} (k : Steps tb e below S S') (h : own_Go tb e below R S') : own_Go tb e below R S := by
  obtain ⟨a, b, c, d⟩ := h
  exact ⟨a, b, k.trans c, d⟩
theorem own_narR {t : FieldType} {v : Value} (ht : t.isReference = true) (hv : v.isRef = true) : narrow t v = v := by
  cases t <;> first | (cases ht; done) | (cases v <;> first | rfl | (cases hv; done))
theorem own_le3 (x : Int32) : x &&& (3 : Int32) = (0 : Int32) ∨ x &&& (3 : Int32) = (1 : Int32) ∨ x &&& (3 : Int32) = (2 : Int32) ∨ x &&& (3 : Int32) = (3 : Int32) := by
  have h := c_mask x 3 2 (by decide) (by decide)
  simp only [← Int32.toInt_inj]
  generalize (x &&& 3).toInt = y at h ⊢
  have e0 : (0 : Int32).toInt = 0 := by decide
  have e1 : (1 : Int32).toInt = 1 := by decide
  have e2 : (2 : Int32).toInt = 2 := by decide
  have e3 : (3 : Int32).toInt = 3 := by decide
  omega
def own_pick (i : Int32) (s0 s1 s2 s3 : Addr) : Addr := if i = 0 then s0 else if i = (1 : Int32) then s1 else if i = (2 : Int32) then s2 else s3
def own_moves (o : Int32) (t s0 s2 s3 : Addr) : Int32 := if o = (0 : Int32) then (if (Value.ref t) = (Value.ref s0) then 0 else 1) else if o = (1 : Int32) then (if (Value.ref t) = (Value.ref s2) then 1 else if (Value.ref t) = (Value.ref s3) then 1 else 0) else 0
def own_disp (r s0 s1 : Addr) : Int32 := if (Value.ref r) = (Value.ref s0) then 1 else if (Value.ref r) = (Value.ref s1) then 1 else 0
theorem d1_0 : decode method_2_code 0 = .ok (.iload_n 0, 1) := by decide +kernel
theorem d1_1 : decode method_2_code 1 = .ok (.ifCond .ne 7, 3) := by decide +kernel
theorem d1_4 : decode method_2_code 4 = .ok (.getstatic 7, 3) := by decide +kernel
theorem d1_7 : decode method_2_code 7 = .ok (.areturn, 1) := by decide +kernel
theorem d1_8 : decode method_2_code 8 = .ok (.iload_n 0, 1) := by decide +kernel
theorem d1_9 : decode method_2_code 9 = .ok (.iconst 1, 1) := by decide +kernel
theorem d1_10 : decode method_2_code 10 = .ok (.if_icmp .ne 7, 3) := by decide +kernel
theorem d1_13 : decode method_2_code 13 = .ok (.getstatic 13, 3) := by decide +kernel
theorem d1_16 : decode method_2_code 16 = .ok (.areturn, 1) := by decide +kernel
theorem d1_17 : decode method_2_code 17 = .ok (.iload_n 0, 1) := by decide +kernel
theorem d1_18 : decode method_2_code 18 = .ok (.iconst 2, 1) := by decide +kernel
theorem d1_19 : decode method_2_code 19 = .ok (.if_icmp .ne 7, 3) := by decide +kernel
theorem d1_22 : decode method_2_code 22 = .ok (.getstatic 16, 3) := by decide +kernel
theorem d1_25 : decode method_2_code 25 = .ok (.areturn, 1) := by decide +kernel
theorem d1_26 : decode method_2_code 26 = .ok (.getstatic 19, 3) := by decide +kernel
theorem d1_29 : decode method_2_code 29 = .ok (.areturn, 1) := by decide +kernel
theorem pn_com_example_zapis_zapis_PrescriptionStatusMovesToPinLaw : plainName "com/example/zapis/zapis/PrescriptionStatusMovesToPinLaw" = true := by first | (simp [plainName, overriddenIn]; done) | decide +kernel
theorem ef1 (m : MethodId) (x0 : Int32) : entryFrame m #[(.int x0)] 1 = mkF m 0 #[.val (.int x0)] [] := by first | (simp [entryFrame, mkF, argsToLocals, Value.category]; done) | rfl
def Q1 (Z : State) (i : Int32) (s0 : Addr) (s1 : Addr) (s2 : Addr) (s3 : Addr) (h0 : Heap) (n0 : Nat) (v : Option Value) (h : Heap) (L : List Loc) : Prop := v = some (.ref (own_pick i s0 s1 s2 s3)) ∧ Fr n0 L ∧ h = h0
set_option maxRecDepth 65536 in
set_option maxHeartbeats 40000000 in
theorem rm1 (l : Launch) (Z : State) (a0 : Array Value) (hw : ∀ d ∈ tables_1, d.before a0 Z = true) (ws : List Jvm.Cond) (i : Int32) (s0 : Addr) (s1 : Addr) (s2 : Addr) (s3 : Addr) (h0 : Heap) (n0 : Nat) (Z0 : n0 ≤ h0.size) (O0 : Old Z n0 h0) (S_ACTIVE : Sta Z Z.heap "com/example/zapis/zapis/PrescriptionStatus" "ACTIVE" "Lcom/example/zapis/zapis/PrescriptionStatus;" (.ref s0)) (S_ON_HOLD : Sta Z Z.heap "com/example/zapis/zapis/PrescriptionStatus" "ON_HOLD" "Lcom/example/zapis/zapis/PrescriptionStatus;" (.ref s1)) (S_CANCELLED : Sta Z Z.heap "com/example/zapis/zapis/PrescriptionStatus" "CANCELLED" "Lcom/example/zapis/zapis/PrescriptionStatus;" (.ref s2)) (S_COMPLETED : Sta Z Z.heap "com/example/zapis/zapis/PrescriptionStatus" "COMPLETED" "Lcom/example/zapis/zapis/PrescriptionStatus;" (.ref s3)) :
    MetFree l (⟨"com/example/zapis/zapis/PrescriptionStatusMovesToPinLaw", "pick", "(I)Lcom/example/zapis/zapis/PrescriptionStatus;"⟩ : MethodName) (head1 (Jvm.Cond.code (⟨"com/example/zapis/zapis/PrescriptionStatusMovesToPinLaw", "pick", "(I)Lcom/example/zapis/zapis/PrescriptionStatus;"⟩ : MethodName) method_2_code 1 ((Option.some (FieldType.object "com/example/zapis/zapis/PrescriptionStatus"))) :: ws) ({ frames := 0, cells := 0, slots := 0, locals := 0 } : Room)) (fun a U => a = #[(.int i)] ∧ Z.Warmed39 U.vm ∧ U.heap = h0) (fun _ _ _ _ _ => True) (fun _ U ou U' => ∃ v L, ou = .returned v ∧ Q1 Z i s0 s1 s2 s3 h0 n0 v U'.heap L ∧ FrameEnd U ou U' L ({ frames := 0, cells := 0, slots := 0, locals := 0 } : Room).cells ({ frames := 0, cells := 0, slots := 0, locals := 0 } : Room).slots) := by
  refine MetFree.of_bodySF (plainFor_of_name pn_com_example_zapis_zapis_PrescriptionStatusMovesToPinLaw) hisR ?_
  intro pg e s m args below meth c s₁ Bd hml0 hP hK
  obtain ⟨rfl, hZ, hh⟩ := hP
  have hx := Bd.exec
  have hby := Bd.bytes
  have hml : c.maxLocals = 1 := hml0
  have hown : s.vm.findClass "com/example/zapis/zapis/PrescriptionStatusMovesToPinLaw" = some m.cls := findClass_of_methodNamed Bd.named
  have hnm := (name_of_methodNamed Bd.named Bd.method).1
  have X0 : Stand pg l e ({ frames := 0, cells := 0, slots := 0, locals := 0 } : Room) s m #[(.int i)] below meth c s₁ [] 0 0 := Stand.of_body Bd
  have e0 : s₁.heap = h0 := by rw [← hh, Bd.state]; rfl
  have N0 := Fr.nil n0
  show own_Go pg.tables e below (fun ou U' => ∃ v L, ou = .returned v ∧ Q1 Z i s0 s1 s2 s3 h0 n0 v U'.heap L ∧ FrameEnd s ou U' L ({ frames := 0, cells := 0, slots := 0, locals := 0 } : Room).cells ({ frames := 0, cells := 0, slots := 0, locals := 0 } : Room).slots) (s₁.setTop (entryFrame m #[(.int i)] 1))
  refine own_go (S' := s₁.setTop (mkF m 0 #[.val (.int i)] [])) (fun tg kk => castTop (ef1 m i) kk) ?_
  refine own_go (S' := s₁.setTop (mkF m 1 #[.val (.int i)] [(.int i)])) (fun tg kk => XS.iloadN X0.here hx rfl (hb hby d1_0) rfl kk) ?_
  by_cases c1 : i = 0
  · refine own_go (S' := s₁.setTop (mkF m 4 #[.val (.int i)] [])) (fun tg kk => XS.ifNo X0.here hx rfl (hb hby d1_1) rfl (XT.i0_ne_f c1) kk) ?_
    obtain ⟨T2, X2, e2, st2⟩ := getS (host := "") X0 hx hZ hown (hw _ (List.mem_of_getElem? (i := 4) rfl)) Via.refl e0 (S_ACTIVE.ext O0.2) (g := (mkF m 4 #[.val (.int i)] [])) rfl (hb hby d1_4)
    refine own_go (S' := T2.setTop (mkF m 7 #[.val (.int i)] [(.ref s0)])) (st2) ?_
    obtain ⟨fs, hr, hrun, hended, hW, hsame⟩ := X2.leave (v := some (.ref s0)) (fun h => by rw [Bd.returns] at h; cases h)
    refine ⟨_, _, retOut X2 hx (i := .areturn) Bd.returns (own_narR rfl rfl) (Or.inr (Or.inr (Or.inr (Or.inr ⟨rfl, rfl, rfl⟩)))) (hb hby d1_7) hr, hrun, hended, _, _, rfl, ?_, ⟨_, rfl⟩, hW, hsame.mono (by decide) (by decide)⟩
    show Q1 Z i s0 s1 s2 s3 h0 n0 (some (.ref s0)) T2.heap _
    rw [e2]
    exact ⟨by unfold own_pick; rw [if_pos c1], N0, rfl⟩
  · refine own_go (S' := s₁.setTop (mkF m 8 #[.val (.int i)] [])) (fun tg kk => XS.ifYes X0.here hx rfl (pc0 := 1) (pc' := 8) rfl (hb hby d1_1) rfl (XT.i0_ne_t c1) (by decide) (by decide) kk) ?_
    refine own_go (S' := s₁.setTop (mkF m 9 #[.val (.int i)] [(.int i)])) (fun tg kk => XS.iloadN X0.here hx rfl (hb hby d1_8) rfl kk) ?_
    refine own_go (S' := s₁.setTop (mkF m 10 #[.val (.int i)] [(.int (1 : Int32)), (.int i)])) (fun tg kk => XT.iconstV X0.here hx rfl (1 : Int32) (hb hby d1_9) (by decide) kk) ?_
    by_cases c3 : i = (1 : Int32)
    · refine own_go (S' := s₁.setTop (mkF m 13 #[.val (.int i)] [])) (fun tg kk => XS.icmpNo X0.here hx rfl (hb hby d1_10) rfl (XT.ii_ne_f c3) kk) ?_
      obtain ⟨T4, X4, e4, st4⟩ := getS (host := "") X0 hx hZ hown (hw _ (List.mem_of_getElem? (i := 26) rfl)) Via.refl e0 (S_ON_HOLD.ext O0.2) (g := (mkF m 13 #[.val (.int i)] [])) rfl (hb hby d1_13)
      refine own_go (S' := T4.setTop (mkF m 16 #[.val (.int i)] [(.ref s1)])) (st4) ?_
      obtain ⟨fs, hr, hrun, hended, hW, hsame⟩ := X4.leave (v := some (.ref s1)) (fun h => by rw [Bd.returns] at h; cases h)
      refine ⟨_, _, retOut X4 hx (i := .areturn) Bd.returns (own_narR rfl rfl) (Or.inr (Or.inr (Or.inr (Or.inr ⟨rfl, rfl, rfl⟩)))) (hb hby d1_16) hr, hrun, hended, _, _, rfl, ?_, ⟨_, rfl⟩, hW, hsame.mono (by decide) (by decide)⟩
      show Q1 Z i s0 s1 s2 s3 h0 n0 (some (.ref s1)) T4.heap _
      rw [e4]
      exact ⟨by unfold own_pick; rw [if_neg c1, if_pos c3], N0, rfl⟩
    · refine own_go (S' := s₁.setTop (mkF m 17 #[.val (.int i)] [])) (fun tg kk => XS.icmpYes X0.here hx rfl (pc0 := 10) (pc' := 17) rfl (hb hby d1_10) rfl (XT.ii_ne_t c3) (by decide) (by decide) kk) ?_
      refine own_go (S' := s₁.setTop (mkF m 18 #[.val (.int i)] [(.int i)])) (fun tg kk => XS.iloadN X0.here hx rfl (hb hby d1_17) rfl kk) ?_
      refine own_go (S' := s₁.setTop (mkF m 19 #[.val (.int i)] [(.int (2 : Int32)), (.int i)])) (fun tg kk => XT.iconstV X0.here hx rfl (2 : Int32) (hb hby d1_18) (by decide) kk) ?_
      by_cases c5 : i = (2 : Int32)
      · refine own_go (S' := s₁.setTop (mkF m 22 #[.val (.int i)] [])) (fun tg kk => XS.icmpNo X0.here hx rfl (hb hby d1_19) rfl (XT.ii_ne_f c5) kk) ?_
        obtain ⟨T6, X6, e6, st6⟩ := getS (host := "") X0 hx hZ hown (hw _ (List.mem_of_getElem? (i := 24) rfl)) Via.refl e0 (S_CANCELLED.ext O0.2) (g := (mkF m 22 #[.val (.int i)] [])) rfl (hb hby d1_22)
        refine own_go (S' := T6.setTop (mkF m 25 #[.val (.int i)] [(.ref s2)])) (st6) ?_
        obtain ⟨fs, hr, hrun, hended, hW, hsame⟩ := X6.leave (v := some (.ref s2)) (fun h => by rw [Bd.returns] at h; cases h)
        refine ⟨_, _, retOut X6 hx (i := .areturn) Bd.returns (own_narR rfl rfl) (Or.inr (Or.inr (Or.inr (Or.inr ⟨rfl, rfl, rfl⟩)))) (hb hby d1_25) hr, hrun, hended, _, _, rfl, ?_, ⟨_, rfl⟩, hW, hsame.mono (by decide) (by decide)⟩
        show Q1 Z i s0 s1 s2 s3 h0 n0 (some (.ref s2)) T6.heap _
        rw [e6]
        exact ⟨by unfold own_pick; rw [if_neg c1, if_neg c3, if_pos c5], N0, rfl⟩
      · refine own_go (S' := s₁.setTop (mkF m 26 #[.val (.int i)] [])) (fun tg kk => XS.icmpYes X0.here hx rfl (pc0 := 19) (pc' := 26) rfl (hb hby d1_19) rfl (XT.ii_ne_t c5) (by decide) (by decide) kk) ?_
        obtain ⟨T7, X7, e7, st7⟩ := getS (host := "") X0 hx hZ hown (hw _ (List.mem_of_getElem? (i := 7) rfl)) Via.refl e0 (S_COMPLETED.ext O0.2) (g := (mkF m 26 #[.val (.int i)] [])) rfl (hb hby d1_26)
        refine own_go (S' := T7.setTop (mkF m 29 #[.val (.int i)] [(.ref s3)])) (st7) ?_
        obtain ⟨fs, hr, hrun, hended, hW, hsame⟩ := X7.leave (v := some (.ref s3)) (fun h => by rw [Bd.returns] at h; cases h)
        refine ⟨_, _, retOut X7 hx (i := .areturn) Bd.returns (own_narR rfl rfl) (Or.inr (Or.inr (Or.inr (Or.inr ⟨rfl, rfl, rfl⟩)))) (hb hby d1_29) hr, hrun, hended, _, _, rfl, ?_, ⟨_, rfl⟩, hW, hsame.mono (by decide) (by decide)⟩
        show Q1 Z i s0 s1 s2 s3 h0 n0 (some (.ref s3)) T7.heap _
        rw [e7]
        exact ⟨by unfold own_pick; rw [if_neg c1, if_neg c3, if_neg c5], N0, rfl⟩
theorem d3_0 : decode jdk_37_method_2_code 0 = .ok (.aload_n 0, 1) := by decide +kernel
theorem d3_1 : decode jdk_37_method_2_code 1 = .ok (.getfield 7, 3) := by decide +kernel
theorem d3_4 : decode jdk_37_method_2_code 4 = .ok (.ireturn, 1) := by decide +kernel
theorem pn_java_lang_Enum : plainName "java/lang/Enum" = true := by first | (simp [plainName, overriddenIn]; done) | decide +kernel
theorem ef3 (m : MethodId) (x0 : Addr) : entryFrame m #[(.ref x0)] 1 = mkF m 0 #[.val (.ref x0)] [] := by first | (simp [entryFrame, mkF, argsToLocals, Value.category]; done) | rfl
def Q3 (Z : State) (r : Addr) (o : Int32) (h0 : Heap) (n0 : Nat) (v : Option Value) (h : Heap) (L : List Loc) : Prop := v = some (.int o) ∧ Fr n0 L ∧ h = h0
set_option maxRecDepth 65536 in
set_option maxHeartbeats 40000000 in
theorem rm3 (l : Launch) (Z : State) (a0 : Array Value) (hw : ∀ d ∈ tables_1, d.before a0 Z = true) (ws : List Jvm.Cond) (r : Addr) (o : Int32) (h0 : Heap) (n0 : Nat) (Z0 : n0 ≤ h0.size) (O0 : Old Z n0 h0) (Fo : Fld Z Z.heap r "java/lang/Enum" "ordinal" "I" (.int o)) :
    MetFree l (⟨"java/lang/Enum", "ordinal", "()I"⟩ : MethodName) (head1 (Jvm.Cond.code (⟨"java/lang/Enum", "ordinal", "()I"⟩ : MethodName) jdk_37_method_2_code 1 ((Option.some FieldType.int)) :: ws) ({ frames := 0, cells := 0, slots := 0, locals := 0 } : Room)) (fun a U => a = #[(.ref r)] ∧ Z.Warmed39 U.vm ∧ U.heap = h0) (fun _ _ _ _ _ => True) (fun _ U ou U' => ∃ v L, ou = .returned v ∧ Q3 Z r o h0 n0 v U'.heap L ∧ FrameEnd U ou U' L ({ frames := 0, cells := 0, slots := 0, locals := 0 } : Room).cells ({ frames := 0, cells := 0, slots := 0, locals := 0 } : Room).slots) := by
  refine MetFree.of_bodySF (plainFor_of_name pn_java_lang_Enum) hisR ?_
  intro pg e s m args below meth c s₁ Bd hml0 hP hK
  obtain ⟨rfl, hZ, hh⟩ := hP
  have hx := Bd.exec
  have hby := Bd.bytes
  have hml : c.maxLocals = 1 := hml0
  have hown : s.vm.findClass "java/lang/Enum" = some m.cls := findClass_of_methodNamed Bd.named
  have hnm := (name_of_methodNamed Bd.named Bd.method).1
  have X0 : Stand pg l e ({ frames := 0, cells := 0, slots := 0, locals := 0 } : Room) s m #[(.ref r)] below meth c s₁ [] 0 0 := Stand.of_body Bd
  have e0 : s₁.heap = h0 := by rw [← hh, Bd.state]; rfl
  have N0 := Fr.nil n0
  show own_Go pg.tables e below (fun ou U' => ∃ v L, ou = .returned v ∧ Q3 Z r o h0 n0 v U'.heap L ∧ FrameEnd s ou U' L ({ frames := 0, cells := 0, slots := 0, locals := 0 } : Room).cells ({ frames := 0, cells := 0, slots := 0, locals := 0 } : Room).slots) (s₁.setTop (entryFrame m #[(.ref r)] 1))
  refine own_go (S' := s₁.setTop (mkF m 0 #[.val (.ref r)] [])) (fun tg kk => castTop (ef3 m r) kk) ?_
  refine own_go (S' := s₁.setTop (mkF m 1 #[.val (.ref r)] [(.ref r)])) (fun tg kk => XS.aloadN X0.here hx rfl (hb hby d3_0) rfl rfl kk) ?_
  obtain ⟨T1, X1, e1, st1⟩ := getF X0 hx hZ hown (host := "") (Or.inl (hw _ (List.mem_of_getElem? (i := 21) rfl))) Via.refl e0 (Fo.ext O0.2) (g := (mkF m 1 #[.val (.ref r)] [(.ref r)])) rfl rfl (hb hby d3_1)
  refine own_go (S' := T1.setTop (mkF m 4 #[.val (.ref r)] [(.int o)])) (st1) ?_
  obtain ⟨fs, hr, hrun, hended, hW, hsame⟩ := X1.leave (v := some (.int o)) (fun h => by rw [Bd.returns] at h; cases h)
  refine ⟨_, _, retI X1 hx Bd.returns (hb hby d3_4) hr, hrun, hended, _, _, rfl, ?_, ⟨_, rfl⟩, hW, hsame.mono (by decide) (by decide)⟩
  show Q3 Z r o h0 n0 (some (.int o)) T1.heap _
  rw [e1]
  exact ⟨rfl, N0, rfl⟩
theorem d2_0 : decode prog_12_method_6_code 0 = .ok (.aload_n 0, 1) := by decide +kernel
theorem pd___I : parseMethodDescriptor "()I" = some ⟨[], some .int⟩ := by decide +kernel
theorem d2_1 : decode prog_12_method_6_code 1 = .ok (.invokevirtual 63, 3) := by decide +kernel
theorem d2_4 : decode prog_12_method_6_code 4 = .ok (.tableswitch 32 0 3 #[42, 57, 79, 79], 32) := by decide +kernel
theorem d2_46 : decode prog_12_method_6_code 46 = .ok (.aload_n 1, 1) := by decide +kernel
theorem d2_47 : decode prog_12_method_6_code 47 = .ok (.getstatic 3, 3) := by decide +kernel
theorem d2_50 : decode prog_12_method_6_code 50 = .ok (.if_acmp .eq 7, 3) := by decide +kernel
theorem d2_57 : decode prog_12_method_6_code 57 = .ok (.iconst 0, 1) := by decide +kernel
theorem d2_58 : decode prog_12_method_6_code 58 = .ok (.goto 26, 3) := by decide +kernel
theorem d2_84 : decode prog_12_method_6_code 84 = .ok (.ireturn, 1) := by decide +kernel
theorem d2_53 : decode prog_12_method_6_code 53 = .ok (.iconst 1, 1) := by decide +kernel
theorem d2_54 : decode prog_12_method_6_code 54 = .ok (.goto 30, 3) := by decide +kernel
theorem d2_61 : decode prog_12_method_6_code 61 = .ok (.aload_n 1, 1) := by decide +kernel
theorem d2_62 : decode prog_12_method_6_code 62 = .ok (.getstatic 10, 3) := by decide +kernel
theorem d2_65 : decode prog_12_method_6_code 65 = .ok (.if_acmp .eq 10, 3) := by decide +kernel
theorem d2_75 : decode prog_12_method_6_code 75 = .ok (.iconst 1, 1) := by decide +kernel
theorem d2_76 : decode prog_12_method_6_code 76 = .ok (.goto 8, 3) := by decide +kernel
theorem d2_68 : decode prog_12_method_6_code 68 = .ok (.aload_n 1, 1) := by decide +kernel
theorem d2_69 : decode prog_12_method_6_code 69 = .ok (.getstatic 13, 3) := by decide +kernel
theorem d2_72 : decode prog_12_method_6_code 72 = .ok (.if_acmp .ne 7, 3) := by decide +kernel
theorem d2_79 : decode prog_12_method_6_code 79 = .ok (.iconst 0, 1) := by decide +kernel
theorem d2_80 : decode prog_12_method_6_code 80 = .ok (.goto 4, 3) := by decide +kernel
theorem d2_83 : decode prog_12_method_6_code 83 = .ok (.iconst 0, 1) := by decide +kernel
theorem pn_com_example_zapis_zapis_PrescriptionStatus : plainName "com/example/zapis/zapis/PrescriptionStatus" = true := by first | (simp [plainName, overriddenIn]; done) | decide +kernel
theorem ef2 (m : MethodId) (x0 : Addr) (x1 : Addr) : entryFrame m #[(.ref x0), (.ref x1)] 2 = mkF m 0 #[.val (.ref x0), .val (.ref x1)] [] := by first | (simp [entryFrame, mkF, argsToLocals, Value.category]; done) | rfl
def Q2 (Z : State) (r : Addr) (t : Addr) (o : Int32) (s0 : Addr) (s1 : Addr) (s2 : Addr) (s3 : Addr) (h0 : Heap) (n0 : Nat) (v : Option Value) (h : Heap) (L : List Loc) : Prop := v = some (.int (own_moves o t s0 s2 s3)) ∧ Fr n0 L ∧ h = h0
set_option maxRecDepth 65536 in
set_option maxHeartbeats 40000000 in
theorem rm2 (l : Launch) (Z : State) (a0 : Array Value) (hw : ∀ d ∈ tables_1, d.before a0 Z = true) (ws : List Jvm.Cond) (r : Addr) (t : Addr) (o : Int32) (s0 : Addr) (s1 : Addr) (s2 : Addr) (s3 : Addr) (h0 : Heap) (n0 : Nat) (Z0 : n0 ≤ h0.size) (O0 : Old Z n0 h0) (S_ACTIVE : Sta Z Z.heap "com/example/zapis/zapis/PrescriptionStatus" "ACTIVE" "Lcom/example/zapis/zapis/PrescriptionStatus;" (.ref s0)) (S_ON_HOLD : Sta Z Z.heap "com/example/zapis/zapis/PrescriptionStatus" "ON_HOLD" "Lcom/example/zapis/zapis/PrescriptionStatus;" (.ref s1)) (S_CANCELLED : Sta Z Z.heap "com/example/zapis/zapis/PrescriptionStatus" "CANCELLED" "Lcom/example/zapis/zapis/PrescriptionStatus;" (.ref s2)) (S_COMPLETED : Sta Z Z.heap "com/example/zapis/zapis/PrescriptionStatus" "COMPLETED" "Lcom/example/zapis/zapis/PrescriptionStatus;" (.ref s3)) (Fo : Fld Z Z.heap r "java/lang/Enum" "ordinal" "I" (.int o)) (Er : Exa Z Z.heap r "com/example/zapis/zapis/PrescriptionStatus") (ho : o = (0 : Int32) ∨ o = (1 : Int32) ∨ o = (2 : Int32) ∨ o = (3 : Int32)) :
    MetFree l (⟨"com/example/zapis/zapis/PrescriptionStatus", "movesTo", "(Lcom/example/zapis/zapis/PrescriptionStatus;)Z"⟩ : MethodName) (head1 (Jvm.Cond.code (⟨"com/example/zapis/zapis/PrescriptionStatus", "movesTo", "(Lcom/example/zapis/zapis/PrescriptionStatus;)Z"⟩ : MethodName) prog_12_method_6_code 2 ((Option.some FieldType.boolean)) :: ws) ({ frames := 1, cells := 0, slots := 0, locals := 12 } : Room)) (fun a U => a = #[(.ref r), (.ref t)] ∧ Z.Warmed39 U.vm ∧ U.heap = h0) (fun _ _ _ _ _ => True) (fun _ U ou U' => ∃ v L, ou = .returned v ∧ Q2 Z r t o s0 s1 s2 s3 h0 n0 v U'.heap L ∧ FrameEnd U ou U' L ({ frames := 1, cells := 0, slots := 0, locals := 12 } : Room).cells ({ frames := 1, cells := 0, slots := 0, locals := 12 } : Room).slots) := by
  refine MetFree.of_bodySF (plainFor_of_name pn_com_example_zapis_zapis_PrescriptionStatus) hisR ?_
  intro pg e s m args below meth c s₁ Bd hml0 hP hK
  obtain ⟨rfl, hZ, hh⟩ := hP
  have hx := Bd.exec
  have hby := Bd.bytes
  have hml : c.maxLocals = 2 := hml0
  have hown : s.vm.findClass "com/example/zapis/zapis/PrescriptionStatus" = some m.cls := findClass_of_methodNamed Bd.named
  have hnm := (name_of_methodNamed Bd.named Bd.method).1
  have X0 : Stand pg l e ({ frames := 1, cells := 0, slots := 0, locals := 12 } : Room) s m #[(.ref r), (.ref t)] below meth c s₁ [] 0 0 := Stand.of_body Bd
  have e0 : s₁.heap = h0 := by rw [← hh, Bd.state]; rfl
  have N0 := Fr.nil n0
  show own_Go pg.tables e below (fun ou U' => ∃ v L, ou = .returned v ∧ Q2 Z r t o s0 s1 s2 s3 h0 n0 v U'.heap L ∧ FrameEnd s ou U' L ({ frames := 1, cells := 0, slots := 0, locals := 12 } : Room).cells ({ frames := 1, cells := 0, slots := 0, locals := 12 } : Room).slots) (s₁.setTop (entryFrame m #[(.ref r), (.ref t)] 2))
  refine own_go (S' := s₁.setTop (mkF m 0 #[.val (.ref r), .val (.ref t)] [])) (fun tg kk => castTop (ef2 m r t) kk) ?_
  refine own_go (S' := s₁.setTop (mkF m 1 #[.val (.ref r), .val (.ref t)] [(.ref r)])) (fun tg kk => XS.aloadN X0.here hx rfl (hb hby d2_0) rfl rfl kk) ?_
  obtain ⟨cq1, kq1, qa1, qb1, qc1⟩ := isOf hZ e0 (Er.ext O0.2)
  obtain ⟨v1, _, ⟨T1, L1, k1, n1⟩, -, X1, ⟨Lc1, hQ1, l1, y1, z1⟩, st1⟩ := X0.virtualBackUp hx (x := (⟨"com/example/zapis/zapis/PrescriptionStatus", "ordinal", "()I"⟩ : MethodName)) (y := (⟨"java/lang/Enum", "ordinal", "()I"⟩ : MethodName)) (owner := "java/lang/Enum") hown (mvT hZ (hw _ (List.mem_of_getElem? (i := 14) rfl))) (mvT hZ (hw _ (List.mem_of_getElem? (i := 15) rfl))) (mvT hZ (hw _ (List.mem_of_getElem? (i := 16) rfl))) (by decide) (mvT hZ (hw _ (List.mem_of_getElem? (i := 18) rfl))) (mvT hZ (hw _ (List.mem_of_getElem? (i := 17) rfl))) (backOf (W := 0) (rm3 l Z a0 hw [] r o h0 n0 Z0 O0 Fo) hZ (hw _ (List.mem_of_getElem? (i := 20) rfl)) (hw _ (List.mem_of_getElem? (i := 19) rfl)) (by decide) (by decide)) qa1 qc1 (g := (mkF m 1 #[.val (.ref r), .val (.ref t)] [(.ref r)])) rfl (by rw [hml]; rfl) (Steps.refl _) (argsL := []) (rest := []) (lenOf pd___I rfl) rfl (by show 2 * 0 + _ ≤ _; exact Nat.le_of_eq rfl) (hb hby d2_1) (fun _ _ => ⟨rfl, e0, (by decide : 0 + 0 ≤ _), (by decide : 0 + 0 ≤ _)⟩)
  dsimp only [Pt.U, Pt.locs, Pt.cells, Pt.slots] at X1 l1 y1 z1 st1 hQ1
  subst l1 y1 z1
  obtain ⟨rfl, M2, e1⟩ := hQ1
  have N2 := Fr.app N0 M2
  refine own_to (S' := T1.setTop (mkF m 4 #[.val (.ref r), .val (.ref t)] [(.int o)])) st1 ?_
  rcases ho with u3 | u3 | u3 | u3
  · refine own_go (S' := T1.setTop (mkF m 46 #[.val (.ref r), .val (.ref t)] [])) (fun tg kk => XS.tswIn X1.here hx rfl (pc0 := 4) (pc' := 46) (o := 42) rfl (hb hby d2_4) rfl (by rw [u3]; decide) (by rw [u3]; decide) (by decide) (by decide) kk) ?_
    refine own_go (S' := T1.setTop (mkF m 47 #[.val (.ref r), .val (.ref t)] [(.ref t)])) (fun tg kk => XS.aloadN X1.here hx rfl (hb hby d2_46) rfl rfl kk) ?_
    obtain ⟨T4, X4, e4, st4⟩ := getS (host := "") X1 hx hZ hown (hw _ (List.mem_of_getElem? (i := 23) rfl)) Via.refl e1 (S_ACTIVE.ext O0.2) (g := (mkF m 47 #[.val (.ref r), .val (.ref t)] [(.ref t)])) rfl (hb hby d2_47)
    refine own_go (S' := T4.setTop (mkF m 50 #[.val (.ref r), .val (.ref t)] [(.ref s0), (.ref t)])) (st4) ?_
    by_cases c5 : (Value.ref t) = (Value.ref s0)
    · refine own_go (S' := T4.setTop (mkF m 57 #[.val (.ref r), .val (.ref t)] [])) (fun tg kk => XT.acmpYes X4.here hx rfl (pc0 := 50) (pc' := 57) rfl (hb hby d2_50) rfl rfl rfl (XT.aa_eq_t c5) (by decide) (by decide) kk) ?_
      refine own_go (S' := T4.setTop (mkF m 58 #[.val (.ref r), .val (.ref t)] [(.int (0 : Int32))])) (fun tg kk => XT.iconstV X4.here hx rfl (0 : Int32) (hb hby d2_57) (by decide) kk) ?_
      refine own_go (S' := T4.setTop (mkF m 84 #[.val (.ref r), .val (.ref t)] [(.int (0 : Int32))])) (fun tg kk => XS.goto X4.here hx rfl (pc0 := 58) (pc' := 84) rfl (hb hby d2_58) (by decide) (by decide) kk) ?_
      obtain ⟨fs, hr, hrun, hended, hW, hsame⟩ := X4.leave (v := some (.int (0 : Int32))) (fun h => by rw [Bd.returns] at h; cases h)
      refine ⟨_, _, retN X4 hx (t := .boolean) Bd.returns (by simp) (hb hby d2_84) hr, hrun, hended, _, _, rfl, ?_, ⟨_, rfl⟩, hW, hsame.mono (by decide) (by decide)⟩
      show Q2 Z r t o s0 s1 s2 s3 h0 n0 (some (.int (0 : Int32))) T4.heap _
      rw [e4]
      exact ⟨by rw [own_moves, u3, if_pos rfl, if_pos c5], N2, rfl⟩
    · refine own_go (S' := T4.setTop (mkF m 53 #[.val (.ref r), .val (.ref t)] [])) (fun tg kk => XT.acmpNo X4.here hx rfl (hb hby d2_50) rfl rfl rfl (XT.aa_eq_f c5) kk) ?_
      refine own_go (S' := T4.setTop (mkF m 54 #[.val (.ref r), .val (.ref t)] [(.int (1 : Int32))])) (fun tg kk => XT.iconstV X4.here hx rfl (1 : Int32) (hb hby d2_53) (by decide) kk) ?_
      refine own_go (S' := T4.setTop (mkF m 84 #[.val (.ref r), .val (.ref t)] [(.int (1 : Int32))])) (fun tg kk => XS.goto X4.here hx rfl (pc0 := 54) (pc' := 84) rfl (hb hby d2_54) (by decide) (by decide) kk) ?_
      obtain ⟨fs, hr, hrun, hended, hW, hsame⟩ := X4.leave (v := some (.int (1 : Int32))) (fun h => by rw [Bd.returns] at h; cases h)
      refine ⟨_, _, retN X4 hx (t := .boolean) Bd.returns (by simp) (hb hby d2_84) hr, hrun, hended, _, _, rfl, ?_, ⟨_, rfl⟩, hW, hsame.mono (by decide) (by decide)⟩
      show Q2 Z r t o s0 s1 s2 s3 h0 n0 (some (.int (1 : Int32))) T4.heap _
      rw [e4]
      exact ⟨by rw [own_moves, u3, if_pos rfl, if_neg c5], N2, rfl⟩
  · refine own_go (S' := T1.setTop (mkF m 61 #[.val (.ref r), .val (.ref t)] [])) (fun tg kk => XS.tswIn X1.here hx rfl (pc0 := 4) (pc' := 61) (o := 57) rfl (hb hby d2_4) rfl (by rw [u3]; decide) (by rw [u3]; decide) (by decide) (by decide) kk) ?_
    refine own_go (S' := T1.setTop (mkF m 62 #[.val (.ref r), .val (.ref t)] [(.ref t)])) (fun tg kk => XS.aloadN X1.here hx rfl (hb hby d2_61) rfl rfl kk) ?_
    obtain ⟨T6, X6, e6, st6⟩ := getS (host := "") X1 hx hZ hown (hw _ (List.mem_of_getElem? (i := 28) rfl)) Via.refl e1 (S_CANCELLED.ext O0.2) (g := (mkF m 62 #[.val (.ref r), .val (.ref t)] [(.ref t)])) rfl (hb hby d2_62)
    refine own_go (S' := T6.setTop (mkF m 65 #[.val (.ref r), .val (.ref t)] [(.ref s2), (.ref t)])) (st6) ?_
    by_cases c7 : (Value.ref t) = (Value.ref s2)
    · refine own_go (S' := T6.setTop (mkF m 75 #[.val (.ref r), .val (.ref t)] [])) (fun tg kk => XT.acmpYes X6.here hx rfl (pc0 := 65) (pc' := 75) rfl (hb hby d2_65) rfl rfl rfl (XT.aa_eq_t c7) (by decide) (by decide) kk) ?_
      refine own_go (S' := T6.setTop (mkF m 76 #[.val (.ref r), .val (.ref t)] [(.int (1 : Int32))])) (fun tg kk => XT.iconstV X6.here hx rfl (1 : Int32) (hb hby d2_75) (by decide) kk) ?_
      refine own_go (S' := T6.setTop (mkF m 84 #[.val (.ref r), .val (.ref t)] [(.int (1 : Int32))])) (fun tg kk => XS.goto X6.here hx rfl (pc0 := 76) (pc' := 84) rfl (hb hby d2_76) (by decide) (by decide) kk) ?_
      obtain ⟨fs, hr, hrun, hended, hW, hsame⟩ := X6.leave (v := some (.int (1 : Int32))) (fun h => by rw [Bd.returns] at h; cases h)
      refine ⟨_, _, retN X6 hx (t := .boolean) Bd.returns (by simp) (hb hby d2_84) hr, hrun, hended, _, _, rfl, ?_, ⟨_, rfl⟩, hW, hsame.mono (by decide) (by decide)⟩
      show Q2 Z r t o s0 s1 s2 s3 h0 n0 (some (.int (1 : Int32))) T6.heap _
      rw [e6]
      exact ⟨by rw [own_moves, u3, if_neg (by decide), if_pos rfl, if_pos c7], N2, rfl⟩
    · refine own_go (S' := T6.setTop (mkF m 68 #[.val (.ref r), .val (.ref t)] [])) (fun tg kk => XT.acmpNo X6.here hx rfl (hb hby d2_65) rfl rfl rfl (XT.aa_eq_f c7) kk) ?_
      refine own_go (S' := T6.setTop (mkF m 69 #[.val (.ref r), .val (.ref t)] [(.ref t)])) (fun tg kk => XS.aloadN X6.here hx rfl (hb hby d2_68) rfl rfl kk) ?_
      obtain ⟨T8, X8, e8, st8⟩ := getS (host := "") X6 hx hZ hown (hw _ (List.mem_of_getElem? (i := 29) rfl)) Via.refl e6 (S_COMPLETED.ext O0.2) (g := (mkF m 69 #[.val (.ref r), .val (.ref t)] [(.ref t)])) rfl (hb hby d2_69)
      refine own_go (S' := T8.setTop (mkF m 72 #[.val (.ref r), .val (.ref t)] [(.ref s3), (.ref t)])) (st8) ?_
      by_cases c9 : (Value.ref t) = (Value.ref s3)
      · refine own_go (S' := T8.setTop (mkF m 75 #[.val (.ref r), .val (.ref t)] [])) (fun tg kk => XT.acmpNo X8.here hx rfl (hb hby d2_72) rfl rfl rfl (XT.aa_ne_f c9) kk) ?_
        refine own_go (S' := T8.setTop (mkF m 76 #[.val (.ref r), .val (.ref t)] [(.int (1 : Int32))])) (fun tg kk => XT.iconstV X8.here hx rfl (1 : Int32) (hb hby d2_75) (by decide) kk) ?_
        refine own_go (S' := T8.setTop (mkF m 84 #[.val (.ref r), .val (.ref t)] [(.int (1 : Int32))])) (fun tg kk => XS.goto X8.here hx rfl (pc0 := 76) (pc' := 84) rfl (hb hby d2_76) (by decide) (by decide) kk) ?_
        obtain ⟨fs, hr, hrun, hended, hW, hsame⟩ := X8.leave (v := some (.int (1 : Int32))) (fun h => by rw [Bd.returns] at h; cases h)
        refine ⟨_, _, retN X8 hx (t := .boolean) Bd.returns (by simp) (hb hby d2_84) hr, hrun, hended, _, _, rfl, ?_, ⟨_, rfl⟩, hW, hsame.mono (by decide) (by decide)⟩
        show Q2 Z r t o s0 s1 s2 s3 h0 n0 (some (.int (1 : Int32))) T8.heap _
        rw [e8]
        exact ⟨by rw [own_moves, u3, if_neg (by decide), if_pos rfl, if_neg c7, if_pos c9], N2, rfl⟩
      · refine own_go (S' := T8.setTop (mkF m 79 #[.val (.ref r), .val (.ref t)] [])) (fun tg kk => XT.acmpYes X8.here hx rfl (pc0 := 72) (pc' := 79) rfl (hb hby d2_72) rfl rfl rfl (XT.aa_ne_t c9) (by decide) (by decide) kk) ?_
        refine own_go (S' := T8.setTop (mkF m 80 #[.val (.ref r), .val (.ref t)] [(.int (0 : Int32))])) (fun tg kk => XT.iconstV X8.here hx rfl (0 : Int32) (hb hby d2_79) (by decide) kk) ?_
        refine own_go (S' := T8.setTop (mkF m 84 #[.val (.ref r), .val (.ref t)] [(.int (0 : Int32))])) (fun tg kk => XS.goto X8.here hx rfl (pc0 := 80) (pc' := 84) rfl (hb hby d2_80) (by decide) (by decide) kk) ?_
        obtain ⟨fs, hr, hrun, hended, hW, hsame⟩ := X8.leave (v := some (.int (0 : Int32))) (fun h => by rw [Bd.returns] at h; cases h)
        refine ⟨_, _, retN X8 hx (t := .boolean) Bd.returns (by simp) (hb hby d2_84) hr, hrun, hended, _, _, rfl, ?_, ⟨_, rfl⟩, hW, hsame.mono (by decide) (by decide)⟩
        show Q2 Z r t o s0 s1 s2 s3 h0 n0 (some (.int (0 : Int32))) T8.heap _
        rw [e8]
        exact ⟨by rw [own_moves, u3, if_neg (by decide), if_pos rfl, if_neg c7, if_neg c9], N2, rfl⟩
  · refine own_go (S' := T1.setTop (mkF m 83 #[.val (.ref r), .val (.ref t)] [])) (fun tg kk => XS.tswIn X1.here hx rfl (pc0 := 4) (pc' := 83) (o := 79) rfl (hb hby d2_4) rfl (by rw [u3]; decide) (by rw [u3]; decide) (by decide) (by decide) kk) ?_
    refine own_go (S' := T1.setTop (mkF m 84 #[.val (.ref r), .val (.ref t)] [(.int (0 : Int32))])) (fun tg kk => XT.iconstV X1.here hx rfl (0 : Int32) (hb hby d2_83) (by decide) kk) ?_
    obtain ⟨fs, hr, hrun, hended, hW, hsame⟩ := X1.leave (v := some (.int (0 : Int32))) (fun h => by rw [Bd.returns] at h; cases h)
    refine ⟨_, _, retN X1 hx (t := .boolean) Bd.returns (by simp) (hb hby d2_84) hr, hrun, hended, _, _, rfl, ?_, ⟨_, rfl⟩, hW, hsame.mono (by decide) (by decide)⟩
    show Q2 Z r t o s0 s1 s2 s3 h0 n0 (some (.int (0 : Int32))) T1.heap _
    rw [e1]
    exact ⟨by rw [own_moves, u3, if_neg (by decide), if_neg (by decide)], N2, rfl⟩
  · refine own_go (S' := T1.setTop (mkF m 83 #[.val (.ref r), .val (.ref t)] [])) (fun tg kk => XS.tswIn X1.here hx rfl (pc0 := 4) (pc' := 83) (o := 79) rfl (hb hby d2_4) rfl (by rw [u3]; decide) (by rw [u3]; decide) (by decide) (by decide) kk) ?_
    refine own_go (S' := T1.setTop (mkF m 84 #[.val (.ref r), .val (.ref t)] [(.int (0 : Int32))])) (fun tg kk => XT.iconstV X1.here hx rfl (0 : Int32) (hb hby d2_83) (by decide) kk) ?_
    obtain ⟨fs, hr, hrun, hended, hW, hsame⟩ := X1.leave (v := some (.int (0 : Int32))) (fun h => by rw [Bd.returns] at h; cases h)
    refine ⟨_, _, retN X1 hx (t := .boolean) Bd.returns (by simp) (hb hby d2_84) hr, hrun, hended, _, _, rfl, ?_, ⟨_, rfl⟩, hW, hsame.mono (by decide) (by decide)⟩
    show Q2 Z r t o s0 s1 s2 s3 h0 n0 (some (.int (0 : Int32))) T1.heap _
    rw [e1]
    exact ⟨by rw [own_moves, u3, if_neg (by decide), if_neg (by decide)], N2, rfl⟩
theorem pd__I_Lcom_example_zapis_zapis_PrescriptionStatus_ : parseMethodDescriptor "(I)Lcom/example/zapis/zapis/PrescriptionStatus;" = some ⟨[.int], some (.object "com/example/zapis/zapis/PrescriptionStatus")⟩ := by decide +kernel
theorem pd__Lcom_example_zapis_zapis_PrescriptionStatus__Z : parseMethodDescriptor "(Lcom/example/zapis/zapis/PrescriptionStatus;)Z" = some ⟨[.object "com/example/zapis/zapis/PrescriptionStatus"], some .boolean⟩ := by decide +kernel
theorem ef0 (m : MethodId) (x0 : Int32) (x1 : Int32) : entryFrame m #[(.int x0), (.int x1)] maxLocals = mkF m 0 #[.val (.int x0), .val (.int x1), .unset, .unset, .unset, .unset, .unset] [] := by first | (simp [entryFrame, mkF, argsToLocals, Value.category, maxLocals]; done) | rfl
def Q0 (Z : State) (p1 : Int32) (p2 : Int32) (s0 : Addr) (s1 : Addr) (s2 : Addr) (s3 : Addr) (h0 : Heap) (n0 : Nat) (v : Option Value) (h : Heap) (L : List Loc) : Prop := v = some (.int 1) ∧ Fr n0 L
set_option maxRecDepth 65536 in
set_option maxHeartbeats 40000000 in
theorem rm0 (l : Launch) (Z : State) (a0 : Array Value) (hw : ∀ d ∈ tables_1, d.before a0 Z = true) (ws : List Jvm.Cond) (p1 : Int32) (p2 : Int32) (s0 : Addr) (s1 : Addr) (s2 : Addr) (s3 : Addr) (h0 : Heap) (n0 : Nat) (Z0 : n0 ≤ h0.size) (O0 : Old Z n0 h0) (S_ACTIVE : Sta Z Z.heap "com/example/zapis/zapis/PrescriptionStatus" "ACTIVE" "Lcom/example/zapis/zapis/PrescriptionStatus;" (.ref s0)) (S_ON_HOLD : Sta Z Z.heap "com/example/zapis/zapis/PrescriptionStatus" "ON_HOLD" "Lcom/example/zapis/zapis/PrescriptionStatus;" (.ref s1)) (S_CANCELLED : Sta Z Z.heap "com/example/zapis/zapis/PrescriptionStatus" "CANCELLED" "Lcom/example/zapis/zapis/PrescriptionStatus;" (.ref s2)) (S_COMPLETED : Sta Z Z.heap "com/example/zapis/zapis/PrescriptionStatus" "COMPLETED" "Lcom/example/zapis/zapis/PrescriptionStatus;" (.ref s3)) (E_ACTIVE : Exa Z Z.heap s0 "com/example/zapis/zapis/PrescriptionStatus") (E_ON_HOLD : Exa Z Z.heap s1 "com/example/zapis/zapis/PrescriptionStatus") (E_CANCELLED : Exa Z Z.heap s2 "com/example/zapis/zapis/PrescriptionStatus") (E_COMPLETED : Exa Z Z.heap s3 "com/example/zapis/zapis/PrescriptionStatus") (F_ACTIVE_ordinal : Fld Z Z.heap s0 "java/lang/Enum" "ordinal" "I" (.int (0 : Int32))) (F_ON_HOLD_ordinal : Fld Z Z.heap s1 "java/lang/Enum" "ordinal" "I" (.int (1 : Int32))) (F_CANCELLED_ordinal : Fld Z Z.heap s2 "java/lang/Enum" "ordinal" "I" (.int (2 : Int32))) (F_COMPLETED_ordinal : Fld Z Z.heap s3 "java/lang/Enum" "ordinal" "I" (.int (3 : Int32))) (n01 : s0 ≠ s1) (n02 : s0 ≠ s2) (n03 : s0 ≠ s3) (n10 : s1 ≠ s0) (n12 : s1 ≠ s2) (n13 : s1 ≠ s3) (n20 : s2 ≠ s0) (n21 : s2 ≠ s1) (n23 : s2 ≠ s3) (n30 : s3 ≠ s0) (n31 : s3 ≠ s1) (n32 : s3 ≠ s2) :
    MetFree l x (head1 (Jvm.Cond.code x code maxLocals ret :: ws) room_1) (fun a U => a = #[(.int p1), (.int p2)] ∧ Z.Warmed39 U.vm ∧ U.heap = h0) (fun _ _ _ _ _ => True) (fun _ U ou U' => ∃ v L, ou = .returned v ∧ Q0 Z p1 p2 s0 s1 s2 s3 h0 n0 v U'.heap L ∧ FrameEnd U ou U' L room_1.cells room_1.slots) := by
  refine MetFree.of_bodySF (plainFor_of_name pn_com_example_zapis_zapis_PrescriptionStatusMovesToPinLaw) hisR ?_
  intro pg e s m args below meth c s₁ Bd hml0 hP hK
  obtain ⟨rfl, hZ, hh⟩ := hP
  have hx := Bd.exec
  have hby := Bd.bytes
  have hml : c.maxLocals = 7 := hml0
  have hown : s.vm.findClass "com/example/zapis/zapis/PrescriptionStatusMovesToPinLaw" = some m.cls := findClass_of_methodNamed Bd.named
  have hnm := (name_of_methodNamed Bd.named Bd.method).1
  have X0 : Stand pg l e room_1 s m #[(.int p1), (.int p2)] below meth c s₁ [] 0 0 := Stand.of_body Bd
  have e0 : s₁.heap = h0 := by rw [← hh, Bd.state]; rfl
  have N0 := Fr.nil n0
  show own_Go pg.tables e below (fun ou U' => ∃ v L, ou = .returned v ∧ Q0 Z p1 p2 s0 s1 s2 s3 h0 n0 v U'.heap L ∧ FrameEnd s ou U' L room_1.cells room_1.slots) (s₁.setTop (entryFrame m #[(.int p1), (.int p2)] maxLocals))
  refine own_go (S' := s₁.setTop (mkF m 0 #[.val (.int p1), .val (.int p2), .unset, .unset, .unset, .unset, .unset] [])) (fun tg kk => castTop (ef0 m p1 p2) kk) ?_
  refine own_go (S' := s₁.setTop (mkF m 1 #[.val (.int p1), .val (.int p2), .unset, .unset, .unset, .unset, .unset] [(.int p1)])) (fun tg kk => XS.iloadN X0.here hx rfl (hb hby at_0) rfl kk) ?_
  refine own_go (S' := s₁.setTop (mkF m 2 #[.val (.int p1), .val (.int p2), .unset, .unset, .unset, .unset, .unset] [(.int (3 : Int32)), (.int p1)])) (fun tg kk => XT.iconstV X0.here hx rfl (3 : Int32) (hb hby at_1) (by decide) kk) ?_
  refine own_go (S' := s₁.setTop (mkF m 3 #[.val (.int p1), .val (.int p2), .unset, .unset, .unset, .unset, .unset] [(.int (p1 &&& (3 : Int32)))])) (fun tg kk => XS.iand X0.here hx rfl (hb hby at_2) rfl kk) ?_
  refine own_go (S' := s₁.setTop (mkF m 4 #[.val (.int p1), .val (.int p2), .val (.int (p1 &&& (3 : Int32))), .unset, .unset, .unset, .unset] [])) (fun tg kk => XS.istoreN X0.here hx rfl (hb hby at_3) rfl (l' := #[.val (.int p1), .val (.int p2), .val (.int (p1 &&& (3 : Int32))), .unset, .unset, .unset, .unset]) rfl kk) ?_
  refine own_go (S' := s₁.setTop (mkF m 5 #[.val (.int p1), .val (.int p2), .val (.int (p1 &&& (3 : Int32))), .unset, .unset, .unset, .unset] [(.int p2)])) (fun tg kk => XS.iloadN X0.here hx rfl (hb hby at_4) rfl kk) ?_
  refine own_go (S' := s₁.setTop (mkF m 6 #[.val (.int p1), .val (.int p2), .val (.int (p1 &&& (3 : Int32))), .unset, .unset, .unset, .unset] [(.int (3 : Int32)), (.int p2)])) (fun tg kk => XT.iconstV X0.here hx rfl (3 : Int32) (hb hby at_5) (by decide) kk) ?_
  refine own_go (S' := s₁.setTop (mkF m 7 #[.val (.int p1), .val (.int p2), .val (.int (p1 &&& (3 : Int32))), .unset, .unset, .unset, .unset] [(.int (p2 &&& (3 : Int32)))])) (fun tg kk => XS.iand X0.here hx rfl (hb hby at_6) rfl kk) ?_
  refine own_go (S' := s₁.setTop (mkF m 8 #[.val (.int p1), .val (.int p2), .val (.int (p1 &&& (3 : Int32))), .val (.int (p2 &&& (3 : Int32))), .unset, .unset, .unset] [])) (fun tg kk => XS.istoreN X0.here hx rfl (hb hby at_7) rfl (l' := #[.val (.int p1), .val (.int p2), .val (.int (p1 &&& (3 : Int32))), .val (.int (p2 &&& (3 : Int32))), .unset, .unset, .unset]) rfl kk) ?_
  rcases own_le3 p1 with u1 | u1 | u1 | u1
  · refine own_go (S' := s₁.setTop (mkF m 9 #[.val (.int p1), .val (.int p2), .val (.int (p1 &&& (3 : Int32))), .val (.int (p2 &&& (3 : Int32))), .unset, .unset, .unset] [(.int (p1 &&& (3 : Int32)))])) (fun tg kk => XS.iloadN X0.here hx rfl (hb hby at_8) rfl kk) ?_
    obtain ⟨v2, _, ⟨T2, L2, k2, n2⟩, -, X2, ⟨Lc2, hQ2, l2, y2, z2⟩, st2⟩ := Jvm.LawKit.callS X0 hx (y := (⟨"com/example/zapis/zapis/PrescriptionStatusMovesToPinLaw", "pick", "(I)Lcom/example/zapis/zapis/PrescriptionStatus;"⟩ : MethodName)) hown (mvT hZ (hw _ (List.mem_of_getElem? (i := 0) rfl))) (mvT hZ (hw _ (List.mem_of_getElem? (i := 1) rfl))) (mvT hZ (hw _ (List.mem_of_getElem? (i := 2) rfl))) (mvT hZ (hw _ (List.mem_of_getElem? (i := 3) rfl))) (by decide) (backOf (W := 0) (rm1 l Z a0 hw [] (p1 &&& (3 : Int32)) s0 s1 s2 s3 h0 n0 Z0 O0 S_ACTIVE S_ON_HOLD S_CANCELLED S_COMPLETED) hZ (hw _ (List.mem_of_getElem? (i := 3) rfl)) (hw _ (List.mem_of_getElem? (i := 2) rfl)) (by decide) (by decide)) (g := (mkF m 9 #[.val (.int p1), .val (.int p2), .val (.int (p1 &&& (3 : Int32))), .val (.int (p2 &&& (3 : Int32))), .unset, .unset, .unset] [(.int (p1 &&& (3 : Int32)))])) rfl (by rw [hml]; rfl) (argsL := [(.int (p1 &&& (3 : Int32)))]) (rest := []) (lenOf pd__I_Lcom_example_zapis_zapis_PrescriptionStatus_ rfl) rfl (by show 2 * 0 + _ ≤ _; exact Nat.le_of_eq rfl) (hb hby at_9) (fun _ _ => ⟨rfl, e0, (by decide : 0 + 0 ≤ _), (by decide : 0 + 0 ≤ _)⟩)
    dsimp only [Pt.U, Pt.locs, Pt.cells, Pt.slots] at X2 l2 y2 z2 st2 hQ2
    subst l2 y2 z2
    obtain ⟨hv2, M3, e2⟩ := hQ2
    obtain rfl : v2 = some (.ref s0) := by rw [hv2]; rw [own_pick, u1, if_pos rfl]
    have N3 := Fr.app N0 M3
    refine own_go (S' := T2.setTop (mkF m 12 #[.val (.int p1), .val (.int p2), .val (.int (p1 &&& (3 : Int32))), .val (.int (p2 &&& (3 : Int32))), .unset, .unset, .unset] [(.ref s0)])) st2 ?_
    refine own_go (S' := T2.setTop (mkF m 14 #[.val (.int p1), .val (.int p2), .val (.int (p1 &&& (3 : Int32))), .val (.int (p2 &&& (3 : Int32))), .val (.ref s0), .unset, .unset] [])) (fun tg kk => XS.astore X2.here hx rfl (hb hby at_12) rfl rfl (l' := #[.val (.int p1), .val (.int p2), .val (.int (p1 &&& (3 : Int32))), .val (.int (p2 &&& (3 : Int32))), .val (.ref s0), .unset, .unset]) rfl kk) ?_
    rcases own_le3 p2 with u4 | u4 | u4 | u4
    · refine own_go (S' := T2.setTop (mkF m 15 #[.val (.int p1), .val (.int p2), .val (.int (p1 &&& (3 : Int32))), .val (.int (p2 &&& (3 : Int32))), .val (.ref s0), .unset, .unset] [(.int (p2 &&& (3 : Int32)))])) (fun tg kk => XS.iloadN X2.here hx rfl (hb hby at_14) rfl kk) ?_
      obtain ⟨v5, _, ⟨T5, L5, k5, n5⟩, -, X5, ⟨Lc5, hQ5, l5, y5, z5⟩, st5⟩ := Jvm.LawKit.callS X2 hx (y := (⟨"com/example/zapis/zapis/PrescriptionStatusMovesToPinLaw", "pick", "(I)Lcom/example/zapis/zapis/PrescriptionStatus;"⟩ : MethodName)) hown (mvT hZ (hw _ (List.mem_of_getElem? (i := 0) rfl))) (mvT hZ (hw _ (List.mem_of_getElem? (i := 1) rfl))) (mvT hZ (hw _ (List.mem_of_getElem? (i := 2) rfl))) (mvT hZ (hw _ (List.mem_of_getElem? (i := 3) rfl))) (by decide) (backOf (W := 0) (rm1 l Z a0 hw [] (p2 &&& (3 : Int32)) s0 s1 s2 s3 h0 n0 Z0 O0 S_ACTIVE S_ON_HOLD S_CANCELLED S_COMPLETED) hZ (hw _ (List.mem_of_getElem? (i := 3) rfl)) (hw _ (List.mem_of_getElem? (i := 2) rfl)) (by decide) (by decide)) (g := (mkF m 15 #[.val (.int p1), .val (.int p2), .val (.int (p1 &&& (3 : Int32))), .val (.int (p2 &&& (3 : Int32))), .val (.ref s0), .unset, .unset] [(.int (p2 &&& (3 : Int32)))])) rfl (by rw [hml]; rfl) (argsL := [(.int (p2 &&& (3 : Int32)))]) (rest := []) (lenOf pd__I_Lcom_example_zapis_zapis_PrescriptionStatus_ rfl) rfl (by show 2 * 0 + _ ≤ _; exact Nat.le_of_eq rfl) (hb hby at_15) (fun _ _ => ⟨rfl, e2, (by decide : 0 + 0 ≤ _), (by decide : 0 + 0 ≤ _)⟩)
      dsimp only [Pt.U, Pt.locs, Pt.cells, Pt.slots] at X5 l5 y5 z5 st5 hQ5
      subst l5 y5 z5
      obtain ⟨hv5, M6, e5⟩ := hQ5
      obtain rfl : v5 = some (.ref s0) := by rw [hv5]; rw [own_pick, u4, if_pos rfl]
      have N6 := Fr.app N3 M6
      refine own_go (S' := T5.setTop (mkF m 18 #[.val (.int p1), .val (.int p2), .val (.int (p1 &&& (3 : Int32))), .val (.int (p2 &&& (3 : Int32))), .val (.ref s0), .unset, .unset] [(.ref s0)])) st5 ?_
      refine own_go (S' := T5.setTop (mkF m 20 #[.val (.int p1), .val (.int p2), .val (.int (p1 &&& (3 : Int32))), .val (.int (p2 &&& (3 : Int32))), .val (.ref s0), .val (.ref s0), .unset] [])) (fun tg kk => XS.astore X5.here hx rfl (hb hby at_18) rfl rfl (l' := #[.val (.int p1), .val (.int p2), .val (.int (p1 &&& (3 : Int32))), .val (.int (p2 &&& (3 : Int32))), .val (.ref s0), .val (.ref s0), .unset]) rfl kk) ?_
      refine own_go (S' := T5.setTop (mkF m 21 #[.val (.int p1), .val (.int p2), .val (.int (p1 &&& (3 : Int32))), .val (.int (p2 &&& (3 : Int32))), .val (.ref s0), .val (.ref s0), .unset] [(.int (p1 &&& (3 : Int32)))])) (fun tg kk => XS.iloadN X5.here hx rfl (hb hby at_20) rfl kk) ?_
      refine own_go (S' := T5.setTop (mkF m 22 #[.val (.int p1), .val (.int p2), .val (.int (p1 &&& (3 : Int32))), .val (.int (p2 &&& (3 : Int32))), .val (.ref s0), .val (.ref s0), .unset] [(.int (2 : Int32)), (.int (p1 &&& (3 : Int32)))])) (fun tg kk => XT.iconstV X5.here hx rfl (2 : Int32) (hb hby at_21) (by decide) kk) ?_
      refine own_go (S' := T5.setTop (mkF m 25 #[.val (.int p1), .val (.int p2), .val (.int (p1 &&& (3 : Int32))), .val (.int (p2 &&& (3 : Int32))), .val (.ref s0), .val (.ref s0), .unset] [])) (fun tg kk => XS.icmpNo X5.here hx rfl (hb hby at_22) rfl (XT.ii_ge_f (by rw [u1]; decide)) kk) ?_
      refine own_go (S' := T5.setTop (mkF m 26 #[.val (.int p1), .val (.int p2), .val (.int (p1 &&& (3 : Int32))), .val (.int (p2 &&& (3 : Int32))), .val (.ref s0), .val (.ref s0), .unset] [(.int (p2 &&& (3 : Int32)))])) (fun tg kk => XS.iloadN X5.here hx rfl (hb hby at_25) rfl kk) ?_
      refine own_go (S' := T5.setTop (mkF m 27 #[.val (.int p1), .val (.int p2), .val (.int (p1 &&& (3 : Int32))), .val (.int (p2 &&& (3 : Int32))), .val (.ref s0), .val (.ref s0), .unset] [(.int (p1 &&& (3 : Int32))), (.int (p2 &&& (3 : Int32)))])) (fun tg kk => XS.iloadN X5.here hx rfl (hb hby at_26) rfl kk) ?_
      refine own_go (S' := T5.setTop (mkF m 34 #[.val (.int p1), .val (.int p2), .val (.int (p1 &&& (3 : Int32))), .val (.int (p2 &&& (3 : Int32))), .val (.ref s0), .val (.ref s0), .unset] [])) (fun tg kk => XS.icmpYes X5.here hx rfl (pc0 := 27) (pc' := 34) rfl (hb hby at_27) rfl (XT.ii_le_t (by rw [u1, u4]; decide)) (by decide) (by decide) kk) ?_
      refine own_go (S' := T5.setTop (mkF m 35 #[.val (.int p1), .val (.int p2), .val (.int (p1 &&& (3 : Int32))), .val (.int (p2 &&& (3 : Int32))), .val (.ref s0), .val (.ref s0), .unset] [(.int (0 : Int32))])) (fun tg kk => XT.iconstV X5.here hx rfl (0 : Int32) (hb hby at_34) (by decide) kk) ?_
      refine own_go (S' := T5.setTop (mkF m 37 #[.val (.int p1), .val (.int p2), .val (.int (p1 &&& (3 : Int32))), .val (.int (p2 &&& (3 : Int32))), .val (.ref s0), .val (.ref s0), .val (.int (0 : Int32))] [])) (fun tg kk => XS.istore X5.here hx rfl (hb hby at_35) rfl (l' := #[.val (.int p1), .val (.int p2), .val (.int (p1 &&& (3 : Int32))), .val (.int (p2 &&& (3 : Int32))), .val (.ref s0), .val (.ref s0), .val (.int (0 : Int32))]) rfl kk) ?_
      refine own_go (S' := T5.setTop (mkF m 39 #[.val (.int p1), .val (.int p2), .val (.int (p1 &&& (3 : Int32))), .val (.int (p2 &&& (3 : Int32))), .val (.ref s0), .val (.ref s0), .val (.int (0 : Int32))] [(.ref s0)])) (fun tg kk => XS.aload X5.here hx rfl (hb hby at_37) rfl rfl kk) ?_
      refine own_go (S' := T5.setTop (mkF m 41 #[.val (.int p1), .val (.int p2), .val (.int (p1 &&& (3 : Int32))), .val (.int (p2 &&& (3 : Int32))), .val (.ref s0), .val (.ref s0), .val (.int (0 : Int32))] [(.ref s0), (.ref s0)])) (fun tg kk => XS.aload X5.here hx rfl (hb hby at_39) rfl rfl kk) ?_
      obtain ⟨cq7, kq7, qa7, qb7, qc7⟩ := isOf hZ e5 (E_ACTIVE.ext O0.2)
      obtain ⟨v7, _, ⟨T7, L7, k7, n7⟩, -, X7, ⟨Lc7, hQ7, l7, y7, z7⟩, st7⟩ := X5.virtualBack hx (y := (⟨"com/example/zapis/zapis/PrescriptionStatus", "movesTo", "(Lcom/example/zapis/zapis/PrescriptionStatus;)Z"⟩ : MethodName)) (z := (⟨"com/example/zapis/zapis/PrescriptionStatus", "movesTo", "(Lcom/example/zapis/zapis/PrescriptionStatus;)Z"⟩ : MethodName)) hown (mvT hZ (hw _ (List.mem_of_getElem? (i := 9) rfl))) (mvT hZ (hw _ (List.mem_of_getElem? (i := 10) rfl))) (notFace_of_selects (args := #[]) (mvT hZ (hw _ (List.mem_of_getElem? (i := 12) rfl)))) (mvT hZ (hw _ (List.mem_of_getElem? (i := 12) rfl))) (mvT hZ (hw _ (List.mem_of_getElem? (i := 11) rfl))) (by decide) (backOf (W := 0) (rm2 l Z a0 hw [] s0 s0 (0 : Int32) s0 s1 s2 s3 h0 n0 Z0 O0 S_ACTIVE S_ON_HOLD S_CANCELLED S_COMPLETED F_ACTIVE_ordinal E_ACTIVE (Or.inl rfl)) hZ (hw _ (List.mem_of_getElem? (i := 13) rfl)) (hw _ (List.mem_of_getElem? (i := 5) rfl)) (by decide) (by decide)) qa7 qc7 (g := (mkF m 41 #[.val (.int p1), .val (.int p2), .val (.int (p1 &&& (3 : Int32))), .val (.int (p2 &&& (3 : Int32))), .val (.ref s0), .val (.ref s0), .val (.int (0 : Int32))] [(.ref s0), (.ref s0)])) rfl (by rw [hml]; rfl) (Steps.refl _) (argsL := [(.ref s0)]) (rest := []) (lenOf pd__Lcom_example_zapis_zapis_PrescriptionStatus__Z rfl) rfl (by show 2 * 0 + _ ≤ _; exact Nat.le_of_eq rfl) (hb hby at_41) (fun _ _ => ⟨rfl, e5, (by decide : 0 + 0 ≤ _), (by decide : 0 + 0 ≤ _)⟩)
      dsimp only [Pt.U, Pt.locs, Pt.cells, Pt.slots] at X7 l7 y7 z7 st7 hQ7
      subst l7 y7 z7
      obtain ⟨hv7, M8, e7⟩ := hQ7
      obtain rfl : v7 = some (.int (0 : Int32)) := by rw [hv7]; rw [own_moves, if_pos rfl, if_pos rfl]
      have N8 := Fr.app N6 M8
      refine own_to (S' := T7.setTop (mkF m 44 #[.val (.int p1), .val (.int p2), .val (.int (p1 &&& (3 : Int32))), .val (.int (p2 &&& (3 : Int32))), .val (.ref s0), .val (.ref s0), .val (.int (0 : Int32))] [(.int (0 : Int32))])) st7 ?_
      refine own_go (S' := T7.setTop (mkF m 46 #[.val (.int p1), .val (.int p2), .val (.int (p1 &&& (3 : Int32))), .val (.int (p2 &&& (3 : Int32))), .val (.ref s0), .val (.ref s0), .val (.int (0 : Int32))] [(.int (0 : Int32)), (.int (0 : Int32))])) (fun tg kk => XS.iload X7.here hx rfl (hb hby at_44) rfl kk) ?_
      refine own_go (S' := T7.setTop (mkF m 49 #[.val (.int p1), .val (.int p2), .val (.int (p1 &&& (3 : Int32))), .val (.int (p2 &&& (3 : Int32))), .val (.ref s0), .val (.ref s0), .val (.int (0 : Int32))] [])) (fun tg kk => XS.icmpNo X7.here hx rfl (hb hby at_46) rfl (XT.ii_ne_f (by decide)) kk) ?_
      refine own_go (S' := T7.setTop (mkF m 50 #[.val (.int p1), .val (.int p2), .val (.int (p1 &&& (3 : Int32))), .val (.int (p2 &&& (3 : Int32))), .val (.ref s0), .val (.ref s0), .val (.int (0 : Int32))] [(.int (1 : Int32))])) (fun tg kk => XT.iconstV X7.here hx rfl (1 : Int32) (hb hby at_49) (by decide) kk) ?_
      refine own_go (S' := T7.setTop (mkF m 54 #[.val (.int p1), .val (.int p2), .val (.int (p1 &&& (3 : Int32))), .val (.int (p2 &&& (3 : Int32))), .val (.ref s0), .val (.ref s0), .val (.int (0 : Int32))] [(.int (1 : Int32))])) (fun tg kk => XS.goto X7.here hx rfl (pc0 := 50) (pc' := 54) rfl (hb hby at_50) (by decide) (by decide) kk) ?_
      obtain ⟨fs, hr, hrun, hended, hW, hsame⟩ := X7.leave (v := some (.int (1 : Int32))) (fun h => by rw [Bd.returns] at h; cases h)
      refine ⟨_, _, retN X7 hx (t := .boolean) Bd.returns (by simp) (hb hby at_54) hr, hrun, hended, _, _, rfl, ?_, ⟨_, rfl⟩, hW, hsame.mono (by decide) (by decide)⟩
      show Q0 Z p1 p2 s0 s1 s2 s3 h0 n0 (some (.int (1 : Int32))) T7.heap _
      rw [e7]
      exact ⟨rfl, N8⟩
    · refine own_go (S' := T2.setTop (mkF m 15 #[.val (.int p1), .val (.int p2), .val (.int (p1 &&& (3 : Int32))), .val (.int (p2 &&& (3 : Int32))), .val (.ref s0), .unset, .unset] [(.int (p2 &&& (3 : Int32)))])) (fun tg kk => XS.iloadN X2.here hx rfl (hb hby at_14) rfl kk) ?_
      obtain ⟨v9, _, ⟨T9, L9, k9, n9⟩, -, X9, ⟨Lc9, hQ9, l9, y9, z9⟩, st9⟩ := Jvm.LawKit.callS X2 hx (y := (⟨"com/example/zapis/zapis/PrescriptionStatusMovesToPinLaw", "pick", "(I)Lcom/example/zapis/zapis/PrescriptionStatus;"⟩ : MethodName)) hown (mvT hZ (hw _ (List.mem_of_getElem? (i := 0) rfl))) (mvT hZ (hw _ (List.mem_of_getElem? (i := 1) rfl))) (mvT hZ (hw _ (List.mem_of_getElem? (i := 2) rfl))) (mvT hZ (hw _ (List.mem_of_getElem? (i := 3) rfl))) (by decide) (backOf (W := 0) (rm1 l Z a0 hw [] (p2 &&& (3 : Int32)) s0 s1 s2 s3 h0 n0 Z0 O0 S_ACTIVE S_ON_HOLD S_CANCELLED S_COMPLETED) hZ (hw _ (List.mem_of_getElem? (i := 3) rfl)) (hw _ (List.mem_of_getElem? (i := 2) rfl)) (by decide) (by decide)) (g := (mkF m 15 #[.val (.int p1), .val (.int p2), .val (.int (p1 &&& (3 : Int32))), .val (.int (p2 &&& (3 : Int32))), .val (.ref s0), .unset, .unset] [(.int (p2 &&& (3 : Int32)))])) rfl (by rw [hml]; rfl) (argsL := [(.int (p2 &&& (3 : Int32)))]) (rest := []) (lenOf pd__I_Lcom_example_zapis_zapis_PrescriptionStatus_ rfl) rfl (by show 2 * 0 + _ ≤ _; exact Nat.le_of_eq rfl) (hb hby at_15) (fun _ _ => ⟨rfl, e2, (by decide : 0 + 0 ≤ _), (by decide : 0 + 0 ≤ _)⟩)
      dsimp only [Pt.U, Pt.locs, Pt.cells, Pt.slots] at X9 l9 y9 z9 st9 hQ9
      subst l9 y9 z9
      obtain ⟨hv9, M10, e9⟩ := hQ9
      obtain rfl : v9 = some (.ref s1) := by rw [hv9]; rw [own_pick, u4, if_neg (by decide), if_pos rfl]
      have N10 := Fr.app N3 M10
      refine own_go (S' := T9.setTop (mkF m 18 #[.val (.int p1), .val (.int p2), .val (.int (p1 &&& (3 : Int32))), .val (.int (p2 &&& (3 : Int32))), .val (.ref s0), .unset, .unset] [(.ref s1)])) st9 ?_
      refine own_go (S' := T9.setTop (mkF m 20 #[.val (.int p1), .val (.int p2), .val (.int (p1 &&& (3 : Int32))), .val (.int (p2 &&& (3 : Int32))), .val (.ref s0), .val (.ref s1), .unset] [])) (fun tg kk => XS.astore X9.here hx rfl (hb hby at_18) rfl rfl (l' := #[.val (.int p1), .val (.int p2), .val (.int (p1 &&& (3 : Int32))), .val (.int (p2 &&& (3 : Int32))), .val (.ref s0), .val (.ref s1), .unset]) rfl kk) ?_
      refine own_go (S' := T9.setTop (mkF m 21 #[.val (.int p1), .val (.int p2), .val (.int (p1 &&& (3 : Int32))), .val (.int (p2 &&& (3 : Int32))), .val (.ref s0), .val (.ref s1), .unset] [(.int (p1 &&& (3 : Int32)))])) (fun tg kk => XS.iloadN X9.here hx rfl (hb hby at_20) rfl kk) ?_
      refine own_go (S' := T9.setTop (mkF m 22 #[.val (.int p1), .val (.int p2), .val (.int (p1 &&& (3 : Int32))), .val (.int (p2 &&& (3 : Int32))), .val (.ref s0), .val (.ref s1), .unset] [(.int (2 : Int32)), (.int (p1 &&& (3 : Int32)))])) (fun tg kk => XT.iconstV X9.here hx rfl (2 : Int32) (hb hby at_21) (by decide) kk) ?_
      refine own_go (S' := T9.setTop (mkF m 25 #[.val (.int p1), .val (.int p2), .val (.int (p1 &&& (3 : Int32))), .val (.int (p2 &&& (3 : Int32))), .val (.ref s0), .val (.ref s1), .unset] [])) (fun tg kk => XS.icmpNo X9.here hx rfl (hb hby at_22) rfl (XT.ii_ge_f (by rw [u1]; decide)) kk) ?_
      refine own_go (S' := T9.setTop (mkF m 26 #[.val (.int p1), .val (.int p2), .val (.int (p1 &&& (3 : Int32))), .val (.int (p2 &&& (3 : Int32))), .val (.ref s0), .val (.ref s1), .unset] [(.int (p2 &&& (3 : Int32)))])) (fun tg kk => XS.iloadN X9.here hx rfl (hb hby at_25) rfl kk) ?_
      refine own_go (S' := T9.setTop (mkF m 27 #[.val (.int p1), .val (.int p2), .val (.int (p1 &&& (3 : Int32))), .val (.int (p2 &&& (3 : Int32))), .val (.ref s0), .val (.ref s1), .unset] [(.int (p1 &&& (3 : Int32))), (.int (p2 &&& (3 : Int32)))])) (fun tg kk => XS.iloadN X9.here hx rfl (hb hby at_26) rfl kk) ?_
      refine own_go (S' := T9.setTop (mkF m 30 #[.val (.int p1), .val (.int p2), .val (.int (p1 &&& (3 : Int32))), .val (.int (p2 &&& (3 : Int32))), .val (.ref s0), .val (.ref s1), .unset] [])) (fun tg kk => XS.icmpNo X9.here hx rfl (hb hby at_27) rfl (XT.ii_le_f (by rw [u1, u4]; decide)) kk) ?_
      refine own_go (S' := T9.setTop (mkF m 31 #[.val (.int p1), .val (.int p2), .val (.int (p1 &&& (3 : Int32))), .val (.int (p2 &&& (3 : Int32))), .val (.ref s0), .val (.ref s1), .unset] [(.int (1 : Int32))])) (fun tg kk => XT.iconstV X9.here hx rfl (1 : Int32) (hb hby at_30) (by decide) kk) ?_
      refine own_go (S' := T9.setTop (mkF m 35 #[.val (.int p1), .val (.int p2), .val (.int (p1 &&& (3 : Int32))), .val (.int (p2 &&& (3 : Int32))), .val (.ref s0), .val (.ref s1), .unset] [(.int (1 : Int32))])) (fun tg kk => XS.goto X9.here hx rfl (pc0 := 31) (pc' := 35) rfl (hb hby at_31) (by decide) (by decide) kk) ?_
      refine own_go (S' := T9.setTop (mkF m 37 #[.val (.int p1), .val (.int p2), .val (.int (p1 &&& (3 : Int32))), .val (.int (p2 &&& (3 : Int32))), .val (.ref s0), .val (.ref s1), .val (.int (1 : Int32))] [])) (fun tg kk => XS.istore X9.here hx rfl (hb hby at_35) rfl (l' := #[.val (.int p1), .val (.int p2), .val (.int (p1 &&& (3 : Int32))), .val (.int (p2 &&& (3 : Int32))), .val (.ref s0), .val (.ref s1), .val (.int (1 : Int32))]) rfl kk) ?_
      refine own_go (S' := T9.setTop (mkF m 39 #[.val (.int p1), .val (.int p2), .val (.int (p1 &&& (3 : Int32))), .val (.int (p2 &&& (3 : Int32))), .val (.ref s0), .val (.ref s1), .val (.int (1 : Int32))] [(.ref s0)])) (fun tg kk => XS.aload X9.here hx rfl (hb hby at_37) rfl rfl kk) ?_
      refine own_go (S' := T9.setTop (mkF m 41 #[.val (.int p1), .val (.int p2), .val (.int (p1 &&& (3 : Int32))), .val (.int (p2 &&& (3 : Int32))), .val (.ref s0), .val (.ref s1), .val (.int (1 : Int32))] [(.ref s1), (.ref s0)])) (fun tg kk => XS.aload X9.here hx rfl (hb hby at_39) rfl rfl kk) ?_
      obtain ⟨cq11, kq11, qa11, qb11, qc11⟩ := isOf hZ e9 (E_ACTIVE.ext O0.2)
      obtain ⟨v11, _, ⟨T11, L11, k11, n11⟩, -, X11, ⟨Lc11, hQ11, l11, y11, z11⟩, st11⟩ := X9.virtualBack hx (y := (⟨"com/example/zapis/zapis/PrescriptionStatus", "movesTo", "(Lcom/example/zapis/zapis/PrescriptionStatus;)Z"⟩ : MethodName)) (z := (⟨"com/example/zapis/zapis/PrescriptionStatus", "movesTo", "(Lcom/example/zapis/zapis/PrescriptionStatus;)Z"⟩ : MethodName)) hown (mvT hZ (hw _ (List.mem_of_getElem? (i := 9) rfl))) (mvT hZ (hw _ (List.mem_of_getElem? (i := 10) rfl))) (notFace_of_selects (args := #[]) (mvT hZ (hw _ (List.mem_of_getElem? (i := 12) rfl)))) (mvT hZ (hw _ (List.mem_of_getElem? (i := 12) rfl))) (mvT hZ (hw _ (List.mem_of_getElem? (i := 11) rfl))) (by decide) (backOf (W := 0) (rm2 l Z a0 hw [] s0 s1 (0 : Int32) s0 s1 s2 s3 h0 n0 Z0 O0 S_ACTIVE S_ON_HOLD S_CANCELLED S_COMPLETED F_ACTIVE_ordinal E_ACTIVE (Or.inl rfl)) hZ (hw _ (List.mem_of_getElem? (i := 13) rfl)) (hw _ (List.mem_of_getElem? (i := 5) rfl)) (by decide) (by decide)) qa11 qc11 (g := (mkF m 41 #[.val (.int p1), .val (.int p2), .val (.int (p1 &&& (3 : Int32))), .val (.int (p2 &&& (3 : Int32))), .val (.ref s0), .val (.ref s1), .val (.int (1 : Int32))] [(.ref s1), (.ref s0)])) rfl (by rw [hml]; rfl) (Steps.refl _) (argsL := [(.ref s1)]) (rest := []) (lenOf pd__Lcom_example_zapis_zapis_PrescriptionStatus__Z rfl) rfl (by show 2 * 0 + _ ≤ _; exact Nat.le_of_eq rfl) (hb hby at_41) (fun _ _ => ⟨rfl, e9, (by decide : 0 + 0 ≤ _), (by decide : 0 + 0 ≤ _)⟩)
      dsimp only [Pt.U, Pt.locs, Pt.cells, Pt.slots] at X11 l11 y11 z11 st11 hQ11
      subst l11 y11 z11
      obtain ⟨hv11, M12, e11⟩ := hQ11
      obtain rfl : v11 = some (.int (1 : Int32)) := by rw [hv11]; rw [own_moves, if_pos rfl, if_neg (fun q => n10 (Value.ref.inj q))]
      have N12 := Fr.app N10 M12
      refine own_to (S' := T11.setTop (mkF m 44 #[.val (.int p1), .val (.int p2), .val (.int (p1 &&& (3 : Int32))), .val (.int (p2 &&& (3 : Int32))), .val (.ref s0), .val (.ref s1), .val (.int (1 : Int32))] [(.int (1 : Int32))])) st11 ?_
      refine own_go (S' := T11.setTop (mkF m 46 #[.val (.int p1), .val (.int p2), .val (.int (p1 &&& (3 : Int32))), .val (.int (p2 &&& (3 : Int32))), .val (.ref s0), .val (.ref s1), .val (.int (1 : Int32))] [(.int (1 : Int32)), (.int (1 : Int32))])) (fun tg kk => XS.iload X11.here hx rfl (hb hby at_44) rfl kk) ?_
      refine own_go (S' := T11.setTop (mkF m 49 #[.val (.int p1), .val (.int p2), .val (.int (p1 &&& (3 : Int32))), .val (.int (p2 &&& (3 : Int32))), .val (.ref s0), .val (.ref s1), .val (.int (1 : Int32))] [])) (fun tg kk => XS.icmpNo X11.here hx rfl (hb hby at_46) rfl (XT.ii_ne_f (by decide)) kk) ?_
      refine own_go (S' := T11.setTop (mkF m 50 #[.val (.int p1), .val (.int p2), .val (.int (p1 &&& (3 : Int32))), .val (.int (p2 &&& (3 : Int32))), .val (.ref s0), .val (.ref s1), .val (.int (1 : Int32))] [(.int (1 : Int32))])) (fun tg kk => XT.iconstV X11.here hx rfl (1 : Int32) (hb hby at_49) (by decide) kk) ?_
      refine own_go (S' := T11.setTop (mkF m 54 #[.val (.int p1), .val (.int p2), .val (.int (p1 &&& (3 : Int32))), .val (.int (p2 &&& (3 : Int32))), .val (.ref s0), .val (.ref s1), .val (.int (1 : Int32))] [(.int (1 : Int32))])) (fun tg kk => XS.goto X11.here hx rfl (pc0 := 50) (pc' := 54) rfl (hb hby at_50) (by decide) (by decide) kk) ?_
      obtain ⟨fs, hr, hrun, hended, hW, hsame⟩ := X11.leave (v := some (.int (1 : Int32))) (fun h => by rw [Bd.returns] at h; cases h)
      refine ⟨_, _, retN X11 hx (t := .boolean) Bd.returns (by simp) (hb hby at_54) hr, hrun, hended, _, _, rfl, ?_, ⟨_, rfl⟩, hW, hsame.mono (by decide) (by decide)⟩
      show Q0 Z p1 p2 s0 s1 s2 s3 h0 n0 (some (.int (1 : Int32))) T11.heap _
      rw [e11]
      exact ⟨rfl, N12⟩
    · refine own_go (S' := T2.setTop (mkF m 15 #[.val (.int p1), .val (.int p2), .val (.int (p1 &&& (3 : Int32))), .val (.int (p2 &&& (3 : Int32))), .val (.ref s0), .unset, .unset] [(.int (p2 &&& (3 : Int32)))])) (fun tg kk => XS.iloadN X2.here hx rfl (hb hby at_14) rfl kk) ?_
      obtain ⟨v13, _, ⟨T13, L13, k13, n13⟩, -, X13, ⟨Lc13, hQ13, l13, y13, z13⟩, st13⟩ := Jvm.LawKit.callS X2 hx (y := (⟨"com/example/zapis/zapis/PrescriptionStatusMovesToPinLaw", "pick", "(I)Lcom/example/zapis/zapis/PrescriptionStatus;"⟩ : MethodName)) hown (mvT hZ (hw _ (List.mem_of_getElem? (i := 0) rfl))) (mvT hZ (hw _ (List.mem_of_getElem? (i := 1) rfl))) (mvT hZ (hw _ (List.mem_of_getElem? (i := 2) rfl))) (mvT hZ (hw _ (List.mem_of_getElem? (i := 3) rfl))) (by decide) (backOf (W := 0) (rm1 l Z a0 hw [] (p2 &&& (3 : Int32)) s0 s1 s2 s3 h0 n0 Z0 O0 S_ACTIVE S_ON_HOLD S_CANCELLED S_COMPLETED) hZ (hw _ (List.mem_of_getElem? (i := 3) rfl)) (hw _ (List.mem_of_getElem? (i := 2) rfl)) (by decide) (by decide)) (g := (mkF m 15 #[.val (.int p1), .val (.int p2), .val (.int (p1 &&& (3 : Int32))), .val (.int (p2 &&& (3 : Int32))), .val (.ref s0), .unset, .unset] [(.int (p2 &&& (3 : Int32)))])) rfl (by rw [hml]; rfl) (argsL := [(.int (p2 &&& (3 : Int32)))]) (rest := []) (lenOf pd__I_Lcom_example_zapis_zapis_PrescriptionStatus_ rfl) rfl (by show 2 * 0 + _ ≤ _; exact Nat.le_of_eq rfl) (hb hby at_15) (fun _ _ => ⟨rfl, e2, (by decide : 0 + 0 ≤ _), (by decide : 0 + 0 ≤ _)⟩)
      dsimp only [Pt.U, Pt.locs, Pt.cells, Pt.slots] at X13 l13 y13 z13 st13 hQ13
      subst l13 y13 z13
      obtain ⟨hv13, M14, e13⟩ := hQ13
      obtain rfl : v13 = some (.ref s2) := by rw [hv13]; rw [own_pick, u4, if_neg (by decide), if_neg (by decide), if_pos rfl]
      have N14 := Fr.app N3 M14
      refine own_go (S' := T13.setTop (mkF m 18 #[.val (.int p1), .val (.int p2), .val (.int (p1 &&& (3 : Int32))), .val (.int (p2 &&& (3 : Int32))), .val (.ref s0), .unset, .unset] [(.ref s2)])) st13 ?_
      refine own_go (S' := T13.setTop (mkF m 20 #[.val (.int p1), .val (.int p2), .val (.int (p1 &&& (3 : Int32))), .val (.int (p2 &&& (3 : Int32))), .val (.ref s0), .val (.ref s2), .unset] [])) (fun tg kk => XS.astore X13.here hx rfl (hb hby at_18) rfl rfl (l' := #[.val (.int p1), .val (.int p2), .val (.int (p1 &&& (3 : Int32))), .val (.int (p2 &&& (3 : Int32))), .val (.ref s0), .val (.ref s2), .unset]) rfl kk) ?_
      refine own_go (S' := T13.setTop (mkF m 21 #[.val (.int p1), .val (.int p2), .val (.int (p1 &&& (3 : Int32))), .val (.int (p2 &&& (3 : Int32))), .val (.ref s0), .val (.ref s2), .unset] [(.int (p1 &&& (3 : Int32)))])) (fun tg kk => XS.iloadN X13.here hx rfl (hb hby at_20) rfl kk) ?_
      refine own_go (S' := T13.setTop (mkF m 22 #[.val (.int p1), .val (.int p2), .val (.int (p1 &&& (3 : Int32))), .val (.int (p2 &&& (3 : Int32))), .val (.ref s0), .val (.ref s2), .unset] [(.int (2 : Int32)), (.int (p1 &&& (3 : Int32)))])) (fun tg kk => XT.iconstV X13.here hx rfl (2 : Int32) (hb hby at_21) (by decide) kk) ?_
      refine own_go (S' := T13.setTop (mkF m 25 #[.val (.int p1), .val (.int p2), .val (.int (p1 &&& (3 : Int32))), .val (.int (p2 &&& (3 : Int32))), .val (.ref s0), .val (.ref s2), .unset] [])) (fun tg kk => XS.icmpNo X13.here hx rfl (hb hby at_22) rfl (XT.ii_ge_f (by rw [u1]; decide)) kk) ?_
      refine own_go (S' := T13.setTop (mkF m 26 #[.val (.int p1), .val (.int p2), .val (.int (p1 &&& (3 : Int32))), .val (.int (p2 &&& (3 : Int32))), .val (.ref s0), .val (.ref s2), .unset] [(.int (p2 &&& (3 : Int32)))])) (fun tg kk => XS.iloadN X13.here hx rfl (hb hby at_25) rfl kk) ?_
      refine own_go (S' := T13.setTop (mkF m 27 #[.val (.int p1), .val (.int p2), .val (.int (p1 &&& (3 : Int32))), .val (.int (p2 &&& (3 : Int32))), .val (.ref s0), .val (.ref s2), .unset] [(.int (p1 &&& (3 : Int32))), (.int (p2 &&& (3 : Int32)))])) (fun tg kk => XS.iloadN X13.here hx rfl (hb hby at_26) rfl kk) ?_
      refine own_go (S' := T13.setTop (mkF m 30 #[.val (.int p1), .val (.int p2), .val (.int (p1 &&& (3 : Int32))), .val (.int (p2 &&& (3 : Int32))), .val (.ref s0), .val (.ref s2), .unset] [])) (fun tg kk => XS.icmpNo X13.here hx rfl (hb hby at_27) rfl (XT.ii_le_f (by rw [u1, u4]; decide)) kk) ?_
      refine own_go (S' := T13.setTop (mkF m 31 #[.val (.int p1), .val (.int p2), .val (.int (p1 &&& (3 : Int32))), .val (.int (p2 &&& (3 : Int32))), .val (.ref s0), .val (.ref s2), .unset] [(.int (1 : Int32))])) (fun tg kk => XT.iconstV X13.here hx rfl (1 : Int32) (hb hby at_30) (by decide) kk) ?_
      refine own_go (S' := T13.setTop (mkF m 35 #[.val (.int p1), .val (.int p2), .val (.int (p1 &&& (3 : Int32))), .val (.int (p2 &&& (3 : Int32))), .val (.ref s0), .val (.ref s2), .unset] [(.int (1 : Int32))])) (fun tg kk => XS.goto X13.here hx rfl (pc0 := 31) (pc' := 35) rfl (hb hby at_31) (by decide) (by decide) kk) ?_
      refine own_go (S' := T13.setTop (mkF m 37 #[.val (.int p1), .val (.int p2), .val (.int (p1 &&& (3 : Int32))), .val (.int (p2 &&& (3 : Int32))), .val (.ref s0), .val (.ref s2), .val (.int (1 : Int32))] [])) (fun tg kk => XS.istore X13.here hx rfl (hb hby at_35) rfl (l' := #[.val (.int p1), .val (.int p2), .val (.int (p1 &&& (3 : Int32))), .val (.int (p2 &&& (3 : Int32))), .val (.ref s0), .val (.ref s2), .val (.int (1 : Int32))]) rfl kk) ?_
      refine own_go (S' := T13.setTop (mkF m 39 #[.val (.int p1), .val (.int p2), .val (.int (p1 &&& (3 : Int32))), .val (.int (p2 &&& (3 : Int32))), .val (.ref s0), .val (.ref s2), .val (.int (1 : Int32))] [(.ref s0)])) (fun tg kk => XS.aload X13.here hx rfl (hb hby at_37) rfl rfl kk) ?_
      refine own_go (S' := T13.setTop (mkF m 41 #[.val (.int p1), .val (.int p2), .val (.int (p1 &&& (3 : Int32))), .val (.int (p2 &&& (3 : Int32))), .val (.ref s0), .val (.ref s2), .val (.int (1 : Int32))] [(.ref s2), (.ref s0)])) (fun tg kk => XS.aload X13.here hx rfl (hb hby at_39) rfl rfl kk) ?_
      obtain ⟨cq15, kq15, qa15, qb15, qc15⟩ := isOf hZ e13 (E_ACTIVE.ext O0.2)
      obtain ⟨v15, _, ⟨T15, L15, k15, n15⟩, -, X15, ⟨Lc15, hQ15, l15, y15, z15⟩, st15⟩ := X13.virtualBack hx (y := (⟨"com/example/zapis/zapis/PrescriptionStatus", "movesTo", "(Lcom/example/zapis/zapis/PrescriptionStatus;)Z"⟩ : MethodName)) (z := (⟨"com/example/zapis/zapis/PrescriptionStatus", "movesTo", "(Lcom/example/zapis/zapis/PrescriptionStatus;)Z"⟩ : MethodName)) hown (mvT hZ (hw _ (List.mem_of_getElem? (i := 9) rfl))) (mvT hZ (hw _ (List.mem_of_getElem? (i := 10) rfl))) (notFace_of_selects (args := #[]) (mvT hZ (hw _ (List.mem_of_getElem? (i := 12) rfl)))) (mvT hZ (hw _ (List.mem_of_getElem? (i := 12) rfl))) (mvT hZ (hw _ (List.mem_of_getElem? (i := 11) rfl))) (by decide) (backOf (W := 0) (rm2 l Z a0 hw [] s0 s2 (0 : Int32) s0 s1 s2 s3 h0 n0 Z0 O0 S_ACTIVE S_ON_HOLD S_CANCELLED S_COMPLETED F_ACTIVE_ordinal E_ACTIVE (Or.inl rfl)) hZ (hw _ (List.mem_of_getElem? (i := 13) rfl)) (hw _ (List.mem_of_getElem? (i := 5) rfl)) (by decide) (by decide)) qa15 qc15 (g := (mkF m 41 #[.val (.int p1), .val (.int p2), .val (.int (p1 &&& (3 : Int32))), .val (.int (p2 &&& (3 : Int32))), .val (.ref s0), .val (.ref s2), .val (.int (1 : Int32))] [(.ref s2), (.ref s0)])) rfl (by rw [hml]; rfl) (Steps.refl _) (argsL := [(.ref s2)]) (rest := []) (lenOf pd__Lcom_example_zapis_zapis_PrescriptionStatus__Z rfl) rfl (by show 2 * 0 + _ ≤ _; exact Nat.le_of_eq rfl) (hb hby at_41) (fun _ _ => ⟨rfl, e13, (by decide : 0 + 0 ≤ _), (by decide : 0 + 0 ≤ _)⟩)
      dsimp only [Pt.U, Pt.locs, Pt.cells, Pt.slots] at X15 l15 y15 z15 st15 hQ15
      subst l15 y15 z15
      obtain ⟨hv15, M16, e15⟩ := hQ15
      obtain rfl : v15 = some (.int (1 : Int32)) := by rw [hv15]; rw [own_moves, if_pos rfl, if_neg (fun q => n20 (Value.ref.inj q))]
      have N16 := Fr.app N14 M16
      refine own_to (S' := T15.setTop (mkF m 44 #[.val (.int p1), .val (.int p2), .val (.int (p1 &&& (3 : Int32))), .val (.int (p2 &&& (3 : Int32))), .val (.ref s0), .val (.ref s2), .val (.int (1 : Int32))] [(.int (1 : Int32))])) st15 ?_
      refine own_go (S' := T15.setTop (mkF m 46 #[.val (.int p1), .val (.int p2), .val (.int (p1 &&& (3 : Int32))), .val (.int (p2 &&& (3 : Int32))), .val (.ref s0), .val (.ref s2), .val (.int (1 : Int32))] [(.int (1 : Int32)), (.int (1 : Int32))])) (fun tg kk => XS.iload X15.here hx rfl (hb hby at_44) rfl kk) ?_
      refine own_go (S' := T15.setTop (mkF m 49 #[.val (.int p1), .val (.int p2), .val (.int (p1 &&& (3 : Int32))), .val (.int (p2 &&& (3 : Int32))), .val (.ref s0), .val (.ref s2), .val (.int (1 : Int32))] [])) (fun tg kk => XS.icmpNo X15.here hx rfl (hb hby at_46) rfl (XT.ii_ne_f (by decide)) kk) ?_
      refine own_go (S' := T15.setTop (mkF m 50 #[.val (.int p1), .val (.int p2), .val (.int (p1 &&& (3 : Int32))), .val (.int (p2 &&& (3 : Int32))), .val (.ref s0), .val (.ref s2), .val (.int (1 : Int32))] [(.int (1 : Int32))])) (fun tg kk => XT.iconstV X15.here hx rfl (1 : Int32) (hb hby at_49) (by decide) kk) ?_
      refine own_go (S' := T15.setTop (mkF m 54 #[.val (.int p1), .val (.int p2), .val (.int (p1 &&& (3 : Int32))), .val (.int (p2 &&& (3 : Int32))), .val (.ref s0), .val (.ref s2), .val (.int (1 : Int32))] [(.int (1 : Int32))])) (fun tg kk => XS.goto X15.here hx rfl (pc0 := 50) (pc' := 54) rfl (hb hby at_50) (by decide) (by decide) kk) ?_
      obtain ⟨fs, hr, hrun, hended, hW, hsame⟩ := X15.leave (v := some (.int (1 : Int32))) (fun h => by rw [Bd.returns] at h; cases h)
      refine ⟨_, _, retN X15 hx (t := .boolean) Bd.returns (by simp) (hb hby at_54) hr, hrun, hended, _, _, rfl, ?_, ⟨_, rfl⟩, hW, hsame.mono (by decide) (by decide)⟩
      show Q0 Z p1 p2 s0 s1 s2 s3 h0 n0 (some (.int (1 : Int32))) T15.heap _
      rw [e15]
      exact ⟨rfl, N16⟩
    · refine own_go (S' := T2.setTop (mkF m 15 #[.val (.int p1), .val (.int p2), .val (.int (p1 &&& (3 : Int32))), .val (.int (p2 &&& (3 : Int32))), .val (.ref s0), .unset, .unset] [(.int (p2 &&& (3 : Int32)))])) (fun tg kk => XS.iloadN X2.here hx rfl (hb hby at_14) rfl kk) ?_
      obtain ⟨v17, _, ⟨T17, L17, k17, n17⟩, -, X17, ⟨Lc17, hQ17, l17, y17, z17⟩, st17⟩ := Jvm.LawKit.callS X2 hx (y := (⟨"com/example/zapis/zapis/PrescriptionStatusMovesToPinLaw", "pick", "(I)Lcom/example/zapis/zapis/PrescriptionStatus;"⟩ : MethodName)) hown (mvT hZ (hw _ (List.mem_of_getElem? (i := 0) rfl))) (mvT hZ (hw _ (List.mem_of_getElem? (i := 1) rfl))) (mvT hZ (hw _ (List.mem_of_getElem? (i := 2) rfl))) (mvT hZ (hw _ (List.mem_of_getElem? (i := 3) rfl))) (by decide) (backOf (W := 0) (rm1 l Z a0 hw [] (p2 &&& (3 : Int32)) s0 s1 s2 s3 h0 n0 Z0 O0 S_ACTIVE S_ON_HOLD S_CANCELLED S_COMPLETED) hZ (hw _ (List.mem_of_getElem? (i := 3) rfl)) (hw _ (List.mem_of_getElem? (i := 2) rfl)) (by decide) (by decide)) (g := (mkF m 15 #[.val (.int p1), .val (.int p2), .val (.int (p1 &&& (3 : Int32))), .val (.int (p2 &&& (3 : Int32))), .val (.ref s0), .unset, .unset] [(.int (p2 &&& (3 : Int32)))])) rfl (by rw [hml]; rfl) (argsL := [(.int (p2 &&& (3 : Int32)))]) (rest := []) (lenOf pd__I_Lcom_example_zapis_zapis_PrescriptionStatus_ rfl) rfl (by show 2 * 0 + _ ≤ _; exact Nat.le_of_eq rfl) (hb hby at_15) (fun _ _ => ⟨rfl, e2, (by decide : 0 + 0 ≤ _), (by decide : 0 + 0 ≤ _)⟩)
      dsimp only [Pt.U, Pt.locs, Pt.cells, Pt.slots] at X17 l17 y17 z17 st17 hQ17
      subst l17 y17 z17
      obtain ⟨hv17, M18, e17⟩ := hQ17
      obtain rfl : v17 = some (.ref s3) := by rw [hv17]; rw [own_pick, u4, if_neg (by decide), if_neg (by decide), if_neg (by decide)]
      have N18 := Fr.app N3 M18
      refine own_go (S' := T17.setTop (mkF m 18 #[.val (.int p1), .val (.int p2), .val (.int (p1 &&& (3 : Int32))), .val (.int (p2 &&& (3 : Int32))), .val (.ref s0), .unset, .unset] [(.ref s3)])) st17 ?_
      refine own_go (S' := T17.setTop (mkF m 20 #[.val (.int p1), .val (.int p2), .val (.int (p1 &&& (3 : Int32))), .val (.int (p2 &&& (3 : Int32))), .val (.ref s0), .val (.ref s3), .unset] [])) (fun tg kk => XS.astore X17.here hx rfl (hb hby at_18) rfl rfl (l' := #[.val (.int p1), .val (.int p2), .val (.int (p1 &&& (3 : Int32))), .val (.int (p2 &&& (3 : Int32))), .val (.ref s0), .val (.ref s3), .unset]) rfl kk) ?_
      refine own_go (S' := T17.setTop (mkF m 21 #[.val (.int p1), .val (.int p2), .val (.int (p1 &&& (3 : Int32))), .val (.int (p2 &&& (3 : Int32))), .val (.ref s0), .val (.ref s3), .unset] [(.int (p1 &&& (3 : Int32)))])) (fun tg kk => XS.iloadN X17.here hx rfl (hb hby at_20) rfl kk) ?_
      refine own_go (S' := T17.setTop (mkF m 22 #[.val (.int p1), .val (.int p2), .val (.int (p1 &&& (3 : Int32))), .val (.int (p2 &&& (3 : Int32))), .val (.ref s0), .val (.ref s3), .unset] [(.int (2 : Int32)), (.int (p1 &&& (3 : Int32)))])) (fun tg kk => XT.iconstV X17.here hx rfl (2 : Int32) (hb hby at_21) (by decide) kk) ?_
      refine own_go (S' := T17.setTop (mkF m 25 #[.val (.int p1), .val (.int p2), .val (.int (p1 &&& (3 : Int32))), .val (.int (p2 &&& (3 : Int32))), .val (.ref s0), .val (.ref s3), .unset] [])) (fun tg kk => XS.icmpNo X17.here hx rfl (hb hby at_22) rfl (XT.ii_ge_f (by rw [u1]; decide)) kk) ?_
      refine own_go (S' := T17.setTop (mkF m 26 #[.val (.int p1), .val (.int p2), .val (.int (p1 &&& (3 : Int32))), .val (.int (p2 &&& (3 : Int32))), .val (.ref s0), .val (.ref s3), .unset] [(.int (p2 &&& (3 : Int32)))])) (fun tg kk => XS.iloadN X17.here hx rfl (hb hby at_25) rfl kk) ?_
      refine own_go (S' := T17.setTop (mkF m 27 #[.val (.int p1), .val (.int p2), .val (.int (p1 &&& (3 : Int32))), .val (.int (p2 &&& (3 : Int32))), .val (.ref s0), .val (.ref s3), .unset] [(.int (p1 &&& (3 : Int32))), (.int (p2 &&& (3 : Int32)))])) (fun tg kk => XS.iloadN X17.here hx rfl (hb hby at_26) rfl kk) ?_
      refine own_go (S' := T17.setTop (mkF m 30 #[.val (.int p1), .val (.int p2), .val (.int (p1 &&& (3 : Int32))), .val (.int (p2 &&& (3 : Int32))), .val (.ref s0), .val (.ref s3), .unset] [])) (fun tg kk => XS.icmpNo X17.here hx rfl (hb hby at_27) rfl (XT.ii_le_f (by rw [u1, u4]; decide)) kk) ?_
      refine own_go (S' := T17.setTop (mkF m 31 #[.val (.int p1), .val (.int p2), .val (.int (p1 &&& (3 : Int32))), .val (.int (p2 &&& (3 : Int32))), .val (.ref s0), .val (.ref s3), .unset] [(.int (1 : Int32))])) (fun tg kk => XT.iconstV X17.here hx rfl (1 : Int32) (hb hby at_30) (by decide) kk) ?_
      refine own_go (S' := T17.setTop (mkF m 35 #[.val (.int p1), .val (.int p2), .val (.int (p1 &&& (3 : Int32))), .val (.int (p2 &&& (3 : Int32))), .val (.ref s0), .val (.ref s3), .unset] [(.int (1 : Int32))])) (fun tg kk => XS.goto X17.here hx rfl (pc0 := 31) (pc' := 35) rfl (hb hby at_31) (by decide) (by decide) kk) ?_
      refine own_go (S' := T17.setTop (mkF m 37 #[.val (.int p1), .val (.int p2), .val (.int (p1 &&& (3 : Int32))), .val (.int (p2 &&& (3 : Int32))), .val (.ref s0), .val (.ref s3), .val (.int (1 : Int32))] [])) (fun tg kk => XS.istore X17.here hx rfl (hb hby at_35) rfl (l' := #[.val (.int p1), .val (.int p2), .val (.int (p1 &&& (3 : Int32))), .val (.int (p2 &&& (3 : Int32))), .val (.ref s0), .val (.ref s3), .val (.int (1 : Int32))]) rfl kk) ?_
      refine own_go (S' := T17.setTop (mkF m 39 #[.val (.int p1), .val (.int p2), .val (.int (p1 &&& (3 : Int32))), .val (.int (p2 &&& (3 : Int32))), .val (.ref s0), .val (.ref s3), .val (.int (1 : Int32))] [(.ref s0)])) (fun tg kk => XS.aload X17.here hx rfl (hb hby at_37) rfl rfl kk) ?_
      refine own_go (S' := T17.setTop (mkF m 41 #[.val (.int p1), .val (.int p2), .val (.int (p1 &&& (3 : Int32))), .val (.int (p2 &&& (3 : Int32))), .val (.ref s0), .val (.ref s3), .val (.int (1 : Int32))] [(.ref s3), (.ref s0)])) (fun tg kk => XS.aload X17.here hx rfl (hb hby at_39) rfl rfl kk) ?_
      obtain ⟨cq19, kq19, qa19, qb19, qc19⟩ := isOf hZ e17 (E_ACTIVE.ext O0.2)
      obtain ⟨v19, _, ⟨T19, L19, k19, n19⟩, -, X19, ⟨Lc19, hQ19, l19, y19, z19⟩, st19⟩ := X17.virtualBack hx (y := (⟨"com/example/zapis/zapis/PrescriptionStatus", "movesTo", "(Lcom/example/zapis/zapis/PrescriptionStatus;)Z"⟩ : MethodName)) (z := (⟨"com/example/zapis/zapis/PrescriptionStatus", "movesTo", "(Lcom/example/zapis/zapis/PrescriptionStatus;)Z"⟩ : MethodName)) hown (mvT hZ (hw _ (List.mem_of_getElem? (i := 9) rfl))) (mvT hZ (hw _ (List.mem_of_getElem? (i := 10) rfl))) (notFace_of_selects (args := #[]) (mvT hZ (hw _ (List.mem_of_getElem? (i := 12) rfl)))) (mvT hZ (hw _ (List.mem_of_getElem? (i := 12) rfl))) (mvT hZ (hw _ (List.mem_of_getElem? (i := 11) rfl))) (by decide) (backOf (W := 0) (rm2 l Z a0 hw [] s0 s3 (0 : Int32) s0 s1 s2 s3 h0 n0 Z0 O0 S_ACTIVE S_ON_HOLD S_CANCELLED S_COMPLETED F_ACTIVE_ordinal E_ACTIVE (Or.inl rfl)) hZ (hw _ (List.mem_of_getElem? (i := 13) rfl)) (hw _ (List.mem_of_getElem? (i := 5) rfl)) (by decide) (by decide)) qa19 qc19 (g := (mkF m 41 #[.val (.int p1), .val (.int p2), .val (.int (p1 &&& (3 : Int32))), .val (.int (p2 &&& (3 : Int32))), .val (.ref s0), .val (.ref s3), .val (.int (1 : Int32))] [(.ref s3), (.ref s0)])) rfl (by rw [hml]; rfl) (Steps.refl _) (argsL := [(.ref s3)]) (rest := []) (lenOf pd__Lcom_example_zapis_zapis_PrescriptionStatus__Z rfl) rfl (by show 2 * 0 + _ ≤ _; exact Nat.le_of_eq rfl) (hb hby at_41) (fun _ _ => ⟨rfl, e17, (by decide : 0 + 0 ≤ _), (by decide : 0 + 0 ≤ _)⟩)
      dsimp only [Pt.U, Pt.locs, Pt.cells, Pt.slots] at X19 l19 y19 z19 st19 hQ19
      subst l19 y19 z19
      obtain ⟨hv19, M20, e19⟩ := hQ19
      obtain rfl : v19 = some (.int (1 : Int32)) := by rw [hv19]; rw [own_moves, if_pos rfl, if_neg (fun q => n30 (Value.ref.inj q))]
      have N20 := Fr.app N18 M20
      refine own_to (S' := T19.setTop (mkF m 44 #[.val (.int p1), .val (.int p2), .val (.int (p1 &&& (3 : Int32))), .val (.int (p2 &&& (3 : Int32))), .val (.ref s0), .val (.ref s3), .val (.int (1 : Int32))] [(.int (1 : Int32))])) st19 ?_
      refine own_go (S' := T19.setTop (mkF m 46 #[.val (.int p1), .val (.int p2), .val (.int (p1 &&& (3 : Int32))), .val (.int (p2 &&& (3 : Int32))), .val (.ref s0), .val (.ref s3), .val (.int (1 : Int32))] [(.int (1 : Int32)), (.int (1 : Int32))])) (fun tg kk => XS.iload X19.here hx rfl (hb hby at_44) rfl kk) ?_
      refine own_go (S' := T19.setTop (mkF m 49 #[.val (.int p1), .val (.int p2), .val (.int (p1 &&& (3 : Int32))), .val (.int (p2 &&& (3 : Int32))), .val (.ref s0), .val (.ref s3), .val (.int (1 : Int32))] [])) (fun tg kk => XS.icmpNo X19.here hx rfl (hb hby at_46) rfl (XT.ii_ne_f (by decide)) kk) ?_
      refine own_go (S' := T19.setTop (mkF m 50 #[.val (.int p1), .val (.int p2), .val (.int (p1 &&& (3 : Int32))), .val (.int (p2 &&& (3 : Int32))), .val (.ref s0), .val (.ref s3), .val (.int (1 : Int32))] [(.int (1 : Int32))])) (fun tg kk => XT.iconstV X19.here hx rfl (1 : Int32) (hb hby at_49) (by decide) kk) ?_
      refine own_go (S' := T19.setTop (mkF m 54 #[.val (.int p1), .val (.int p2), .val (.int (p1 &&& (3 : Int32))), .val (.int (p2 &&& (3 : Int32))), .val (.ref s0), .val (.ref s3), .val (.int (1 : Int32))] [(.int (1 : Int32))])) (fun tg kk => XS.goto X19.here hx rfl (pc0 := 50) (pc' := 54) rfl (hb hby at_50) (by decide) (by decide) kk) ?_
      obtain ⟨fs, hr, hrun, hended, hW, hsame⟩ := X19.leave (v := some (.int (1 : Int32))) (fun h => by rw [Bd.returns] at h; cases h)
      refine ⟨_, _, retN X19 hx (t := .boolean) Bd.returns (by simp) (hb hby at_54) hr, hrun, hended, _, _, rfl, ?_, ⟨_, rfl⟩, hW, hsame.mono (by decide) (by decide)⟩
      show Q0 Z p1 p2 s0 s1 s2 s3 h0 n0 (some (.int (1 : Int32))) T19.heap _
      rw [e19]
      exact ⟨rfl, N20⟩
  · refine own_go (S' := s₁.setTop (mkF m 9 #[.val (.int p1), .val (.int p2), .val (.int (p1 &&& (3 : Int32))), .val (.int (p2 &&& (3 : Int32))), .unset, .unset, .unset] [(.int (p1 &&& (3 : Int32)))])) (fun tg kk => XS.iloadN X0.here hx rfl (hb hby at_8) rfl kk) ?_
    obtain ⟨v21, _, ⟨T21, L21, k21, n21⟩, -, X21, ⟨Lc21, hQ21, l21, y21, z21⟩, st21⟩ := Jvm.LawKit.callS X0 hx (y := (⟨"com/example/zapis/zapis/PrescriptionStatusMovesToPinLaw", "pick", "(I)Lcom/example/zapis/zapis/PrescriptionStatus;"⟩ : MethodName)) hown (mvT hZ (hw _ (List.mem_of_getElem? (i := 0) rfl))) (mvT hZ (hw _ (List.mem_of_getElem? (i := 1) rfl))) (mvT hZ (hw _ (List.mem_of_getElem? (i := 2) rfl))) (mvT hZ (hw _ (List.mem_of_getElem? (i := 3) rfl))) (by decide) (backOf (W := 0) (rm1 l Z a0 hw [] (p1 &&& (3 : Int32)) s0 s1 s2 s3 h0 n0 Z0 O0 S_ACTIVE S_ON_HOLD S_CANCELLED S_COMPLETED) hZ (hw _ (List.mem_of_getElem? (i := 3) rfl)) (hw _ (List.mem_of_getElem? (i := 2) rfl)) (by decide) (by decide)) (g := (mkF m 9 #[.val (.int p1), .val (.int p2), .val (.int (p1 &&& (3 : Int32))), .val (.int (p2 &&& (3 : Int32))), .unset, .unset, .unset] [(.int (p1 &&& (3 : Int32)))])) rfl (by rw [hml]; rfl) (argsL := [(.int (p1 &&& (3 : Int32)))]) (rest := []) (lenOf pd__I_Lcom_example_zapis_zapis_PrescriptionStatus_ rfl) rfl (by show 2 * 0 + _ ≤ _; exact Nat.le_of_eq rfl) (hb hby at_9) (fun _ _ => ⟨rfl, e0, (by decide : 0 + 0 ≤ _), (by decide : 0 + 0 ≤ _)⟩)
    dsimp only [Pt.U, Pt.locs, Pt.cells, Pt.slots] at X21 l21 y21 z21 st21 hQ21
    subst l21 y21 z21
    obtain ⟨hv21, M22, e21⟩ := hQ21
    obtain rfl : v21 = some (.ref s1) := by rw [hv21]; rw [own_pick, u1, if_neg (by decide), if_pos rfl]
    have N22 := Fr.app N0 M22
    refine own_go (S' := T21.setTop (mkF m 12 #[.val (.int p1), .val (.int p2), .val (.int (p1 &&& (3 : Int32))), .val (.int (p2 &&& (3 : Int32))), .unset, .unset, .unset] [(.ref s1)])) st21 ?_
    refine own_go (S' := T21.setTop (mkF m 14 #[.val (.int p1), .val (.int p2), .val (.int (p1 &&& (3 : Int32))), .val (.int (p2 &&& (3 : Int32))), .val (.ref s1), .unset, .unset] [])) (fun tg kk => XS.astore X21.here hx rfl (hb hby at_12) rfl rfl (l' := #[.val (.int p1), .val (.int p2), .val (.int (p1 &&& (3 : Int32))), .val (.int (p2 &&& (3 : Int32))), .val (.ref s1), .unset, .unset]) rfl kk) ?_
    rcases own_le3 p2 with u23 | u23 | u23 | u23
    · refine own_go (S' := T21.setTop (mkF m 15 #[.val (.int p1), .val (.int p2), .val (.int (p1 &&& (3 : Int32))), .val (.int (p2 &&& (3 : Int32))), .val (.ref s1), .unset, .unset] [(.int (p2 &&& (3 : Int32)))])) (fun tg kk => XS.iloadN X21.here hx rfl (hb hby at_14) rfl kk) ?_
      obtain ⟨v24, _, ⟨T24, L24, k24, n24⟩, -, X24, ⟨Lc24, hQ24, l24, y24, z24⟩, st24⟩ := Jvm.LawKit.callS X21 hx (y := (⟨"com/example/zapis/zapis/PrescriptionStatusMovesToPinLaw", "pick", "(I)Lcom/example/zapis/zapis/PrescriptionStatus;"⟩ : MethodName)) hown (mvT hZ (hw _ (List.mem_of_getElem? (i := 0) rfl))) (mvT hZ (hw _ (List.mem_of_getElem? (i := 1) rfl))) (mvT hZ (hw _ (List.mem_of_getElem? (i := 2) rfl))) (mvT hZ (hw _ (List.mem_of_getElem? (i := 3) rfl))) (by decide) (backOf (W := 0) (rm1 l Z a0 hw [] (p2 &&& (3 : Int32)) s0 s1 s2 s3 h0 n0 Z0 O0 S_ACTIVE S_ON_HOLD S_CANCELLED S_COMPLETED) hZ (hw _ (List.mem_of_getElem? (i := 3) rfl)) (hw _ (List.mem_of_getElem? (i := 2) rfl)) (by decide) (by decide)) (g := (mkF m 15 #[.val (.int p1), .val (.int p2), .val (.int (p1 &&& (3 : Int32))), .val (.int (p2 &&& (3 : Int32))), .val (.ref s1), .unset, .unset] [(.int (p2 &&& (3 : Int32)))])) rfl (by rw [hml]; rfl) (argsL := [(.int (p2 &&& (3 : Int32)))]) (rest := []) (lenOf pd__I_Lcom_example_zapis_zapis_PrescriptionStatus_ rfl) rfl (by show 2 * 0 + _ ≤ _; exact Nat.le_of_eq rfl) (hb hby at_15) (fun _ _ => ⟨rfl, e21, (by decide : 0 + 0 ≤ _), (by decide : 0 + 0 ≤ _)⟩)
      dsimp only [Pt.U, Pt.locs, Pt.cells, Pt.slots] at X24 l24 y24 z24 st24 hQ24
      subst l24 y24 z24
      obtain ⟨hv24, M25, e24⟩ := hQ24
      obtain rfl : v24 = some (.ref s0) := by rw [hv24]; rw [own_pick, u23, if_pos rfl]
      have N25 := Fr.app N22 M25
      refine own_go (S' := T24.setTop (mkF m 18 #[.val (.int p1), .val (.int p2), .val (.int (p1 &&& (3 : Int32))), .val (.int (p2 &&& (3 : Int32))), .val (.ref s1), .unset, .unset] [(.ref s0)])) st24 ?_
      refine own_go (S' := T24.setTop (mkF m 20 #[.val (.int p1), .val (.int p2), .val (.int (p1 &&& (3 : Int32))), .val (.int (p2 &&& (3 : Int32))), .val (.ref s1), .val (.ref s0), .unset] [])) (fun tg kk => XS.astore X24.here hx rfl (hb hby at_18) rfl rfl (l' := #[.val (.int p1), .val (.int p2), .val (.int (p1 &&& (3 : Int32))), .val (.int (p2 &&& (3 : Int32))), .val (.ref s1), .val (.ref s0), .unset]) rfl kk) ?_
      refine own_go (S' := T24.setTop (mkF m 21 #[.val (.int p1), .val (.int p2), .val (.int (p1 &&& (3 : Int32))), .val (.int (p2 &&& (3 : Int32))), .val (.ref s1), .val (.ref s0), .unset] [(.int (p1 &&& (3 : Int32)))])) (fun tg kk => XS.iloadN X24.here hx rfl (hb hby at_20) rfl kk) ?_
      refine own_go (S' := T24.setTop (mkF m 22 #[.val (.int p1), .val (.int p2), .val (.int (p1 &&& (3 : Int32))), .val (.int (p2 &&& (3 : Int32))), .val (.ref s1), .val (.ref s0), .unset] [(.int (2 : Int32)), (.int (p1 &&& (3 : Int32)))])) (fun tg kk => XT.iconstV X24.here hx rfl (2 : Int32) (hb hby at_21) (by decide) kk) ?_
      refine own_go (S' := T24.setTop (mkF m 25 #[.val (.int p1), .val (.int p2), .val (.int (p1 &&& (3 : Int32))), .val (.int (p2 &&& (3 : Int32))), .val (.ref s1), .val (.ref s0), .unset] [])) (fun tg kk => XS.icmpNo X24.here hx rfl (hb hby at_22) rfl (XT.ii_ge_f (by rw [u1]; decide)) kk) ?_
      refine own_go (S' := T24.setTop (mkF m 26 #[.val (.int p1), .val (.int p2), .val (.int (p1 &&& (3 : Int32))), .val (.int (p2 &&& (3 : Int32))), .val (.ref s1), .val (.ref s0), .unset] [(.int (p2 &&& (3 : Int32)))])) (fun tg kk => XS.iloadN X24.here hx rfl (hb hby at_25) rfl kk) ?_
      refine own_go (S' := T24.setTop (mkF m 27 #[.val (.int p1), .val (.int p2), .val (.int (p1 &&& (3 : Int32))), .val (.int (p2 &&& (3 : Int32))), .val (.ref s1), .val (.ref s0), .unset] [(.int (p1 &&& (3 : Int32))), (.int (p2 &&& (3 : Int32)))])) (fun tg kk => XS.iloadN X24.here hx rfl (hb hby at_26) rfl kk) ?_
      refine own_go (S' := T24.setTop (mkF m 34 #[.val (.int p1), .val (.int p2), .val (.int (p1 &&& (3 : Int32))), .val (.int (p2 &&& (3 : Int32))), .val (.ref s1), .val (.ref s0), .unset] [])) (fun tg kk => XS.icmpYes X24.here hx rfl (pc0 := 27) (pc' := 34) rfl (hb hby at_27) rfl (XT.ii_le_t (by rw [u1, u23]; decide)) (by decide) (by decide) kk) ?_
      refine own_go (S' := T24.setTop (mkF m 35 #[.val (.int p1), .val (.int p2), .val (.int (p1 &&& (3 : Int32))), .val (.int (p2 &&& (3 : Int32))), .val (.ref s1), .val (.ref s0), .unset] [(.int (0 : Int32))])) (fun tg kk => XT.iconstV X24.here hx rfl (0 : Int32) (hb hby at_34) (by decide) kk) ?_
      refine own_go (S' := T24.setTop (mkF m 37 #[.val (.int p1), .val (.int p2), .val (.int (p1 &&& (3 : Int32))), .val (.int (p2 &&& (3 : Int32))), .val (.ref s1), .val (.ref s0), .val (.int (0 : Int32))] [])) (fun tg kk => XS.istore X24.here hx rfl (hb hby at_35) rfl (l' := #[.val (.int p1), .val (.int p2), .val (.int (p1 &&& (3 : Int32))), .val (.int (p2 &&& (3 : Int32))), .val (.ref s1), .val (.ref s0), .val (.int (0 : Int32))]) rfl kk) ?_
      refine own_go (S' := T24.setTop (mkF m 39 #[.val (.int p1), .val (.int p2), .val (.int (p1 &&& (3 : Int32))), .val (.int (p2 &&& (3 : Int32))), .val (.ref s1), .val (.ref s0), .val (.int (0 : Int32))] [(.ref s1)])) (fun tg kk => XS.aload X24.here hx rfl (hb hby at_37) rfl rfl kk) ?_
      refine own_go (S' := T24.setTop (mkF m 41 #[.val (.int p1), .val (.int p2), .val (.int (p1 &&& (3 : Int32))), .val (.int (p2 &&& (3 : Int32))), .val (.ref s1), .val (.ref s0), .val (.int (0 : Int32))] [(.ref s0), (.ref s1)])) (fun tg kk => XS.aload X24.here hx rfl (hb hby at_39) rfl rfl kk) ?_
      obtain ⟨cq26, kq26, qa26, qb26, qc26⟩ := isOf hZ e24 (E_ON_HOLD.ext O0.2)
      obtain ⟨v26, _, ⟨T26, L26, k26, n26⟩, -, X26, ⟨Lc26, hQ26, l26, y26, z26⟩, st26⟩ := X24.virtualBack hx (y := (⟨"com/example/zapis/zapis/PrescriptionStatus", "movesTo", "(Lcom/example/zapis/zapis/PrescriptionStatus;)Z"⟩ : MethodName)) (z := (⟨"com/example/zapis/zapis/PrescriptionStatus", "movesTo", "(Lcom/example/zapis/zapis/PrescriptionStatus;)Z"⟩ : MethodName)) hown (mvT hZ (hw _ (List.mem_of_getElem? (i := 9) rfl))) (mvT hZ (hw _ (List.mem_of_getElem? (i := 10) rfl))) (notFace_of_selects (args := #[]) (mvT hZ (hw _ (List.mem_of_getElem? (i := 12) rfl)))) (mvT hZ (hw _ (List.mem_of_getElem? (i := 12) rfl))) (mvT hZ (hw _ (List.mem_of_getElem? (i := 11) rfl))) (by decide) (backOf (W := 0) (rm2 l Z a0 hw [] s1 s0 (1 : Int32) s0 s1 s2 s3 h0 n0 Z0 O0 S_ACTIVE S_ON_HOLD S_CANCELLED S_COMPLETED F_ON_HOLD_ordinal E_ON_HOLD (Or.inr (Or.inl rfl))) hZ (hw _ (List.mem_of_getElem? (i := 13) rfl)) (hw _ (List.mem_of_getElem? (i := 5) rfl)) (by decide) (by decide)) qa26 qc26 (g := (mkF m 41 #[.val (.int p1), .val (.int p2), .val (.int (p1 &&& (3 : Int32))), .val (.int (p2 &&& (3 : Int32))), .val (.ref s1), .val (.ref s0), .val (.int (0 : Int32))] [(.ref s0), (.ref s1)])) rfl (by rw [hml]; rfl) (Steps.refl _) (argsL := [(.ref s0)]) (rest := []) (lenOf pd__Lcom_example_zapis_zapis_PrescriptionStatus__Z rfl) rfl (by show 2 * 0 + _ ≤ _; exact Nat.le_of_eq rfl) (hb hby at_41) (fun _ _ => ⟨rfl, e24, (by decide : 0 + 0 ≤ _), (by decide : 0 + 0 ≤ _)⟩)
      dsimp only [Pt.U, Pt.locs, Pt.cells, Pt.slots] at X26 l26 y26 z26 st26 hQ26
      subst l26 y26 z26
      obtain ⟨hv26, M27, e26⟩ := hQ26
      obtain rfl : v26 = some (.int (0 : Int32)) := by rw [hv26]; rw [own_moves, if_neg (by decide), if_pos rfl, if_neg (fun q => n02 (Value.ref.inj q)), if_neg (fun q => n03 (Value.ref.inj q))]
      have N27 := Fr.app N25 M27
      refine own_to (S' := T26.setTop (mkF m 44 #[.val (.int p1), .val (.int p2), .val (.int (p1 &&& (3 : Int32))), .val (.int (p2 &&& (3 : Int32))), .val (.ref s1), .val (.ref s0), .val (.int (0 : Int32))] [(.int (0 : Int32))])) st26 ?_
      refine own_go (S' := T26.setTop (mkF m 46 #[.val (.int p1), .val (.int p2), .val (.int (p1 &&& (3 : Int32))), .val (.int (p2 &&& (3 : Int32))), .val (.ref s1), .val (.ref s0), .val (.int (0 : Int32))] [(.int (0 : Int32)), (.int (0 : Int32))])) (fun tg kk => XS.iload X26.here hx rfl (hb hby at_44) rfl kk) ?_
      refine own_go (S' := T26.setTop (mkF m 49 #[.val (.int p1), .val (.int p2), .val (.int (p1 &&& (3 : Int32))), .val (.int (p2 &&& (3 : Int32))), .val (.ref s1), .val (.ref s0), .val (.int (0 : Int32))] [])) (fun tg kk => XS.icmpNo X26.here hx rfl (hb hby at_46) rfl (XT.ii_ne_f (by decide)) kk) ?_
      refine own_go (S' := T26.setTop (mkF m 50 #[.val (.int p1), .val (.int p2), .val (.int (p1 &&& (3 : Int32))), .val (.int (p2 &&& (3 : Int32))), .val (.ref s1), .val (.ref s0), .val (.int (0 : Int32))] [(.int (1 : Int32))])) (fun tg kk => XT.iconstV X26.here hx rfl (1 : Int32) (hb hby at_49) (by decide) kk) ?_
      refine own_go (S' := T26.setTop (mkF m 54 #[.val (.int p1), .val (.int p2), .val (.int (p1 &&& (3 : Int32))), .val (.int (p2 &&& (3 : Int32))), .val (.ref s1), .val (.ref s0), .val (.int (0 : Int32))] [(.int (1 : Int32))])) (fun tg kk => XS.goto X26.here hx rfl (pc0 := 50) (pc' := 54) rfl (hb hby at_50) (by decide) (by decide) kk) ?_
      obtain ⟨fs, hr, hrun, hended, hW, hsame⟩ := X26.leave (v := some (.int (1 : Int32))) (fun h => by rw [Bd.returns] at h; cases h)
      refine ⟨_, _, retN X26 hx (t := .boolean) Bd.returns (by simp) (hb hby at_54) hr, hrun, hended, _, _, rfl, ?_, ⟨_, rfl⟩, hW, hsame.mono (by decide) (by decide)⟩
      show Q0 Z p1 p2 s0 s1 s2 s3 h0 n0 (some (.int (1 : Int32))) T26.heap _
      rw [e26]
      exact ⟨rfl, N27⟩
    · refine own_go (S' := T21.setTop (mkF m 15 #[.val (.int p1), .val (.int p2), .val (.int (p1 &&& (3 : Int32))), .val (.int (p2 &&& (3 : Int32))), .val (.ref s1), .unset, .unset] [(.int (p2 &&& (3 : Int32)))])) (fun tg kk => XS.iloadN X21.here hx rfl (hb hby at_14) rfl kk) ?_
      obtain ⟨v28, _, ⟨T28, L28, k28, n28⟩, -, X28, ⟨Lc28, hQ28, l28, y28, z28⟩, st28⟩ := Jvm.LawKit.callS X21 hx (y := (⟨"com/example/zapis/zapis/PrescriptionStatusMovesToPinLaw", "pick", "(I)Lcom/example/zapis/zapis/PrescriptionStatus;"⟩ : MethodName)) hown (mvT hZ (hw _ (List.mem_of_getElem? (i := 0) rfl))) (mvT hZ (hw _ (List.mem_of_getElem? (i := 1) rfl))) (mvT hZ (hw _ (List.mem_of_getElem? (i := 2) rfl))) (mvT hZ (hw _ (List.mem_of_getElem? (i := 3) rfl))) (by decide) (backOf (W := 0) (rm1 l Z a0 hw [] (p2 &&& (3 : Int32)) s0 s1 s2 s3 h0 n0 Z0 O0 S_ACTIVE S_ON_HOLD S_CANCELLED S_COMPLETED) hZ (hw _ (List.mem_of_getElem? (i := 3) rfl)) (hw _ (List.mem_of_getElem? (i := 2) rfl)) (by decide) (by decide)) (g := (mkF m 15 #[.val (.int p1), .val (.int p2), .val (.int (p1 &&& (3 : Int32))), .val (.int (p2 &&& (3 : Int32))), .val (.ref s1), .unset, .unset] [(.int (p2 &&& (3 : Int32)))])) rfl (by rw [hml]; rfl) (argsL := [(.int (p2 &&& (3 : Int32)))]) (rest := []) (lenOf pd__I_Lcom_example_zapis_zapis_PrescriptionStatus_ rfl) rfl (by show 2 * 0 + _ ≤ _; exact Nat.le_of_eq rfl) (hb hby at_15) (fun _ _ => ⟨rfl, e21, (by decide : 0 + 0 ≤ _), (by decide : 0 + 0 ≤ _)⟩)
      dsimp only [Pt.U, Pt.locs, Pt.cells, Pt.slots] at X28 l28 y28 z28 st28 hQ28
      subst l28 y28 z28
      obtain ⟨hv28, M29, e28⟩ := hQ28
      obtain rfl : v28 = some (.ref s1) := by rw [hv28]; rw [own_pick, u23, if_neg (by decide), if_pos rfl]
      have N29 := Fr.app N22 M29
      refine own_go (S' := T28.setTop (mkF m 18 #[.val (.int p1), .val (.int p2), .val (.int (p1 &&& (3 : Int32))), .val (.int (p2 &&& (3 : Int32))), .val (.ref s1), .unset, .unset] [(.ref s1)])) st28 ?_
      refine own_go (S' := T28.setTop (mkF m 20 #[.val (.int p1), .val (.int p2), .val (.int (p1 &&& (3 : Int32))), .val (.int (p2 &&& (3 : Int32))), .val (.ref s1), .val (.ref s1), .unset] [])) (fun tg kk => XS.astore X28.here hx rfl (hb hby at_18) rfl rfl (l' := #[.val (.int p1), .val (.int p2), .val (.int (p1 &&& (3 : Int32))), .val (.int (p2 &&& (3 : Int32))), .val (.ref s1), .val (.ref s1), .unset]) rfl kk) ?_
      refine own_go (S' := T28.setTop (mkF m 21 #[.val (.int p1), .val (.int p2), .val (.int (p1 &&& (3 : Int32))), .val (.int (p2 &&& (3 : Int32))), .val (.ref s1), .val (.ref s1), .unset] [(.int (p1 &&& (3 : Int32)))])) (fun tg kk => XS.iloadN X28.here hx rfl (hb hby at_20) rfl kk) ?_
      refine own_go (S' := T28.setTop (mkF m 22 #[.val (.int p1), .val (.int p2), .val (.int (p1 &&& (3 : Int32))), .val (.int (p2 &&& (3 : Int32))), .val (.ref s1), .val (.ref s1), .unset] [(.int (2 : Int32)), (.int (p1 &&& (3 : Int32)))])) (fun tg kk => XT.iconstV X28.here hx rfl (2 : Int32) (hb hby at_21) (by decide) kk) ?_
      refine own_go (S' := T28.setTop (mkF m 25 #[.val (.int p1), .val (.int p2), .val (.int (p1 &&& (3 : Int32))), .val (.int (p2 &&& (3 : Int32))), .val (.ref s1), .val (.ref s1), .unset] [])) (fun tg kk => XS.icmpNo X28.here hx rfl (hb hby at_22) rfl (XT.ii_ge_f (by rw [u1]; decide)) kk) ?_
      refine own_go (S' := T28.setTop (mkF m 26 #[.val (.int p1), .val (.int p2), .val (.int (p1 &&& (3 : Int32))), .val (.int (p2 &&& (3 : Int32))), .val (.ref s1), .val (.ref s1), .unset] [(.int (p2 &&& (3 : Int32)))])) (fun tg kk => XS.iloadN X28.here hx rfl (hb hby at_25) rfl kk) ?_
      refine own_go (S' := T28.setTop (mkF m 27 #[.val (.int p1), .val (.int p2), .val (.int (p1 &&& (3 : Int32))), .val (.int (p2 &&& (3 : Int32))), .val (.ref s1), .val (.ref s1), .unset] [(.int (p1 &&& (3 : Int32))), (.int (p2 &&& (3 : Int32)))])) (fun tg kk => XS.iloadN X28.here hx rfl (hb hby at_26) rfl kk) ?_
      refine own_go (S' := T28.setTop (mkF m 34 #[.val (.int p1), .val (.int p2), .val (.int (p1 &&& (3 : Int32))), .val (.int (p2 &&& (3 : Int32))), .val (.ref s1), .val (.ref s1), .unset] [])) (fun tg kk => XS.icmpYes X28.here hx rfl (pc0 := 27) (pc' := 34) rfl (hb hby at_27) rfl (XT.ii_le_t (by rw [u1, u23]; decide)) (by decide) (by decide) kk) ?_
      refine own_go (S' := T28.setTop (mkF m 35 #[.val (.int p1), .val (.int p2), .val (.int (p1 &&& (3 : Int32))), .val (.int (p2 &&& (3 : Int32))), .val (.ref s1), .val (.ref s1), .unset] [(.int (0 : Int32))])) (fun tg kk => XT.iconstV X28.here hx rfl (0 : Int32) (hb hby at_34) (by decide) kk) ?_
      refine own_go (S' := T28.setTop (mkF m 37 #[.val (.int p1), .val (.int p2), .val (.int (p1 &&& (3 : Int32))), .val (.int (p2 &&& (3 : Int32))), .val (.ref s1), .val (.ref s1), .val (.int (0 : Int32))] [])) (fun tg kk => XS.istore X28.here hx rfl (hb hby at_35) rfl (l' := #[.val (.int p1), .val (.int p2), .val (.int (p1 &&& (3 : Int32))), .val (.int (p2 &&& (3 : Int32))), .val (.ref s1), .val (.ref s1), .val (.int (0 : Int32))]) rfl kk) ?_
      refine own_go (S' := T28.setTop (mkF m 39 #[.val (.int p1), .val (.int p2), .val (.int (p1 &&& (3 : Int32))), .val (.int (p2 &&& (3 : Int32))), .val (.ref s1), .val (.ref s1), .val (.int (0 : Int32))] [(.ref s1)])) (fun tg kk => XS.aload X28.here hx rfl (hb hby at_37) rfl rfl kk) ?_
      refine own_go (S' := T28.setTop (mkF m 41 #[.val (.int p1), .val (.int p2), .val (.int (p1 &&& (3 : Int32))), .val (.int (p2 &&& (3 : Int32))), .val (.ref s1), .val (.ref s1), .val (.int (0 : Int32))] [(.ref s1), (.ref s1)])) (fun tg kk => XS.aload X28.here hx rfl (hb hby at_39) rfl rfl kk) ?_
      obtain ⟨cq30, kq30, qa30, qb30, qc30⟩ := isOf hZ e28 (E_ON_HOLD.ext O0.2)
      obtain ⟨v30, _, ⟨T30, L30, k30, n30⟩, -, X30, ⟨Lc30, hQ30, l30, y30, z30⟩, st30⟩ := X28.virtualBack hx (y := (⟨"com/example/zapis/zapis/PrescriptionStatus", "movesTo", "(Lcom/example/zapis/zapis/PrescriptionStatus;)Z"⟩ : MethodName)) (z := (⟨"com/example/zapis/zapis/PrescriptionStatus", "movesTo", "(Lcom/example/zapis/zapis/PrescriptionStatus;)Z"⟩ : MethodName)) hown (mvT hZ (hw _ (List.mem_of_getElem? (i := 9) rfl))) (mvT hZ (hw _ (List.mem_of_getElem? (i := 10) rfl))) (notFace_of_selects (args := #[]) (mvT hZ (hw _ (List.mem_of_getElem? (i := 12) rfl)))) (mvT hZ (hw _ (List.mem_of_getElem? (i := 12) rfl))) (mvT hZ (hw _ (List.mem_of_getElem? (i := 11) rfl))) (by decide) (backOf (W := 0) (rm2 l Z a0 hw [] s1 s1 (1 : Int32) s0 s1 s2 s3 h0 n0 Z0 O0 S_ACTIVE S_ON_HOLD S_CANCELLED S_COMPLETED F_ON_HOLD_ordinal E_ON_HOLD (Or.inr (Or.inl rfl))) hZ (hw _ (List.mem_of_getElem? (i := 13) rfl)) (hw _ (List.mem_of_getElem? (i := 5) rfl)) (by decide) (by decide)) qa30 qc30 (g := (mkF m 41 #[.val (.int p1), .val (.int p2), .val (.int (p1 &&& (3 : Int32))), .val (.int (p2 &&& (3 : Int32))), .val (.ref s1), .val (.ref s1), .val (.int (0 : Int32))] [(.ref s1), (.ref s1)])) rfl (by rw [hml]; rfl) (Steps.refl _) (argsL := [(.ref s1)]) (rest := []) (lenOf pd__Lcom_example_zapis_zapis_PrescriptionStatus__Z rfl) rfl (by show 2 * 0 + _ ≤ _; exact Nat.le_of_eq rfl) (hb hby at_41) (fun _ _ => ⟨rfl, e28, (by decide : 0 + 0 ≤ _), (by decide : 0 + 0 ≤ _)⟩)
      dsimp only [Pt.U, Pt.locs, Pt.cells, Pt.slots] at X30 l30 y30 z30 st30 hQ30
      subst l30 y30 z30
      obtain ⟨hv30, M31, e30⟩ := hQ30
      obtain rfl : v30 = some (.int (0 : Int32)) := by rw [hv30]; rw [own_moves, if_neg (by decide), if_pos rfl, if_neg (fun q => n12 (Value.ref.inj q)), if_neg (fun q => n13 (Value.ref.inj q))]
      have N31 := Fr.app N29 M31
      refine own_to (S' := T30.setTop (mkF m 44 #[.val (.int p1), .val (.int p2), .val (.int (p1 &&& (3 : Int32))), .val (.int (p2 &&& (3 : Int32))), .val (.ref s1), .val (.ref s1), .val (.int (0 : Int32))] [(.int (0 : Int32))])) st30 ?_
      refine own_go (S' := T30.setTop (mkF m 46 #[.val (.int p1), .val (.int p2), .val (.int (p1 &&& (3 : Int32))), .val (.int (p2 &&& (3 : Int32))), .val (.ref s1), .val (.ref s1), .val (.int (0 : Int32))] [(.int (0 : Int32)), (.int (0 : Int32))])) (fun tg kk => XS.iload X30.here hx rfl (hb hby at_44) rfl kk) ?_
      refine own_go (S' := T30.setTop (mkF m 49 #[.val (.int p1), .val (.int p2), .val (.int (p1 &&& (3 : Int32))), .val (.int (p2 &&& (3 : Int32))), .val (.ref s1), .val (.ref s1), .val (.int (0 : Int32))] [])) (fun tg kk => XS.icmpNo X30.here hx rfl (hb hby at_46) rfl (XT.ii_ne_f (by decide)) kk) ?_
      refine own_go (S' := T30.setTop (mkF m 50 #[.val (.int p1), .val (.int p2), .val (.int (p1 &&& (3 : Int32))), .val (.int (p2 &&& (3 : Int32))), .val (.ref s1), .val (.ref s1), .val (.int (0 : Int32))] [(.int (1 : Int32))])) (fun tg kk => XT.iconstV X30.here hx rfl (1 : Int32) (hb hby at_49) (by decide) kk) ?_
      refine own_go (S' := T30.setTop (mkF m 54 #[.val (.int p1), .val (.int p2), .val (.int (p1 &&& (3 : Int32))), .val (.int (p2 &&& (3 : Int32))), .val (.ref s1), .val (.ref s1), .val (.int (0 : Int32))] [(.int (1 : Int32))])) (fun tg kk => XS.goto X30.here hx rfl (pc0 := 50) (pc' := 54) rfl (hb hby at_50) (by decide) (by decide) kk) ?_
      obtain ⟨fs, hr, hrun, hended, hW, hsame⟩ := X30.leave (v := some (.int (1 : Int32))) (fun h => by rw [Bd.returns] at h; cases h)
      refine ⟨_, _, retN X30 hx (t := .boolean) Bd.returns (by simp) (hb hby at_54) hr, hrun, hended, _, _, rfl, ?_, ⟨_, rfl⟩, hW, hsame.mono (by decide) (by decide)⟩
      show Q0 Z p1 p2 s0 s1 s2 s3 h0 n0 (some (.int (1 : Int32))) T30.heap _
      rw [e30]
      exact ⟨rfl, N31⟩
    · refine own_go (S' := T21.setTop (mkF m 15 #[.val (.int p1), .val (.int p2), .val (.int (p1 &&& (3 : Int32))), .val (.int (p2 &&& (3 : Int32))), .val (.ref s1), .unset, .unset] [(.int (p2 &&& (3 : Int32)))])) (fun tg kk => XS.iloadN X21.here hx rfl (hb hby at_14) rfl kk) ?_
      obtain ⟨v32, _, ⟨T32, L32, k32, n32⟩, -, X32, ⟨Lc32, hQ32, l32, y32, z32⟩, st32⟩ := Jvm.LawKit.callS X21 hx (y := (⟨"com/example/zapis/zapis/PrescriptionStatusMovesToPinLaw", "pick", "(I)Lcom/example/zapis/zapis/PrescriptionStatus;"⟩ : MethodName)) hown (mvT hZ (hw _ (List.mem_of_getElem? (i := 0) rfl))) (mvT hZ (hw _ (List.mem_of_getElem? (i := 1) rfl))) (mvT hZ (hw _ (List.mem_of_getElem? (i := 2) rfl))) (mvT hZ (hw _ (List.mem_of_getElem? (i := 3) rfl))) (by decide) (backOf (W := 0) (rm1 l Z a0 hw [] (p2 &&& (3 : Int32)) s0 s1 s2 s3 h0 n0 Z0 O0 S_ACTIVE S_ON_HOLD S_CANCELLED S_COMPLETED) hZ (hw _ (List.mem_of_getElem? (i := 3) rfl)) (hw _ (List.mem_of_getElem? (i := 2) rfl)) (by decide) (by decide)) (g := (mkF m 15 #[.val (.int p1), .val (.int p2), .val (.int (p1 &&& (3 : Int32))), .val (.int (p2 &&& (3 : Int32))), .val (.ref s1), .unset, .unset] [(.int (p2 &&& (3 : Int32)))])) rfl (by rw [hml]; rfl) (argsL := [(.int (p2 &&& (3 : Int32)))]) (rest := []) (lenOf pd__I_Lcom_example_zapis_zapis_PrescriptionStatus_ rfl) rfl (by show 2 * 0 + _ ≤ _; exact Nat.le_of_eq rfl) (hb hby at_15) (fun _ _ => ⟨rfl, e21, (by decide : 0 + 0 ≤ _), (by decide : 0 + 0 ≤ _)⟩)
      dsimp only [Pt.U, Pt.locs, Pt.cells, Pt.slots] at X32 l32 y32 z32 st32 hQ32
      subst l32 y32 z32
      obtain ⟨hv32, M33, e32⟩ := hQ32
      obtain rfl : v32 = some (.ref s2) := by rw [hv32]; rw [own_pick, u23, if_neg (by decide), if_neg (by decide), if_pos rfl]
      have N33 := Fr.app N22 M33
      refine own_go (S' := T32.setTop (mkF m 18 #[.val (.int p1), .val (.int p2), .val (.int (p1 &&& (3 : Int32))), .val (.int (p2 &&& (3 : Int32))), .val (.ref s1), .unset, .unset] [(.ref s2)])) st32 ?_
      refine own_go (S' := T32.setTop (mkF m 20 #[.val (.int p1), .val (.int p2), .val (.int (p1 &&& (3 : Int32))), .val (.int (p2 &&& (3 : Int32))), .val (.ref s1), .val (.ref s2), .unset] [])) (fun tg kk => XS.astore X32.here hx rfl (hb hby at_18) rfl rfl (l' := #[.val (.int p1), .val (.int p2), .val (.int (p1 &&& (3 : Int32))), .val (.int (p2 &&& (3 : Int32))), .val (.ref s1), .val (.ref s2), .unset]) rfl kk) ?_
      refine own_go (S' := T32.setTop (mkF m 21 #[.val (.int p1), .val (.int p2), .val (.int (p1 &&& (3 : Int32))), .val (.int (p2 &&& (3 : Int32))), .val (.ref s1), .val (.ref s2), .unset] [(.int (p1 &&& (3 : Int32)))])) (fun tg kk => XS.iloadN X32.here hx rfl (hb hby at_20) rfl kk) ?_
      refine own_go (S' := T32.setTop (mkF m 22 #[.val (.int p1), .val (.int p2), .val (.int (p1 &&& (3 : Int32))), .val (.int (p2 &&& (3 : Int32))), .val (.ref s1), .val (.ref s2), .unset] [(.int (2 : Int32)), (.int (p1 &&& (3 : Int32)))])) (fun tg kk => XT.iconstV X32.here hx rfl (2 : Int32) (hb hby at_21) (by decide) kk) ?_
      refine own_go (S' := T32.setTop (mkF m 25 #[.val (.int p1), .val (.int p2), .val (.int (p1 &&& (3 : Int32))), .val (.int (p2 &&& (3 : Int32))), .val (.ref s1), .val (.ref s2), .unset] [])) (fun tg kk => XS.icmpNo X32.here hx rfl (hb hby at_22) rfl (XT.ii_ge_f (by rw [u1]; decide)) kk) ?_
      refine own_go (S' := T32.setTop (mkF m 26 #[.val (.int p1), .val (.int p2), .val (.int (p1 &&& (3 : Int32))), .val (.int (p2 &&& (3 : Int32))), .val (.ref s1), .val (.ref s2), .unset] [(.int (p2 &&& (3 : Int32)))])) (fun tg kk => XS.iloadN X32.here hx rfl (hb hby at_25) rfl kk) ?_
      refine own_go (S' := T32.setTop (mkF m 27 #[.val (.int p1), .val (.int p2), .val (.int (p1 &&& (3 : Int32))), .val (.int (p2 &&& (3 : Int32))), .val (.ref s1), .val (.ref s2), .unset] [(.int (p1 &&& (3 : Int32))), (.int (p2 &&& (3 : Int32)))])) (fun tg kk => XS.iloadN X32.here hx rfl (hb hby at_26) rfl kk) ?_
      refine own_go (S' := T32.setTop (mkF m 30 #[.val (.int p1), .val (.int p2), .val (.int (p1 &&& (3 : Int32))), .val (.int (p2 &&& (3 : Int32))), .val (.ref s1), .val (.ref s2), .unset] [])) (fun tg kk => XS.icmpNo X32.here hx rfl (hb hby at_27) rfl (XT.ii_le_f (by rw [u1, u23]; decide)) kk) ?_
      refine own_go (S' := T32.setTop (mkF m 31 #[.val (.int p1), .val (.int p2), .val (.int (p1 &&& (3 : Int32))), .val (.int (p2 &&& (3 : Int32))), .val (.ref s1), .val (.ref s2), .unset] [(.int (1 : Int32))])) (fun tg kk => XT.iconstV X32.here hx rfl (1 : Int32) (hb hby at_30) (by decide) kk) ?_
      refine own_go (S' := T32.setTop (mkF m 35 #[.val (.int p1), .val (.int p2), .val (.int (p1 &&& (3 : Int32))), .val (.int (p2 &&& (3 : Int32))), .val (.ref s1), .val (.ref s2), .unset] [(.int (1 : Int32))])) (fun tg kk => XS.goto X32.here hx rfl (pc0 := 31) (pc' := 35) rfl (hb hby at_31) (by decide) (by decide) kk) ?_
      refine own_go (S' := T32.setTop (mkF m 37 #[.val (.int p1), .val (.int p2), .val (.int (p1 &&& (3 : Int32))), .val (.int (p2 &&& (3 : Int32))), .val (.ref s1), .val (.ref s2), .val (.int (1 : Int32))] [])) (fun tg kk => XS.istore X32.here hx rfl (hb hby at_35) rfl (l' := #[.val (.int p1), .val (.int p2), .val (.int (p1 &&& (3 : Int32))), .val (.int (p2 &&& (3 : Int32))), .val (.ref s1), .val (.ref s2), .val (.int (1 : Int32))]) rfl kk) ?_
      refine own_go (S' := T32.setTop (mkF m 39 #[.val (.int p1), .val (.int p2), .val (.int (p1 &&& (3 : Int32))), .val (.int (p2 &&& (3 : Int32))), .val (.ref s1), .val (.ref s2), .val (.int (1 : Int32))] [(.ref s1)])) (fun tg kk => XS.aload X32.here hx rfl (hb hby at_37) rfl rfl kk) ?_
      refine own_go (S' := T32.setTop (mkF m 41 #[.val (.int p1), .val (.int p2), .val (.int (p1 &&& (3 : Int32))), .val (.int (p2 &&& (3 : Int32))), .val (.ref s1), .val (.ref s2), .val (.int (1 : Int32))] [(.ref s2), (.ref s1)])) (fun tg kk => XS.aload X32.here hx rfl (hb hby at_39) rfl rfl kk) ?_
      obtain ⟨cq34, kq34, qa34, qb34, qc34⟩ := isOf hZ e32 (E_ON_HOLD.ext O0.2)
      obtain ⟨v34, _, ⟨T34, L34, k34, n34⟩, -, X34, ⟨Lc34, hQ34, l34, y34, z34⟩, st34⟩ := X32.virtualBack hx (y := (⟨"com/example/zapis/zapis/PrescriptionStatus", "movesTo", "(Lcom/example/zapis/zapis/PrescriptionStatus;)Z"⟩ : MethodName)) (z := (⟨"com/example/zapis/zapis/PrescriptionStatus", "movesTo", "(Lcom/example/zapis/zapis/PrescriptionStatus;)Z"⟩ : MethodName)) hown (mvT hZ (hw _ (List.mem_of_getElem? (i := 9) rfl))) (mvT hZ (hw _ (List.mem_of_getElem? (i := 10) rfl))) (notFace_of_selects (args := #[]) (mvT hZ (hw _ (List.mem_of_getElem? (i := 12) rfl)))) (mvT hZ (hw _ (List.mem_of_getElem? (i := 12) rfl))) (mvT hZ (hw _ (List.mem_of_getElem? (i := 11) rfl))) (by decide) (backOf (W := 0) (rm2 l Z a0 hw [] s1 s2 (1 : Int32) s0 s1 s2 s3 h0 n0 Z0 O0 S_ACTIVE S_ON_HOLD S_CANCELLED S_COMPLETED F_ON_HOLD_ordinal E_ON_HOLD (Or.inr (Or.inl rfl))) hZ (hw _ (List.mem_of_getElem? (i := 13) rfl)) (hw _ (List.mem_of_getElem? (i := 5) rfl)) (by decide) (by decide)) qa34 qc34 (g := (mkF m 41 #[.val (.int p1), .val (.int p2), .val (.int (p1 &&& (3 : Int32))), .val (.int (p2 &&& (3 : Int32))), .val (.ref s1), .val (.ref s2), .val (.int (1 : Int32))] [(.ref s2), (.ref s1)])) rfl (by rw [hml]; rfl) (Steps.refl _) (argsL := [(.ref s2)]) (rest := []) (lenOf pd__Lcom_example_zapis_zapis_PrescriptionStatus__Z rfl) rfl (by show 2 * 0 + _ ≤ _; exact Nat.le_of_eq rfl) (hb hby at_41) (fun _ _ => ⟨rfl, e32, (by decide : 0 + 0 ≤ _), (by decide : 0 + 0 ≤ _)⟩)
      dsimp only [Pt.U, Pt.locs, Pt.cells, Pt.slots] at X34 l34 y34 z34 st34 hQ34
      subst l34 y34 z34
      obtain ⟨hv34, M35, e34⟩ := hQ34
      obtain rfl : v34 = some (.int (1 : Int32)) := by rw [hv34]; rw [own_moves, if_neg (by decide), if_pos rfl, if_pos rfl]
      have N35 := Fr.app N33 M35
      refine own_to (S' := T34.setTop (mkF m 44 #[.val (.int p1), .val (.int p2), .val (.int (p1 &&& (3 : Int32))), .val (.int (p2 &&& (3 : Int32))), .val (.ref s1), .val (.ref s2), .val (.int (1 : Int32))] [(.int (1 : Int32))])) st34 ?_
      refine own_go (S' := T34.setTop (mkF m 46 #[.val (.int p1), .val (.int p2), .val (.int (p1 &&& (3 : Int32))), .val (.int (p2 &&& (3 : Int32))), .val (.ref s1), .val (.ref s2), .val (.int (1 : Int32))] [(.int (1 : Int32)), (.int (1 : Int32))])) (fun tg kk => XS.iload X34.here hx rfl (hb hby at_44) rfl kk) ?_
      refine own_go (S' := T34.setTop (mkF m 49 #[.val (.int p1), .val (.int p2), .val (.int (p1 &&& (3 : Int32))), .val (.int (p2 &&& (3 : Int32))), .val (.ref s1), .val (.ref s2), .val (.int (1 : Int32))] [])) (fun tg kk => XS.icmpNo X34.here hx rfl (hb hby at_46) rfl (XT.ii_ne_f (by decide)) kk) ?_
      refine own_go (S' := T34.setTop (mkF m 50 #[.val (.int p1), .val (.int p2), .val (.int (p1 &&& (3 : Int32))), .val (.int (p2 &&& (3 : Int32))), .val (.ref s1), .val (.ref s2), .val (.int (1 : Int32))] [(.int (1 : Int32))])) (fun tg kk => XT.iconstV X34.here hx rfl (1 : Int32) (hb hby at_49) (by decide) kk) ?_
      refine own_go (S' := T34.setTop (mkF m 54 #[.val (.int p1), .val (.int p2), .val (.int (p1 &&& (3 : Int32))), .val (.int (p2 &&& (3 : Int32))), .val (.ref s1), .val (.ref s2), .val (.int (1 : Int32))] [(.int (1 : Int32))])) (fun tg kk => XS.goto X34.here hx rfl (pc0 := 50) (pc' := 54) rfl (hb hby at_50) (by decide) (by decide) kk) ?_
      obtain ⟨fs, hr, hrun, hended, hW, hsame⟩ := X34.leave (v := some (.int (1 : Int32))) (fun h => by rw [Bd.returns] at h; cases h)
      refine ⟨_, _, retN X34 hx (t := .boolean) Bd.returns (by simp) (hb hby at_54) hr, hrun, hended, _, _, rfl, ?_, ⟨_, rfl⟩, hW, hsame.mono (by decide) (by decide)⟩
      show Q0 Z p1 p2 s0 s1 s2 s3 h0 n0 (some (.int (1 : Int32))) T34.heap _
      rw [e34]
      exact ⟨rfl, N35⟩
    · refine own_go (S' := T21.setTop (mkF m 15 #[.val (.int p1), .val (.int p2), .val (.int (p1 &&& (3 : Int32))), .val (.int (p2 &&& (3 : Int32))), .val (.ref s1), .unset, .unset] [(.int (p2 &&& (3 : Int32)))])) (fun tg kk => XS.iloadN X21.here hx rfl (hb hby at_14) rfl kk) ?_
      obtain ⟨v36, _, ⟨T36, L36, k36, n36⟩, -, X36, ⟨Lc36, hQ36, l36, y36, z36⟩, st36⟩ := Jvm.LawKit.callS X21 hx (y := (⟨"com/example/zapis/zapis/PrescriptionStatusMovesToPinLaw", "pick", "(I)Lcom/example/zapis/zapis/PrescriptionStatus;"⟩ : MethodName)) hown (mvT hZ (hw _ (List.mem_of_getElem? (i := 0) rfl))) (mvT hZ (hw _ (List.mem_of_getElem? (i := 1) rfl))) (mvT hZ (hw _ (List.mem_of_getElem? (i := 2) rfl))) (mvT hZ (hw _ (List.mem_of_getElem? (i := 3) rfl))) (by decide) (backOf (W := 0) (rm1 l Z a0 hw [] (p2 &&& (3 : Int32)) s0 s1 s2 s3 h0 n0 Z0 O0 S_ACTIVE S_ON_HOLD S_CANCELLED S_COMPLETED) hZ (hw _ (List.mem_of_getElem? (i := 3) rfl)) (hw _ (List.mem_of_getElem? (i := 2) rfl)) (by decide) (by decide)) (g := (mkF m 15 #[.val (.int p1), .val (.int p2), .val (.int (p1 &&& (3 : Int32))), .val (.int (p2 &&& (3 : Int32))), .val (.ref s1), .unset, .unset] [(.int (p2 &&& (3 : Int32)))])) rfl (by rw [hml]; rfl) (argsL := [(.int (p2 &&& (3 : Int32)))]) (rest := []) (lenOf pd__I_Lcom_example_zapis_zapis_PrescriptionStatus_ rfl) rfl (by show 2 * 0 + _ ≤ _; exact Nat.le_of_eq rfl) (hb hby at_15) (fun _ _ => ⟨rfl, e21, (by decide : 0 + 0 ≤ _), (by decide : 0 + 0 ≤ _)⟩)
      dsimp only [Pt.U, Pt.locs, Pt.cells, Pt.slots] at X36 l36 y36 z36 st36 hQ36
      subst l36 y36 z36
      obtain ⟨hv36, M37, e36⟩ := hQ36
      obtain rfl : v36 = some (.ref s3) := by rw [hv36]; rw [own_pick, u23, if_neg (by decide), if_neg (by decide), if_neg (by decide)]
      have N37 := Fr.app N22 M37
      refine own_go (S' := T36.setTop (mkF m 18 #[.val (.int p1), .val (.int p2), .val (.int (p1 &&& (3 : Int32))), .val (.int (p2 &&& (3 : Int32))), .val (.ref s1), .unset, .unset] [(.ref s3)])) st36 ?_
      refine own_go (S' := T36.setTop (mkF m 20 #[.val (.int p1), .val (.int p2), .val (.int (p1 &&& (3 : Int32))), .val (.int (p2 &&& (3 : Int32))), .val (.ref s1), .val (.ref s3), .unset] [])) (fun tg kk => XS.astore X36.here hx rfl (hb hby at_18) rfl rfl (l' := #[.val (.int p1), .val (.int p2), .val (.int (p1 &&& (3 : Int32))), .val (.int (p2 &&& (3 : Int32))), .val (.ref s1), .val (.ref s3), .unset]) rfl kk) ?_
      refine own_go (S' := T36.setTop (mkF m 21 #[.val (.int p1), .val (.int p2), .val (.int (p1 &&& (3 : Int32))), .val (.int (p2 &&& (3 : Int32))), .val (.ref s1), .val (.ref s3), .unset] [(.int (p1 &&& (3 : Int32)))])) (fun tg kk => XS.iloadN X36.here hx rfl (hb hby at_20) rfl kk) ?_
      refine own_go (S' := T36.setTop (mkF m 22 #[.val (.int p1), .val (.int p2), .val (.int (p1 &&& (3 : Int32))), .val (.int (p2 &&& (3 : Int32))), .val (.ref s1), .val (.ref s3), .unset] [(.int (2 : Int32)), (.int (p1 &&& (3 : Int32)))])) (fun tg kk => XT.iconstV X36.here hx rfl (2 : Int32) (hb hby at_21) (by decide) kk) ?_
      refine own_go (S' := T36.setTop (mkF m 25 #[.val (.int p1), .val (.int p2), .val (.int (p1 &&& (3 : Int32))), .val (.int (p2 &&& (3 : Int32))), .val (.ref s1), .val (.ref s3), .unset] [])) (fun tg kk => XS.icmpNo X36.here hx rfl (hb hby at_22) rfl (XT.ii_ge_f (by rw [u1]; decide)) kk) ?_
      refine own_go (S' := T36.setTop (mkF m 26 #[.val (.int p1), .val (.int p2), .val (.int (p1 &&& (3 : Int32))), .val (.int (p2 &&& (3 : Int32))), .val (.ref s1), .val (.ref s3), .unset] [(.int (p2 &&& (3 : Int32)))])) (fun tg kk => XS.iloadN X36.here hx rfl (hb hby at_25) rfl kk) ?_
      refine own_go (S' := T36.setTop (mkF m 27 #[.val (.int p1), .val (.int p2), .val (.int (p1 &&& (3 : Int32))), .val (.int (p2 &&& (3 : Int32))), .val (.ref s1), .val (.ref s3), .unset] [(.int (p1 &&& (3 : Int32))), (.int (p2 &&& (3 : Int32)))])) (fun tg kk => XS.iloadN X36.here hx rfl (hb hby at_26) rfl kk) ?_
      refine own_go (S' := T36.setTop (mkF m 30 #[.val (.int p1), .val (.int p2), .val (.int (p1 &&& (3 : Int32))), .val (.int (p2 &&& (3 : Int32))), .val (.ref s1), .val (.ref s3), .unset] [])) (fun tg kk => XS.icmpNo X36.here hx rfl (hb hby at_27) rfl (XT.ii_le_f (by rw [u1, u23]; decide)) kk) ?_
      refine own_go (S' := T36.setTop (mkF m 31 #[.val (.int p1), .val (.int p2), .val (.int (p1 &&& (3 : Int32))), .val (.int (p2 &&& (3 : Int32))), .val (.ref s1), .val (.ref s3), .unset] [(.int (1 : Int32))])) (fun tg kk => XT.iconstV X36.here hx rfl (1 : Int32) (hb hby at_30) (by decide) kk) ?_
      refine own_go (S' := T36.setTop (mkF m 35 #[.val (.int p1), .val (.int p2), .val (.int (p1 &&& (3 : Int32))), .val (.int (p2 &&& (3 : Int32))), .val (.ref s1), .val (.ref s3), .unset] [(.int (1 : Int32))])) (fun tg kk => XS.goto X36.here hx rfl (pc0 := 31) (pc' := 35) rfl (hb hby at_31) (by decide) (by decide) kk) ?_
      refine own_go (S' := T36.setTop (mkF m 37 #[.val (.int p1), .val (.int p2), .val (.int (p1 &&& (3 : Int32))), .val (.int (p2 &&& (3 : Int32))), .val (.ref s1), .val (.ref s3), .val (.int (1 : Int32))] [])) (fun tg kk => XS.istore X36.here hx rfl (hb hby at_35) rfl (l' := #[.val (.int p1), .val (.int p2), .val (.int (p1 &&& (3 : Int32))), .val (.int (p2 &&& (3 : Int32))), .val (.ref s1), .val (.ref s3), .val (.int (1 : Int32))]) rfl kk) ?_
      refine own_go (S' := T36.setTop (mkF m 39 #[.val (.int p1), .val (.int p2), .val (.int (p1 &&& (3 : Int32))), .val (.int (p2 &&& (3 : Int32))), .val (.ref s1), .val (.ref s3), .val (.int (1 : Int32))] [(.ref s1)])) (fun tg kk => XS.aload X36.here hx rfl (hb hby at_37) rfl rfl kk) ?_
      refine own_go (S' := T36.setTop (mkF m 41 #[.val (.int p1), .val (.int p2), .val (.int (p1 &&& (3 : Int32))), .val (.int (p2 &&& (3 : Int32))), .val (.ref s1), .val (.ref s3), .val (.int (1 : Int32))] [(.ref s3), (.ref s1)])) (fun tg kk => XS.aload X36.here hx rfl (hb hby at_39) rfl rfl kk) ?_
      obtain ⟨cq38, kq38, qa38, qb38, qc38⟩ := isOf hZ e36 (E_ON_HOLD.ext O0.2)
      obtain ⟨v38, _, ⟨T38, L38, k38, n38⟩, -, X38, ⟨Lc38, hQ38, l38, y38, z38⟩, st38⟩ := X36.virtualBack hx (y := (⟨"com/example/zapis/zapis/PrescriptionStatus", "movesTo", "(Lcom/example/zapis/zapis/PrescriptionStatus;)Z"⟩ : MethodName)) (z := (⟨"com/example/zapis/zapis/PrescriptionStatus", "movesTo", "(Lcom/example/zapis/zapis/PrescriptionStatus;)Z"⟩ : MethodName)) hown (mvT hZ (hw _ (List.mem_of_getElem? (i := 9) rfl))) (mvT hZ (hw _ (List.mem_of_getElem? (i := 10) rfl))) (notFace_of_selects (args := #[]) (mvT hZ (hw _ (List.mem_of_getElem? (i := 12) rfl)))) (mvT hZ (hw _ (List.mem_of_getElem? (i := 12) rfl))) (mvT hZ (hw _ (List.mem_of_getElem? (i := 11) rfl))) (by decide) (backOf (W := 0) (rm2 l Z a0 hw [] s1 s3 (1 : Int32) s0 s1 s2 s3 h0 n0 Z0 O0 S_ACTIVE S_ON_HOLD S_CANCELLED S_COMPLETED F_ON_HOLD_ordinal E_ON_HOLD (Or.inr (Or.inl rfl))) hZ (hw _ (List.mem_of_getElem? (i := 13) rfl)) (hw _ (List.mem_of_getElem? (i := 5) rfl)) (by decide) (by decide)) qa38 qc38 (g := (mkF m 41 #[.val (.int p1), .val (.int p2), .val (.int (p1 &&& (3 : Int32))), .val (.int (p2 &&& (3 : Int32))), .val (.ref s1), .val (.ref s3), .val (.int (1 : Int32))] [(.ref s3), (.ref s1)])) rfl (by rw [hml]; rfl) (Steps.refl _) (argsL := [(.ref s3)]) (rest := []) (lenOf pd__Lcom_example_zapis_zapis_PrescriptionStatus__Z rfl) rfl (by show 2 * 0 + _ ≤ _; exact Nat.le_of_eq rfl) (hb hby at_41) (fun _ _ => ⟨rfl, e36, (by decide : 0 + 0 ≤ _), (by decide : 0 + 0 ≤ _)⟩)
      dsimp only [Pt.U, Pt.locs, Pt.cells, Pt.slots] at X38 l38 y38 z38 st38 hQ38
      subst l38 y38 z38
      obtain ⟨hv38, M39, e38⟩ := hQ38
      obtain rfl : v38 = some (.int (1 : Int32)) := by rw [hv38]; rw [own_moves, if_neg (by decide), if_pos rfl, if_neg (fun q => n32 (Value.ref.inj q)), if_pos rfl]
      have N39 := Fr.app N37 M39
      refine own_to (S' := T38.setTop (mkF m 44 #[.val (.int p1), .val (.int p2), .val (.int (p1 &&& (3 : Int32))), .val (.int (p2 &&& (3 : Int32))), .val (.ref s1), .val (.ref s3), .val (.int (1 : Int32))] [(.int (1 : Int32))])) st38 ?_
      refine own_go (S' := T38.setTop (mkF m 46 #[.val (.int p1), .val (.int p2), .val (.int (p1 &&& (3 : Int32))), .val (.int (p2 &&& (3 : Int32))), .val (.ref s1), .val (.ref s3), .val (.int (1 : Int32))] [(.int (1 : Int32)), (.int (1 : Int32))])) (fun tg kk => XS.iload X38.here hx rfl (hb hby at_44) rfl kk) ?_
      refine own_go (S' := T38.setTop (mkF m 49 #[.val (.int p1), .val (.int p2), .val (.int (p1 &&& (3 : Int32))), .val (.int (p2 &&& (3 : Int32))), .val (.ref s1), .val (.ref s3), .val (.int (1 : Int32))] [])) (fun tg kk => XS.icmpNo X38.here hx rfl (hb hby at_46) rfl (XT.ii_ne_f (by decide)) kk) ?_
      refine own_go (S' := T38.setTop (mkF m 50 #[.val (.int p1), .val (.int p2), .val (.int (p1 &&& (3 : Int32))), .val (.int (p2 &&& (3 : Int32))), .val (.ref s1), .val (.ref s3), .val (.int (1 : Int32))] [(.int (1 : Int32))])) (fun tg kk => XT.iconstV X38.here hx rfl (1 : Int32) (hb hby at_49) (by decide) kk) ?_
      refine own_go (S' := T38.setTop (mkF m 54 #[.val (.int p1), .val (.int p2), .val (.int (p1 &&& (3 : Int32))), .val (.int (p2 &&& (3 : Int32))), .val (.ref s1), .val (.ref s3), .val (.int (1 : Int32))] [(.int (1 : Int32))])) (fun tg kk => XS.goto X38.here hx rfl (pc0 := 50) (pc' := 54) rfl (hb hby at_50) (by decide) (by decide) kk) ?_
      obtain ⟨fs, hr, hrun, hended, hW, hsame⟩ := X38.leave (v := some (.int (1 : Int32))) (fun h => by rw [Bd.returns] at h; cases h)
      refine ⟨_, _, retN X38 hx (t := .boolean) Bd.returns (by simp) (hb hby at_54) hr, hrun, hended, _, _, rfl, ?_, ⟨_, rfl⟩, hW, hsame.mono (by decide) (by decide)⟩
      show Q0 Z p1 p2 s0 s1 s2 s3 h0 n0 (some (.int (1 : Int32))) T38.heap _
      rw [e38]
      exact ⟨rfl, N39⟩
  · refine own_go (S' := s₁.setTop (mkF m 9 #[.val (.int p1), .val (.int p2), .val (.int (p1 &&& (3 : Int32))), .val (.int (p2 &&& (3 : Int32))), .unset, .unset, .unset] [(.int (p1 &&& (3 : Int32)))])) (fun tg kk => XS.iloadN X0.here hx rfl (hb hby at_8) rfl kk) ?_
    obtain ⟨v40, _, ⟨T40, L40, k40, n40⟩, -, X40, ⟨Lc40, hQ40, l40, y40, z40⟩, st40⟩ := Jvm.LawKit.callS X0 hx (y := (⟨"com/example/zapis/zapis/PrescriptionStatusMovesToPinLaw", "pick", "(I)Lcom/example/zapis/zapis/PrescriptionStatus;"⟩ : MethodName)) hown (mvT hZ (hw _ (List.mem_of_getElem? (i := 0) rfl))) (mvT hZ (hw _ (List.mem_of_getElem? (i := 1) rfl))) (mvT hZ (hw _ (List.mem_of_getElem? (i := 2) rfl))) (mvT hZ (hw _ (List.mem_of_getElem? (i := 3) rfl))) (by decide) (backOf (W := 0) (rm1 l Z a0 hw [] (p1 &&& (3 : Int32)) s0 s1 s2 s3 h0 n0 Z0 O0 S_ACTIVE S_ON_HOLD S_CANCELLED S_COMPLETED) hZ (hw _ (List.mem_of_getElem? (i := 3) rfl)) (hw _ (List.mem_of_getElem? (i := 2) rfl)) (by decide) (by decide)) (g := (mkF m 9 #[.val (.int p1), .val (.int p2), .val (.int (p1 &&& (3 : Int32))), .val (.int (p2 &&& (3 : Int32))), .unset, .unset, .unset] [(.int (p1 &&& (3 : Int32)))])) rfl (by rw [hml]; rfl) (argsL := [(.int (p1 &&& (3 : Int32)))]) (rest := []) (lenOf pd__I_Lcom_example_zapis_zapis_PrescriptionStatus_ rfl) rfl (by show 2 * 0 + _ ≤ _; exact Nat.le_of_eq rfl) (hb hby at_9) (fun _ _ => ⟨rfl, e0, (by decide : 0 + 0 ≤ _), (by decide : 0 + 0 ≤ _)⟩)
    dsimp only [Pt.U, Pt.locs, Pt.cells, Pt.slots] at X40 l40 y40 z40 st40 hQ40
    subst l40 y40 z40
    obtain ⟨hv40, M41, e40⟩ := hQ40
    obtain rfl : v40 = some (.ref s2) := by rw [hv40]; rw [own_pick, u1, if_neg (by decide), if_neg (by decide), if_pos rfl]
    have N41 := Fr.app N0 M41
    refine own_go (S' := T40.setTop (mkF m 12 #[.val (.int p1), .val (.int p2), .val (.int (p1 &&& (3 : Int32))), .val (.int (p2 &&& (3 : Int32))), .unset, .unset, .unset] [(.ref s2)])) st40 ?_
    refine own_go (S' := T40.setTop (mkF m 14 #[.val (.int p1), .val (.int p2), .val (.int (p1 &&& (3 : Int32))), .val (.int (p2 &&& (3 : Int32))), .val (.ref s2), .unset, .unset] [])) (fun tg kk => XS.astore X40.here hx rfl (hb hby at_12) rfl rfl (l' := #[.val (.int p1), .val (.int p2), .val (.int (p1 &&& (3 : Int32))), .val (.int (p2 &&& (3 : Int32))), .val (.ref s2), .unset, .unset]) rfl kk) ?_
    rcases own_le3 p2 with u42 | u42 | u42 | u42
    · refine own_go (S' := T40.setTop (mkF m 15 #[.val (.int p1), .val (.int p2), .val (.int (p1 &&& (3 : Int32))), .val (.int (p2 &&& (3 : Int32))), .val (.ref s2), .unset, .unset] [(.int (p2 &&& (3 : Int32)))])) (fun tg kk => XS.iloadN X40.here hx rfl (hb hby at_14) rfl kk) ?_
      obtain ⟨v43, _, ⟨T43, L43, k43, n43⟩, -, X43, ⟨Lc43, hQ43, l43, y43, z43⟩, st43⟩ := Jvm.LawKit.callS X40 hx (y := (⟨"com/example/zapis/zapis/PrescriptionStatusMovesToPinLaw", "pick", "(I)Lcom/example/zapis/zapis/PrescriptionStatus;"⟩ : MethodName)) hown (mvT hZ (hw _ (List.mem_of_getElem? (i := 0) rfl))) (mvT hZ (hw _ (List.mem_of_getElem? (i := 1) rfl))) (mvT hZ (hw _ (List.mem_of_getElem? (i := 2) rfl))) (mvT hZ (hw _ (List.mem_of_getElem? (i := 3) rfl))) (by decide) (backOf (W := 0) (rm1 l Z a0 hw [] (p2 &&& (3 : Int32)) s0 s1 s2 s3 h0 n0 Z0 O0 S_ACTIVE S_ON_HOLD S_CANCELLED S_COMPLETED) hZ (hw _ (List.mem_of_getElem? (i := 3) rfl)) (hw _ (List.mem_of_getElem? (i := 2) rfl)) (by decide) (by decide)) (g := (mkF m 15 #[.val (.int p1), .val (.int p2), .val (.int (p1 &&& (3 : Int32))), .val (.int (p2 &&& (3 : Int32))), .val (.ref s2), .unset, .unset] [(.int (p2 &&& (3 : Int32)))])) rfl (by rw [hml]; rfl) (argsL := [(.int (p2 &&& (3 : Int32)))]) (rest := []) (lenOf pd__I_Lcom_example_zapis_zapis_PrescriptionStatus_ rfl) rfl (by show 2 * 0 + _ ≤ _; exact Nat.le_of_eq rfl) (hb hby at_15) (fun _ _ => ⟨rfl, e40, (by decide : 0 + 0 ≤ _), (by decide : 0 + 0 ≤ _)⟩)
      dsimp only [Pt.U, Pt.locs, Pt.cells, Pt.slots] at X43 l43 y43 z43 st43 hQ43
      subst l43 y43 z43
      obtain ⟨hv43, M44, e43⟩ := hQ43
      obtain rfl : v43 = some (.ref s0) := by rw [hv43]; rw [own_pick, u42, if_pos rfl]
      have N44 := Fr.app N41 M44
      refine own_go (S' := T43.setTop (mkF m 18 #[.val (.int p1), .val (.int p2), .val (.int (p1 &&& (3 : Int32))), .val (.int (p2 &&& (3 : Int32))), .val (.ref s2), .unset, .unset] [(.ref s0)])) st43 ?_
      refine own_go (S' := T43.setTop (mkF m 20 #[.val (.int p1), .val (.int p2), .val (.int (p1 &&& (3 : Int32))), .val (.int (p2 &&& (3 : Int32))), .val (.ref s2), .val (.ref s0), .unset] [])) (fun tg kk => XS.astore X43.here hx rfl (hb hby at_18) rfl rfl (l' := #[.val (.int p1), .val (.int p2), .val (.int (p1 &&& (3 : Int32))), .val (.int (p2 &&& (3 : Int32))), .val (.ref s2), .val (.ref s0), .unset]) rfl kk) ?_
      refine own_go (S' := T43.setTop (mkF m 21 #[.val (.int p1), .val (.int p2), .val (.int (p1 &&& (3 : Int32))), .val (.int (p2 &&& (3 : Int32))), .val (.ref s2), .val (.ref s0), .unset] [(.int (p1 &&& (3 : Int32)))])) (fun tg kk => XS.iloadN X43.here hx rfl (hb hby at_20) rfl kk) ?_
      refine own_go (S' := T43.setTop (mkF m 22 #[.val (.int p1), .val (.int p2), .val (.int (p1 &&& (3 : Int32))), .val (.int (p2 &&& (3 : Int32))), .val (.ref s2), .val (.ref s0), .unset] [(.int (2 : Int32)), (.int (p1 &&& (3 : Int32)))])) (fun tg kk => XT.iconstV X43.here hx rfl (2 : Int32) (hb hby at_21) (by decide) kk) ?_
      refine own_go (S' := T43.setTop (mkF m 34 #[.val (.int p1), .val (.int p2), .val (.int (p1 &&& (3 : Int32))), .val (.int (p2 &&& (3 : Int32))), .val (.ref s2), .val (.ref s0), .unset] [])) (fun tg kk => XS.icmpYes X43.here hx rfl (pc0 := 22) (pc' := 34) rfl (hb hby at_22) rfl (XT.ii_ge_t (by rw [u1]; decide)) (by decide) (by decide) kk) ?_
      refine own_go (S' := T43.setTop (mkF m 35 #[.val (.int p1), .val (.int p2), .val (.int (p1 &&& (3 : Int32))), .val (.int (p2 &&& (3 : Int32))), .val (.ref s2), .val (.ref s0), .unset] [(.int (0 : Int32))])) (fun tg kk => XT.iconstV X43.here hx rfl (0 : Int32) (hb hby at_34) (by decide) kk) ?_
      refine own_go (S' := T43.setTop (mkF m 37 #[.val (.int p1), .val (.int p2), .val (.int (p1 &&& (3 : Int32))), .val (.int (p2 &&& (3 : Int32))), .val (.ref s2), .val (.ref s0), .val (.int (0 : Int32))] [])) (fun tg kk => XS.istore X43.here hx rfl (hb hby at_35) rfl (l' := #[.val (.int p1), .val (.int p2), .val (.int (p1 &&& (3 : Int32))), .val (.int (p2 &&& (3 : Int32))), .val (.ref s2), .val (.ref s0), .val (.int (0 : Int32))]) rfl kk) ?_
      refine own_go (S' := T43.setTop (mkF m 39 #[.val (.int p1), .val (.int p2), .val (.int (p1 &&& (3 : Int32))), .val (.int (p2 &&& (3 : Int32))), .val (.ref s2), .val (.ref s0), .val (.int (0 : Int32))] [(.ref s2)])) (fun tg kk => XS.aload X43.here hx rfl (hb hby at_37) rfl rfl kk) ?_
      refine own_go (S' := T43.setTop (mkF m 41 #[.val (.int p1), .val (.int p2), .val (.int (p1 &&& (3 : Int32))), .val (.int (p2 &&& (3 : Int32))), .val (.ref s2), .val (.ref s0), .val (.int (0 : Int32))] [(.ref s0), (.ref s2)])) (fun tg kk => XS.aload X43.here hx rfl (hb hby at_39) rfl rfl kk) ?_
      obtain ⟨cq45, kq45, qa45, qb45, qc45⟩ := isOf hZ e43 (E_CANCELLED.ext O0.2)
      obtain ⟨v45, _, ⟨T45, L45, k45, n45⟩, -, X45, ⟨Lc45, hQ45, l45, y45, z45⟩, st45⟩ := X43.virtualBack hx (y := (⟨"com/example/zapis/zapis/PrescriptionStatus", "movesTo", "(Lcom/example/zapis/zapis/PrescriptionStatus;)Z"⟩ : MethodName)) (z := (⟨"com/example/zapis/zapis/PrescriptionStatus", "movesTo", "(Lcom/example/zapis/zapis/PrescriptionStatus;)Z"⟩ : MethodName)) hown (mvT hZ (hw _ (List.mem_of_getElem? (i := 9) rfl))) (mvT hZ (hw _ (List.mem_of_getElem? (i := 10) rfl))) (notFace_of_selects (args := #[]) (mvT hZ (hw _ (List.mem_of_getElem? (i := 12) rfl)))) (mvT hZ (hw _ (List.mem_of_getElem? (i := 12) rfl))) (mvT hZ (hw _ (List.mem_of_getElem? (i := 11) rfl))) (by decide) (backOf (W := 0) (rm2 l Z a0 hw [] s2 s0 (2 : Int32) s0 s1 s2 s3 h0 n0 Z0 O0 S_ACTIVE S_ON_HOLD S_CANCELLED S_COMPLETED F_CANCELLED_ordinal E_CANCELLED (Or.inr (Or.inr (Or.inl rfl)))) hZ (hw _ (List.mem_of_getElem? (i := 13) rfl)) (hw _ (List.mem_of_getElem? (i := 5) rfl)) (by decide) (by decide)) qa45 qc45 (g := (mkF m 41 #[.val (.int p1), .val (.int p2), .val (.int (p1 &&& (3 : Int32))), .val (.int (p2 &&& (3 : Int32))), .val (.ref s2), .val (.ref s0), .val (.int (0 : Int32))] [(.ref s0), (.ref s2)])) rfl (by rw [hml]; rfl) (Steps.refl _) (argsL := [(.ref s0)]) (rest := []) (lenOf pd__Lcom_example_zapis_zapis_PrescriptionStatus__Z rfl) rfl (by show 2 * 0 + _ ≤ _; exact Nat.le_of_eq rfl) (hb hby at_41) (fun _ _ => ⟨rfl, e43, (by decide : 0 + 0 ≤ _), (by decide : 0 + 0 ≤ _)⟩)
      dsimp only [Pt.U, Pt.locs, Pt.cells, Pt.slots] at X45 l45 y45 z45 st45 hQ45
      subst l45 y45 z45
      obtain ⟨hv45, M46, e45⟩ := hQ45
      obtain rfl : v45 = some (.int (0 : Int32)) := by rw [hv45]; rw [own_moves, if_neg (by decide), if_neg (by decide)]
      have N46 := Fr.app N44 M46
      refine own_to (S' := T45.setTop (mkF m 44 #[.val (.int p1), .val (.int p2), .val (.int (p1 &&& (3 : Int32))), .val (.int (p2 &&& (3 : Int32))), .val (.ref s2), .val (.ref s0), .val (.int (0 : Int32))] [(.int (0 : Int32))])) st45 ?_
      refine own_go (S' := T45.setTop (mkF m 46 #[.val (.int p1), .val (.int p2), .val (.int (p1 &&& (3 : Int32))), .val (.int (p2 &&& (3 : Int32))), .val (.ref s2), .val (.ref s0), .val (.int (0 : Int32))] [(.int (0 : Int32)), (.int (0 : Int32))])) (fun tg kk => XS.iload X45.here hx rfl (hb hby at_44) rfl kk) ?_
      refine own_go (S' := T45.setTop (mkF m 49 #[.val (.int p1), .val (.int p2), .val (.int (p1 &&& (3 : Int32))), .val (.int (p2 &&& (3 : Int32))), .val (.ref s2), .val (.ref s0), .val (.int (0 : Int32))] [])) (fun tg kk => XS.icmpNo X45.here hx rfl (hb hby at_46) rfl (XT.ii_ne_f (by decide)) kk) ?_
      refine own_go (S' := T45.setTop (mkF m 50 #[.val (.int p1), .val (.int p2), .val (.int (p1 &&& (3 : Int32))), .val (.int (p2 &&& (3 : Int32))), .val (.ref s2), .val (.ref s0), .val (.int (0 : Int32))] [(.int (1 : Int32))])) (fun tg kk => XT.iconstV X45.here hx rfl (1 : Int32) (hb hby at_49) (by decide) kk) ?_
      refine own_go (S' := T45.setTop (mkF m 54 #[.val (.int p1), .val (.int p2), .val (.int (p1 &&& (3 : Int32))), .val (.int (p2 &&& (3 : Int32))), .val (.ref s2), .val (.ref s0), .val (.int (0 : Int32))] [(.int (1 : Int32))])) (fun tg kk => XS.goto X45.here hx rfl (pc0 := 50) (pc' := 54) rfl (hb hby at_50) (by decide) (by decide) kk) ?_
      obtain ⟨fs, hr, hrun, hended, hW, hsame⟩ := X45.leave (v := some (.int (1 : Int32))) (fun h => by rw [Bd.returns] at h; cases h)
      refine ⟨_, _, retN X45 hx (t := .boolean) Bd.returns (by simp) (hb hby at_54) hr, hrun, hended, _, _, rfl, ?_, ⟨_, rfl⟩, hW, hsame.mono (by decide) (by decide)⟩
      show Q0 Z p1 p2 s0 s1 s2 s3 h0 n0 (some (.int (1 : Int32))) T45.heap _
      rw [e45]
      exact ⟨rfl, N46⟩
    · refine own_go (S' := T40.setTop (mkF m 15 #[.val (.int p1), .val (.int p2), .val (.int (p1 &&& (3 : Int32))), .val (.int (p2 &&& (3 : Int32))), .val (.ref s2), .unset, .unset] [(.int (p2 &&& (3 : Int32)))])) (fun tg kk => XS.iloadN X40.here hx rfl (hb hby at_14) rfl kk) ?_
      obtain ⟨v47, _, ⟨T47, L47, k47, n47⟩, -, X47, ⟨Lc47, hQ47, l47, y47, z47⟩, st47⟩ := Jvm.LawKit.callS X40 hx (y := (⟨"com/example/zapis/zapis/PrescriptionStatusMovesToPinLaw", "pick", "(I)Lcom/example/zapis/zapis/PrescriptionStatus;"⟩ : MethodName)) hown (mvT hZ (hw _ (List.mem_of_getElem? (i := 0) rfl))) (mvT hZ (hw _ (List.mem_of_getElem? (i := 1) rfl))) (mvT hZ (hw _ (List.mem_of_getElem? (i := 2) rfl))) (mvT hZ (hw _ (List.mem_of_getElem? (i := 3) rfl))) (by decide) (backOf (W := 0) (rm1 l Z a0 hw [] (p2 &&& (3 : Int32)) s0 s1 s2 s3 h0 n0 Z0 O0 S_ACTIVE S_ON_HOLD S_CANCELLED S_COMPLETED) hZ (hw _ (List.mem_of_getElem? (i := 3) rfl)) (hw _ (List.mem_of_getElem? (i := 2) rfl)) (by decide) (by decide)) (g := (mkF m 15 #[.val (.int p1), .val (.int p2), .val (.int (p1 &&& (3 : Int32))), .val (.int (p2 &&& (3 : Int32))), .val (.ref s2), .unset, .unset] [(.int (p2 &&& (3 : Int32)))])) rfl (by rw [hml]; rfl) (argsL := [(.int (p2 &&& (3 : Int32)))]) (rest := []) (lenOf pd__I_Lcom_example_zapis_zapis_PrescriptionStatus_ rfl) rfl (by show 2 * 0 + _ ≤ _; exact Nat.le_of_eq rfl) (hb hby at_15) (fun _ _ => ⟨rfl, e40, (by decide : 0 + 0 ≤ _), (by decide : 0 + 0 ≤ _)⟩)
      dsimp only [Pt.U, Pt.locs, Pt.cells, Pt.slots] at X47 l47 y47 z47 st47 hQ47
      subst l47 y47 z47
      obtain ⟨hv47, M48, e47⟩ := hQ47
      obtain rfl : v47 = some (.ref s1) := by rw [hv47]; rw [own_pick, u42, if_neg (by decide), if_pos rfl]
      have N48 := Fr.app N41 M48
      refine own_go (S' := T47.setTop (mkF m 18 #[.val (.int p1), .val (.int p2), .val (.int (p1 &&& (3 : Int32))), .val (.int (p2 &&& (3 : Int32))), .val (.ref s2), .unset, .unset] [(.ref s1)])) st47 ?_
      refine own_go (S' := T47.setTop (mkF m 20 #[.val (.int p1), .val (.int p2), .val (.int (p1 &&& (3 : Int32))), .val (.int (p2 &&& (3 : Int32))), .val (.ref s2), .val (.ref s1), .unset] [])) (fun tg kk => XS.astore X47.here hx rfl (hb hby at_18) rfl rfl (l' := #[.val (.int p1), .val (.int p2), .val (.int (p1 &&& (3 : Int32))), .val (.int (p2 &&& (3 : Int32))), .val (.ref s2), .val (.ref s1), .unset]) rfl kk) ?_
      refine own_go (S' := T47.setTop (mkF m 21 #[.val (.int p1), .val (.int p2), .val (.int (p1 &&& (3 : Int32))), .val (.int (p2 &&& (3 : Int32))), .val (.ref s2), .val (.ref s1), .unset] [(.int (p1 &&& (3 : Int32)))])) (fun tg kk => XS.iloadN X47.here hx rfl (hb hby at_20) rfl kk) ?_
      refine own_go (S' := T47.setTop (mkF m 22 #[.val (.int p1), .val (.int p2), .val (.int (p1 &&& (3 : Int32))), .val (.int (p2 &&& (3 : Int32))), .val (.ref s2), .val (.ref s1), .unset] [(.int (2 : Int32)), (.int (p1 &&& (3 : Int32)))])) (fun tg kk => XT.iconstV X47.here hx rfl (2 : Int32) (hb hby at_21) (by decide) kk) ?_
      refine own_go (S' := T47.setTop (mkF m 34 #[.val (.int p1), .val (.int p2), .val (.int (p1 &&& (3 : Int32))), .val (.int (p2 &&& (3 : Int32))), .val (.ref s2), .val (.ref s1), .unset] [])) (fun tg kk => XS.icmpYes X47.here hx rfl (pc0 := 22) (pc' := 34) rfl (hb hby at_22) rfl (XT.ii_ge_t (by rw [u1]; decide)) (by decide) (by decide) kk) ?_
      refine own_go (S' := T47.setTop (mkF m 35 #[.val (.int p1), .val (.int p2), .val (.int (p1 &&& (3 : Int32))), .val (.int (p2 &&& (3 : Int32))), .val (.ref s2), .val (.ref s1), .unset] [(.int (0 : Int32))])) (fun tg kk => XT.iconstV X47.here hx rfl (0 : Int32) (hb hby at_34) (by decide) kk) ?_
      refine own_go (S' := T47.setTop (mkF m 37 #[.val (.int p1), .val (.int p2), .val (.int (p1 &&& (3 : Int32))), .val (.int (p2 &&& (3 : Int32))), .val (.ref s2), .val (.ref s1), .val (.int (0 : Int32))] [])) (fun tg kk => XS.istore X47.here hx rfl (hb hby at_35) rfl (l' := #[.val (.int p1), .val (.int p2), .val (.int (p1 &&& (3 : Int32))), .val (.int (p2 &&& (3 : Int32))), .val (.ref s2), .val (.ref s1), .val (.int (0 : Int32))]) rfl kk) ?_
      refine own_go (S' := T47.setTop (mkF m 39 #[.val (.int p1), .val (.int p2), .val (.int (p1 &&& (3 : Int32))), .val (.int (p2 &&& (3 : Int32))), .val (.ref s2), .val (.ref s1), .val (.int (0 : Int32))] [(.ref s2)])) (fun tg kk => XS.aload X47.here hx rfl (hb hby at_37) rfl rfl kk) ?_
      refine own_go (S' := T47.setTop (mkF m 41 #[.val (.int p1), .val (.int p2), .val (.int (p1 &&& (3 : Int32))), .val (.int (p2 &&& (3 : Int32))), .val (.ref s2), .val (.ref s1), .val (.int (0 : Int32))] [(.ref s1), (.ref s2)])) (fun tg kk => XS.aload X47.here hx rfl (hb hby at_39) rfl rfl kk) ?_
      obtain ⟨cq49, kq49, qa49, qb49, qc49⟩ := isOf hZ e47 (E_CANCELLED.ext O0.2)
      obtain ⟨v49, _, ⟨T49, L49, k49, n49⟩, -, X49, ⟨Lc49, hQ49, l49, y49, z49⟩, st49⟩ := X47.virtualBack hx (y := (⟨"com/example/zapis/zapis/PrescriptionStatus", "movesTo", "(Lcom/example/zapis/zapis/PrescriptionStatus;)Z"⟩ : MethodName)) (z := (⟨"com/example/zapis/zapis/PrescriptionStatus", "movesTo", "(Lcom/example/zapis/zapis/PrescriptionStatus;)Z"⟩ : MethodName)) hown (mvT hZ (hw _ (List.mem_of_getElem? (i := 9) rfl))) (mvT hZ (hw _ (List.mem_of_getElem? (i := 10) rfl))) (notFace_of_selects (args := #[]) (mvT hZ (hw _ (List.mem_of_getElem? (i := 12) rfl)))) (mvT hZ (hw _ (List.mem_of_getElem? (i := 12) rfl))) (mvT hZ (hw _ (List.mem_of_getElem? (i := 11) rfl))) (by decide) (backOf (W := 0) (rm2 l Z a0 hw [] s2 s1 (2 : Int32) s0 s1 s2 s3 h0 n0 Z0 O0 S_ACTIVE S_ON_HOLD S_CANCELLED S_COMPLETED F_CANCELLED_ordinal E_CANCELLED (Or.inr (Or.inr (Or.inl rfl)))) hZ (hw _ (List.mem_of_getElem? (i := 13) rfl)) (hw _ (List.mem_of_getElem? (i := 5) rfl)) (by decide) (by decide)) qa49 qc49 (g := (mkF m 41 #[.val (.int p1), .val (.int p2), .val (.int (p1 &&& (3 : Int32))), .val (.int (p2 &&& (3 : Int32))), .val (.ref s2), .val (.ref s1), .val (.int (0 : Int32))] [(.ref s1), (.ref s2)])) rfl (by rw [hml]; rfl) (Steps.refl _) (argsL := [(.ref s1)]) (rest := []) (lenOf pd__Lcom_example_zapis_zapis_PrescriptionStatus__Z rfl) rfl (by show 2 * 0 + _ ≤ _; exact Nat.le_of_eq rfl) (hb hby at_41) (fun _ _ => ⟨rfl, e47, (by decide : 0 + 0 ≤ _), (by decide : 0 + 0 ≤ _)⟩)
      dsimp only [Pt.U, Pt.locs, Pt.cells, Pt.slots] at X49 l49 y49 z49 st49 hQ49
      subst l49 y49 z49
      obtain ⟨hv49, M50, e49⟩ := hQ49
      obtain rfl : v49 = some (.int (0 : Int32)) := by rw [hv49]; rw [own_moves, if_neg (by decide), if_neg (by decide)]
      have N50 := Fr.app N48 M50
      refine own_to (S' := T49.setTop (mkF m 44 #[.val (.int p1), .val (.int p2), .val (.int (p1 &&& (3 : Int32))), .val (.int (p2 &&& (3 : Int32))), .val (.ref s2), .val (.ref s1), .val (.int (0 : Int32))] [(.int (0 : Int32))])) st49 ?_
      refine own_go (S' := T49.setTop (mkF m 46 #[.val (.int p1), .val (.int p2), .val (.int (p1 &&& (3 : Int32))), .val (.int (p2 &&& (3 : Int32))), .val (.ref s2), .val (.ref s1), .val (.int (0 : Int32))] [(.int (0 : Int32)), (.int (0 : Int32))])) (fun tg kk => XS.iload X49.here hx rfl (hb hby at_44) rfl kk) ?_
      refine own_go (S' := T49.setTop (mkF m 49 #[.val (.int p1), .val (.int p2), .val (.int (p1 &&& (3 : Int32))), .val (.int (p2 &&& (3 : Int32))), .val (.ref s2), .val (.ref s1), .val (.int (0 : Int32))] [])) (fun tg kk => XS.icmpNo X49.here hx rfl (hb hby at_46) rfl (XT.ii_ne_f (by decide)) kk) ?_
      refine own_go (S' := T49.setTop (mkF m 50 #[.val (.int p1), .val (.int p2), .val (.int (p1 &&& (3 : Int32))), .val (.int (p2 &&& (3 : Int32))), .val (.ref s2), .val (.ref s1), .val (.int (0 : Int32))] [(.int (1 : Int32))])) (fun tg kk => XT.iconstV X49.here hx rfl (1 : Int32) (hb hby at_49) (by decide) kk) ?_
      refine own_go (S' := T49.setTop (mkF m 54 #[.val (.int p1), .val (.int p2), .val (.int (p1 &&& (3 : Int32))), .val (.int (p2 &&& (3 : Int32))), .val (.ref s2), .val (.ref s1), .val (.int (0 : Int32))] [(.int (1 : Int32))])) (fun tg kk => XS.goto X49.here hx rfl (pc0 := 50) (pc' := 54) rfl (hb hby at_50) (by decide) (by decide) kk) ?_
      obtain ⟨fs, hr, hrun, hended, hW, hsame⟩ := X49.leave (v := some (.int (1 : Int32))) (fun h => by rw [Bd.returns] at h; cases h)
      refine ⟨_, _, retN X49 hx (t := .boolean) Bd.returns (by simp) (hb hby at_54) hr, hrun, hended, _, _, rfl, ?_, ⟨_, rfl⟩, hW, hsame.mono (by decide) (by decide)⟩
      show Q0 Z p1 p2 s0 s1 s2 s3 h0 n0 (some (.int (1 : Int32))) T49.heap _
      rw [e49]
      exact ⟨rfl, N50⟩
    · refine own_go (S' := T40.setTop (mkF m 15 #[.val (.int p1), .val (.int p2), .val (.int (p1 &&& (3 : Int32))), .val (.int (p2 &&& (3 : Int32))), .val (.ref s2), .unset, .unset] [(.int (p2 &&& (3 : Int32)))])) (fun tg kk => XS.iloadN X40.here hx rfl (hb hby at_14) rfl kk) ?_
      obtain ⟨v51, _, ⟨T51, L51, k51, n51⟩, -, X51, ⟨Lc51, hQ51, l51, y51, z51⟩, st51⟩ := Jvm.LawKit.callS X40 hx (y := (⟨"com/example/zapis/zapis/PrescriptionStatusMovesToPinLaw", "pick", "(I)Lcom/example/zapis/zapis/PrescriptionStatus;"⟩ : MethodName)) hown (mvT hZ (hw _ (List.mem_of_getElem? (i := 0) rfl))) (mvT hZ (hw _ (List.mem_of_getElem? (i := 1) rfl))) (mvT hZ (hw _ (List.mem_of_getElem? (i := 2) rfl))) (mvT hZ (hw _ (List.mem_of_getElem? (i := 3) rfl))) (by decide) (backOf (W := 0) (rm1 l Z a0 hw [] (p2 &&& (3 : Int32)) s0 s1 s2 s3 h0 n0 Z0 O0 S_ACTIVE S_ON_HOLD S_CANCELLED S_COMPLETED) hZ (hw _ (List.mem_of_getElem? (i := 3) rfl)) (hw _ (List.mem_of_getElem? (i := 2) rfl)) (by decide) (by decide)) (g := (mkF m 15 #[.val (.int p1), .val (.int p2), .val (.int (p1 &&& (3 : Int32))), .val (.int (p2 &&& (3 : Int32))), .val (.ref s2), .unset, .unset] [(.int (p2 &&& (3 : Int32)))])) rfl (by rw [hml]; rfl) (argsL := [(.int (p2 &&& (3 : Int32)))]) (rest := []) (lenOf pd__I_Lcom_example_zapis_zapis_PrescriptionStatus_ rfl) rfl (by show 2 * 0 + _ ≤ _; exact Nat.le_of_eq rfl) (hb hby at_15) (fun _ _ => ⟨rfl, e40, (by decide : 0 + 0 ≤ _), (by decide : 0 + 0 ≤ _)⟩)
      dsimp only [Pt.U, Pt.locs, Pt.cells, Pt.slots] at X51 l51 y51 z51 st51 hQ51
      subst l51 y51 z51
      obtain ⟨hv51, M52, e51⟩ := hQ51
      obtain rfl : v51 = some (.ref s2) := by rw [hv51]; rw [own_pick, u42, if_neg (by decide), if_neg (by decide), if_pos rfl]
      have N52 := Fr.app N41 M52
      refine own_go (S' := T51.setTop (mkF m 18 #[.val (.int p1), .val (.int p2), .val (.int (p1 &&& (3 : Int32))), .val (.int (p2 &&& (3 : Int32))), .val (.ref s2), .unset, .unset] [(.ref s2)])) st51 ?_
      refine own_go (S' := T51.setTop (mkF m 20 #[.val (.int p1), .val (.int p2), .val (.int (p1 &&& (3 : Int32))), .val (.int (p2 &&& (3 : Int32))), .val (.ref s2), .val (.ref s2), .unset] [])) (fun tg kk => XS.astore X51.here hx rfl (hb hby at_18) rfl rfl (l' := #[.val (.int p1), .val (.int p2), .val (.int (p1 &&& (3 : Int32))), .val (.int (p2 &&& (3 : Int32))), .val (.ref s2), .val (.ref s2), .unset]) rfl kk) ?_
      refine own_go (S' := T51.setTop (mkF m 21 #[.val (.int p1), .val (.int p2), .val (.int (p1 &&& (3 : Int32))), .val (.int (p2 &&& (3 : Int32))), .val (.ref s2), .val (.ref s2), .unset] [(.int (p1 &&& (3 : Int32)))])) (fun tg kk => XS.iloadN X51.here hx rfl (hb hby at_20) rfl kk) ?_
      refine own_go (S' := T51.setTop (mkF m 22 #[.val (.int p1), .val (.int p2), .val (.int (p1 &&& (3 : Int32))), .val (.int (p2 &&& (3 : Int32))), .val (.ref s2), .val (.ref s2), .unset] [(.int (2 : Int32)), (.int (p1 &&& (3 : Int32)))])) (fun tg kk => XT.iconstV X51.here hx rfl (2 : Int32) (hb hby at_21) (by decide) kk) ?_
      refine own_go (S' := T51.setTop (mkF m 34 #[.val (.int p1), .val (.int p2), .val (.int (p1 &&& (3 : Int32))), .val (.int (p2 &&& (3 : Int32))), .val (.ref s2), .val (.ref s2), .unset] [])) (fun tg kk => XS.icmpYes X51.here hx rfl (pc0 := 22) (pc' := 34) rfl (hb hby at_22) rfl (XT.ii_ge_t (by rw [u1]; decide)) (by decide) (by decide) kk) ?_
      refine own_go (S' := T51.setTop (mkF m 35 #[.val (.int p1), .val (.int p2), .val (.int (p1 &&& (3 : Int32))), .val (.int (p2 &&& (3 : Int32))), .val (.ref s2), .val (.ref s2), .unset] [(.int (0 : Int32))])) (fun tg kk => XT.iconstV X51.here hx rfl (0 : Int32) (hb hby at_34) (by decide) kk) ?_
      refine own_go (S' := T51.setTop (mkF m 37 #[.val (.int p1), .val (.int p2), .val (.int (p1 &&& (3 : Int32))), .val (.int (p2 &&& (3 : Int32))), .val (.ref s2), .val (.ref s2), .val (.int (0 : Int32))] [])) (fun tg kk => XS.istore X51.here hx rfl (hb hby at_35) rfl (l' := #[.val (.int p1), .val (.int p2), .val (.int (p1 &&& (3 : Int32))), .val (.int (p2 &&& (3 : Int32))), .val (.ref s2), .val (.ref s2), .val (.int (0 : Int32))]) rfl kk) ?_
      refine own_go (S' := T51.setTop (mkF m 39 #[.val (.int p1), .val (.int p2), .val (.int (p1 &&& (3 : Int32))), .val (.int (p2 &&& (3 : Int32))), .val (.ref s2), .val (.ref s2), .val (.int (0 : Int32))] [(.ref s2)])) (fun tg kk => XS.aload X51.here hx rfl (hb hby at_37) rfl rfl kk) ?_
      refine own_go (S' := T51.setTop (mkF m 41 #[.val (.int p1), .val (.int p2), .val (.int (p1 &&& (3 : Int32))), .val (.int (p2 &&& (3 : Int32))), .val (.ref s2), .val (.ref s2), .val (.int (0 : Int32))] [(.ref s2), (.ref s2)])) (fun tg kk => XS.aload X51.here hx rfl (hb hby at_39) rfl rfl kk) ?_
      obtain ⟨cq53, kq53, qa53, qb53, qc53⟩ := isOf hZ e51 (E_CANCELLED.ext O0.2)
      obtain ⟨v53, _, ⟨T53, L53, k53, n53⟩, -, X53, ⟨Lc53, hQ53, l53, y53, z53⟩, st53⟩ := X51.virtualBack hx (y := (⟨"com/example/zapis/zapis/PrescriptionStatus", "movesTo", "(Lcom/example/zapis/zapis/PrescriptionStatus;)Z"⟩ : MethodName)) (z := (⟨"com/example/zapis/zapis/PrescriptionStatus", "movesTo", "(Lcom/example/zapis/zapis/PrescriptionStatus;)Z"⟩ : MethodName)) hown (mvT hZ (hw _ (List.mem_of_getElem? (i := 9) rfl))) (mvT hZ (hw _ (List.mem_of_getElem? (i := 10) rfl))) (notFace_of_selects (args := #[]) (mvT hZ (hw _ (List.mem_of_getElem? (i := 12) rfl)))) (mvT hZ (hw _ (List.mem_of_getElem? (i := 12) rfl))) (mvT hZ (hw _ (List.mem_of_getElem? (i := 11) rfl))) (by decide) (backOf (W := 0) (rm2 l Z a0 hw [] s2 s2 (2 : Int32) s0 s1 s2 s3 h0 n0 Z0 O0 S_ACTIVE S_ON_HOLD S_CANCELLED S_COMPLETED F_CANCELLED_ordinal E_CANCELLED (Or.inr (Or.inr (Or.inl rfl)))) hZ (hw _ (List.mem_of_getElem? (i := 13) rfl)) (hw _ (List.mem_of_getElem? (i := 5) rfl)) (by decide) (by decide)) qa53 qc53 (g := (mkF m 41 #[.val (.int p1), .val (.int p2), .val (.int (p1 &&& (3 : Int32))), .val (.int (p2 &&& (3 : Int32))), .val (.ref s2), .val (.ref s2), .val (.int (0 : Int32))] [(.ref s2), (.ref s2)])) rfl (by rw [hml]; rfl) (Steps.refl _) (argsL := [(.ref s2)]) (rest := []) (lenOf pd__Lcom_example_zapis_zapis_PrescriptionStatus__Z rfl) rfl (by show 2 * 0 + _ ≤ _; exact Nat.le_of_eq rfl) (hb hby at_41) (fun _ _ => ⟨rfl, e51, (by decide : 0 + 0 ≤ _), (by decide : 0 + 0 ≤ _)⟩)
      dsimp only [Pt.U, Pt.locs, Pt.cells, Pt.slots] at X53 l53 y53 z53 st53 hQ53
      subst l53 y53 z53
      obtain ⟨hv53, M54, e53⟩ := hQ53
      obtain rfl : v53 = some (.int (0 : Int32)) := by rw [hv53]; rw [own_moves, if_neg (by decide), if_neg (by decide)]
      have N54 := Fr.app N52 M54
      refine own_to (S' := T53.setTop (mkF m 44 #[.val (.int p1), .val (.int p2), .val (.int (p1 &&& (3 : Int32))), .val (.int (p2 &&& (3 : Int32))), .val (.ref s2), .val (.ref s2), .val (.int (0 : Int32))] [(.int (0 : Int32))])) st53 ?_
      refine own_go (S' := T53.setTop (mkF m 46 #[.val (.int p1), .val (.int p2), .val (.int (p1 &&& (3 : Int32))), .val (.int (p2 &&& (3 : Int32))), .val (.ref s2), .val (.ref s2), .val (.int (0 : Int32))] [(.int (0 : Int32)), (.int (0 : Int32))])) (fun tg kk => XS.iload X53.here hx rfl (hb hby at_44) rfl kk) ?_
      refine own_go (S' := T53.setTop (mkF m 49 #[.val (.int p1), .val (.int p2), .val (.int (p1 &&& (3 : Int32))), .val (.int (p2 &&& (3 : Int32))), .val (.ref s2), .val (.ref s2), .val (.int (0 : Int32))] [])) (fun tg kk => XS.icmpNo X53.here hx rfl (hb hby at_46) rfl (XT.ii_ne_f (by decide)) kk) ?_
      refine own_go (S' := T53.setTop (mkF m 50 #[.val (.int p1), .val (.int p2), .val (.int (p1 &&& (3 : Int32))), .val (.int (p2 &&& (3 : Int32))), .val (.ref s2), .val (.ref s2), .val (.int (0 : Int32))] [(.int (1 : Int32))])) (fun tg kk => XT.iconstV X53.here hx rfl (1 : Int32) (hb hby at_49) (by decide) kk) ?_
      refine own_go (S' := T53.setTop (mkF m 54 #[.val (.int p1), .val (.int p2), .val (.int (p1 &&& (3 : Int32))), .val (.int (p2 &&& (3 : Int32))), .val (.ref s2), .val (.ref s2), .val (.int (0 : Int32))] [(.int (1 : Int32))])) (fun tg kk => XS.goto X53.here hx rfl (pc0 := 50) (pc' := 54) rfl (hb hby at_50) (by decide) (by decide) kk) ?_
      obtain ⟨fs, hr, hrun, hended, hW, hsame⟩ := X53.leave (v := some (.int (1 : Int32))) (fun h => by rw [Bd.returns] at h; cases h)
      refine ⟨_, _, retN X53 hx (t := .boolean) Bd.returns (by simp) (hb hby at_54) hr, hrun, hended, _, _, rfl, ?_, ⟨_, rfl⟩, hW, hsame.mono (by decide) (by decide)⟩
      show Q0 Z p1 p2 s0 s1 s2 s3 h0 n0 (some (.int (1 : Int32))) T53.heap _
      rw [e53]
      exact ⟨rfl, N54⟩
    · refine own_go (S' := T40.setTop (mkF m 15 #[.val (.int p1), .val (.int p2), .val (.int (p1 &&& (3 : Int32))), .val (.int (p2 &&& (3 : Int32))), .val (.ref s2), .unset, .unset] [(.int (p2 &&& (3 : Int32)))])) (fun tg kk => XS.iloadN X40.here hx rfl (hb hby at_14) rfl kk) ?_
      obtain ⟨v55, _, ⟨T55, L55, k55, n55⟩, -, X55, ⟨Lc55, hQ55, l55, y55, z55⟩, st55⟩ := Jvm.LawKit.callS X40 hx (y := (⟨"com/example/zapis/zapis/PrescriptionStatusMovesToPinLaw", "pick", "(I)Lcom/example/zapis/zapis/PrescriptionStatus;"⟩ : MethodName)) hown (mvT hZ (hw _ (List.mem_of_getElem? (i := 0) rfl))) (mvT hZ (hw _ (List.mem_of_getElem? (i := 1) rfl))) (mvT hZ (hw _ (List.mem_of_getElem? (i := 2) rfl))) (mvT hZ (hw _ (List.mem_of_getElem? (i := 3) rfl))) (by decide) (backOf (W := 0) (rm1 l Z a0 hw [] (p2 &&& (3 : Int32)) s0 s1 s2 s3 h0 n0 Z0 O0 S_ACTIVE S_ON_HOLD S_CANCELLED S_COMPLETED) hZ (hw _ (List.mem_of_getElem? (i := 3) rfl)) (hw _ (List.mem_of_getElem? (i := 2) rfl)) (by decide) (by decide)) (g := (mkF m 15 #[.val (.int p1), .val (.int p2), .val (.int (p1 &&& (3 : Int32))), .val (.int (p2 &&& (3 : Int32))), .val (.ref s2), .unset, .unset] [(.int (p2 &&& (3 : Int32)))])) rfl (by rw [hml]; rfl) (argsL := [(.int (p2 &&& (3 : Int32)))]) (rest := []) (lenOf pd__I_Lcom_example_zapis_zapis_PrescriptionStatus_ rfl) rfl (by show 2 * 0 + _ ≤ _; exact Nat.le_of_eq rfl) (hb hby at_15) (fun _ _ => ⟨rfl, e40, (by decide : 0 + 0 ≤ _), (by decide : 0 + 0 ≤ _)⟩)
      dsimp only [Pt.U, Pt.locs, Pt.cells, Pt.slots] at X55 l55 y55 z55 st55 hQ55
      subst l55 y55 z55
      obtain ⟨hv55, M56, e55⟩ := hQ55
      obtain rfl : v55 = some (.ref s3) := by rw [hv55]; rw [own_pick, u42, if_neg (by decide), if_neg (by decide), if_neg (by decide)]
      have N56 := Fr.app N41 M56
      refine own_go (S' := T55.setTop (mkF m 18 #[.val (.int p1), .val (.int p2), .val (.int (p1 &&& (3 : Int32))), .val (.int (p2 &&& (3 : Int32))), .val (.ref s2), .unset, .unset] [(.ref s3)])) st55 ?_
      refine own_go (S' := T55.setTop (mkF m 20 #[.val (.int p1), .val (.int p2), .val (.int (p1 &&& (3 : Int32))), .val (.int (p2 &&& (3 : Int32))), .val (.ref s2), .val (.ref s3), .unset] [])) (fun tg kk => XS.astore X55.here hx rfl (hb hby at_18) rfl rfl (l' := #[.val (.int p1), .val (.int p2), .val (.int (p1 &&& (3 : Int32))), .val (.int (p2 &&& (3 : Int32))), .val (.ref s2), .val (.ref s3), .unset]) rfl kk) ?_
      refine own_go (S' := T55.setTop (mkF m 21 #[.val (.int p1), .val (.int p2), .val (.int (p1 &&& (3 : Int32))), .val (.int (p2 &&& (3 : Int32))), .val (.ref s2), .val (.ref s3), .unset] [(.int (p1 &&& (3 : Int32)))])) (fun tg kk => XS.iloadN X55.here hx rfl (hb hby at_20) rfl kk) ?_
      refine own_go (S' := T55.setTop (mkF m 22 #[.val (.int p1), .val (.int p2), .val (.int (p1 &&& (3 : Int32))), .val (.int (p2 &&& (3 : Int32))), .val (.ref s2), .val (.ref s3), .unset] [(.int (2 : Int32)), (.int (p1 &&& (3 : Int32)))])) (fun tg kk => XT.iconstV X55.here hx rfl (2 : Int32) (hb hby at_21) (by decide) kk) ?_
      refine own_go (S' := T55.setTop (mkF m 34 #[.val (.int p1), .val (.int p2), .val (.int (p1 &&& (3 : Int32))), .val (.int (p2 &&& (3 : Int32))), .val (.ref s2), .val (.ref s3), .unset] [])) (fun tg kk => XS.icmpYes X55.here hx rfl (pc0 := 22) (pc' := 34) rfl (hb hby at_22) rfl (XT.ii_ge_t (by rw [u1]; decide)) (by decide) (by decide) kk) ?_
      refine own_go (S' := T55.setTop (mkF m 35 #[.val (.int p1), .val (.int p2), .val (.int (p1 &&& (3 : Int32))), .val (.int (p2 &&& (3 : Int32))), .val (.ref s2), .val (.ref s3), .unset] [(.int (0 : Int32))])) (fun tg kk => XT.iconstV X55.here hx rfl (0 : Int32) (hb hby at_34) (by decide) kk) ?_
      refine own_go (S' := T55.setTop (mkF m 37 #[.val (.int p1), .val (.int p2), .val (.int (p1 &&& (3 : Int32))), .val (.int (p2 &&& (3 : Int32))), .val (.ref s2), .val (.ref s3), .val (.int (0 : Int32))] [])) (fun tg kk => XS.istore X55.here hx rfl (hb hby at_35) rfl (l' := #[.val (.int p1), .val (.int p2), .val (.int (p1 &&& (3 : Int32))), .val (.int (p2 &&& (3 : Int32))), .val (.ref s2), .val (.ref s3), .val (.int (0 : Int32))]) rfl kk) ?_
      refine own_go (S' := T55.setTop (mkF m 39 #[.val (.int p1), .val (.int p2), .val (.int (p1 &&& (3 : Int32))), .val (.int (p2 &&& (3 : Int32))), .val (.ref s2), .val (.ref s3), .val (.int (0 : Int32))] [(.ref s2)])) (fun tg kk => XS.aload X55.here hx rfl (hb hby at_37) rfl rfl kk) ?_
      refine own_go (S' := T55.setTop (mkF m 41 #[.val (.int p1), .val (.int p2), .val (.int (p1 &&& (3 : Int32))), .val (.int (p2 &&& (3 : Int32))), .val (.ref s2), .val (.ref s3), .val (.int (0 : Int32))] [(.ref s3), (.ref s2)])) (fun tg kk => XS.aload X55.here hx rfl (hb hby at_39) rfl rfl kk) ?_
      obtain ⟨cq57, kq57, qa57, qb57, qc57⟩ := isOf hZ e55 (E_CANCELLED.ext O0.2)
      obtain ⟨v57, _, ⟨T57, L57, k57, n57⟩, -, X57, ⟨Lc57, hQ57, l57, y57, z57⟩, st57⟩ := X55.virtualBack hx (y := (⟨"com/example/zapis/zapis/PrescriptionStatus", "movesTo", "(Lcom/example/zapis/zapis/PrescriptionStatus;)Z"⟩ : MethodName)) (z := (⟨"com/example/zapis/zapis/PrescriptionStatus", "movesTo", "(Lcom/example/zapis/zapis/PrescriptionStatus;)Z"⟩ : MethodName)) hown (mvT hZ (hw _ (List.mem_of_getElem? (i := 9) rfl))) (mvT hZ (hw _ (List.mem_of_getElem? (i := 10) rfl))) (notFace_of_selects (args := #[]) (mvT hZ (hw _ (List.mem_of_getElem? (i := 12) rfl)))) (mvT hZ (hw _ (List.mem_of_getElem? (i := 12) rfl))) (mvT hZ (hw _ (List.mem_of_getElem? (i := 11) rfl))) (by decide) (backOf (W := 0) (rm2 l Z a0 hw [] s2 s3 (2 : Int32) s0 s1 s2 s3 h0 n0 Z0 O0 S_ACTIVE S_ON_HOLD S_CANCELLED S_COMPLETED F_CANCELLED_ordinal E_CANCELLED (Or.inr (Or.inr (Or.inl rfl)))) hZ (hw _ (List.mem_of_getElem? (i := 13) rfl)) (hw _ (List.mem_of_getElem? (i := 5) rfl)) (by decide) (by decide)) qa57 qc57 (g := (mkF m 41 #[.val (.int p1), .val (.int p2), .val (.int (p1 &&& (3 : Int32))), .val (.int (p2 &&& (3 : Int32))), .val (.ref s2), .val (.ref s3), .val (.int (0 : Int32))] [(.ref s3), (.ref s2)])) rfl (by rw [hml]; rfl) (Steps.refl _) (argsL := [(.ref s3)]) (rest := []) (lenOf pd__Lcom_example_zapis_zapis_PrescriptionStatus__Z rfl) rfl (by show 2 * 0 + _ ≤ _; exact Nat.le_of_eq rfl) (hb hby at_41) (fun _ _ => ⟨rfl, e55, (by decide : 0 + 0 ≤ _), (by decide : 0 + 0 ≤ _)⟩)
      dsimp only [Pt.U, Pt.locs, Pt.cells, Pt.slots] at X57 l57 y57 z57 st57 hQ57
      subst l57 y57 z57
      obtain ⟨hv57, M58, e57⟩ := hQ57
      obtain rfl : v57 = some (.int (0 : Int32)) := by rw [hv57]; rw [own_moves, if_neg (by decide), if_neg (by decide)]
      have N58 := Fr.app N56 M58
      refine own_to (S' := T57.setTop (mkF m 44 #[.val (.int p1), .val (.int p2), .val (.int (p1 &&& (3 : Int32))), .val (.int (p2 &&& (3 : Int32))), .val (.ref s2), .val (.ref s3), .val (.int (0 : Int32))] [(.int (0 : Int32))])) st57 ?_
      refine own_go (S' := T57.setTop (mkF m 46 #[.val (.int p1), .val (.int p2), .val (.int (p1 &&& (3 : Int32))), .val (.int (p2 &&& (3 : Int32))), .val (.ref s2), .val (.ref s3), .val (.int (0 : Int32))] [(.int (0 : Int32)), (.int (0 : Int32))])) (fun tg kk => XS.iload X57.here hx rfl (hb hby at_44) rfl kk) ?_
      refine own_go (S' := T57.setTop (mkF m 49 #[.val (.int p1), .val (.int p2), .val (.int (p1 &&& (3 : Int32))), .val (.int (p2 &&& (3 : Int32))), .val (.ref s2), .val (.ref s3), .val (.int (0 : Int32))] [])) (fun tg kk => XS.icmpNo X57.here hx rfl (hb hby at_46) rfl (XT.ii_ne_f (by decide)) kk) ?_
      refine own_go (S' := T57.setTop (mkF m 50 #[.val (.int p1), .val (.int p2), .val (.int (p1 &&& (3 : Int32))), .val (.int (p2 &&& (3 : Int32))), .val (.ref s2), .val (.ref s3), .val (.int (0 : Int32))] [(.int (1 : Int32))])) (fun tg kk => XT.iconstV X57.here hx rfl (1 : Int32) (hb hby at_49) (by decide) kk) ?_
      refine own_go (S' := T57.setTop (mkF m 54 #[.val (.int p1), .val (.int p2), .val (.int (p1 &&& (3 : Int32))), .val (.int (p2 &&& (3 : Int32))), .val (.ref s2), .val (.ref s3), .val (.int (0 : Int32))] [(.int (1 : Int32))])) (fun tg kk => XS.goto X57.here hx rfl (pc0 := 50) (pc' := 54) rfl (hb hby at_50) (by decide) (by decide) kk) ?_
      obtain ⟨fs, hr, hrun, hended, hW, hsame⟩ := X57.leave (v := some (.int (1 : Int32))) (fun h => by rw [Bd.returns] at h; cases h)
      refine ⟨_, _, retN X57 hx (t := .boolean) Bd.returns (by simp) (hb hby at_54) hr, hrun, hended, _, _, rfl, ?_, ⟨_, rfl⟩, hW, hsame.mono (by decide) (by decide)⟩
      show Q0 Z p1 p2 s0 s1 s2 s3 h0 n0 (some (.int (1 : Int32))) T57.heap _
      rw [e57]
      exact ⟨rfl, N58⟩
  · refine own_go (S' := s₁.setTop (mkF m 9 #[.val (.int p1), .val (.int p2), .val (.int (p1 &&& (3 : Int32))), .val (.int (p2 &&& (3 : Int32))), .unset, .unset, .unset] [(.int (p1 &&& (3 : Int32)))])) (fun tg kk => XS.iloadN X0.here hx rfl (hb hby at_8) rfl kk) ?_
    obtain ⟨v59, _, ⟨T59, L59, k59, n59⟩, -, X59, ⟨Lc59, hQ59, l59, y59, z59⟩, st59⟩ := Jvm.LawKit.callS X0 hx (y := (⟨"com/example/zapis/zapis/PrescriptionStatusMovesToPinLaw", "pick", "(I)Lcom/example/zapis/zapis/PrescriptionStatus;"⟩ : MethodName)) hown (mvT hZ (hw _ (List.mem_of_getElem? (i := 0) rfl))) (mvT hZ (hw _ (List.mem_of_getElem? (i := 1) rfl))) (mvT hZ (hw _ (List.mem_of_getElem? (i := 2) rfl))) (mvT hZ (hw _ (List.mem_of_getElem? (i := 3) rfl))) (by decide) (backOf (W := 0) (rm1 l Z a0 hw [] (p1 &&& (3 : Int32)) s0 s1 s2 s3 h0 n0 Z0 O0 S_ACTIVE S_ON_HOLD S_CANCELLED S_COMPLETED) hZ (hw _ (List.mem_of_getElem? (i := 3) rfl)) (hw _ (List.mem_of_getElem? (i := 2) rfl)) (by decide) (by decide)) (g := (mkF m 9 #[.val (.int p1), .val (.int p2), .val (.int (p1 &&& (3 : Int32))), .val (.int (p2 &&& (3 : Int32))), .unset, .unset, .unset] [(.int (p1 &&& (3 : Int32)))])) rfl (by rw [hml]; rfl) (argsL := [(.int (p1 &&& (3 : Int32)))]) (rest := []) (lenOf pd__I_Lcom_example_zapis_zapis_PrescriptionStatus_ rfl) rfl (by show 2 * 0 + _ ≤ _; exact Nat.le_of_eq rfl) (hb hby at_9) (fun _ _ => ⟨rfl, e0, (by decide : 0 + 0 ≤ _), (by decide : 0 + 0 ≤ _)⟩)
    dsimp only [Pt.U, Pt.locs, Pt.cells, Pt.slots] at X59 l59 y59 z59 st59 hQ59
    subst l59 y59 z59
    obtain ⟨hv59, M60, e59⟩ := hQ59
    obtain rfl : v59 = some (.ref s3) := by rw [hv59]; rw [own_pick, u1, if_neg (by decide), if_neg (by decide), if_neg (by decide)]
    have N60 := Fr.app N0 M60
    refine own_go (S' := T59.setTop (mkF m 12 #[.val (.int p1), .val (.int p2), .val (.int (p1 &&& (3 : Int32))), .val (.int (p2 &&& (3 : Int32))), .unset, .unset, .unset] [(.ref s3)])) st59 ?_
    refine own_go (S' := T59.setTop (mkF m 14 #[.val (.int p1), .val (.int p2), .val (.int (p1 &&& (3 : Int32))), .val (.int (p2 &&& (3 : Int32))), .val (.ref s3), .unset, .unset] [])) (fun tg kk => XS.astore X59.here hx rfl (hb hby at_12) rfl rfl (l' := #[.val (.int p1), .val (.int p2), .val (.int (p1 &&& (3 : Int32))), .val (.int (p2 &&& (3 : Int32))), .val (.ref s3), .unset, .unset]) rfl kk) ?_
    rcases own_le3 p2 with u61 | u61 | u61 | u61
    · refine own_go (S' := T59.setTop (mkF m 15 #[.val (.int p1), .val (.int p2), .val (.int (p1 &&& (3 : Int32))), .val (.int (p2 &&& (3 : Int32))), .val (.ref s3), .unset, .unset] [(.int (p2 &&& (3 : Int32)))])) (fun tg kk => XS.iloadN X59.here hx rfl (hb hby at_14) rfl kk) ?_
      obtain ⟨v62, _, ⟨T62, L62, k62, n62⟩, -, X62, ⟨Lc62, hQ62, l62, y62, z62⟩, st62⟩ := Jvm.LawKit.callS X59 hx (y := (⟨"com/example/zapis/zapis/PrescriptionStatusMovesToPinLaw", "pick", "(I)Lcom/example/zapis/zapis/PrescriptionStatus;"⟩ : MethodName)) hown (mvT hZ (hw _ (List.mem_of_getElem? (i := 0) rfl))) (mvT hZ (hw _ (List.mem_of_getElem? (i := 1) rfl))) (mvT hZ (hw _ (List.mem_of_getElem? (i := 2) rfl))) (mvT hZ (hw _ (List.mem_of_getElem? (i := 3) rfl))) (by decide) (backOf (W := 0) (rm1 l Z a0 hw [] (p2 &&& (3 : Int32)) s0 s1 s2 s3 h0 n0 Z0 O0 S_ACTIVE S_ON_HOLD S_CANCELLED S_COMPLETED) hZ (hw _ (List.mem_of_getElem? (i := 3) rfl)) (hw _ (List.mem_of_getElem? (i := 2) rfl)) (by decide) (by decide)) (g := (mkF m 15 #[.val (.int p1), .val (.int p2), .val (.int (p1 &&& (3 : Int32))), .val (.int (p2 &&& (3 : Int32))), .val (.ref s3), .unset, .unset] [(.int (p2 &&& (3 : Int32)))])) rfl (by rw [hml]; rfl) (argsL := [(.int (p2 &&& (3 : Int32)))]) (rest := []) (lenOf pd__I_Lcom_example_zapis_zapis_PrescriptionStatus_ rfl) rfl (by show 2 * 0 + _ ≤ _; exact Nat.le_of_eq rfl) (hb hby at_15) (fun _ _ => ⟨rfl, e59, (by decide : 0 + 0 ≤ _), (by decide : 0 + 0 ≤ _)⟩)
      dsimp only [Pt.U, Pt.locs, Pt.cells, Pt.slots] at X62 l62 y62 z62 st62 hQ62
      subst l62 y62 z62
      obtain ⟨hv62, M63, e62⟩ := hQ62
      obtain rfl : v62 = some (.ref s0) := by rw [hv62]; rw [own_pick, u61, if_pos rfl]
      have N63 := Fr.app N60 M63
      refine own_go (S' := T62.setTop (mkF m 18 #[.val (.int p1), .val (.int p2), .val (.int (p1 &&& (3 : Int32))), .val (.int (p2 &&& (3 : Int32))), .val (.ref s3), .unset, .unset] [(.ref s0)])) st62 ?_
      refine own_go (S' := T62.setTop (mkF m 20 #[.val (.int p1), .val (.int p2), .val (.int (p1 &&& (3 : Int32))), .val (.int (p2 &&& (3 : Int32))), .val (.ref s3), .val (.ref s0), .unset] [])) (fun tg kk => XS.astore X62.here hx rfl (hb hby at_18) rfl rfl (l' := #[.val (.int p1), .val (.int p2), .val (.int (p1 &&& (3 : Int32))), .val (.int (p2 &&& (3 : Int32))), .val (.ref s3), .val (.ref s0), .unset]) rfl kk) ?_
      refine own_go (S' := T62.setTop (mkF m 21 #[.val (.int p1), .val (.int p2), .val (.int (p1 &&& (3 : Int32))), .val (.int (p2 &&& (3 : Int32))), .val (.ref s3), .val (.ref s0), .unset] [(.int (p1 &&& (3 : Int32)))])) (fun tg kk => XS.iloadN X62.here hx rfl (hb hby at_20) rfl kk) ?_
      refine own_go (S' := T62.setTop (mkF m 22 #[.val (.int p1), .val (.int p2), .val (.int (p1 &&& (3 : Int32))), .val (.int (p2 &&& (3 : Int32))), .val (.ref s3), .val (.ref s0), .unset] [(.int (2 : Int32)), (.int (p1 &&& (3 : Int32)))])) (fun tg kk => XT.iconstV X62.here hx rfl (2 : Int32) (hb hby at_21) (by decide) kk) ?_
      refine own_go (S' := T62.setTop (mkF m 34 #[.val (.int p1), .val (.int p2), .val (.int (p1 &&& (3 : Int32))), .val (.int (p2 &&& (3 : Int32))), .val (.ref s3), .val (.ref s0), .unset] [])) (fun tg kk => XS.icmpYes X62.here hx rfl (pc0 := 22) (pc' := 34) rfl (hb hby at_22) rfl (XT.ii_ge_t (by rw [u1]; decide)) (by decide) (by decide) kk) ?_
      refine own_go (S' := T62.setTop (mkF m 35 #[.val (.int p1), .val (.int p2), .val (.int (p1 &&& (3 : Int32))), .val (.int (p2 &&& (3 : Int32))), .val (.ref s3), .val (.ref s0), .unset] [(.int (0 : Int32))])) (fun tg kk => XT.iconstV X62.here hx rfl (0 : Int32) (hb hby at_34) (by decide) kk) ?_
      refine own_go (S' := T62.setTop (mkF m 37 #[.val (.int p1), .val (.int p2), .val (.int (p1 &&& (3 : Int32))), .val (.int (p2 &&& (3 : Int32))), .val (.ref s3), .val (.ref s0), .val (.int (0 : Int32))] [])) (fun tg kk => XS.istore X62.here hx rfl (hb hby at_35) rfl (l' := #[.val (.int p1), .val (.int p2), .val (.int (p1 &&& (3 : Int32))), .val (.int (p2 &&& (3 : Int32))), .val (.ref s3), .val (.ref s0), .val (.int (0 : Int32))]) rfl kk) ?_
      refine own_go (S' := T62.setTop (mkF m 39 #[.val (.int p1), .val (.int p2), .val (.int (p1 &&& (3 : Int32))), .val (.int (p2 &&& (3 : Int32))), .val (.ref s3), .val (.ref s0), .val (.int (0 : Int32))] [(.ref s3)])) (fun tg kk => XS.aload X62.here hx rfl (hb hby at_37) rfl rfl kk) ?_
      refine own_go (S' := T62.setTop (mkF m 41 #[.val (.int p1), .val (.int p2), .val (.int (p1 &&& (3 : Int32))), .val (.int (p2 &&& (3 : Int32))), .val (.ref s3), .val (.ref s0), .val (.int (0 : Int32))] [(.ref s0), (.ref s3)])) (fun tg kk => XS.aload X62.here hx rfl (hb hby at_39) rfl rfl kk) ?_
      obtain ⟨cq64, kq64, qa64, qb64, qc64⟩ := isOf hZ e62 (E_COMPLETED.ext O0.2)
      obtain ⟨v64, _, ⟨T64, L64, k64, n64⟩, -, X64, ⟨Lc64, hQ64, l64, y64, z64⟩, st64⟩ := X62.virtualBack hx (y := (⟨"com/example/zapis/zapis/PrescriptionStatus", "movesTo", "(Lcom/example/zapis/zapis/PrescriptionStatus;)Z"⟩ : MethodName)) (z := (⟨"com/example/zapis/zapis/PrescriptionStatus", "movesTo", "(Lcom/example/zapis/zapis/PrescriptionStatus;)Z"⟩ : MethodName)) hown (mvT hZ (hw _ (List.mem_of_getElem? (i := 9) rfl))) (mvT hZ (hw _ (List.mem_of_getElem? (i := 10) rfl))) (notFace_of_selects (args := #[]) (mvT hZ (hw _ (List.mem_of_getElem? (i := 12) rfl)))) (mvT hZ (hw _ (List.mem_of_getElem? (i := 12) rfl))) (mvT hZ (hw _ (List.mem_of_getElem? (i := 11) rfl))) (by decide) (backOf (W := 0) (rm2 l Z a0 hw [] s3 s0 (3 : Int32) s0 s1 s2 s3 h0 n0 Z0 O0 S_ACTIVE S_ON_HOLD S_CANCELLED S_COMPLETED F_COMPLETED_ordinal E_COMPLETED (Or.inr (Or.inr (Or.inr rfl)))) hZ (hw _ (List.mem_of_getElem? (i := 13) rfl)) (hw _ (List.mem_of_getElem? (i := 5) rfl)) (by decide) (by decide)) qa64 qc64 (g := (mkF m 41 #[.val (.int p1), .val (.int p2), .val (.int (p1 &&& (3 : Int32))), .val (.int (p2 &&& (3 : Int32))), .val (.ref s3), .val (.ref s0), .val (.int (0 : Int32))] [(.ref s0), (.ref s3)])) rfl (by rw [hml]; rfl) (Steps.refl _) (argsL := [(.ref s0)]) (rest := []) (lenOf pd__Lcom_example_zapis_zapis_PrescriptionStatus__Z rfl) rfl (by show 2 * 0 + _ ≤ _; exact Nat.le_of_eq rfl) (hb hby at_41) (fun _ _ => ⟨rfl, e62, (by decide : 0 + 0 ≤ _), (by decide : 0 + 0 ≤ _)⟩)
      dsimp only [Pt.U, Pt.locs, Pt.cells, Pt.slots] at X64 l64 y64 z64 st64 hQ64
      subst l64 y64 z64
      obtain ⟨hv64, M65, e64⟩ := hQ64
      obtain rfl : v64 = some (.int (0 : Int32)) := by rw [hv64]; rw [own_moves, if_neg (by decide), if_neg (by decide)]
      have N65 := Fr.app N63 M65
      refine own_to (S' := T64.setTop (mkF m 44 #[.val (.int p1), .val (.int p2), .val (.int (p1 &&& (3 : Int32))), .val (.int (p2 &&& (3 : Int32))), .val (.ref s3), .val (.ref s0), .val (.int (0 : Int32))] [(.int (0 : Int32))])) st64 ?_
      refine own_go (S' := T64.setTop (mkF m 46 #[.val (.int p1), .val (.int p2), .val (.int (p1 &&& (3 : Int32))), .val (.int (p2 &&& (3 : Int32))), .val (.ref s3), .val (.ref s0), .val (.int (0 : Int32))] [(.int (0 : Int32)), (.int (0 : Int32))])) (fun tg kk => XS.iload X64.here hx rfl (hb hby at_44) rfl kk) ?_
      refine own_go (S' := T64.setTop (mkF m 49 #[.val (.int p1), .val (.int p2), .val (.int (p1 &&& (3 : Int32))), .val (.int (p2 &&& (3 : Int32))), .val (.ref s3), .val (.ref s0), .val (.int (0 : Int32))] [])) (fun tg kk => XS.icmpNo X64.here hx rfl (hb hby at_46) rfl (XT.ii_ne_f (by decide)) kk) ?_
      refine own_go (S' := T64.setTop (mkF m 50 #[.val (.int p1), .val (.int p2), .val (.int (p1 &&& (3 : Int32))), .val (.int (p2 &&& (3 : Int32))), .val (.ref s3), .val (.ref s0), .val (.int (0 : Int32))] [(.int (1 : Int32))])) (fun tg kk => XT.iconstV X64.here hx rfl (1 : Int32) (hb hby at_49) (by decide) kk) ?_
      refine own_go (S' := T64.setTop (mkF m 54 #[.val (.int p1), .val (.int p2), .val (.int (p1 &&& (3 : Int32))), .val (.int (p2 &&& (3 : Int32))), .val (.ref s3), .val (.ref s0), .val (.int (0 : Int32))] [(.int (1 : Int32))])) (fun tg kk => XS.goto X64.here hx rfl (pc0 := 50) (pc' := 54) rfl (hb hby at_50) (by decide) (by decide) kk) ?_
      obtain ⟨fs, hr, hrun, hended, hW, hsame⟩ := X64.leave (v := some (.int (1 : Int32))) (fun h => by rw [Bd.returns] at h; cases h)
      refine ⟨_, _, retN X64 hx (t := .boolean) Bd.returns (by simp) (hb hby at_54) hr, hrun, hended, _, _, rfl, ?_, ⟨_, rfl⟩, hW, hsame.mono (by decide) (by decide)⟩
      show Q0 Z p1 p2 s0 s1 s2 s3 h0 n0 (some (.int (1 : Int32))) T64.heap _
      rw [e64]
      exact ⟨rfl, N65⟩
    · refine own_go (S' := T59.setTop (mkF m 15 #[.val (.int p1), .val (.int p2), .val (.int (p1 &&& (3 : Int32))), .val (.int (p2 &&& (3 : Int32))), .val (.ref s3), .unset, .unset] [(.int (p2 &&& (3 : Int32)))])) (fun tg kk => XS.iloadN X59.here hx rfl (hb hby at_14) rfl kk) ?_
      obtain ⟨v66, _, ⟨T66, L66, k66, n66⟩, -, X66, ⟨Lc66, hQ66, l66, y66, z66⟩, st66⟩ := Jvm.LawKit.callS X59 hx (y := (⟨"com/example/zapis/zapis/PrescriptionStatusMovesToPinLaw", "pick", "(I)Lcom/example/zapis/zapis/PrescriptionStatus;"⟩ : MethodName)) hown (mvT hZ (hw _ (List.mem_of_getElem? (i := 0) rfl))) (mvT hZ (hw _ (List.mem_of_getElem? (i := 1) rfl))) (mvT hZ (hw _ (List.mem_of_getElem? (i := 2) rfl))) (mvT hZ (hw _ (List.mem_of_getElem? (i := 3) rfl))) (by decide) (backOf (W := 0) (rm1 l Z a0 hw [] (p2 &&& (3 : Int32)) s0 s1 s2 s3 h0 n0 Z0 O0 S_ACTIVE S_ON_HOLD S_CANCELLED S_COMPLETED) hZ (hw _ (List.mem_of_getElem? (i := 3) rfl)) (hw _ (List.mem_of_getElem? (i := 2) rfl)) (by decide) (by decide)) (g := (mkF m 15 #[.val (.int p1), .val (.int p2), .val (.int (p1 &&& (3 : Int32))), .val (.int (p2 &&& (3 : Int32))), .val (.ref s3), .unset, .unset] [(.int (p2 &&& (3 : Int32)))])) rfl (by rw [hml]; rfl) (argsL := [(.int (p2 &&& (3 : Int32)))]) (rest := []) (lenOf pd__I_Lcom_example_zapis_zapis_PrescriptionStatus_ rfl) rfl (by show 2 * 0 + _ ≤ _; exact Nat.le_of_eq rfl) (hb hby at_15) (fun _ _ => ⟨rfl, e59, (by decide : 0 + 0 ≤ _), (by decide : 0 + 0 ≤ _)⟩)
      dsimp only [Pt.U, Pt.locs, Pt.cells, Pt.slots] at X66 l66 y66 z66 st66 hQ66
      subst l66 y66 z66
      obtain ⟨hv66, M67, e66⟩ := hQ66
      obtain rfl : v66 = some (.ref s1) := by rw [hv66]; rw [own_pick, u61, if_neg (by decide), if_pos rfl]
      have N67 := Fr.app N60 M67
      refine own_go (S' := T66.setTop (mkF m 18 #[.val (.int p1), .val (.int p2), .val (.int (p1 &&& (3 : Int32))), .val (.int (p2 &&& (3 : Int32))), .val (.ref s3), .unset, .unset] [(.ref s1)])) st66 ?_
      refine own_go (S' := T66.setTop (mkF m 20 #[.val (.int p1), .val (.int p2), .val (.int (p1 &&& (3 : Int32))), .val (.int (p2 &&& (3 : Int32))), .val (.ref s3), .val (.ref s1), .unset] [])) (fun tg kk => XS.astore X66.here hx rfl (hb hby at_18) rfl rfl (l' := #[.val (.int p1), .val (.int p2), .val (.int (p1 &&& (3 : Int32))), .val (.int (p2 &&& (3 : Int32))), .val (.ref s3), .val (.ref s1), .unset]) rfl kk) ?_
      refine own_go (S' := T66.setTop (mkF m 21 #[.val (.int p1), .val (.int p2), .val (.int (p1 &&& (3 : Int32))), .val (.int (p2 &&& (3 : Int32))), .val (.ref s3), .val (.ref s1), .unset] [(.int (p1 &&& (3 : Int32)))])) (fun tg kk => XS.iloadN X66.here hx rfl (hb hby at_20) rfl kk) ?_
      refine own_go (S' := T66.setTop (mkF m 22 #[.val (.int p1), .val (.int p2), .val (.int (p1 &&& (3 : Int32))), .val (.int (p2 &&& (3 : Int32))), .val (.ref s3), .val (.ref s1), .unset] [(.int (2 : Int32)), (.int (p1 &&& (3 : Int32)))])) (fun tg kk => XT.iconstV X66.here hx rfl (2 : Int32) (hb hby at_21) (by decide) kk) ?_
      refine own_go (S' := T66.setTop (mkF m 34 #[.val (.int p1), .val (.int p2), .val (.int (p1 &&& (3 : Int32))), .val (.int (p2 &&& (3 : Int32))), .val (.ref s3), .val (.ref s1), .unset] [])) (fun tg kk => XS.icmpYes X66.here hx rfl (pc0 := 22) (pc' := 34) rfl (hb hby at_22) rfl (XT.ii_ge_t (by rw [u1]; decide)) (by decide) (by decide) kk) ?_
      refine own_go (S' := T66.setTop (mkF m 35 #[.val (.int p1), .val (.int p2), .val (.int (p1 &&& (3 : Int32))), .val (.int (p2 &&& (3 : Int32))), .val (.ref s3), .val (.ref s1), .unset] [(.int (0 : Int32))])) (fun tg kk => XT.iconstV X66.here hx rfl (0 : Int32) (hb hby at_34) (by decide) kk) ?_
      refine own_go (S' := T66.setTop (mkF m 37 #[.val (.int p1), .val (.int p2), .val (.int (p1 &&& (3 : Int32))), .val (.int (p2 &&& (3 : Int32))), .val (.ref s3), .val (.ref s1), .val (.int (0 : Int32))] [])) (fun tg kk => XS.istore X66.here hx rfl (hb hby at_35) rfl (l' := #[.val (.int p1), .val (.int p2), .val (.int (p1 &&& (3 : Int32))), .val (.int (p2 &&& (3 : Int32))), .val (.ref s3), .val (.ref s1), .val (.int (0 : Int32))]) rfl kk) ?_
      refine own_go (S' := T66.setTop (mkF m 39 #[.val (.int p1), .val (.int p2), .val (.int (p1 &&& (3 : Int32))), .val (.int (p2 &&& (3 : Int32))), .val (.ref s3), .val (.ref s1), .val (.int (0 : Int32))] [(.ref s3)])) (fun tg kk => XS.aload X66.here hx rfl (hb hby at_37) rfl rfl kk) ?_
      refine own_go (S' := T66.setTop (mkF m 41 #[.val (.int p1), .val (.int p2), .val (.int (p1 &&& (3 : Int32))), .val (.int (p2 &&& (3 : Int32))), .val (.ref s3), .val (.ref s1), .val (.int (0 : Int32))] [(.ref s1), (.ref s3)])) (fun tg kk => XS.aload X66.here hx rfl (hb hby at_39) rfl rfl kk) ?_
      obtain ⟨cq68, kq68, qa68, qb68, qc68⟩ := isOf hZ e66 (E_COMPLETED.ext O0.2)
      obtain ⟨v68, _, ⟨T68, L68, k68, n68⟩, -, X68, ⟨Lc68, hQ68, l68, y68, z68⟩, st68⟩ := X66.virtualBack hx (y := (⟨"com/example/zapis/zapis/PrescriptionStatus", "movesTo", "(Lcom/example/zapis/zapis/PrescriptionStatus;)Z"⟩ : MethodName)) (z := (⟨"com/example/zapis/zapis/PrescriptionStatus", "movesTo", "(Lcom/example/zapis/zapis/PrescriptionStatus;)Z"⟩ : MethodName)) hown (mvT hZ (hw _ (List.mem_of_getElem? (i := 9) rfl))) (mvT hZ (hw _ (List.mem_of_getElem? (i := 10) rfl))) (notFace_of_selects (args := #[]) (mvT hZ (hw _ (List.mem_of_getElem? (i := 12) rfl)))) (mvT hZ (hw _ (List.mem_of_getElem? (i := 12) rfl))) (mvT hZ (hw _ (List.mem_of_getElem? (i := 11) rfl))) (by decide) (backOf (W := 0) (rm2 l Z a0 hw [] s3 s1 (3 : Int32) s0 s1 s2 s3 h0 n0 Z0 O0 S_ACTIVE S_ON_HOLD S_CANCELLED S_COMPLETED F_COMPLETED_ordinal E_COMPLETED (Or.inr (Or.inr (Or.inr rfl)))) hZ (hw _ (List.mem_of_getElem? (i := 13) rfl)) (hw _ (List.mem_of_getElem? (i := 5) rfl)) (by decide) (by decide)) qa68 qc68 (g := (mkF m 41 #[.val (.int p1), .val (.int p2), .val (.int (p1 &&& (3 : Int32))), .val (.int (p2 &&& (3 : Int32))), .val (.ref s3), .val (.ref s1), .val (.int (0 : Int32))] [(.ref s1), (.ref s3)])) rfl (by rw [hml]; rfl) (Steps.refl _) (argsL := [(.ref s1)]) (rest := []) (lenOf pd__Lcom_example_zapis_zapis_PrescriptionStatus__Z rfl) rfl (by show 2 * 0 + _ ≤ _; exact Nat.le_of_eq rfl) (hb hby at_41) (fun _ _ => ⟨rfl, e66, (by decide : 0 + 0 ≤ _), (by decide : 0 + 0 ≤ _)⟩)
      dsimp only [Pt.U, Pt.locs, Pt.cells, Pt.slots] at X68 l68 y68 z68 st68 hQ68
      subst l68 y68 z68
      obtain ⟨hv68, M69, e68⟩ := hQ68
      obtain rfl : v68 = some (.int (0 : Int32)) := by rw [hv68]; rw [own_moves, if_neg (by decide), if_neg (by decide)]
      have N69 := Fr.app N67 M69
      refine own_to (S' := T68.setTop (mkF m 44 #[.val (.int p1), .val (.int p2), .val (.int (p1 &&& (3 : Int32))), .val (.int (p2 &&& (3 : Int32))), .val (.ref s3), .val (.ref s1), .val (.int (0 : Int32))] [(.int (0 : Int32))])) st68 ?_
      refine own_go (S' := T68.setTop (mkF m 46 #[.val (.int p1), .val (.int p2), .val (.int (p1 &&& (3 : Int32))), .val (.int (p2 &&& (3 : Int32))), .val (.ref s3), .val (.ref s1), .val (.int (0 : Int32))] [(.int (0 : Int32)), (.int (0 : Int32))])) (fun tg kk => XS.iload X68.here hx rfl (hb hby at_44) rfl kk) ?_
      refine own_go (S' := T68.setTop (mkF m 49 #[.val (.int p1), .val (.int p2), .val (.int (p1 &&& (3 : Int32))), .val (.int (p2 &&& (3 : Int32))), .val (.ref s3), .val (.ref s1), .val (.int (0 : Int32))] [])) (fun tg kk => XS.icmpNo X68.here hx rfl (hb hby at_46) rfl (XT.ii_ne_f (by decide)) kk) ?_
      refine own_go (S' := T68.setTop (mkF m 50 #[.val (.int p1), .val (.int p2), .val (.int (p1 &&& (3 : Int32))), .val (.int (p2 &&& (3 : Int32))), .val (.ref s3), .val (.ref s1), .val (.int (0 : Int32))] [(.int (1 : Int32))])) (fun tg kk => XT.iconstV X68.here hx rfl (1 : Int32) (hb hby at_49) (by decide) kk) ?_
      refine own_go (S' := T68.setTop (mkF m 54 #[.val (.int p1), .val (.int p2), .val (.int (p1 &&& (3 : Int32))), .val (.int (p2 &&& (3 : Int32))), .val (.ref s3), .val (.ref s1), .val (.int (0 : Int32))] [(.int (1 : Int32))])) (fun tg kk => XS.goto X68.here hx rfl (pc0 := 50) (pc' := 54) rfl (hb hby at_50) (by decide) (by decide) kk) ?_
      obtain ⟨fs, hr, hrun, hended, hW, hsame⟩ := X68.leave (v := some (.int (1 : Int32))) (fun h => by rw [Bd.returns] at h; cases h)
      refine ⟨_, _, retN X68 hx (t := .boolean) Bd.returns (by simp) (hb hby at_54) hr, hrun, hended, _, _, rfl, ?_, ⟨_, rfl⟩, hW, hsame.mono (by decide) (by decide)⟩
      show Q0 Z p1 p2 s0 s1 s2 s3 h0 n0 (some (.int (1 : Int32))) T68.heap _
      rw [e68]
      exact ⟨rfl, N69⟩
    · refine own_go (S' := T59.setTop (mkF m 15 #[.val (.int p1), .val (.int p2), .val (.int (p1 &&& (3 : Int32))), .val (.int (p2 &&& (3 : Int32))), .val (.ref s3), .unset, .unset] [(.int (p2 &&& (3 : Int32)))])) (fun tg kk => XS.iloadN X59.here hx rfl (hb hby at_14) rfl kk) ?_
      obtain ⟨v70, _, ⟨T70, L70, k70, n70⟩, -, X70, ⟨Lc70, hQ70, l70, y70, z70⟩, st70⟩ := Jvm.LawKit.callS X59 hx (y := (⟨"com/example/zapis/zapis/PrescriptionStatusMovesToPinLaw", "pick", "(I)Lcom/example/zapis/zapis/PrescriptionStatus;"⟩ : MethodName)) hown (mvT hZ (hw _ (List.mem_of_getElem? (i := 0) rfl))) (mvT hZ (hw _ (List.mem_of_getElem? (i := 1) rfl))) (mvT hZ (hw _ (List.mem_of_getElem? (i := 2) rfl))) (mvT hZ (hw _ (List.mem_of_getElem? (i := 3) rfl))) (by decide) (backOf (W := 0) (rm1 l Z a0 hw [] (p2 &&& (3 : Int32)) s0 s1 s2 s3 h0 n0 Z0 O0 S_ACTIVE S_ON_HOLD S_CANCELLED S_COMPLETED) hZ (hw _ (List.mem_of_getElem? (i := 3) rfl)) (hw _ (List.mem_of_getElem? (i := 2) rfl)) (by decide) (by decide)) (g := (mkF m 15 #[.val (.int p1), .val (.int p2), .val (.int (p1 &&& (3 : Int32))), .val (.int (p2 &&& (3 : Int32))), .val (.ref s3), .unset, .unset] [(.int (p2 &&& (3 : Int32)))])) rfl (by rw [hml]; rfl) (argsL := [(.int (p2 &&& (3 : Int32)))]) (rest := []) (lenOf pd__I_Lcom_example_zapis_zapis_PrescriptionStatus_ rfl) rfl (by show 2 * 0 + _ ≤ _; exact Nat.le_of_eq rfl) (hb hby at_15) (fun _ _ => ⟨rfl, e59, (by decide : 0 + 0 ≤ _), (by decide : 0 + 0 ≤ _)⟩)
      dsimp only [Pt.U, Pt.locs, Pt.cells, Pt.slots] at X70 l70 y70 z70 st70 hQ70
      subst l70 y70 z70
      obtain ⟨hv70, M71, e70⟩ := hQ70
      obtain rfl : v70 = some (.ref s2) := by rw [hv70]; rw [own_pick, u61, if_neg (by decide), if_neg (by decide), if_pos rfl]
      have N71 := Fr.app N60 M71
      refine own_go (S' := T70.setTop (mkF m 18 #[.val (.int p1), .val (.int p2), .val (.int (p1 &&& (3 : Int32))), .val (.int (p2 &&& (3 : Int32))), .val (.ref s3), .unset, .unset] [(.ref s2)])) st70 ?_
      refine own_go (S' := T70.setTop (mkF m 20 #[.val (.int p1), .val (.int p2), .val (.int (p1 &&& (3 : Int32))), .val (.int (p2 &&& (3 : Int32))), .val (.ref s3), .val (.ref s2), .unset] [])) (fun tg kk => XS.astore X70.here hx rfl (hb hby at_18) rfl rfl (l' := #[.val (.int p1), .val (.int p2), .val (.int (p1 &&& (3 : Int32))), .val (.int (p2 &&& (3 : Int32))), .val (.ref s3), .val (.ref s2), .unset]) rfl kk) ?_
      refine own_go (S' := T70.setTop (mkF m 21 #[.val (.int p1), .val (.int p2), .val (.int (p1 &&& (3 : Int32))), .val (.int (p2 &&& (3 : Int32))), .val (.ref s3), .val (.ref s2), .unset] [(.int (p1 &&& (3 : Int32)))])) (fun tg kk => XS.iloadN X70.here hx rfl (hb hby at_20) rfl kk) ?_
      refine own_go (S' := T70.setTop (mkF m 22 #[.val (.int p1), .val (.int p2), .val (.int (p1 &&& (3 : Int32))), .val (.int (p2 &&& (3 : Int32))), .val (.ref s3), .val (.ref s2), .unset] [(.int (2 : Int32)), (.int (p1 &&& (3 : Int32)))])) (fun tg kk => XT.iconstV X70.here hx rfl (2 : Int32) (hb hby at_21) (by decide) kk) ?_
      refine own_go (S' := T70.setTop (mkF m 34 #[.val (.int p1), .val (.int p2), .val (.int (p1 &&& (3 : Int32))), .val (.int (p2 &&& (3 : Int32))), .val (.ref s3), .val (.ref s2), .unset] [])) (fun tg kk => XS.icmpYes X70.here hx rfl (pc0 := 22) (pc' := 34) rfl (hb hby at_22) rfl (XT.ii_ge_t (by rw [u1]; decide)) (by decide) (by decide) kk) ?_
      refine own_go (S' := T70.setTop (mkF m 35 #[.val (.int p1), .val (.int p2), .val (.int (p1 &&& (3 : Int32))), .val (.int (p2 &&& (3 : Int32))), .val (.ref s3), .val (.ref s2), .unset] [(.int (0 : Int32))])) (fun tg kk => XT.iconstV X70.here hx rfl (0 : Int32) (hb hby at_34) (by decide) kk) ?_
      refine own_go (S' := T70.setTop (mkF m 37 #[.val (.int p1), .val (.int p2), .val (.int (p1 &&& (3 : Int32))), .val (.int (p2 &&& (3 : Int32))), .val (.ref s3), .val (.ref s2), .val (.int (0 : Int32))] [])) (fun tg kk => XS.istore X70.here hx rfl (hb hby at_35) rfl (l' := #[.val (.int p1), .val (.int p2), .val (.int (p1 &&& (3 : Int32))), .val (.int (p2 &&& (3 : Int32))), .val (.ref s3), .val (.ref s2), .val (.int (0 : Int32))]) rfl kk) ?_
      refine own_go (S' := T70.setTop (mkF m 39 #[.val (.int p1), .val (.int p2), .val (.int (p1 &&& (3 : Int32))), .val (.int (p2 &&& (3 : Int32))), .val (.ref s3), .val (.ref s2), .val (.int (0 : Int32))] [(.ref s3)])) (fun tg kk => XS.aload X70.here hx rfl (hb hby at_37) rfl rfl kk) ?_
      refine own_go (S' := T70.setTop (mkF m 41 #[.val (.int p1), .val (.int p2), .val (.int (p1 &&& (3 : Int32))), .val (.int (p2 &&& (3 : Int32))), .val (.ref s3), .val (.ref s2), .val (.int (0 : Int32))] [(.ref s2), (.ref s3)])) (fun tg kk => XS.aload X70.here hx rfl (hb hby at_39) rfl rfl kk) ?_
      obtain ⟨cq72, kq72, qa72, qb72, qc72⟩ := isOf hZ e70 (E_COMPLETED.ext O0.2)
      obtain ⟨v72, _, ⟨T72, L72, k72, n72⟩, -, X72, ⟨Lc72, hQ72, l72, y72, z72⟩, st72⟩ := X70.virtualBack hx (y := (⟨"com/example/zapis/zapis/PrescriptionStatus", "movesTo", "(Lcom/example/zapis/zapis/PrescriptionStatus;)Z"⟩ : MethodName)) (z := (⟨"com/example/zapis/zapis/PrescriptionStatus", "movesTo", "(Lcom/example/zapis/zapis/PrescriptionStatus;)Z"⟩ : MethodName)) hown (mvT hZ (hw _ (List.mem_of_getElem? (i := 9) rfl))) (mvT hZ (hw _ (List.mem_of_getElem? (i := 10) rfl))) (notFace_of_selects (args := #[]) (mvT hZ (hw _ (List.mem_of_getElem? (i := 12) rfl)))) (mvT hZ (hw _ (List.mem_of_getElem? (i := 12) rfl))) (mvT hZ (hw _ (List.mem_of_getElem? (i := 11) rfl))) (by decide) (backOf (W := 0) (rm2 l Z a0 hw [] s3 s2 (3 : Int32) s0 s1 s2 s3 h0 n0 Z0 O0 S_ACTIVE S_ON_HOLD S_CANCELLED S_COMPLETED F_COMPLETED_ordinal E_COMPLETED (Or.inr (Or.inr (Or.inr rfl)))) hZ (hw _ (List.mem_of_getElem? (i := 13) rfl)) (hw _ (List.mem_of_getElem? (i := 5) rfl)) (by decide) (by decide)) qa72 qc72 (g := (mkF m 41 #[.val (.int p1), .val (.int p2), .val (.int (p1 &&& (3 : Int32))), .val (.int (p2 &&& (3 : Int32))), .val (.ref s3), .val (.ref s2), .val (.int (0 : Int32))] [(.ref s2), (.ref s3)])) rfl (by rw [hml]; rfl) (Steps.refl _) (argsL := [(.ref s2)]) (rest := []) (lenOf pd__Lcom_example_zapis_zapis_PrescriptionStatus__Z rfl) rfl (by show 2 * 0 + _ ≤ _; exact Nat.le_of_eq rfl) (hb hby at_41) (fun _ _ => ⟨rfl, e70, (by decide : 0 + 0 ≤ _), (by decide : 0 + 0 ≤ _)⟩)
      dsimp only [Pt.U, Pt.locs, Pt.cells, Pt.slots] at X72 l72 y72 z72 st72 hQ72
      subst l72 y72 z72
      obtain ⟨hv72, M73, e72⟩ := hQ72
      obtain rfl : v72 = some (.int (0 : Int32)) := by rw [hv72]; rw [own_moves, if_neg (by decide), if_neg (by decide)]
      have N73 := Fr.app N71 M73
      refine own_to (S' := T72.setTop (mkF m 44 #[.val (.int p1), .val (.int p2), .val (.int (p1 &&& (3 : Int32))), .val (.int (p2 &&& (3 : Int32))), .val (.ref s3), .val (.ref s2), .val (.int (0 : Int32))] [(.int (0 : Int32))])) st72 ?_
      refine own_go (S' := T72.setTop (mkF m 46 #[.val (.int p1), .val (.int p2), .val (.int (p1 &&& (3 : Int32))), .val (.int (p2 &&& (3 : Int32))), .val (.ref s3), .val (.ref s2), .val (.int (0 : Int32))] [(.int (0 : Int32)), (.int (0 : Int32))])) (fun tg kk => XS.iload X72.here hx rfl (hb hby at_44) rfl kk) ?_
      refine own_go (S' := T72.setTop (mkF m 49 #[.val (.int p1), .val (.int p2), .val (.int (p1 &&& (3 : Int32))), .val (.int (p2 &&& (3 : Int32))), .val (.ref s3), .val (.ref s2), .val (.int (0 : Int32))] [])) (fun tg kk => XS.icmpNo X72.here hx rfl (hb hby at_46) rfl (XT.ii_ne_f (by decide)) kk) ?_
      refine own_go (S' := T72.setTop (mkF m 50 #[.val (.int p1), .val (.int p2), .val (.int (p1 &&& (3 : Int32))), .val (.int (p2 &&& (3 : Int32))), .val (.ref s3), .val (.ref s2), .val (.int (0 : Int32))] [(.int (1 : Int32))])) (fun tg kk => XT.iconstV X72.here hx rfl (1 : Int32) (hb hby at_49) (by decide) kk) ?_
      refine own_go (S' := T72.setTop (mkF m 54 #[.val (.int p1), .val (.int p2), .val (.int (p1 &&& (3 : Int32))), .val (.int (p2 &&& (3 : Int32))), .val (.ref s3), .val (.ref s2), .val (.int (0 : Int32))] [(.int (1 : Int32))])) (fun tg kk => XS.goto X72.here hx rfl (pc0 := 50) (pc' := 54) rfl (hb hby at_50) (by decide) (by decide) kk) ?_
      obtain ⟨fs, hr, hrun, hended, hW, hsame⟩ := X72.leave (v := some (.int (1 : Int32))) (fun h => by rw [Bd.returns] at h; cases h)
      refine ⟨_, _, retN X72 hx (t := .boolean) Bd.returns (by simp) (hb hby at_54) hr, hrun, hended, _, _, rfl, ?_, ⟨_, rfl⟩, hW, hsame.mono (by decide) (by decide)⟩
      show Q0 Z p1 p2 s0 s1 s2 s3 h0 n0 (some (.int (1 : Int32))) T72.heap _
      rw [e72]
      exact ⟨rfl, N73⟩
    · refine own_go (S' := T59.setTop (mkF m 15 #[.val (.int p1), .val (.int p2), .val (.int (p1 &&& (3 : Int32))), .val (.int (p2 &&& (3 : Int32))), .val (.ref s3), .unset, .unset] [(.int (p2 &&& (3 : Int32)))])) (fun tg kk => XS.iloadN X59.here hx rfl (hb hby at_14) rfl kk) ?_
      obtain ⟨v74, _, ⟨T74, L74, k74, n74⟩, -, X74, ⟨Lc74, hQ74, l74, y74, z74⟩, st74⟩ := Jvm.LawKit.callS X59 hx (y := (⟨"com/example/zapis/zapis/PrescriptionStatusMovesToPinLaw", "pick", "(I)Lcom/example/zapis/zapis/PrescriptionStatus;"⟩ : MethodName)) hown (mvT hZ (hw _ (List.mem_of_getElem? (i := 0) rfl))) (mvT hZ (hw _ (List.mem_of_getElem? (i := 1) rfl))) (mvT hZ (hw _ (List.mem_of_getElem? (i := 2) rfl))) (mvT hZ (hw _ (List.mem_of_getElem? (i := 3) rfl))) (by decide) (backOf (W := 0) (rm1 l Z a0 hw [] (p2 &&& (3 : Int32)) s0 s1 s2 s3 h0 n0 Z0 O0 S_ACTIVE S_ON_HOLD S_CANCELLED S_COMPLETED) hZ (hw _ (List.mem_of_getElem? (i := 3) rfl)) (hw _ (List.mem_of_getElem? (i := 2) rfl)) (by decide) (by decide)) (g := (mkF m 15 #[.val (.int p1), .val (.int p2), .val (.int (p1 &&& (3 : Int32))), .val (.int (p2 &&& (3 : Int32))), .val (.ref s3), .unset, .unset] [(.int (p2 &&& (3 : Int32)))])) rfl (by rw [hml]; rfl) (argsL := [(.int (p2 &&& (3 : Int32)))]) (rest := []) (lenOf pd__I_Lcom_example_zapis_zapis_PrescriptionStatus_ rfl) rfl (by show 2 * 0 + _ ≤ _; exact Nat.le_of_eq rfl) (hb hby at_15) (fun _ _ => ⟨rfl, e59, (by decide : 0 + 0 ≤ _), (by decide : 0 + 0 ≤ _)⟩)
      dsimp only [Pt.U, Pt.locs, Pt.cells, Pt.slots] at X74 l74 y74 z74 st74 hQ74
      subst l74 y74 z74
      obtain ⟨hv74, M75, e74⟩ := hQ74
      obtain rfl : v74 = some (.ref s3) := by rw [hv74]; rw [own_pick, u61, if_neg (by decide), if_neg (by decide), if_neg (by decide)]
      have N75 := Fr.app N60 M75
      refine own_go (S' := T74.setTop (mkF m 18 #[.val (.int p1), .val (.int p2), .val (.int (p1 &&& (3 : Int32))), .val (.int (p2 &&& (3 : Int32))), .val (.ref s3), .unset, .unset] [(.ref s3)])) st74 ?_
      refine own_go (S' := T74.setTop (mkF m 20 #[.val (.int p1), .val (.int p2), .val (.int (p1 &&& (3 : Int32))), .val (.int (p2 &&& (3 : Int32))), .val (.ref s3), .val (.ref s3), .unset] [])) (fun tg kk => XS.astore X74.here hx rfl (hb hby at_18) rfl rfl (l' := #[.val (.int p1), .val (.int p2), .val (.int (p1 &&& (3 : Int32))), .val (.int (p2 &&& (3 : Int32))), .val (.ref s3), .val (.ref s3), .unset]) rfl kk) ?_
      refine own_go (S' := T74.setTop (mkF m 21 #[.val (.int p1), .val (.int p2), .val (.int (p1 &&& (3 : Int32))), .val (.int (p2 &&& (3 : Int32))), .val (.ref s3), .val (.ref s3), .unset] [(.int (p1 &&& (3 : Int32)))])) (fun tg kk => XS.iloadN X74.here hx rfl (hb hby at_20) rfl kk) ?_
      refine own_go (S' := T74.setTop (mkF m 22 #[.val (.int p1), .val (.int p2), .val (.int (p1 &&& (3 : Int32))), .val (.int (p2 &&& (3 : Int32))), .val (.ref s3), .val (.ref s3), .unset] [(.int (2 : Int32)), (.int (p1 &&& (3 : Int32)))])) (fun tg kk => XT.iconstV X74.here hx rfl (2 : Int32) (hb hby at_21) (by decide) kk) ?_
      refine own_go (S' := T74.setTop (mkF m 34 #[.val (.int p1), .val (.int p2), .val (.int (p1 &&& (3 : Int32))), .val (.int (p2 &&& (3 : Int32))), .val (.ref s3), .val (.ref s3), .unset] [])) (fun tg kk => XS.icmpYes X74.here hx rfl (pc0 := 22) (pc' := 34) rfl (hb hby at_22) rfl (XT.ii_ge_t (by rw [u1]; decide)) (by decide) (by decide) kk) ?_
      refine own_go (S' := T74.setTop (mkF m 35 #[.val (.int p1), .val (.int p2), .val (.int (p1 &&& (3 : Int32))), .val (.int (p2 &&& (3 : Int32))), .val (.ref s3), .val (.ref s3), .unset] [(.int (0 : Int32))])) (fun tg kk => XT.iconstV X74.here hx rfl (0 : Int32) (hb hby at_34) (by decide) kk) ?_
      refine own_go (S' := T74.setTop (mkF m 37 #[.val (.int p1), .val (.int p2), .val (.int (p1 &&& (3 : Int32))), .val (.int (p2 &&& (3 : Int32))), .val (.ref s3), .val (.ref s3), .val (.int (0 : Int32))] [])) (fun tg kk => XS.istore X74.here hx rfl (hb hby at_35) rfl (l' := #[.val (.int p1), .val (.int p2), .val (.int (p1 &&& (3 : Int32))), .val (.int (p2 &&& (3 : Int32))), .val (.ref s3), .val (.ref s3), .val (.int (0 : Int32))]) rfl kk) ?_
      refine own_go (S' := T74.setTop (mkF m 39 #[.val (.int p1), .val (.int p2), .val (.int (p1 &&& (3 : Int32))), .val (.int (p2 &&& (3 : Int32))), .val (.ref s3), .val (.ref s3), .val (.int (0 : Int32))] [(.ref s3)])) (fun tg kk => XS.aload X74.here hx rfl (hb hby at_37) rfl rfl kk) ?_
      refine own_go (S' := T74.setTop (mkF m 41 #[.val (.int p1), .val (.int p2), .val (.int (p1 &&& (3 : Int32))), .val (.int (p2 &&& (3 : Int32))), .val (.ref s3), .val (.ref s3), .val (.int (0 : Int32))] [(.ref s3), (.ref s3)])) (fun tg kk => XS.aload X74.here hx rfl (hb hby at_39) rfl rfl kk) ?_
      obtain ⟨cq76, kq76, qa76, qb76, qc76⟩ := isOf hZ e74 (E_COMPLETED.ext O0.2)
      obtain ⟨v76, _, ⟨T76, L76, k76, n76⟩, -, X76, ⟨Lc76, hQ76, l76, y76, z76⟩, st76⟩ := X74.virtualBack hx (y := (⟨"com/example/zapis/zapis/PrescriptionStatus", "movesTo", "(Lcom/example/zapis/zapis/PrescriptionStatus;)Z"⟩ : MethodName)) (z := (⟨"com/example/zapis/zapis/PrescriptionStatus", "movesTo", "(Lcom/example/zapis/zapis/PrescriptionStatus;)Z"⟩ : MethodName)) hown (mvT hZ (hw _ (List.mem_of_getElem? (i := 9) rfl))) (mvT hZ (hw _ (List.mem_of_getElem? (i := 10) rfl))) (notFace_of_selects (args := #[]) (mvT hZ (hw _ (List.mem_of_getElem? (i := 12) rfl)))) (mvT hZ (hw _ (List.mem_of_getElem? (i := 12) rfl))) (mvT hZ (hw _ (List.mem_of_getElem? (i := 11) rfl))) (by decide) (backOf (W := 0) (rm2 l Z a0 hw [] s3 s3 (3 : Int32) s0 s1 s2 s3 h0 n0 Z0 O0 S_ACTIVE S_ON_HOLD S_CANCELLED S_COMPLETED F_COMPLETED_ordinal E_COMPLETED (Or.inr (Or.inr (Or.inr rfl)))) hZ (hw _ (List.mem_of_getElem? (i := 13) rfl)) (hw _ (List.mem_of_getElem? (i := 5) rfl)) (by decide) (by decide)) qa76 qc76 (g := (mkF m 41 #[.val (.int p1), .val (.int p2), .val (.int (p1 &&& (3 : Int32))), .val (.int (p2 &&& (3 : Int32))), .val (.ref s3), .val (.ref s3), .val (.int (0 : Int32))] [(.ref s3), (.ref s3)])) rfl (by rw [hml]; rfl) (Steps.refl _) (argsL := [(.ref s3)]) (rest := []) (lenOf pd__Lcom_example_zapis_zapis_PrescriptionStatus__Z rfl) rfl (by show 2 * 0 + _ ≤ _; exact Nat.le_of_eq rfl) (hb hby at_41) (fun _ _ => ⟨rfl, e74, (by decide : 0 + 0 ≤ _), (by decide : 0 + 0 ≤ _)⟩)
      dsimp only [Pt.U, Pt.locs, Pt.cells, Pt.slots] at X76 l76 y76 z76 st76 hQ76
      subst l76 y76 z76
      obtain ⟨hv76, M77, e76⟩ := hQ76
      obtain rfl : v76 = some (.int (0 : Int32)) := by rw [hv76]; rw [own_moves, if_neg (by decide), if_neg (by decide)]
      have N77 := Fr.app N75 M77
      refine own_to (S' := T76.setTop (mkF m 44 #[.val (.int p1), .val (.int p2), .val (.int (p1 &&& (3 : Int32))), .val (.int (p2 &&& (3 : Int32))), .val (.ref s3), .val (.ref s3), .val (.int (0 : Int32))] [(.int (0 : Int32))])) st76 ?_
      refine own_go (S' := T76.setTop (mkF m 46 #[.val (.int p1), .val (.int p2), .val (.int (p1 &&& (3 : Int32))), .val (.int (p2 &&& (3 : Int32))), .val (.ref s3), .val (.ref s3), .val (.int (0 : Int32))] [(.int (0 : Int32)), (.int (0 : Int32))])) (fun tg kk => XS.iload X76.here hx rfl (hb hby at_44) rfl kk) ?_
      refine own_go (S' := T76.setTop (mkF m 49 #[.val (.int p1), .val (.int p2), .val (.int (p1 &&& (3 : Int32))), .val (.int (p2 &&& (3 : Int32))), .val (.ref s3), .val (.ref s3), .val (.int (0 : Int32))] [])) (fun tg kk => XS.icmpNo X76.here hx rfl (hb hby at_46) rfl (XT.ii_ne_f (by decide)) kk) ?_
      refine own_go (S' := T76.setTop (mkF m 50 #[.val (.int p1), .val (.int p2), .val (.int (p1 &&& (3 : Int32))), .val (.int (p2 &&& (3 : Int32))), .val (.ref s3), .val (.ref s3), .val (.int (0 : Int32))] [(.int (1 : Int32))])) (fun tg kk => XT.iconstV X76.here hx rfl (1 : Int32) (hb hby at_49) (by decide) kk) ?_
      refine own_go (S' := T76.setTop (mkF m 54 #[.val (.int p1), .val (.int p2), .val (.int (p1 &&& (3 : Int32))), .val (.int (p2 &&& (3 : Int32))), .val (.ref s3), .val (.ref s3), .val (.int (0 : Int32))] [(.int (1 : Int32))])) (fun tg kk => XS.goto X76.here hx rfl (pc0 := 50) (pc' := 54) rfl (hb hby at_50) (by decide) (by decide) kk) ?_
      obtain ⟨fs, hr, hrun, hended, hW, hsame⟩ := X76.leave (v := some (.int (1 : Int32))) (fun h => by rw [Bd.returns] at h; cases h)
      refine ⟨_, _, retN X76 hx (t := .boolean) Bd.returns (by simp) (hb hby at_54) hr, hrun, hended, _, _, rfl, ?_, ⟨_, rfl⟩, hW, hsame.mono (by decide) (by decide)⟩
      show Q0 Z p1 p2 s0 s1 s2 s3 h0 n0 (some (.int (1 : Int32))) T76.heap _
      rw [e76]
      exact ⟨rfl, N77⟩
set_option maxRecDepth 65536 in
set_option maxHeartbeats 40000000 in
theorem comes_1 {Post : Tables → Env → Array Value → State → Outcome → State → Prop} (hpost : ∀ tb e args s v u, (limb_1_1.after args s (.returned v) u = true ∧ limb_1_2.after args s (.returned v) u = true ∧ True) → FrameEnd s (.returned v) u (Jvm.fieldLocs frame_1_writes args s ++ Jvm.arrayLocs frame_1_arrays args s ++ Jvm.staticLocs frame_1_statics s) 0 0 → Post tb e args s (.returned v) u) :
    ArmFor flags0 classFile x code maxLocals ret World_1 tables_1 room_1 Calls_1 rest_1 Pre_1 Post := by
  intro l hfl _ _ p e ha hc hk s m args below hf hA hF happ hP
  obtain ⟨hcalls, hrest, hpre⟩ := hP
  obtain ⟨-, -, -, hnamed, -, -, -, hat⟩ := (Spec.applies_iff hf).mp happ
  obtain ⟨hg, hn⟩ := and_e (Cond.before_iff.mp (show (Jvm.Cond.and given_1 narrow_1).before args s = true from hpre))
  obtain ⟨hgl, hgr⟩ := and_e hg
  obtain ⟨hgrl, hgrr⟩ := and_e hgr
  obtain ⟨w0, w1, rfl⟩ : ∃ w0 w1 : Value, args = #[w0, w1] := by
    have hs : args.size = 2 := by simpa [Cond.value] using hgl
    obtain ⟨L⟩ := args
    match L, hs with
    | [w0, w1], _ => exact ⟨w0, w1, rfl⟩
  have hw := fun d (hd : d ∈ tables_1) => atoms_spec (ws := Jvm.Cond.code x code maxLocals ret :: tables_1) hat d (List.mem_cons_of_mem _ hd)
  have hfit : Fit s := fun {y c} hc i hi => by
    obtain ⟨ha, rfl⟩ := Array.getElem?_eq_some_iff.mp hc
    have q := List.all_eq_true.mp ((Array.all_eq_true_iff_forall_mem.mp hF) _ (Array.getElem_mem ha)) i (List.mem_range.mpr hi)
    simpa [Array.getElem?_eq_getElem hi] using q
  obtain ⟨p1, ew0⟩ := is_v hgrl
  obtain rfl : w0 = (.int p1) := Option.some.inj ew0
  obtain ⟨p2, ew1⟩ := is_v hgrr
  obtain rfl : w1 = (.int p2) := Option.some.inj ew1
  obtain ⟨hnl, hnr⟩ := and_e hn
  obtain ⟨hnrl, hnrr⟩ := and_e hnr
  obtain ⟨hnrrl, hnrrr⟩ := and_e hnrr
  obtain ⟨hnrrrl, hnrrrr⟩ := and_e hnrrr
  obtain ⟨hnrrrrl, hnrrrrr⟩ := and_e hnrrrr
  obtain ⟨hnrrrrrl, hnrrrrrr⟩ := and_e hnrrrrr
  obtain ⟨hnrrrrrrl, hnrrrrrrr⟩ := and_e hnrrrrrr
  obtain ⟨s_ACTIVE, ev_ACTIVE⟩ := exa_v hnl
  have E_ACTIVE := Exa.start ev_ACTIVE hnl
  have S_ACTIVE := Sta.start ev_ACTIVE (Or.inr ⟨(hw _ (List.mem_of_getElem? (i := 5) rfl)), (hw _ (List.mem_of_getElem? (i := 6) rfl))⟩)
  obtain ⟨s_COMPLETED, ev_COMPLETED⟩ := exa_v hnrl
  have E_COMPLETED := Exa.start ev_COMPLETED hnrl
  have S_COMPLETED := Sta.start ev_COMPLETED (Or.inr ⟨(hw _ (List.mem_of_getElem? (i := 5) rfl)), (hw _ (List.mem_of_getElem? (i := 8) rfl))⟩)
  obtain ⟨s_CANCELLED, ev_CANCELLED⟩ := exa_v hnrrrrl
  have E_CANCELLED := Exa.start ev_CANCELLED hnrrrrl
  have S_CANCELLED := Sta.start ev_CANCELLED (Or.inr ⟨(hw _ (List.mem_of_getElem? (i := 5) rfl)), (hw _ (List.mem_of_getElem? (i := 25) rfl))⟩)
  obtain ⟨s_ON_HOLD, ev_ON_HOLD⟩ := exa_v hnrrrrrl
  have E_ON_HOLD := Exa.start ev_ON_HOLD hnrrrrrl
  have S_ON_HOLD := Sta.start ev_ON_HOLD (Or.inr ⟨(hw _ (List.mem_of_getElem? (i := 5) rfl)), (hw _ (List.mem_of_getElem? (i := 27) rfl))⟩)
  have F_ACTIVE_ordinal : Fld s s.heap s_ACTIVE "java/lang/Enum" "ordinal" "I" (.int (0 : Int32)) := Fld.start ((fld_at ev_ACTIVE).symm.trans (Cond.eq_int (Cond.before_iff.mpr hnrrl) rfl))
  have F_COMPLETED_ordinal : Fld s s.heap s_COMPLETED "java/lang/Enum" "ordinal" "I" (.int (3 : Int32)) := Fld.start ((fld_at ev_COMPLETED).symm.trans (Cond.eq_int (Cond.before_iff.mpr hnrrrl) rfl))
  have F_CANCELLED_ordinal : Fld s s.heap s_CANCELLED "java/lang/Enum" "ordinal" "I" (.int (2 : Int32)) := Fld.start ((fld_at ev_CANCELLED).symm.trans (Cond.eq_int (Cond.before_iff.mpr hnrrrrrrl) rfl))
  have F_ON_HOLD_ordinal : Fld s s.heap s_ON_HOLD "java/lang/Enum" "ordinal" "I" (.int (1 : Int32)) := Fld.start ((fld_at ev_ON_HOLD).symm.trans (Cond.eq_int (Cond.before_iff.mpr hnrrrrrrr) rfl))
  obtain ⟨n, o, h1, h2, h3, _, L, rfl, ⟨rfl, N⟩, hq⟩ := rm0 l s _ hw tables_1 p1 p2 s_ACTIVE s_ON_HOLD s_CANCELLED s_COMPLETED s.heap s.heap.size (Nat.le_refl _) (Old.start s) S_ACTIVE S_ON_HOLD S_CANCELLED S_COMPLETED E_ACTIVE E_ON_HOLD E_CANCELLED E_COMPLETED F_ACTIVE_ordinal F_ON_HOLD_ordinal F_CANCELLED_ordinal F_COMPLETED_ordinal (F_ACTIVE_ordinal.ne F_ON_HOLD_ordinal (by decide)) (F_ACTIVE_ordinal.ne F_CANCELLED_ordinal (by decide)) (F_ACTIVE_ordinal.ne F_COMPLETED_ordinal (by decide)) (F_ON_HOLD_ordinal.ne F_ACTIVE_ordinal (by decide)) (F_ON_HOLD_ordinal.ne F_CANCELLED_ordinal (by decide)) (F_ON_HOLD_ordinal.ne F_COMPLETED_ordinal (by decide)) (F_CANCELLED_ordinal.ne F_ACTIVE_ordinal (by decide)) (F_CANCELLED_ordinal.ne F_ON_HOLD_ordinal (by decide)) (F_CANCELLED_ordinal.ne F_COMPLETED_ordinal (by decide)) (F_COMPLETED_ordinal.ne F_ACTIVE_ordinal (by decide)) (F_COMPLETED_ordinal.ne F_ON_HOLD_ordinal (by decide)) (F_COMPLETED_ordinal.ne F_CANCELLED_ordinal (by decide)) p e ha hc hk s m _ below hf ((Spec.applies_iff_loose hf).mp happ).1 ⟨rfl, State.Warmed39.refl s, rfl⟩ trivial
  refine ⟨n, _, h1, h2, h3, hpost _ _ _ _ _ _ ⟨Cond.after_iff.mpr rfl, Cond.after_iff.mpr (eq_i res_at (Term.int_eval (1)) rfl), trivial⟩ ⟨hq.1, hq.2.1, (hq.2.2.sift fun y hy => Or.inr (N y hy)).mono (by decide) (by decide)⟩⟩
theorem main_1_1 : Claimed_1_1 := comes_1 fun _ _ _ _ _ _ h hF => ⟨h.1, hF⟩
theorem main_1_2 : Claimed_1_2 := comes_1 fun _ _ _ _ _ _ h hF => ⟨h.2.1, hF⟩
end Jvm.Pilot.@@N@@
namespace Jvm.Pilot.@@N@@
open Jvm Jvm.ClassFile Sem Op Lib Jvm.Free Jvm.Stand Jvm.Pilot.@@N@@.Jvm.D
/-! MADE BY PROGRAM (witnessworld.py) out of the Statement's table words and the real class files: 12 classes; the members and pool entries that the words name. The judged class is class 1, her method 2. -/
namespace start1
open Jvm.ClassFile
def u (s : String) : CpInfo := .utf8 (stringToUtf16 s)
/-- a pool by its gaps: so many unusable entries, then the entry; so many at the end -/
def gap : Nat → List CpInfo → List CpInfo
  | 0, r => r
  | n + 1, r => .unusable :: gap n r
def poolList (es : List (Nat × CpInfo)) (last : Nat) : List CpInfo := es.foldr (fun e r => gap e.1 (e.2 :: r)) (gap last [])
def pool (es : List (Nat × CpInfo)) (last : Nat) : Array CpInfo := ⟨poolList es last⟩
def fileOf (pool : Array CpInfo) (this : Nat) (attrs : Array Attribute := #[]) (ms : Array MethodInfo := #[]) (fl : Nat := 33) (sup : Nat := 0) (ifs : Array Nat := #[]) (fds : Array FieldInfo := #[]) : ClassFile where
  minorVersion := 0
  majorVersion := 65
  constantPool := pool
  accessFlags := fl
  thisClass := this
  superClass := sup
  interfaces := ifs
  fields := fds
  methods := ms
  attributes := attrs
def plain (name : String) (sup : Option ClassId) : Class where
  name := name
  kind := .ordinary
  loader := none
  accessFlags := 33
  super := sup
  interfaces := #[]
  cf := none
  fields := #[]
  methods := #[]
  instanceTypes := #[]
  staticTypes := #[]
  resolved := #[]
  callSites := []
  init := .initialized
  statics := none
  mirror := none

def pool0 : Array CpInfo := pool [(5, u "<init>"), (0, u "()V"), (1, .class_ 10), (1, u "java/lang/Object")] 113

def k0m0 : Method := { name := "<init>", desc := "()V", sig := { parameters := [], returnType := none }, accessFlags := 1, code := none }
/-- java/lang/Object -/
def k0 : Class := { plain "java/lang/Object" none with
  accessFlags := 33
  interfaces := #[]
  cf := some (fileOf pool0 8 #[] #[{ accessFlags := 1, nameIndex := 5, descriptorIndex := 6, attributes := #[] }] 33 0 #[] #[])
  fields := #[]
  methods := #[k0m0]
  instanceTypes := #[]
  staticTypes := #[]
  resolved := Array.replicate 124 none
  statics := none }

def pool1 : Array CpInfo := pool [(2, .class_ 4), (1, u "java/lang/Object"), (0, u "<init>"), (0, u "()V"), (0, .fieldref 8 9), (0, .class_ 10), (0, .nameAndType 11 12), (0, u "com/example/zapis/zapis/PrescriptionStatus"), (0, u "ACTIVE"), (0, u "Lcom/example/zapis/zapis/PrescriptionStatus;"), (0, .fieldref 8 14), (0, .nameAndType 15 12), (0, u "ON_HOLD"), (0, .fieldref 8 17), (0, .nameAndType 18 12), (0, u "CANCELLED"), (0, .fieldref 8 20), (0, .nameAndType 21 12), (0, u "COMPLETED"), (0, .methodref 23 24), (0, .class_ 25), (0, .nameAndType 26 27), (0, u "com/example/zapis/zapis/PrescriptionStatusMovesToPinLaw"), (0, u "pick"), (0, u "(I)Lcom/example/zapis/zapis/PrescriptionStatus;"), (0, .methodref 8 29), (0, .nameAndType 30 31), (0, u "movesTo"), (0, u "(Lcom/example/zapis/zapis/PrescriptionStatus;)Z"), (3, u "law"), (0, u "(II)Z")] 2

def k1m0 : Method := { name := "<init>", desc := "()V", sig := { parameters := [], returnType := none }, accessFlags := 2, code := none }
def k1c1 : Code := { maxStack := 2, maxLocals := 1, code := method_2_code, exceptionTable := #[], attributes := #[] }
def k1m1 : Method := { name := "pick", desc := "(I)Lcom/example/zapis/zapis/PrescriptionStatus;", sig := { parameters := [.int], returnType := some (.object "com/example/zapis/zapis/PrescriptionStatus") }, accessFlags := 10, code := some k1c1 }
def k1c2 : Code := { maxStack := 2, maxLocals := 7, code := code, exceptionTable := #[], attributes := #[] }
def k1m2 : Method := { name := "law", desc := "(II)Z", sig := { parameters := [.int, .int], returnType := some .boolean }, accessFlags := 9, code := some k1c2 }
/-- com/example/zapis/zapis/PrescriptionStatusMovesToPinLaw -/
def k1 : Class := { plain "com/example/zapis/zapis/PrescriptionStatusMovesToPinLaw" (some 0) with
  accessFlags := 49
  interfaces := #[]
  cf := some (fileOf pool1 23 #[] #[{ accessFlags := 2, nameIndex := 5, descriptorIndex := 6, attributes := #[] }, { accessFlags := 10, nameIndex := 26, descriptorIndex := 27, attributes := #[] }, { accessFlags := 9, nameIndex := 35, descriptorIndex := 36, attributes := #[] }] 49 2 #[] #[])
  fields := #[]
  methods := #[k1m0, k1m1, k1m2]
  instanceTypes := #[]
  staticTypes := #[]
  resolved := Array.replicate 39 none
  statics := none }

def pool2 : Array CpInfo := pool [(1, .class_ 2), (0, u "java/lang/constant/Constable"), (0, .class_ 4), (0, u "java/lang/Object")] 6

/-- java/lang/constant/Constable -/
def k2 : Class := { plain "java/lang/constant/Constable" (some 0) with
  accessFlags := 1537
  interfaces := #[]
  cf := some (fileOf pool2 1 #[] #[] 1537 3 #[] #[])
  fields := #[]
  methods := #[]
  instanceTypes := #[]
  staticTypes := #[]
  resolved := Array.replicate 11 none
  statics := none }

def pool3 : Array CpInfo := pool [(1, .class_ 2), (0, u "java/lang/Comparable"), (0, .class_ 4), (0, u "java/lang/Object")] 7

/-- java/lang/Comparable -/
def k3 : Class := { plain "java/lang/Comparable" (some 0) with
  accessFlags := 1537
  interfaces := #[]
  cf := some (fileOf pool3 1 #[] #[] 1537 3 #[] #[])
  fields := #[]
  methods := #[]
  instanceTypes := #[]
  staticTypes := #[]
  resolved := Array.replicate 12 none
  statics := none }

def pool4 : Array CpInfo := pool [(1, .class_ 2), (0, u "java/io/Serializable"), (0, .class_ 4), (0, u "java/lang/Object")] 2

/-- java/io/Serializable -/
def k4 : Class := { plain "java/io/Serializable" (some 0) with
  accessFlags := 1537
  interfaces := #[]
  cf := some (fileOf pool4 1 #[] #[] 1537 3 #[] #[])
  fields := #[]
  methods := #[]
  instanceTypes := #[]
  staticTypes := #[]
  resolved := Array.replicate 7 none
  statics := none }

def pool5 : Array CpInfo := pool [(2, .class_ 4), (1, u "java/lang/Enum"), (0, u "name"), (0, u "Ljava/lang/String;"), (0, .fieldref 2 8), (0, .nameAndType 9 10), (0, u "ordinal"), (0, u "I"), (1, .class_ 14), (1, u "java/lang/Object"), (4, u "hash"), (86, .class_ 108), (1, u "java/lang/Enum$EnumDesc"), (2, .class_ 112), (0, u "java/lang/constant/Constable"), (0, .class_ 114), (0, u "java/lang/Comparable"), (0, .class_ 116), (0, u "java/io/Serializable"), (9, u "()I")] 77

def k5c0 : Code := { maxStack := 1, maxLocals := 1, code := jdk_37_method_2_code, exceptionTable := #[], attributes := #[] }
def k5m0 : Method := { name := "ordinal", desc := "()I", sig := { parameters := [], returnType := some .int }, accessFlags := 17, code := some k5c0 }
/-- java/lang/Enum -/
def k5 : Class := { plain "java/lang/Enum" (some 0) with
  accessFlags := 1057
  interfaces := #[2, 3, 4]
  cf := some (fileOf pool5 2 #[.nestMembers #[106]] #[{ accessFlags := 17, nameIndex := 9, descriptorIndex := 126, attributes := #[] }] 1057 12 #[111, 113, 115] #[{ accessFlags := 18, nameIndex := 5, descriptorIndex := 6, attributes := #[] }, { accessFlags := 18, nameIndex := 9, descriptorIndex := 10, attributes := #[] }, { accessFlags := 2, nameIndex := 19, descriptorIndex := 10, attributes := #[] }])
  fields := #[{ name := "name", type := (.object "java/lang/String"), accessFlags := 18, slot := 0, constantValue := 0 }, { name := "ordinal", type := .int, accessFlags := 18, slot := 1, constantValue := 0 }, { name := "hash", type := .int, accessFlags := 2, slot := 2, constantValue := 0 }]
  methods := #[k5m0]
  instanceTypes := #[(.object "java/lang/String"), .int, .int]
  staticTypes := #[]
  resolved := Array.replicate 204 none
  statics := none }

def pool6 : Array CpInfo := pool [(1, .class_ 2), (0, u "com/example/zapis/zapis/PrescriptionStatus"), (0, .fieldref 1 4), (0, .nameAndType 5 6), (0, u "ACTIVE"), (0, u "Lcom/example/zapis/zapis/PrescriptionStatus;"), (2, u "ON_HOLD"), (0, .fieldref 1 11), (0, .nameAndType 12 6), (0, u "CANCELLED"), (0, .fieldref 1 14), (0, .nameAndType 15 6), (0, u "COMPLETED"), (2, u "$VALUES"), (0, u "[Lcom/example/zapis/zapis/PrescriptionStatus;"), (6, .class_ 28), (1, u "java/lang/Enum"), (8, u "code"), (0, u "Ljava/lang/String;"), (24, .methodref 1 64), (0, .nameAndType 65 66), (0, u "ordinal"), (0, u "()I"), (39, u "COST"), (0, u "Ljava/util/regex/Pattern;"), (0, u "DISPENSED"), (13, u "movesTo"), (0, u "(Lcom/example/zapis/zapis/PrescriptionStatus;)Z")] 29

def k6c0 : Code := { maxStack := 4, maxLocals := 2, code := prog_12_method_6_code, exceptionTable := #[], attributes := #[] }
def k6m0 : Method := { name := "movesTo", desc := "(Lcom/example/zapis/zapis/PrescriptionStatus;)Z", sig := { parameters := [(.object "com/example/zapis/zapis/PrescriptionStatus")], returnType := some .boolean }, accessFlags := 0, code := some k6c0 }
/-- com/example/zapis/zapis/PrescriptionStatus -/
def k6 : Class := { plain "com/example/zapis/zapis/PrescriptionStatus" (some 5) with
  accessFlags := 16432
  interfaces := #[]
  cf := some (fileOf pool6 1 #[] #[{ accessFlags := 0, nameIndex := 122, descriptorIndex := 123, attributes := #[] }] 16432 26 #[] #[{ accessFlags := 16409, nameIndex := 5, descriptorIndex := 6, attributes := #[] }, { accessFlags := 16409, nameIndex := 9, descriptorIndex := 6, attributes := #[] }, { accessFlags := 16409, nameIndex := 12, descriptorIndex := 6, attributes := #[] }, { accessFlags := 16409, nameIndex := 15, descriptorIndex := 6, attributes := #[] }, { accessFlags := 24, nameIndex := 106, descriptorIndex := 107, attributes := #[] }, { accessFlags := 24, nameIndex := 108, descriptorIndex := 38, attributes := #[] }, { accessFlags := 18, nameIndex := 37, descriptorIndex := 38, attributes := #[] }, { accessFlags := 4122, nameIndex := 18, descriptorIndex := 19, attributes := #[] }])
  fields := #[{ name := "ACTIVE", type := (.object "com/example/zapis/zapis/PrescriptionStatus"), accessFlags := 16409, slot := 0, constantValue := 0 }, { name := "ON_HOLD", type := (.object "com/example/zapis/zapis/PrescriptionStatus"), accessFlags := 16409, slot := 1, constantValue := 0 }, { name := "CANCELLED", type := (.object "com/example/zapis/zapis/PrescriptionStatus"), accessFlags := 16409, slot := 2, constantValue := 0 }, { name := "COMPLETED", type := (.object "com/example/zapis/zapis/PrescriptionStatus"), accessFlags := 16409, slot := 3, constantValue := 0 }, { name := "COST", type := (.object "java/util/regex/Pattern"), accessFlags := 24, slot := 4, constantValue := 0 }, { name := "DISPENSED", type := (.object "java/lang/String"), accessFlags := 24, slot := 5, constantValue := 0 }, { name := "code", type := (.object "java/lang/String"), accessFlags := 18, slot := 3, constantValue := 0 }, { name := "$VALUES", type := (.array (.object "com/example/zapis/zapis/PrescriptionStatus")), accessFlags := 4122, slot := 6, constantValue := 0 }]
  methods := #[k6m0]
  instanceTypes := #[(.object "java/lang/String"), .int, .int, (.object "java/lang/String")]
  staticTypes := #[(.object "com/example/zapis/zapis/PrescriptionStatus"), (.object "com/example/zapis/zapis/PrescriptionStatus"), (.object "com/example/zapis/zapis/PrescriptionStatus"), (.object "com/example/zapis/zapis/PrescriptionStatus"), (.object "java/util/regex/Pattern"), (.object "java/lang/String"), (.array (.object "com/example/zapis/zapis/PrescriptionStatus"))]
  resolved := Array.replicate 153 none
  statics := some 0 }

def pool7 : Array CpInfo := pool [(1, u "java/lang/Cloneable"), (0, .class_ 1), (0, u "java/lang/Object"), (0, .class_ 3)] 3

/-- java/lang/Cloneable -/
def k7 : Class := { plain "java/lang/Cloneable" (some 0) with
  accessFlags := 1537
  interfaces := #[]
  cf := some (fileOf pool7 2 #[] #[] 1537 4 #[] #[])
  fields := #[]
  methods := #[]
  instanceTypes := #[]
  staticTypes := #[]
  resolved := Array.replicate 8 none
  statics := none }

/-- the primitive byte -/
def k8 : Class := { plain "byte" none with kind := .primitive 'B', accessFlags := 0x411 }
/-- [B -/
def k9 : Class := { plain "[B" (some 0) with kind := .array 8 .byte, interfaces := #[7, 4], accessFlags := 1041 }

/-- the primitive int -/
def k10 : Class := { plain "int" none with kind := .primitive 'I', accessFlags := 0x411 }
/-- [I -/
def k11 : Class := { plain "[I" (some 0) with kind := .array 10 .int, interfaces := #[7, 4], accessFlags := 1041 }

def heap : Heap := #[{ cls := 6, slots := #[.ref 1, .ref 2, .ref 3, .ref 4, .null, .null, .null], vm := .statics 6 },
  { cls := 6, slots := #[.null, .int 0, .int 0, .null], vm := .none },
  { cls := 6, slots := #[.null, .int 1, .int 0, .null], vm := .none },
  { cls := 6, slots := #[.null, .int 2, .int 0, .null], vm := .none },
  { cls := 6, slots := #[.null, .int 3, .int 0, .null], vm := .none }]
def classes : Array Class := #[k0, k1, k2, k3, k4, k5, k6, k7, k8, k9, k10, k11]
def interned : List (Array UInt16 × Addr) := []
def slotsUsed : Nat := 23
def theMethod : MethodId := ⟨1, 2⟩
def args0 : Array Value := #[.int 5, .int 3]
def aboutOver (below : List Frame) : State where
  vm := { classes := classes, interned := interned.toArray }
  heap := heap
  slotsUsed := slotsUsed
  threads := #[{ frames := .invoking theMethod args0 :: below }]
def below0 : List Frame := [.native { method := ⟨0, 0⟩, args := #[] }]
def about1 : State := aboutOver below0
def p0 : Program := .bare "" "" ""
def e0 : Env := launch0.env 0 0 0
theorem w_frames : about1.frames = Frame.invoking theMethod args0 :: below0 := rfl
set_option maxRecDepth 65536 in
theorem w_args : argsFit about1.vm theMethod args0 = true := by decide +kernel
set_option maxRecDepth 65536 in
theorem w_heap : heapFits about1 = true := by decide +kernel
set_option maxRecDepth 65536 in
theorem w_runnable : about1.curStatus? = some .runnable := by decide +kernel
set_option maxRecDepth 65536 in
theorem w_alone : about1.alone = true := by decide +kernel
set_option maxRecDepth 65536 in
theorem w_named : about1.methodNamed? x = some theMethod := by decide +kernel
set_option maxRecDepth 65536 in
theorem w_hears : about1.hears theMethod below0 = true := by decide +kernel
set_option maxRecDepth 65536 in
theorem w_ripe : about1.ripe theMethod args0 below0 = true := by decide +kernel
theorem w_running : about1.status = .running := rfl
set_option maxRecDepth 65536 in
theorem w_room : about1.hasRoom e0.platform room_1 = true :=
  launch0.hasRoom_least _ room_1 (by decide +kernel) (by decide +kernel) (by decide +kernel) (by decide +kernel) (by decide +kernel) (by decide +kernel)
theorem allAtoms_all (ts : List Jvm.Cond) (a : Array Jvm.Value) (st : Jvm.State) : (allAtoms ts).before a st = ts.all (fun c => c.before a st) := by
  induction ts with
  | nil => rfl
  | cons c t ih =>
    show (Jvm.Cond.and c (allAtoms t)).before a st = _
    rw [Jvm.Cond.before_and, ih, List.all_cons]
def words1 : List Jvm.Cond := Jvm.Cond.code x code maxLocals ret :: tables_1
/-- a 'code' word, met by the world's own term for the bytes: nothing is compared byte by byte -/
theorem code_word {y : MethodName} {bytes : ByteArray} {mx : Nat} {rt : Option FieldType} {a : Array Value} {s : State} {m : MethodId} {meth : Method} {c : Code} (h1 : s.methodNamed? y = some m) (h2 : s.vm.method? m = some meth) (h3 : meth.code = some c) (h4 : c.code = bytes)
    (h5 : (c.maxLocals == mx && c.exceptionTable.isEmpty && decide (c.maxStack ≤ mostOperands) && decide (meth.sig.returnType = rt) && !meth.locks && decide (parseMethodDescriptor y.desc = some meth.sig)) = true) : (Jvm.Cond.code y bytes mx rt).before a s = true := by
  simp only [Bool.and_eq_true, beq_iff_eq, Bool.not_eq_true', decide_eq_true_eq] at h5
  obtain ⟨⟨⟨⟨⟨g1, g2⟩, g3⟩, g4⟩, g5⟩, g6⟩ := h5
  simp [Cond.before, Cond.holds, Cond.value, h1, h2, h3, h4, g1, g2, g3, g4, g5, g6]
def isCode : Jvm.Cond → Bool
  | .code _ _ _ _ => true
  | _ => false
theorem all_split {L : List Jvm.Cond} {P : Jvm.Cond → Bool} (h1 : L.all (fun c => isCode c || P c) = true) (h2 : ∀ c ∈ L.filter isCode, P c = true) : L.all P = true := by
  refine List.all_eq_true.mpr fun c hc => ?_
  have h := List.all_eq_true.mp h1 c hc
  rcases Bool.eq_false_or_eq_true (isCode c) with hi | hi
  · exact h2 c (List.mem_filter.mpr ⟨hc, hi⟩)
  · simpa [hi] using h
set_option maxRecDepth 65536 in
theorem w_c0 : (Jvm.Cond.code x code maxLocals ret).before args0 about1 = true := code_word (m := ⟨1, 2⟩) (meth := k1m2) (c := k1c2) (by decide +kernel) rfl rfl rfl (by decide +kernel)
set_option maxRecDepth 65536 in
theorem w_c1 : (Jvm.Cond.code ({ cls := "com/example/zapis/zapis/PrescriptionStatusMovesToPinLaw", name := "pick", desc := "(I)Lcom/example/zapis/zapis/PrescriptionStatus;" } : Jvm.MethodName) method_2_code (1 : Nat) (Option.some (Jvm.ClassFile.FieldType.object "com/example/zapis/zapis/PrescriptionStatus"))).before args0 about1 = true := code_word (m := ⟨1, 1⟩) (meth := k1m1) (c := k1c1) (by decide +kernel) rfl rfl rfl (by decide +kernel)
set_option maxRecDepth 65536 in
theorem w_c2 : (Jvm.Cond.code ({ cls := "com/example/zapis/zapis/PrescriptionStatus", name := "movesTo", desc := "(Lcom/example/zapis/zapis/PrescriptionStatus;)Z" } : Jvm.MethodName) prog_12_method_6_code (2 : Nat) (Option.some Jvm.ClassFile.FieldType.boolean)).before args0 about1 = true := code_word (m := ⟨6, 0⟩) (meth := k6m0) (c := k6c0) (by decide +kernel) rfl rfl rfl (by decide +kernel)
set_option maxRecDepth 65536 in
theorem w_c3 : (Jvm.Cond.code ({ cls := "java/lang/Enum", name := "ordinal", desc := "()I" } : Jvm.MethodName) jdk_37_method_2_code (1 : Nat) (Option.some Jvm.ClassFile.FieldType.int)).before args0 about1 = true := code_word (m := ⟨5, 0⟩) (meth := k5m0) (c := k5c0) (by decide +kernel) rfl rfl rfl (by decide +kernel)
def codes1 : List Jvm.Cond := [Jvm.Cond.code x code maxLocals ret, Jvm.Cond.code ({ cls := "com/example/zapis/zapis/PrescriptionStatusMovesToPinLaw", name := "pick", desc := "(I)Lcom/example/zapis/zapis/PrescriptionStatus;" } : Jvm.MethodName) method_2_code (1 : Nat) (Option.some (Jvm.ClassFile.FieldType.object "com/example/zapis/zapis/PrescriptionStatus")), Jvm.Cond.code ({ cls := "com/example/zapis/zapis/PrescriptionStatus", name := "movesTo", desc := "(Lcom/example/zapis/zapis/PrescriptionStatus;)Z" } : Jvm.MethodName) prog_12_method_6_code (2 : Nat) (Option.some Jvm.ClassFile.FieldType.boolean), Jvm.Cond.code ({ cls := "java/lang/Enum", name := "ordinal", desc := "()I" } : Jvm.MethodName) jdk_37_method_2_code (1 : Nat) (Option.some Jvm.ClassFile.FieldType.int)]
set_option maxRecDepth 65536 in
theorem codes_eq : words1.filter isCode = codes1 := rfl
theorem w_codes : ∀ c ∈ words1.filter isCode, c.before args0 about1 = true := by
  rw [codes_eq]
  intro c hc
  simp only [codes1, List.mem_cons, List.not_mem_nil, or_false] at hc
  rcases hc with rfl | rfl | rfl | rfl
  · exact w_c0
  · exact w_c1
  · exact w_c2
  · exact w_c3
set_option maxRecDepth 65536 in
theorem w_t1 : (words1.take 24).all (fun c => isCode c || c.before args0 about1) = true := by decide +kernel
set_option maxRecDepth 65536 in
theorem w_t2 : (words1.drop 24).all (fun c => isCode c || c.before args0 about1) = true := by decide +kernel
theorem w_tables : (allAtoms (Jvm.Cond.code x code maxLocals ret :: tables_1)).before args0 about1 = true := by
  rw [allAtoms_all]
  show words1.all (fun c => c.before args0 about1) = true
  refine all_split ?_ w_codes
  rw [← List.take_append_drop 24 words1, List.all_append, w_t1, w_t2]
  rfl
set_option maxRecDepth 65536 in
theorem w_case : (Jvm.Cond.and given_1 narrow_1).before args0 about1 = true := by decide +kernel
theorem w_applies : (headSpec (Jvm.Cond.code x code maxLocals ret :: tables_1) room_1).applies x e0.platform about1 = true :=
  (Spec.applies_iff w_frames).mpr ⟨w_running, w_runnable, w_alone, w_named, w_hears, w_ripe, w_room, w_tables⟩
theorem atStart : AtStart classFile x code maxLocals ret World_1 tables_1 room_1 Calls_1 rest_1 Pre_1 launch0 p0 e0 about1 theMethod args0 below0 :=
  ⟨lists_1, trivial, launch0.admits_env _ _ _, launch0.least_env, fairChoices_fair.cas, fairChoices_fair.clock, w_frames, w_args, w_heap, w_applies, trivial, trivial, w_case⟩
end start1
theorem witness_1 : WitnessClaimed_1 := ⟨start1.p0, start1.e0, start1.about1, start1.theMethod, start1.args0, start1.below0, start1.atStart⟩
end Jvm.Pilot.@@N@@
