import JvmDerived
import JvmDerived.Pilot.@@N@@Statement
import JvmDerived.Pilot.@@N@@Code
set_option linter.unusedVariables false
set_option linter.unusedSimpArgs false
namespace Jvm.RoadKit
open Sem ClassFile Op Lib Jvm.Stand Jvm.Free Jvm.LawKit
section New
variable {p : Program} {l : Launch} {e : Env} {R : Room} {s : State} {m : MethodId} {args : Array Value} {below : List Frame} {meth : Method} {c : Code} {T : State} {locs : List Loc} {cells slots : Nat}
theorem retI (X : Stand p l e R s m args below meth c T locs cells slots) (hx : p.tables.exec = Jvm.exec) {pc : Nat} {Ls : Array Slot} {z : Int32} {rest : List Value} (hret : meth.sig.returnType = some .int) (hd : decode c.code pc = .ok (.ireturn, 1)) {fs : List Frame}
    (hl : ∀ (f : JFrame) (acts : List Action), f.method = m → f.locked = none → f.entered = [] → (doReturn e (T.setTop f) acts (some (.int z))).1 = T.setFrames fs) : Steps p.tables e below (T.setTop (mkF m pc Ls (.int z :: rest))) (T.setFrames fs) := retOut X hx hret rfl (Or.inl ⟨rfl, Or.inl rfl, z, rfl⟩) hd hl
end New
end Jvm.RoadKit
namespace Jvm.Pilot.@@N@@
open Jvm Jvm.ClassFile Sem Op Lib Jvm.Free Jvm.Stand Jvm.LawKit Jvm.RoadKit Bundle Jvm.Pilot.@@N@@.Jvm.D
def own_Go (tb : Tables) (e : Env) (below : List Frame) (R : Outcome → State → Prop) (S : State) : Prop := ∃ s₂ o, Steps tb e below S s₂ ∧ s₂.status = .running ∧ Ended s₂ below o ∧ R o s₂
theorem own_go {tb : Tables} {e : Env} {below : List Frame} {R : Outcome → State → Prop} {S S' : State} (k : ∀ t, Steps tb e below S' t → Steps tb e below S t) (h : own_Go tb e below R S') : own_Go tb e below R S := by
  obtain ⟨a, b, c, d⟩ := h
  exact ⟨a, b, k _ c, d⟩
theorem own_to {tb : Tables} {e : Env} {below : List Frame} {R : Outcome → State → Prop} {S S' : State} (k : Steps tb e below S S') (h : own_Go tb e below R S') : own_Go tb e below R S := by
  obtain ⟨a, b, c, d⟩ := h
  exact ⟨a, b, k.trans c, d⟩
theorem own_narR {t : FieldType} {v : Value} (ht : t.isReference = true) (hv : v.isRef = true) : narrow t v = v := by
  cases t <;> first | (cases ht; done) | (cases v <;> first | rfl | (cases hv; done))
theorem own_cancel32 (x : Int32) : x + 128 - 128 = x := Int32.add_sub_cancel x 128
theorem own_in32 {x : Int32} (h1 : ¬ x < (-128 : Int32)) (h2 : ¬ (127 : Int32) < x) : ¬ x + (128 : Int32) < 0 ∧ x + (128 : Int32) < (256 : Int32) := by
  rw [Int32.lt_iff_toInt_lt] at h1 h2 ⊢
  rw [Int32.lt_iff_toInt_lt]
  have e1 : (-128 : Int32).toInt = -128 := by decide
  have e2 : (127 : Int32).toInt = 127 := by decide
  have e3 : (128 : Int32).toInt = 128 := by decide
  have e4 : (256 : Int32).toInt = 256 := by decide
  have e5 : (0 : Int32).toInt = 0 := by decide
  have e6 : (x + 128).toInt = x.toInt + (128 : Int32).toInt := XT.add32 ⟨by omega, by omega⟩
  omega
theorem d19_0 : decode jdk_18_method_1_code 0 = .ok (.aload_n 0, 1) := by decide +kernel
theorem d19_1 : decode jdk_18_method_1_code 1 = .ok (.invokespecial 1, 3) := by decide +kernel
theorem d19_4 : decode jdk_18_method_1_code 4 = .ok (.return_, 1) := by decide +kernel
theorem pn_java_lang_Number : plainName "java/lang/Number" = true := by first | (simp [plainName, overriddenIn]; done) | decide +kernel
theorem ef19 (m : MethodId) (x0 : Addr) : entryFrame m #[(.ref x0)] 1 = mkF m 0 #[.val (.ref x0)] [] := by first | (simp [entryFrame, mkF, argsToLocals, Value.category]; done) | rfl
def Q19 (Z : State) (a : Addr) (h0 : Heap) (n0 : Nat) (v : Option Value) (h : Heap) (L : List Loc) : Prop := v = none ∧ Fr n0 L ∧ h = h0
set_option maxRecDepth 65536 in
set_option maxHeartbeats 40000000 in
theorem rm19 (l : Launch) (Z : State) (a0 : Array Value) (hw : ∀ d ∈ tables_1, d.before a0 Z = true) (ws : List Jvm.Cond) (a : Addr) (h0 : Heap) (n0 : Nat) (Z0 : n0 ≤ h0.size)  :
    MetFree l (⟨"java/lang/Number", "<init>", "()V"⟩ : MethodName) (head1 (Jvm.Cond.code (⟨"java/lang/Number", "<init>", "()V"⟩ : MethodName) jdk_18_method_1_code 1 ((Option.none : Option FieldType)) :: ws) ({ frames := 1, cells := 0, slots := 0, locals := 12 } : Room)) (fun aa U => aa = #[(.ref a)] ∧ Z.Warmed39 U.vm ∧ U.heap = h0) (fun _ _ _ _ _ => True) (fun _ U ou U' => ∃ v L, ou = .returned v ∧ Q19 Z a h0 n0 v U'.heap L ∧ FrameEnd U ou U' L ({ frames := 1, cells := 0, slots := 0, locals := 12 } : Room).cells ({ frames := 1, cells := 0, slots := 0, locals := 12 } : Room).slots) := by
  refine MetFree.of_bodySF (plainFor_of_name pn_java_lang_Number) hisR ?_
  intro pg e s m args below meth c s₁ Bd hml0 hP hK
  obtain ⟨rfl, hZ, hh⟩ := hP
  have hx := Bd.exec
  have hby := Bd.bytes
  have hml : c.maxLocals = 1 := hml0
  have hown : s.vm.findClass "java/lang/Number" = some m.cls := findClass_of_methodNamed Bd.named
  have hnm := (name_of_methodNamed Bd.named Bd.method).1
  have X0 : Stand pg l e ({ frames := 1, cells := 0, slots := 0, locals := 12 } : Room) s m #[(.ref a)] below meth c s₁ [] 0 0 := Stand.of_body Bd
  have e0 : s₁.heap = h0 := by rw [← hh, Bd.state]; rfl
  have N0 := Fr.nil n0
  show own_Go pg.tables e below (fun ou U' => ∃ v L, ou = .returned v ∧ Q19 Z a h0 n0 v U'.heap L ∧ FrameEnd s ou U' L ({ frames := 1, cells := 0, slots := 0, locals := 12 } : Room).cells ({ frames := 1, cells := 0, slots := 0, locals := 12 } : Room).slots) (s₁.setTop (entryFrame m #[(.ref a)] 1))
  refine own_go (S' := s₁.setTop (mkF m 0 #[.val (.ref a)] [])) (fun tg kk => castTop (ef19 m a) kk) ?_
  refine own_go (S' := s₁.setTop (mkF m 1 #[.val (.ref a)] [(.ref a)])) (fun tg kk => XS.aloadN X0.here hx rfl (hb hby d19_0) rfl rfl kk) ?_
  obtain ⟨T1, X1, e1, st1⟩ := initO X0 hx hZ hown (hw _ (List.mem_of_getElem? (i := 114) rfl)) (hw _ (List.mem_of_getElem? (i := 18) rfl)) (hw _ (List.mem_of_getElem? (i := 19) rfl)) e0 (g := (mkF m 1 #[.val (.ref a)] [(.ref a)])) rfl (by rw [hml]; rfl) rfl (hb hby d19_1) (by decide) (W := 0) (by show 2 * 0 + _ ≤ _; exact Nat.le_of_eq rfl) (by decide)
  refine own_go (S' := T1.setTop (mkF m 4 #[.val (.ref a)] [])) (st1) ?_
  obtain ⟨fs, hr, hrun, hended, hW, hsame⟩ := X1.leave (v := none) (fun _ => rfl)
  refine ⟨_, _, X1.returnOut hx Bd.returns (hb hby d19_4) hr, hrun, hended, _, _, rfl, ?_, ⟨_, rfl⟩, hW, hsame.mono (by decide) (by decide)⟩
  show Q19 Z a h0 n0 none T1.heap _
  rw [e1]
  exact ⟨rfl, N0, rfl⟩
theorem d18_0 : decode jdk_33_method_23_code 0 = .ok (.aload_n 0, 1) := by decide +kernel
theorem pd___V : parseMethodDescriptor "()V" = some ⟨[], none⟩ := by decide +kernel
theorem d18_1 : decode jdk_33_method_23_code 1 = .ok (.invokespecial 202, 3) := by decide +kernel
theorem d18_4 : decode jdk_33_method_23_code 4 = .ok (.aload_n 0, 1) := by decide +kernel
theorem d18_5 : decode jdk_33_method_23_code 5 = .ok (.iload_n 1, 1) := by decide +kernel
theorem d18_6 : decode jdk_33_method_23_code 6 = .ok (.putfield 205, 3) := by decide +kernel
theorem d18_9 : decode jdk_33_method_23_code 9 = .ok (.return_, 1) := by decide +kernel
theorem pn_java_lang_Integer : plainName "java/lang/Integer" = true := by first | (simp [plainName, overriddenIn]; done) | decide +kernel
theorem ef18 (m : MethodId) (x0 : Addr) (x1 : Int32) : entryFrame m #[(.ref x0), (.int x1)] 2 = mkF m 0 #[.val (.ref x0), .val (.int x1)] [] := by first | (simp [entryFrame, mkF, argsToLocals, Value.category]; done) | rfl
def Q18 (Z : State) (a : Addr) (p : Int32) (h0 : Heap) (n0 : Nat) (v : Option Value) (h : Heap) (L : List Loc) : Prop := v = none ∧ Fr n0 L ∧ Keep h0 h [a] ∧ Fld Z h a "java/lang/Integer" "value" "I" (.int p)
set_option maxRecDepth 65536 in
set_option maxHeartbeats 40000000 in
theorem rm18 (l : Launch) (Z : State) (a0 : Array Value) (hw : ∀ d ∈ tables_1, d.before a0 Z = true) (ws : List Jvm.Cond) (a : Addr) (p : Int32) (h0 : Heap) (n0 : Nat) (Z0 : n0 ≤ h0.size) (F1 : Fld Z h0 a "java/lang/Integer" "value" "I" (.int (0 : Int32))) (E1 : Exa Z h0 a "java/lang/Integer") (g1 : n0 ≤ a) :
    MetFree l (⟨"java/lang/Integer", "<init>", "(I)V"⟩ : MethodName) (head1 (Jvm.Cond.code (⟨"java/lang/Integer", "<init>", "(I)V"⟩ : MethodName) jdk_33_method_23_code 2 ((Option.none : Option FieldType)) :: ws) ({ frames := 2, cells := 0, slots := 0, locals := 24 } : Room)) (fun aa U => aa = #[(.ref a), (.int p)] ∧ Z.Warmed39 U.vm ∧ U.heap = h0) (fun _ _ _ _ _ => True) (fun _ U ou U' => ∃ v L, ou = .returned v ∧ Q18 Z a p h0 n0 v U'.heap L ∧ FrameEnd U ou U' L ({ frames := 2, cells := 0, slots := 0, locals := 24 } : Room).cells ({ frames := 2, cells := 0, slots := 0, locals := 24 } : Room).slots) := by
  refine MetFree.of_bodySF (plainFor_of_name pn_java_lang_Integer) hisR ?_
  intro pg e s m args below meth c s₁ Bd hml0 hP hK
  obtain ⟨rfl, hZ, hh⟩ := hP
  have hx := Bd.exec
  have hby := Bd.bytes
  have hml : c.maxLocals = 2 := hml0
  have hown : s.vm.findClass "java/lang/Integer" = some m.cls := findClass_of_methodNamed Bd.named
  have hnm := (name_of_methodNamed Bd.named Bd.method).1
  have X0 : Stand pg l e ({ frames := 2, cells := 0, slots := 0, locals := 24 } : Room) s m #[(.ref a), (.int p)] below meth c s₁ [] 0 0 := Stand.of_body Bd
  have e0 : s₁.heap = h0 := by rw [← hh, Bd.state]; rfl
  have N0 := Fr.nil n0
  have K0 : Keep h0 h0 [a] := Keep.refl _ _
  show own_Go pg.tables e below (fun ou U' => ∃ v L, ou = .returned v ∧ Q18 Z a p h0 n0 v U'.heap L ∧ FrameEnd s ou U' L ({ frames := 2, cells := 0, slots := 0, locals := 24 } : Room).cells ({ frames := 2, cells := 0, slots := 0, locals := 24 } : Room).slots) (s₁.setTop (entryFrame m #[(.ref a), (.int p)] 2))
  refine own_go (S' := s₁.setTop (mkF m 0 #[.val (.ref a), .val (.int p)] [])) (fun tg kk => castTop (ef18 m a p) kk) ?_
  refine own_go (S' := s₁.setTop (mkF m 1 #[.val (.ref a), .val (.int p)] [(.ref a)])) (fun tg kk => XS.aloadN X0.here hx rfl (hb hby d18_0) rfl rfl kk) ?_
  obtain ⟨v1, _, ⟨T1, L1, k1, n1⟩, -, X1, ⟨Lc1, hQ1, l1, y1, z1⟩, st1⟩ := X0.specialBack hx (y := (⟨"java/lang/Number", "<init>", "()V"⟩ : MethodName)) rfl hown (mvT hZ (hw _ (List.mem_of_getElem? (i := 108) rfl))) (mvT hZ (hw _ (List.mem_of_getElem? (i := 109) rfl))) (mvT hZ (hw _ (List.mem_of_getElem? (i := 113) rfl))) (by decide) (backOf (W := 0) (rm19 l Z a0 hw [] a h0 n0 Z0) hZ (hw _ (List.mem_of_getElem? (i := 113) rfl)) (hw _ (List.mem_of_getElem? (i := 112) rfl)) (by decide) (by decide)) (g := (mkF m 1 #[.val (.ref a), .val (.int p)] [(.ref a)])) rfl (by rw [hml]; rfl) (Steps.refl _) (a := a) (argsL := []) (rest := []) (lenOf pd___V rfl) rfl (by show 2 * 0 + _ ≤ _; exact Nat.le_of_eq rfl) (hb hby d18_1) (fun _ _ => ⟨rfl, e0, (by decide : 0 + 0 ≤ _), (by decide : 0 + 0 ≤ _)⟩)
  dsimp only [Pt.U, Pt.locs, Pt.cells, Pt.slots] at X1 l1 y1 z1 st1 hQ1
  subst l1 y1 z1
  obtain ⟨rfl, M2, e1⟩ := hQ1
  have N2 := Fr.app N0 M2
  refine own_to (S' := T1.setTop (mkF m 4 #[.val (.ref a), .val (.int p)] [])) st1 ?_
  refine own_go (S' := T1.setTop (mkF m 5 #[.val (.ref a), .val (.int p)] [(.ref a)])) (fun tg kk => XS.aloadN X1.here hx rfl (hb hby d18_4) rfl rfl kk) ?_
  refine own_go (S' := T1.setTop (mkF m 6 #[.val (.ref a), .val (.int p)] [(.int p), (.ref a)])) (fun tg kk => XS.iloadN X1.here hx rfl (hb hby d18_5) rfl kk) ?_
  obtain ⟨T3, h3, X3, e3, W3, st3⟩ := putF X1 hx hZ hown (host := "") (Or.inl (hw _ (List.mem_of_getElem? (i := 36) rfl))) Via.refl e1 F1 E1 (Or.inr ⟨(hw _ (List.mem_of_getElem? (i := 37) rfl)), rfl, hnm⟩) (hw _ (List.mem_of_getElem? (i := 103) rfl)) (ty := .int) (by decide) rfl rfl (g := (mkF m 6 #[.val (.ref a), .val (.int p)] [(.int p), (.ref a)])) rfl rfl (hb hby d18_6)
  refine own_go (S' := T3.setTop (mkF m 9 #[.val (.ref a), .val (.int p)] [])) (st3) ?_
  have N3 := Fr.snoc X3 N2 g1
  have F4 := F1.same W3
  have E5 : Exa Z h3 a "java/lang/Integer" := E1.wr W3
  have Z6 : n0 ≤ h3.size := by rw [W3.size]; exact Z0
  have K7 : Keep h0 h3 [a] := K0.wr W3 (Or.inl (List.mem_of_getElem? (i := 0) rfl))
  obtain ⟨fs, hr, hrun, hended, hW, hsame⟩ := X3.leave (v := none) (fun _ => rfl)
  refine ⟨_, _, X3.returnOut hx Bd.returns (hb hby d18_9) hr, hrun, hended, _, _, rfl, ?_, ⟨_, rfl⟩, hW, hsame.mono (by decide) (by decide)⟩
  show Q18 Z a p h0 n0 none T3.heap _
  rw [e3]
  exact ⟨rfl, N3, K7, F4⟩
theorem d2_0 : decode jdk_33_method_22_code 0 = .ok (.iload_n 0, 1) := by decide +kernel
theorem d2_1 : decode jdk_33_method_22_code 1 = .ok (.bipush (-128), 2) := by decide +kernel
theorem d2_3 : decode jdk_33_method_22_code 3 = .ok (.if_icmp .lt 20, 3) := by decide +kernel
theorem d2_23 : decode jdk_33_method_22_code 23 = .ok (.new 1, 3) := by decide +kernel
theorem d2_26 : decode jdk_33_method_22_code 26 = .ok (.dup, 1) := by decide +kernel
theorem d2_27 : decode jdk_33_method_22_code 27 = .ok (.iload_n 0, 1) := by decide +kernel
theorem pd__I_V : parseMethodDescriptor "(I)V" = some ⟨[.int], none⟩ := by decide +kernel
theorem d2_28 : decode jdk_33_method_22_code 28 = .ok (.invokespecial 199, 3) := by decide +kernel
theorem d2_31 : decode jdk_33_method_22_code 31 = .ok (.areturn, 1) := by decide +kernel
theorem d2_6 : decode jdk_33_method_22_code 6 = .ok (.iload_n 0, 1) := by decide +kernel
theorem d2_7 : decode jdk_33_method_22_code 7 = .ok (.getstatic 191, 3) := by decide +kernel
theorem d2_10 : decode jdk_33_method_22_code 10 = .ok (.if_icmp .gt 13, 3) := by decide +kernel
theorem d2_13 : decode jdk_33_method_22_code 13 = .ok (.getstatic 195, 3) := by decide +kernel
theorem d2_16 : decode jdk_33_method_22_code 16 = .ok (.iload_n 0, 1) := by decide +kernel
theorem d2_17 : decode jdk_33_method_22_code 17 = .ok (.sipush 128, 3) := by decide +kernel
theorem d2_20 : decode jdk_33_method_22_code 20 = .ok (.iadd, 1) := by decide +kernel
theorem d2_21 : decode jdk_33_method_22_code 21 = .ok (.aaload, 1) := by decide +kernel
theorem d2_22 : decode jdk_33_method_22_code 22 = .ok (.areturn, 1) := by decide +kernel
theorem ef2 (m : MethodId) (x0 : Int32) : entryFrame m #[(.int x0)] 1 = mkF m 0 #[.val (.int x0)] [] := by first | (simp [entryFrame, mkF, argsToLocals, Value.category]; done) | rfl
def Q2 (Z : State) (p : Int32) (ca : Addr) (clc : Cell) (h0 : Heap) (n0 : Nat) (v : Option Value) (h : Heap) (L : List Loc) : Prop := ∃ b, v = some (.ref b) ∧ Fr n0 L ∧ Keep h0 h [] ∧ Exa Z h b "java/lang/Integer" ∧ Fld Z h b "java/lang/Integer" "value" "I" (.int p)
set_option maxRecDepth 65536 in
set_option maxHeartbeats 40000000 in
theorem rm2 (l : Launch) (Z : State) (a0 : Array Value) (hw : ∀ d ∈ tables_1, d.before a0 Z = true) (ws : List Jvm.Cond) (p : Int32) (ca : Addr) (clc : Cell) (h0 : Heap) (n0 : Nat) (Z0 : n0 ≤ h0.size) (O0 : Old Z n0 h0) (S_high : Sta Z Z.heap "java/lang/Integer$IntegerCache" "high" "I" (.int (127 : Int32))) (S_cache : Sta Z Z.heap "java/lang/Integer$IntegerCache" "cache" "[Ljava/lang/Integer;" (.ref ca)) (B_cache : Bxs Z ca clc "java/lang/Integer" "I" (256 : Int32) (fun j => .int (j - 128))) :
    MetFree l (⟨"java/lang/Integer", "valueOf", "(I)Ljava/lang/Integer;"⟩ : MethodName) (head1 (Jvm.Cond.code (⟨"java/lang/Integer", "valueOf", "(I)Ljava/lang/Integer;"⟩ : MethodName) jdk_33_method_22_code 1 ((Option.some (FieldType.object "java/lang/Integer"))) :: ws) ({ frames := 3, cells := 1, slots := 1, locals := 38 } : Room)) (fun aa U => aa = #[(.int p)] ∧ Z.Warmed39 U.vm ∧ U.heap = h0) (fun _ _ _ _ _ => True) (fun _ U ou U' => ∃ v L, ou = .returned v ∧ Q2 Z p ca clc h0 n0 v U'.heap L ∧ FrameEnd U ou U' L ({ frames := 3, cells := 1, slots := 1, locals := 38 } : Room).cells ({ frames := 3, cells := 1, slots := 1, locals := 38 } : Room).slots) := by
  refine MetFree.of_bodySF (plainFor_of_name pn_java_lang_Integer) hisR ?_
  intro pg e s m args below meth c s₁ Bd hml0 hP hK
  obtain ⟨rfl, hZ, hh⟩ := hP
  have hx := Bd.exec
  have hby := Bd.bytes
  have hml : c.maxLocals = 1 := hml0
  have hown : s.vm.findClass "java/lang/Integer" = some m.cls := findClass_of_methodNamed Bd.named
  have hnm := (name_of_methodNamed Bd.named Bd.method).1
  have X0 : Stand pg l e ({ frames := 3, cells := 1, slots := 1, locals := 38 } : Room) s m #[(.int p)] below meth c s₁ [] 0 0 := Stand.of_body Bd
  have e0 : s₁.heap = h0 := by rw [← hh, Bd.state]; rfl
  have N0 := Fr.nil n0
  have K0 : Keep h0 h0 [] := Keep.refl _ _
  show own_Go pg.tables e below (fun ou U' => ∃ v L, ou = .returned v ∧ Q2 Z p ca clc h0 n0 v U'.heap L ∧ FrameEnd s ou U' L ({ frames := 3, cells := 1, slots := 1, locals := 38 } : Room).cells ({ frames := 3, cells := 1, slots := 1, locals := 38 } : Room).slots) (s₁.setTop (entryFrame m #[(.int p)] 1))
  refine own_go (S' := s₁.setTop (mkF m 0 #[.val (.int p)] [])) (fun tg kk => castTop (ef2 m p) kk) ?_
  refine own_go (S' := s₁.setTop (mkF m 1 #[.val (.int p)] [(.int p)])) (fun tg kk => XS.iloadN X0.here hx rfl (hb hby d2_0) rfl kk) ?_
  refine own_go (S' := s₁.setTop (mkF m 3 #[.val (.int p)] [(.int (-128 : Int32)), (.int p)])) (fun tg kk => XT.bipushV X0.here hx rfl (-128 : Int32) (hb hby d2_1) (by decide) kk) ?_
  by_cases cd1 : p < (-128 : Int32)
  · refine own_go (S' := s₁.setTop (mkF m 23 #[.val (.int p)] [])) (fun tg kk => XS.icmpYes X0.here hx rfl (pc0 := 3) (pc' := 23) rfl (hb hby d2_3) rfl (XT.ii_lt_t cd1) (by decide) (by decide) kk) ?_
    obtain ⟨T2, h2, X2, e2, Ex2, A2, D2, -, st2⟩ := newO X0 hx hZ hown (hw _ (List.mem_of_getElem? (i := 102) rfl)) (hw _ (List.mem_of_getElem? (i := 103) rfl)) (hw _ (List.mem_of_getElem? (i := 9) rfl)) e0 (g := (mkF m 23 #[.val (.int p)] [])) rfl (hb hby d2_23) (by decide) (by decide)
    obtain ⟨a2, g2⟩ : ∃ z, z = h0.size := ⟨_, rfl⟩
    rw [← g2] at A2 D2 st2
    have q2 : n0 ≤ a2 := by rw [g2]; exact Z0
    have r2 : h0.size ≤ a2 := by rw [g2]; exact K0.1
    have O3 : Old Z n0 h2 := O0.ext Ex2
    have Z4 : n0 ≤ h2.size := Nat.le_trans Z0 Ex2.1
    have K5 : Keep h0 h2 [] := K0.ext Ex2
    refine own_go (S' := T2.setTop (mkF m 26 #[.val (.int p)] [(.ref a2)])) (st2) ?_
    have F2_value : Fld Z h2 a2 "java/lang/Integer" "value" "I" (.int (0 : Int32)) := D2 (Or.inr (hw _ (List.mem_of_getElem? (i := 37) rfl))) (ty := .int) (by decide)
    refine own_go (S' := T2.setTop (mkF m 27 #[.val (.int p)] [(.ref a2), (.ref a2)])) (fun tg kk => XS.dup X2.here hx rfl (hb hby d2_26) rfl rfl kk) ?_
    refine own_go (S' := T2.setTop (mkF m 28 #[.val (.int p)] [(.int p), (.ref a2), (.ref a2)])) (fun tg kk => XS.iloadN X2.here hx rfl (hb hby d2_27) rfl kk) ?_
    obtain ⟨v6, _, ⟨T6, L6, k6, n6⟩, -, X6, ⟨Lc6, hQ6, l6, y6, z6⟩, st6⟩ := X2.specialBack hx (y := (⟨"java/lang/Integer", "<init>", "(I)V"⟩ : MethodName)) rfl hown (mvT hZ (hw _ (List.mem_of_getElem? (i := 104) rfl))) (mvT hZ (hw _ (List.mem_of_getElem? (i := 105) rfl))) (mvT hZ (hw _ (List.mem_of_getElem? (i := 107) rfl))) (by decide) (backOf (W := 1) (rm18 l Z a0 hw [] a2 p h2 n0 Z4 F2_value A2 q2) hZ (hw _ (List.mem_of_getElem? (i := 107) rfl)) (hw _ (List.mem_of_getElem? (i := 9) rfl)) (by decide) (by decide)) (g := (mkF m 28 #[.val (.int p)] [(.int p), (.ref a2), (.ref a2)])) rfl (by rw [hml]; rfl) (Steps.refl _) (a := a2) (argsL := [(.int p)]) (rest := [(.ref a2)]) (lenOf pd__I_V rfl) rfl (by show 2 * 0 + _ ≤ _; exact Nat.le_of_eq rfl) (hb hby d2_28) (fun _ _ => ⟨rfl, e2, (by decide : 1 + 0 ≤ _), (by decide : 1 + 0 ≤ _)⟩)
    dsimp only [Pt.U, Pt.locs, Pt.cells, Pt.slots] at X6 l6 y6 z6 st6 hQ6
    subst l6 y6 z6
    obtain ⟨rfl, M7, K6, G6_0⟩ := hQ6
    have N7 := Fr.app N0 M7
    obtain ⟨h6, e6⟩ : ∃ z, T6.heap = z := ⟨_, rfl⟩
    rw [e6] at K6 G6_0
    have E8 : Exa Z h6 a2 "java/lang/Integer" := A2.keep K6
    have O9 : Old Z n0 h6 := O3.keep K6 (allS q2 all0)
    have Z10 : n0 ≤ h6.size := Nat.le_trans Z4 K6.1
    have K11 : Keep h0 h6 [] := K5.trans K6 (allS (Or.inr r2) all0)
    refine own_to (S' := T6.setTop (mkF m 31 #[.val (.int p)] [(.ref a2)])) st6 ?_
    obtain ⟨fs, hr, hrun, hended, hW, hsame⟩ := X6.leave (v := some (.ref a2)) (fun h => by rw [Bd.returns] at h; cases h)
    refine ⟨_, _, retOut X6 hx (i := .areturn) Bd.returns (own_narR rfl rfl) (Or.inr (Or.inr (Or.inr (Or.inr ⟨rfl, rfl, rfl⟩)))) (hb hby d2_31) hr, hrun, hended, _, _, rfl, ?_, ⟨_, rfl⟩, hW, hsame.mono (by decide) (by decide)⟩
    show Q2 Z p ca clc h0 n0 (some (.ref a2)) T6.heap _
    rw [e6]
    exact ⟨a2, rfl, N7, K11, E8, G6_0⟩
  · refine own_go (S' := s₁.setTop (mkF m 6 #[.val (.int p)] [])) (fun tg kk => XS.icmpNo X0.here hx rfl (hb hby d2_3) rfl (XT.ii_lt_f cd1) kk) ?_
    refine own_go (S' := s₁.setTop (mkF m 7 #[.val (.int p)] [(.int p)])) (fun tg kk => XS.iloadN X0.here hx rfl (hb hby d2_6) rfl kk) ?_
    obtain ⟨T12, X12, e12, st12⟩ := getS (host := "") X0 hx hZ hown (hw _ (List.mem_of_getElem? (i := 11) rfl)) Via.refl e0 (S_high.ext O0.2) (g := (mkF m 7 #[.val (.int p)] [(.int p)])) rfl (hb hby d2_7)
    refine own_go (S' := T12.setTop (mkF m 10 #[.val (.int p)] [(.int (127 : Int32)), (.int p)])) (st12) ?_
    by_cases cd13 : (127 : Int32) < p
    · refine own_go (S' := T12.setTop (mkF m 23 #[.val (.int p)] [])) (fun tg kk => XS.icmpYes X12.here hx rfl (pc0 := 10) (pc' := 23) rfl (hb hby d2_10) rfl (XT.ii_gt_t cd13) (by decide) (by decide) kk) ?_
      obtain ⟨T14, h14, X14, e14, Ex14, A14, D14, -, st14⟩ := newO X12 hx hZ hown (hw _ (List.mem_of_getElem? (i := 102) rfl)) (hw _ (List.mem_of_getElem? (i := 103) rfl)) (hw _ (List.mem_of_getElem? (i := 9) rfl)) e12 (g := (mkF m 23 #[.val (.int p)] [])) rfl (hb hby d2_23) (by decide) (by decide)
      obtain ⟨a14, g14⟩ : ∃ z, z = h0.size := ⟨_, rfl⟩
      rw [← g14] at A14 D14 st14
      have q14 : n0 ≤ a14 := by rw [g14]; exact Z0
      have r14 : h0.size ≤ a14 := by rw [g14]; exact K0.1
      have O15 : Old Z n0 h14 := O0.ext Ex14
      have Z16 : n0 ≤ h14.size := Nat.le_trans Z0 Ex14.1
      have K17 : Keep h0 h14 [] := K0.ext Ex14
      refine own_go (S' := T14.setTop (mkF m 26 #[.val (.int p)] [(.ref a14)])) (st14) ?_
      have F14_value : Fld Z h14 a14 "java/lang/Integer" "value" "I" (.int (0 : Int32)) := D14 (Or.inr (hw _ (List.mem_of_getElem? (i := 37) rfl))) (ty := .int) (by decide)
      refine own_go (S' := T14.setTop (mkF m 27 #[.val (.int p)] [(.ref a14), (.ref a14)])) (fun tg kk => XS.dup X14.here hx rfl (hb hby d2_26) rfl rfl kk) ?_
      refine own_go (S' := T14.setTop (mkF m 28 #[.val (.int p)] [(.int p), (.ref a14), (.ref a14)])) (fun tg kk => XS.iloadN X14.here hx rfl (hb hby d2_27) rfl kk) ?_
      obtain ⟨v18, _, ⟨T18, L18, k18, n18⟩, -, X18, ⟨Lc18, hQ18, l18, y18, z18⟩, st18⟩ := X14.specialBack hx (y := (⟨"java/lang/Integer", "<init>", "(I)V"⟩ : MethodName)) rfl hown (mvT hZ (hw _ (List.mem_of_getElem? (i := 104) rfl))) (mvT hZ (hw _ (List.mem_of_getElem? (i := 105) rfl))) (mvT hZ (hw _ (List.mem_of_getElem? (i := 107) rfl))) (by decide) (backOf (W := 1) (rm18 l Z a0 hw [] a14 p h14 n0 Z16 F14_value A14 q14) hZ (hw _ (List.mem_of_getElem? (i := 107) rfl)) (hw _ (List.mem_of_getElem? (i := 9) rfl)) (by decide) (by decide)) (g := (mkF m 28 #[.val (.int p)] [(.int p), (.ref a14), (.ref a14)])) rfl (by rw [hml]; rfl) (Steps.refl _) (a := a14) (argsL := [(.int p)]) (rest := [(.ref a14)]) (lenOf pd__I_V rfl) rfl (by show 2 * 0 + _ ≤ _; exact Nat.le_of_eq rfl) (hb hby d2_28) (fun _ _ => ⟨rfl, e14, (by decide : 1 + 0 ≤ _), (by decide : 1 + 0 ≤ _)⟩)
      dsimp only [Pt.U, Pt.locs, Pt.cells, Pt.slots] at X18 l18 y18 z18 st18 hQ18
      subst l18 y18 z18
      obtain ⟨rfl, M19, K18, G18_0⟩ := hQ18
      have N19 := Fr.app N0 M19
      obtain ⟨h18, e18⟩ : ∃ z, T18.heap = z := ⟨_, rfl⟩
      rw [e18] at K18 G18_0
      have E20 : Exa Z h18 a14 "java/lang/Integer" := A14.keep K18
      have O21 : Old Z n0 h18 := O15.keep K18 (allS q14 all0)
      have Z22 : n0 ≤ h18.size := Nat.le_trans Z16 K18.1
      have K23 : Keep h0 h18 [] := K17.trans K18 (allS (Or.inr r14) all0)
      refine own_to (S' := T18.setTop (mkF m 31 #[.val (.int p)] [(.ref a14)])) st18 ?_
      obtain ⟨fs, hr, hrun, hended, hW, hsame⟩ := X18.leave (v := some (.ref a14)) (fun h => by rw [Bd.returns] at h; cases h)
      refine ⟨_, _, retOut X18 hx (i := .areturn) Bd.returns (own_narR rfl rfl) (Or.inr (Or.inr (Or.inr (Or.inr ⟨rfl, rfl, rfl⟩)))) (hb hby d2_31) hr, hrun, hended, _, _, rfl, ?_, ⟨_, rfl⟩, hW, hsame.mono (by decide) (by decide)⟩
      show Q2 Z p ca clc h0 n0 (some (.ref a14)) T18.heap _
      rw [e18]
      exact ⟨a14, rfl, N19, K23, E20, G18_0⟩
    · refine own_go (S' := T12.setTop (mkF m 13 #[.val (.int p)] [])) (fun tg kk => XS.icmpNo X12.here hx rfl (hb hby d2_10) rfl (XT.ii_gt_f cd13) kk) ?_
      obtain ⟨T24, X24, e24, st24⟩ := getS (host := "") X12 hx hZ hown (hw _ (List.mem_of_getElem? (i := 13) rfl)) Via.refl e12 (S_cache.ext O0.2) (g := (mkF m 13 #[.val (.int p)] [])) rfl (hb hby d2_13)
      refine own_go (S' := T24.setTop (mkF m 16 #[.val (.int p)] [(.ref ca)])) (st24) ?_
      refine own_go (S' := T24.setTop (mkF m 17 #[.val (.int p)] [(.int p), (.ref ca)])) (fun tg kk => XS.iloadN X24.here hx rfl (hb hby d2_16) rfl kk) ?_
      refine own_go (S' := T24.setTop (mkF m 20 #[.val (.int p)] [(.int (128 : Int32)), (.int p), (.ref ca)])) (fun tg kk => XT.sipushV X24.here hx rfl (128 : Int32) (hb hby d2_17) (by decide) kk) ?_
      refine own_go (S' := T24.setTop (mkF m 21 #[.val (.int p)] [(.int (p + (128 : Int32))), (.ref ca)])) (fun tg kk => XS.iadd X24.here hx rfl (hb hby d2_20) rfl kk) ?_
      obtain ⟨Ab25, Sb25, Mb25⟩ := B_cache.ext O0.2
      have hj25 := inb_of (j := (p + (128 : Int32))) Sb25 (own_in32 cd1 cd13)
      obtain ⟨bx, hv25, Eb, Fb⟩ := B_cache.2.2.2 (p + (128 : Int32)) hj25
      have Fb' : Fld Z Z.heap bx "java/lang/Integer" "value" "I" (.int p) := by have q : Fld Z Z.heap bx "java/lang/Integer" "value" "I" (.int ((p + (128 : Int32)) - 128)) := Fb; rw [own_cancel32] at q; exact q
      refine own_go (S' := T24.setTop (mkF m 22 #[.val (.int p)] [(.ref bx)])) (fun tg kk => X24.aaload hx (by rw [e24]; exact Ab25.1) (State.isArrayOf_alike hZ.alike Ab25.2.1) rfl Ab25.2.2 hj25 hv25 (g := (mkF m 21 #[.val (.int p)] [(.int (p + (128 : Int32))), (.ref ca)])) rfl rfl (hb hby d2_21) tg kk) ?_
      obtain ⟨fs, hr, hrun, hended, hW, hsame⟩ := X24.leave (v := some (.ref bx)) (fun h => by rw [Bd.returns] at h; cases h)
      refine ⟨_, _, retOut X24 hx (i := .areturn) Bd.returns (own_narR rfl rfl) (Or.inr (Or.inr (Or.inr (Or.inr ⟨rfl, rfl, rfl⟩)))) (hb hby d2_22) hr, hrun, hended, _, _, rfl, ?_, ⟨_, rfl⟩, hW, hsame.mono (by decide) (by decide)⟩
      show Q2 Z p ca clc h0 n0 (some (.ref bx)) T24.heap _
      rw [e24]
      exact ⟨bx, rfl, N0, K0, Eb.ext O0.2, Fb'.ext O0.2⟩
theorem d3_0 : decode prog_9_method_1_code 0 = .ok (.aload_n 0, 1) := by decide +kernel
theorem d3_1 : decode prog_9_method_1_code 1 = .ok (.invokespecial 1, 3) := by decide +kernel
theorem d3_4 : decode prog_9_method_1_code 4 = .ok (.aload_n 0, 1) := by decide +kernel
theorem d3_5 : decode prog_9_method_1_code 5 = .ok (.aload_n 1, 1) := by decide +kernel
theorem d3_6 : decode prog_9_method_1_code 6 = .ok (.putfield 7, 3) := by decide +kernel
theorem d3_9 : decode prog_9_method_1_code 9 = .ok (.aload_n 0, 1) := by decide +kernel
theorem d3_10 : decode prog_9_method_1_code 10 = .ok (.iload_n 2, 1) := by decide +kernel
theorem d3_11 : decode prog_9_method_1_code 11 = .ok (.putfield 13, 3) := by decide +kernel
theorem d3_14 : decode prog_9_method_1_code 14 = .ok (.aload_n 0, 1) := by decide +kernel
theorem d3_15 : decode prog_9_method_1_code 15 = .ok (.aload_n 3, 1) := by decide +kernel
theorem d3_16 : decode prog_9_method_1_code 16 = .ok (.putfield 17, 3) := by decide +kernel
theorem d3_19 : decode prog_9_method_1_code 19 = .ok (.return_, 1) := by decide +kernel
theorem pn_com_example_periodic_jobs_periodicjobs_engine_DeliveryResult : plainName "com/example/periodic_jobs/periodicjobs/engine/DeliveryResult" = true := by first | (simp [plainName, overriddenIn]; done) | decide +kernel
theorem ef3 (m : MethodId) (x0 : Addr) (x1 : Addr) (x2 : Int32) : entryFrame m #[(.ref x0), (.ref x1), (.int x2), .null] 4 = mkF m 0 #[.val (.ref x0), .val (.ref x1), .val (.int x2), .val .null] [] := by first | (simp [entryFrame, mkF, argsToLocals, Value.category]; done) | rfl
def Q3 (Z : State) (a : Addr) (b : Addr) (h0 : Heap) (n0 : Nat) (v : Option Value) (h : Heap) (L : List Loc) : Prop := v = none ∧ Fr n0 L ∧ Keep h0 h [a] ∧ Fld Z h a "com/example/periodic_jobs/periodicjobs/engine/DeliveryResult" "httpStatus" "Ljava/lang/Integer;" (.ref b) ∧ Fld Z h a "com/example/periodic_jobs/periodicjobs/engine/DeliveryResult" "confirmed" "Z" (.int (0 : Int32)) ∧ Fld Z h a "com/example/periodic_jobs/periodicjobs/engine/DeliveryResult" "error" "Ljava/lang/String;" .null
set_option maxRecDepth 65536 in
set_option maxHeartbeats 40000000 in
theorem rm3 (l : Launch) (Z : State) (a0 : Array Value) (hw : ∀ d ∈ tables_1, d.before a0 Z = true) (ws : List Jvm.Cond) (a : Addr) (b : Addr) (h0 : Heap) (n0 : Nat) (Z0 : n0 ≤ h0.size) (F_httpStatus : Fld Z h0 a "com/example/periodic_jobs/periodicjobs/engine/DeliveryResult" "httpStatus" "Ljava/lang/Integer;" .null) (F_confirmed : Fld Z h0 a "com/example/periodic_jobs/periodicjobs/engine/DeliveryResult" "confirmed" "Z" (.int (0 : Int32))) (F_error : Fld Z h0 a "com/example/periodic_jobs/periodicjobs/engine/DeliveryResult" "error" "Ljava/lang/String;" .null) (E1 : Exa Z h0 a "com/example/periodic_jobs/periodicjobs/engine/DeliveryResult") (g1 : n0 ≤ a) :
    MetFree l (⟨"com/example/periodic_jobs/periodicjobs/engine/DeliveryResult", "<init>", "(Ljava/lang/Integer;ZLjava/lang/String;)V"⟩ : MethodName) (head1 (Jvm.Cond.code (⟨"com/example/periodic_jobs/periodicjobs/engine/DeliveryResult", "<init>", "(Ljava/lang/Integer;ZLjava/lang/String;)V"⟩ : MethodName) prog_9_method_1_code 4 ((Option.none : Option FieldType)) :: ws) ({ frames := 1, cells := 0, slots := 0, locals := 12 } : Room)) (fun aa U => aa = #[(.ref a), (.ref b), (.int (0 : Int32)), .null] ∧ Z.Warmed39 U.vm ∧ U.heap = h0) (fun _ _ _ _ _ => True) (fun _ U ou U' => ∃ v L, ou = .returned v ∧ Q3 Z a b h0 n0 v U'.heap L ∧ FrameEnd U ou U' L ({ frames := 1, cells := 0, slots := 0, locals := 12 } : Room).cells ({ frames := 1, cells := 0, slots := 0, locals := 12 } : Room).slots) := by
  refine MetFree.of_bodySF (plainFor_of_name pn_com_example_periodic_jobs_periodicjobs_engine_DeliveryResult) hisR ?_
  intro pg e s m args below meth c s₁ Bd hml0 hP hK
  obtain ⟨rfl, hZ, hh⟩ := hP
  have hx := Bd.exec
  have hby := Bd.bytes
  have hml : c.maxLocals = 4 := hml0
  have hown : s.vm.findClass "com/example/periodic_jobs/periodicjobs/engine/DeliveryResult" = some m.cls := findClass_of_methodNamed Bd.named
  have hnm := (name_of_methodNamed Bd.named Bd.method).1
  have X0 : Stand pg l e ({ frames := 1, cells := 0, slots := 0, locals := 12 } : Room) s m #[(.ref a), (.ref b), (.int (0 : Int32)), .null] below meth c s₁ [] 0 0 := Stand.of_body Bd
  have e0 : s₁.heap = h0 := by rw [← hh, Bd.state]; rfl
  have N0 := Fr.nil n0
  have K0 : Keep h0 h0 [a] := Keep.refl _ _
  show own_Go pg.tables e below (fun ou U' => ∃ v L, ou = .returned v ∧ Q3 Z a b h0 n0 v U'.heap L ∧ FrameEnd s ou U' L ({ frames := 1, cells := 0, slots := 0, locals := 12 } : Room).cells ({ frames := 1, cells := 0, slots := 0, locals := 12 } : Room).slots) (s₁.setTop (entryFrame m #[(.ref a), (.ref b), (.int (0 : Int32)), .null] 4))
  refine own_go (S' := s₁.setTop (mkF m 0 #[.val (.ref a), .val (.ref b), .val (.int (0 : Int32)), .val .null] [])) (fun tg kk => castTop (ef3 m a b (0 : Int32)) kk) ?_
  refine own_go (S' := s₁.setTop (mkF m 1 #[.val (.ref a), .val (.ref b), .val (.int (0 : Int32)), .val .null] [(.ref a)])) (fun tg kk => XS.aloadN X0.here hx rfl (hb hby d3_0) rfl rfl kk) ?_
  obtain ⟨T1, X1, e1, st1⟩ := initO X0 hx hZ hown (hw _ (List.mem_of_getElem? (i := 17) rfl)) (hw _ (List.mem_of_getElem? (i := 18) rfl)) (hw _ (List.mem_of_getElem? (i := 19) rfl)) e0 (g := (mkF m 1 #[.val (.ref a), .val (.ref b), .val (.int (0 : Int32)), .val .null] [(.ref a)])) rfl (by rw [hml]; rfl) rfl (hb hby d3_1) (by decide) (W := 0) (by show 2 * 0 + _ ≤ _; exact Nat.le_of_eq rfl) (by decide)
  refine own_go (S' := T1.setTop (mkF m 4 #[.val (.ref a), .val (.ref b), .val (.int (0 : Int32)), .val .null] [])) (st1) ?_
  refine own_go (S' := T1.setTop (mkF m 5 #[.val (.ref a), .val (.ref b), .val (.int (0 : Int32)), .val .null] [(.ref a)])) (fun tg kk => XS.aloadN X1.here hx rfl (hb hby d3_4) rfl rfl kk) ?_
  refine own_go (S' := T1.setTop (mkF m 6 #[.val (.ref a), .val (.ref b), .val (.int (0 : Int32)), .val .null] [(.ref b), (.ref a)])) (fun tg kk => XS.aloadN X1.here hx rfl (hb hby d3_5) rfl rfl kk) ?_
  obtain ⟨T2, h2, X2, e2, W2, st2⟩ := putF X1 hx hZ hown (host := "") (Or.inl (hw _ (List.mem_of_getElem? (i := 20) rfl))) Via.refl e1 F_httpStatus E1 (Or.inr ⟨(hw _ (List.mem_of_getElem? (i := 21) rfl)), rfl, hnm⟩) (hw _ (List.mem_of_getElem? (i := 6) rfl)) (ty := .object "java/lang/Integer") (by decide) rfl rfl (g := (mkF m 6 #[.val (.ref a), .val (.ref b), .val (.int (0 : Int32)), .val .null] [(.ref b), (.ref a)])) rfl rfl (hb hby d3_6)
  refine own_go (S' := T2.setTop (mkF m 9 #[.val (.ref a), .val (.ref b), .val (.int (0 : Int32)), .val .null] [])) (st2) ?_
  have N2 := Fr.snoc X2 N0 g1
  have F3 := F_httpStatus.same W2
  have F4 := F_confirmed.other W2 (Or.inr (slot_ne (Or.inr (hw _ (List.mem_of_getElem? (i := 23) rfl))) (Or.inr (hw _ (List.mem_of_getElem? (i := 21) rfl))) (by decide) (t := .boolean) (t' := .object "java/lang/Integer") (by decide) (by decide)))
  have F5 := F_error.other W2 (Or.inr (slot_ne (Or.inr (hw _ (List.mem_of_getElem? (i := 25) rfl))) (Or.inr (hw _ (List.mem_of_getElem? (i := 21) rfl))) (by decide) (t := .object "java/lang/String") (t' := .object "java/lang/Integer") (by decide) (by decide)))
  have E6 : Exa Z h2 a "com/example/periodic_jobs/periodicjobs/engine/DeliveryResult" := E1.wr W2
  have Z7 : n0 ≤ h2.size := by rw [W2.size]; exact Z0
  have K8 : Keep h0 h2 [a] := K0.wr W2 (Or.inl (List.mem_of_getElem? (i := 0) rfl))
  refine own_go (S' := T2.setTop (mkF m 10 #[.val (.ref a), .val (.ref b), .val (.int (0 : Int32)), .val .null] [(.ref a)])) (fun tg kk => XS.aloadN X2.here hx rfl (hb hby d3_9) rfl rfl kk) ?_
  refine own_go (S' := T2.setTop (mkF m 11 #[.val (.ref a), .val (.ref b), .val (.int (0 : Int32)), .val .null] [(.int (0 : Int32)), (.ref a)])) (fun tg kk => XS.iloadN X2.here hx rfl (hb hby d3_10) rfl kk) ?_
  obtain ⟨T9, h9, X9, e9, W9, st9⟩ := putF X2 hx hZ hown (host := "") (Or.inl (hw _ (List.mem_of_getElem? (i := 22) rfl))) Via.refl e2 F4 E6 (Or.inr ⟨(hw _ (List.mem_of_getElem? (i := 23) rfl)), rfl, hnm⟩) (hw _ (List.mem_of_getElem? (i := 6) rfl)) (ty := .boolean) (by decide) rfl rfl (g := (mkF m 11 #[.val (.ref a), .val (.ref b), .val (.int (0 : Int32)), .val .null] [(.int (0 : Int32)), (.ref a)])) rfl rfl (hb hby d3_11)
  refine own_go (S' := T9.setTop (mkF m 14 #[.val (.ref a), .val (.ref b), .val (.int (0 : Int32)), .val .null] [])) (st9) ?_
  have N9 := Fr.snoc X9 N2 g1
  have F10 := F3.other W9 (Or.inr (slot_ne (Or.inr (hw _ (List.mem_of_getElem? (i := 21) rfl))) (Or.inr (hw _ (List.mem_of_getElem? (i := 23) rfl))) (by decide) (t := .object "java/lang/Integer") (t' := .boolean) (by decide) (by decide)))
  have F11 := F4.same W9
  have F12 := F5.other W9 (Or.inr (slot_ne (Or.inr (hw _ (List.mem_of_getElem? (i := 25) rfl))) (Or.inr (hw _ (List.mem_of_getElem? (i := 23) rfl))) (by decide) (t := .object "java/lang/String") (t' := .boolean) (by decide) (by decide)))
  have E13 : Exa Z h9 a "com/example/periodic_jobs/periodicjobs/engine/DeliveryResult" := E6.wr W9
  have Z14 : n0 ≤ h9.size := by rw [W9.size]; exact Z7
  have K15 : Keep h0 h9 [a] := K8.wr W9 (Or.inl (List.mem_of_getElem? (i := 0) rfl))
  refine own_go (S' := T9.setTop (mkF m 15 #[.val (.ref a), .val (.ref b), .val (.int (0 : Int32)), .val .null] [(.ref a)])) (fun tg kk => XS.aloadN X9.here hx rfl (hb hby d3_14) rfl rfl kk) ?_
  refine own_go (S' := T9.setTop (mkF m 16 #[.val (.ref a), .val (.ref b), .val (.int (0 : Int32)), .val .null] [.null, (.ref a)])) (fun tg kk => XS.aloadN X9.here hx rfl (hb hby d3_15) rfl rfl kk) ?_
  obtain ⟨T16, h16, X16, e16, W16, st16⟩ := putF X9 hx hZ hown (host := "") (Or.inl (hw _ (List.mem_of_getElem? (i := 24) rfl))) Via.refl e9 F12 E13 (Or.inr ⟨(hw _ (List.mem_of_getElem? (i := 25) rfl)), rfl, hnm⟩) (hw _ (List.mem_of_getElem? (i := 6) rfl)) (ty := .object "java/lang/String") (by decide) rfl rfl (g := (mkF m 16 #[.val (.ref a), .val (.ref b), .val (.int (0 : Int32)), .val .null] [.null, (.ref a)])) rfl rfl (hb hby d3_16)
  refine own_go (S' := T16.setTop (mkF m 19 #[.val (.ref a), .val (.ref b), .val (.int (0 : Int32)), .val .null] [])) (st16) ?_
  have N16 := Fr.snoc X16 N9 g1
  have F17 := F10.other W16 (Or.inr (slot_ne (Or.inr (hw _ (List.mem_of_getElem? (i := 21) rfl))) (Or.inr (hw _ (List.mem_of_getElem? (i := 25) rfl))) (by decide) (t := .object "java/lang/Integer") (t' := .object "java/lang/String") (by decide) (by decide)))
  have F18 := F11.other W16 (Or.inr (slot_ne (Or.inr (hw _ (List.mem_of_getElem? (i := 23) rfl))) (Or.inr (hw _ (List.mem_of_getElem? (i := 25) rfl))) (by decide) (t := .boolean) (t' := .object "java/lang/String") (by decide) (by decide)))
  have F19 := F12.same W16
  have E20 : Exa Z h16 a "com/example/periodic_jobs/periodicjobs/engine/DeliveryResult" := E13.wr W16
  have Z21 : n0 ≤ h16.size := by rw [W16.size]; exact Z14
  have K22 : Keep h0 h16 [a] := K15.wr W16 (Or.inl (List.mem_of_getElem? (i := 0) rfl))
  obtain ⟨fs, hr, hrun, hended, hW, hsame⟩ := X16.leave (v := none) (fun _ => rfl)
  refine ⟨_, _, X16.returnOut hx Bd.returns (hb hby d3_19) hr, hrun, hended, _, _, rfl, ?_, ⟨_, rfl⟩, hW, hsame.mono (by decide) (by decide)⟩
  show Q3 Z a b h0 n0 none T16.heap _
  rw [e16]
  exact ⟨rfl, N16, K22, F17, F18, F19⟩
theorem d1_0 : decode prog_9_method_2_code 0 = .ok (.new 8, 3) := by decide +kernel
theorem d1_3 : decode prog_9_method_2_code 3 = .ok (.dup, 1) := by decide +kernel
theorem d1_4 : decode prog_9_method_2_code 4 = .ok (.iload_n 0, 1) := by decide +kernel
theorem pd__I_Ljava_lang_Integer_ : parseMethodDescriptor "(I)Ljava/lang/Integer;" = some ⟨[.int], some (.object "java/lang/Integer")⟩ := by decide +kernel
theorem d1_5 : decode prog_9_method_2_code 5 = .ok (.invokestatic 21, 3) := by decide +kernel
theorem d1_8 : decode prog_9_method_2_code 8 = .ok (.iconst 0, 1) := by decide +kernel
theorem d1_9 : decode prog_9_method_2_code 9 = .ok (.aconst_null, 1) := by decide +kernel
theorem pd__Ljava_lang_Integer_ZLjava_lang_String__V : parseMethodDescriptor "(Ljava/lang/Integer;ZLjava/lang/String;)V" = some ⟨[.object "java/lang/Integer", .boolean, .object "java/lang/String"], none⟩ := by decide +kernel
theorem d1_10 : decode prog_9_method_2_code 10 = .ok (.invokespecial 27, 3) := by decide +kernel
theorem d1_13 : decode prog_9_method_2_code 13 = .ok (.areturn, 1) := by decide +kernel
theorem ef1 (m : MethodId) (x0 : Int32) : entryFrame m #[(.int x0)] 1 = mkF m 0 #[.val (.int x0)] [] := by first | (simp [entryFrame, mkF, argsToLocals, Value.category]; done) | rfl
def Q1 (Z : State) (p : Int32) (ca : Addr) (clc : Cell) (h0 : Heap) (n0 : Nat) (v : Option Value) (h : Heap) (L : List Loc) : Prop := ∃ a b, v = some (.ref a) ∧ Fr n0 L ∧ Keep h0 h [] ∧ Exa Z h a "com/example/periodic_jobs/periodicjobs/engine/DeliveryResult" ∧ Fld Z h a "com/example/periodic_jobs/periodicjobs/engine/DeliveryResult" "httpStatus" "Ljava/lang/Integer;" (.ref b) ∧ Fld Z h a "com/example/periodic_jobs/periodicjobs/engine/DeliveryResult" "confirmed" "Z" (.int (0 : Int32)) ∧ Fld Z h a "com/example/periodic_jobs/periodicjobs/engine/DeliveryResult" "error" "Ljava/lang/String;" .null ∧ Exa Z h b "java/lang/Integer" ∧ Fld Z h b "java/lang/Integer" "value" "I" (.int p)
set_option maxRecDepth 65536 in
set_option maxHeartbeats 40000000 in
theorem rm1 (l : Launch) (Z : State) (a0 : Array Value) (hw : ∀ d ∈ tables_1, d.before a0 Z = true) (ws : List Jvm.Cond) (p : Int32) (ca : Addr) (clc : Cell) (h0 : Heap) (n0 : Nat) (Z0 : n0 ≤ h0.size) (O0 : Old Z n0 h0) (S_high : Sta Z Z.heap "java/lang/Integer$IntegerCache" "high" "I" (.int (127 : Int32))) (S_cache : Sta Z Z.heap "java/lang/Integer$IntegerCache" "cache" "[Ljava/lang/Integer;" (.ref ca)) (B_cache : Bxs Z ca clc "java/lang/Integer" "I" (256 : Int32) (fun j => .int (j - 128))) :
    MetFree l (⟨"com/example/periodic_jobs/periodicjobs/engine/DeliveryResult", "answered", "(I)Lcom/example/periodic_jobs/periodicjobs/engine/DeliveryResult;"⟩ : MethodName) (head1 (Jvm.Cond.code (⟨"com/example/periodic_jobs/periodicjobs/engine/DeliveryResult", "answered", "(I)Lcom/example/periodic_jobs/periodicjobs/engine/DeliveryResult;"⟩ : MethodName) prog_9_method_2_code 1 ((Option.some (FieldType.object "com/example/periodic_jobs/periodicjobs/engine/DeliveryResult"))) :: ws) ({ frames := 4, cells := 2, slots := 4, locals := 52 } : Room)) (fun aa U => aa = #[(.int p)] ∧ Z.Warmed39 U.vm ∧ U.heap = h0) (fun _ _ _ _ _ => True) (fun _ U ou U' => ∃ v L, ou = .returned v ∧ Q1 Z p ca clc h0 n0 v U'.heap L ∧ FrameEnd U ou U' L ({ frames := 4, cells := 2, slots := 4, locals := 52 } : Room).cells ({ frames := 4, cells := 2, slots := 4, locals := 52 } : Room).slots) := by
  refine MetFree.of_bodySF (plainFor_of_name pn_com_example_periodic_jobs_periodicjobs_engine_DeliveryResult) hisR ?_
  intro pg e s m args below meth c s₁ Bd hml0 hP hK
  obtain ⟨rfl, hZ, hh⟩ := hP
  have hx := Bd.exec
  have hby := Bd.bytes
  have hml : c.maxLocals = 1 := hml0
  have hown : s.vm.findClass "com/example/periodic_jobs/periodicjobs/engine/DeliveryResult" = some m.cls := findClass_of_methodNamed Bd.named
  have hnm := (name_of_methodNamed Bd.named Bd.method).1
  have X0 : Stand pg l e ({ frames := 4, cells := 2, slots := 4, locals := 52 } : Room) s m #[(.int p)] below meth c s₁ [] 0 0 := Stand.of_body Bd
  have e0 : s₁.heap = h0 := by rw [← hh, Bd.state]; rfl
  have N0 := Fr.nil n0
  have K0 : Keep h0 h0 [] := Keep.refl _ _
  show own_Go pg.tables e below (fun ou U' => ∃ v L, ou = .returned v ∧ Q1 Z p ca clc h0 n0 v U'.heap L ∧ FrameEnd s ou U' L ({ frames := 4, cells := 2, slots := 4, locals := 52 } : Room).cells ({ frames := 4, cells := 2, slots := 4, locals := 52 } : Room).slots) (s₁.setTop (entryFrame m #[(.int p)] 1))
  refine own_go (S' := s₁.setTop (mkF m 0 #[.val (.int p)] [])) (fun tg kk => castTop (ef1 m p) kk) ?_
  obtain ⟨T1, h1, X1, e1, Ex1, A1, D1, -, st1⟩ := newO X0 hx hZ hown (hw _ (List.mem_of_getElem? (i := 5) rfl)) (hw _ (List.mem_of_getElem? (i := 6) rfl)) (hw _ (List.mem_of_getElem? (i := 3) rfl)) e0 (g := (mkF m 0 #[.val (.int p)] [])) rfl (hb hby d1_0) (by decide) (by decide)
  obtain ⟨a1, g1⟩ : ∃ z, z = h0.size := ⟨_, rfl⟩
  rw [← g1] at A1 D1 st1
  have q1 : n0 ≤ a1 := by rw [g1]; exact Z0
  have r1 : h0.size ≤ a1 := by rw [g1]; exact K0.1
  have O2 : Old Z n0 h1 := O0.ext Ex1
  have Z3 : n0 ≤ h1.size := Nat.le_trans Z0 Ex1.1
  have K4 : Keep h0 h1 [] := K0.ext Ex1
  refine own_go (S' := T1.setTop (mkF m 3 #[.val (.int p)] [(.ref a1)])) (st1) ?_
  have F1_httpStatus : Fld Z h1 a1 "com/example/periodic_jobs/periodicjobs/engine/DeliveryResult" "httpStatus" "Ljava/lang/Integer;" .null := D1 (Or.inr (hw _ (List.mem_of_getElem? (i := 21) rfl))) (ty := .object "java/lang/Integer") (by decide)
  have F1_confirmed : Fld Z h1 a1 "com/example/periodic_jobs/periodicjobs/engine/DeliveryResult" "confirmed" "Z" (.int (0 : Int32)) := D1 (Or.inr (hw _ (List.mem_of_getElem? (i := 23) rfl))) (ty := .boolean) (by decide)
  have F1_error : Fld Z h1 a1 "com/example/periodic_jobs/periodicjobs/engine/DeliveryResult" "error" "Ljava/lang/String;" .null := D1 (Or.inr (hw _ (List.mem_of_getElem? (i := 25) rfl))) (ty := .object "java/lang/String") (by decide)
  refine own_go (S' := T1.setTop (mkF m 4 #[.val (.int p)] [(.ref a1), (.ref a1)])) (fun tg kk => XS.dup X1.here hx rfl (hb hby d1_3) rfl rfl kk) ?_
  refine own_go (S' := T1.setTop (mkF m 5 #[.val (.int p)] [(.int p), (.ref a1), (.ref a1)])) (fun tg kk => XS.iloadN X1.here hx rfl (hb hby d1_4) rfl kk) ?_
  obtain ⟨v5, _, ⟨T5, L5, k5, n5⟩, -, X5, ⟨Lc5, hQ5, l5, y5, z5⟩, st5⟩ := Jvm.LawKit.callS X1 hx (y := (⟨"java/lang/Integer", "valueOf", "(I)Ljava/lang/Integer;"⟩ : MethodName)) hown (mvT hZ (hw _ (List.mem_of_getElem? (i := 7) rfl))) (mvT hZ (hw _ (List.mem_of_getElem? (i := 8) rfl))) (mvT hZ (hw _ (List.mem_of_getElem? (i := 9) rfl))) (mvT hZ (hw _ (List.mem_of_getElem? (i := 10) rfl))) (by decide) (backOf (W := 2) (rm2 l Z a0 hw [] p ca clc h1 n0 Z3 O2 S_high S_cache B_cache) hZ (hw _ (List.mem_of_getElem? (i := 10) rfl)) (hw _ (List.mem_of_getElem? (i := 9) rfl)) (by decide) (by decide)) (g := (mkF m 5 #[.val (.int p)] [(.int p), (.ref a1), (.ref a1)])) rfl (by rw [hml]; rfl) (argsL := [(.int p)]) (rest := [(.ref a1), (.ref a1)]) (lenOf pd__I_Ljava_lang_Integer_ rfl) rfl (by show 2 * 0 + _ ≤ _; exact Nat.le_of_eq rfl) (hb hby d1_5) (fun _ _ => ⟨rfl, e1, (by decide : 1 + 1 ≤ _), (by decide : 3 + 1 ≤ _)⟩)
  dsimp only [Pt.U, Pt.locs, Pt.cells, Pt.slots] at X5 l5 y5 z5 st5 hQ5
  subst l5 y5 z5
  obtain ⟨b5, rfl, M6, K5, G5_0, G5_1⟩ := hQ5
  have N6 := Fr.app N0 M6
  obtain ⟨h5, e5⟩ : ∃ z, T5.heap = z := ⟨_, rfl⟩
  rw [e5] at K5 G5_0 G5_1
  have F7 := F1_httpStatus.keep K5 nin0
  have F8 := F1_confirmed.keep K5 nin0
  have F9 := F1_error.keep K5 nin0
  have E10 : Exa Z h5 a1 "com/example/periodic_jobs/periodicjobs/engine/DeliveryResult" := A1.keep K5
  have O11 : Old Z n0 h5 := O2.keep K5 all0
  have Z12 : n0 ≤ h5.size := Nat.le_trans Z3 K5.1
  have K13 : Keep h0 h5 [] := K4.trans K5 all0
  refine own_go (S' := T5.setTop (mkF m 8 #[.val (.int p)] [(.ref b5), (.ref a1), (.ref a1)])) st5 ?_
  refine own_go (S' := T5.setTop (mkF m 9 #[.val (.int p)] [(.int (0 : Int32)), (.ref b5), (.ref a1), (.ref a1)])) (fun tg kk => XT.iconstV X5.here hx rfl (0 : Int32) (hb hby d1_8) (by decide) kk) ?_
  refine own_go (S' := T5.setTop (mkF m 10 #[.val (.int p)] [.null, (.int (0 : Int32)), (.ref b5), (.ref a1), (.ref a1)])) (fun tg kk => XS.aconstNull X5.here hx rfl (hb hby d1_9) kk) ?_
  obtain ⟨v14, _, ⟨T14, L14, k14, n14⟩, -, X14, ⟨Lc14, hQ14, l14, y14, z14⟩, st14⟩ := X5.specialBack hx (y := (⟨"com/example/periodic_jobs/periodicjobs/engine/DeliveryResult", "<init>", "(Ljava/lang/Integer;ZLjava/lang/String;)V"⟩ : MethodName)) rfl hown (mvT hZ (hw _ (List.mem_of_getElem? (i := 14) rfl))) (mvT hZ (hw _ (List.mem_of_getElem? (i := 15) rfl))) (mvT hZ (hw _ (List.mem_of_getElem? (i := 16) rfl))) (by decide) (backOf (W := 1) (rm3 l Z a0 hw [] a1 b5 h5 n0 Z12 F7 F8 F9 E10 q1) hZ (hw _ (List.mem_of_getElem? (i := 16) rfl)) (hw _ (List.mem_of_getElem? (i := 3) rfl)) (by decide) (by decide)) (g := (mkF m 10 #[.val (.int p)] [.null, (.int (0 : Int32)), (.ref b5), (.ref a1), (.ref a1)])) rfl (by rw [hml]; rfl) (Steps.refl _) (a := a1) (argsL := [(.ref b5), (.int (0 : Int32)), .null]) (rest := [(.ref a1)]) (lenOf pd__Ljava_lang_Integer_ZLjava_lang_String__V rfl) rfl (by show 2 * 0 + _ ≤ _; exact Nat.le_of_eq rfl) (hb hby d1_10) (fun _ _ => ⟨rfl, e5, (by decide : 2 + 0 ≤ _), (by decide : 4 + 0 ≤ _)⟩)
  dsimp only [Pt.U, Pt.locs, Pt.cells, Pt.slots] at X14 l14 y14 z14 st14 hQ14
  subst l14 y14 z14
  obtain ⟨rfl, M15, K14, G14_0, G14_1, G14_2⟩ := hQ14
  have N15 := Fr.app N6 M15
  obtain ⟨h14, e14⟩ : ∃ z, T14.heap = z := ⟨_, rfl⟩
  rw [e14] at K14 G14_0 G14_1 G14_2
  have F16 := G5_1.keep K14 (ninS (ne_exa G5_0 E10 (by decide)) nin0)
  have E17 : Exa Z h14 a1 "com/example/periodic_jobs/periodicjobs/engine/DeliveryResult" := E10.keep K14
  have E18 : Exa Z h14 b5 "java/lang/Integer" := G5_0.keep K14
  have O19 : Old Z n0 h14 := O11.keep K14 (allS q1 all0)
  have Z20 : n0 ≤ h14.size := Nat.le_trans Z12 K14.1
  have K21 : Keep h0 h14 [] := K13.trans K14 (allS (Or.inr r1) all0)
  refine own_to (S' := T14.setTop (mkF m 13 #[.val (.int p)] [(.ref a1)])) st14 ?_
  obtain ⟨fs, hr, hrun, hended, hW, hsame⟩ := X14.leave (v := some (.ref a1)) (fun h => by rw [Bd.returns] at h; cases h)
  refine ⟨_, _, retOut X14 hx (i := .areturn) Bd.returns (own_narR rfl rfl) (Or.inr (Or.inr (Or.inr (Or.inr ⟨rfl, rfl, rfl⟩)))) (hb hby d1_13) hr, hrun, hended, _, _, rfl, ?_, ⟨_, rfl⟩, hW, hsame.mono (by decide) (by decide)⟩
  show Q1 Z p ca clc h0 n0 (some (.ref a1)) T14.heap _
  rw [e14]
  exact ⟨a1, b5, rfl, N15, K21, E17, G14_0, G14_1, G14_2, E18, F16⟩
theorem d6_0 : decode jdk_33_method_27_code 0 = .ok (.aload_n 0, 1) := by decide +kernel
theorem d6_1 : decode jdk_33_method_27_code 1 = .ok (.getfield 205, 3) := by decide +kernel
theorem d6_4 : decode jdk_33_method_27_code 4 = .ok (.ireturn, 1) := by decide +kernel
theorem ef6 (m : MethodId) (x0 : Addr) : entryFrame m #[(.ref x0)] 1 = mkF m 0 #[.val (.ref x0)] [] := by first | (simp [entryFrame, mkF, argsToLocals, Value.category]; done) | rfl
def Q6 (Z : State) (b : Addr) (p : Int32) (h0 : Heap) (n0 : Nat) (v : Option Value) (h : Heap) (L : List Loc) : Prop := v = some (.int p) ∧ Fr n0 L ∧ h = h0
set_option maxRecDepth 65536 in
set_option maxHeartbeats 40000000 in
theorem rm6 (l : Launch) (Z : State) (a0 : Array Value) (hw : ∀ d ∈ tables_1, d.before a0 Z = true) (ws : List Jvm.Cond) (b : Addr) (p : Int32) (h0 : Heap) (n0 : Nat) (Z0 : n0 ≤ h0.size) (F1 : Fld Z h0 b "java/lang/Integer" "value" "I" (.int p)) :
    MetFree l (⟨"java/lang/Integer", "intValue", "()I"⟩ : MethodName) (head1 (Jvm.Cond.code (⟨"java/lang/Integer", "intValue", "()I"⟩ : MethodName) jdk_33_method_27_code 1 ((Option.some FieldType.int)) :: ws) ({ frames := 0, cells := 0, slots := 0, locals := 0 } : Room)) (fun aa U => aa = #[(.ref b)] ∧ Z.Warmed39 U.vm ∧ U.heap = h0) (fun _ _ _ _ _ => True) (fun _ U ou U' => ∃ v L, ou = .returned v ∧ Q6 Z b p h0 n0 v U'.heap L ∧ FrameEnd U ou U' L ({ frames := 0, cells := 0, slots := 0, locals := 0 } : Room).cells ({ frames := 0, cells := 0, slots := 0, locals := 0 } : Room).slots) := by
  refine MetFree.of_bodySF (plainFor_of_name pn_java_lang_Integer) hisR ?_
  intro pg e s m args below meth c s₁ Bd hml0 hP hK
  obtain ⟨rfl, hZ, hh⟩ := hP
  have hx := Bd.exec
  have hby := Bd.bytes
  have hml : c.maxLocals = 1 := hml0
  have hown : s.vm.findClass "java/lang/Integer" = some m.cls := findClass_of_methodNamed Bd.named
  have hnm := (name_of_methodNamed Bd.named Bd.method).1
  have X0 : Stand pg l e ({ frames := 0, cells := 0, slots := 0, locals := 0 } : Room) s m #[(.ref b)] below meth c s₁ [] 0 0 := Stand.of_body Bd
  have e0 : s₁.heap = h0 := by rw [← hh, Bd.state]; rfl
  have N0 := Fr.nil n0
  show own_Go pg.tables e below (fun ou U' => ∃ v L, ou = .returned v ∧ Q6 Z b p h0 n0 v U'.heap L ∧ FrameEnd s ou U' L ({ frames := 0, cells := 0, slots := 0, locals := 0 } : Room).cells ({ frames := 0, cells := 0, slots := 0, locals := 0 } : Room).slots) (s₁.setTop (entryFrame m #[(.ref b)] 1))
  refine own_go (S' := s₁.setTop (mkF m 0 #[.val (.ref b)] [])) (fun tg kk => castTop (ef6 m b) kk) ?_
  refine own_go (S' := s₁.setTop (mkF m 1 #[.val (.ref b)] [(.ref b)])) (fun tg kk => XS.aloadN X0.here hx rfl (hb hby d6_0) rfl rfl kk) ?_
  obtain ⟨T1, X1, e1, st1⟩ := getF X0 hx hZ hown (host := "") (Or.inl (hw _ (List.mem_of_getElem? (i := 36) rfl))) Via.refl e0 F1 (g := (mkF m 1 #[.val (.ref b)] [(.ref b)])) rfl rfl (hb hby d6_1)
  refine own_go (S' := T1.setTop (mkF m 4 #[.val (.ref b)] [(.int p)])) (st1) ?_
  obtain ⟨fs, hr, hrun, hended, hW, hsame⟩ := X1.leave (v := some (.int p)) (fun h => by rw [Bd.returns] at h; cases h)
  refine ⟨_, _, retI X1 hx Bd.returns (hb hby d6_4) hr, hrun, hended, _, _, rfl, ?_, ⟨_, rfl⟩, hW, hsame.mono (by decide) (by decide)⟩
  show Q6 Z b p h0 n0 (some (.int p)) T1.heap _
  rw [e1]
  exact ⟨rfl, N0, rfl⟩
theorem d8_0 : decode jdk_2649_method_3_code 0 = .ok (.aload_n 0, 1) := by decide +kernel
theorem d8_1 : decode jdk_2649_method_3_code 1 = .ok (.invokespecial 1, 3) := by decide +kernel
theorem d8_4 : decode jdk_2649_method_3_code 4 = .ok (.aload_n 0, 1) := by decide +kernel
theorem d8_5 : decode jdk_2649_method_3_code 5 = .ok (.iconst 1, 1) := by decide +kernel
theorem d8_6 : decode jdk_2649_method_3_code 6 = .ok (.putfield 7, 3) := by decide +kernel
theorem d8_9 : decode jdk_2649_method_3_code 9 = .ok (.aload_n 0, 1) := by decide +kernel
theorem d8_10 : decode jdk_2649_method_3_code 10 = .ok (.iload_n 1, 1) := by decide +kernel
theorem d8_11 : decode jdk_2649_method_3_code 11 = .ok (.putfield 13, 3) := by decide +kernel
theorem d8_14 : decode jdk_2649_method_3_code 14 = .ok (.return_, 1) := by decide +kernel
theorem pn_java_util_OptionalInt : plainName "java/util/OptionalInt" = true := by first | (simp [plainName, overriddenIn]; done) | decide +kernel
theorem ef8 (m : MethodId) (x0 : Addr) (x1 : Int32) : entryFrame m #[(.ref x0), (.int x1)] 2 = mkF m 0 #[.val (.ref x0), .val (.int x1)] [] := by first | (simp [entryFrame, mkF, argsToLocals, Value.category]; done) | rfl
def Q8 (Z : State) (a : Addr) (p : Int32) (h0 : Heap) (n0 : Nat) (v : Option Value) (h : Heap) (L : List Loc) : Prop := v = none ∧ Fr n0 L ∧ Keep h0 h [a] ∧ Fld Z h a "java/util/OptionalInt" "isPresent" "Z" (.int (1 : Int32)) ∧ Fld Z h a "java/util/OptionalInt" "value" "I" (.int p)
set_option maxRecDepth 65536 in
set_option maxHeartbeats 40000000 in
theorem rm8 (l : Launch) (Z : State) (a0 : Array Value) (hw : ∀ d ∈ tables_1, d.before a0 Z = true) (ws : List Jvm.Cond) (a : Addr) (p : Int32) (h0 : Heap) (n0 : Nat) (Z0 : n0 ≤ h0.size) (F_isPresent : Fld Z h0 a "java/util/OptionalInt" "isPresent" "Z" (.int (0 : Int32))) (F_value : Fld Z h0 a "java/util/OptionalInt" "value" "I" (.int (0 : Int32))) (E1 : Exa Z h0 a "java/util/OptionalInt") (g1 : n0 ≤ a) :
    MetFree l (⟨"java/util/OptionalInt", "<init>", "(I)V"⟩ : MethodName) (head1 (Jvm.Cond.code (⟨"java/util/OptionalInt", "<init>", "(I)V"⟩ : MethodName) jdk_2649_method_3_code 2 ((Option.none : Option FieldType)) :: ws) ({ frames := 1, cells := 0, slots := 0, locals := 12 } : Room)) (fun aa U => aa = #[(.ref a), (.int p)] ∧ Z.Warmed39 U.vm ∧ U.heap = h0) (fun _ _ _ _ _ => True) (fun _ U ou U' => ∃ v L, ou = .returned v ∧ Q8 Z a p h0 n0 v U'.heap L ∧ FrameEnd U ou U' L ({ frames := 1, cells := 0, slots := 0, locals := 12 } : Room).cells ({ frames := 1, cells := 0, slots := 0, locals := 12 } : Room).slots) := by
  refine MetFree.of_bodySF (plainFor_of_name pn_java_util_OptionalInt) hisR ?_
  intro pg e s m args below meth c s₁ Bd hml0 hP hK
  obtain ⟨rfl, hZ, hh⟩ := hP
  have hx := Bd.exec
  have hby := Bd.bytes
  have hml : c.maxLocals = 2 := hml0
  have hown : s.vm.findClass "java/util/OptionalInt" = some m.cls := findClass_of_methodNamed Bd.named
  have hnm := (name_of_methodNamed Bd.named Bd.method).1
  have X0 : Stand pg l e ({ frames := 1, cells := 0, slots := 0, locals := 12 } : Room) s m #[(.ref a), (.int p)] below meth c s₁ [] 0 0 := Stand.of_body Bd
  have e0 : s₁.heap = h0 := by rw [← hh, Bd.state]; rfl
  have N0 := Fr.nil n0
  have K0 : Keep h0 h0 [a] := Keep.refl _ _
  show own_Go pg.tables e below (fun ou U' => ∃ v L, ou = .returned v ∧ Q8 Z a p h0 n0 v U'.heap L ∧ FrameEnd s ou U' L ({ frames := 1, cells := 0, slots := 0, locals := 12 } : Room).cells ({ frames := 1, cells := 0, slots := 0, locals := 12 } : Room).slots) (s₁.setTop (entryFrame m #[(.ref a), (.int p)] 2))
  refine own_go (S' := s₁.setTop (mkF m 0 #[.val (.ref a), .val (.int p)] [])) (fun tg kk => castTop (ef8 m a p) kk) ?_
  refine own_go (S' := s₁.setTop (mkF m 1 #[.val (.ref a), .val (.int p)] [(.ref a)])) (fun tg kk => XS.aloadN X0.here hx rfl (hb hby d8_0) rfl rfl kk) ?_
  obtain ⟨T1, X1, e1, st1⟩ := initO X0 hx hZ hown (hw _ (List.mem_of_getElem? (i := 48) rfl)) (hw _ (List.mem_of_getElem? (i := 18) rfl)) (hw _ (List.mem_of_getElem? (i := 19) rfl)) e0 (g := (mkF m 1 #[.val (.ref a), .val (.int p)] [(.ref a)])) rfl (by rw [hml]; rfl) rfl (hb hby d8_1) (by decide) (W := 0) (by show 2 * 0 + _ ≤ _; exact Nat.le_of_eq rfl) (by decide)
  refine own_go (S' := T1.setTop (mkF m 4 #[.val (.ref a), .val (.int p)] [])) (st1) ?_
  refine own_go (S' := T1.setTop (mkF m 5 #[.val (.ref a), .val (.int p)] [(.ref a)])) (fun tg kk => XS.aloadN X1.here hx rfl (hb hby d8_4) rfl rfl kk) ?_
  refine own_go (S' := T1.setTop (mkF m 6 #[.val (.ref a), .val (.int p)] [(.int (1 : Int32)), (.ref a)])) (fun tg kk => XT.iconstV X1.here hx rfl (1 : Int32) (hb hby d8_5) (by decide) kk) ?_
  obtain ⟨T2, h2, X2, e2, W2, st2⟩ := putF X1 hx hZ hown (host := "") (Or.inl (hw _ (List.mem_of_getElem? (i := 49) rfl))) Via.refl e1 F_isPresent E1 (Or.inr ⟨(hw _ (List.mem_of_getElem? (i := 50) rfl)), rfl, hnm⟩) (hw _ (List.mem_of_getElem? (i := 43) rfl)) (ty := .boolean) (by decide) rfl rfl (g := (mkF m 6 #[.val (.ref a), .val (.int p)] [(.int (1 : Int32)), (.ref a)])) rfl rfl (hb hby d8_6)
  refine own_go (S' := T2.setTop (mkF m 9 #[.val (.ref a), .val (.int p)] [])) (st2) ?_
  have N2 := Fr.snoc X2 N0 g1
  have F3 := F_isPresent.same W2
  have F4 := F_value.other W2 (Or.inr (slot_ne (Or.inr (hw _ (List.mem_of_getElem? (i := 52) rfl))) (Or.inr (hw _ (List.mem_of_getElem? (i := 50) rfl))) (by decide) (t := .int) (t' := .boolean) (by decide) (by decide)))
  have E5 : Exa Z h2 a "java/util/OptionalInt" := E1.wr W2
  have Z6 : n0 ≤ h2.size := by rw [W2.size]; exact Z0
  have K7 : Keep h0 h2 [a] := K0.wr W2 (Or.inl (List.mem_of_getElem? (i := 0) rfl))
  refine own_go (S' := T2.setTop (mkF m 10 #[.val (.ref a), .val (.int p)] [(.ref a)])) (fun tg kk => XS.aloadN X2.here hx rfl (hb hby d8_9) rfl rfl kk) ?_
  refine own_go (S' := T2.setTop (mkF m 11 #[.val (.ref a), .val (.int p)] [(.int p), (.ref a)])) (fun tg kk => XS.iloadN X2.here hx rfl (hb hby d8_10) rfl kk) ?_
  obtain ⟨T8, h8, X8, e8, W8, st8⟩ := putF X2 hx hZ hown (host := "") (Or.inl (hw _ (List.mem_of_getElem? (i := 51) rfl))) Via.refl e2 F4 E5 (Or.inr ⟨(hw _ (List.mem_of_getElem? (i := 52) rfl)), rfl, hnm⟩) (hw _ (List.mem_of_getElem? (i := 43) rfl)) (ty := .int) (by decide) rfl rfl (g := (mkF m 11 #[.val (.ref a), .val (.int p)] [(.int p), (.ref a)])) rfl rfl (hb hby d8_11)
  refine own_go (S' := T8.setTop (mkF m 14 #[.val (.ref a), .val (.int p)] [])) (st8) ?_
  have N8 := Fr.snoc X8 N2 g1
  have F9 := F3.other W8 (Or.inr (slot_ne (Or.inr (hw _ (List.mem_of_getElem? (i := 50) rfl))) (Or.inr (hw _ (List.mem_of_getElem? (i := 52) rfl))) (by decide) (t := .boolean) (t' := .int) (by decide) (by decide)))
  have F10 := F4.same W8
  have E11 : Exa Z h8 a "java/util/OptionalInt" := E5.wr W8
  have Z12 : n0 ≤ h8.size := by rw [W8.size]; exact Z6
  have K13 : Keep h0 h8 [a] := K7.wr W8 (Or.inl (List.mem_of_getElem? (i := 0) rfl))
  obtain ⟨fs, hr, hrun, hended, hW, hsame⟩ := X8.leave (v := none) (fun _ => rfl)
  refine ⟨_, _, X8.returnOut hx Bd.returns (hb hby d8_14) hr, hrun, hended, _, _, rfl, ?_, ⟨_, rfl⟩, hW, hsame.mono (by decide) (by decide)⟩
  show Q8 Z a p h0 n0 none T8.heap _
  rw [e8]
  exact ⟨rfl, N8, K13, F9, F10⟩
theorem d7_0 : decode jdk_2649_method_4_code 0 = .ok (.new 8, 3) := by decide +kernel
theorem d7_3 : decode jdk_2649_method_4_code 3 = .ok (.dup, 1) := by decide +kernel
theorem d7_4 : decode jdk_2649_method_4_code 4 = .ok (.iload_n 0, 1) := by decide +kernel
theorem d7_5 : decode jdk_2649_method_4_code 5 = .ok (.invokespecial 21, 3) := by decide +kernel
theorem d7_8 : decode jdk_2649_method_4_code 8 = .ok (.areturn, 1) := by decide +kernel
theorem ef7 (m : MethodId) (x0 : Int32) : entryFrame m #[(.int x0)] 1 = mkF m 0 #[.val (.int x0)] [] := by first | (simp [entryFrame, mkF, argsToLocals, Value.category]; done) | rfl
def Q7 (Z : State) (p : Int32) (h0 : Heap) (n0 : Nat) (v : Option Value) (h : Heap) (L : List Loc) : Prop := ∃ a, v = some (.ref a) ∧ Fr n0 L ∧ Keep h0 h [] ∧ Exa Z h a "java/util/OptionalInt" ∧ Fld Z h a "java/util/OptionalInt" "isPresent" "Z" (.int (1 : Int32)) ∧ Fld Z h a "java/util/OptionalInt" "value" "I" (.int p)
set_option maxRecDepth 65536 in
set_option maxHeartbeats 40000000 in
theorem rm7 (l : Launch) (Z : State) (a0 : Array Value) (hw : ∀ d ∈ tables_1, d.before a0 Z = true) (ws : List Jvm.Cond) (p : Int32) (h0 : Heap) (n0 : Nat) (Z0 : n0 ≤ h0.size)  :
    MetFree l (⟨"java/util/OptionalInt", "of", "(I)Ljava/util/OptionalInt;"⟩ : MethodName) (head1 (Jvm.Cond.code (⟨"java/util/OptionalInt", "of", "(I)Ljava/util/OptionalInt;"⟩ : MethodName) jdk_2649_method_4_code 1 ((Option.some (FieldType.object "java/util/OptionalInt"))) :: ws) ({ frames := 2, cells := 1, slots := 2, locals := 26 } : Room)) (fun aa U => aa = #[(.int p)] ∧ Z.Warmed39 U.vm ∧ U.heap = h0) (fun _ _ _ _ _ => True) (fun _ U ou U' => ∃ v L, ou = .returned v ∧ Q7 Z p h0 n0 v U'.heap L ∧ FrameEnd U ou U' L ({ frames := 2, cells := 1, slots := 2, locals := 26 } : Room).cells ({ frames := 2, cells := 1, slots := 2, locals := 26 } : Room).slots) := by
  refine MetFree.of_bodySF (plainFor_of_name pn_java_util_OptionalInt) hisR ?_
  intro pg e s m args below meth c s₁ Bd hml0 hP hK
  obtain ⟨rfl, hZ, hh⟩ := hP
  have hx := Bd.exec
  have hby := Bd.bytes
  have hml : c.maxLocals = 1 := hml0
  have hown : s.vm.findClass "java/util/OptionalInt" = some m.cls := findClass_of_methodNamed Bd.named
  have hnm := (name_of_methodNamed Bd.named Bd.method).1
  have X0 : Stand pg l e ({ frames := 2, cells := 1, slots := 2, locals := 26 } : Room) s m #[(.int p)] below meth c s₁ [] 0 0 := Stand.of_body Bd
  have e0 : s₁.heap = h0 := by rw [← hh, Bd.state]; rfl
  have N0 := Fr.nil n0
  have K0 : Keep h0 h0 [] := Keep.refl _ _
  show own_Go pg.tables e below (fun ou U' => ∃ v L, ou = .returned v ∧ Q7 Z p h0 n0 v U'.heap L ∧ FrameEnd s ou U' L ({ frames := 2, cells := 1, slots := 2, locals := 26 } : Room).cells ({ frames := 2, cells := 1, slots := 2, locals := 26 } : Room).slots) (s₁.setTop (entryFrame m #[(.int p)] 1))
  refine own_go (S' := s₁.setTop (mkF m 0 #[.val (.int p)] [])) (fun tg kk => castTop (ef7 m p) kk) ?_
  obtain ⟨T1, h1, X1, e1, Ex1, A1, D1, -, st1⟩ := newO X0 hx hZ hown (hw _ (List.mem_of_getElem? (i := 42) rfl)) (hw _ (List.mem_of_getElem? (i := 43) rfl)) (hw _ (List.mem_of_getElem? (i := 40) rfl)) e0 (g := (mkF m 0 #[.val (.int p)] [])) rfl (hb hby d7_0) (by decide) (by decide)
  obtain ⟨a1, g1⟩ : ∃ z, z = h0.size := ⟨_, rfl⟩
  rw [← g1] at A1 D1 st1
  have q1 : n0 ≤ a1 := by rw [g1]; exact Z0
  have r1 : h0.size ≤ a1 := by rw [g1]; exact K0.1
  have Z2 : n0 ≤ h1.size := Nat.le_trans Z0 Ex1.1
  have K3 : Keep h0 h1 [] := K0.ext Ex1
  refine own_go (S' := T1.setTop (mkF m 3 #[.val (.int p)] [(.ref a1)])) (st1) ?_
  have F1_isPresent : Fld Z h1 a1 "java/util/OptionalInt" "isPresent" "Z" (.int (0 : Int32)) := D1 (Or.inr (hw _ (List.mem_of_getElem? (i := 50) rfl))) (ty := .boolean) (by decide)
  have F1_value : Fld Z h1 a1 "java/util/OptionalInt" "value" "I" (.int (0 : Int32)) := D1 (Or.inr (hw _ (List.mem_of_getElem? (i := 52) rfl))) (ty := .int) (by decide)
  refine own_go (S' := T1.setTop (mkF m 4 #[.val (.int p)] [(.ref a1), (.ref a1)])) (fun tg kk => XS.dup X1.here hx rfl (hb hby d7_3) rfl rfl kk) ?_
  refine own_go (S' := T1.setTop (mkF m 5 #[.val (.int p)] [(.int p), (.ref a1), (.ref a1)])) (fun tg kk => XS.iloadN X1.here hx rfl (hb hby d7_4) rfl kk) ?_
  obtain ⟨v4, _, ⟨T4, L4, k4, n4⟩, -, X4, ⟨Lc4, hQ4, l4, y4, z4⟩, st4⟩ := X1.specialBack hx (y := (⟨"java/util/OptionalInt", "<init>", "(I)V"⟩ : MethodName)) rfl hown (mvT hZ (hw _ (List.mem_of_getElem? (i := 44) rfl))) (mvT hZ (hw _ (List.mem_of_getElem? (i := 45) rfl))) (mvT hZ (hw _ (List.mem_of_getElem? (i := 47) rfl))) (by decide) (backOf (W := 1) (rm8 l Z a0 hw [] a1 p h1 n0 Z2 F1_isPresent F1_value A1 q1) hZ (hw _ (List.mem_of_getElem? (i := 47) rfl)) (hw _ (List.mem_of_getElem? (i := 40) rfl)) (by decide) (by decide)) (g := (mkF m 5 #[.val (.int p)] [(.int p), (.ref a1), (.ref a1)])) rfl (by rw [hml]; rfl) (Steps.refl _) (a := a1) (argsL := [(.int p)]) (rest := [(.ref a1)]) (lenOf pd__I_V rfl) rfl (by show 2 * 0 + _ ≤ _; exact Nat.le_of_eq rfl) (hb hby d7_5) (fun _ _ => ⟨rfl, e1, (by decide : 1 + 0 ≤ _), (by decide : 2 + 0 ≤ _)⟩)
  dsimp only [Pt.U, Pt.locs, Pt.cells, Pt.slots] at X4 l4 y4 z4 st4 hQ4
  subst l4 y4 z4
  obtain ⟨rfl, M5, K4, G4_0, G4_1⟩ := hQ4
  have N5 := Fr.app N0 M5
  obtain ⟨h4, e4⟩ : ∃ z, T4.heap = z := ⟨_, rfl⟩
  rw [e4] at K4 G4_0 G4_1
  have E6 : Exa Z h4 a1 "java/util/OptionalInt" := A1.keep K4
  have Z7 : n0 ≤ h4.size := Nat.le_trans Z2 K4.1
  have K8 : Keep h0 h4 [] := K3.trans K4 (allS (Or.inr r1) all0)
  refine own_to (S' := T4.setTop (mkF m 8 #[.val (.int p)] [(.ref a1)])) st4 ?_
  obtain ⟨fs, hr, hrun, hended, hW, hsame⟩ := X4.leave (v := some (.ref a1)) (fun h => by rw [Bd.returns] at h; cases h)
  refine ⟨_, _, retOut X4 hx (i := .areturn) Bd.returns (own_narR rfl rfl) (Or.inr (Or.inr (Or.inr (Or.inr ⟨rfl, rfl, rfl⟩)))) (hb hby d7_8) hr, hrun, hended, _, _, rfl, ?_, ⟨_, rfl⟩, hW, hsame.mono (by decide) (by decide)⟩
  show Q7 Z p h0 n0 (some (.ref a1)) T4.heap _
  rw [e4]
  exact ⟨a1, rfl, N5, K8, E6, G4_0, G4_1⟩
theorem d5_0 : decode prog_9_method_5_code 0 = .ok (.aload_n 0, 1) := by decide +kernel
theorem d5_1 : decode prog_9_method_5_code 1 = .ok (.getfield 7, 3) := by decide +kernel
theorem d5_4 : decode prog_9_method_5_code 4 = .ok (.ifnonnull 9, 3) := by decide +kernel
theorem d5_13 : decode prog_9_method_5_code 13 = .ok (.aload_n 0, 1) := by decide +kernel
theorem d5_14 : decode prog_9_method_5_code 14 = .ok (.getfield 7, 3) := by decide +kernel
theorem pd___I : parseMethodDescriptor "()I" = some ⟨[], some .int⟩ := by decide +kernel
theorem d5_17 : decode prog_9_method_5_code 17 = .ok (.invokevirtual 45, 3) := by decide +kernel
theorem pd__I_Ljava_util_OptionalInt_ : parseMethodDescriptor "(I)Ljava/util/OptionalInt;" = some ⟨[.int], some (.object "java/util/OptionalInt")⟩ := by decide +kernel
theorem d5_20 : decode prog_9_method_5_code 20 = .ok (.invokestatic 49, 3) := by decide +kernel
theorem d5_23 : decode prog_9_method_5_code 23 = .ok (.areturn, 1) := by decide +kernel
theorem ef5 (m : MethodId) (x0 : Addr) : entryFrame m #[(.ref x0)] 1 = mkF m 0 #[.val (.ref x0)] [] := by first | (simp [entryFrame, mkF, argsToLocals, Value.category]; done) | rfl
def Q5 (Z : State) (a : Addr) (b : Addr) (p : Int32) (h0 : Heap) (n0 : Nat) (v : Option Value) (h : Heap) (L : List Loc) : Prop := ∃ a, v = some (.ref a) ∧ Fr n0 L ∧ Keep h0 h [] ∧ Exa Z h a "java/util/OptionalInt" ∧ Fld Z h a "java/util/OptionalInt" "isPresent" "Z" (.int (1 : Int32)) ∧ Fld Z h a "java/util/OptionalInt" "value" "I" (.int p)
set_option maxRecDepth 65536 in
set_option maxHeartbeats 40000000 in
theorem rm5 (l : Launch) (Z : State) (a0 : Array Value) (hw : ∀ d ∈ tables_1, d.before a0 Z = true) (ws : List Jvm.Cond) (a : Addr) (b : Addr) (p : Int32) (h0 : Heap) (n0 : Nat) (Z0 : n0 ≤ h0.size) (F1 : Fld Z h0 a "com/example/periodic_jobs/periodicjobs/engine/DeliveryResult" "httpStatus" "Ljava/lang/Integer;" (.ref b)) (Eb : Exa Z h0 b "java/lang/Integer") (Fb : Fld Z h0 b "java/lang/Integer" "value" "I" (.int p)) :
    MetFree l (⟨"com/example/periodic_jobs/periodicjobs/engine/DeliveryResult", "getHttpStatus", "()Ljava/util/OptionalInt;"⟩ : MethodName) (head1 (Jvm.Cond.code (⟨"com/example/periodic_jobs/periodicjobs/engine/DeliveryResult", "getHttpStatus", "()Ljava/util/OptionalInt;"⟩ : MethodName) prog_9_method_5_code 1 ((Option.some (FieldType.object "java/util/OptionalInt"))) :: ws) ({ frames := 3, cells := 1, slots := 2, locals := 38 } : Room)) (fun aa U => aa = #[(.ref a)] ∧ Z.Warmed39 U.vm ∧ U.heap = h0) (fun _ _ _ _ _ => True) (fun _ U ou U' => ∃ v L, ou = .returned v ∧ Q5 Z a b p h0 n0 v U'.heap L ∧ FrameEnd U ou U' L ({ frames := 3, cells := 1, slots := 2, locals := 38 } : Room).cells ({ frames := 3, cells := 1, slots := 2, locals := 38 } : Room).slots) := by
  refine MetFree.of_bodySF (plainFor_of_name pn_com_example_periodic_jobs_periodicjobs_engine_DeliveryResult) hisR ?_
  intro pg e s m args below meth c s₁ Bd hml0 hP hK
  obtain ⟨rfl, hZ, hh⟩ := hP
  have hx := Bd.exec
  have hby := Bd.bytes
  have hml : c.maxLocals = 1 := hml0
  have hown : s.vm.findClass "com/example/periodic_jobs/periodicjobs/engine/DeliveryResult" = some m.cls := findClass_of_methodNamed Bd.named
  have hnm := (name_of_methodNamed Bd.named Bd.method).1
  have X0 : Stand pg l e ({ frames := 3, cells := 1, slots := 2, locals := 38 } : Room) s m #[(.ref a)] below meth c s₁ [] 0 0 := Stand.of_body Bd
  have e0 : s₁.heap = h0 := by rw [← hh, Bd.state]; rfl
  have N0 := Fr.nil n0
  have K0 : Keep h0 h0 [] := Keep.refl _ _
  show own_Go pg.tables e below (fun ou U' => ∃ v L, ou = .returned v ∧ Q5 Z a b p h0 n0 v U'.heap L ∧ FrameEnd s ou U' L ({ frames := 3, cells := 1, slots := 2, locals := 38 } : Room).cells ({ frames := 3, cells := 1, slots := 2, locals := 38 } : Room).slots) (s₁.setTop (entryFrame m #[(.ref a)] 1))
  refine own_go (S' := s₁.setTop (mkF m 0 #[.val (.ref a)] [])) (fun tg kk => castTop (ef5 m a) kk) ?_
  refine own_go (S' := s₁.setTop (mkF m 1 #[.val (.ref a)] [(.ref a)])) (fun tg kk => XS.aloadN X0.here hx rfl (hb hby d5_0) rfl rfl kk) ?_
  obtain ⟨T1, X1, e1, st1⟩ := getF X0 hx hZ hown (host := "") (Or.inl (hw _ (List.mem_of_getElem? (i := 20) rfl))) Via.refl e0 F1 (g := (mkF m 1 #[.val (.ref a)] [(.ref a)])) rfl rfl (hb hby d5_1)
  refine own_go (S' := T1.setTop (mkF m 4 #[.val (.ref a)] [(.ref b)])) (st1) ?_
  refine own_go (S' := T1.setTop (mkF m 13 #[.val (.ref a)] [])) (fun tg kk => XT.ifnonnullYes X1.here hx rfl (pc0 := 4) (pc' := 13) rfl (hb hby d5_4) rfl (by decide) (by decide) kk) ?_
  refine own_go (S' := T1.setTop (mkF m 14 #[.val (.ref a)] [(.ref a)])) (fun tg kk => XS.aloadN X1.here hx rfl (hb hby d5_13) rfl rfl kk) ?_
  obtain ⟨T2, X2, e2, st2⟩ := getF X1 hx hZ hown (host := "") (Or.inl (hw _ (List.mem_of_getElem? (i := 20) rfl))) Via.refl e1 F1 (g := (mkF m 14 #[.val (.ref a)] [(.ref a)])) rfl rfl (hb hby d5_14)
  refine own_go (S' := T2.setTop (mkF m 17 #[.val (.ref a)] [(.ref b)])) (st2) ?_
  obtain ⟨cq3, kq3, qa3, qb3, qc3⟩ := isOf hZ e2 Eb
  obtain ⟨v3, _, ⟨T3, L3, k3, n3⟩, -, X3, ⟨Lc3, hQ3, l3, y3, z3⟩, st3⟩ := X2.virtualBack hx (y := (⟨"java/lang/Integer", "intValue", "()I"⟩ : MethodName)) (z := (⟨"java/lang/Integer", "intValue", "()I"⟩ : MethodName)) hown (mvT hZ (hw _ (List.mem_of_getElem? (i := 31) rfl))) (mvT hZ (hw _ (List.mem_of_getElem? (i := 32) rfl))) (notFace_of_selects (args := #[]) (mvT hZ (hw _ (List.mem_of_getElem? (i := 34) rfl)))) (mvT hZ (hw _ (List.mem_of_getElem? (i := 34) rfl))) (mvT hZ (hw _ (List.mem_of_getElem? (i := 33) rfl))) (by decide) (backOf (W := 0) (rm6 l Z a0 hw [] b p h0 n0 Z0 Fb) hZ (hw _ (List.mem_of_getElem? (i := 35) rfl)) (hw _ (List.mem_of_getElem? (i := 9) rfl)) (by decide) (by decide)) qa3 qc3 (g := (mkF m 17 #[.val (.ref a)] [(.ref b)])) rfl (by rw [hml]; rfl) (Steps.refl _) (argsL := []) (rest := []) (lenOf pd___I rfl) rfl (by show 2 * 0 + _ ≤ _; exact Nat.le_of_eq rfl) (hb hby d5_17) (fun _ _ => ⟨rfl, e2, (by decide : 0 + 0 ≤ _), (by decide : 0 + 0 ≤ _)⟩)
  dsimp only [Pt.U, Pt.locs, Pt.cells, Pt.slots] at X3 l3 y3 z3 st3 hQ3
  subst l3 y3 z3
  obtain ⟨rfl, M4, e3⟩ := hQ3
  have N4 := Fr.app N0 M4
  refine own_to (S' := T3.setTop (mkF m 20 #[.val (.ref a)] [(.int p)])) st3 ?_
  obtain ⟨v5, _, ⟨T5, L5, k5, n5⟩, -, X5, ⟨Lc5, hQ5, l5, y5, z5⟩, st5⟩ := Jvm.LawKit.callS X3 hx (y := (⟨"java/util/OptionalInt", "of", "(I)Ljava/util/OptionalInt;"⟩ : MethodName)) hown (mvT hZ (hw _ (List.mem_of_getElem? (i := 38) rfl))) (mvT hZ (hw _ (List.mem_of_getElem? (i := 39) rfl))) (mvT hZ (hw _ (List.mem_of_getElem? (i := 40) rfl))) (mvT hZ (hw _ (List.mem_of_getElem? (i := 41) rfl))) (by decide) (backOf (W := 0) (rm7 l Z a0 hw [] p h0 n0 Z0) hZ (hw _ (List.mem_of_getElem? (i := 41) rfl)) (hw _ (List.mem_of_getElem? (i := 40) rfl)) (by decide) (by decide)) (g := (mkF m 20 #[.val (.ref a)] [(.int p)])) rfl (by rw [hml]; rfl) (argsL := [(.int p)]) (rest := []) (lenOf pd__I_Ljava_util_OptionalInt_ rfl) rfl (by show 2 * 0 + _ ≤ _; exact Nat.le_of_eq rfl) (hb hby d5_20) (fun _ _ => ⟨rfl, e3, (by decide : 0 + 1 ≤ _), (by decide : 0 + 2 ≤ _)⟩)
  dsimp only [Pt.U, Pt.locs, Pt.cells, Pt.slots] at X5 l5 y5 z5 st5 hQ5
  subst l5 y5 z5
  obtain ⟨b5, rfl, M6, K5, G5_0, G5_1, G5_2⟩ := hQ5
  have N6 := Fr.app N4 M6
  obtain ⟨h5, e5⟩ : ∃ z, T5.heap = z := ⟨_, rfl⟩
  rw [e5] at K5 G5_0 G5_1 G5_2
  have F7 := F1.keep K5 nin0
  have F8 := Fb.keep K5 nin0
  have E9 : Exa Z h5 b "java/lang/Integer" := Eb.keep K5
  have Z10 : n0 ≤ h5.size := Nat.le_trans Z0 K5.1
  have K11 : Keep h0 h5 [] := K0.trans K5 all0
  refine own_go (S' := T5.setTop (mkF m 23 #[.val (.ref a)] [(.ref b5)])) st5 ?_
  obtain ⟨fs, hr, hrun, hended, hW, hsame⟩ := X5.leave (v := some (.ref b5)) (fun h => by rw [Bd.returns] at h; cases h)
  refine ⟨_, _, retOut X5 hx (i := .areturn) Bd.returns (own_narR rfl rfl) (Or.inr (Or.inr (Or.inr (Or.inr ⟨rfl, rfl, rfl⟩)))) (hb hby d5_23) hr, hrun, hended, _, _, rfl, ?_, ⟨_, rfl⟩, hW, hsame.mono (by decide) (by decide)⟩
  show Q5 Z a b p h0 n0 (some (.ref b5)) T5.heap _
  rw [e5]
  exact ⟨b5, rfl, N6, K11, G5_0, G5_1, G5_2⟩
theorem d9_0 : decode jdk_2649_method_6_code 0 = .ok (.aload_n 0, 1) := by decide +kernel
theorem d9_1 : decode jdk_2649_method_6_code 1 = .ok (.getfield 7, 3) := by decide +kernel
theorem d9_4 : decode jdk_2649_method_6_code 4 = .ok (.ireturn, 1) := by decide +kernel
theorem ef9 (m : MethodId) (x0 : Addr) : entryFrame m #[(.ref x0)] 1 = mkF m 0 #[.val (.ref x0)] [] := by first | (simp [entryFrame, mkF, argsToLocals, Value.category]; done) | rfl
def Q9 (Z : State) (a : Addr) (h0 : Heap) (n0 : Nat) (v : Option Value) (h : Heap) (L : List Loc) : Prop := v = some (.int (1 : Int32)) ∧ Fr n0 L ∧ h = h0
set_option maxRecDepth 65536 in
set_option maxHeartbeats 40000000 in
theorem rm9 (l : Launch) (Z : State) (a0 : Array Value) (hw : ∀ d ∈ tables_1, d.before a0 Z = true) (ws : List Jvm.Cond) (a : Addr) (h0 : Heap) (n0 : Nat) (Z0 : n0 ≤ h0.size) (F1 : Fld Z h0 a "java/util/OptionalInt" "isPresent" "Z" (.int (1 : Int32))) :
    MetFree l (⟨"java/util/OptionalInt", "isPresent", "()Z"⟩ : MethodName) (head1 (Jvm.Cond.code (⟨"java/util/OptionalInt", "isPresent", "()Z"⟩ : MethodName) jdk_2649_method_6_code 1 ((Option.some FieldType.boolean)) :: ws) ({ frames := 0, cells := 0, slots := 0, locals := 0 } : Room)) (fun aa U => aa = #[(.ref a)] ∧ Z.Warmed39 U.vm ∧ U.heap = h0) (fun _ _ _ _ _ => True) (fun _ U ou U' => ∃ v L, ou = .returned v ∧ Q9 Z a h0 n0 v U'.heap L ∧ FrameEnd U ou U' L ({ frames := 0, cells := 0, slots := 0, locals := 0 } : Room).cells ({ frames := 0, cells := 0, slots := 0, locals := 0 } : Room).slots) := by
  refine MetFree.of_bodySF (plainFor_of_name pn_java_util_OptionalInt) hisR ?_
  intro pg e s m args below meth c s₁ Bd hml0 hP hK
  obtain ⟨rfl, hZ, hh⟩ := hP
  have hx := Bd.exec
  have hby := Bd.bytes
  have hml : c.maxLocals = 1 := hml0
  have hown : s.vm.findClass "java/util/OptionalInt" = some m.cls := findClass_of_methodNamed Bd.named
  have hnm := (name_of_methodNamed Bd.named Bd.method).1
  have X0 : Stand pg l e ({ frames := 0, cells := 0, slots := 0, locals := 0 } : Room) s m #[(.ref a)] below meth c s₁ [] 0 0 := Stand.of_body Bd
  have e0 : s₁.heap = h0 := by rw [← hh, Bd.state]; rfl
  have N0 := Fr.nil n0
  show own_Go pg.tables e below (fun ou U' => ∃ v L, ou = .returned v ∧ Q9 Z a h0 n0 v U'.heap L ∧ FrameEnd s ou U' L ({ frames := 0, cells := 0, slots := 0, locals := 0 } : Room).cells ({ frames := 0, cells := 0, slots := 0, locals := 0 } : Room).slots) (s₁.setTop (entryFrame m #[(.ref a)] 1))
  refine own_go (S' := s₁.setTop (mkF m 0 #[.val (.ref a)] [])) (fun tg kk => castTop (ef9 m a) kk) ?_
  refine own_go (S' := s₁.setTop (mkF m 1 #[.val (.ref a)] [(.ref a)])) (fun tg kk => XS.aloadN X0.here hx rfl (hb hby d9_0) rfl rfl kk) ?_
  obtain ⟨T1, X1, e1, st1⟩ := getF X0 hx hZ hown (host := "") (Or.inl (hw _ (List.mem_of_getElem? (i := 49) rfl))) Via.refl e0 F1 (g := (mkF m 1 #[.val (.ref a)] [(.ref a)])) rfl rfl (hb hby d9_1)
  refine own_go (S' := T1.setTop (mkF m 4 #[.val (.ref a)] [(.int (1 : Int32))])) (st1) ?_
  obtain ⟨fs, hr, hrun, hended, hW, hsame⟩ := X1.leave (v := some (.int (1 : Int32))) (fun h => by rw [Bd.returns] at h; cases h)
  refine ⟨_, _, retN X1 hx (t := .boolean) Bd.returns (by simp) (hb hby d9_4) hr, hrun, hended, _, _, rfl, ?_, ⟨_, rfl⟩, hW, hsame.mono (by decide) (by decide)⟩
  show Q9 Z a h0 n0 (some (.int (1 : Int32))) T1.heap _
  rw [e1]
  exact ⟨rfl, N0, rfl⟩
theorem d10_0 : decode jdk_2649_method_5_code 0 = .ok (.aload_n 0, 1) := by decide +kernel
theorem d10_1 : decode jdk_2649_method_5_code 1 = .ok (.getfield 7, 3) := by decide +kernel
theorem d10_4 : decode jdk_2649_method_5_code 4 = .ok (.ifCond .ne 13, 3) := by decide +kernel
theorem d10_17 : decode jdk_2649_method_5_code 17 = .ok (.aload_n 0, 1) := by decide +kernel
theorem d10_18 : decode jdk_2649_method_5_code 18 = .ok (.getfield 13, 3) := by decide +kernel
theorem d10_21 : decode jdk_2649_method_5_code 21 = .ok (.ireturn, 1) := by decide +kernel
theorem ef10 (m : MethodId) (x0 : Addr) : entryFrame m #[(.ref x0)] 1 = mkF m 0 #[.val (.ref x0)] [] := by first | (simp [entryFrame, mkF, argsToLocals, Value.category]; done) | rfl
def Q10 (Z : State) (a : Addr) (p : Int32) (h0 : Heap) (n0 : Nat) (v : Option Value) (h : Heap) (L : List Loc) : Prop := v = some (.int p) ∧ Fr n0 L ∧ h = h0
set_option maxRecDepth 65536 in
set_option maxHeartbeats 40000000 in
theorem rm10 (l : Launch) (Z : State) (a0 : Array Value) (hw : ∀ d ∈ tables_1, d.before a0 Z = true) (ws : List Jvm.Cond) (a : Addr) (p : Int32) (h0 : Heap) (n0 : Nat) (Z0 : n0 ≤ h0.size) (F1 : Fld Z h0 a "java/util/OptionalInt" "isPresent" "Z" (.int (1 : Int32))) (F2 : Fld Z h0 a "java/util/OptionalInt" "value" "I" (.int p)) :
    MetFree l (⟨"java/util/OptionalInt", "getAsInt", "()I"⟩ : MethodName) (head1 (Jvm.Cond.code (⟨"java/util/OptionalInt", "getAsInt", "()I"⟩ : MethodName) jdk_2649_method_5_code 1 ((Option.some FieldType.int)) :: ws) ({ frames := 0, cells := 0, slots := 0, locals := 0 } : Room)) (fun aa U => aa = #[(.ref a)] ∧ Z.Warmed39 U.vm ∧ U.heap = h0) (fun _ _ _ _ _ => True) (fun _ U ou U' => ∃ v L, ou = .returned v ∧ Q10 Z a p h0 n0 v U'.heap L ∧ FrameEnd U ou U' L ({ frames := 0, cells := 0, slots := 0, locals := 0 } : Room).cells ({ frames := 0, cells := 0, slots := 0, locals := 0 } : Room).slots) := by
  refine MetFree.of_bodySF (plainFor_of_name pn_java_util_OptionalInt) hisR ?_
  intro pg e s m args below meth c s₁ Bd hml0 hP hK
  obtain ⟨rfl, hZ, hh⟩ := hP
  have hx := Bd.exec
  have hby := Bd.bytes
  have hml : c.maxLocals = 1 := hml0
  have hown : s.vm.findClass "java/util/OptionalInt" = some m.cls := findClass_of_methodNamed Bd.named
  have hnm := (name_of_methodNamed Bd.named Bd.method).1
  have X0 : Stand pg l e ({ frames := 0, cells := 0, slots := 0, locals := 0 } : Room) s m #[(.ref a)] below meth c s₁ [] 0 0 := Stand.of_body Bd
  have e0 : s₁.heap = h0 := by rw [← hh, Bd.state]; rfl
  have N0 := Fr.nil n0
  show own_Go pg.tables e below (fun ou U' => ∃ v L, ou = .returned v ∧ Q10 Z a p h0 n0 v U'.heap L ∧ FrameEnd s ou U' L ({ frames := 0, cells := 0, slots := 0, locals := 0 } : Room).cells ({ frames := 0, cells := 0, slots := 0, locals := 0 } : Room).slots) (s₁.setTop (entryFrame m #[(.ref a)] 1))
  refine own_go (S' := s₁.setTop (mkF m 0 #[.val (.ref a)] [])) (fun tg kk => castTop (ef10 m a) kk) ?_
  refine own_go (S' := s₁.setTop (mkF m 1 #[.val (.ref a)] [(.ref a)])) (fun tg kk => XS.aloadN X0.here hx rfl (hb hby d10_0) rfl rfl kk) ?_
  obtain ⟨T1, X1, e1, st1⟩ := getF X0 hx hZ hown (host := "") (Or.inl (hw _ (List.mem_of_getElem? (i := 49) rfl))) Via.refl e0 F1 (g := (mkF m 1 #[.val (.ref a)] [(.ref a)])) rfl rfl (hb hby d10_1)
  refine own_go (S' := T1.setTop (mkF m 4 #[.val (.ref a)] [(.int (1 : Int32))])) (st1) ?_
  refine own_go (S' := T1.setTop (mkF m 17 #[.val (.ref a)] [])) (fun tg kk => XS.ifYes X1.here hx rfl (pc0 := 4) (pc' := 17) rfl (hb hby d10_4) rfl (XT.i0_ne_t (by decide)) (by decide) (by decide) kk) ?_
  refine own_go (S' := T1.setTop (mkF m 18 #[.val (.ref a)] [(.ref a)])) (fun tg kk => XS.aloadN X1.here hx rfl (hb hby d10_17) rfl rfl kk) ?_
  obtain ⟨T2, X2, e2, st2⟩ := getF X1 hx hZ hown (host := "") (Or.inl (hw _ (List.mem_of_getElem? (i := 51) rfl))) Via.refl e1 F2 (g := (mkF m 18 #[.val (.ref a)] [(.ref a)])) rfl rfl (hb hby d10_18)
  refine own_go (S' := T2.setTop (mkF m 21 #[.val (.ref a)] [(.int p)])) (st2) ?_
  obtain ⟨fs, hr, hrun, hended, hW, hsame⟩ := X2.leave (v := some (.int p)) (fun h => by rw [Bd.returns] at h; cases h)
  refine ⟨_, _, retI X2 hx Bd.returns (hb hby d10_21) hr, hrun, hended, _, _, rfl, ?_, ⟨_, rfl⟩, hW, hsame.mono (by decide) (by decide)⟩
  show Q10 Z a p h0 n0 (some (.int p)) T2.heap _
  rw [e2]
  exact ⟨rfl, N0, rfl⟩
theorem d11_0 : decode prog_9_method_6_code 0 = .ok (.aload_n 0, 1) := by decide +kernel
theorem d11_1 : decode prog_9_method_6_code 1 = .ok (.getfield 13, 3) := by decide +kernel
theorem d11_4 : decode prog_9_method_6_code 4 = .ok (.ireturn, 1) := by decide +kernel
theorem ef11 (m : MethodId) (x0 : Addr) : entryFrame m #[(.ref x0)] 1 = mkF m 0 #[.val (.ref x0)] [] := by first | (simp [entryFrame, mkF, argsToLocals, Value.category]; done) | rfl
def Q11 (Z : State) (a : Addr) (h0 : Heap) (n0 : Nat) (v : Option Value) (h : Heap) (L : List Loc) : Prop := v = some (.int (0 : Int32)) ∧ Fr n0 L ∧ h = h0
set_option maxRecDepth 65536 in
set_option maxHeartbeats 40000000 in
theorem rm11 (l : Launch) (Z : State) (a0 : Array Value) (hw : ∀ d ∈ tables_1, d.before a0 Z = true) (ws : List Jvm.Cond) (a : Addr) (h0 : Heap) (n0 : Nat) (Z0 : n0 ≤ h0.size) (F1 : Fld Z h0 a "com/example/periodic_jobs/periodicjobs/engine/DeliveryResult" "confirmed" "Z" (.int (0 : Int32))) :
    MetFree l (⟨"com/example/periodic_jobs/periodicjobs/engine/DeliveryResult", "isConfirmed", "()Z"⟩ : MethodName) (head1 (Jvm.Cond.code (⟨"com/example/periodic_jobs/periodicjobs/engine/DeliveryResult", "isConfirmed", "()Z"⟩ : MethodName) prog_9_method_6_code 1 ((Option.some FieldType.boolean)) :: ws) ({ frames := 0, cells := 0, slots := 0, locals := 0 } : Room)) (fun aa U => aa = #[(.ref a)] ∧ Z.Warmed39 U.vm ∧ U.heap = h0) (fun _ _ _ _ _ => True) (fun _ U ou U' => ∃ v L, ou = .returned v ∧ Q11 Z a h0 n0 v U'.heap L ∧ FrameEnd U ou U' L ({ frames := 0, cells := 0, slots := 0, locals := 0 } : Room).cells ({ frames := 0, cells := 0, slots := 0, locals := 0 } : Room).slots) := by
  refine MetFree.of_bodySF (plainFor_of_name pn_com_example_periodic_jobs_periodicjobs_engine_DeliveryResult) hisR ?_
  intro pg e s m args below meth c s₁ Bd hml0 hP hK
  obtain ⟨rfl, hZ, hh⟩ := hP
  have hx := Bd.exec
  have hby := Bd.bytes
  have hml : c.maxLocals = 1 := hml0
  have hown : s.vm.findClass "com/example/periodic_jobs/periodicjobs/engine/DeliveryResult" = some m.cls := findClass_of_methodNamed Bd.named
  have hnm := (name_of_methodNamed Bd.named Bd.method).1
  have X0 : Stand pg l e ({ frames := 0, cells := 0, slots := 0, locals := 0 } : Room) s m #[(.ref a)] below meth c s₁ [] 0 0 := Stand.of_body Bd
  have e0 : s₁.heap = h0 := by rw [← hh, Bd.state]; rfl
  have N0 := Fr.nil n0
  show own_Go pg.tables e below (fun ou U' => ∃ v L, ou = .returned v ∧ Q11 Z a h0 n0 v U'.heap L ∧ FrameEnd s ou U' L ({ frames := 0, cells := 0, slots := 0, locals := 0 } : Room).cells ({ frames := 0, cells := 0, slots := 0, locals := 0 } : Room).slots) (s₁.setTop (entryFrame m #[(.ref a)] 1))
  refine own_go (S' := s₁.setTop (mkF m 0 #[.val (.ref a)] [])) (fun tg kk => castTop (ef11 m a) kk) ?_
  refine own_go (S' := s₁.setTop (mkF m 1 #[.val (.ref a)] [(.ref a)])) (fun tg kk => XS.aloadN X0.here hx rfl (hb hby d11_0) rfl rfl kk) ?_
  obtain ⟨T1, X1, e1, st1⟩ := getF X0 hx hZ hown (host := "") (Or.inl (hw _ (List.mem_of_getElem? (i := 22) rfl))) Via.refl e0 F1 (g := (mkF m 1 #[.val (.ref a)] [(.ref a)])) rfl rfl (hb hby d11_1)
  refine own_go (S' := T1.setTop (mkF m 4 #[.val (.ref a)] [(.int (0 : Int32))])) (st1) ?_
  obtain ⟨fs, hr, hrun, hended, hW, hsame⟩ := X1.leave (v := some (.int (0 : Int32))) (fun h => by rw [Bd.returns] at h; cases h)
  refine ⟨_, _, retN X1 hx (t := .boolean) Bd.returns (by simp) (hb hby d11_4) hr, hrun, hended, _, _, rfl, ?_, ⟨_, rfl⟩, hW, hsame.mono (by decide) (by decide)⟩
  show Q11 Z a h0 n0 (some (.int (0 : Int32))) T1.heap _
  rw [e1]
  exact ⟨rfl, N0, rfl⟩
theorem d13_0 : decode jdk_32_method_4_code 0 = .ok (.aload_n 0, 1) := by decide +kernel
theorem d13_1 : decode jdk_32_method_4_code 1 = .ok (.ifnonnull 9, 3) := by decide +kernel
theorem d13_4 : decode jdk_32_method_4_code 4 = .ok (.getstatic 1, 3) := by decide +kernel
theorem d13_7 : decode jdk_32_method_4_code 7 = .ok (.goto 11, 3) := by decide +kernel
theorem d13_18 : decode jdk_32_method_4_code 18 = .ok (.areturn, 1) := by decide +kernel
theorem pn_java_util_Optional : plainName "java/util/Optional" = true := by first | (simp [plainName, overriddenIn]; done) | decide +kernel
theorem ef13n (m : MethodId)  : entryFrame m #[.null] 1 = mkF m 0 #[.val .null] [] := by first | (simp [entryFrame, mkF, argsToLocals, Value.category]; done) | rfl
def Q13n (Z : State) (em : Addr) (h0 : Heap) (n0 : Nat) (v : Option Value) (h : Heap) (L : List Loc) : Prop := v = some (.ref em) ∧ Fr n0 L ∧ h = h0
set_option maxRecDepth 65536 in
set_option maxHeartbeats 40000000 in
theorem rm13n (l : Launch) (Z : State) (a0 : Array Value) (hw : ∀ d ∈ tables_1, d.before a0 Z = true) (ws : List Jvm.Cond) (em : Addr) (h0 : Heap) (n0 : Nat) (Z0 : n0 ≤ h0.size) (O0 : Old Z n0 h0) (S_EMPTY : Sta Z Z.heap "java/util/Optional" "EMPTY" "Ljava/util/Optional;" (.ref em)) :
    MetFree l (⟨"java/util/Optional", "ofNullable", "(Ljava/lang/Object;)Ljava/util/Optional;"⟩ : MethodName) (head1 (Jvm.Cond.code (⟨"java/util/Optional", "ofNullable", "(Ljava/lang/Object;)Ljava/util/Optional;"⟩ : MethodName) jdk_32_method_4_code 1 ((Option.some (FieldType.object "java/util/Optional"))) :: ws) ({ frames := 0, cells := 0, slots := 0, locals := 0 } : Room)) (fun aa U => aa = #[.null] ∧ Z.Warmed39 U.vm ∧ U.heap = h0) (fun _ _ _ _ _ => True) (fun _ U ou U' => ∃ v L, ou = .returned v ∧ Q13n Z em h0 n0 v U'.heap L ∧ FrameEnd U ou U' L ({ frames := 0, cells := 0, slots := 0, locals := 0 } : Room).cells ({ frames := 0, cells := 0, slots := 0, locals := 0 } : Room).slots) := by
  refine MetFree.of_bodySF (plainFor_of_name pn_java_util_Optional) hisR ?_
  intro pg e s m args below meth c s₁ Bd hml0 hP hK
  obtain ⟨rfl, hZ, hh⟩ := hP
  have hx := Bd.exec
  have hby := Bd.bytes
  have hml : c.maxLocals = 1 := hml0
  have hown : s.vm.findClass "java/util/Optional" = some m.cls := findClass_of_methodNamed Bd.named
  have hnm := (name_of_methodNamed Bd.named Bd.method).1
  have X0 : Stand pg l e ({ frames := 0, cells := 0, slots := 0, locals := 0 } : Room) s m #[.null] below meth c s₁ [] 0 0 := Stand.of_body Bd
  have e0 : s₁.heap = h0 := by rw [← hh, Bd.state]; rfl
  have N0 := Fr.nil n0
  show own_Go pg.tables e below (fun ou U' => ∃ v L, ou = .returned v ∧ Q13n Z em h0 n0 v U'.heap L ∧ FrameEnd s ou U' L ({ frames := 0, cells := 0, slots := 0, locals := 0 } : Room).cells ({ frames := 0, cells := 0, slots := 0, locals := 0 } : Room).slots) (s₁.setTop (entryFrame m #[.null] 1))
  refine own_go (S' := s₁.setTop (mkF m 0 #[.val .null] [])) (fun tg kk => castTop (ef13n m ) kk) ?_
  refine own_go (S' := s₁.setTop (mkF m 1 #[.val .null] [.null])) (fun tg kk => XS.aloadN X0.here hx rfl (hb hby d13_0) rfl rfl kk) ?_
  refine own_go (S' := s₁.setTop (mkF m 4 #[.val .null] [])) (fun tg kk => XT.ifnonnullNo X0.here hx rfl (hb hby d13_1) rfl kk) ?_
  obtain ⟨T1, X1, e1, st1⟩ := getS (host := "") X0 hx hZ hown (hw _ (List.mem_of_getElem? (i := 77) rfl)) Via.refl e0 (S_EMPTY.ext O0.2) (g := (mkF m 4 #[.val .null] [])) rfl (hb hby d13_4)
  refine own_go (S' := T1.setTop (mkF m 7 #[.val .null] [(.ref em)])) (st1) ?_
  refine own_go (S' := T1.setTop (mkF m 18 #[.val .null] [(.ref em)])) (fun tg kk => XS.goto X1.here hx rfl (pc0 := 7) (pc' := 18) rfl (hb hby d13_7) (by decide) (by decide) kk) ?_
  obtain ⟨fs, hr, hrun, hended, hW, hsame⟩ := X1.leave (v := some (.ref em)) (fun h => by rw [Bd.returns] at h; cases h)
  refine ⟨_, _, retOut X1 hx (i := .areturn) Bd.returns (own_narR rfl rfl) (Or.inr (Or.inr (Or.inr (Or.inr ⟨rfl, rfl, rfl⟩)))) (hb hby d13_18) hr, hrun, hended, _, _, rfl, ?_, ⟨_, rfl⟩, hW, hsame.mono (by decide) (by decide)⟩
  show Q13n Z em h0 n0 (some (.ref em)) T1.heap _
  rw [e1]
  exact ⟨rfl, N0, rfl⟩
theorem d14_0 : decode jdk_32_method_6_code 0 = .ok (.aload_n 0, 1) := by decide +kernel
theorem d14_1 : decode jdk_32_method_6_code 1 = .ok (.getfield 13, 3) := by decide +kernel
theorem d14_4 : decode jdk_32_method_6_code 4 = .ok (.ifnull 7, 3) := by decide +kernel
theorem d14_11 : decode jdk_32_method_6_code 11 = .ok (.iconst 0, 1) := by decide +kernel
theorem d14_12 : decode jdk_32_method_6_code 12 = .ok (.ireturn, 1) := by decide +kernel
theorem ef14n (m : MethodId) (x0 : Addr) : entryFrame m #[(.ref x0)] 1 = mkF m 0 #[.val (.ref x0)] [] := by first | (simp [entryFrame, mkF, argsToLocals, Value.category]; done) | rfl
def Q14n (Z : State) (em : Addr) (h0 : Heap) (n0 : Nat) (v : Option Value) (h : Heap) (L : List Loc) : Prop := v = some (.int 0) ∧ Fr n0 L ∧ h = h0
set_option maxRecDepth 65536 in
set_option maxHeartbeats 40000000 in
theorem rm14n (l : Launch) (Z : State) (a0 : Array Value) (hw : ∀ d ∈ tables_1, d.before a0 Z = true) (ws : List Jvm.Cond) (em : Addr) (h0 : Heap) (n0 : Nat) (Z0 : n0 ≤ h0.size) (O0 : Old Z n0 h0) (F_EMPTY : Fld Z Z.heap em "java/util/Optional" "value" "Ljava/lang/Object;" .null) :
    MetFree l (⟨"java/util/Optional", "isPresent", "()Z"⟩ : MethodName) (head1 (Jvm.Cond.code (⟨"java/util/Optional", "isPresent", "()Z"⟩ : MethodName) jdk_32_method_6_code 1 ((Option.some FieldType.boolean)) :: ws) ({ frames := 0, cells := 0, slots := 0, locals := 0 } : Room)) (fun aa U => aa = #[(.ref em)] ∧ Z.Warmed39 U.vm ∧ U.heap = h0) (fun _ _ _ _ _ => True) (fun _ U ou U' => ∃ v L, ou = .returned v ∧ Q14n Z em h0 n0 v U'.heap L ∧ FrameEnd U ou U' L ({ frames := 0, cells := 0, slots := 0, locals := 0 } : Room).cells ({ frames := 0, cells := 0, slots := 0, locals := 0 } : Room).slots) := by
  refine MetFree.of_bodySF (plainFor_of_name pn_java_util_Optional) hisR ?_
  intro pg e s m args below meth c s₁ Bd hml0 hP hK
  obtain ⟨rfl, hZ, hh⟩ := hP
  have hx := Bd.exec
  have hby := Bd.bytes
  have hml : c.maxLocals = 1 := hml0
  have hown : s.vm.findClass "java/util/Optional" = some m.cls := findClass_of_methodNamed Bd.named
  have hnm := (name_of_methodNamed Bd.named Bd.method).1
  have X0 : Stand pg l e ({ frames := 0, cells := 0, slots := 0, locals := 0 } : Room) s m #[(.ref em)] below meth c s₁ [] 0 0 := Stand.of_body Bd
  have e0 : s₁.heap = h0 := by rw [← hh, Bd.state]; rfl
  have N0 := Fr.nil n0
  show own_Go pg.tables e below (fun ou U' => ∃ v L, ou = .returned v ∧ Q14n Z em h0 n0 v U'.heap L ∧ FrameEnd s ou U' L ({ frames := 0, cells := 0, slots := 0, locals := 0 } : Room).cells ({ frames := 0, cells := 0, slots := 0, locals := 0 } : Room).slots) (s₁.setTop (entryFrame m #[(.ref em)] 1))
  refine own_go (S' := s₁.setTop (mkF m 0 #[.val (.ref em)] [])) (fun tg kk => castTop (ef14n m em) kk) ?_
  refine own_go (S' := s₁.setTop (mkF m 1 #[.val (.ref em)] [(.ref em)])) (fun tg kk => XS.aloadN X0.here hx rfl (hb hby d14_0) rfl rfl kk) ?_
  obtain ⟨T1, X1, e1, st1⟩ := getF X0 hx hZ hown (host := "") (Or.inl (hw _ (List.mem_of_getElem? (i := 83) rfl))) Via.refl e0 (F_EMPTY.ext O0.2) (g := (mkF m 1 #[.val (.ref em)] [(.ref em)])) rfl rfl (hb hby d14_1)
  refine own_go (S' := T1.setTop (mkF m 4 #[.val (.ref em)] [.null])) (st1) ?_
  refine own_go (S' := T1.setTop (mkF m 11 #[.val (.ref em)] [])) (fun tg kk => XS.ifnullYes X1.here hx rfl (pc0 := 4) (pc' := 11) rfl (hb hby d14_4) rfl (by decide) (by decide) kk) ?_
  refine own_go (S' := T1.setTop (mkF m 12 #[.val (.ref em)] [(.int (0 : Int32))])) (fun tg kk => XT.iconstV X1.here hx rfl (0 : Int32) (hb hby d14_11) (by decide) kk) ?_
  obtain ⟨fs, hr, hrun, hended, hW, hsame⟩ := X1.leave (v := some (.int (0 : Int32))) (fun h => by rw [Bd.returns] at h; cases h)
  refine ⟨_, _, retN X1 hx (t := .boolean) Bd.returns (by simp) (hb hby d14_12) hr, hrun, hended, _, _, rfl, ?_, ⟨_, rfl⟩, hW, hsame.mono (by decide) (by decide)⟩
  show Q14n Z em h0 n0 (some (.int (0 : Int32))) T1.heap _
  rw [e1]
  exact ⟨rfl, N0, rfl⟩
theorem d12_0 : decode prog_9_method_7_code 0 = .ok (.aload_n 0, 1) := by decide +kernel
theorem d12_1 : decode prog_9_method_7_code 1 = .ok (.getfield 17, 3) := by decide +kernel
theorem pd__Ljava_lang_Object__Ljava_util_Optional_ : parseMethodDescriptor "(Ljava/lang/Object;)Ljava/util/Optional;" = some ⟨[.object "java/lang/Object"], some (.object "java/util/Optional")⟩ := by decide +kernel
theorem d12_4 : decode prog_9_method_7_code 4 = .ok (.invokestatic 53, 3) := by decide +kernel
theorem d12_7 : decode prog_9_method_7_code 7 = .ok (.areturn, 1) := by decide +kernel
theorem ef12 (m : MethodId) (x0 : Addr) : entryFrame m #[(.ref x0)] 1 = mkF m 0 #[.val (.ref x0)] [] := by first | (simp [entryFrame, mkF, argsToLocals, Value.category]; done) | rfl
def Q12 (Z : State) (a : Addr) (em : Addr) (h0 : Heap) (n0 : Nat) (v : Option Value) (h : Heap) (L : List Loc) : Prop := v = some (.ref em) ∧ Fr n0 L ∧ h = h0
set_option maxRecDepth 65536 in
set_option maxHeartbeats 40000000 in
theorem rm12 (l : Launch) (Z : State) (a0 : Array Value) (hw : ∀ d ∈ tables_1, d.before a0 Z = true) (ws : List Jvm.Cond) (a : Addr) (em : Addr) (h0 : Heap) (n0 : Nat) (Z0 : n0 ≤ h0.size) (O0 : Old Z n0 h0) (F1 : Fld Z h0 a "com/example/periodic_jobs/periodicjobs/engine/DeliveryResult" "error" "Ljava/lang/String;" .null) (S_EMPTY : Sta Z Z.heap "java/util/Optional" "EMPTY" "Ljava/util/Optional;" (.ref em)) :
    MetFree l (⟨"com/example/periodic_jobs/periodicjobs/engine/DeliveryResult", "getError", "()Ljava/util/Optional;"⟩ : MethodName) (head1 (Jvm.Cond.code (⟨"com/example/periodic_jobs/periodicjobs/engine/DeliveryResult", "getError", "()Ljava/util/Optional;"⟩ : MethodName) prog_9_method_7_code 1 ((Option.some (FieldType.object "java/util/Optional"))) :: ws) ({ frames := 1, cells := 0, slots := 0, locals := 12 } : Room)) (fun aa U => aa = #[(.ref a)] ∧ Z.Warmed39 U.vm ∧ U.heap = h0) (fun _ _ _ _ _ => True) (fun _ U ou U' => ∃ v L, ou = .returned v ∧ Q12 Z a em h0 n0 v U'.heap L ∧ FrameEnd U ou U' L ({ frames := 1, cells := 0, slots := 0, locals := 12 } : Room).cells ({ frames := 1, cells := 0, slots := 0, locals := 12 } : Room).slots) := by
  refine MetFree.of_bodySF (plainFor_of_name pn_com_example_periodic_jobs_periodicjobs_engine_DeliveryResult) hisR ?_
  intro pg e s m args below meth c s₁ Bd hml0 hP hK
  obtain ⟨rfl, hZ, hh⟩ := hP
  have hx := Bd.exec
  have hby := Bd.bytes
  have hml : c.maxLocals = 1 := hml0
  have hown : s.vm.findClass "com/example/periodic_jobs/periodicjobs/engine/DeliveryResult" = some m.cls := findClass_of_methodNamed Bd.named
  have hnm := (name_of_methodNamed Bd.named Bd.method).1
  have X0 : Stand pg l e ({ frames := 1, cells := 0, slots := 0, locals := 12 } : Room) s m #[(.ref a)] below meth c s₁ [] 0 0 := Stand.of_body Bd
  have e0 : s₁.heap = h0 := by rw [← hh, Bd.state]; rfl
  have N0 := Fr.nil n0
  show own_Go pg.tables e below (fun ou U' => ∃ v L, ou = .returned v ∧ Q12 Z a em h0 n0 v U'.heap L ∧ FrameEnd s ou U' L ({ frames := 1, cells := 0, slots := 0, locals := 12 } : Room).cells ({ frames := 1, cells := 0, slots := 0, locals := 12 } : Room).slots) (s₁.setTop (entryFrame m #[(.ref a)] 1))
  refine own_go (S' := s₁.setTop (mkF m 0 #[.val (.ref a)] [])) (fun tg kk => castTop (ef12 m a) kk) ?_
  refine own_go (S' := s₁.setTop (mkF m 1 #[.val (.ref a)] [(.ref a)])) (fun tg kk => XS.aloadN X0.here hx rfl (hb hby d12_0) rfl rfl kk) ?_
  obtain ⟨T1, X1, e1, st1⟩ := getF X0 hx hZ hown (host := "") (Or.inl (hw _ (List.mem_of_getElem? (i := 24) rfl))) Via.refl e0 F1 (g := (mkF m 1 #[.val (.ref a)] [(.ref a)])) rfl rfl (hb hby d12_1)
  refine own_go (S' := T1.setTop (mkF m 4 #[.val (.ref a)] [.null])) (st1) ?_
  obtain ⟨v2, _, ⟨T2, L2, k2, n2⟩, -, X2, ⟨Lc2, hQ2, l2, y2, z2⟩, st2⟩ := Jvm.LawKit.callS X1 hx (y := (⟨"java/util/Optional", "ofNullable", "(Ljava/lang/Object;)Ljava/util/Optional;"⟩ : MethodName)) hown (mvT hZ (hw _ (List.mem_of_getElem? (i := 73) rfl))) (mvT hZ (hw _ (List.mem_of_getElem? (i := 74) rfl))) (mvT hZ (hw _ (List.mem_of_getElem? (i := 75) rfl))) (mvT hZ (hw _ (List.mem_of_getElem? (i := 76) rfl))) (by decide) (backOf (W := 0) (rm13n l Z a0 hw [] em h0 n0 Z0 O0 S_EMPTY) hZ (hw _ (List.mem_of_getElem? (i := 76) rfl)) (hw _ (List.mem_of_getElem? (i := 75) rfl)) (by decide) (by decide)) (g := (mkF m 4 #[.val (.ref a)] [.null])) rfl (by rw [hml]; rfl) (argsL := [.null]) (rest := []) (lenOf pd__Ljava_lang_Object__Ljava_util_Optional_ rfl) rfl (by show 2 * 0 + _ ≤ _; exact Nat.le_of_eq rfl) (hb hby d12_4) (fun _ _ => ⟨rfl, e1, (by decide : 0 + 0 ≤ _), (by decide : 0 + 0 ≤ _)⟩)
  dsimp only [Pt.U, Pt.locs, Pt.cells, Pt.slots] at X2 l2 y2 z2 st2 hQ2
  subst l2 y2 z2
  obtain ⟨rfl, M3, e2⟩ := hQ2
  have N3 := Fr.app N0 M3
  refine own_go (S' := T2.setTop (mkF m 7 #[.val (.ref a)] [(.ref em)])) st2 ?_
  obtain ⟨fs, hr, hrun, hended, hW, hsame⟩ := X2.leave (v := some (.ref em)) (fun h => by rw [Bd.returns] at h; cases h)
  refine ⟨_, _, retOut X2 hx (i := .areturn) Bd.returns (own_narR rfl rfl) (Or.inr (Or.inr (Or.inr (Or.inr ⟨rfl, rfl, rfl⟩)))) (hb hby d12_7) hr, hrun, hended, _, _, rfl, ?_, ⟨_, rfl⟩, hW, hsame.mono (by decide) (by decide)⟩
  show Q12 Z a em h0 n0 (some (.ref em)) T2.heap _
  rw [e2]
  exact ⟨rfl, N3, rfl⟩
def own_succ (p : Int32) : Int32 := if p / (100 : Int32) = (2 : Int32) then 1 else 0
def own_acc (p : Int32) : Int32 := if p = (202 : Int32) then 1 else 0
def own_retry (p : Int32) : Int32 := if p / (100 : Int32) = (4 : Int32) then (if p = (408 : Int32) then 1 else if p = (429 : Int32) then 1 else 0) else 1
theorem own_div100 (p : Int32) (k : Int32) (n : Int) (hk : k.toInt = n) (hn : 0 < n) : p / (100 : Int32) = k ↔ n * 100 ≤ p.toInt ∧ p.toInt < n * 100 + 100 := by
  have h := c_idiv p (100 : Int32) 100 (by decide) (by decide)
  rw [← Int32.toInt_inj, hk]
  by_cases q : 0 ≤ p.toInt
  · rw [h.1 q]; omega
  · rw [h.2 (by omega)]; omega
theorem own_succ_eq (p : Int32) : own_succ p = if p < (200 : Int32) then 0 else if (299 : Int32) < p then 0 else 1 := by
  unfold own_succ
  have e := own_div100 p (2 : Int32) 2 (by decide) (by decide)
  have e1 : (200 : Int32).toInt = 200 := by decide
  have e2 : (299 : Int32).toInt = 299 := by decide
  by_cases h1 : p < (200 : Int32)
  · rw [if_pos h1, if_neg (fun q => by have := e.mp q; rw [Int32.lt_iff_toInt_lt] at h1; omega)]
  · rw [if_neg h1]
    by_cases h2 : (299 : Int32) < p
    · rw [if_pos h2, if_neg (fun q => by have := e.mp q; rw [Int32.lt_iff_toInt_lt] at h2; omega)]
    · rw [if_neg h2, if_pos (e.mpr (by rw [Int32.lt_iff_toInt_lt] at h1 h2; omega))]
theorem own_retry_eq (p : Int32) : own_retry p = if p < (400 : Int32) then 1 else if (499 : Int32) < p then 1 else if p = (408 : Int32) then 1 else if p = (429 : Int32) then 1 else 0 := by
  unfold own_retry
  have e := own_div100 p (4 : Int32) 4 (by decide) (by decide)
  have e1 : (400 : Int32).toInt = 400 := by decide
  have e2 : (499 : Int32).toInt = 499 := by decide
  by_cases h1 : p < (400 : Int32)
  · rw [if_pos h1, if_neg (fun q => by have := e.mp q; rw [Int32.lt_iff_toInt_lt] at h1; omega)]
  · rw [if_neg h1]
    by_cases h2 : (499 : Int32) < p
    · rw [if_pos h2, if_neg (fun q => by have := e.mp q; rw [Int32.lt_iff_toInt_lt] at h2; omega)]
    · rw [if_neg h2, if_pos (e.mpr (by rw [Int32.lt_iff_toInt_lt] at h1 h2; omega))]
theorem own_rem24 (x : Int32) : ¬ (x &&& (2147483647 : Int32)) % (24 : Int32) < 0 ∧ (x &&& (2147483647 : Int32)) % (24 : Int32) < (24 : Int32) := by
  have h1 := c_and x (2147483647 : Int32) (by decide)
  have h2 := (c_irem (x &&& (2147483647 : Int32)) (24 : Int32) 24 (by decide)).1 h1.1
  have e0 : (0 : Int32).toInt = 0 := by decide
  have e1 : (24 : Int32).toInt = 24 := by decide
  rw [Int32.lt_iff_toInt_lt, Int32.lt_iff_toInt_lt, h2]
  omega
theorem d15_0 : decode prog_9_method_8_code 0 = .ok (.aload_n 0, 1) := by decide +kernel
theorem d15_1 : decode prog_9_method_8_code 1 = .ok (.getfield 13, 3) := by decide +kernel
theorem d15_4 : decode prog_9_method_8_code 4 = .ok (.ifCond .ne 24, 3) := by decide +kernel
theorem d15_7 : decode prog_9_method_8_code 7 = .ok (.aload_n 0, 1) := by decide +kernel
theorem d15_8 : decode prog_9_method_8_code 8 = .ok (.getfield 7, 3) := by decide +kernel
theorem d15_11 : decode prog_9_method_8_code 11 = .ok (.ifnull 21, 3) := by decide +kernel
theorem d15_14 : decode prog_9_method_8_code 14 = .ok (.aload_n 0, 1) := by decide +kernel
theorem d15_15 : decode prog_9_method_8_code 15 = .ok (.getfield 7, 3) := by decide +kernel
theorem d15_18 : decode prog_9_method_8_code 18 = .ok (.invokevirtual 45, 3) := by decide +kernel
theorem d15_21 : decode prog_9_method_8_code 21 = .ok (.bipush 100, 2) := by decide +kernel
theorem d15_23 : decode prog_9_method_8_code 23 = .ok (.idiv, 1) := by decide +kernel
theorem d15_24 : decode prog_9_method_8_code 24 = .ok (.iconst 2, 1) := by decide +kernel
theorem d15_25 : decode prog_9_method_8_code 25 = .ok (.if_icmp .ne 7, 3) := by decide +kernel
theorem d15_28 : decode prog_9_method_8_code 28 = .ok (.iconst 1, 1) := by decide +kernel
theorem d15_29 : decode prog_9_method_8_code 29 = .ok (.goto 4, 3) := by decide +kernel
theorem d15_33 : decode prog_9_method_8_code 33 = .ok (.ireturn, 1) := by decide +kernel
theorem d15_32 : decode prog_9_method_8_code 32 = .ok (.iconst 0, 1) := by decide +kernel
theorem ef15 (m : MethodId) (x0 : Addr) : entryFrame m #[(.ref x0)] 1 = mkF m 0 #[.val (.ref x0)] [] := by first | (simp [entryFrame, mkF, argsToLocals, Value.category]; done) | rfl
def Q15 (Z : State) (a : Addr) (b : Addr) (p : Int32) (h0 : Heap) (n0 : Nat) (v : Option Value) (h : Heap) (L : List Loc) : Prop := v = some (.int (own_succ p)) ∧ Fr n0 L ∧ h = h0
set_option maxRecDepth 65536 in
set_option maxHeartbeats 40000000 in
theorem rm15 (l : Launch) (Z : State) (a0 : Array Value) (hw : ∀ d ∈ tables_1, d.before a0 Z = true) (ws : List Jvm.Cond) (a : Addr) (b : Addr) (p : Int32) (h0 : Heap) (n0 : Nat) (Z0 : n0 ≤ h0.size) (F0 : Fld Z h0 a "com/example/periodic_jobs/periodicjobs/engine/DeliveryResult" "confirmed" "Z" (.int (0 : Int32))) (F1 : Fld Z h0 a "com/example/periodic_jobs/periodicjobs/engine/DeliveryResult" "httpStatus" "Ljava/lang/Integer;" (.ref b)) (Eb : Exa Z h0 b "java/lang/Integer") (Fb : Fld Z h0 b "java/lang/Integer" "value" "I" (.int p)) :
    MetFree l (⟨"com/example/periodic_jobs/periodicjobs/engine/DeliveryResult", "isSuccess", "()Z"⟩ : MethodName) (head1 (Jvm.Cond.code (⟨"com/example/periodic_jobs/periodicjobs/engine/DeliveryResult", "isSuccess", "()Z"⟩ : MethodName) prog_9_method_8_code 1 ((Option.some FieldType.boolean)) :: ws) ({ frames := 1, cells := 0, slots := 0, locals := 12 } : Room)) (fun aa U => aa = #[(.ref a)] ∧ Z.Warmed39 U.vm ∧ U.heap = h0) (fun _ _ _ _ _ => True) (fun _ U ou U' => ∃ v L, ou = .returned v ∧ Q15 Z a b p h0 n0 v U'.heap L ∧ FrameEnd U ou U' L ({ frames := 1, cells := 0, slots := 0, locals := 12 } : Room).cells ({ frames := 1, cells := 0, slots := 0, locals := 12 } : Room).slots) := by
  refine MetFree.of_bodySF (plainFor_of_name pn_com_example_periodic_jobs_periodicjobs_engine_DeliveryResult) hisR ?_
  intro pg e s m args below meth c s₁ Bd hml0 hP hK
  obtain ⟨rfl, hZ, hh⟩ := hP
  have hx := Bd.exec
  have hby := Bd.bytes
  have hml : c.maxLocals = 1 := hml0
  have hown : s.vm.findClass "com/example/periodic_jobs/periodicjobs/engine/DeliveryResult" = some m.cls := findClass_of_methodNamed Bd.named
  have hnm := (name_of_methodNamed Bd.named Bd.method).1
  have X0 : Stand pg l e ({ frames := 1, cells := 0, slots := 0, locals := 12 } : Room) s m #[(.ref a)] below meth c s₁ [] 0 0 := Stand.of_body Bd
  have e0 : s₁.heap = h0 := by rw [← hh, Bd.state]; rfl
  have N0 := Fr.nil n0
  show own_Go pg.tables e below (fun ou U' => ∃ v L, ou = .returned v ∧ Q15 Z a b p h0 n0 v U'.heap L ∧ FrameEnd s ou U' L ({ frames := 1, cells := 0, slots := 0, locals := 12 } : Room).cells ({ frames := 1, cells := 0, slots := 0, locals := 12 } : Room).slots) (s₁.setTop (entryFrame m #[(.ref a)] 1))
  refine own_go (S' := s₁.setTop (mkF m 0 #[.val (.ref a)] [])) (fun tg kk => castTop (ef15 m a) kk) ?_
  refine own_go (S' := s₁.setTop (mkF m 1 #[.val (.ref a)] [(.ref a)])) (fun tg kk => XS.aloadN X0.here hx rfl (hb hby d15_0) rfl rfl kk) ?_
  obtain ⟨T1, X1, e1, st1⟩ := getF X0 hx hZ hown (host := "") (Or.inl (hw _ (List.mem_of_getElem? (i := 22) rfl))) Via.refl e0 F0 (g := (mkF m 1 #[.val (.ref a)] [(.ref a)])) rfl rfl (hb hby d15_1)
  refine own_go (S' := T1.setTop (mkF m 4 #[.val (.ref a)] [(.int (0 : Int32))])) (st1) ?_
  refine own_go (S' := T1.setTop (mkF m 7 #[.val (.ref a)] [])) (fun tg kk => XS.ifNo X1.here hx rfl (hb hby d15_4) rfl (XT.i0_ne_f (by decide)) kk) ?_
  refine own_go (S' := T1.setTop (mkF m 8 #[.val (.ref a)] [(.ref a)])) (fun tg kk => XS.aloadN X1.here hx rfl (hb hby d15_7) rfl rfl kk) ?_
  obtain ⟨T2, X2, e2, st2⟩ := getF X1 hx hZ hown (host := "") (Or.inl (hw _ (List.mem_of_getElem? (i := 20) rfl))) Via.refl e1 F1 (g := (mkF m 8 #[.val (.ref a)] [(.ref a)])) rfl rfl (hb hby d15_8)
  refine own_go (S' := T2.setTop (mkF m 11 #[.val (.ref a)] [(.ref b)])) (st2) ?_
  refine own_go (S' := T2.setTop (mkF m 14 #[.val (.ref a)] [])) (fun tg kk => XS.ifnullNo X2.here hx rfl (hb hby d15_11) rfl kk) ?_
  refine own_go (S' := T2.setTop (mkF m 15 #[.val (.ref a)] [(.ref a)])) (fun tg kk => XS.aloadN X2.here hx rfl (hb hby d15_14) rfl rfl kk) ?_
  obtain ⟨T3, X3, e3, st3⟩ := getF X2 hx hZ hown (host := "") (Or.inl (hw _ (List.mem_of_getElem? (i := 20) rfl))) Via.refl e2 F1 (g := (mkF m 15 #[.val (.ref a)] [(.ref a)])) rfl rfl (hb hby d15_15)
  refine own_go (S' := T3.setTop (mkF m 18 #[.val (.ref a)] [(.ref b)])) (st3) ?_
  obtain ⟨cq4, kq4, qa4, qb4, qc4⟩ := isOf hZ e3 Eb
  obtain ⟨v4, _, ⟨T4, L4, k4, n4⟩, -, X4, ⟨Lc4, hQ4, l4, y4, z4⟩, st4⟩ := X3.virtualBack hx (y := (⟨"java/lang/Integer", "intValue", "()I"⟩ : MethodName)) (z := (⟨"java/lang/Integer", "intValue", "()I"⟩ : MethodName)) hown (mvT hZ (hw _ (List.mem_of_getElem? (i := 31) rfl))) (mvT hZ (hw _ (List.mem_of_getElem? (i := 32) rfl))) (notFace_of_selects (args := #[]) (mvT hZ (hw _ (List.mem_of_getElem? (i := 34) rfl)))) (mvT hZ (hw _ (List.mem_of_getElem? (i := 34) rfl))) (mvT hZ (hw _ (List.mem_of_getElem? (i := 33) rfl))) (by decide) (backOf (W := 0) (rm6 l Z a0 hw [] b p h0 n0 Z0 Fb) hZ (hw _ (List.mem_of_getElem? (i := 35) rfl)) (hw _ (List.mem_of_getElem? (i := 9) rfl)) (by decide) (by decide)) qa4 qc4 (g := (mkF m 18 #[.val (.ref a)] [(.ref b)])) rfl (by rw [hml]; rfl) (Steps.refl _) (argsL := []) (rest := []) (lenOf pd___I rfl) rfl (by show 2 * 0 + _ ≤ _; exact Nat.le_of_eq rfl) (hb hby d15_18) (fun _ _ => ⟨rfl, e3, (by decide : 0 + 0 ≤ _), (by decide : 0 + 0 ≤ _)⟩)
  dsimp only [Pt.U, Pt.locs, Pt.cells, Pt.slots] at X4 l4 y4 z4 st4 hQ4
  subst l4 y4 z4
  obtain ⟨rfl, M5, e4⟩ := hQ4
  have N5 := Fr.app N0 M5
  refine own_to (S' := T4.setTop (mkF m 21 #[.val (.ref a)] [(.int p)])) st4 ?_
  refine own_go (S' := T4.setTop (mkF m 23 #[.val (.ref a)] [(.int (100 : Int32)), (.int p)])) (fun tg kk => XT.bipushV X4.here hx rfl (100 : Int32) (hb hby d15_21) (by decide) kk) ?_
  refine own_go (S' := T4.setTop (mkF m 24 #[.val (.ref a)] [(.int (p / (100 : Int32)))])) (fun tg kk => XS.idiv X4.here hx rfl (hb hby d15_23) rfl (by decide) kk) ?_
  refine own_go (S' := T4.setTop (mkF m 25 #[.val (.ref a)] [(.int (2 : Int32)), (.int (p / (100 : Int32)))])) (fun tg kk => XT.iconstV X4.here hx rfl (2 : Int32) (hb hby d15_24) (by decide) kk) ?_
  by_cases cd6 : (p / (100 : Int32)) = (2 : Int32)
  · refine own_go (S' := T4.setTop (mkF m 28 #[.val (.ref a)] [])) (fun tg kk => XS.icmpNo X4.here hx rfl (hb hby d15_25) rfl (XT.ii_ne_f cd6) kk) ?_
    refine own_go (S' := T4.setTop (mkF m 29 #[.val (.ref a)] [(.int (1 : Int32))])) (fun tg kk => XT.iconstV X4.here hx rfl (1 : Int32) (hb hby d15_28) (by decide) kk) ?_
    refine own_go (S' := T4.setTop (mkF m 33 #[.val (.ref a)] [(.int (1 : Int32))])) (fun tg kk => XS.goto X4.here hx rfl (pc0 := 29) (pc' := 33) rfl (hb hby d15_29) (by decide) (by decide) kk) ?_
    obtain ⟨fs, hr, hrun, hended, hW, hsame⟩ := X4.leave (v := some (.int (1 : Int32))) (fun h => by rw [Bd.returns] at h; cases h)
    refine ⟨_, _, retN X4 hx (t := .boolean) Bd.returns (by simp) (hb hby d15_33) hr, hrun, hended, _, _, rfl, ?_, ⟨_, rfl⟩, hW, hsame.mono (by decide) (by decide)⟩
    show Q15 Z a b p h0 n0 (some (.int (1 : Int32))) T4.heap _
    rw [e4]
    exact ⟨by unfold own_succ; rw [if_pos cd6], N5, rfl⟩
  · refine own_go (S' := T4.setTop (mkF m 32 #[.val (.ref a)] [])) (fun tg kk => XS.icmpYes X4.here hx rfl (pc0 := 25) (pc' := 32) rfl (hb hby d15_25) rfl (XT.ii_ne_t cd6) (by decide) (by decide) kk) ?_
    refine own_go (S' := T4.setTop (mkF m 33 #[.val (.ref a)] [(.int (0 : Int32))])) (fun tg kk => XT.iconstV X4.here hx rfl (0 : Int32) (hb hby d15_32) (by decide) kk) ?_
    obtain ⟨fs, hr, hrun, hended, hW, hsame⟩ := X4.leave (v := some (.int (0 : Int32))) (fun h => by rw [Bd.returns] at h; cases h)
    refine ⟨_, _, retN X4 hx (t := .boolean) Bd.returns (by simp) (hb hby d15_33) hr, hrun, hended, _, _, rfl, ?_, ⟨_, rfl⟩, hW, hsame.mono (by decide) (by decide)⟩
    show Q15 Z a b p h0 n0 (some (.int (0 : Int32))) T4.heap _
    rw [e4]
    exact ⟨by unfold own_succ; rw [if_neg cd6], N5, rfl⟩
theorem d16_0 : decode prog_9_method_9_code 0 = .ok (.aload_n 0, 1) := by decide +kernel
theorem d16_1 : decode prog_9_method_9_code 1 = .ok (.getfield 7, 3) := by decide +kernel
theorem d16_4 : decode prog_9_method_9_code 4 = .ok (.ifnull 20, 3) := by decide +kernel
theorem d16_7 : decode prog_9_method_9_code 7 = .ok (.aload_n 0, 1) := by decide +kernel
theorem d16_8 : decode prog_9_method_9_code 8 = .ok (.getfield 7, 3) := by decide +kernel
theorem d16_11 : decode prog_9_method_9_code 11 = .ok (.invokevirtual 45, 3) := by decide +kernel
theorem d16_14 : decode prog_9_method_9_code 14 = .ok (.sipush 202, 3) := by decide +kernel
theorem d16_17 : decode prog_9_method_9_code 17 = .ok (.if_icmp .ne 7, 3) := by decide +kernel
theorem d16_20 : decode prog_9_method_9_code 20 = .ok (.iconst 1, 1) := by decide +kernel
theorem d16_21 : decode prog_9_method_9_code 21 = .ok (.goto 4, 3) := by decide +kernel
theorem d16_25 : decode prog_9_method_9_code 25 = .ok (.ireturn, 1) := by decide +kernel
theorem d16_24 : decode prog_9_method_9_code 24 = .ok (.iconst 0, 1) := by decide +kernel
theorem ef16 (m : MethodId) (x0 : Addr) : entryFrame m #[(.ref x0)] 1 = mkF m 0 #[.val (.ref x0)] [] := by first | (simp [entryFrame, mkF, argsToLocals, Value.category]; done) | rfl
def Q16 (Z : State) (a : Addr) (b : Addr) (p : Int32) (h0 : Heap) (n0 : Nat) (v : Option Value) (h : Heap) (L : List Loc) : Prop := v = some (.int (own_acc p)) ∧ Fr n0 L ∧ h = h0
set_option maxRecDepth 65536 in
set_option maxHeartbeats 40000000 in
theorem rm16 (l : Launch) (Z : State) (a0 : Array Value) (hw : ∀ d ∈ tables_1, d.before a0 Z = true) (ws : List Jvm.Cond) (a : Addr) (b : Addr) (p : Int32) (h0 : Heap) (n0 : Nat) (Z0 : n0 ≤ h0.size) (F1 : Fld Z h0 a "com/example/periodic_jobs/periodicjobs/engine/DeliveryResult" "httpStatus" "Ljava/lang/Integer;" (.ref b)) (Eb : Exa Z h0 b "java/lang/Integer") (Fb : Fld Z h0 b "java/lang/Integer" "value" "I" (.int p)) :
    MetFree l (⟨"com/example/periodic_jobs/periodicjobs/engine/DeliveryResult", "isAccepted", "()Z"⟩ : MethodName) (head1 (Jvm.Cond.code (⟨"com/example/periodic_jobs/periodicjobs/engine/DeliveryResult", "isAccepted", "()Z"⟩ : MethodName) prog_9_method_9_code 1 ((Option.some FieldType.boolean)) :: ws) ({ frames := 1, cells := 0, slots := 0, locals := 12 } : Room)) (fun aa U => aa = #[(.ref a)] ∧ Z.Warmed39 U.vm ∧ U.heap = h0) (fun _ _ _ _ _ => True) (fun _ U ou U' => ∃ v L, ou = .returned v ∧ Q16 Z a b p h0 n0 v U'.heap L ∧ FrameEnd U ou U' L ({ frames := 1, cells := 0, slots := 0, locals := 12 } : Room).cells ({ frames := 1, cells := 0, slots := 0, locals := 12 } : Room).slots) := by
  refine MetFree.of_bodySF (plainFor_of_name pn_com_example_periodic_jobs_periodicjobs_engine_DeliveryResult) hisR ?_
  intro pg e s m args below meth c s₁ Bd hml0 hP hK
  obtain ⟨rfl, hZ, hh⟩ := hP
  have hx := Bd.exec
  have hby := Bd.bytes
  have hml : c.maxLocals = 1 := hml0
  have hown : s.vm.findClass "com/example/periodic_jobs/periodicjobs/engine/DeliveryResult" = some m.cls := findClass_of_methodNamed Bd.named
  have hnm := (name_of_methodNamed Bd.named Bd.method).1
  have X0 : Stand pg l e ({ frames := 1, cells := 0, slots := 0, locals := 12 } : Room) s m #[(.ref a)] below meth c s₁ [] 0 0 := Stand.of_body Bd
  have e0 : s₁.heap = h0 := by rw [← hh, Bd.state]; rfl
  have N0 := Fr.nil n0
  show own_Go pg.tables e below (fun ou U' => ∃ v L, ou = .returned v ∧ Q16 Z a b p h0 n0 v U'.heap L ∧ FrameEnd s ou U' L ({ frames := 1, cells := 0, slots := 0, locals := 12 } : Room).cells ({ frames := 1, cells := 0, slots := 0, locals := 12 } : Room).slots) (s₁.setTop (entryFrame m #[(.ref a)] 1))
  refine own_go (S' := s₁.setTop (mkF m 0 #[.val (.ref a)] [])) (fun tg kk => castTop (ef16 m a) kk) ?_
  refine own_go (S' := s₁.setTop (mkF m 1 #[.val (.ref a)] [(.ref a)])) (fun tg kk => XS.aloadN X0.here hx rfl (hb hby d16_0) rfl rfl kk) ?_
  obtain ⟨T1, X1, e1, st1⟩ := getF X0 hx hZ hown (host := "") (Or.inl (hw _ (List.mem_of_getElem? (i := 20) rfl))) Via.refl e0 F1 (g := (mkF m 1 #[.val (.ref a)] [(.ref a)])) rfl rfl (hb hby d16_1)
  refine own_go (S' := T1.setTop (mkF m 4 #[.val (.ref a)] [(.ref b)])) (st1) ?_
  refine own_go (S' := T1.setTop (mkF m 7 #[.val (.ref a)] [])) (fun tg kk => XS.ifnullNo X1.here hx rfl (hb hby d16_4) rfl kk) ?_
  refine own_go (S' := T1.setTop (mkF m 8 #[.val (.ref a)] [(.ref a)])) (fun tg kk => XS.aloadN X1.here hx rfl (hb hby d16_7) rfl rfl kk) ?_
  obtain ⟨T2, X2, e2, st2⟩ := getF X1 hx hZ hown (host := "") (Or.inl (hw _ (List.mem_of_getElem? (i := 20) rfl))) Via.refl e1 F1 (g := (mkF m 8 #[.val (.ref a)] [(.ref a)])) rfl rfl (hb hby d16_8)
  refine own_go (S' := T2.setTop (mkF m 11 #[.val (.ref a)] [(.ref b)])) (st2) ?_
  obtain ⟨cq3, kq3, qa3, qb3, qc3⟩ := isOf hZ e2 Eb
  obtain ⟨v3, _, ⟨T3, L3, k3, n3⟩, -, X3, ⟨Lc3, hQ3, l3, y3, z3⟩, st3⟩ := X2.virtualBack hx (y := (⟨"java/lang/Integer", "intValue", "()I"⟩ : MethodName)) (z := (⟨"java/lang/Integer", "intValue", "()I"⟩ : MethodName)) hown (mvT hZ (hw _ (List.mem_of_getElem? (i := 31) rfl))) (mvT hZ (hw _ (List.mem_of_getElem? (i := 32) rfl))) (notFace_of_selects (args := #[]) (mvT hZ (hw _ (List.mem_of_getElem? (i := 34) rfl)))) (mvT hZ (hw _ (List.mem_of_getElem? (i := 34) rfl))) (mvT hZ (hw _ (List.mem_of_getElem? (i := 33) rfl))) (by decide) (backOf (W := 0) (rm6 l Z a0 hw [] b p h0 n0 Z0 Fb) hZ (hw _ (List.mem_of_getElem? (i := 35) rfl)) (hw _ (List.mem_of_getElem? (i := 9) rfl)) (by decide) (by decide)) qa3 qc3 (g := (mkF m 11 #[.val (.ref a)] [(.ref b)])) rfl (by rw [hml]; rfl) (Steps.refl _) (argsL := []) (rest := []) (lenOf pd___I rfl) rfl (by show 2 * 0 + _ ≤ _; exact Nat.le_of_eq rfl) (hb hby d16_11) (fun _ _ => ⟨rfl, e2, (by decide : 0 + 0 ≤ _), (by decide : 0 + 0 ≤ _)⟩)
  dsimp only [Pt.U, Pt.locs, Pt.cells, Pt.slots] at X3 l3 y3 z3 st3 hQ3
  subst l3 y3 z3
  obtain ⟨rfl, M4, e3⟩ := hQ3
  have N4 := Fr.app N0 M4
  refine own_to (S' := T3.setTop (mkF m 14 #[.val (.ref a)] [(.int p)])) st3 ?_
  refine own_go (S' := T3.setTop (mkF m 17 #[.val (.ref a)] [(.int (202 : Int32)), (.int p)])) (fun tg kk => XT.sipushV X3.here hx rfl (202 : Int32) (hb hby d16_14) (by decide) kk) ?_
  by_cases cd5 : p = (202 : Int32)
  · refine own_go (S' := T3.setTop (mkF m 20 #[.val (.ref a)] [])) (fun tg kk => XS.icmpNo X3.here hx rfl (hb hby d16_17) rfl (XT.ii_ne_f cd5) kk) ?_
    refine own_go (S' := T3.setTop (mkF m 21 #[.val (.ref a)] [(.int (1 : Int32))])) (fun tg kk => XT.iconstV X3.here hx rfl (1 : Int32) (hb hby d16_20) (by decide) kk) ?_
    refine own_go (S' := T3.setTop (mkF m 25 #[.val (.ref a)] [(.int (1 : Int32))])) (fun tg kk => XS.goto X3.here hx rfl (pc0 := 21) (pc' := 25) rfl (hb hby d16_21) (by decide) (by decide) kk) ?_
    obtain ⟨fs, hr, hrun, hended, hW, hsame⟩ := X3.leave (v := some (.int (1 : Int32))) (fun h => by rw [Bd.returns] at h; cases h)
    refine ⟨_, _, retN X3 hx (t := .boolean) Bd.returns (by simp) (hb hby d16_25) hr, hrun, hended, _, _, rfl, ?_, ⟨_, rfl⟩, hW, hsame.mono (by decide) (by decide)⟩
    show Q16 Z a b p h0 n0 (some (.int (1 : Int32))) T3.heap _
    rw [e3]
    exact ⟨by unfold own_acc; rw [if_pos cd5], N4, rfl⟩
  · refine own_go (S' := T3.setTop (mkF m 24 #[.val (.ref a)] [])) (fun tg kk => XS.icmpYes X3.here hx rfl (pc0 := 17) (pc' := 24) rfl (hb hby d16_17) rfl (XT.ii_ne_t cd5) (by decide) (by decide) kk) ?_
    refine own_go (S' := T3.setTop (mkF m 25 #[.val (.ref a)] [(.int (0 : Int32))])) (fun tg kk => XT.iconstV X3.here hx rfl (0 : Int32) (hb hby d16_24) (by decide) kk) ?_
    obtain ⟨fs, hr, hrun, hended, hW, hsame⟩ := X3.leave (v := some (.int (0 : Int32))) (fun h => by rw [Bd.returns] at h; cases h)
    refine ⟨_, _, retN X3 hx (t := .boolean) Bd.returns (by simp) (hb hby d16_25) hr, hrun, hended, _, _, rfl, ?_, ⟨_, rfl⟩, hW, hsame.mono (by decide) (by decide)⟩
    show Q16 Z a b p h0 n0 (some (.int (0 : Int32))) T3.heap _
    rw [e3]
    exact ⟨by unfold own_acc; rw [if_neg cd5], N4, rfl⟩
theorem d17_0 : decode prog_9_method_10_code 0 = .ok (.aload_n 0, 1) := by decide +kernel
theorem d17_1 : decode prog_9_method_10_code 1 = .ok (.getfield 7, 3) := by decide +kernel
theorem d17_4 : decode prog_9_method_10_code 4 = .ok (.ifnull 43, 3) := by decide +kernel
theorem d17_7 : decode prog_9_method_10_code 7 = .ok (.aload_n 0, 1) := by decide +kernel
theorem d17_8 : decode prog_9_method_10_code 8 = .ok (.getfield 7, 3) := by decide +kernel
theorem d17_11 : decode prog_9_method_10_code 11 = .ok (.invokevirtual 45, 3) := by decide +kernel
theorem d17_14 : decode prog_9_method_10_code 14 = .ok (.bipush 100, 2) := by decide +kernel
theorem d17_16 : decode prog_9_method_10_code 16 = .ok (.idiv, 1) := by decide +kernel
theorem d17_17 : decode prog_9_method_10_code 17 = .ok (.iconst 4, 1) := by decide +kernel
theorem d17_18 : decode prog_9_method_10_code 18 = .ok (.if_icmp .ne 29, 3) := by decide +kernel
theorem d17_21 : decode prog_9_method_10_code 21 = .ok (.aload_n 0, 1) := by decide +kernel
theorem d17_22 : decode prog_9_method_10_code 22 = .ok (.getfield 7, 3) := by decide +kernel
theorem d17_25 : decode prog_9_method_10_code 25 = .ok (.invokevirtual 45, 3) := by decide +kernel
theorem d17_28 : decode prog_9_method_10_code 28 = .ok (.sipush 408, 3) := by decide +kernel
theorem d17_31 : decode prog_9_method_10_code 31 = .ok (.if_icmp .eq 16, 3) := by decide +kernel
theorem d17_47 : decode prog_9_method_10_code 47 = .ok (.iconst 1, 1) := by decide +kernel
theorem d17_48 : decode prog_9_method_10_code 48 = .ok (.goto 4, 3) := by decide +kernel
theorem d17_52 : decode prog_9_method_10_code 52 = .ok (.ireturn, 1) := by decide +kernel
theorem d17_34 : decode prog_9_method_10_code 34 = .ok (.aload_n 0, 1) := by decide +kernel
theorem d17_35 : decode prog_9_method_10_code 35 = .ok (.getfield 7, 3) := by decide +kernel
theorem d17_38 : decode prog_9_method_10_code 38 = .ok (.invokevirtual 45, 3) := by decide +kernel
theorem d17_41 : decode prog_9_method_10_code 41 = .ok (.sipush 429, 3) := by decide +kernel
theorem d17_44 : decode prog_9_method_10_code 44 = .ok (.if_icmp .ne 7, 3) := by decide +kernel
theorem d17_51 : decode prog_9_method_10_code 51 = .ok (.iconst 0, 1) := by decide +kernel
theorem ef17 (m : MethodId) (x0 : Addr) : entryFrame m #[(.ref x0)] 1 = mkF m 0 #[.val (.ref x0)] [] := by first | (simp [entryFrame, mkF, argsToLocals, Value.category]; done) | rfl
def Q17 (Z : State) (a : Addr) (b : Addr) (p : Int32) (h0 : Heap) (n0 : Nat) (v : Option Value) (h : Heap) (L : List Loc) : Prop := v = some (.int (own_retry p)) ∧ Fr n0 L ∧ h = h0
set_option maxRecDepth 65536 in
set_option maxHeartbeats 40000000 in
theorem rm17 (l : Launch) (Z : State) (a0 : Array Value) (hw : ∀ d ∈ tables_1, d.before a0 Z = true) (ws : List Jvm.Cond) (a : Addr) (b : Addr) (p : Int32) (h0 : Heap) (n0 : Nat) (Z0 : n0 ≤ h0.size) (F1 : Fld Z h0 a "com/example/periodic_jobs/periodicjobs/engine/DeliveryResult" "httpStatus" "Ljava/lang/Integer;" (.ref b)) (Eb : Exa Z h0 b "java/lang/Integer") (Fb : Fld Z h0 b "java/lang/Integer" "value" "I" (.int p)) :
    MetFree l (⟨"com/example/periodic_jobs/periodicjobs/engine/DeliveryResult", "isWorthRetrying", "()Z"⟩ : MethodName) (head1 (Jvm.Cond.code (⟨"com/example/periodic_jobs/periodicjobs/engine/DeliveryResult", "isWorthRetrying", "()Z"⟩ : MethodName) prog_9_method_10_code 1 ((Option.some FieldType.boolean)) :: ws) ({ frames := 1, cells := 0, slots := 0, locals := 12 } : Room)) (fun aa U => aa = #[(.ref a)] ∧ Z.Warmed39 U.vm ∧ U.heap = h0) (fun _ _ _ _ _ => True) (fun _ U ou U' => ∃ v L, ou = .returned v ∧ Q17 Z a b p h0 n0 v U'.heap L ∧ FrameEnd U ou U' L ({ frames := 1, cells := 0, slots := 0, locals := 12 } : Room).cells ({ frames := 1, cells := 0, slots := 0, locals := 12 } : Room).slots) := by
  refine MetFree.of_bodySF (plainFor_of_name pn_com_example_periodic_jobs_periodicjobs_engine_DeliveryResult) hisR ?_
  intro pg e s m args below meth c s₁ Bd hml0 hP hK
  obtain ⟨rfl, hZ, hh⟩ := hP
  have hx := Bd.exec
  have hby := Bd.bytes
  have hml : c.maxLocals = 1 := hml0
  have hown : s.vm.findClass "com/example/periodic_jobs/periodicjobs/engine/DeliveryResult" = some m.cls := findClass_of_methodNamed Bd.named
  have hnm := (name_of_methodNamed Bd.named Bd.method).1
  have X0 : Stand pg l e ({ frames := 1, cells := 0, slots := 0, locals := 12 } : Room) s m #[(.ref a)] below meth c s₁ [] 0 0 := Stand.of_body Bd
  have e0 : s₁.heap = h0 := by rw [← hh, Bd.state]; rfl
  have N0 := Fr.nil n0
  show own_Go pg.tables e below (fun ou U' => ∃ v L, ou = .returned v ∧ Q17 Z a b p h0 n0 v U'.heap L ∧ FrameEnd s ou U' L ({ frames := 1, cells := 0, slots := 0, locals := 12 } : Room).cells ({ frames := 1, cells := 0, slots := 0, locals := 12 } : Room).slots) (s₁.setTop (entryFrame m #[(.ref a)] 1))
  refine own_go (S' := s₁.setTop (mkF m 0 #[.val (.ref a)] [])) (fun tg kk => castTop (ef17 m a) kk) ?_
  refine own_go (S' := s₁.setTop (mkF m 1 #[.val (.ref a)] [(.ref a)])) (fun tg kk => XS.aloadN X0.here hx rfl (hb hby d17_0) rfl rfl kk) ?_
  obtain ⟨T1, X1, e1, st1⟩ := getF X0 hx hZ hown (host := "") (Or.inl (hw _ (List.mem_of_getElem? (i := 20) rfl))) Via.refl e0 F1 (g := (mkF m 1 #[.val (.ref a)] [(.ref a)])) rfl rfl (hb hby d17_1)
  refine own_go (S' := T1.setTop (mkF m 4 #[.val (.ref a)] [(.ref b)])) (st1) ?_
  refine own_go (S' := T1.setTop (mkF m 7 #[.val (.ref a)] [])) (fun tg kk => XS.ifnullNo X1.here hx rfl (hb hby d17_4) rfl kk) ?_
  refine own_go (S' := T1.setTop (mkF m 8 #[.val (.ref a)] [(.ref a)])) (fun tg kk => XS.aloadN X1.here hx rfl (hb hby d17_7) rfl rfl kk) ?_
  obtain ⟨T2, X2, e2, st2⟩ := getF X1 hx hZ hown (host := "") (Or.inl (hw _ (List.mem_of_getElem? (i := 20) rfl))) Via.refl e1 F1 (g := (mkF m 8 #[.val (.ref a)] [(.ref a)])) rfl rfl (hb hby d17_8)
  refine own_go (S' := T2.setTop (mkF m 11 #[.val (.ref a)] [(.ref b)])) (st2) ?_
  obtain ⟨cq3, kq3, qa3, qb3, qc3⟩ := isOf hZ e2 Eb
  obtain ⟨v3, _, ⟨T3, L3, k3, n3⟩, -, X3, ⟨Lc3, hQ3, l3, y3, z3⟩, st3⟩ := X2.virtualBack hx (y := (⟨"java/lang/Integer", "intValue", "()I"⟩ : MethodName)) (z := (⟨"java/lang/Integer", "intValue", "()I"⟩ : MethodName)) hown (mvT hZ (hw _ (List.mem_of_getElem? (i := 31) rfl))) (mvT hZ (hw _ (List.mem_of_getElem? (i := 32) rfl))) (notFace_of_selects (args := #[]) (mvT hZ (hw _ (List.mem_of_getElem? (i := 34) rfl)))) (mvT hZ (hw _ (List.mem_of_getElem? (i := 34) rfl))) (mvT hZ (hw _ (List.mem_of_getElem? (i := 33) rfl))) (by decide) (backOf (W := 0) (rm6 l Z a0 hw [] b p h0 n0 Z0 Fb) hZ (hw _ (List.mem_of_getElem? (i := 35) rfl)) (hw _ (List.mem_of_getElem? (i := 9) rfl)) (by decide) (by decide)) qa3 qc3 (g := (mkF m 11 #[.val (.ref a)] [(.ref b)])) rfl (by rw [hml]; rfl) (Steps.refl _) (argsL := []) (rest := []) (lenOf pd___I rfl) rfl (by show 2 * 0 + _ ≤ _; exact Nat.le_of_eq rfl) (hb hby d17_11) (fun _ _ => ⟨rfl, e2, (by decide : 0 + 0 ≤ _), (by decide : 0 + 0 ≤ _)⟩)
  dsimp only [Pt.U, Pt.locs, Pt.cells, Pt.slots] at X3 l3 y3 z3 st3 hQ3
  subst l3 y3 z3
  obtain ⟨rfl, M4, e3⟩ := hQ3
  have N4 := Fr.app N0 M4
  refine own_to (S' := T3.setTop (mkF m 14 #[.val (.ref a)] [(.int p)])) st3 ?_
  refine own_go (S' := T3.setTop (mkF m 16 #[.val (.ref a)] [(.int (100 : Int32)), (.int p)])) (fun tg kk => XT.bipushV X3.here hx rfl (100 : Int32) (hb hby d17_14) (by decide) kk) ?_
  refine own_go (S' := T3.setTop (mkF m 17 #[.val (.ref a)] [(.int (p / (100 : Int32)))])) (fun tg kk => XS.idiv X3.here hx rfl (hb hby d17_16) rfl (by decide) kk) ?_
  refine own_go (S' := T3.setTop (mkF m 18 #[.val (.ref a)] [(.int (4 : Int32)), (.int (p / (100 : Int32)))])) (fun tg kk => XT.iconstV X3.here hx rfl (4 : Int32) (hb hby d17_17) (by decide) kk) ?_
  by_cases cd5 : (p / (100 : Int32)) = (4 : Int32)
  · refine own_go (S' := T3.setTop (mkF m 21 #[.val (.ref a)] [])) (fun tg kk => XS.icmpNo X3.here hx rfl (hb hby d17_18) rfl (XT.ii_ne_f cd5) kk) ?_
    refine own_go (S' := T3.setTop (mkF m 22 #[.val (.ref a)] [(.ref a)])) (fun tg kk => XS.aloadN X3.here hx rfl (hb hby d17_21) rfl rfl kk) ?_
    obtain ⟨T6, X6, e6, st6⟩ := getF X3 hx hZ hown (host := "") (Or.inl (hw _ (List.mem_of_getElem? (i := 20) rfl))) Via.refl e3 F1 (g := (mkF m 22 #[.val (.ref a)] [(.ref a)])) rfl rfl (hb hby d17_22)
    refine own_go (S' := T6.setTop (mkF m 25 #[.val (.ref a)] [(.ref b)])) (st6) ?_
    obtain ⟨cq7, kq7, qa7, qb7, qc7⟩ := isOf hZ e6 Eb
    obtain ⟨v7, _, ⟨T7, L7, k7, n7⟩, -, X7, ⟨Lc7, hQ7, l7, y7, z7⟩, st7⟩ := X6.virtualBack hx (y := (⟨"java/lang/Integer", "intValue", "()I"⟩ : MethodName)) (z := (⟨"java/lang/Integer", "intValue", "()I"⟩ : MethodName)) hown (mvT hZ (hw _ (List.mem_of_getElem? (i := 31) rfl))) (mvT hZ (hw _ (List.mem_of_getElem? (i := 32) rfl))) (notFace_of_selects (args := #[]) (mvT hZ (hw _ (List.mem_of_getElem? (i := 34) rfl)))) (mvT hZ (hw _ (List.mem_of_getElem? (i := 34) rfl))) (mvT hZ (hw _ (List.mem_of_getElem? (i := 33) rfl))) (by decide) (backOf (W := 0) (rm6 l Z a0 hw [] b p h0 n0 Z0 Fb) hZ (hw _ (List.mem_of_getElem? (i := 35) rfl)) (hw _ (List.mem_of_getElem? (i := 9) rfl)) (by decide) (by decide)) qa7 qc7 (g := (mkF m 25 #[.val (.ref a)] [(.ref b)])) rfl (by rw [hml]; rfl) (Steps.refl _) (argsL := []) (rest := []) (lenOf pd___I rfl) rfl (by show 2 * 0 + _ ≤ _; exact Nat.le_of_eq rfl) (hb hby d17_25) (fun _ _ => ⟨rfl, e6, (by decide : 0 + 0 ≤ _), (by decide : 0 + 0 ≤ _)⟩)
    dsimp only [Pt.U, Pt.locs, Pt.cells, Pt.slots] at X7 l7 y7 z7 st7 hQ7
    subst l7 y7 z7
    obtain ⟨rfl, M8, e7⟩ := hQ7
    have N8 := Fr.app N4 M8
    refine own_to (S' := T7.setTop (mkF m 28 #[.val (.ref a)] [(.int p)])) st7 ?_
    refine own_go (S' := T7.setTop (mkF m 31 #[.val (.ref a)] [(.int (408 : Int32)), (.int p)])) (fun tg kk => XT.sipushV X7.here hx rfl (408 : Int32) (hb hby d17_28) (by decide) kk) ?_
    by_cases cd9 : p = (408 : Int32)
    · refine own_go (S' := T7.setTop (mkF m 47 #[.val (.ref a)] [])) (fun tg kk => XS.icmpYes X7.here hx rfl (pc0 := 31) (pc' := 47) rfl (hb hby d17_31) rfl (XT.ii_eq_t cd9) (by decide) (by decide) kk) ?_
      refine own_go (S' := T7.setTop (mkF m 48 #[.val (.ref a)] [(.int (1 : Int32))])) (fun tg kk => XT.iconstV X7.here hx rfl (1 : Int32) (hb hby d17_47) (by decide) kk) ?_
      refine own_go (S' := T7.setTop (mkF m 52 #[.val (.ref a)] [(.int (1 : Int32))])) (fun tg kk => XS.goto X7.here hx rfl (pc0 := 48) (pc' := 52) rfl (hb hby d17_48) (by decide) (by decide) kk) ?_
      obtain ⟨fs, hr, hrun, hended, hW, hsame⟩ := X7.leave (v := some (.int (1 : Int32))) (fun h => by rw [Bd.returns] at h; cases h)
      refine ⟨_, _, retN X7 hx (t := .boolean) Bd.returns (by simp) (hb hby d17_52) hr, hrun, hended, _, _, rfl, ?_, ⟨_, rfl⟩, hW, hsame.mono (by decide) (by decide)⟩
      show Q17 Z a b p h0 n0 (some (.int (1 : Int32))) T7.heap _
      rw [e7]
      exact ⟨by unfold own_retry; rw [if_pos cd5, if_pos cd9], N8, rfl⟩
    · refine own_go (S' := T7.setTop (mkF m 34 #[.val (.ref a)] [])) (fun tg kk => XS.icmpNo X7.here hx rfl (hb hby d17_31) rfl (XT.ii_eq_f cd9) kk) ?_
      refine own_go (S' := T7.setTop (mkF m 35 #[.val (.ref a)] [(.ref a)])) (fun tg kk => XS.aloadN X7.here hx rfl (hb hby d17_34) rfl rfl kk) ?_
      obtain ⟨T10, X10, e10, st10⟩ := getF X7 hx hZ hown (host := "") (Or.inl (hw _ (List.mem_of_getElem? (i := 20) rfl))) Via.refl e7 F1 (g := (mkF m 35 #[.val (.ref a)] [(.ref a)])) rfl rfl (hb hby d17_35)
      refine own_go (S' := T10.setTop (mkF m 38 #[.val (.ref a)] [(.ref b)])) (st10) ?_
      obtain ⟨cq11, kq11, qa11, qb11, qc11⟩ := isOf hZ e10 Eb
      obtain ⟨v11, _, ⟨T11, L11, k11, n11⟩, -, X11, ⟨Lc11, hQ11, l11, y11, z11⟩, st11⟩ := X10.virtualBack hx (y := (⟨"java/lang/Integer", "intValue", "()I"⟩ : MethodName)) (z := (⟨"java/lang/Integer", "intValue", "()I"⟩ : MethodName)) hown (mvT hZ (hw _ (List.mem_of_getElem? (i := 31) rfl))) (mvT hZ (hw _ (List.mem_of_getElem? (i := 32) rfl))) (notFace_of_selects (args := #[]) (mvT hZ (hw _ (List.mem_of_getElem? (i := 34) rfl)))) (mvT hZ (hw _ (List.mem_of_getElem? (i := 34) rfl))) (mvT hZ (hw _ (List.mem_of_getElem? (i := 33) rfl))) (by decide) (backOf (W := 0) (rm6 l Z a0 hw [] b p h0 n0 Z0 Fb) hZ (hw _ (List.mem_of_getElem? (i := 35) rfl)) (hw _ (List.mem_of_getElem? (i := 9) rfl)) (by decide) (by decide)) qa11 qc11 (g := (mkF m 38 #[.val (.ref a)] [(.ref b)])) rfl (by rw [hml]; rfl) (Steps.refl _) (argsL := []) (rest := []) (lenOf pd___I rfl) rfl (by show 2 * 0 + _ ≤ _; exact Nat.le_of_eq rfl) (hb hby d17_38) (fun _ _ => ⟨rfl, e10, (by decide : 0 + 0 ≤ _), (by decide : 0 + 0 ≤ _)⟩)
      dsimp only [Pt.U, Pt.locs, Pt.cells, Pt.slots] at X11 l11 y11 z11 st11 hQ11
      subst l11 y11 z11
      obtain ⟨rfl, M12, e11⟩ := hQ11
      have N12 := Fr.app N8 M12
      refine own_to (S' := T11.setTop (mkF m 41 #[.val (.ref a)] [(.int p)])) st11 ?_
      refine own_go (S' := T11.setTop (mkF m 44 #[.val (.ref a)] [(.int (429 : Int32)), (.int p)])) (fun tg kk => XT.sipushV X11.here hx rfl (429 : Int32) (hb hby d17_41) (by decide) kk) ?_
      by_cases cd13 : p = (429 : Int32)
      · refine own_go (S' := T11.setTop (mkF m 47 #[.val (.ref a)] [])) (fun tg kk => XS.icmpNo X11.here hx rfl (hb hby d17_44) rfl (XT.ii_ne_f cd13) kk) ?_
        refine own_go (S' := T11.setTop (mkF m 48 #[.val (.ref a)] [(.int (1 : Int32))])) (fun tg kk => XT.iconstV X11.here hx rfl (1 : Int32) (hb hby d17_47) (by decide) kk) ?_
        refine own_go (S' := T11.setTop (mkF m 52 #[.val (.ref a)] [(.int (1 : Int32))])) (fun tg kk => XS.goto X11.here hx rfl (pc0 := 48) (pc' := 52) rfl (hb hby d17_48) (by decide) (by decide) kk) ?_
        obtain ⟨fs, hr, hrun, hended, hW, hsame⟩ := X11.leave (v := some (.int (1 : Int32))) (fun h => by rw [Bd.returns] at h; cases h)
        refine ⟨_, _, retN X11 hx (t := .boolean) Bd.returns (by simp) (hb hby d17_52) hr, hrun, hended, _, _, rfl, ?_, ⟨_, rfl⟩, hW, hsame.mono (by decide) (by decide)⟩
        show Q17 Z a b p h0 n0 (some (.int (1 : Int32))) T11.heap _
        rw [e11]
        exact ⟨by unfold own_retry; rw [if_pos cd5, if_neg cd9, if_pos cd13], N12, rfl⟩
      · refine own_go (S' := T11.setTop (mkF m 51 #[.val (.ref a)] [])) (fun tg kk => XS.icmpYes X11.here hx rfl (pc0 := 44) (pc' := 51) rfl (hb hby d17_44) rfl (XT.ii_ne_t cd13) (by decide) (by decide) kk) ?_
        refine own_go (S' := T11.setTop (mkF m 52 #[.val (.ref a)] [(.int (0 : Int32))])) (fun tg kk => XT.iconstV X11.here hx rfl (0 : Int32) (hb hby d17_51) (by decide) kk) ?_
        obtain ⟨fs, hr, hrun, hended, hW, hsame⟩ := X11.leave (v := some (.int (0 : Int32))) (fun h => by rw [Bd.returns] at h; cases h)
        refine ⟨_, _, retN X11 hx (t := .boolean) Bd.returns (by simp) (hb hby d17_52) hr, hrun, hended, _, _, rfl, ?_, ⟨_, rfl⟩, hW, hsame.mono (by decide) (by decide)⟩
        show Q17 Z a b p h0 n0 (some (.int (0 : Int32))) T11.heap _
        rw [e11]
        exact ⟨by unfold own_retry; rw [if_pos cd5, if_neg cd9, if_neg cd13], N12, rfl⟩
  · refine own_go (S' := T3.setTop (mkF m 47 #[.val (.ref a)] [])) (fun tg kk => XS.icmpYes X3.here hx rfl (pc0 := 18) (pc' := 47) rfl (hb hby d17_18) rfl (XT.ii_ne_t cd5) (by decide) (by decide) kk) ?_
    refine own_go (S' := T3.setTop (mkF m 48 #[.val (.ref a)] [(.int (1 : Int32))])) (fun tg kk => XT.iconstV X3.here hx rfl (1 : Int32) (hb hby d17_47) (by decide) kk) ?_
    refine own_go (S' := T3.setTop (mkF m 52 #[.val (.ref a)] [(.int (1 : Int32))])) (fun tg kk => XS.goto X3.here hx rfl (pc0 := 48) (pc' := 52) rfl (hb hby d17_48) (by decide) (by decide) kk) ?_
    obtain ⟨fs, hr, hrun, hended, hW, hsame⟩ := X3.leave (v := some (.int (1 : Int32))) (fun h => by rw [Bd.returns] at h; cases h)
    refine ⟨_, _, retN X3 hx (t := .boolean) Bd.returns (by simp) (hb hby d17_52) hr, hrun, hended, _, _, rfl, ?_, ⟨_, rfl⟩, hW, hsame.mono (by decide) (by decide)⟩
    show Q17 Z a b p h0 n0 (some (.int (1 : Int32))) T3.heap _
    rw [e3]
    exact ⟨by unfold own_retry; rw [if_neg cd5], N4, rfl⟩
theorem pd__I_Lcom_example_periodic_jobs_periodicjobs_engine_DeliveryResult_ : parseMethodDescriptor "(I)Lcom/example/periodic_jobs/periodicjobs/engine/DeliveryResult;" = some ⟨[.int], some (.object "com/example/periodic_jobs/periodicjobs/engine/DeliveryResult")⟩ := by decide +kernel
theorem pd___Ljava_util_OptionalInt_ : parseMethodDescriptor "()Ljava/util/OptionalInt;" = some ⟨[], some (.object "java/util/OptionalInt")⟩ := by decide +kernel
theorem pd___Z : parseMethodDescriptor "()Z" = some ⟨[], some .boolean⟩ := by decide +kernel
theorem pd___Ljava_util_Optional_ : parseMethodDescriptor "()Ljava/util/Optional;" = some ⟨[], some (.object "java/util/Optional")⟩ := by decide +kernel
theorem pn_com_example_periodic_jobs_periodicjobs_engine_DeliveryResultAnsweredPinLaw : plainName "com/example/periodic_jobs/periodicjobs/engine/DeliveryResultAnsweredPinLaw" = true := by first | (simp [plainName, overriddenIn]; done) | decide +kernel
theorem ef0 (m : MethodId) (x0 : Int32) (x1 : Int32) : entryFrame m #[(.int x0), (.int x1)] maxLocals = mkF m 0 #[.val (.int x0), .val (.int x1), .unset, .unset, .unset, .unset, .unset, .unset, .unset, .unset] [] := by first | (simp [entryFrame, mkF, argsToLocals, Value.category, maxLocals]; done) | rfl
def Q0 (Z : State) (p1 : Int32) (p2 : Int32) (ca : Addr) (clc : Cell) (em : Addr) (h0 : Heap) (n0 : Nat) (v : Option Value) (h : Heap) (L : List Loc) : Prop := v = some (.int 1) ∧ Fr n0 L
set_option maxRecDepth 65536 in
set_option maxHeartbeats 40000000 in
theorem rm0 (l : Launch) (Z : State) (a0 : Array Value) (hw : ∀ d ∈ tables_1, d.before a0 Z = true) (ws : List Jvm.Cond) (p1 : Int32) (p2 : Int32) (ca : Addr) (clc : Cell) (em : Addr) (h0 : Heap) (n0 : Nat) (Z0 : n0 ≤ h0.size) (O0 : Old Z n0 h0) (S_high : Sta Z Z.heap "java/lang/Integer$IntegerCache" "high" "I" (.int (127 : Int32))) (S_cache : Sta Z Z.heap "java/lang/Integer$IntegerCache" "cache" "[Ljava/lang/Integer;" (.ref ca)) (B_cache : Bxs Z ca clc "java/lang/Integer" "I" (256 : Int32) (fun j => .int (j - 128))) (S_EMPTY : Sta Z Z.heap "java/util/Optional" "EMPTY" "Ljava/util/Optional;" (.ref em)) (E_EMPTY : Exa Z Z.heap em "java/util/Optional") (F_EMPTY : Fld Z Z.heap em "java/util/Optional" "value" "Ljava/lang/Object;" .null) :
    MetFree l x (head1 (Jvm.Cond.code x code maxLocals ret :: ws) room_1) (fun aa U => aa = #[(.int p1), (.int p2)] ∧ Z.Warmed39 U.vm ∧ U.heap = h0) (fun _ _ _ _ _ => True) (fun _ U ou U' => ∃ v L, ou = .returned v ∧ Q0 Z p1 p2 ca clc em h0 n0 v U'.heap L ∧ FrameEnd U ou U' L room_1.cells room_1.slots) := by
  refine MetFree.of_bodySF (plainFor_of_name pn_com_example_periodic_jobs_periodicjobs_engine_DeliveryResultAnsweredPinLaw) hisR ?_
  intro pg e s m args below meth c s₁ Bd hml0 hP hK
  obtain ⟨rfl, hZ, hh⟩ := hP
  have hx := Bd.exec
  have hby := Bd.bytes
  have hml : c.maxLocals = 10 := hml0
  have hown : s.vm.findClass "com/example/periodic_jobs/periodicjobs/engine/DeliveryResultAnsweredPinLaw" = some m.cls := findClass_of_methodNamed Bd.named
  have hnm := (name_of_methodNamed Bd.named Bd.method).1
  have X0 : Stand pg l e room_1 s m #[(.int p1), (.int p2)] below meth c s₁ [] 0 0 := Stand.of_body Bd
  have e0 : s₁.heap = h0 := by rw [← hh, Bd.state]; rfl
  have N0 := Fr.nil n0
  show own_Go pg.tables e below (fun ou U' => ∃ v L, ou = .returned v ∧ Q0 Z p1 p2 ca clc em h0 n0 v U'.heap L ∧ FrameEnd s ou U' L room_1.cells room_1.slots) (s₁.setTop (entryFrame m #[(.int p1), (.int p2)] maxLocals))
  refine own_go (S' := s₁.setTop (mkF m 0 #[.val (.int p1), .val (.int p2), .unset, .unset, .unset, .unset, .unset, .unset, .unset, .unset] [])) (fun tg kk => castTop (ef0 m p1 p2) kk) ?_
  refine own_go (S' := s₁.setTop (mkF m 1 #[.val (.int p1), .val (.int p2), .unset, .unset, .unset, .unset, .unset, .unset, .unset, .unset] [(.int p1)])) (fun tg kk => XS.iloadN X0.here hx rfl (hb hby at_0) rfl kk) ?_
  refine own_go (S' := s₁.setTop (mkF m 2 #[.val (.int p1), .val (.int p2), .unset, .unset, .unset, .unset, .unset, .unset, .unset, .unset] [(.int (3 : Int32)), (.int p1)])) (fun tg kk => XT.iconstV X0.here hx rfl (3 : Int32) (hb hby at_1) (by decide) kk) ?_
  refine own_go (S' := s₁.setTop (mkF m 3 #[.val (.int p1), .val (.int p2), .unset, .unset, .unset, .unset, .unset, .unset, .unset, .unset] [(.int (p1 &&& (3 : Int32)))])) (fun tg kk => XS.iand X0.here hx rfl (hb hby at_2) rfl kk) ?_
  refine own_go (S' := s₁.setTop (mkF m 4 #[.val (.int p1), .val (.int p2), .val (.int (p1 &&& (3 : Int32))), .unset, .unset, .unset, .unset, .unset, .unset, .unset] [])) (fun tg kk => XS.istoreN X0.here hx rfl (hb hby at_3) rfl (l' := #[.val (.int p1), .val (.int p2), .val (.int (p1 &&& (3 : Int32))), .unset, .unset, .unset, .unset, .unset, .unset, .unset]) rfl kk) ?_
  refine own_go (S' := s₁.setTop (mkF m 5 #[.val (.int p1), .val (.int p2), .val (.int (p1 &&& (3 : Int32))), .unset, .unset, .unset, .unset, .unset, .unset, .unset] [(.int p2)])) (fun tg kk => XS.iloadN X0.here hx rfl (hb hby at_4) rfl kk) ?_
  refine own_go (S' := s₁.setTop (mkF m 7 #[.val (.int p1), .val (.int p2), .val (.int (p1 &&& (3 : Int32))), .unset, .unset, .unset, .unset, .unset, .unset, .unset] [(.int (2147483647 : Int32)), (.int p2)])) (fun tg kk => Stand.ldcI X0 hx (v := (2147483647 : Int32)) hown (mvT hZ (hw _ (List.mem_of_getElem? (i := 0) rfl))) rfl (hb hby at_5) kk) ?_
  refine own_go (S' := s₁.setTop (mkF m 8 #[.val (.int p1), .val (.int p2), .val (.int (p1 &&& (3 : Int32))), .unset, .unset, .unset, .unset, .unset, .unset, .unset] [(.int (p2 &&& (2147483647 : Int32)))])) (fun tg kk => XS.iand X0.here hx rfl (hb hby at_7) rfl kk) ?_
  refine own_go (S' := s₁.setTop (mkF m 9 #[.val (.int p1), .val (.int p2), .val (.int (p1 &&& (3 : Int32))), .val (.int (p2 &&& (2147483647 : Int32))), .unset, .unset, .unset, .unset, .unset, .unset] [])) (fun tg kk => XS.istoreN X0.here hx rfl (hb hby at_8) rfl (l' := #[.val (.int p1), .val (.int p2), .val (.int (p1 &&& (3 : Int32))), .val (.int (p2 &&& (2147483647 : Int32))), .unset, .unset, .unset, .unset, .unset, .unset]) rfl kk) ?_
  have key : ∀ (stv : Int32) (o5 : Slot) (T : State) (h : Heap) (locs : List Loc), Stand pg l e room_1 s m #[(.int p1), (.int p2)] below meth c T locs 1 24 → T.heap = h → Fr n0 locs → n0 ≤ h.size → Old Z n0 h → One o5 → own_Go pg.tables e below (fun ou U' => ∃ v L, ou = .returned v ∧ Q0 Z p1 p2 ca clc em h0 n0 v U'.heap L ∧ FrameEnd s ou U' L room_1.cells room_1.slots) (T.setTop (mkF m 211 #[.val (.int p1), .val (.int p2), .val (.int (p1 &&& (3 : Int32))), .val (.int (p2 &&& (2147483647 : Int32))), .val (.int stv), o5, .unset, .unset, .unset, .unset] [])) := by
    intro stv o5 T h locs X eT N Zl O ho5
    refine own_go (S' := T.setTop (mkF m 213 #[.val (.int p1), .val (.int p2), .val (.int (p1 &&& (3 : Int32))), .val (.int (p2 &&& (2147483647 : Int32))), .val (.int stv), o5, .unset, .unset, .unset, .unset] [(.int stv)])) (fun tg kk => XS.iload X.here hx rfl (hb hby at_211) rfl kk) ?_
    obtain ⟨v1, _, ⟨T1, L1, k1, n1⟩, -, X1, ⟨Lc1, hQ1, l1, y1, z1⟩, st1⟩ := Jvm.LawKit.callS X hx (y := (⟨"com/example/periodic_jobs/periodicjobs/engine/DeliveryResult", "answered", "(I)Lcom/example/periodic_jobs/periodicjobs/engine/DeliveryResult;"⟩ : MethodName)) hown (mvT hZ (hw _ (List.mem_of_getElem? (i := 1) rfl))) (mvT hZ (hw _ (List.mem_of_getElem? (i := 2) rfl))) (mvT hZ (hw _ (List.mem_of_getElem? (i := 3) rfl))) (mvT hZ (hw _ (List.mem_of_getElem? (i := 4) rfl))) (by decide) (backOf (W := 0) (rm1 l Z a0 hw [] stv ca clc h n0 Zl O S_high S_cache B_cache) hZ (hw _ (List.mem_of_getElem? (i := 4) rfl)) (hw _ (List.mem_of_getElem? (i := 3) rfl)) (by decide) (by decide)) (g := (mkF m 213 #[.val (.int p1), .val (.int p2), .val (.int (p1 &&& (3 : Int32))), .val (.int (p2 &&& (2147483647 : Int32))), .val (.int stv), o5, .unset, .unset, .unset, .unset] [(.int stv)])) rfl (by rw [hml]; rfl) (argsL := [(.int stv)]) (rest := []) (lenOf pd__I_Lcom_example_periodic_jobs_periodicjobs_engine_DeliveryResult_ rfl) rfl (by show 2 * 0 + _ ≤ _; exact Nat.le_of_eq rfl) (hb hby at_213) (fun _ _ => ⟨rfl, eT, (by decide : 1 + 2 ≤ _), (by decide : 24 + 4 ≤ _)⟩)
    dsimp only [Pt.U, Pt.locs, Pt.cells, Pt.slots] at X1 l1 y1 z1 st1 hQ1
    subst l1 y1 z1
    obtain ⟨b1, bx1, rfl, M2, K1, G1_0, G1_1, G1_2, G1_3, G1_4, G1_5⟩ := hQ1
    have N2 := Fr.app N M2
    obtain ⟨h1, e1⟩ : ∃ z, T1.heap = z := ⟨_, rfl⟩
    rw [e1] at K1 G1_0 G1_1 G1_2 G1_3 G1_4 G1_5
    have O3 : Old Z n0 h1 := O.keep K1 all0
    have Z4 : n0 ≤ h1.size := Nat.le_trans Zl K1.1
    refine own_go (S' := T1.setTop (mkF m 216 #[.val (.int p1), .val (.int p2), .val (.int (p1 &&& (3 : Int32))), .val (.int (p2 &&& (2147483647 : Int32))), .val (.int stv), o5, .unset, .unset, .unset, .unset] [(.ref b1)])) st1 ?_
    refine own_go (S' := T1.setTop (mkF m 218 #[.val (.int p1), .val (.int p2), .val (.int (p1 &&& (3 : Int32))), .val (.int (p2 &&& (2147483647 : Int32))), .val (.int stv), .val (.ref b1), .unset, .unset, .unset, .unset] [])) (fun tg kk => XS.astoreS X1.here hx rfl (hb hby at_216) rfl rfl rfl rfl ho5 kk) ?_
    refine own_go (S' := T1.setTop (mkF m 220 #[.val (.int p1), .val (.int p2), .val (.int (p1 &&& (3 : Int32))), .val (.int (p2 &&& (2147483647 : Int32))), .val (.int stv), .val (.ref b1), .unset, .unset, .unset, .unset] [(.ref b1)])) (fun tg kk => XS.aload X1.here hx rfl (hb hby at_218) rfl rfl kk) ?_
    obtain ⟨cq5, kq5, qa5, qb5, qc5⟩ := isOf hZ e1 G1_0
    obtain ⟨v5, _, ⟨T5, L5, k5, n5⟩, -, X5, ⟨Lc5, hQ5, l5, y5, z5⟩, st5⟩ := X1.virtualBack hx (y := (⟨"com/example/periodic_jobs/periodicjobs/engine/DeliveryResult", "getHttpStatus", "()Ljava/util/OptionalInt;"⟩ : MethodName)) (z := (⟨"com/example/periodic_jobs/periodicjobs/engine/DeliveryResult", "getHttpStatus", "()Ljava/util/OptionalInt;"⟩ : MethodName)) hown (mvT hZ (hw _ (List.mem_of_getElem? (i := 26) rfl))) (mvT hZ (hw _ (List.mem_of_getElem? (i := 27) rfl))) (notFace_of_selects (args := #[]) (mvT hZ (hw _ (List.mem_of_getElem? (i := 29) rfl)))) (mvT hZ (hw _ (List.mem_of_getElem? (i := 29) rfl))) (mvT hZ (hw _ (List.mem_of_getElem? (i := 28) rfl))) (by decide) (backOf (W := 0) (rm5 l Z a0 hw [] b1 bx1 stv h1 n0 Z4 G1_1 G1_4 G1_5) hZ (hw _ (List.mem_of_getElem? (i := 30) rfl)) (hw _ (List.mem_of_getElem? (i := 3) rfl)) (by decide) (by decide)) qa5 qc5 (g := (mkF m 220 #[.val (.int p1), .val (.int p2), .val (.int (p1 &&& (3 : Int32))), .val (.int (p2 &&& (2147483647 : Int32))), .val (.int stv), .val (.ref b1), .unset, .unset, .unset, .unset] [(.ref b1)])) rfl (by rw [hml]; rfl) (Steps.refl _) (argsL := []) (rest := []) (lenOf pd___Ljava_util_OptionalInt_ rfl) rfl (by show 2 * 0 + _ ≤ _; exact Nat.le_of_eq rfl) (hb hby at_220) (fun _ _ => ⟨rfl, e1, (by decide : 3 + 1 ≤ _), (by decide : 28 + 2 ≤ _)⟩)
    dsimp only [Pt.U, Pt.locs, Pt.cells, Pt.slots] at X5 l5 y5 z5 st5 hQ5
    subst l5 y5 z5
    obtain ⟨b5, rfl, M6, K5, G5_0, G5_1, G5_2⟩ := hQ5
    have N6 := Fr.app N2 M6
    obtain ⟨h5, e5⟩ : ∃ z, T5.heap = z := ⟨_, rfl⟩
    rw [e5] at K5 G5_0 G5_1 G5_2
    have F7 := G1_1.keep K5 nin0
    have F8 := G1_2.keep K5 nin0
    have F9 := G1_3.keep K5 nin0
    have F10 := G1_5.keep K5 nin0
    have E11 : Exa Z h5 b1 "com/example/periodic_jobs/periodicjobs/engine/DeliveryResult" := G1_0.keep K5
    have E12 : Exa Z h5 bx1 "java/lang/Integer" := G1_4.keep K5
    have O13 : Old Z n0 h5 := O3.keep K5 all0
    have Z14 : n0 ≤ h5.size := Nat.le_trans Z4 K5.1
    refine own_to (S' := T5.setTop (mkF m 223 #[.val (.int p1), .val (.int p2), .val (.int (p1 &&& (3 : Int32))), .val (.int (p2 &&& (2147483647 : Int32))), .val (.int stv), .val (.ref b1), .unset, .unset, .unset, .unset] [(.ref b5)])) st5 ?_
    refine own_go (S' := T5.setTop (mkF m 225 #[.val (.int p1), .val (.int p2), .val (.int (p1 &&& (3 : Int32))), .val (.int (p2 &&& (2147483647 : Int32))), .val (.int stv), .val (.ref b1), .val (.ref b5), .unset, .unset, .unset] [])) (fun tg kk => XS.astore X5.here hx rfl (hb hby at_223) rfl rfl (l' := #[.val (.int p1), .val (.int p2), .val (.int (p1 &&& (3 : Int32))), .val (.int (p2 &&& (2147483647 : Int32))), .val (.int stv), .val (.ref b1), .val (.ref b5), .unset, .unset, .unset]) rfl kk) ?_
    refine own_go (S' := T5.setTop (mkF m 227 #[.val (.int p1), .val (.int p2), .val (.int (p1 &&& (3 : Int32))), .val (.int (p2 &&& (2147483647 : Int32))), .val (.int stv), .val (.ref b1), .val (.ref b5), .unset, .unset, .unset] [(.ref b5)])) (fun tg kk => XS.aload X5.here hx rfl (hb hby at_225) rfl rfl kk) ?_
    obtain ⟨cq15, kq15, qa15, qb15, qc15⟩ := isOf hZ e5 G5_0
    obtain ⟨v15, _, ⟨T15, L15, k15, n15⟩, -, X15, ⟨Lc15, hQ15, l15, y15, z15⟩, st15⟩ := X5.virtualBack hx (y := (⟨"java/util/OptionalInt", "isPresent", "()Z"⟩ : MethodName)) (z := (⟨"java/util/OptionalInt", "isPresent", "()Z"⟩ : MethodName)) hown (mvT hZ (hw _ (List.mem_of_getElem? (i := 53) rfl))) (mvT hZ (hw _ (List.mem_of_getElem? (i := 54) rfl))) (notFace_of_selects (args := #[]) (mvT hZ (hw _ (List.mem_of_getElem? (i := 56) rfl)))) (mvT hZ (hw _ (List.mem_of_getElem? (i := 56) rfl))) (mvT hZ (hw _ (List.mem_of_getElem? (i := 55) rfl))) (by decide) (backOf (W := 0) (rm9 l Z a0 hw [] b5 h5 n0 Z14 G5_1) hZ (hw _ (List.mem_of_getElem? (i := 57) rfl)) (hw _ (List.mem_of_getElem? (i := 40) rfl)) (by decide) (by decide)) qa15 qc15 (g := (mkF m 227 #[.val (.int p1), .val (.int p2), .val (.int (p1 &&& (3 : Int32))), .val (.int (p2 &&& (2147483647 : Int32))), .val (.int stv), .val (.ref b1), .val (.ref b5), .unset, .unset, .unset] [(.ref b5)])) rfl (by rw [hml]; rfl) (Steps.refl _) (argsL := []) (rest := []) (lenOf pd___Z rfl) rfl (by show 2 * 0 + _ ≤ _; exact Nat.le_of_eq rfl) (hb hby at_227) (fun _ _ => ⟨rfl, e5, (by decide : 4 + 0 ≤ _), (by decide : 30 + 0 ≤ _)⟩)
    dsimp only [Pt.U, Pt.locs, Pt.cells, Pt.slots] at X15 l15 y15 z15 st15 hQ15
    subst l15 y15 z15
    obtain ⟨rfl, M16, e15⟩ := hQ15
    have N16 := Fr.app N6 M16
    refine own_to (S' := T15.setTop (mkF m 230 #[.val (.int p1), .val (.int p2), .val (.int (p1 &&& (3 : Int32))), .val (.int (p2 &&& (2147483647 : Int32))), .val (.int stv), .val (.ref b1), .val (.ref b5), .unset, .unset, .unset] [(.int (1 : Int32))])) st15 ?_
    refine own_go (S' := T15.setTop (mkF m 233 #[.val (.int p1), .val (.int p2), .val (.int (p1 &&& (3 : Int32))), .val (.int (p2 &&& (2147483647 : Int32))), .val (.int stv), .val (.ref b1), .val (.ref b5), .unset, .unset, .unset] [])) (fun tg kk => XS.ifNo X15.here hx rfl (hb hby at_230) rfl (XT.i0_eq_f (by decide)) kk) ?_
    refine own_go (S' := T15.setTop (mkF m 235 #[.val (.int p1), .val (.int p2), .val (.int (p1 &&& (3 : Int32))), .val (.int (p2 &&& (2147483647 : Int32))), .val (.int stv), .val (.ref b1), .val (.ref b5), .unset, .unset, .unset] [(.ref b5)])) (fun tg kk => XS.aload X15.here hx rfl (hb hby at_233) rfl rfl kk) ?_
    obtain ⟨cq17, kq17, qa17, qb17, qc17⟩ := isOf hZ e15 G5_0
    obtain ⟨v17, _, ⟨T17, L17, k17, n17⟩, -, X17, ⟨Lc17, hQ17, l17, y17, z17⟩, st17⟩ := X15.virtualBack hx (y := (⟨"java/util/OptionalInt", "getAsInt", "()I"⟩ : MethodName)) (z := (⟨"java/util/OptionalInt", "getAsInt", "()I"⟩ : MethodName)) hown (mvT hZ (hw _ (List.mem_of_getElem? (i := 58) rfl))) (mvT hZ (hw _ (List.mem_of_getElem? (i := 59) rfl))) (notFace_of_selects (args := #[]) (mvT hZ (hw _ (List.mem_of_getElem? (i := 61) rfl)))) (mvT hZ (hw _ (List.mem_of_getElem? (i := 61) rfl))) (mvT hZ (hw _ (List.mem_of_getElem? (i := 60) rfl))) (by decide) (backOf (W := 0) (rm10 l Z a0 hw [] b5 stv h5 n0 Z14 G5_1 G5_2) hZ (hw _ (List.mem_of_getElem? (i := 62) rfl)) (hw _ (List.mem_of_getElem? (i := 40) rfl)) (by decide) (by decide)) qa17 qc17 (g := (mkF m 235 #[.val (.int p1), .val (.int p2), .val (.int (p1 &&& (3 : Int32))), .val (.int (p2 &&& (2147483647 : Int32))), .val (.int stv), .val (.ref b1), .val (.ref b5), .unset, .unset, .unset] [(.ref b5)])) rfl (by rw [hml]; rfl) (Steps.refl _) (argsL := []) (rest := []) (lenOf pd___I rfl) rfl (by show 2 * 0 + _ ≤ _; exact Nat.le_of_eq rfl) (hb hby at_235) (fun _ _ => ⟨rfl, e15, (by decide : 4 + 0 ≤ _), (by decide : 30 + 0 ≤ _)⟩)
    dsimp only [Pt.U, Pt.locs, Pt.cells, Pt.slots] at X17 l17 y17 z17 st17 hQ17
    subst l17 y17 z17
    obtain ⟨rfl, M18, e17⟩ := hQ17
    have N18 := Fr.app N16 M18
    refine own_to (S' := T17.setTop (mkF m 238 #[.val (.int p1), .val (.int p2), .val (.int (p1 &&& (3 : Int32))), .val (.int (p2 &&& (2147483647 : Int32))), .val (.int stv), .val (.ref b1), .val (.ref b5), .unset, .unset, .unset] [(.int stv)])) st17 ?_
    refine own_go (S' := T17.setTop (mkF m 240 #[.val (.int p1), .val (.int p2), .val (.int (p1 &&& (3 : Int32))), .val (.int (p2 &&& (2147483647 : Int32))), .val (.int stv), .val (.ref b1), .val (.ref b5), .unset, .unset, .unset] [(.int stv), (.int stv)])) (fun tg kk => XS.iload X17.here hx rfl (hb hby at_238) rfl kk) ?_
    refine own_go (S' := T17.setTop (mkF m 245 #[.val (.int p1), .val (.int p2), .val (.int (p1 &&& (3 : Int32))), .val (.int (p2 &&& (2147483647 : Int32))), .val (.int stv), .val (.ref b1), .val (.ref b5), .unset, .unset, .unset] [])) (fun tg kk => XS.icmpYes X17.here hx rfl (pc0 := 240) (pc' := 245) rfl (hb hby at_240) rfl (XT.ii_eq_t rfl) (by decide) (by decide) kk) ?_
    refine own_go (S' := T17.setTop (mkF m 247 #[.val (.int p1), .val (.int p2), .val (.int (p1 &&& (3 : Int32))), .val (.int (p2 &&& (2147483647 : Int32))), .val (.int stv), .val (.ref b1), .val (.ref b5), .unset, .unset, .unset] [(.ref b1)])) (fun tg kk => XS.aload X17.here hx rfl (hb hby at_245) rfl rfl kk) ?_
    obtain ⟨cq19, kq19, qa19, qb19, qc19⟩ := isOf hZ e17 E11
    obtain ⟨v19, _, ⟨T19, L19, k19, n19⟩, -, X19, ⟨Lc19, hQ19, l19, y19, z19⟩, st19⟩ := X17.virtualBack hx (y := (⟨"com/example/periodic_jobs/periodicjobs/engine/DeliveryResult", "isConfirmed", "()Z"⟩ : MethodName)) (z := (⟨"com/example/periodic_jobs/periodicjobs/engine/DeliveryResult", "isConfirmed", "()Z"⟩ : MethodName)) hown (mvT hZ (hw _ (List.mem_of_getElem? (i := 63) rfl))) (mvT hZ (hw _ (List.mem_of_getElem? (i := 64) rfl))) (notFace_of_selects (args := #[]) (mvT hZ (hw _ (List.mem_of_getElem? (i := 66) rfl)))) (mvT hZ (hw _ (List.mem_of_getElem? (i := 66) rfl))) (mvT hZ (hw _ (List.mem_of_getElem? (i := 65) rfl))) (by decide) (backOf (W := 0) (rm11 l Z a0 hw [] b1 h5 n0 Z14 F8) hZ (hw _ (List.mem_of_getElem? (i := 67) rfl)) (hw _ (List.mem_of_getElem? (i := 3) rfl)) (by decide) (by decide)) qa19 qc19 (g := (mkF m 247 #[.val (.int p1), .val (.int p2), .val (.int (p1 &&& (3 : Int32))), .val (.int (p2 &&& (2147483647 : Int32))), .val (.int stv), .val (.ref b1), .val (.ref b5), .unset, .unset, .unset] [(.ref b1)])) rfl (by rw [hml]; rfl) (Steps.refl _) (argsL := []) (rest := []) (lenOf pd___Z rfl) rfl (by show 2 * 0 + _ ≤ _; exact Nat.le_of_eq rfl) (hb hby at_247) (fun _ _ => ⟨rfl, e17, (by decide : 4 + 0 ≤ _), (by decide : 30 + 0 ≤ _)⟩)
    dsimp only [Pt.U, Pt.locs, Pt.cells, Pt.slots] at X19 l19 y19 z19 st19 hQ19
    subst l19 y19 z19
    obtain ⟨rfl, M20, e19⟩ := hQ19
    have N20 := Fr.app N18 M20
    refine own_to (S' := T19.setTop (mkF m 250 #[.val (.int p1), .val (.int p2), .val (.int (p1 &&& (3 : Int32))), .val (.int (p2 &&& (2147483647 : Int32))), .val (.int stv), .val (.ref b1), .val (.ref b5), .unset, .unset, .unset] [(.int (0 : Int32))])) st19 ?_
    refine own_go (S' := T19.setTop (mkF m 255 #[.val (.int p1), .val (.int p2), .val (.int (p1 &&& (3 : Int32))), .val (.int (p2 &&& (2147483647 : Int32))), .val (.int stv), .val (.ref b1), .val (.ref b5), .unset, .unset, .unset] [])) (fun tg kk => XS.ifYes X19.here hx rfl (pc0 := 250) (pc' := 255) rfl (hb hby at_250) rfl (XT.i0_eq_t (by decide)) (by decide) (by decide) kk) ?_
    refine own_go (S' := T19.setTop (mkF m 257 #[.val (.int p1), .val (.int p2), .val (.int (p1 &&& (3 : Int32))), .val (.int (p2 &&& (2147483647 : Int32))), .val (.int stv), .val (.ref b1), .val (.ref b5), .unset, .unset, .unset] [(.ref b1)])) (fun tg kk => XS.aload X19.here hx rfl (hb hby at_255) rfl rfl kk) ?_
    obtain ⟨cq21, kq21, qa21, qb21, qc21⟩ := isOf hZ e19 E11
    obtain ⟨v21, _, ⟨T21, L21, k21, n21⟩, -, X21, ⟨Lc21, hQ21, l21, y21, z21⟩, st21⟩ := X19.virtualBack hx (y := (⟨"com/example/periodic_jobs/periodicjobs/engine/DeliveryResult", "getError", "()Ljava/util/Optional;"⟩ : MethodName)) (z := (⟨"com/example/periodic_jobs/periodicjobs/engine/DeliveryResult", "getError", "()Ljava/util/Optional;"⟩ : MethodName)) hown (mvT hZ (hw _ (List.mem_of_getElem? (i := 68) rfl))) (mvT hZ (hw _ (List.mem_of_getElem? (i := 69) rfl))) (notFace_of_selects (args := #[]) (mvT hZ (hw _ (List.mem_of_getElem? (i := 71) rfl)))) (mvT hZ (hw _ (List.mem_of_getElem? (i := 71) rfl))) (mvT hZ (hw _ (List.mem_of_getElem? (i := 70) rfl))) (by decide) (backOf (W := 0) (rm12 l Z a0 hw [] b1 em h5 n0 Z14 O13 F9 S_EMPTY) hZ (hw _ (List.mem_of_getElem? (i := 72) rfl)) (hw _ (List.mem_of_getElem? (i := 3) rfl)) (by decide) (by decide)) qa21 qc21 (g := (mkF m 257 #[.val (.int p1), .val (.int p2), .val (.int (p1 &&& (3 : Int32))), .val (.int (p2 &&& (2147483647 : Int32))), .val (.int stv), .val (.ref b1), .val (.ref b5), .unset, .unset, .unset] [(.ref b1)])) rfl (by rw [hml]; rfl) (Steps.refl _) (argsL := []) (rest := []) (lenOf pd___Ljava_util_Optional_ rfl) rfl (by show 2 * 0 + _ ≤ _; exact Nat.le_of_eq rfl) (hb hby at_257) (fun _ _ => ⟨rfl, e19, (by decide : 4 + 0 ≤ _), (by decide : 30 + 0 ≤ _)⟩)
    dsimp only [Pt.U, Pt.locs, Pt.cells, Pt.slots] at X21 l21 y21 z21 st21 hQ21
    subst l21 y21 z21
    obtain ⟨rfl, M22, e21⟩ := hQ21
    have N22 := Fr.app N20 M22
    refine own_to (S' := T21.setTop (mkF m 260 #[.val (.int p1), .val (.int p2), .val (.int (p1 &&& (3 : Int32))), .val (.int (p2 &&& (2147483647 : Int32))), .val (.int stv), .val (.ref b1), .val (.ref b5), .unset, .unset, .unset] [(.ref em)])) st21 ?_
    obtain ⟨cq23, kq23, qa23, qb23, qc23⟩ := isOf hZ e21 (E_EMPTY.ext O13.2)
    obtain ⟨v23, _, ⟨T23, L23, k23, n23⟩, -, X23, ⟨Lc23, hQ23, l23, y23, z23⟩, st23⟩ := X21.virtualBack hx (y := (⟨"java/util/Optional", "isPresent", "()Z"⟩ : MethodName)) (z := (⟨"java/util/Optional", "isPresent", "()Z"⟩ : MethodName)) hown (mvT hZ (hw _ (List.mem_of_getElem? (i := 78) rfl))) (mvT hZ (hw _ (List.mem_of_getElem? (i := 79) rfl))) (notFace_of_selects (args := #[]) (mvT hZ (hw _ (List.mem_of_getElem? (i := 81) rfl)))) (mvT hZ (hw _ (List.mem_of_getElem? (i := 81) rfl))) (mvT hZ (hw _ (List.mem_of_getElem? (i := 80) rfl))) (by decide) (backOf (W := 0) (rm14n l Z a0 hw [] em h5 n0 Z14 O13 F_EMPTY) hZ (hw _ (List.mem_of_getElem? (i := 82) rfl)) (hw _ (List.mem_of_getElem? (i := 75) rfl)) (by decide) (by decide)) qa23 qc23 (g := (mkF m 260 #[.val (.int p1), .val (.int p2), .val (.int (p1 &&& (3 : Int32))), .val (.int (p2 &&& (2147483647 : Int32))), .val (.int stv), .val (.ref b1), .val (.ref b5), .unset, .unset, .unset] [(.ref em)])) rfl (by rw [hml]; rfl) (Steps.refl _) (argsL := []) (rest := []) (lenOf pd___Z rfl) rfl (by show 2 * 0 + _ ≤ _; exact Nat.le_of_eq rfl) (hb hby at_260) (fun _ _ => ⟨rfl, e21, (by decide : 4 + 0 ≤ _), (by decide : 30 + 0 ≤ _)⟩)
    dsimp only [Pt.U, Pt.locs, Pt.cells, Pt.slots] at X23 l23 y23 z23 st23 hQ23
    subst l23 y23 z23
    obtain ⟨rfl, M24, e23⟩ := hQ23
    have N24 := Fr.app N22 M24
    refine own_to (S' := T23.setTop (mkF m 263 #[.val (.int p1), .val (.int p2), .val (.int (p1 &&& (3 : Int32))), .val (.int (p2 &&& (2147483647 : Int32))), .val (.int stv), .val (.ref b1), .val (.ref b5), .unset, .unset, .unset] [(.int (0 : Int32))])) st23 ?_
    refine own_go (S' := T23.setTop (mkF m 268 #[.val (.int p1), .val (.int p2), .val (.int (p1 &&& (3 : Int32))), .val (.int (p2 &&& (2147483647 : Int32))), .val (.int stv), .val (.ref b1), .val (.ref b5), .unset, .unset, .unset] [])) (fun tg kk => XS.ifYes X23.here hx rfl (pc0 := 263) (pc' := 268) rfl (hb hby at_263) rfl (XT.i0_eq_t (by decide)) (by decide) (by decide) kk) ?_
    refine own_go (S' := T23.setTop (mkF m 270 #[.val (.int p1), .val (.int p2), .val (.int (p1 &&& (3 : Int32))), .val (.int (p2 &&& (2147483647 : Int32))), .val (.int stv), .val (.ref b1), .val (.ref b5), .unset, .unset, .unset] [(.int stv)])) (fun tg kk => XS.iload X23.here hx rfl (hb hby at_268) rfl kk) ?_
    refine own_go (S' := T23.setTop (mkF m 273 #[.val (.int p1), .val (.int p2), .val (.int (p1 &&& (3 : Int32))), .val (.int (p2 &&& (2147483647 : Int32))), .val (.int stv), .val (.ref b1), .val (.ref b5), .unset, .unset, .unset] [(.int (200 : Int32)), (.int stv)])) (fun tg kk => XT.sipushV X23.here hx rfl (200 : Int32) (hb hby at_270) (by decide) kk) ?_
    by_cases cd25 : stv < (200 : Int32)
    · refine own_go (S' := T23.setTop (mkF m 288 #[.val (.int p1), .val (.int p2), .val (.int (p1 &&& (3 : Int32))), .val (.int (p2 &&& (2147483647 : Int32))), .val (.int stv), .val (.ref b1), .val (.ref b5), .unset, .unset, .unset] [])) (fun tg kk => XS.icmpYes X23.here hx rfl (pc0 := 273) (pc' := 288) rfl (hb hby at_273) rfl (XT.ii_lt_t cd25) (by decide) (by decide) kk) ?_
      refine own_go (S' := T23.setTop (mkF m 289 #[.val (.int p1), .val (.int p2), .val (.int (p1 &&& (3 : Int32))), .val (.int (p2 &&& (2147483647 : Int32))), .val (.int stv), .val (.ref b1), .val (.ref b5), .unset, .unset, .unset] [(.int (0 : Int32))])) (fun tg kk => XT.iconstV X23.here hx rfl (0 : Int32) (hb hby at_288) (by decide) kk) ?_
      refine own_go (S' := T23.setTop (mkF m 291 #[.val (.int p1), .val (.int p2), .val (.int (p1 &&& (3 : Int32))), .val (.int (p2 &&& (2147483647 : Int32))), .val (.int stv), .val (.ref b1), .val (.ref b5), .val (.int (0 : Int32)), .unset, .unset] [])) (fun tg kk => XS.istore X23.here hx rfl (hb hby at_289) rfl (l' := #[.val (.int p1), .val (.int p2), .val (.int (p1 &&& (3 : Int32))), .val (.int (p2 &&& (2147483647 : Int32))), .val (.int stv), .val (.ref b1), .val (.ref b5), .val (.int (0 : Int32)), .unset, .unset]) rfl kk) ?_
      refine own_go (S' := T23.setTop (mkF m 293 #[.val (.int p1), .val (.int p2), .val (.int (p1 &&& (3 : Int32))), .val (.int (p2 &&& (2147483647 : Int32))), .val (.int stv), .val (.ref b1), .val (.ref b5), .val (.int (0 : Int32)), .unset, .unset] [(.int stv)])) (fun tg kk => XS.iload X23.here hx rfl (hb hby at_291) rfl kk) ?_
      refine own_go (S' := T23.setTop (mkF m 296 #[.val (.int p1), .val (.int p2), .val (.int (p1 &&& (3 : Int32))), .val (.int (p2 &&& (2147483647 : Int32))), .val (.int stv), .val (.ref b1), .val (.ref b5), .val (.int (0 : Int32)), .unset, .unset] [(.int (202 : Int32)), (.int stv)])) (fun tg kk => XT.sipushV X23.here hx rfl (202 : Int32) (hb hby at_293) (by decide) kk) ?_
      refine own_go (S' := T23.setTop (mkF m 303 #[.val (.int p1), .val (.int p2), .val (.int (p1 &&& (3 : Int32))), .val (.int (p2 &&& (2147483647 : Int32))), .val (.int stv), .val (.ref b1), .val (.ref b5), .val (.int (0 : Int32)), .unset, .unset] [])) (fun tg kk => XS.icmpYes X23.here hx rfl (pc0 := 296) (pc' := 303) rfl (hb hby at_296) rfl (XT.ii_ne_t (by have q0 := cd25; have e0 : (200 : Int32).toInt = 200 := (by decide); have e1 : (202 : Int32).toInt = 202 := (by decide); simp only [Int32.lt_iff_toInt_lt, ← Int32.toInt_inj] at q0 ⊢; omega)) (by decide) (by decide) kk) ?_
      refine own_go (S' := T23.setTop (mkF m 304 #[.val (.int p1), .val (.int p2), .val (.int (p1 &&& (3 : Int32))), .val (.int (p2 &&& (2147483647 : Int32))), .val (.int stv), .val (.ref b1), .val (.ref b5), .val (.int (0 : Int32)), .unset, .unset] [(.int (0 : Int32))])) (fun tg kk => XT.iconstV X23.here hx rfl (0 : Int32) (hb hby at_303) (by decide) kk) ?_
      refine own_go (S' := T23.setTop (mkF m 306 #[.val (.int p1), .val (.int p2), .val (.int (p1 &&& (3 : Int32))), .val (.int (p2 &&& (2147483647 : Int32))), .val (.int stv), .val (.ref b1), .val (.ref b5), .val (.int (0 : Int32)), .val (.int (0 : Int32)), .unset] [])) (fun tg kk => XS.istore X23.here hx rfl (hb hby at_304) rfl (l' := #[.val (.int p1), .val (.int p2), .val (.int (p1 &&& (3 : Int32))), .val (.int (p2 &&& (2147483647 : Int32))), .val (.int stv), .val (.ref b1), .val (.ref b5), .val (.int (0 : Int32)), .val (.int (0 : Int32)), .unset]) rfl kk) ?_
      refine own_go (S' := T23.setTop (mkF m 308 #[.val (.int p1), .val (.int p2), .val (.int (p1 &&& (3 : Int32))), .val (.int (p2 &&& (2147483647 : Int32))), .val (.int stv), .val (.ref b1), .val (.ref b5), .val (.int (0 : Int32)), .val (.int (0 : Int32)), .unset] [(.int stv)])) (fun tg kk => XS.iload X23.here hx rfl (hb hby at_306) rfl kk) ?_
      refine own_go (S' := T23.setTop (mkF m 311 #[.val (.int p1), .val (.int p2), .val (.int (p1 &&& (3 : Int32))), .val (.int (p2 &&& (2147483647 : Int32))), .val (.int stv), .val (.ref b1), .val (.ref b5), .val (.int (0 : Int32)), .val (.int (0 : Int32)), .unset] [(.int (400 : Int32)), (.int stv)])) (fun tg kk => XT.sipushV X23.here hx rfl (400 : Int32) (hb hby at_308) (by decide) kk) ?_
      refine own_go (S' := T23.setTop (mkF m 338 #[.val (.int p1), .val (.int p2), .val (.int (p1 &&& (3 : Int32))), .val (.int (p2 &&& (2147483647 : Int32))), .val (.int stv), .val (.ref b1), .val (.ref b5), .val (.int (0 : Int32)), .val (.int (0 : Int32)), .unset] [])) (fun tg kk => XS.icmpYes X23.here hx rfl (pc0 := 311) (pc' := 338) rfl (hb hby at_311) rfl (XT.ii_lt_t (by have q0 := cd25; have e0 : (200 : Int32).toInt = 200 := (by decide); have e1 : (400 : Int32).toInt = 400 := (by decide); simp only [Int32.lt_iff_toInt_lt, ← Int32.toInt_inj] at q0 ⊢; omega)) (by decide) (by decide) kk) ?_
      refine own_go (S' := T23.setTop (mkF m 339 #[.val (.int p1), .val (.int p2), .val (.int (p1 &&& (3 : Int32))), .val (.int (p2 &&& (2147483647 : Int32))), .val (.int stv), .val (.ref b1), .val (.ref b5), .val (.int (0 : Int32)), .val (.int (0 : Int32)), .unset] [(.int (1 : Int32))])) (fun tg kk => XT.iconstV X23.here hx rfl (1 : Int32) (hb hby at_338) (by decide) kk) ?_
      refine own_go (S' := T23.setTop (mkF m 343 #[.val (.int p1), .val (.int p2), .val (.int (p1 &&& (3 : Int32))), .val (.int (p2 &&& (2147483647 : Int32))), .val (.int stv), .val (.ref b1), .val (.ref b5), .val (.int (0 : Int32)), .val (.int (0 : Int32)), .unset] [(.int (1 : Int32))])) (fun tg kk => XS.goto X23.here hx rfl (pc0 := 339) (pc' := 343) rfl (hb hby at_339) (by decide) (by decide) kk) ?_
      refine own_go (S' := T23.setTop (mkF m 345 #[.val (.int p1), .val (.int p2), .val (.int (p1 &&& (3 : Int32))), .val (.int (p2 &&& (2147483647 : Int32))), .val (.int stv), .val (.ref b1), .val (.ref b5), .val (.int (0 : Int32)), .val (.int (0 : Int32)), .val (.int (1 : Int32))] [])) (fun tg kk => XS.istore X23.here hx rfl (hb hby at_343) rfl (l' := #[.val (.int p1), .val (.int p2), .val (.int (p1 &&& (3 : Int32))), .val (.int (p2 &&& (2147483647 : Int32))), .val (.int stv), .val (.ref b1), .val (.ref b5), .val (.int (0 : Int32)), .val (.int (0 : Int32)), .val (.int (1 : Int32))]) rfl kk) ?_
      refine own_go (S' := T23.setTop (mkF m 347 #[.val (.int p1), .val (.int p2), .val (.int (p1 &&& (3 : Int32))), .val (.int (p2 &&& (2147483647 : Int32))), .val (.int stv), .val (.ref b1), .val (.ref b5), .val (.int (0 : Int32)), .val (.int (0 : Int32)), .val (.int (1 : Int32))] [(.ref b1)])) (fun tg kk => XS.aload X23.here hx rfl (hb hby at_345) rfl rfl kk) ?_
      obtain ⟨cq26, kq26, qa26, qb26, qc26⟩ := isOf hZ e23 E11
      obtain ⟨v26, _, ⟨T26, L26, k26, n26⟩, -, X26, ⟨Lc26, hQ26, l26, y26, z26⟩, st26⟩ := X23.virtualBack hx (y := (⟨"com/example/periodic_jobs/periodicjobs/engine/DeliveryResult", "isSuccess", "()Z"⟩ : MethodName)) (z := (⟨"com/example/periodic_jobs/periodicjobs/engine/DeliveryResult", "isSuccess", "()Z"⟩ : MethodName)) hown (mvT hZ (hw _ (List.mem_of_getElem? (i := 85) rfl))) (mvT hZ (hw _ (List.mem_of_getElem? (i := 86) rfl))) (notFace_of_selects (args := #[]) (mvT hZ (hw _ (List.mem_of_getElem? (i := 88) rfl)))) (mvT hZ (hw _ (List.mem_of_getElem? (i := 88) rfl))) (mvT hZ (hw _ (List.mem_of_getElem? (i := 87) rfl))) (by decide) (backOf (W := 0) (rm15 l Z a0 hw [] b1 bx1 stv h5 n0 Z14 F8 F7 E12 F10) hZ (hw _ (List.mem_of_getElem? (i := 89) rfl)) (hw _ (List.mem_of_getElem? (i := 3) rfl)) (by decide) (by decide)) qa26 qc26 (g := (mkF m 347 #[.val (.int p1), .val (.int p2), .val (.int (p1 &&& (3 : Int32))), .val (.int (p2 &&& (2147483647 : Int32))), .val (.int stv), .val (.ref b1), .val (.ref b5), .val (.int (0 : Int32)), .val (.int (0 : Int32)), .val (.int (1 : Int32))] [(.ref b1)])) rfl (by rw [hml]; rfl) (Steps.refl _) (argsL := []) (rest := []) (lenOf pd___Z rfl) rfl (by show 2 * 0 + _ ≤ _; exact Nat.le_of_eq rfl) (hb hby at_347) (fun _ _ => ⟨rfl, e23, (by decide : 4 + 0 ≤ _), (by decide : 30 + 0 ≤ _)⟩)
      dsimp only [Pt.U, Pt.locs, Pt.cells, Pt.slots] at X26 l26 y26 z26 st26 hQ26
      subst l26 y26 z26
      obtain ⟨hv26, M27, e26⟩ := hQ26
      obtain rfl : v26 = some (.int (0 : Int32)) := by rw [hv26]; rw [own_succ_eq, if_pos cd25]
      have N27 := Fr.app N24 M27
      refine own_to (S' := T26.setTop (mkF m 350 #[.val (.int p1), .val (.int p2), .val (.int (p1 &&& (3 : Int32))), .val (.int (p2 &&& (2147483647 : Int32))), .val (.int stv), .val (.ref b1), .val (.ref b5), .val (.int (0 : Int32)), .val (.int (0 : Int32)), .val (.int (1 : Int32))] [(.int (0 : Int32))])) st26 ?_
      refine own_go (S' := T26.setTop (mkF m 352 #[.val (.int p1), .val (.int p2), .val (.int (p1 &&& (3 : Int32))), .val (.int (p2 &&& (2147483647 : Int32))), .val (.int stv), .val (.ref b1), .val (.ref b5), .val (.int (0 : Int32)), .val (.int (0 : Int32)), .val (.int (1 : Int32))] [(.int (0 : Int32)), (.int (0 : Int32))])) (fun tg kk => XS.iload X26.here hx rfl (hb hby at_350) rfl kk) ?_
      refine own_go (S' := T26.setTop (mkF m 355 #[.val (.int p1), .val (.int p2), .val (.int (p1 &&& (3 : Int32))), .val (.int (p2 &&& (2147483647 : Int32))), .val (.int stv), .val (.ref b1), .val (.ref b5), .val (.int (0 : Int32)), .val (.int (0 : Int32)), .val (.int (1 : Int32))] [])) (fun tg kk => XS.icmpNo X26.here hx rfl (hb hby at_352) rfl (XT.ii_ne_f (by decide)) kk) ?_
      refine own_go (S' := T26.setTop (mkF m 357 #[.val (.int p1), .val (.int p2), .val (.int (p1 &&& (3 : Int32))), .val (.int (p2 &&& (2147483647 : Int32))), .val (.int stv), .val (.ref b1), .val (.ref b5), .val (.int (0 : Int32)), .val (.int (0 : Int32)), .val (.int (1 : Int32))] [(.ref b1)])) (fun tg kk => XS.aload X26.here hx rfl (hb hby at_355) rfl rfl kk) ?_
      obtain ⟨cq28, kq28, qa28, qb28, qc28⟩ := isOf hZ e26 E11
      obtain ⟨v28, _, ⟨T28, L28, k28, n28⟩, -, X28, ⟨Lc28, hQ28, l28, y28, z28⟩, st28⟩ := X26.virtualBack hx (y := (⟨"com/example/periodic_jobs/periodicjobs/engine/DeliveryResult", "isAccepted", "()Z"⟩ : MethodName)) (z := (⟨"com/example/periodic_jobs/periodicjobs/engine/DeliveryResult", "isAccepted", "()Z"⟩ : MethodName)) hown (mvT hZ (hw _ (List.mem_of_getElem? (i := 90) rfl))) (mvT hZ (hw _ (List.mem_of_getElem? (i := 91) rfl))) (notFace_of_selects (args := #[]) (mvT hZ (hw _ (List.mem_of_getElem? (i := 93) rfl)))) (mvT hZ (hw _ (List.mem_of_getElem? (i := 93) rfl))) (mvT hZ (hw _ (List.mem_of_getElem? (i := 92) rfl))) (by decide) (backOf (W := 0) (rm16 l Z a0 hw [] b1 bx1 stv h5 n0 Z14 F7 E12 F10) hZ (hw _ (List.mem_of_getElem? (i := 94) rfl)) (hw _ (List.mem_of_getElem? (i := 3) rfl)) (by decide) (by decide)) qa28 qc28 (g := (mkF m 357 #[.val (.int p1), .val (.int p2), .val (.int (p1 &&& (3 : Int32))), .val (.int (p2 &&& (2147483647 : Int32))), .val (.int stv), .val (.ref b1), .val (.ref b5), .val (.int (0 : Int32)), .val (.int (0 : Int32)), .val (.int (1 : Int32))] [(.ref b1)])) rfl (by rw [hml]; rfl) (Steps.refl _) (argsL := []) (rest := []) (lenOf pd___Z rfl) rfl (by show 2 * 0 + _ ≤ _; exact Nat.le_of_eq rfl) (hb hby at_357) (fun _ _ => ⟨rfl, e26, (by decide : 4 + 0 ≤ _), (by decide : 30 + 0 ≤ _)⟩)
      dsimp only [Pt.U, Pt.locs, Pt.cells, Pt.slots] at X28 l28 y28 z28 st28 hQ28
      subst l28 y28 z28
      obtain ⟨hv28, M29, e28⟩ := hQ28
      obtain rfl : v28 = some (.int (0 : Int32)) := by rw [hv28]; rw [own_acc, if_neg (by have q0 := cd25; have e0 : (200 : Int32).toInt = 200 := (by decide); have e1 : (202 : Int32).toInt = 202 := (by decide); simp only [Int32.lt_iff_toInt_lt, ← Int32.toInt_inj] at q0 ⊢; omega)]
      have N29 := Fr.app N27 M29
      refine own_to (S' := T28.setTop (mkF m 360 #[.val (.int p1), .val (.int p2), .val (.int (p1 &&& (3 : Int32))), .val (.int (p2 &&& (2147483647 : Int32))), .val (.int stv), .val (.ref b1), .val (.ref b5), .val (.int (0 : Int32)), .val (.int (0 : Int32)), .val (.int (1 : Int32))] [(.int (0 : Int32))])) st28 ?_
      refine own_go (S' := T28.setTop (mkF m 362 #[.val (.int p1), .val (.int p2), .val (.int (p1 &&& (3 : Int32))), .val (.int (p2 &&& (2147483647 : Int32))), .val (.int stv), .val (.ref b1), .val (.ref b5), .val (.int (0 : Int32)), .val (.int (0 : Int32)), .val (.int (1 : Int32))] [(.int (0 : Int32)), (.int (0 : Int32))])) (fun tg kk => XS.iload X28.here hx rfl (hb hby at_360) rfl kk) ?_
      refine own_go (S' := T28.setTop (mkF m 365 #[.val (.int p1), .val (.int p2), .val (.int (p1 &&& (3 : Int32))), .val (.int (p2 &&& (2147483647 : Int32))), .val (.int stv), .val (.ref b1), .val (.ref b5), .val (.int (0 : Int32)), .val (.int (0 : Int32)), .val (.int (1 : Int32))] [])) (fun tg kk => XS.icmpNo X28.here hx rfl (hb hby at_362) rfl (XT.ii_ne_f (by decide)) kk) ?_
      refine own_go (S' := T28.setTop (mkF m 367 #[.val (.int p1), .val (.int p2), .val (.int (p1 &&& (3 : Int32))), .val (.int (p2 &&& (2147483647 : Int32))), .val (.int stv), .val (.ref b1), .val (.ref b5), .val (.int (0 : Int32)), .val (.int (0 : Int32)), .val (.int (1 : Int32))] [(.ref b1)])) (fun tg kk => XS.aload X28.here hx rfl (hb hby at_365) rfl rfl kk) ?_
      obtain ⟨cq30, kq30, qa30, qb30, qc30⟩ := isOf hZ e28 E11
      obtain ⟨v30, _, ⟨T30, L30, k30, n30⟩, -, X30, ⟨Lc30, hQ30, l30, y30, z30⟩, st30⟩ := X28.virtualBack hx (y := (⟨"com/example/periodic_jobs/periodicjobs/engine/DeliveryResult", "isWorthRetrying", "()Z"⟩ : MethodName)) (z := (⟨"com/example/periodic_jobs/periodicjobs/engine/DeliveryResult", "isWorthRetrying", "()Z"⟩ : MethodName)) hown (mvT hZ (hw _ (List.mem_of_getElem? (i := 95) rfl))) (mvT hZ (hw _ (List.mem_of_getElem? (i := 96) rfl))) (notFace_of_selects (args := #[]) (mvT hZ (hw _ (List.mem_of_getElem? (i := 98) rfl)))) (mvT hZ (hw _ (List.mem_of_getElem? (i := 98) rfl))) (mvT hZ (hw _ (List.mem_of_getElem? (i := 97) rfl))) (by decide) (backOf (W := 0) (rm17 l Z a0 hw [] b1 bx1 stv h5 n0 Z14 F7 E12 F10) hZ (hw _ (List.mem_of_getElem? (i := 99) rfl)) (hw _ (List.mem_of_getElem? (i := 3) rfl)) (by decide) (by decide)) qa30 qc30 (g := (mkF m 367 #[.val (.int p1), .val (.int p2), .val (.int (p1 &&& (3 : Int32))), .val (.int (p2 &&& (2147483647 : Int32))), .val (.int stv), .val (.ref b1), .val (.ref b5), .val (.int (0 : Int32)), .val (.int (0 : Int32)), .val (.int (1 : Int32))] [(.ref b1)])) rfl (by rw [hml]; rfl) (Steps.refl _) (argsL := []) (rest := []) (lenOf pd___Z rfl) rfl (by show 2 * 0 + _ ≤ _; exact Nat.le_of_eq rfl) (hb hby at_367) (fun _ _ => ⟨rfl, e28, (by decide : 4 + 0 ≤ _), (by decide : 30 + 0 ≤ _)⟩)
      dsimp only [Pt.U, Pt.locs, Pt.cells, Pt.slots] at X30 l30 y30 z30 st30 hQ30
      subst l30 y30 z30
      obtain ⟨hv30, M31, e30⟩ := hQ30
      obtain rfl : v30 = some (.int (1 : Int32)) := by rw [hv30]; rw [own_retry_eq, if_pos (by have q0 := cd25; have e0 : (200 : Int32).toInt = 200 := (by decide); have e1 : (400 : Int32).toInt = 400 := (by decide); simp only [Int32.lt_iff_toInt_lt, ← Int32.toInt_inj] at q0 ⊢; omega)]
      have N31 := Fr.app N29 M31
      refine own_to (S' := T30.setTop (mkF m 370 #[.val (.int p1), .val (.int p2), .val (.int (p1 &&& (3 : Int32))), .val (.int (p2 &&& (2147483647 : Int32))), .val (.int stv), .val (.ref b1), .val (.ref b5), .val (.int (0 : Int32)), .val (.int (0 : Int32)), .val (.int (1 : Int32))] [(.int (1 : Int32))])) st30 ?_
      refine own_go (S' := T30.setTop (mkF m 372 #[.val (.int p1), .val (.int p2), .val (.int (p1 &&& (3 : Int32))), .val (.int (p2 &&& (2147483647 : Int32))), .val (.int stv), .val (.ref b1), .val (.ref b5), .val (.int (0 : Int32)), .val (.int (0 : Int32)), .val (.int (1 : Int32))] [(.int (1 : Int32)), (.int (1 : Int32))])) (fun tg kk => XS.iload X30.here hx rfl (hb hby at_370) rfl kk) ?_
      refine own_go (S' := T30.setTop (mkF m 375 #[.val (.int p1), .val (.int p2), .val (.int (p1 &&& (3 : Int32))), .val (.int (p2 &&& (2147483647 : Int32))), .val (.int stv), .val (.ref b1), .val (.ref b5), .val (.int (0 : Int32)), .val (.int (0 : Int32)), .val (.int (1 : Int32))] [])) (fun tg kk => XS.icmpNo X30.here hx rfl (hb hby at_372) rfl (XT.ii_ne_f (by decide)) kk) ?_
      refine own_go (S' := T30.setTop (mkF m 376 #[.val (.int p1), .val (.int p2), .val (.int (p1 &&& (3 : Int32))), .val (.int (p2 &&& (2147483647 : Int32))), .val (.int stv), .val (.ref b1), .val (.ref b5), .val (.int (0 : Int32)), .val (.int (0 : Int32)), .val (.int (1 : Int32))] [(.int (1 : Int32))])) (fun tg kk => XT.iconstV X30.here hx rfl (1 : Int32) (hb hby at_375) (by decide) kk) ?_
      refine own_go (S' := T30.setTop (mkF m 380 #[.val (.int p1), .val (.int p2), .val (.int (p1 &&& (3 : Int32))), .val (.int (p2 &&& (2147483647 : Int32))), .val (.int stv), .val (.ref b1), .val (.ref b5), .val (.int (0 : Int32)), .val (.int (0 : Int32)), .val (.int (1 : Int32))] [(.int (1 : Int32))])) (fun tg kk => XS.goto X30.here hx rfl (pc0 := 376) (pc' := 380) rfl (hb hby at_376) (by decide) (by decide) kk) ?_
      obtain ⟨fs, hr, hrun, hended, hW, hsame⟩ := X30.leave (v := some (.int (1 : Int32))) (fun h => by rw [Bd.returns] at h; cases h)
      refine ⟨_, _, retN X30 hx (t := .boolean) Bd.returns (by simp) (hb hby at_380) hr, hrun, hended, _, _, rfl, ?_, ⟨_, rfl⟩, hW, hsame.mono (by decide) (by decide)⟩
      show Q0 Z p1 p2 ca clc em h0 n0 (some (.int (1 : Int32))) T30.heap _
      rw [e30]
      exact ⟨rfl, N31⟩
    · refine own_go (S' := T23.setTop (mkF m 276 #[.val (.int p1), .val (.int p2), .val (.int (p1 &&& (3 : Int32))), .val (.int (p2 &&& (2147483647 : Int32))), .val (.int stv), .val (.ref b1), .val (.ref b5), .unset, .unset, .unset] [])) (fun tg kk => XS.icmpNo X23.here hx rfl (hb hby at_273) rfl (XT.ii_lt_f cd25) kk) ?_
      refine own_go (S' := T23.setTop (mkF m 278 #[.val (.int p1), .val (.int p2), .val (.int (p1 &&& (3 : Int32))), .val (.int (p2 &&& (2147483647 : Int32))), .val (.int stv), .val (.ref b1), .val (.ref b5), .unset, .unset, .unset] [(.int stv)])) (fun tg kk => XS.iload X23.here hx rfl (hb hby at_276) rfl kk) ?_
      refine own_go (S' := T23.setTop (mkF m 281 #[.val (.int p1), .val (.int p2), .val (.int (p1 &&& (3 : Int32))), .val (.int (p2 &&& (2147483647 : Int32))), .val (.int stv), .val (.ref b1), .val (.ref b5), .unset, .unset, .unset] [(.int (299 : Int32)), (.int stv)])) (fun tg kk => XT.sipushV X23.here hx rfl (299 : Int32) (hb hby at_278) (by decide) kk) ?_
      by_cases cd32 : (299 : Int32) < stv
      · refine own_go (S' := T23.setTop (mkF m 288 #[.val (.int p1), .val (.int p2), .val (.int (p1 &&& (3 : Int32))), .val (.int (p2 &&& (2147483647 : Int32))), .val (.int stv), .val (.ref b1), .val (.ref b5), .unset, .unset, .unset] [])) (fun tg kk => XS.icmpYes X23.here hx rfl (pc0 := 281) (pc' := 288) rfl (hb hby at_281) rfl (XT.ii_gt_t cd32) (by decide) (by decide) kk) ?_
        refine own_go (S' := T23.setTop (mkF m 289 #[.val (.int p1), .val (.int p2), .val (.int (p1 &&& (3 : Int32))), .val (.int (p2 &&& (2147483647 : Int32))), .val (.int stv), .val (.ref b1), .val (.ref b5), .unset, .unset, .unset] [(.int (0 : Int32))])) (fun tg kk => XT.iconstV X23.here hx rfl (0 : Int32) (hb hby at_288) (by decide) kk) ?_
        refine own_go (S' := T23.setTop (mkF m 291 #[.val (.int p1), .val (.int p2), .val (.int (p1 &&& (3 : Int32))), .val (.int (p2 &&& (2147483647 : Int32))), .val (.int stv), .val (.ref b1), .val (.ref b5), .val (.int (0 : Int32)), .unset, .unset] [])) (fun tg kk => XS.istore X23.here hx rfl (hb hby at_289) rfl (l' := #[.val (.int p1), .val (.int p2), .val (.int (p1 &&& (3 : Int32))), .val (.int (p2 &&& (2147483647 : Int32))), .val (.int stv), .val (.ref b1), .val (.ref b5), .val (.int (0 : Int32)), .unset, .unset]) rfl kk) ?_
        refine own_go (S' := T23.setTop (mkF m 293 #[.val (.int p1), .val (.int p2), .val (.int (p1 &&& (3 : Int32))), .val (.int (p2 &&& (2147483647 : Int32))), .val (.int stv), .val (.ref b1), .val (.ref b5), .val (.int (0 : Int32)), .unset, .unset] [(.int stv)])) (fun tg kk => XS.iload X23.here hx rfl (hb hby at_291) rfl kk) ?_
        refine own_go (S' := T23.setTop (mkF m 296 #[.val (.int p1), .val (.int p2), .val (.int (p1 &&& (3 : Int32))), .val (.int (p2 &&& (2147483647 : Int32))), .val (.int stv), .val (.ref b1), .val (.ref b5), .val (.int (0 : Int32)), .unset, .unset] [(.int (202 : Int32)), (.int stv)])) (fun tg kk => XT.sipushV X23.here hx rfl (202 : Int32) (hb hby at_293) (by decide) kk) ?_
        refine own_go (S' := T23.setTop (mkF m 303 #[.val (.int p1), .val (.int p2), .val (.int (p1 &&& (3 : Int32))), .val (.int (p2 &&& (2147483647 : Int32))), .val (.int stv), .val (.ref b1), .val (.ref b5), .val (.int (0 : Int32)), .unset, .unset] [])) (fun tg kk => XS.icmpYes X23.here hx rfl (pc0 := 296) (pc' := 303) rfl (hb hby at_296) rfl (XT.ii_ne_t (by have q0 := cd25; have q1 := cd32; have e0 : (200 : Int32).toInt = 200 := (by decide); have e1 : (202 : Int32).toInt = 202 := (by decide); have e2 : (299 : Int32).toInt = 299 := (by decide); simp only [Int32.lt_iff_toInt_lt, ← Int32.toInt_inj] at q0 q1 ⊢; omega)) (by decide) (by decide) kk) ?_
        refine own_go (S' := T23.setTop (mkF m 304 #[.val (.int p1), .val (.int p2), .val (.int (p1 &&& (3 : Int32))), .val (.int (p2 &&& (2147483647 : Int32))), .val (.int stv), .val (.ref b1), .val (.ref b5), .val (.int (0 : Int32)), .unset, .unset] [(.int (0 : Int32))])) (fun tg kk => XT.iconstV X23.here hx rfl (0 : Int32) (hb hby at_303) (by decide) kk) ?_
        refine own_go (S' := T23.setTop (mkF m 306 #[.val (.int p1), .val (.int p2), .val (.int (p1 &&& (3 : Int32))), .val (.int (p2 &&& (2147483647 : Int32))), .val (.int stv), .val (.ref b1), .val (.ref b5), .val (.int (0 : Int32)), .val (.int (0 : Int32)), .unset] [])) (fun tg kk => XS.istore X23.here hx rfl (hb hby at_304) rfl (l' := #[.val (.int p1), .val (.int p2), .val (.int (p1 &&& (3 : Int32))), .val (.int (p2 &&& (2147483647 : Int32))), .val (.int stv), .val (.ref b1), .val (.ref b5), .val (.int (0 : Int32)), .val (.int (0 : Int32)), .unset]) rfl kk) ?_
        refine own_go (S' := T23.setTop (mkF m 308 #[.val (.int p1), .val (.int p2), .val (.int (p1 &&& (3 : Int32))), .val (.int (p2 &&& (2147483647 : Int32))), .val (.int stv), .val (.ref b1), .val (.ref b5), .val (.int (0 : Int32)), .val (.int (0 : Int32)), .unset] [(.int stv)])) (fun tg kk => XS.iload X23.here hx rfl (hb hby at_306) rfl kk) ?_
        refine own_go (S' := T23.setTop (mkF m 311 #[.val (.int p1), .val (.int p2), .val (.int (p1 &&& (3 : Int32))), .val (.int (p2 &&& (2147483647 : Int32))), .val (.int stv), .val (.ref b1), .val (.ref b5), .val (.int (0 : Int32)), .val (.int (0 : Int32)), .unset] [(.int (400 : Int32)), (.int stv)])) (fun tg kk => XT.sipushV X23.here hx rfl (400 : Int32) (hb hby at_308) (by decide) kk) ?_
        by_cases cd33 : stv < (400 : Int32)
        · refine own_go (S' := T23.setTop (mkF m 338 #[.val (.int p1), .val (.int p2), .val (.int (p1 &&& (3 : Int32))), .val (.int (p2 &&& (2147483647 : Int32))), .val (.int stv), .val (.ref b1), .val (.ref b5), .val (.int (0 : Int32)), .val (.int (0 : Int32)), .unset] [])) (fun tg kk => XS.icmpYes X23.here hx rfl (pc0 := 311) (pc' := 338) rfl (hb hby at_311) rfl (XT.ii_lt_t cd33) (by decide) (by decide) kk) ?_
          refine own_go (S' := T23.setTop (mkF m 339 #[.val (.int p1), .val (.int p2), .val (.int (p1 &&& (3 : Int32))), .val (.int (p2 &&& (2147483647 : Int32))), .val (.int stv), .val (.ref b1), .val (.ref b5), .val (.int (0 : Int32)), .val (.int (0 : Int32)), .unset] [(.int (1 : Int32))])) (fun tg kk => XT.iconstV X23.here hx rfl (1 : Int32) (hb hby at_338) (by decide) kk) ?_
          refine own_go (S' := T23.setTop (mkF m 343 #[.val (.int p1), .val (.int p2), .val (.int (p1 &&& (3 : Int32))), .val (.int (p2 &&& (2147483647 : Int32))), .val (.int stv), .val (.ref b1), .val (.ref b5), .val (.int (0 : Int32)), .val (.int (0 : Int32)), .unset] [(.int (1 : Int32))])) (fun tg kk => XS.goto X23.here hx rfl (pc0 := 339) (pc' := 343) rfl (hb hby at_339) (by decide) (by decide) kk) ?_
          refine own_go (S' := T23.setTop (mkF m 345 #[.val (.int p1), .val (.int p2), .val (.int (p1 &&& (3 : Int32))), .val (.int (p2 &&& (2147483647 : Int32))), .val (.int stv), .val (.ref b1), .val (.ref b5), .val (.int (0 : Int32)), .val (.int (0 : Int32)), .val (.int (1 : Int32))] [])) (fun tg kk => XS.istore X23.here hx rfl (hb hby at_343) rfl (l' := #[.val (.int p1), .val (.int p2), .val (.int (p1 &&& (3 : Int32))), .val (.int (p2 &&& (2147483647 : Int32))), .val (.int stv), .val (.ref b1), .val (.ref b5), .val (.int (0 : Int32)), .val (.int (0 : Int32)), .val (.int (1 : Int32))]) rfl kk) ?_
          refine own_go (S' := T23.setTop (mkF m 347 #[.val (.int p1), .val (.int p2), .val (.int (p1 &&& (3 : Int32))), .val (.int (p2 &&& (2147483647 : Int32))), .val (.int stv), .val (.ref b1), .val (.ref b5), .val (.int (0 : Int32)), .val (.int (0 : Int32)), .val (.int (1 : Int32))] [(.ref b1)])) (fun tg kk => XS.aload X23.here hx rfl (hb hby at_345) rfl rfl kk) ?_
          obtain ⟨cq34, kq34, qa34, qb34, qc34⟩ := isOf hZ e23 E11
          obtain ⟨v34, _, ⟨T34, L34, k34, n34⟩, -, X34, ⟨Lc34, hQ34, l34, y34, z34⟩, st34⟩ := X23.virtualBack hx (y := (⟨"com/example/periodic_jobs/periodicjobs/engine/DeliveryResult", "isSuccess", "()Z"⟩ : MethodName)) (z := (⟨"com/example/periodic_jobs/periodicjobs/engine/DeliveryResult", "isSuccess", "()Z"⟩ : MethodName)) hown (mvT hZ (hw _ (List.mem_of_getElem? (i := 85) rfl))) (mvT hZ (hw _ (List.mem_of_getElem? (i := 86) rfl))) (notFace_of_selects (args := #[]) (mvT hZ (hw _ (List.mem_of_getElem? (i := 88) rfl)))) (mvT hZ (hw _ (List.mem_of_getElem? (i := 88) rfl))) (mvT hZ (hw _ (List.mem_of_getElem? (i := 87) rfl))) (by decide) (backOf (W := 0) (rm15 l Z a0 hw [] b1 bx1 stv h5 n0 Z14 F8 F7 E12 F10) hZ (hw _ (List.mem_of_getElem? (i := 89) rfl)) (hw _ (List.mem_of_getElem? (i := 3) rfl)) (by decide) (by decide)) qa34 qc34 (g := (mkF m 347 #[.val (.int p1), .val (.int p2), .val (.int (p1 &&& (3 : Int32))), .val (.int (p2 &&& (2147483647 : Int32))), .val (.int stv), .val (.ref b1), .val (.ref b5), .val (.int (0 : Int32)), .val (.int (0 : Int32)), .val (.int (1 : Int32))] [(.ref b1)])) rfl (by rw [hml]; rfl) (Steps.refl _) (argsL := []) (rest := []) (lenOf pd___Z rfl) rfl (by show 2 * 0 + _ ≤ _; exact Nat.le_of_eq rfl) (hb hby at_347) (fun _ _ => ⟨rfl, e23, (by decide : 4 + 0 ≤ _), (by decide : 30 + 0 ≤ _)⟩)
          dsimp only [Pt.U, Pt.locs, Pt.cells, Pt.slots] at X34 l34 y34 z34 st34 hQ34
          subst l34 y34 z34
          obtain ⟨hv34, M35, e34⟩ := hQ34
          obtain rfl : v34 = some (.int (0 : Int32)) := by rw [hv34]; rw [own_succ_eq, if_neg cd25, if_pos cd32]
          have N35 := Fr.app N24 M35
          refine own_to (S' := T34.setTop (mkF m 350 #[.val (.int p1), .val (.int p2), .val (.int (p1 &&& (3 : Int32))), .val (.int (p2 &&& (2147483647 : Int32))), .val (.int stv), .val (.ref b1), .val (.ref b5), .val (.int (0 : Int32)), .val (.int (0 : Int32)), .val (.int (1 : Int32))] [(.int (0 : Int32))])) st34 ?_
          refine own_go (S' := T34.setTop (mkF m 352 #[.val (.int p1), .val (.int p2), .val (.int (p1 &&& (3 : Int32))), .val (.int (p2 &&& (2147483647 : Int32))), .val (.int stv), .val (.ref b1), .val (.ref b5), .val (.int (0 : Int32)), .val (.int (0 : Int32)), .val (.int (1 : Int32))] [(.int (0 : Int32)), (.int (0 : Int32))])) (fun tg kk => XS.iload X34.here hx rfl (hb hby at_350) rfl kk) ?_
          refine own_go (S' := T34.setTop (mkF m 355 #[.val (.int p1), .val (.int p2), .val (.int (p1 &&& (3 : Int32))), .val (.int (p2 &&& (2147483647 : Int32))), .val (.int stv), .val (.ref b1), .val (.ref b5), .val (.int (0 : Int32)), .val (.int (0 : Int32)), .val (.int (1 : Int32))] [])) (fun tg kk => XS.icmpNo X34.here hx rfl (hb hby at_352) rfl (XT.ii_ne_f (by decide)) kk) ?_
          refine own_go (S' := T34.setTop (mkF m 357 #[.val (.int p1), .val (.int p2), .val (.int (p1 &&& (3 : Int32))), .val (.int (p2 &&& (2147483647 : Int32))), .val (.int stv), .val (.ref b1), .val (.ref b5), .val (.int (0 : Int32)), .val (.int (0 : Int32)), .val (.int (1 : Int32))] [(.ref b1)])) (fun tg kk => XS.aload X34.here hx rfl (hb hby at_355) rfl rfl kk) ?_
          obtain ⟨cq36, kq36, qa36, qb36, qc36⟩ := isOf hZ e34 E11
          obtain ⟨v36, _, ⟨T36, L36, k36, n36⟩, -, X36, ⟨Lc36, hQ36, l36, y36, z36⟩, st36⟩ := X34.virtualBack hx (y := (⟨"com/example/periodic_jobs/periodicjobs/engine/DeliveryResult", "isAccepted", "()Z"⟩ : MethodName)) (z := (⟨"com/example/periodic_jobs/periodicjobs/engine/DeliveryResult", "isAccepted", "()Z"⟩ : MethodName)) hown (mvT hZ (hw _ (List.mem_of_getElem? (i := 90) rfl))) (mvT hZ (hw _ (List.mem_of_getElem? (i := 91) rfl))) (notFace_of_selects (args := #[]) (mvT hZ (hw _ (List.mem_of_getElem? (i := 93) rfl)))) (mvT hZ (hw _ (List.mem_of_getElem? (i := 93) rfl))) (mvT hZ (hw _ (List.mem_of_getElem? (i := 92) rfl))) (by decide) (backOf (W := 0) (rm16 l Z a0 hw [] b1 bx1 stv h5 n0 Z14 F7 E12 F10) hZ (hw _ (List.mem_of_getElem? (i := 94) rfl)) (hw _ (List.mem_of_getElem? (i := 3) rfl)) (by decide) (by decide)) qa36 qc36 (g := (mkF m 357 #[.val (.int p1), .val (.int p2), .val (.int (p1 &&& (3 : Int32))), .val (.int (p2 &&& (2147483647 : Int32))), .val (.int stv), .val (.ref b1), .val (.ref b5), .val (.int (0 : Int32)), .val (.int (0 : Int32)), .val (.int (1 : Int32))] [(.ref b1)])) rfl (by rw [hml]; rfl) (Steps.refl _) (argsL := []) (rest := []) (lenOf pd___Z rfl) rfl (by show 2 * 0 + _ ≤ _; exact Nat.le_of_eq rfl) (hb hby at_357) (fun _ _ => ⟨rfl, e34, (by decide : 4 + 0 ≤ _), (by decide : 30 + 0 ≤ _)⟩)
          dsimp only [Pt.U, Pt.locs, Pt.cells, Pt.slots] at X36 l36 y36 z36 st36 hQ36
          subst l36 y36 z36
          obtain ⟨hv36, M37, e36⟩ := hQ36
          obtain rfl : v36 = some (.int (0 : Int32)) := by rw [hv36]; rw [own_acc, if_neg (by have q0 := cd25; have q1 := cd32; have q2 := cd33; have e0 : (200 : Int32).toInt = 200 := (by decide); have e1 : (202 : Int32).toInt = 202 := (by decide); have e2 : (299 : Int32).toInt = 299 := (by decide); have e3 : (400 : Int32).toInt = 400 := (by decide); simp only [Int32.lt_iff_toInt_lt, ← Int32.toInt_inj] at q0 q1 q2 ⊢; omega)]
          have N37 := Fr.app N35 M37
          refine own_to (S' := T36.setTop (mkF m 360 #[.val (.int p1), .val (.int p2), .val (.int (p1 &&& (3 : Int32))), .val (.int (p2 &&& (2147483647 : Int32))), .val (.int stv), .val (.ref b1), .val (.ref b5), .val (.int (0 : Int32)), .val (.int (0 : Int32)), .val (.int (1 : Int32))] [(.int (0 : Int32))])) st36 ?_
          refine own_go (S' := T36.setTop (mkF m 362 #[.val (.int p1), .val (.int p2), .val (.int (p1 &&& (3 : Int32))), .val (.int (p2 &&& (2147483647 : Int32))), .val (.int stv), .val (.ref b1), .val (.ref b5), .val (.int (0 : Int32)), .val (.int (0 : Int32)), .val (.int (1 : Int32))] [(.int (0 : Int32)), (.int (0 : Int32))])) (fun tg kk => XS.iload X36.here hx rfl (hb hby at_360) rfl kk) ?_
          refine own_go (S' := T36.setTop (mkF m 365 #[.val (.int p1), .val (.int p2), .val (.int (p1 &&& (3 : Int32))), .val (.int (p2 &&& (2147483647 : Int32))), .val (.int stv), .val (.ref b1), .val (.ref b5), .val (.int (0 : Int32)), .val (.int (0 : Int32)), .val (.int (1 : Int32))] [])) (fun tg kk => XS.icmpNo X36.here hx rfl (hb hby at_362) rfl (XT.ii_ne_f (by decide)) kk) ?_
          refine own_go (S' := T36.setTop (mkF m 367 #[.val (.int p1), .val (.int p2), .val (.int (p1 &&& (3 : Int32))), .val (.int (p2 &&& (2147483647 : Int32))), .val (.int stv), .val (.ref b1), .val (.ref b5), .val (.int (0 : Int32)), .val (.int (0 : Int32)), .val (.int (1 : Int32))] [(.ref b1)])) (fun tg kk => XS.aload X36.here hx rfl (hb hby at_365) rfl rfl kk) ?_
          obtain ⟨cq38, kq38, qa38, qb38, qc38⟩ := isOf hZ e36 E11
          obtain ⟨v38, _, ⟨T38, L38, k38, n38⟩, -, X38, ⟨Lc38, hQ38, l38, y38, z38⟩, st38⟩ := X36.virtualBack hx (y := (⟨"com/example/periodic_jobs/periodicjobs/engine/DeliveryResult", "isWorthRetrying", "()Z"⟩ : MethodName)) (z := (⟨"com/example/periodic_jobs/periodicjobs/engine/DeliveryResult", "isWorthRetrying", "()Z"⟩ : MethodName)) hown (mvT hZ (hw _ (List.mem_of_getElem? (i := 95) rfl))) (mvT hZ (hw _ (List.mem_of_getElem? (i := 96) rfl))) (notFace_of_selects (args := #[]) (mvT hZ (hw _ (List.mem_of_getElem? (i := 98) rfl)))) (mvT hZ (hw _ (List.mem_of_getElem? (i := 98) rfl))) (mvT hZ (hw _ (List.mem_of_getElem? (i := 97) rfl))) (by decide) (backOf (W := 0) (rm17 l Z a0 hw [] b1 bx1 stv h5 n0 Z14 F7 E12 F10) hZ (hw _ (List.mem_of_getElem? (i := 99) rfl)) (hw _ (List.mem_of_getElem? (i := 3) rfl)) (by decide) (by decide)) qa38 qc38 (g := (mkF m 367 #[.val (.int p1), .val (.int p2), .val (.int (p1 &&& (3 : Int32))), .val (.int (p2 &&& (2147483647 : Int32))), .val (.int stv), .val (.ref b1), .val (.ref b5), .val (.int (0 : Int32)), .val (.int (0 : Int32)), .val (.int (1 : Int32))] [(.ref b1)])) rfl (by rw [hml]; rfl) (Steps.refl _) (argsL := []) (rest := []) (lenOf pd___Z rfl) rfl (by show 2 * 0 + _ ≤ _; exact Nat.le_of_eq rfl) (hb hby at_367) (fun _ _ => ⟨rfl, e36, (by decide : 4 + 0 ≤ _), (by decide : 30 + 0 ≤ _)⟩)
          dsimp only [Pt.U, Pt.locs, Pt.cells, Pt.slots] at X38 l38 y38 z38 st38 hQ38
          subst l38 y38 z38
          obtain ⟨hv38, M39, e38⟩ := hQ38
          obtain rfl : v38 = some (.int (1 : Int32)) := by rw [hv38]; rw [own_retry_eq, if_pos cd33]
          have N39 := Fr.app N37 M39
          refine own_to (S' := T38.setTop (mkF m 370 #[.val (.int p1), .val (.int p2), .val (.int (p1 &&& (3 : Int32))), .val (.int (p2 &&& (2147483647 : Int32))), .val (.int stv), .val (.ref b1), .val (.ref b5), .val (.int (0 : Int32)), .val (.int (0 : Int32)), .val (.int (1 : Int32))] [(.int (1 : Int32))])) st38 ?_
          refine own_go (S' := T38.setTop (mkF m 372 #[.val (.int p1), .val (.int p2), .val (.int (p1 &&& (3 : Int32))), .val (.int (p2 &&& (2147483647 : Int32))), .val (.int stv), .val (.ref b1), .val (.ref b5), .val (.int (0 : Int32)), .val (.int (0 : Int32)), .val (.int (1 : Int32))] [(.int (1 : Int32)), (.int (1 : Int32))])) (fun tg kk => XS.iload X38.here hx rfl (hb hby at_370) rfl kk) ?_
          refine own_go (S' := T38.setTop (mkF m 375 #[.val (.int p1), .val (.int p2), .val (.int (p1 &&& (3 : Int32))), .val (.int (p2 &&& (2147483647 : Int32))), .val (.int stv), .val (.ref b1), .val (.ref b5), .val (.int (0 : Int32)), .val (.int (0 : Int32)), .val (.int (1 : Int32))] [])) (fun tg kk => XS.icmpNo X38.here hx rfl (hb hby at_372) rfl (XT.ii_ne_f (by decide)) kk) ?_
          refine own_go (S' := T38.setTop (mkF m 376 #[.val (.int p1), .val (.int p2), .val (.int (p1 &&& (3 : Int32))), .val (.int (p2 &&& (2147483647 : Int32))), .val (.int stv), .val (.ref b1), .val (.ref b5), .val (.int (0 : Int32)), .val (.int (0 : Int32)), .val (.int (1 : Int32))] [(.int (1 : Int32))])) (fun tg kk => XT.iconstV X38.here hx rfl (1 : Int32) (hb hby at_375) (by decide) kk) ?_
          refine own_go (S' := T38.setTop (mkF m 380 #[.val (.int p1), .val (.int p2), .val (.int (p1 &&& (3 : Int32))), .val (.int (p2 &&& (2147483647 : Int32))), .val (.int stv), .val (.ref b1), .val (.ref b5), .val (.int (0 : Int32)), .val (.int (0 : Int32)), .val (.int (1 : Int32))] [(.int (1 : Int32))])) (fun tg kk => XS.goto X38.here hx rfl (pc0 := 376) (pc' := 380) rfl (hb hby at_376) (by decide) (by decide) kk) ?_
          obtain ⟨fs, hr, hrun, hended, hW, hsame⟩ := X38.leave (v := some (.int (1 : Int32))) (fun h => by rw [Bd.returns] at h; cases h)
          refine ⟨_, _, retN X38 hx (t := .boolean) Bd.returns (by simp) (hb hby at_380) hr, hrun, hended, _, _, rfl, ?_, ⟨_, rfl⟩, hW, hsame.mono (by decide) (by decide)⟩
          show Q0 Z p1 p2 ca clc em h0 n0 (some (.int (1 : Int32))) T38.heap _
          rw [e38]
          exact ⟨rfl, N39⟩
        · refine own_go (S' := T23.setTop (mkF m 314 #[.val (.int p1), .val (.int p2), .val (.int (p1 &&& (3 : Int32))), .val (.int (p2 &&& (2147483647 : Int32))), .val (.int stv), .val (.ref b1), .val (.ref b5), .val (.int (0 : Int32)), .val (.int (0 : Int32)), .unset] [])) (fun tg kk => XS.icmpNo X23.here hx rfl (hb hby at_311) rfl (XT.ii_lt_f cd33) kk) ?_
          refine own_go (S' := T23.setTop (mkF m 316 #[.val (.int p1), .val (.int p2), .val (.int (p1 &&& (3 : Int32))), .val (.int (p2 &&& (2147483647 : Int32))), .val (.int stv), .val (.ref b1), .val (.ref b5), .val (.int (0 : Int32)), .val (.int (0 : Int32)), .unset] [(.int stv)])) (fun tg kk => XS.iload X23.here hx rfl (hb hby at_314) rfl kk) ?_
          refine own_go (S' := T23.setTop (mkF m 319 #[.val (.int p1), .val (.int p2), .val (.int (p1 &&& (3 : Int32))), .val (.int (p2 &&& (2147483647 : Int32))), .val (.int stv), .val (.ref b1), .val (.ref b5), .val (.int (0 : Int32)), .val (.int (0 : Int32)), .unset] [(.int (499 : Int32)), (.int stv)])) (fun tg kk => XT.sipushV X23.here hx rfl (499 : Int32) (hb hby at_316) (by decide) kk) ?_
          by_cases cd40 : (499 : Int32) < stv
          · refine own_go (S' := T23.setTop (mkF m 338 #[.val (.int p1), .val (.int p2), .val (.int (p1 &&& (3 : Int32))), .val (.int (p2 &&& (2147483647 : Int32))), .val (.int stv), .val (.ref b1), .val (.ref b5), .val (.int (0 : Int32)), .val (.int (0 : Int32)), .unset] [])) (fun tg kk => XS.icmpYes X23.here hx rfl (pc0 := 319) (pc' := 338) rfl (hb hby at_319) rfl (XT.ii_gt_t cd40) (by decide) (by decide) kk) ?_
            refine own_go (S' := T23.setTop (mkF m 339 #[.val (.int p1), .val (.int p2), .val (.int (p1 &&& (3 : Int32))), .val (.int (p2 &&& (2147483647 : Int32))), .val (.int stv), .val (.ref b1), .val (.ref b5), .val (.int (0 : Int32)), .val (.int (0 : Int32)), .unset] [(.int (1 : Int32))])) (fun tg kk => XT.iconstV X23.here hx rfl (1 : Int32) (hb hby at_338) (by decide) kk) ?_
            refine own_go (S' := T23.setTop (mkF m 343 #[.val (.int p1), .val (.int p2), .val (.int (p1 &&& (3 : Int32))), .val (.int (p2 &&& (2147483647 : Int32))), .val (.int stv), .val (.ref b1), .val (.ref b5), .val (.int (0 : Int32)), .val (.int (0 : Int32)), .unset] [(.int (1 : Int32))])) (fun tg kk => XS.goto X23.here hx rfl (pc0 := 339) (pc' := 343) rfl (hb hby at_339) (by decide) (by decide) kk) ?_
            refine own_go (S' := T23.setTop (mkF m 345 #[.val (.int p1), .val (.int p2), .val (.int (p1 &&& (3 : Int32))), .val (.int (p2 &&& (2147483647 : Int32))), .val (.int stv), .val (.ref b1), .val (.ref b5), .val (.int (0 : Int32)), .val (.int (0 : Int32)), .val (.int (1 : Int32))] [])) (fun tg kk => XS.istore X23.here hx rfl (hb hby at_343) rfl (l' := #[.val (.int p1), .val (.int p2), .val (.int (p1 &&& (3 : Int32))), .val (.int (p2 &&& (2147483647 : Int32))), .val (.int stv), .val (.ref b1), .val (.ref b5), .val (.int (0 : Int32)), .val (.int (0 : Int32)), .val (.int (1 : Int32))]) rfl kk) ?_
            refine own_go (S' := T23.setTop (mkF m 347 #[.val (.int p1), .val (.int p2), .val (.int (p1 &&& (3 : Int32))), .val (.int (p2 &&& (2147483647 : Int32))), .val (.int stv), .val (.ref b1), .val (.ref b5), .val (.int (0 : Int32)), .val (.int (0 : Int32)), .val (.int (1 : Int32))] [(.ref b1)])) (fun tg kk => XS.aload X23.here hx rfl (hb hby at_345) rfl rfl kk) ?_
            obtain ⟨cq41, kq41, qa41, qb41, qc41⟩ := isOf hZ e23 E11
            obtain ⟨v41, _, ⟨T41, L41, k41, n41⟩, -, X41, ⟨Lc41, hQ41, l41, y41, z41⟩, st41⟩ := X23.virtualBack hx (y := (⟨"com/example/periodic_jobs/periodicjobs/engine/DeliveryResult", "isSuccess", "()Z"⟩ : MethodName)) (z := (⟨"com/example/periodic_jobs/periodicjobs/engine/DeliveryResult", "isSuccess", "()Z"⟩ : MethodName)) hown (mvT hZ (hw _ (List.mem_of_getElem? (i := 85) rfl))) (mvT hZ (hw _ (List.mem_of_getElem? (i := 86) rfl))) (notFace_of_selects (args := #[]) (mvT hZ (hw _ (List.mem_of_getElem? (i := 88) rfl)))) (mvT hZ (hw _ (List.mem_of_getElem? (i := 88) rfl))) (mvT hZ (hw _ (List.mem_of_getElem? (i := 87) rfl))) (by decide) (backOf (W := 0) (rm15 l Z a0 hw [] b1 bx1 stv h5 n0 Z14 F8 F7 E12 F10) hZ (hw _ (List.mem_of_getElem? (i := 89) rfl)) (hw _ (List.mem_of_getElem? (i := 3) rfl)) (by decide) (by decide)) qa41 qc41 (g := (mkF m 347 #[.val (.int p1), .val (.int p2), .val (.int (p1 &&& (3 : Int32))), .val (.int (p2 &&& (2147483647 : Int32))), .val (.int stv), .val (.ref b1), .val (.ref b5), .val (.int (0 : Int32)), .val (.int (0 : Int32)), .val (.int (1 : Int32))] [(.ref b1)])) rfl (by rw [hml]; rfl) (Steps.refl _) (argsL := []) (rest := []) (lenOf pd___Z rfl) rfl (by show 2 * 0 + _ ≤ _; exact Nat.le_of_eq rfl) (hb hby at_347) (fun _ _ => ⟨rfl, e23, (by decide : 4 + 0 ≤ _), (by decide : 30 + 0 ≤ _)⟩)
            dsimp only [Pt.U, Pt.locs, Pt.cells, Pt.slots] at X41 l41 y41 z41 st41 hQ41
            subst l41 y41 z41
            obtain ⟨hv41, M42, e41⟩ := hQ41
            obtain rfl : v41 = some (.int (0 : Int32)) := by rw [hv41]; rw [own_succ_eq, if_neg cd25, if_pos cd32]
            have N42 := Fr.app N24 M42
            refine own_to (S' := T41.setTop (mkF m 350 #[.val (.int p1), .val (.int p2), .val (.int (p1 &&& (3 : Int32))), .val (.int (p2 &&& (2147483647 : Int32))), .val (.int stv), .val (.ref b1), .val (.ref b5), .val (.int (0 : Int32)), .val (.int (0 : Int32)), .val (.int (1 : Int32))] [(.int (0 : Int32))])) st41 ?_
            refine own_go (S' := T41.setTop (mkF m 352 #[.val (.int p1), .val (.int p2), .val (.int (p1 &&& (3 : Int32))), .val (.int (p2 &&& (2147483647 : Int32))), .val (.int stv), .val (.ref b1), .val (.ref b5), .val (.int (0 : Int32)), .val (.int (0 : Int32)), .val (.int (1 : Int32))] [(.int (0 : Int32)), (.int (0 : Int32))])) (fun tg kk => XS.iload X41.here hx rfl (hb hby at_350) rfl kk) ?_
            refine own_go (S' := T41.setTop (mkF m 355 #[.val (.int p1), .val (.int p2), .val (.int (p1 &&& (3 : Int32))), .val (.int (p2 &&& (2147483647 : Int32))), .val (.int stv), .val (.ref b1), .val (.ref b5), .val (.int (0 : Int32)), .val (.int (0 : Int32)), .val (.int (1 : Int32))] [])) (fun tg kk => XS.icmpNo X41.here hx rfl (hb hby at_352) rfl (XT.ii_ne_f (by decide)) kk) ?_
            refine own_go (S' := T41.setTop (mkF m 357 #[.val (.int p1), .val (.int p2), .val (.int (p1 &&& (3 : Int32))), .val (.int (p2 &&& (2147483647 : Int32))), .val (.int stv), .val (.ref b1), .val (.ref b5), .val (.int (0 : Int32)), .val (.int (0 : Int32)), .val (.int (1 : Int32))] [(.ref b1)])) (fun tg kk => XS.aload X41.here hx rfl (hb hby at_355) rfl rfl kk) ?_
            obtain ⟨cq43, kq43, qa43, qb43, qc43⟩ := isOf hZ e41 E11
            obtain ⟨v43, _, ⟨T43, L43, k43, n43⟩, -, X43, ⟨Lc43, hQ43, l43, y43, z43⟩, st43⟩ := X41.virtualBack hx (y := (⟨"com/example/periodic_jobs/periodicjobs/engine/DeliveryResult", "isAccepted", "()Z"⟩ : MethodName)) (z := (⟨"com/example/periodic_jobs/periodicjobs/engine/DeliveryResult", "isAccepted", "()Z"⟩ : MethodName)) hown (mvT hZ (hw _ (List.mem_of_getElem? (i := 90) rfl))) (mvT hZ (hw _ (List.mem_of_getElem? (i := 91) rfl))) (notFace_of_selects (args := #[]) (mvT hZ (hw _ (List.mem_of_getElem? (i := 93) rfl)))) (mvT hZ (hw _ (List.mem_of_getElem? (i := 93) rfl))) (mvT hZ (hw _ (List.mem_of_getElem? (i := 92) rfl))) (by decide) (backOf (W := 0) (rm16 l Z a0 hw [] b1 bx1 stv h5 n0 Z14 F7 E12 F10) hZ (hw _ (List.mem_of_getElem? (i := 94) rfl)) (hw _ (List.mem_of_getElem? (i := 3) rfl)) (by decide) (by decide)) qa43 qc43 (g := (mkF m 357 #[.val (.int p1), .val (.int p2), .val (.int (p1 &&& (3 : Int32))), .val (.int (p2 &&& (2147483647 : Int32))), .val (.int stv), .val (.ref b1), .val (.ref b5), .val (.int (0 : Int32)), .val (.int (0 : Int32)), .val (.int (1 : Int32))] [(.ref b1)])) rfl (by rw [hml]; rfl) (Steps.refl _) (argsL := []) (rest := []) (lenOf pd___Z rfl) rfl (by show 2 * 0 + _ ≤ _; exact Nat.le_of_eq rfl) (hb hby at_357) (fun _ _ => ⟨rfl, e41, (by decide : 4 + 0 ≤ _), (by decide : 30 + 0 ≤ _)⟩)
            dsimp only [Pt.U, Pt.locs, Pt.cells, Pt.slots] at X43 l43 y43 z43 st43 hQ43
            subst l43 y43 z43
            obtain ⟨hv43, M44, e43⟩ := hQ43
            obtain rfl : v43 = some (.int (0 : Int32)) := by rw [hv43]; rw [own_acc, if_neg (by have q0 := cd25; have q1 := cd32; have q2 := cd33; have q3 := cd40; have e0 : (200 : Int32).toInt = 200 := (by decide); have e1 : (202 : Int32).toInt = 202 := (by decide); have e2 : (299 : Int32).toInt = 299 := (by decide); have e3 : (400 : Int32).toInt = 400 := (by decide); have e4 : (499 : Int32).toInt = 499 := (by decide); simp only [Int32.lt_iff_toInt_lt, ← Int32.toInt_inj] at q0 q1 q2 q3 ⊢; omega)]
            have N44 := Fr.app N42 M44
            refine own_to (S' := T43.setTop (mkF m 360 #[.val (.int p1), .val (.int p2), .val (.int (p1 &&& (3 : Int32))), .val (.int (p2 &&& (2147483647 : Int32))), .val (.int stv), .val (.ref b1), .val (.ref b5), .val (.int (0 : Int32)), .val (.int (0 : Int32)), .val (.int (1 : Int32))] [(.int (0 : Int32))])) st43 ?_
            refine own_go (S' := T43.setTop (mkF m 362 #[.val (.int p1), .val (.int p2), .val (.int (p1 &&& (3 : Int32))), .val (.int (p2 &&& (2147483647 : Int32))), .val (.int stv), .val (.ref b1), .val (.ref b5), .val (.int (0 : Int32)), .val (.int (0 : Int32)), .val (.int (1 : Int32))] [(.int (0 : Int32)), (.int (0 : Int32))])) (fun tg kk => XS.iload X43.here hx rfl (hb hby at_360) rfl kk) ?_
            refine own_go (S' := T43.setTop (mkF m 365 #[.val (.int p1), .val (.int p2), .val (.int (p1 &&& (3 : Int32))), .val (.int (p2 &&& (2147483647 : Int32))), .val (.int stv), .val (.ref b1), .val (.ref b5), .val (.int (0 : Int32)), .val (.int (0 : Int32)), .val (.int (1 : Int32))] [])) (fun tg kk => XS.icmpNo X43.here hx rfl (hb hby at_362) rfl (XT.ii_ne_f (by decide)) kk) ?_
            refine own_go (S' := T43.setTop (mkF m 367 #[.val (.int p1), .val (.int p2), .val (.int (p1 &&& (3 : Int32))), .val (.int (p2 &&& (2147483647 : Int32))), .val (.int stv), .val (.ref b1), .val (.ref b5), .val (.int (0 : Int32)), .val (.int (0 : Int32)), .val (.int (1 : Int32))] [(.ref b1)])) (fun tg kk => XS.aload X43.here hx rfl (hb hby at_365) rfl rfl kk) ?_
            obtain ⟨cq45, kq45, qa45, qb45, qc45⟩ := isOf hZ e43 E11
            obtain ⟨v45, _, ⟨T45, L45, k45, n45⟩, -, X45, ⟨Lc45, hQ45, l45, y45, z45⟩, st45⟩ := X43.virtualBack hx (y := (⟨"com/example/periodic_jobs/periodicjobs/engine/DeliveryResult", "isWorthRetrying", "()Z"⟩ : MethodName)) (z := (⟨"com/example/periodic_jobs/periodicjobs/engine/DeliveryResult", "isWorthRetrying", "()Z"⟩ : MethodName)) hown (mvT hZ (hw _ (List.mem_of_getElem? (i := 95) rfl))) (mvT hZ (hw _ (List.mem_of_getElem? (i := 96) rfl))) (notFace_of_selects (args := #[]) (mvT hZ (hw _ (List.mem_of_getElem? (i := 98) rfl)))) (mvT hZ (hw _ (List.mem_of_getElem? (i := 98) rfl))) (mvT hZ (hw _ (List.mem_of_getElem? (i := 97) rfl))) (by decide) (backOf (W := 0) (rm17 l Z a0 hw [] b1 bx1 stv h5 n0 Z14 F7 E12 F10) hZ (hw _ (List.mem_of_getElem? (i := 99) rfl)) (hw _ (List.mem_of_getElem? (i := 3) rfl)) (by decide) (by decide)) qa45 qc45 (g := (mkF m 367 #[.val (.int p1), .val (.int p2), .val (.int (p1 &&& (3 : Int32))), .val (.int (p2 &&& (2147483647 : Int32))), .val (.int stv), .val (.ref b1), .val (.ref b5), .val (.int (0 : Int32)), .val (.int (0 : Int32)), .val (.int (1 : Int32))] [(.ref b1)])) rfl (by rw [hml]; rfl) (Steps.refl _) (argsL := []) (rest := []) (lenOf pd___Z rfl) rfl (by show 2 * 0 + _ ≤ _; exact Nat.le_of_eq rfl) (hb hby at_367) (fun _ _ => ⟨rfl, e43, (by decide : 4 + 0 ≤ _), (by decide : 30 + 0 ≤ _)⟩)
            dsimp only [Pt.U, Pt.locs, Pt.cells, Pt.slots] at X45 l45 y45 z45 st45 hQ45
            subst l45 y45 z45
            obtain ⟨hv45, M46, e45⟩ := hQ45
            obtain rfl : v45 = some (.int (1 : Int32)) := by rw [hv45]; rw [own_retry_eq, if_neg cd33, if_pos cd40]
            have N46 := Fr.app N44 M46
            refine own_to (S' := T45.setTop (mkF m 370 #[.val (.int p1), .val (.int p2), .val (.int (p1 &&& (3 : Int32))), .val (.int (p2 &&& (2147483647 : Int32))), .val (.int stv), .val (.ref b1), .val (.ref b5), .val (.int (0 : Int32)), .val (.int (0 : Int32)), .val (.int (1 : Int32))] [(.int (1 : Int32))])) st45 ?_
            refine own_go (S' := T45.setTop (mkF m 372 #[.val (.int p1), .val (.int p2), .val (.int (p1 &&& (3 : Int32))), .val (.int (p2 &&& (2147483647 : Int32))), .val (.int stv), .val (.ref b1), .val (.ref b5), .val (.int (0 : Int32)), .val (.int (0 : Int32)), .val (.int (1 : Int32))] [(.int (1 : Int32)), (.int (1 : Int32))])) (fun tg kk => XS.iload X45.here hx rfl (hb hby at_370) rfl kk) ?_
            refine own_go (S' := T45.setTop (mkF m 375 #[.val (.int p1), .val (.int p2), .val (.int (p1 &&& (3 : Int32))), .val (.int (p2 &&& (2147483647 : Int32))), .val (.int stv), .val (.ref b1), .val (.ref b5), .val (.int (0 : Int32)), .val (.int (0 : Int32)), .val (.int (1 : Int32))] [])) (fun tg kk => XS.icmpNo X45.here hx rfl (hb hby at_372) rfl (XT.ii_ne_f (by decide)) kk) ?_
            refine own_go (S' := T45.setTop (mkF m 376 #[.val (.int p1), .val (.int p2), .val (.int (p1 &&& (3 : Int32))), .val (.int (p2 &&& (2147483647 : Int32))), .val (.int stv), .val (.ref b1), .val (.ref b5), .val (.int (0 : Int32)), .val (.int (0 : Int32)), .val (.int (1 : Int32))] [(.int (1 : Int32))])) (fun tg kk => XT.iconstV X45.here hx rfl (1 : Int32) (hb hby at_375) (by decide) kk) ?_
            refine own_go (S' := T45.setTop (mkF m 380 #[.val (.int p1), .val (.int p2), .val (.int (p1 &&& (3 : Int32))), .val (.int (p2 &&& (2147483647 : Int32))), .val (.int stv), .val (.ref b1), .val (.ref b5), .val (.int (0 : Int32)), .val (.int (0 : Int32)), .val (.int (1 : Int32))] [(.int (1 : Int32))])) (fun tg kk => XS.goto X45.here hx rfl (pc0 := 376) (pc' := 380) rfl (hb hby at_376) (by decide) (by decide) kk) ?_
            obtain ⟨fs, hr, hrun, hended, hW, hsame⟩ := X45.leave (v := some (.int (1 : Int32))) (fun h => by rw [Bd.returns] at h; cases h)
            refine ⟨_, _, retN X45 hx (t := .boolean) Bd.returns (by simp) (hb hby at_380) hr, hrun, hended, _, _, rfl, ?_, ⟨_, rfl⟩, hW, hsame.mono (by decide) (by decide)⟩
            show Q0 Z p1 p2 ca clc em h0 n0 (some (.int (1 : Int32))) T45.heap _
            rw [e45]
            exact ⟨rfl, N46⟩
          · refine own_go (S' := T23.setTop (mkF m 322 #[.val (.int p1), .val (.int p2), .val (.int (p1 &&& (3 : Int32))), .val (.int (p2 &&& (2147483647 : Int32))), .val (.int stv), .val (.ref b1), .val (.ref b5), .val (.int (0 : Int32)), .val (.int (0 : Int32)), .unset] [])) (fun tg kk => XS.icmpNo X23.here hx rfl (hb hby at_319) rfl (XT.ii_gt_f cd40) kk) ?_
            refine own_go (S' := T23.setTop (mkF m 324 #[.val (.int p1), .val (.int p2), .val (.int (p1 &&& (3 : Int32))), .val (.int (p2 &&& (2147483647 : Int32))), .val (.int stv), .val (.ref b1), .val (.ref b5), .val (.int (0 : Int32)), .val (.int (0 : Int32)), .unset] [(.int stv)])) (fun tg kk => XS.iload X23.here hx rfl (hb hby at_322) rfl kk) ?_
            refine own_go (S' := T23.setTop (mkF m 327 #[.val (.int p1), .val (.int p2), .val (.int (p1 &&& (3 : Int32))), .val (.int (p2 &&& (2147483647 : Int32))), .val (.int stv), .val (.ref b1), .val (.ref b5), .val (.int (0 : Int32)), .val (.int (0 : Int32)), .unset] [(.int (408 : Int32)), (.int stv)])) (fun tg kk => XT.sipushV X23.here hx rfl (408 : Int32) (hb hby at_324) (by decide) kk) ?_
            by_cases cd47 : stv = (408 : Int32)
            · refine own_go (S' := T23.setTop (mkF m 338 #[.val (.int p1), .val (.int p2), .val (.int (p1 &&& (3 : Int32))), .val (.int (p2 &&& (2147483647 : Int32))), .val (.int stv), .val (.ref b1), .val (.ref b5), .val (.int (0 : Int32)), .val (.int (0 : Int32)), .unset] [])) (fun tg kk => XS.icmpYes X23.here hx rfl (pc0 := 327) (pc' := 338) rfl (hb hby at_327) rfl (XT.ii_eq_t cd47) (by decide) (by decide) kk) ?_
              refine own_go (S' := T23.setTop (mkF m 339 #[.val (.int p1), .val (.int p2), .val (.int (p1 &&& (3 : Int32))), .val (.int (p2 &&& (2147483647 : Int32))), .val (.int stv), .val (.ref b1), .val (.ref b5), .val (.int (0 : Int32)), .val (.int (0 : Int32)), .unset] [(.int (1 : Int32))])) (fun tg kk => XT.iconstV X23.here hx rfl (1 : Int32) (hb hby at_338) (by decide) kk) ?_
              refine own_go (S' := T23.setTop (mkF m 343 #[.val (.int p1), .val (.int p2), .val (.int (p1 &&& (3 : Int32))), .val (.int (p2 &&& (2147483647 : Int32))), .val (.int stv), .val (.ref b1), .val (.ref b5), .val (.int (0 : Int32)), .val (.int (0 : Int32)), .unset] [(.int (1 : Int32))])) (fun tg kk => XS.goto X23.here hx rfl (pc0 := 339) (pc' := 343) rfl (hb hby at_339) (by decide) (by decide) kk) ?_
              refine own_go (S' := T23.setTop (mkF m 345 #[.val (.int p1), .val (.int p2), .val (.int (p1 &&& (3 : Int32))), .val (.int (p2 &&& (2147483647 : Int32))), .val (.int stv), .val (.ref b1), .val (.ref b5), .val (.int (0 : Int32)), .val (.int (0 : Int32)), .val (.int (1 : Int32))] [])) (fun tg kk => XS.istore X23.here hx rfl (hb hby at_343) rfl (l' := #[.val (.int p1), .val (.int p2), .val (.int (p1 &&& (3 : Int32))), .val (.int (p2 &&& (2147483647 : Int32))), .val (.int stv), .val (.ref b1), .val (.ref b5), .val (.int (0 : Int32)), .val (.int (0 : Int32)), .val (.int (1 : Int32))]) rfl kk) ?_
              refine own_go (S' := T23.setTop (mkF m 347 #[.val (.int p1), .val (.int p2), .val (.int (p1 &&& (3 : Int32))), .val (.int (p2 &&& (2147483647 : Int32))), .val (.int stv), .val (.ref b1), .val (.ref b5), .val (.int (0 : Int32)), .val (.int (0 : Int32)), .val (.int (1 : Int32))] [(.ref b1)])) (fun tg kk => XS.aload X23.here hx rfl (hb hby at_345) rfl rfl kk) ?_
              obtain ⟨cq48, kq48, qa48, qb48, qc48⟩ := isOf hZ e23 E11
              obtain ⟨v48, _, ⟨T48, L48, k48, n48⟩, -, X48, ⟨Lc48, hQ48, l48, y48, z48⟩, st48⟩ := X23.virtualBack hx (y := (⟨"com/example/periodic_jobs/periodicjobs/engine/DeliveryResult", "isSuccess", "()Z"⟩ : MethodName)) (z := (⟨"com/example/periodic_jobs/periodicjobs/engine/DeliveryResult", "isSuccess", "()Z"⟩ : MethodName)) hown (mvT hZ (hw _ (List.mem_of_getElem? (i := 85) rfl))) (mvT hZ (hw _ (List.mem_of_getElem? (i := 86) rfl))) (notFace_of_selects (args := #[]) (mvT hZ (hw _ (List.mem_of_getElem? (i := 88) rfl)))) (mvT hZ (hw _ (List.mem_of_getElem? (i := 88) rfl))) (mvT hZ (hw _ (List.mem_of_getElem? (i := 87) rfl))) (by decide) (backOf (W := 0) (rm15 l Z a0 hw [] b1 bx1 stv h5 n0 Z14 F8 F7 E12 F10) hZ (hw _ (List.mem_of_getElem? (i := 89) rfl)) (hw _ (List.mem_of_getElem? (i := 3) rfl)) (by decide) (by decide)) qa48 qc48 (g := (mkF m 347 #[.val (.int p1), .val (.int p2), .val (.int (p1 &&& (3 : Int32))), .val (.int (p2 &&& (2147483647 : Int32))), .val (.int stv), .val (.ref b1), .val (.ref b5), .val (.int (0 : Int32)), .val (.int (0 : Int32)), .val (.int (1 : Int32))] [(.ref b1)])) rfl (by rw [hml]; rfl) (Steps.refl _) (argsL := []) (rest := []) (lenOf pd___Z rfl) rfl (by show 2 * 0 + _ ≤ _; exact Nat.le_of_eq rfl) (hb hby at_347) (fun _ _ => ⟨rfl, e23, (by decide : 4 + 0 ≤ _), (by decide : 30 + 0 ≤ _)⟩)
              dsimp only [Pt.U, Pt.locs, Pt.cells, Pt.slots] at X48 l48 y48 z48 st48 hQ48
              subst l48 y48 z48
              obtain ⟨hv48, M49, e48⟩ := hQ48
              obtain rfl : v48 = some (.int (0 : Int32)) := by rw [hv48]; rw [own_succ_eq, if_neg cd25, if_pos cd32]
              have N49 := Fr.app N24 M49
              refine own_to (S' := T48.setTop (mkF m 350 #[.val (.int p1), .val (.int p2), .val (.int (p1 &&& (3 : Int32))), .val (.int (p2 &&& (2147483647 : Int32))), .val (.int stv), .val (.ref b1), .val (.ref b5), .val (.int (0 : Int32)), .val (.int (0 : Int32)), .val (.int (1 : Int32))] [(.int (0 : Int32))])) st48 ?_
              refine own_go (S' := T48.setTop (mkF m 352 #[.val (.int p1), .val (.int p2), .val (.int (p1 &&& (3 : Int32))), .val (.int (p2 &&& (2147483647 : Int32))), .val (.int stv), .val (.ref b1), .val (.ref b5), .val (.int (0 : Int32)), .val (.int (0 : Int32)), .val (.int (1 : Int32))] [(.int (0 : Int32)), (.int (0 : Int32))])) (fun tg kk => XS.iload X48.here hx rfl (hb hby at_350) rfl kk) ?_
              refine own_go (S' := T48.setTop (mkF m 355 #[.val (.int p1), .val (.int p2), .val (.int (p1 &&& (3 : Int32))), .val (.int (p2 &&& (2147483647 : Int32))), .val (.int stv), .val (.ref b1), .val (.ref b5), .val (.int (0 : Int32)), .val (.int (0 : Int32)), .val (.int (1 : Int32))] [])) (fun tg kk => XS.icmpNo X48.here hx rfl (hb hby at_352) rfl (XT.ii_ne_f (by decide)) kk) ?_
              refine own_go (S' := T48.setTop (mkF m 357 #[.val (.int p1), .val (.int p2), .val (.int (p1 &&& (3 : Int32))), .val (.int (p2 &&& (2147483647 : Int32))), .val (.int stv), .val (.ref b1), .val (.ref b5), .val (.int (0 : Int32)), .val (.int (0 : Int32)), .val (.int (1 : Int32))] [(.ref b1)])) (fun tg kk => XS.aload X48.here hx rfl (hb hby at_355) rfl rfl kk) ?_
              obtain ⟨cq50, kq50, qa50, qb50, qc50⟩ := isOf hZ e48 E11
              obtain ⟨v50, _, ⟨T50, L50, k50, n50⟩, -, X50, ⟨Lc50, hQ50, l50, y50, z50⟩, st50⟩ := X48.virtualBack hx (y := (⟨"com/example/periodic_jobs/periodicjobs/engine/DeliveryResult", "isAccepted", "()Z"⟩ : MethodName)) (z := (⟨"com/example/periodic_jobs/periodicjobs/engine/DeliveryResult", "isAccepted", "()Z"⟩ : MethodName)) hown (mvT hZ (hw _ (List.mem_of_getElem? (i := 90) rfl))) (mvT hZ (hw _ (List.mem_of_getElem? (i := 91) rfl))) (notFace_of_selects (args := #[]) (mvT hZ (hw _ (List.mem_of_getElem? (i := 93) rfl)))) (mvT hZ (hw _ (List.mem_of_getElem? (i := 93) rfl))) (mvT hZ (hw _ (List.mem_of_getElem? (i := 92) rfl))) (by decide) (backOf (W := 0) (rm16 l Z a0 hw [] b1 bx1 stv h5 n0 Z14 F7 E12 F10) hZ (hw _ (List.mem_of_getElem? (i := 94) rfl)) (hw _ (List.mem_of_getElem? (i := 3) rfl)) (by decide) (by decide)) qa50 qc50 (g := (mkF m 357 #[.val (.int p1), .val (.int p2), .val (.int (p1 &&& (3 : Int32))), .val (.int (p2 &&& (2147483647 : Int32))), .val (.int stv), .val (.ref b1), .val (.ref b5), .val (.int (0 : Int32)), .val (.int (0 : Int32)), .val (.int (1 : Int32))] [(.ref b1)])) rfl (by rw [hml]; rfl) (Steps.refl _) (argsL := []) (rest := []) (lenOf pd___Z rfl) rfl (by show 2 * 0 + _ ≤ _; exact Nat.le_of_eq rfl) (hb hby at_357) (fun _ _ => ⟨rfl, e48, (by decide : 4 + 0 ≤ _), (by decide : 30 + 0 ≤ _)⟩)
              dsimp only [Pt.U, Pt.locs, Pt.cells, Pt.slots] at X50 l50 y50 z50 st50 hQ50
              subst l50 y50 z50
              obtain ⟨hv50, M51, e50⟩ := hQ50
              obtain rfl : v50 = some (.int (0 : Int32)) := by rw [hv50]; rw [own_acc, if_neg (by have q0 := cd25; have q1 := cd32; have q2 := cd33; have q3 := cd40; have q4 := cd47; have e0 : (200 : Int32).toInt = 200 := (by decide); have e1 : (202 : Int32).toInt = 202 := (by decide); have e2 : (299 : Int32).toInt = 299 := (by decide); have e3 : (400 : Int32).toInt = 400 := (by decide); have e4 : (408 : Int32).toInt = 408 := (by decide); have e5 : (499 : Int32).toInt = 499 := (by decide); simp only [Int32.lt_iff_toInt_lt, ← Int32.toInt_inj] at q0 q1 q2 q3 q4 ⊢; omega)]
              have N51 := Fr.app N49 M51
              refine own_to (S' := T50.setTop (mkF m 360 #[.val (.int p1), .val (.int p2), .val (.int (p1 &&& (3 : Int32))), .val (.int (p2 &&& (2147483647 : Int32))), .val (.int stv), .val (.ref b1), .val (.ref b5), .val (.int (0 : Int32)), .val (.int (0 : Int32)), .val (.int (1 : Int32))] [(.int (0 : Int32))])) st50 ?_
              refine own_go (S' := T50.setTop (mkF m 362 #[.val (.int p1), .val (.int p2), .val (.int (p1 &&& (3 : Int32))), .val (.int (p2 &&& (2147483647 : Int32))), .val (.int stv), .val (.ref b1), .val (.ref b5), .val (.int (0 : Int32)), .val (.int (0 : Int32)), .val (.int (1 : Int32))] [(.int (0 : Int32)), (.int (0 : Int32))])) (fun tg kk => XS.iload X50.here hx rfl (hb hby at_360) rfl kk) ?_
              refine own_go (S' := T50.setTop (mkF m 365 #[.val (.int p1), .val (.int p2), .val (.int (p1 &&& (3 : Int32))), .val (.int (p2 &&& (2147483647 : Int32))), .val (.int stv), .val (.ref b1), .val (.ref b5), .val (.int (0 : Int32)), .val (.int (0 : Int32)), .val (.int (1 : Int32))] [])) (fun tg kk => XS.icmpNo X50.here hx rfl (hb hby at_362) rfl (XT.ii_ne_f (by decide)) kk) ?_
              refine own_go (S' := T50.setTop (mkF m 367 #[.val (.int p1), .val (.int p2), .val (.int (p1 &&& (3 : Int32))), .val (.int (p2 &&& (2147483647 : Int32))), .val (.int stv), .val (.ref b1), .val (.ref b5), .val (.int (0 : Int32)), .val (.int (0 : Int32)), .val (.int (1 : Int32))] [(.ref b1)])) (fun tg kk => XS.aload X50.here hx rfl (hb hby at_365) rfl rfl kk) ?_
              obtain ⟨cq52, kq52, qa52, qb52, qc52⟩ := isOf hZ e50 E11
              obtain ⟨v52, _, ⟨T52, L52, k52, n52⟩, -, X52, ⟨Lc52, hQ52, l52, y52, z52⟩, st52⟩ := X50.virtualBack hx (y := (⟨"com/example/periodic_jobs/periodicjobs/engine/DeliveryResult", "isWorthRetrying", "()Z"⟩ : MethodName)) (z := (⟨"com/example/periodic_jobs/periodicjobs/engine/DeliveryResult", "isWorthRetrying", "()Z"⟩ : MethodName)) hown (mvT hZ (hw _ (List.mem_of_getElem? (i := 95) rfl))) (mvT hZ (hw _ (List.mem_of_getElem? (i := 96) rfl))) (notFace_of_selects (args := #[]) (mvT hZ (hw _ (List.mem_of_getElem? (i := 98) rfl)))) (mvT hZ (hw _ (List.mem_of_getElem? (i := 98) rfl))) (mvT hZ (hw _ (List.mem_of_getElem? (i := 97) rfl))) (by decide) (backOf (W := 0) (rm17 l Z a0 hw [] b1 bx1 stv h5 n0 Z14 F7 E12 F10) hZ (hw _ (List.mem_of_getElem? (i := 99) rfl)) (hw _ (List.mem_of_getElem? (i := 3) rfl)) (by decide) (by decide)) qa52 qc52 (g := (mkF m 367 #[.val (.int p1), .val (.int p2), .val (.int (p1 &&& (3 : Int32))), .val (.int (p2 &&& (2147483647 : Int32))), .val (.int stv), .val (.ref b1), .val (.ref b5), .val (.int (0 : Int32)), .val (.int (0 : Int32)), .val (.int (1 : Int32))] [(.ref b1)])) rfl (by rw [hml]; rfl) (Steps.refl _) (argsL := []) (rest := []) (lenOf pd___Z rfl) rfl (by show 2 * 0 + _ ≤ _; exact Nat.le_of_eq rfl) (hb hby at_367) (fun _ _ => ⟨rfl, e50, (by decide : 4 + 0 ≤ _), (by decide : 30 + 0 ≤ _)⟩)
              dsimp only [Pt.U, Pt.locs, Pt.cells, Pt.slots] at X52 l52 y52 z52 st52 hQ52
              subst l52 y52 z52
              obtain ⟨hv52, M53, e52⟩ := hQ52
              obtain rfl : v52 = some (.int (1 : Int32)) := by rw [hv52]; rw [own_retry_eq, if_neg cd33, if_neg cd40, if_pos cd47]
              have N53 := Fr.app N51 M53
              refine own_to (S' := T52.setTop (mkF m 370 #[.val (.int p1), .val (.int p2), .val (.int (p1 &&& (3 : Int32))), .val (.int (p2 &&& (2147483647 : Int32))), .val (.int stv), .val (.ref b1), .val (.ref b5), .val (.int (0 : Int32)), .val (.int (0 : Int32)), .val (.int (1 : Int32))] [(.int (1 : Int32))])) st52 ?_
              refine own_go (S' := T52.setTop (mkF m 372 #[.val (.int p1), .val (.int p2), .val (.int (p1 &&& (3 : Int32))), .val (.int (p2 &&& (2147483647 : Int32))), .val (.int stv), .val (.ref b1), .val (.ref b5), .val (.int (0 : Int32)), .val (.int (0 : Int32)), .val (.int (1 : Int32))] [(.int (1 : Int32)), (.int (1 : Int32))])) (fun tg kk => XS.iload X52.here hx rfl (hb hby at_370) rfl kk) ?_
              refine own_go (S' := T52.setTop (mkF m 375 #[.val (.int p1), .val (.int p2), .val (.int (p1 &&& (3 : Int32))), .val (.int (p2 &&& (2147483647 : Int32))), .val (.int stv), .val (.ref b1), .val (.ref b5), .val (.int (0 : Int32)), .val (.int (0 : Int32)), .val (.int (1 : Int32))] [])) (fun tg kk => XS.icmpNo X52.here hx rfl (hb hby at_372) rfl (XT.ii_ne_f (by decide)) kk) ?_
              refine own_go (S' := T52.setTop (mkF m 376 #[.val (.int p1), .val (.int p2), .val (.int (p1 &&& (3 : Int32))), .val (.int (p2 &&& (2147483647 : Int32))), .val (.int stv), .val (.ref b1), .val (.ref b5), .val (.int (0 : Int32)), .val (.int (0 : Int32)), .val (.int (1 : Int32))] [(.int (1 : Int32))])) (fun tg kk => XT.iconstV X52.here hx rfl (1 : Int32) (hb hby at_375) (by decide) kk) ?_
              refine own_go (S' := T52.setTop (mkF m 380 #[.val (.int p1), .val (.int p2), .val (.int (p1 &&& (3 : Int32))), .val (.int (p2 &&& (2147483647 : Int32))), .val (.int stv), .val (.ref b1), .val (.ref b5), .val (.int (0 : Int32)), .val (.int (0 : Int32)), .val (.int (1 : Int32))] [(.int (1 : Int32))])) (fun tg kk => XS.goto X52.here hx rfl (pc0 := 376) (pc' := 380) rfl (hb hby at_376) (by decide) (by decide) kk) ?_
              obtain ⟨fs, hr, hrun, hended, hW, hsame⟩ := X52.leave (v := some (.int (1 : Int32))) (fun h => by rw [Bd.returns] at h; cases h)
              refine ⟨_, _, retN X52 hx (t := .boolean) Bd.returns (by simp) (hb hby at_380) hr, hrun, hended, _, _, rfl, ?_, ⟨_, rfl⟩, hW, hsame.mono (by decide) (by decide)⟩
              show Q0 Z p1 p2 ca clc em h0 n0 (some (.int (1 : Int32))) T52.heap _
              rw [e52]
              exact ⟨rfl, N53⟩
            · refine own_go (S' := T23.setTop (mkF m 330 #[.val (.int p1), .val (.int p2), .val (.int (p1 &&& (3 : Int32))), .val (.int (p2 &&& (2147483647 : Int32))), .val (.int stv), .val (.ref b1), .val (.ref b5), .val (.int (0 : Int32)), .val (.int (0 : Int32)), .unset] [])) (fun tg kk => XS.icmpNo X23.here hx rfl (hb hby at_327) rfl (XT.ii_eq_f cd47) kk) ?_
              refine own_go (S' := T23.setTop (mkF m 332 #[.val (.int p1), .val (.int p2), .val (.int (p1 &&& (3 : Int32))), .val (.int (p2 &&& (2147483647 : Int32))), .val (.int stv), .val (.ref b1), .val (.ref b5), .val (.int (0 : Int32)), .val (.int (0 : Int32)), .unset] [(.int stv)])) (fun tg kk => XS.iload X23.here hx rfl (hb hby at_330) rfl kk) ?_
              refine own_go (S' := T23.setTop (mkF m 335 #[.val (.int p1), .val (.int p2), .val (.int (p1 &&& (3 : Int32))), .val (.int (p2 &&& (2147483647 : Int32))), .val (.int stv), .val (.ref b1), .val (.ref b5), .val (.int (0 : Int32)), .val (.int (0 : Int32)), .unset] [(.int (429 : Int32)), (.int stv)])) (fun tg kk => XT.sipushV X23.here hx rfl (429 : Int32) (hb hby at_332) (by decide) kk) ?_
              by_cases cd54 : stv = (429 : Int32)
              · refine own_go (S' := T23.setTop (mkF m 338 #[.val (.int p1), .val (.int p2), .val (.int (p1 &&& (3 : Int32))), .val (.int (p2 &&& (2147483647 : Int32))), .val (.int stv), .val (.ref b1), .val (.ref b5), .val (.int (0 : Int32)), .val (.int (0 : Int32)), .unset] [])) (fun tg kk => XS.icmpNo X23.here hx rfl (hb hby at_335) rfl (XT.ii_ne_f cd54) kk) ?_
                refine own_go (S' := T23.setTop (mkF m 339 #[.val (.int p1), .val (.int p2), .val (.int (p1 &&& (3 : Int32))), .val (.int (p2 &&& (2147483647 : Int32))), .val (.int stv), .val (.ref b1), .val (.ref b5), .val (.int (0 : Int32)), .val (.int (0 : Int32)), .unset] [(.int (1 : Int32))])) (fun tg kk => XT.iconstV X23.here hx rfl (1 : Int32) (hb hby at_338) (by decide) kk) ?_
                refine own_go (S' := T23.setTop (mkF m 343 #[.val (.int p1), .val (.int p2), .val (.int (p1 &&& (3 : Int32))), .val (.int (p2 &&& (2147483647 : Int32))), .val (.int stv), .val (.ref b1), .val (.ref b5), .val (.int (0 : Int32)), .val (.int (0 : Int32)), .unset] [(.int (1 : Int32))])) (fun tg kk => XS.goto X23.here hx rfl (pc0 := 339) (pc' := 343) rfl (hb hby at_339) (by decide) (by decide) kk) ?_
                refine own_go (S' := T23.setTop (mkF m 345 #[.val (.int p1), .val (.int p2), .val (.int (p1 &&& (3 : Int32))), .val (.int (p2 &&& (2147483647 : Int32))), .val (.int stv), .val (.ref b1), .val (.ref b5), .val (.int (0 : Int32)), .val (.int (0 : Int32)), .val (.int (1 : Int32))] [])) (fun tg kk => XS.istore X23.here hx rfl (hb hby at_343) rfl (l' := #[.val (.int p1), .val (.int p2), .val (.int (p1 &&& (3 : Int32))), .val (.int (p2 &&& (2147483647 : Int32))), .val (.int stv), .val (.ref b1), .val (.ref b5), .val (.int (0 : Int32)), .val (.int (0 : Int32)), .val (.int (1 : Int32))]) rfl kk) ?_
                refine own_go (S' := T23.setTop (mkF m 347 #[.val (.int p1), .val (.int p2), .val (.int (p1 &&& (3 : Int32))), .val (.int (p2 &&& (2147483647 : Int32))), .val (.int stv), .val (.ref b1), .val (.ref b5), .val (.int (0 : Int32)), .val (.int (0 : Int32)), .val (.int (1 : Int32))] [(.ref b1)])) (fun tg kk => XS.aload X23.here hx rfl (hb hby at_345) rfl rfl kk) ?_
                obtain ⟨cq55, kq55, qa55, qb55, qc55⟩ := isOf hZ e23 E11
                obtain ⟨v55, _, ⟨T55, L55, k55, n55⟩, -, X55, ⟨Lc55, hQ55, l55, y55, z55⟩, st55⟩ := X23.virtualBack hx (y := (⟨"com/example/periodic_jobs/periodicjobs/engine/DeliveryResult", "isSuccess", "()Z"⟩ : MethodName)) (z := (⟨"com/example/periodic_jobs/periodicjobs/engine/DeliveryResult", "isSuccess", "()Z"⟩ : MethodName)) hown (mvT hZ (hw _ (List.mem_of_getElem? (i := 85) rfl))) (mvT hZ (hw _ (List.mem_of_getElem? (i := 86) rfl))) (notFace_of_selects (args := #[]) (mvT hZ (hw _ (List.mem_of_getElem? (i := 88) rfl)))) (mvT hZ (hw _ (List.mem_of_getElem? (i := 88) rfl))) (mvT hZ (hw _ (List.mem_of_getElem? (i := 87) rfl))) (by decide) (backOf (W := 0) (rm15 l Z a0 hw [] b1 bx1 stv h5 n0 Z14 F8 F7 E12 F10) hZ (hw _ (List.mem_of_getElem? (i := 89) rfl)) (hw _ (List.mem_of_getElem? (i := 3) rfl)) (by decide) (by decide)) qa55 qc55 (g := (mkF m 347 #[.val (.int p1), .val (.int p2), .val (.int (p1 &&& (3 : Int32))), .val (.int (p2 &&& (2147483647 : Int32))), .val (.int stv), .val (.ref b1), .val (.ref b5), .val (.int (0 : Int32)), .val (.int (0 : Int32)), .val (.int (1 : Int32))] [(.ref b1)])) rfl (by rw [hml]; rfl) (Steps.refl _) (argsL := []) (rest := []) (lenOf pd___Z rfl) rfl (by show 2 * 0 + _ ≤ _; exact Nat.le_of_eq rfl) (hb hby at_347) (fun _ _ => ⟨rfl, e23, (by decide : 4 + 0 ≤ _), (by decide : 30 + 0 ≤ _)⟩)
                dsimp only [Pt.U, Pt.locs, Pt.cells, Pt.slots] at X55 l55 y55 z55 st55 hQ55
                subst l55 y55 z55
                obtain ⟨hv55, M56, e55⟩ := hQ55
                obtain rfl : v55 = some (.int (0 : Int32)) := by rw [hv55]; rw [own_succ_eq, if_neg cd25, if_pos cd32]
                have N56 := Fr.app N24 M56
                refine own_to (S' := T55.setTop (mkF m 350 #[.val (.int p1), .val (.int p2), .val (.int (p1 &&& (3 : Int32))), .val (.int (p2 &&& (2147483647 : Int32))), .val (.int stv), .val (.ref b1), .val (.ref b5), .val (.int (0 : Int32)), .val (.int (0 : Int32)), .val (.int (1 : Int32))] [(.int (0 : Int32))])) st55 ?_
                refine own_go (S' := T55.setTop (mkF m 352 #[.val (.int p1), .val (.int p2), .val (.int (p1 &&& (3 : Int32))), .val (.int (p2 &&& (2147483647 : Int32))), .val (.int stv), .val (.ref b1), .val (.ref b5), .val (.int (0 : Int32)), .val (.int (0 : Int32)), .val (.int (1 : Int32))] [(.int (0 : Int32)), (.int (0 : Int32))])) (fun tg kk => XS.iload X55.here hx rfl (hb hby at_350) rfl kk) ?_
                refine own_go (S' := T55.setTop (mkF m 355 #[.val (.int p1), .val (.int p2), .val (.int (p1 &&& (3 : Int32))), .val (.int (p2 &&& (2147483647 : Int32))), .val (.int stv), .val (.ref b1), .val (.ref b5), .val (.int (0 : Int32)), .val (.int (0 : Int32)), .val (.int (1 : Int32))] [])) (fun tg kk => XS.icmpNo X55.here hx rfl (hb hby at_352) rfl (XT.ii_ne_f (by decide)) kk) ?_
                refine own_go (S' := T55.setTop (mkF m 357 #[.val (.int p1), .val (.int p2), .val (.int (p1 &&& (3 : Int32))), .val (.int (p2 &&& (2147483647 : Int32))), .val (.int stv), .val (.ref b1), .val (.ref b5), .val (.int (0 : Int32)), .val (.int (0 : Int32)), .val (.int (1 : Int32))] [(.ref b1)])) (fun tg kk => XS.aload X55.here hx rfl (hb hby at_355) rfl rfl kk) ?_
                obtain ⟨cq57, kq57, qa57, qb57, qc57⟩ := isOf hZ e55 E11
                obtain ⟨v57, _, ⟨T57, L57, k57, n57⟩, -, X57, ⟨Lc57, hQ57, l57, y57, z57⟩, st57⟩ := X55.virtualBack hx (y := (⟨"com/example/periodic_jobs/periodicjobs/engine/DeliveryResult", "isAccepted", "()Z"⟩ : MethodName)) (z := (⟨"com/example/periodic_jobs/periodicjobs/engine/DeliveryResult", "isAccepted", "()Z"⟩ : MethodName)) hown (mvT hZ (hw _ (List.mem_of_getElem? (i := 90) rfl))) (mvT hZ (hw _ (List.mem_of_getElem? (i := 91) rfl))) (notFace_of_selects (args := #[]) (mvT hZ (hw _ (List.mem_of_getElem? (i := 93) rfl)))) (mvT hZ (hw _ (List.mem_of_getElem? (i := 93) rfl))) (mvT hZ (hw _ (List.mem_of_getElem? (i := 92) rfl))) (by decide) (backOf (W := 0) (rm16 l Z a0 hw [] b1 bx1 stv h5 n0 Z14 F7 E12 F10) hZ (hw _ (List.mem_of_getElem? (i := 94) rfl)) (hw _ (List.mem_of_getElem? (i := 3) rfl)) (by decide) (by decide)) qa57 qc57 (g := (mkF m 357 #[.val (.int p1), .val (.int p2), .val (.int (p1 &&& (3 : Int32))), .val (.int (p2 &&& (2147483647 : Int32))), .val (.int stv), .val (.ref b1), .val (.ref b5), .val (.int (0 : Int32)), .val (.int (0 : Int32)), .val (.int (1 : Int32))] [(.ref b1)])) rfl (by rw [hml]; rfl) (Steps.refl _) (argsL := []) (rest := []) (lenOf pd___Z rfl) rfl (by show 2 * 0 + _ ≤ _; exact Nat.le_of_eq rfl) (hb hby at_357) (fun _ _ => ⟨rfl, e55, (by decide : 4 + 0 ≤ _), (by decide : 30 + 0 ≤ _)⟩)
                dsimp only [Pt.U, Pt.locs, Pt.cells, Pt.slots] at X57 l57 y57 z57 st57 hQ57
                subst l57 y57 z57
                obtain ⟨hv57, M58, e57⟩ := hQ57
                obtain rfl : v57 = some (.int (0 : Int32)) := by rw [hv57]; rw [own_acc, if_neg (by have q0 := cd25; have q1 := cd32; have q2 := cd33; have q3 := cd40; have q4 := cd47; have q5 := cd54; have e0 : (200 : Int32).toInt = 200 := (by decide); have e1 : (202 : Int32).toInt = 202 := (by decide); have e2 : (299 : Int32).toInt = 299 := (by decide); have e3 : (400 : Int32).toInt = 400 := (by decide); have e4 : (408 : Int32).toInt = 408 := (by decide); have e5 : (429 : Int32).toInt = 429 := (by decide); have e6 : (499 : Int32).toInt = 499 := (by decide); simp only [Int32.lt_iff_toInt_lt, ← Int32.toInt_inj] at q0 q1 q2 q3 q4 q5 ⊢; omega)]
                have N58 := Fr.app N56 M58
                refine own_to (S' := T57.setTop (mkF m 360 #[.val (.int p1), .val (.int p2), .val (.int (p1 &&& (3 : Int32))), .val (.int (p2 &&& (2147483647 : Int32))), .val (.int stv), .val (.ref b1), .val (.ref b5), .val (.int (0 : Int32)), .val (.int (0 : Int32)), .val (.int (1 : Int32))] [(.int (0 : Int32))])) st57 ?_
                refine own_go (S' := T57.setTop (mkF m 362 #[.val (.int p1), .val (.int p2), .val (.int (p1 &&& (3 : Int32))), .val (.int (p2 &&& (2147483647 : Int32))), .val (.int stv), .val (.ref b1), .val (.ref b5), .val (.int (0 : Int32)), .val (.int (0 : Int32)), .val (.int (1 : Int32))] [(.int (0 : Int32)), (.int (0 : Int32))])) (fun tg kk => XS.iload X57.here hx rfl (hb hby at_360) rfl kk) ?_
                refine own_go (S' := T57.setTop (mkF m 365 #[.val (.int p1), .val (.int p2), .val (.int (p1 &&& (3 : Int32))), .val (.int (p2 &&& (2147483647 : Int32))), .val (.int stv), .val (.ref b1), .val (.ref b5), .val (.int (0 : Int32)), .val (.int (0 : Int32)), .val (.int (1 : Int32))] [])) (fun tg kk => XS.icmpNo X57.here hx rfl (hb hby at_362) rfl (XT.ii_ne_f (by decide)) kk) ?_
                refine own_go (S' := T57.setTop (mkF m 367 #[.val (.int p1), .val (.int p2), .val (.int (p1 &&& (3 : Int32))), .val (.int (p2 &&& (2147483647 : Int32))), .val (.int stv), .val (.ref b1), .val (.ref b5), .val (.int (0 : Int32)), .val (.int (0 : Int32)), .val (.int (1 : Int32))] [(.ref b1)])) (fun tg kk => XS.aload X57.here hx rfl (hb hby at_365) rfl rfl kk) ?_
                obtain ⟨cq59, kq59, qa59, qb59, qc59⟩ := isOf hZ e57 E11
                obtain ⟨v59, _, ⟨T59, L59, k59, n59⟩, -, X59, ⟨Lc59, hQ59, l59, y59, z59⟩, st59⟩ := X57.virtualBack hx (y := (⟨"com/example/periodic_jobs/periodicjobs/engine/DeliveryResult", "isWorthRetrying", "()Z"⟩ : MethodName)) (z := (⟨"com/example/periodic_jobs/periodicjobs/engine/DeliveryResult", "isWorthRetrying", "()Z"⟩ : MethodName)) hown (mvT hZ (hw _ (List.mem_of_getElem? (i := 95) rfl))) (mvT hZ (hw _ (List.mem_of_getElem? (i := 96) rfl))) (notFace_of_selects (args := #[]) (mvT hZ (hw _ (List.mem_of_getElem? (i := 98) rfl)))) (mvT hZ (hw _ (List.mem_of_getElem? (i := 98) rfl))) (mvT hZ (hw _ (List.mem_of_getElem? (i := 97) rfl))) (by decide) (backOf (W := 0) (rm17 l Z a0 hw [] b1 bx1 stv h5 n0 Z14 F7 E12 F10) hZ (hw _ (List.mem_of_getElem? (i := 99) rfl)) (hw _ (List.mem_of_getElem? (i := 3) rfl)) (by decide) (by decide)) qa59 qc59 (g := (mkF m 367 #[.val (.int p1), .val (.int p2), .val (.int (p1 &&& (3 : Int32))), .val (.int (p2 &&& (2147483647 : Int32))), .val (.int stv), .val (.ref b1), .val (.ref b5), .val (.int (0 : Int32)), .val (.int (0 : Int32)), .val (.int (1 : Int32))] [(.ref b1)])) rfl (by rw [hml]; rfl) (Steps.refl _) (argsL := []) (rest := []) (lenOf pd___Z rfl) rfl (by show 2 * 0 + _ ≤ _; exact Nat.le_of_eq rfl) (hb hby at_367) (fun _ _ => ⟨rfl, e57, (by decide : 4 + 0 ≤ _), (by decide : 30 + 0 ≤ _)⟩)
                dsimp only [Pt.U, Pt.locs, Pt.cells, Pt.slots] at X59 l59 y59 z59 st59 hQ59
                subst l59 y59 z59
                obtain ⟨hv59, M60, e59⟩ := hQ59
                obtain rfl : v59 = some (.int (1 : Int32)) := by rw [hv59]; rw [own_retry_eq, if_neg cd33, if_neg cd40, if_neg cd47, if_pos cd54]
                have N60 := Fr.app N58 M60
                refine own_to (S' := T59.setTop (mkF m 370 #[.val (.int p1), .val (.int p2), .val (.int (p1 &&& (3 : Int32))), .val (.int (p2 &&& (2147483647 : Int32))), .val (.int stv), .val (.ref b1), .val (.ref b5), .val (.int (0 : Int32)), .val (.int (0 : Int32)), .val (.int (1 : Int32))] [(.int (1 : Int32))])) st59 ?_
                refine own_go (S' := T59.setTop (mkF m 372 #[.val (.int p1), .val (.int p2), .val (.int (p1 &&& (3 : Int32))), .val (.int (p2 &&& (2147483647 : Int32))), .val (.int stv), .val (.ref b1), .val (.ref b5), .val (.int (0 : Int32)), .val (.int (0 : Int32)), .val (.int (1 : Int32))] [(.int (1 : Int32)), (.int (1 : Int32))])) (fun tg kk => XS.iload X59.here hx rfl (hb hby at_370) rfl kk) ?_
                refine own_go (S' := T59.setTop (mkF m 375 #[.val (.int p1), .val (.int p2), .val (.int (p1 &&& (3 : Int32))), .val (.int (p2 &&& (2147483647 : Int32))), .val (.int stv), .val (.ref b1), .val (.ref b5), .val (.int (0 : Int32)), .val (.int (0 : Int32)), .val (.int (1 : Int32))] [])) (fun tg kk => XS.icmpNo X59.here hx rfl (hb hby at_372) rfl (XT.ii_ne_f (by decide)) kk) ?_
                refine own_go (S' := T59.setTop (mkF m 376 #[.val (.int p1), .val (.int p2), .val (.int (p1 &&& (3 : Int32))), .val (.int (p2 &&& (2147483647 : Int32))), .val (.int stv), .val (.ref b1), .val (.ref b5), .val (.int (0 : Int32)), .val (.int (0 : Int32)), .val (.int (1 : Int32))] [(.int (1 : Int32))])) (fun tg kk => XT.iconstV X59.here hx rfl (1 : Int32) (hb hby at_375) (by decide) kk) ?_
                refine own_go (S' := T59.setTop (mkF m 380 #[.val (.int p1), .val (.int p2), .val (.int (p1 &&& (3 : Int32))), .val (.int (p2 &&& (2147483647 : Int32))), .val (.int stv), .val (.ref b1), .val (.ref b5), .val (.int (0 : Int32)), .val (.int (0 : Int32)), .val (.int (1 : Int32))] [(.int (1 : Int32))])) (fun tg kk => XS.goto X59.here hx rfl (pc0 := 376) (pc' := 380) rfl (hb hby at_376) (by decide) (by decide) kk) ?_
                obtain ⟨fs, hr, hrun, hended, hW, hsame⟩ := X59.leave (v := some (.int (1 : Int32))) (fun h => by rw [Bd.returns] at h; cases h)
                refine ⟨_, _, retN X59 hx (t := .boolean) Bd.returns (by simp) (hb hby at_380) hr, hrun, hended, _, _, rfl, ?_, ⟨_, rfl⟩, hW, hsame.mono (by decide) (by decide)⟩
                show Q0 Z p1 p2 ca clc em h0 n0 (some (.int (1 : Int32))) T59.heap _
                rw [e59]
                exact ⟨rfl, N60⟩
              · refine own_go (S' := T23.setTop (mkF m 342 #[.val (.int p1), .val (.int p2), .val (.int (p1 &&& (3 : Int32))), .val (.int (p2 &&& (2147483647 : Int32))), .val (.int stv), .val (.ref b1), .val (.ref b5), .val (.int (0 : Int32)), .val (.int (0 : Int32)), .unset] [])) (fun tg kk => XS.icmpYes X23.here hx rfl (pc0 := 335) (pc' := 342) rfl (hb hby at_335) rfl (XT.ii_ne_t cd54) (by decide) (by decide) kk) ?_
                refine own_go (S' := T23.setTop (mkF m 343 #[.val (.int p1), .val (.int p2), .val (.int (p1 &&& (3 : Int32))), .val (.int (p2 &&& (2147483647 : Int32))), .val (.int stv), .val (.ref b1), .val (.ref b5), .val (.int (0 : Int32)), .val (.int (0 : Int32)), .unset] [(.int (0 : Int32))])) (fun tg kk => XT.iconstV X23.here hx rfl (0 : Int32) (hb hby at_342) (by decide) kk) ?_
                refine own_go (S' := T23.setTop (mkF m 345 #[.val (.int p1), .val (.int p2), .val (.int (p1 &&& (3 : Int32))), .val (.int (p2 &&& (2147483647 : Int32))), .val (.int stv), .val (.ref b1), .val (.ref b5), .val (.int (0 : Int32)), .val (.int (0 : Int32)), .val (.int (0 : Int32))] [])) (fun tg kk => XS.istore X23.here hx rfl (hb hby at_343) rfl (l' := #[.val (.int p1), .val (.int p2), .val (.int (p1 &&& (3 : Int32))), .val (.int (p2 &&& (2147483647 : Int32))), .val (.int stv), .val (.ref b1), .val (.ref b5), .val (.int (0 : Int32)), .val (.int (0 : Int32)), .val (.int (0 : Int32))]) rfl kk) ?_
                refine own_go (S' := T23.setTop (mkF m 347 #[.val (.int p1), .val (.int p2), .val (.int (p1 &&& (3 : Int32))), .val (.int (p2 &&& (2147483647 : Int32))), .val (.int stv), .val (.ref b1), .val (.ref b5), .val (.int (0 : Int32)), .val (.int (0 : Int32)), .val (.int (0 : Int32))] [(.ref b1)])) (fun tg kk => XS.aload X23.here hx rfl (hb hby at_345) rfl rfl kk) ?_
                obtain ⟨cq61, kq61, qa61, qb61, qc61⟩ := isOf hZ e23 E11
                obtain ⟨v61, _, ⟨T61, L61, k61, n61⟩, -, X61, ⟨Lc61, hQ61, l61, y61, z61⟩, st61⟩ := X23.virtualBack hx (y := (⟨"com/example/periodic_jobs/periodicjobs/engine/DeliveryResult", "isSuccess", "()Z"⟩ : MethodName)) (z := (⟨"com/example/periodic_jobs/periodicjobs/engine/DeliveryResult", "isSuccess", "()Z"⟩ : MethodName)) hown (mvT hZ (hw _ (List.mem_of_getElem? (i := 85) rfl))) (mvT hZ (hw _ (List.mem_of_getElem? (i := 86) rfl))) (notFace_of_selects (args := #[]) (mvT hZ (hw _ (List.mem_of_getElem? (i := 88) rfl)))) (mvT hZ (hw _ (List.mem_of_getElem? (i := 88) rfl))) (mvT hZ (hw _ (List.mem_of_getElem? (i := 87) rfl))) (by decide) (backOf (W := 0) (rm15 l Z a0 hw [] b1 bx1 stv h5 n0 Z14 F8 F7 E12 F10) hZ (hw _ (List.mem_of_getElem? (i := 89) rfl)) (hw _ (List.mem_of_getElem? (i := 3) rfl)) (by decide) (by decide)) qa61 qc61 (g := (mkF m 347 #[.val (.int p1), .val (.int p2), .val (.int (p1 &&& (3 : Int32))), .val (.int (p2 &&& (2147483647 : Int32))), .val (.int stv), .val (.ref b1), .val (.ref b5), .val (.int (0 : Int32)), .val (.int (0 : Int32)), .val (.int (0 : Int32))] [(.ref b1)])) rfl (by rw [hml]; rfl) (Steps.refl _) (argsL := []) (rest := []) (lenOf pd___Z rfl) rfl (by show 2 * 0 + _ ≤ _; exact Nat.le_of_eq rfl) (hb hby at_347) (fun _ _ => ⟨rfl, e23, (by decide : 4 + 0 ≤ _), (by decide : 30 + 0 ≤ _)⟩)
                dsimp only [Pt.U, Pt.locs, Pt.cells, Pt.slots] at X61 l61 y61 z61 st61 hQ61
                subst l61 y61 z61
                obtain ⟨hv61, M62, e61⟩ := hQ61
                obtain rfl : v61 = some (.int (0 : Int32)) := by rw [hv61]; rw [own_succ_eq, if_neg cd25, if_pos cd32]
                have N62 := Fr.app N24 M62
                refine own_to (S' := T61.setTop (mkF m 350 #[.val (.int p1), .val (.int p2), .val (.int (p1 &&& (3 : Int32))), .val (.int (p2 &&& (2147483647 : Int32))), .val (.int stv), .val (.ref b1), .val (.ref b5), .val (.int (0 : Int32)), .val (.int (0 : Int32)), .val (.int (0 : Int32))] [(.int (0 : Int32))])) st61 ?_
                refine own_go (S' := T61.setTop (mkF m 352 #[.val (.int p1), .val (.int p2), .val (.int (p1 &&& (3 : Int32))), .val (.int (p2 &&& (2147483647 : Int32))), .val (.int stv), .val (.ref b1), .val (.ref b5), .val (.int (0 : Int32)), .val (.int (0 : Int32)), .val (.int (0 : Int32))] [(.int (0 : Int32)), (.int (0 : Int32))])) (fun tg kk => XS.iload X61.here hx rfl (hb hby at_350) rfl kk) ?_
                refine own_go (S' := T61.setTop (mkF m 355 #[.val (.int p1), .val (.int p2), .val (.int (p1 &&& (3 : Int32))), .val (.int (p2 &&& (2147483647 : Int32))), .val (.int stv), .val (.ref b1), .val (.ref b5), .val (.int (0 : Int32)), .val (.int (0 : Int32)), .val (.int (0 : Int32))] [])) (fun tg kk => XS.icmpNo X61.here hx rfl (hb hby at_352) rfl (XT.ii_ne_f (by decide)) kk) ?_
                refine own_go (S' := T61.setTop (mkF m 357 #[.val (.int p1), .val (.int p2), .val (.int (p1 &&& (3 : Int32))), .val (.int (p2 &&& (2147483647 : Int32))), .val (.int stv), .val (.ref b1), .val (.ref b5), .val (.int (0 : Int32)), .val (.int (0 : Int32)), .val (.int (0 : Int32))] [(.ref b1)])) (fun tg kk => XS.aload X61.here hx rfl (hb hby at_355) rfl rfl kk) ?_
                obtain ⟨cq63, kq63, qa63, qb63, qc63⟩ := isOf hZ e61 E11
                obtain ⟨v63, _, ⟨T63, L63, k63, n63⟩, -, X63, ⟨Lc63, hQ63, l63, y63, z63⟩, st63⟩ := X61.virtualBack hx (y := (⟨"com/example/periodic_jobs/periodicjobs/engine/DeliveryResult", "isAccepted", "()Z"⟩ : MethodName)) (z := (⟨"com/example/periodic_jobs/periodicjobs/engine/DeliveryResult", "isAccepted", "()Z"⟩ : MethodName)) hown (mvT hZ (hw _ (List.mem_of_getElem? (i := 90) rfl))) (mvT hZ (hw _ (List.mem_of_getElem? (i := 91) rfl))) (notFace_of_selects (args := #[]) (mvT hZ (hw _ (List.mem_of_getElem? (i := 93) rfl)))) (mvT hZ (hw _ (List.mem_of_getElem? (i := 93) rfl))) (mvT hZ (hw _ (List.mem_of_getElem? (i := 92) rfl))) (by decide) (backOf (W := 0) (rm16 l Z a0 hw [] b1 bx1 stv h5 n0 Z14 F7 E12 F10) hZ (hw _ (List.mem_of_getElem? (i := 94) rfl)) (hw _ (List.mem_of_getElem? (i := 3) rfl)) (by decide) (by decide)) qa63 qc63 (g := (mkF m 357 #[.val (.int p1), .val (.int p2), .val (.int (p1 &&& (3 : Int32))), .val (.int (p2 &&& (2147483647 : Int32))), .val (.int stv), .val (.ref b1), .val (.ref b5), .val (.int (0 : Int32)), .val (.int (0 : Int32)), .val (.int (0 : Int32))] [(.ref b1)])) rfl (by rw [hml]; rfl) (Steps.refl _) (argsL := []) (rest := []) (lenOf pd___Z rfl) rfl (by show 2 * 0 + _ ≤ _; exact Nat.le_of_eq rfl) (hb hby at_357) (fun _ _ => ⟨rfl, e61, (by decide : 4 + 0 ≤ _), (by decide : 30 + 0 ≤ _)⟩)
                dsimp only [Pt.U, Pt.locs, Pt.cells, Pt.slots] at X63 l63 y63 z63 st63 hQ63
                subst l63 y63 z63
                obtain ⟨hv63, M64, e63⟩ := hQ63
                obtain rfl : v63 = some (.int (0 : Int32)) := by rw [hv63]; rw [own_acc, if_neg (by have q0 := cd25; have q1 := cd32; have q2 := cd33; have q3 := cd40; have q4 := cd47; have q5 := cd54; have e0 : (200 : Int32).toInt = 200 := (by decide); have e1 : (202 : Int32).toInt = 202 := (by decide); have e2 : (299 : Int32).toInt = 299 := (by decide); have e3 : (400 : Int32).toInt = 400 := (by decide); have e4 : (408 : Int32).toInt = 408 := (by decide); have e5 : (429 : Int32).toInt = 429 := (by decide); have e6 : (499 : Int32).toInt = 499 := (by decide); simp only [Int32.lt_iff_toInt_lt, ← Int32.toInt_inj] at q0 q1 q2 q3 q4 q5 ⊢; omega)]
                have N64 := Fr.app N62 M64
                refine own_to (S' := T63.setTop (mkF m 360 #[.val (.int p1), .val (.int p2), .val (.int (p1 &&& (3 : Int32))), .val (.int (p2 &&& (2147483647 : Int32))), .val (.int stv), .val (.ref b1), .val (.ref b5), .val (.int (0 : Int32)), .val (.int (0 : Int32)), .val (.int (0 : Int32))] [(.int (0 : Int32))])) st63 ?_
                refine own_go (S' := T63.setTop (mkF m 362 #[.val (.int p1), .val (.int p2), .val (.int (p1 &&& (3 : Int32))), .val (.int (p2 &&& (2147483647 : Int32))), .val (.int stv), .val (.ref b1), .val (.ref b5), .val (.int (0 : Int32)), .val (.int (0 : Int32)), .val (.int (0 : Int32))] [(.int (0 : Int32)), (.int (0 : Int32))])) (fun tg kk => XS.iload X63.here hx rfl (hb hby at_360) rfl kk) ?_
                refine own_go (S' := T63.setTop (mkF m 365 #[.val (.int p1), .val (.int p2), .val (.int (p1 &&& (3 : Int32))), .val (.int (p2 &&& (2147483647 : Int32))), .val (.int stv), .val (.ref b1), .val (.ref b5), .val (.int (0 : Int32)), .val (.int (0 : Int32)), .val (.int (0 : Int32))] [])) (fun tg kk => XS.icmpNo X63.here hx rfl (hb hby at_362) rfl (XT.ii_ne_f (by decide)) kk) ?_
                refine own_go (S' := T63.setTop (mkF m 367 #[.val (.int p1), .val (.int p2), .val (.int (p1 &&& (3 : Int32))), .val (.int (p2 &&& (2147483647 : Int32))), .val (.int stv), .val (.ref b1), .val (.ref b5), .val (.int (0 : Int32)), .val (.int (0 : Int32)), .val (.int (0 : Int32))] [(.ref b1)])) (fun tg kk => XS.aload X63.here hx rfl (hb hby at_365) rfl rfl kk) ?_
                obtain ⟨cq65, kq65, qa65, qb65, qc65⟩ := isOf hZ e63 E11
                obtain ⟨v65, _, ⟨T65, L65, k65, n65⟩, -, X65, ⟨Lc65, hQ65, l65, y65, z65⟩, st65⟩ := X63.virtualBack hx (y := (⟨"com/example/periodic_jobs/periodicjobs/engine/DeliveryResult", "isWorthRetrying", "()Z"⟩ : MethodName)) (z := (⟨"com/example/periodic_jobs/periodicjobs/engine/DeliveryResult", "isWorthRetrying", "()Z"⟩ : MethodName)) hown (mvT hZ (hw _ (List.mem_of_getElem? (i := 95) rfl))) (mvT hZ (hw _ (List.mem_of_getElem? (i := 96) rfl))) (notFace_of_selects (args := #[]) (mvT hZ (hw _ (List.mem_of_getElem? (i := 98) rfl)))) (mvT hZ (hw _ (List.mem_of_getElem? (i := 98) rfl))) (mvT hZ (hw _ (List.mem_of_getElem? (i := 97) rfl))) (by decide) (backOf (W := 0) (rm17 l Z a0 hw [] b1 bx1 stv h5 n0 Z14 F7 E12 F10) hZ (hw _ (List.mem_of_getElem? (i := 99) rfl)) (hw _ (List.mem_of_getElem? (i := 3) rfl)) (by decide) (by decide)) qa65 qc65 (g := (mkF m 367 #[.val (.int p1), .val (.int p2), .val (.int (p1 &&& (3 : Int32))), .val (.int (p2 &&& (2147483647 : Int32))), .val (.int stv), .val (.ref b1), .val (.ref b5), .val (.int (0 : Int32)), .val (.int (0 : Int32)), .val (.int (0 : Int32))] [(.ref b1)])) rfl (by rw [hml]; rfl) (Steps.refl _) (argsL := []) (rest := []) (lenOf pd___Z rfl) rfl (by show 2 * 0 + _ ≤ _; exact Nat.le_of_eq rfl) (hb hby at_367) (fun _ _ => ⟨rfl, e63, (by decide : 4 + 0 ≤ _), (by decide : 30 + 0 ≤ _)⟩)
                dsimp only [Pt.U, Pt.locs, Pt.cells, Pt.slots] at X65 l65 y65 z65 st65 hQ65
                subst l65 y65 z65
                obtain ⟨hv65, M66, e65⟩ := hQ65
                obtain rfl : v65 = some (.int (0 : Int32)) := by rw [hv65]; rw [own_retry_eq, if_neg cd33, if_neg cd40, if_neg cd47, if_neg cd54]
                have N66 := Fr.app N64 M66
                refine own_to (S' := T65.setTop (mkF m 370 #[.val (.int p1), .val (.int p2), .val (.int (p1 &&& (3 : Int32))), .val (.int (p2 &&& (2147483647 : Int32))), .val (.int stv), .val (.ref b1), .val (.ref b5), .val (.int (0 : Int32)), .val (.int (0 : Int32)), .val (.int (0 : Int32))] [(.int (0 : Int32))])) st65 ?_
                refine own_go (S' := T65.setTop (mkF m 372 #[.val (.int p1), .val (.int p2), .val (.int (p1 &&& (3 : Int32))), .val (.int (p2 &&& (2147483647 : Int32))), .val (.int stv), .val (.ref b1), .val (.ref b5), .val (.int (0 : Int32)), .val (.int (0 : Int32)), .val (.int (0 : Int32))] [(.int (0 : Int32)), (.int (0 : Int32))])) (fun tg kk => XS.iload X65.here hx rfl (hb hby at_370) rfl kk) ?_
                refine own_go (S' := T65.setTop (mkF m 375 #[.val (.int p1), .val (.int p2), .val (.int (p1 &&& (3 : Int32))), .val (.int (p2 &&& (2147483647 : Int32))), .val (.int stv), .val (.ref b1), .val (.ref b5), .val (.int (0 : Int32)), .val (.int (0 : Int32)), .val (.int (0 : Int32))] [])) (fun tg kk => XS.icmpNo X65.here hx rfl (hb hby at_372) rfl (XT.ii_ne_f (by decide)) kk) ?_
                refine own_go (S' := T65.setTop (mkF m 376 #[.val (.int p1), .val (.int p2), .val (.int (p1 &&& (3 : Int32))), .val (.int (p2 &&& (2147483647 : Int32))), .val (.int stv), .val (.ref b1), .val (.ref b5), .val (.int (0 : Int32)), .val (.int (0 : Int32)), .val (.int (0 : Int32))] [(.int (1 : Int32))])) (fun tg kk => XT.iconstV X65.here hx rfl (1 : Int32) (hb hby at_375) (by decide) kk) ?_
                refine own_go (S' := T65.setTop (mkF m 380 #[.val (.int p1), .val (.int p2), .val (.int (p1 &&& (3 : Int32))), .val (.int (p2 &&& (2147483647 : Int32))), .val (.int stv), .val (.ref b1), .val (.ref b5), .val (.int (0 : Int32)), .val (.int (0 : Int32)), .val (.int (0 : Int32))] [(.int (1 : Int32))])) (fun tg kk => XS.goto X65.here hx rfl (pc0 := 376) (pc' := 380) rfl (hb hby at_376) (by decide) (by decide) kk) ?_
                obtain ⟨fs, hr, hrun, hended, hW, hsame⟩ := X65.leave (v := some (.int (1 : Int32))) (fun h => by rw [Bd.returns] at h; cases h)
                refine ⟨_, _, retN X65 hx (t := .boolean) Bd.returns (by simp) (hb hby at_380) hr, hrun, hended, _, _, rfl, ?_, ⟨_, rfl⟩, hW, hsame.mono (by decide) (by decide)⟩
                show Q0 Z p1 p2 ca clc em h0 n0 (some (.int (1 : Int32))) T65.heap _
                rw [e65]
                exact ⟨rfl, N66⟩
      · refine own_go (S' := T23.setTop (mkF m 284 #[.val (.int p1), .val (.int p2), .val (.int (p1 &&& (3 : Int32))), .val (.int (p2 &&& (2147483647 : Int32))), .val (.int stv), .val (.ref b1), .val (.ref b5), .unset, .unset, .unset] [])) (fun tg kk => XS.icmpNo X23.here hx rfl (hb hby at_281) rfl (XT.ii_gt_f cd32) kk) ?_
        refine own_go (S' := T23.setTop (mkF m 285 #[.val (.int p1), .val (.int p2), .val (.int (p1 &&& (3 : Int32))), .val (.int (p2 &&& (2147483647 : Int32))), .val (.int stv), .val (.ref b1), .val (.ref b5), .unset, .unset, .unset] [(.int (1 : Int32))])) (fun tg kk => XT.iconstV X23.here hx rfl (1 : Int32) (hb hby at_284) (by decide) kk) ?_
        refine own_go (S' := T23.setTop (mkF m 289 #[.val (.int p1), .val (.int p2), .val (.int (p1 &&& (3 : Int32))), .val (.int (p2 &&& (2147483647 : Int32))), .val (.int stv), .val (.ref b1), .val (.ref b5), .unset, .unset, .unset] [(.int (1 : Int32))])) (fun tg kk => XS.goto X23.here hx rfl (pc0 := 285) (pc' := 289) rfl (hb hby at_285) (by decide) (by decide) kk) ?_
        refine own_go (S' := T23.setTop (mkF m 291 #[.val (.int p1), .val (.int p2), .val (.int (p1 &&& (3 : Int32))), .val (.int (p2 &&& (2147483647 : Int32))), .val (.int stv), .val (.ref b1), .val (.ref b5), .val (.int (1 : Int32)), .unset, .unset] [])) (fun tg kk => XS.istore X23.here hx rfl (hb hby at_289) rfl (l' := #[.val (.int p1), .val (.int p2), .val (.int (p1 &&& (3 : Int32))), .val (.int (p2 &&& (2147483647 : Int32))), .val (.int stv), .val (.ref b1), .val (.ref b5), .val (.int (1 : Int32)), .unset, .unset]) rfl kk) ?_
        refine own_go (S' := T23.setTop (mkF m 293 #[.val (.int p1), .val (.int p2), .val (.int (p1 &&& (3 : Int32))), .val (.int (p2 &&& (2147483647 : Int32))), .val (.int stv), .val (.ref b1), .val (.ref b5), .val (.int (1 : Int32)), .unset, .unset] [(.int stv)])) (fun tg kk => XS.iload X23.here hx rfl (hb hby at_291) rfl kk) ?_
        refine own_go (S' := T23.setTop (mkF m 296 #[.val (.int p1), .val (.int p2), .val (.int (p1 &&& (3 : Int32))), .val (.int (p2 &&& (2147483647 : Int32))), .val (.int stv), .val (.ref b1), .val (.ref b5), .val (.int (1 : Int32)), .unset, .unset] [(.int (202 : Int32)), (.int stv)])) (fun tg kk => XT.sipushV X23.here hx rfl (202 : Int32) (hb hby at_293) (by decide) kk) ?_
        by_cases cd67 : stv = (202 : Int32)
        · refine own_go (S' := T23.setTop (mkF m 299 #[.val (.int p1), .val (.int p2), .val (.int (p1 &&& (3 : Int32))), .val (.int (p2 &&& (2147483647 : Int32))), .val (.int stv), .val (.ref b1), .val (.ref b5), .val (.int (1 : Int32)), .unset, .unset] [])) (fun tg kk => XS.icmpNo X23.here hx rfl (hb hby at_296) rfl (XT.ii_ne_f cd67) kk) ?_
          refine own_go (S' := T23.setTop (mkF m 300 #[.val (.int p1), .val (.int p2), .val (.int (p1 &&& (3 : Int32))), .val (.int (p2 &&& (2147483647 : Int32))), .val (.int stv), .val (.ref b1), .val (.ref b5), .val (.int (1 : Int32)), .unset, .unset] [(.int (1 : Int32))])) (fun tg kk => XT.iconstV X23.here hx rfl (1 : Int32) (hb hby at_299) (by decide) kk) ?_
          refine own_go (S' := T23.setTop (mkF m 304 #[.val (.int p1), .val (.int p2), .val (.int (p1 &&& (3 : Int32))), .val (.int (p2 &&& (2147483647 : Int32))), .val (.int stv), .val (.ref b1), .val (.ref b5), .val (.int (1 : Int32)), .unset, .unset] [(.int (1 : Int32))])) (fun tg kk => XS.goto X23.here hx rfl (pc0 := 300) (pc' := 304) rfl (hb hby at_300) (by decide) (by decide) kk) ?_
          refine own_go (S' := T23.setTop (mkF m 306 #[.val (.int p1), .val (.int p2), .val (.int (p1 &&& (3 : Int32))), .val (.int (p2 &&& (2147483647 : Int32))), .val (.int stv), .val (.ref b1), .val (.ref b5), .val (.int (1 : Int32)), .val (.int (1 : Int32)), .unset] [])) (fun tg kk => XS.istore X23.here hx rfl (hb hby at_304) rfl (l' := #[.val (.int p1), .val (.int p2), .val (.int (p1 &&& (3 : Int32))), .val (.int (p2 &&& (2147483647 : Int32))), .val (.int stv), .val (.ref b1), .val (.ref b5), .val (.int (1 : Int32)), .val (.int (1 : Int32)), .unset]) rfl kk) ?_
          refine own_go (S' := T23.setTop (mkF m 308 #[.val (.int p1), .val (.int p2), .val (.int (p1 &&& (3 : Int32))), .val (.int (p2 &&& (2147483647 : Int32))), .val (.int stv), .val (.ref b1), .val (.ref b5), .val (.int (1 : Int32)), .val (.int (1 : Int32)), .unset] [(.int stv)])) (fun tg kk => XS.iload X23.here hx rfl (hb hby at_306) rfl kk) ?_
          refine own_go (S' := T23.setTop (mkF m 311 #[.val (.int p1), .val (.int p2), .val (.int (p1 &&& (3 : Int32))), .val (.int (p2 &&& (2147483647 : Int32))), .val (.int stv), .val (.ref b1), .val (.ref b5), .val (.int (1 : Int32)), .val (.int (1 : Int32)), .unset] [(.int (400 : Int32)), (.int stv)])) (fun tg kk => XT.sipushV X23.here hx rfl (400 : Int32) (hb hby at_308) (by decide) kk) ?_
          refine own_go (S' := T23.setTop (mkF m 338 #[.val (.int p1), .val (.int p2), .val (.int (p1 &&& (3 : Int32))), .val (.int (p2 &&& (2147483647 : Int32))), .val (.int stv), .val (.ref b1), .val (.ref b5), .val (.int (1 : Int32)), .val (.int (1 : Int32)), .unset] [])) (fun tg kk => XS.icmpYes X23.here hx rfl (pc0 := 311) (pc' := 338) rfl (hb hby at_311) rfl (XT.ii_lt_t (by have q0 := cd25; have q1 := cd32; have q2 := cd67; have e0 : (200 : Int32).toInt = 200 := (by decide); have e1 : (202 : Int32).toInt = 202 := (by decide); have e2 : (299 : Int32).toInt = 299 := (by decide); have e3 : (400 : Int32).toInt = 400 := (by decide); simp only [Int32.lt_iff_toInt_lt, ← Int32.toInt_inj] at q0 q1 q2 ⊢; omega)) (by decide) (by decide) kk) ?_
          refine own_go (S' := T23.setTop (mkF m 339 #[.val (.int p1), .val (.int p2), .val (.int (p1 &&& (3 : Int32))), .val (.int (p2 &&& (2147483647 : Int32))), .val (.int stv), .val (.ref b1), .val (.ref b5), .val (.int (1 : Int32)), .val (.int (1 : Int32)), .unset] [(.int (1 : Int32))])) (fun tg kk => XT.iconstV X23.here hx rfl (1 : Int32) (hb hby at_338) (by decide) kk) ?_
          refine own_go (S' := T23.setTop (mkF m 343 #[.val (.int p1), .val (.int p2), .val (.int (p1 &&& (3 : Int32))), .val (.int (p2 &&& (2147483647 : Int32))), .val (.int stv), .val (.ref b1), .val (.ref b5), .val (.int (1 : Int32)), .val (.int (1 : Int32)), .unset] [(.int (1 : Int32))])) (fun tg kk => XS.goto X23.here hx rfl (pc0 := 339) (pc' := 343) rfl (hb hby at_339) (by decide) (by decide) kk) ?_
          refine own_go (S' := T23.setTop (mkF m 345 #[.val (.int p1), .val (.int p2), .val (.int (p1 &&& (3 : Int32))), .val (.int (p2 &&& (2147483647 : Int32))), .val (.int stv), .val (.ref b1), .val (.ref b5), .val (.int (1 : Int32)), .val (.int (1 : Int32)), .val (.int (1 : Int32))] [])) (fun tg kk => XS.istore X23.here hx rfl (hb hby at_343) rfl (l' := #[.val (.int p1), .val (.int p2), .val (.int (p1 &&& (3 : Int32))), .val (.int (p2 &&& (2147483647 : Int32))), .val (.int stv), .val (.ref b1), .val (.ref b5), .val (.int (1 : Int32)), .val (.int (1 : Int32)), .val (.int (1 : Int32))]) rfl kk) ?_
          refine own_go (S' := T23.setTop (mkF m 347 #[.val (.int p1), .val (.int p2), .val (.int (p1 &&& (3 : Int32))), .val (.int (p2 &&& (2147483647 : Int32))), .val (.int stv), .val (.ref b1), .val (.ref b5), .val (.int (1 : Int32)), .val (.int (1 : Int32)), .val (.int (1 : Int32))] [(.ref b1)])) (fun tg kk => XS.aload X23.here hx rfl (hb hby at_345) rfl rfl kk) ?_
          obtain ⟨cq68, kq68, qa68, qb68, qc68⟩ := isOf hZ e23 E11
          obtain ⟨v68, _, ⟨T68, L68, k68, n68⟩, -, X68, ⟨Lc68, hQ68, l68, y68, z68⟩, st68⟩ := X23.virtualBack hx (y := (⟨"com/example/periodic_jobs/periodicjobs/engine/DeliveryResult", "isSuccess", "()Z"⟩ : MethodName)) (z := (⟨"com/example/periodic_jobs/periodicjobs/engine/DeliveryResult", "isSuccess", "()Z"⟩ : MethodName)) hown (mvT hZ (hw _ (List.mem_of_getElem? (i := 85) rfl))) (mvT hZ (hw _ (List.mem_of_getElem? (i := 86) rfl))) (notFace_of_selects (args := #[]) (mvT hZ (hw _ (List.mem_of_getElem? (i := 88) rfl)))) (mvT hZ (hw _ (List.mem_of_getElem? (i := 88) rfl))) (mvT hZ (hw _ (List.mem_of_getElem? (i := 87) rfl))) (by decide) (backOf (W := 0) (rm15 l Z a0 hw [] b1 bx1 stv h5 n0 Z14 F8 F7 E12 F10) hZ (hw _ (List.mem_of_getElem? (i := 89) rfl)) (hw _ (List.mem_of_getElem? (i := 3) rfl)) (by decide) (by decide)) qa68 qc68 (g := (mkF m 347 #[.val (.int p1), .val (.int p2), .val (.int (p1 &&& (3 : Int32))), .val (.int (p2 &&& (2147483647 : Int32))), .val (.int stv), .val (.ref b1), .val (.ref b5), .val (.int (1 : Int32)), .val (.int (1 : Int32)), .val (.int (1 : Int32))] [(.ref b1)])) rfl (by rw [hml]; rfl) (Steps.refl _) (argsL := []) (rest := []) (lenOf pd___Z rfl) rfl (by show 2 * 0 + _ ≤ _; exact Nat.le_of_eq rfl) (hb hby at_347) (fun _ _ => ⟨rfl, e23, (by decide : 4 + 0 ≤ _), (by decide : 30 + 0 ≤ _)⟩)
          dsimp only [Pt.U, Pt.locs, Pt.cells, Pt.slots] at X68 l68 y68 z68 st68 hQ68
          subst l68 y68 z68
          obtain ⟨hv68, M69, e68⟩ := hQ68
          obtain rfl : v68 = some (.int (1 : Int32)) := by rw [hv68]; rw [own_succ_eq, if_neg cd25, if_neg cd32]
          have N69 := Fr.app N24 M69
          refine own_to (S' := T68.setTop (mkF m 350 #[.val (.int p1), .val (.int p2), .val (.int (p1 &&& (3 : Int32))), .val (.int (p2 &&& (2147483647 : Int32))), .val (.int stv), .val (.ref b1), .val (.ref b5), .val (.int (1 : Int32)), .val (.int (1 : Int32)), .val (.int (1 : Int32))] [(.int (1 : Int32))])) st68 ?_
          refine own_go (S' := T68.setTop (mkF m 352 #[.val (.int p1), .val (.int p2), .val (.int (p1 &&& (3 : Int32))), .val (.int (p2 &&& (2147483647 : Int32))), .val (.int stv), .val (.ref b1), .val (.ref b5), .val (.int (1 : Int32)), .val (.int (1 : Int32)), .val (.int (1 : Int32))] [(.int (1 : Int32)), (.int (1 : Int32))])) (fun tg kk => XS.iload X68.here hx rfl (hb hby at_350) rfl kk) ?_
          refine own_go (S' := T68.setTop (mkF m 355 #[.val (.int p1), .val (.int p2), .val (.int (p1 &&& (3 : Int32))), .val (.int (p2 &&& (2147483647 : Int32))), .val (.int stv), .val (.ref b1), .val (.ref b5), .val (.int (1 : Int32)), .val (.int (1 : Int32)), .val (.int (1 : Int32))] [])) (fun tg kk => XS.icmpNo X68.here hx rfl (hb hby at_352) rfl (XT.ii_ne_f (by decide)) kk) ?_
          refine own_go (S' := T68.setTop (mkF m 357 #[.val (.int p1), .val (.int p2), .val (.int (p1 &&& (3 : Int32))), .val (.int (p2 &&& (2147483647 : Int32))), .val (.int stv), .val (.ref b1), .val (.ref b5), .val (.int (1 : Int32)), .val (.int (1 : Int32)), .val (.int (1 : Int32))] [(.ref b1)])) (fun tg kk => XS.aload X68.here hx rfl (hb hby at_355) rfl rfl kk) ?_
          obtain ⟨cq70, kq70, qa70, qb70, qc70⟩ := isOf hZ e68 E11
          obtain ⟨v70, _, ⟨T70, L70, k70, n70⟩, -, X70, ⟨Lc70, hQ70, l70, y70, z70⟩, st70⟩ := X68.virtualBack hx (y := (⟨"com/example/periodic_jobs/periodicjobs/engine/DeliveryResult", "isAccepted", "()Z"⟩ : MethodName)) (z := (⟨"com/example/periodic_jobs/periodicjobs/engine/DeliveryResult", "isAccepted", "()Z"⟩ : MethodName)) hown (mvT hZ (hw _ (List.mem_of_getElem? (i := 90) rfl))) (mvT hZ (hw _ (List.mem_of_getElem? (i := 91) rfl))) (notFace_of_selects (args := #[]) (mvT hZ (hw _ (List.mem_of_getElem? (i := 93) rfl)))) (mvT hZ (hw _ (List.mem_of_getElem? (i := 93) rfl))) (mvT hZ (hw _ (List.mem_of_getElem? (i := 92) rfl))) (by decide) (backOf (W := 0) (rm16 l Z a0 hw [] b1 bx1 stv h5 n0 Z14 F7 E12 F10) hZ (hw _ (List.mem_of_getElem? (i := 94) rfl)) (hw _ (List.mem_of_getElem? (i := 3) rfl)) (by decide) (by decide)) qa70 qc70 (g := (mkF m 357 #[.val (.int p1), .val (.int p2), .val (.int (p1 &&& (3 : Int32))), .val (.int (p2 &&& (2147483647 : Int32))), .val (.int stv), .val (.ref b1), .val (.ref b5), .val (.int (1 : Int32)), .val (.int (1 : Int32)), .val (.int (1 : Int32))] [(.ref b1)])) rfl (by rw [hml]; rfl) (Steps.refl _) (argsL := []) (rest := []) (lenOf pd___Z rfl) rfl (by show 2 * 0 + _ ≤ _; exact Nat.le_of_eq rfl) (hb hby at_357) (fun _ _ => ⟨rfl, e68, (by decide : 4 + 0 ≤ _), (by decide : 30 + 0 ≤ _)⟩)
          dsimp only [Pt.U, Pt.locs, Pt.cells, Pt.slots] at X70 l70 y70 z70 st70 hQ70
          subst l70 y70 z70
          obtain ⟨hv70, M71, e70⟩ := hQ70
          obtain rfl : v70 = some (.int (1 : Int32)) := by rw [hv70]; rw [own_acc, if_pos cd67]
          have N71 := Fr.app N69 M71
          refine own_to (S' := T70.setTop (mkF m 360 #[.val (.int p1), .val (.int p2), .val (.int (p1 &&& (3 : Int32))), .val (.int (p2 &&& (2147483647 : Int32))), .val (.int stv), .val (.ref b1), .val (.ref b5), .val (.int (1 : Int32)), .val (.int (1 : Int32)), .val (.int (1 : Int32))] [(.int (1 : Int32))])) st70 ?_
          refine own_go (S' := T70.setTop (mkF m 362 #[.val (.int p1), .val (.int p2), .val (.int (p1 &&& (3 : Int32))), .val (.int (p2 &&& (2147483647 : Int32))), .val (.int stv), .val (.ref b1), .val (.ref b5), .val (.int (1 : Int32)), .val (.int (1 : Int32)), .val (.int (1 : Int32))] [(.int (1 : Int32)), (.int (1 : Int32))])) (fun tg kk => XS.iload X70.here hx rfl (hb hby at_360) rfl kk) ?_
          refine own_go (S' := T70.setTop (mkF m 365 #[.val (.int p1), .val (.int p2), .val (.int (p1 &&& (3 : Int32))), .val (.int (p2 &&& (2147483647 : Int32))), .val (.int stv), .val (.ref b1), .val (.ref b5), .val (.int (1 : Int32)), .val (.int (1 : Int32)), .val (.int (1 : Int32))] [])) (fun tg kk => XS.icmpNo X70.here hx rfl (hb hby at_362) rfl (XT.ii_ne_f (by decide)) kk) ?_
          refine own_go (S' := T70.setTop (mkF m 367 #[.val (.int p1), .val (.int p2), .val (.int (p1 &&& (3 : Int32))), .val (.int (p2 &&& (2147483647 : Int32))), .val (.int stv), .val (.ref b1), .val (.ref b5), .val (.int (1 : Int32)), .val (.int (1 : Int32)), .val (.int (1 : Int32))] [(.ref b1)])) (fun tg kk => XS.aload X70.here hx rfl (hb hby at_365) rfl rfl kk) ?_
          obtain ⟨cq72, kq72, qa72, qb72, qc72⟩ := isOf hZ e70 E11
          obtain ⟨v72, _, ⟨T72, L72, k72, n72⟩, -, X72, ⟨Lc72, hQ72, l72, y72, z72⟩, st72⟩ := X70.virtualBack hx (y := (⟨"com/example/periodic_jobs/periodicjobs/engine/DeliveryResult", "isWorthRetrying", "()Z"⟩ : MethodName)) (z := (⟨"com/example/periodic_jobs/periodicjobs/engine/DeliveryResult", "isWorthRetrying", "()Z"⟩ : MethodName)) hown (mvT hZ (hw _ (List.mem_of_getElem? (i := 95) rfl))) (mvT hZ (hw _ (List.mem_of_getElem? (i := 96) rfl))) (notFace_of_selects (args := #[]) (mvT hZ (hw _ (List.mem_of_getElem? (i := 98) rfl)))) (mvT hZ (hw _ (List.mem_of_getElem? (i := 98) rfl))) (mvT hZ (hw _ (List.mem_of_getElem? (i := 97) rfl))) (by decide) (backOf (W := 0) (rm17 l Z a0 hw [] b1 bx1 stv h5 n0 Z14 F7 E12 F10) hZ (hw _ (List.mem_of_getElem? (i := 99) rfl)) (hw _ (List.mem_of_getElem? (i := 3) rfl)) (by decide) (by decide)) qa72 qc72 (g := (mkF m 367 #[.val (.int p1), .val (.int p2), .val (.int (p1 &&& (3 : Int32))), .val (.int (p2 &&& (2147483647 : Int32))), .val (.int stv), .val (.ref b1), .val (.ref b5), .val (.int (1 : Int32)), .val (.int (1 : Int32)), .val (.int (1 : Int32))] [(.ref b1)])) rfl (by rw [hml]; rfl) (Steps.refl _) (argsL := []) (rest := []) (lenOf pd___Z rfl) rfl (by show 2 * 0 + _ ≤ _; exact Nat.le_of_eq rfl) (hb hby at_367) (fun _ _ => ⟨rfl, e70, (by decide : 4 + 0 ≤ _), (by decide : 30 + 0 ≤ _)⟩)
          dsimp only [Pt.U, Pt.locs, Pt.cells, Pt.slots] at X72 l72 y72 z72 st72 hQ72
          subst l72 y72 z72
          obtain ⟨hv72, M73, e72⟩ := hQ72
          obtain rfl : v72 = some (.int (1 : Int32)) := by rw [hv72]; rw [own_retry_eq, if_pos (by have q0 := cd25; have q1 := cd32; have q2 := cd67; have e0 : (200 : Int32).toInt = 200 := (by decide); have e1 : (202 : Int32).toInt = 202 := (by decide); have e2 : (299 : Int32).toInt = 299 := (by decide); have e3 : (400 : Int32).toInt = 400 := (by decide); simp only [Int32.lt_iff_toInt_lt, ← Int32.toInt_inj] at q0 q1 q2 ⊢; omega)]
          have N73 := Fr.app N71 M73
          refine own_to (S' := T72.setTop (mkF m 370 #[.val (.int p1), .val (.int p2), .val (.int (p1 &&& (3 : Int32))), .val (.int (p2 &&& (2147483647 : Int32))), .val (.int stv), .val (.ref b1), .val (.ref b5), .val (.int (1 : Int32)), .val (.int (1 : Int32)), .val (.int (1 : Int32))] [(.int (1 : Int32))])) st72 ?_
          refine own_go (S' := T72.setTop (mkF m 372 #[.val (.int p1), .val (.int p2), .val (.int (p1 &&& (3 : Int32))), .val (.int (p2 &&& (2147483647 : Int32))), .val (.int stv), .val (.ref b1), .val (.ref b5), .val (.int (1 : Int32)), .val (.int (1 : Int32)), .val (.int (1 : Int32))] [(.int (1 : Int32)), (.int (1 : Int32))])) (fun tg kk => XS.iload X72.here hx rfl (hb hby at_370) rfl kk) ?_
          refine own_go (S' := T72.setTop (mkF m 375 #[.val (.int p1), .val (.int p2), .val (.int (p1 &&& (3 : Int32))), .val (.int (p2 &&& (2147483647 : Int32))), .val (.int stv), .val (.ref b1), .val (.ref b5), .val (.int (1 : Int32)), .val (.int (1 : Int32)), .val (.int (1 : Int32))] [])) (fun tg kk => XS.icmpNo X72.here hx rfl (hb hby at_372) rfl (XT.ii_ne_f (by decide)) kk) ?_
          refine own_go (S' := T72.setTop (mkF m 376 #[.val (.int p1), .val (.int p2), .val (.int (p1 &&& (3 : Int32))), .val (.int (p2 &&& (2147483647 : Int32))), .val (.int stv), .val (.ref b1), .val (.ref b5), .val (.int (1 : Int32)), .val (.int (1 : Int32)), .val (.int (1 : Int32))] [(.int (1 : Int32))])) (fun tg kk => XT.iconstV X72.here hx rfl (1 : Int32) (hb hby at_375) (by decide) kk) ?_
          refine own_go (S' := T72.setTop (mkF m 380 #[.val (.int p1), .val (.int p2), .val (.int (p1 &&& (3 : Int32))), .val (.int (p2 &&& (2147483647 : Int32))), .val (.int stv), .val (.ref b1), .val (.ref b5), .val (.int (1 : Int32)), .val (.int (1 : Int32)), .val (.int (1 : Int32))] [(.int (1 : Int32))])) (fun tg kk => XS.goto X72.here hx rfl (pc0 := 376) (pc' := 380) rfl (hb hby at_376) (by decide) (by decide) kk) ?_
          obtain ⟨fs, hr, hrun, hended, hW, hsame⟩ := X72.leave (v := some (.int (1 : Int32))) (fun h => by rw [Bd.returns] at h; cases h)
          refine ⟨_, _, retN X72 hx (t := .boolean) Bd.returns (by simp) (hb hby at_380) hr, hrun, hended, _, _, rfl, ?_, ⟨_, rfl⟩, hW, hsame.mono (by decide) (by decide)⟩
          show Q0 Z p1 p2 ca clc em h0 n0 (some (.int (1 : Int32))) T72.heap _
          rw [e72]
          exact ⟨rfl, N73⟩
        · refine own_go (S' := T23.setTop (mkF m 303 #[.val (.int p1), .val (.int p2), .val (.int (p1 &&& (3 : Int32))), .val (.int (p2 &&& (2147483647 : Int32))), .val (.int stv), .val (.ref b1), .val (.ref b5), .val (.int (1 : Int32)), .unset, .unset] [])) (fun tg kk => XS.icmpYes X23.here hx rfl (pc0 := 296) (pc' := 303) rfl (hb hby at_296) rfl (XT.ii_ne_t cd67) (by decide) (by decide) kk) ?_
          refine own_go (S' := T23.setTop (mkF m 304 #[.val (.int p1), .val (.int p2), .val (.int (p1 &&& (3 : Int32))), .val (.int (p2 &&& (2147483647 : Int32))), .val (.int stv), .val (.ref b1), .val (.ref b5), .val (.int (1 : Int32)), .unset, .unset] [(.int (0 : Int32))])) (fun tg kk => XT.iconstV X23.here hx rfl (0 : Int32) (hb hby at_303) (by decide) kk) ?_
          refine own_go (S' := T23.setTop (mkF m 306 #[.val (.int p1), .val (.int p2), .val (.int (p1 &&& (3 : Int32))), .val (.int (p2 &&& (2147483647 : Int32))), .val (.int stv), .val (.ref b1), .val (.ref b5), .val (.int (1 : Int32)), .val (.int (0 : Int32)), .unset] [])) (fun tg kk => XS.istore X23.here hx rfl (hb hby at_304) rfl (l' := #[.val (.int p1), .val (.int p2), .val (.int (p1 &&& (3 : Int32))), .val (.int (p2 &&& (2147483647 : Int32))), .val (.int stv), .val (.ref b1), .val (.ref b5), .val (.int (1 : Int32)), .val (.int (0 : Int32)), .unset]) rfl kk) ?_
          refine own_go (S' := T23.setTop (mkF m 308 #[.val (.int p1), .val (.int p2), .val (.int (p1 &&& (3 : Int32))), .val (.int (p2 &&& (2147483647 : Int32))), .val (.int stv), .val (.ref b1), .val (.ref b5), .val (.int (1 : Int32)), .val (.int (0 : Int32)), .unset] [(.int stv)])) (fun tg kk => XS.iload X23.here hx rfl (hb hby at_306) rfl kk) ?_
          refine own_go (S' := T23.setTop (mkF m 311 #[.val (.int p1), .val (.int p2), .val (.int (p1 &&& (3 : Int32))), .val (.int (p2 &&& (2147483647 : Int32))), .val (.int stv), .val (.ref b1), .val (.ref b5), .val (.int (1 : Int32)), .val (.int (0 : Int32)), .unset] [(.int (400 : Int32)), (.int stv)])) (fun tg kk => XT.sipushV X23.here hx rfl (400 : Int32) (hb hby at_308) (by decide) kk) ?_
          refine own_go (S' := T23.setTop (mkF m 338 #[.val (.int p1), .val (.int p2), .val (.int (p1 &&& (3 : Int32))), .val (.int (p2 &&& (2147483647 : Int32))), .val (.int stv), .val (.ref b1), .val (.ref b5), .val (.int (1 : Int32)), .val (.int (0 : Int32)), .unset] [])) (fun tg kk => XS.icmpYes X23.here hx rfl (pc0 := 311) (pc' := 338) rfl (hb hby at_311) rfl (XT.ii_lt_t (by have q0 := cd25; have q1 := cd32; have q2 := cd67; have e0 : (200 : Int32).toInt = 200 := (by decide); have e1 : (202 : Int32).toInt = 202 := (by decide); have e2 : (299 : Int32).toInt = 299 := (by decide); have e3 : (400 : Int32).toInt = 400 := (by decide); simp only [Int32.lt_iff_toInt_lt, ← Int32.toInt_inj] at q0 q1 q2 ⊢; omega)) (by decide) (by decide) kk) ?_
          refine own_go (S' := T23.setTop (mkF m 339 #[.val (.int p1), .val (.int p2), .val (.int (p1 &&& (3 : Int32))), .val (.int (p2 &&& (2147483647 : Int32))), .val (.int stv), .val (.ref b1), .val (.ref b5), .val (.int (1 : Int32)), .val (.int (0 : Int32)), .unset] [(.int (1 : Int32))])) (fun tg kk => XT.iconstV X23.here hx rfl (1 : Int32) (hb hby at_338) (by decide) kk) ?_
          refine own_go (S' := T23.setTop (mkF m 343 #[.val (.int p1), .val (.int p2), .val (.int (p1 &&& (3 : Int32))), .val (.int (p2 &&& (2147483647 : Int32))), .val (.int stv), .val (.ref b1), .val (.ref b5), .val (.int (1 : Int32)), .val (.int (0 : Int32)), .unset] [(.int (1 : Int32))])) (fun tg kk => XS.goto X23.here hx rfl (pc0 := 339) (pc' := 343) rfl (hb hby at_339) (by decide) (by decide) kk) ?_
          refine own_go (S' := T23.setTop (mkF m 345 #[.val (.int p1), .val (.int p2), .val (.int (p1 &&& (3 : Int32))), .val (.int (p2 &&& (2147483647 : Int32))), .val (.int stv), .val (.ref b1), .val (.ref b5), .val (.int (1 : Int32)), .val (.int (0 : Int32)), .val (.int (1 : Int32))] [])) (fun tg kk => XS.istore X23.here hx rfl (hb hby at_343) rfl (l' := #[.val (.int p1), .val (.int p2), .val (.int (p1 &&& (3 : Int32))), .val (.int (p2 &&& (2147483647 : Int32))), .val (.int stv), .val (.ref b1), .val (.ref b5), .val (.int (1 : Int32)), .val (.int (0 : Int32)), .val (.int (1 : Int32))]) rfl kk) ?_
          refine own_go (S' := T23.setTop (mkF m 347 #[.val (.int p1), .val (.int p2), .val (.int (p1 &&& (3 : Int32))), .val (.int (p2 &&& (2147483647 : Int32))), .val (.int stv), .val (.ref b1), .val (.ref b5), .val (.int (1 : Int32)), .val (.int (0 : Int32)), .val (.int (1 : Int32))] [(.ref b1)])) (fun tg kk => XS.aload X23.here hx rfl (hb hby at_345) rfl rfl kk) ?_
          obtain ⟨cq74, kq74, qa74, qb74, qc74⟩ := isOf hZ e23 E11
          obtain ⟨v74, _, ⟨T74, L74, k74, n74⟩, -, X74, ⟨Lc74, hQ74, l74, y74, z74⟩, st74⟩ := X23.virtualBack hx (y := (⟨"com/example/periodic_jobs/periodicjobs/engine/DeliveryResult", "isSuccess", "()Z"⟩ : MethodName)) (z := (⟨"com/example/periodic_jobs/periodicjobs/engine/DeliveryResult", "isSuccess", "()Z"⟩ : MethodName)) hown (mvT hZ (hw _ (List.mem_of_getElem? (i := 85) rfl))) (mvT hZ (hw _ (List.mem_of_getElem? (i := 86) rfl))) (notFace_of_selects (args := #[]) (mvT hZ (hw _ (List.mem_of_getElem? (i := 88) rfl)))) (mvT hZ (hw _ (List.mem_of_getElem? (i := 88) rfl))) (mvT hZ (hw _ (List.mem_of_getElem? (i := 87) rfl))) (by decide) (backOf (W := 0) (rm15 l Z a0 hw [] b1 bx1 stv h5 n0 Z14 F8 F7 E12 F10) hZ (hw _ (List.mem_of_getElem? (i := 89) rfl)) (hw _ (List.mem_of_getElem? (i := 3) rfl)) (by decide) (by decide)) qa74 qc74 (g := (mkF m 347 #[.val (.int p1), .val (.int p2), .val (.int (p1 &&& (3 : Int32))), .val (.int (p2 &&& (2147483647 : Int32))), .val (.int stv), .val (.ref b1), .val (.ref b5), .val (.int (1 : Int32)), .val (.int (0 : Int32)), .val (.int (1 : Int32))] [(.ref b1)])) rfl (by rw [hml]; rfl) (Steps.refl _) (argsL := []) (rest := []) (lenOf pd___Z rfl) rfl (by show 2 * 0 + _ ≤ _; exact Nat.le_of_eq rfl) (hb hby at_347) (fun _ _ => ⟨rfl, e23, (by decide : 4 + 0 ≤ _), (by decide : 30 + 0 ≤ _)⟩)
          dsimp only [Pt.U, Pt.locs, Pt.cells, Pt.slots] at X74 l74 y74 z74 st74 hQ74
          subst l74 y74 z74
          obtain ⟨hv74, M75, e74⟩ := hQ74
          obtain rfl : v74 = some (.int (1 : Int32)) := by rw [hv74]; rw [own_succ_eq, if_neg cd25, if_neg cd32]
          have N75 := Fr.app N24 M75
          refine own_to (S' := T74.setTop (mkF m 350 #[.val (.int p1), .val (.int p2), .val (.int (p1 &&& (3 : Int32))), .val (.int (p2 &&& (2147483647 : Int32))), .val (.int stv), .val (.ref b1), .val (.ref b5), .val (.int (1 : Int32)), .val (.int (0 : Int32)), .val (.int (1 : Int32))] [(.int (1 : Int32))])) st74 ?_
          refine own_go (S' := T74.setTop (mkF m 352 #[.val (.int p1), .val (.int p2), .val (.int (p1 &&& (3 : Int32))), .val (.int (p2 &&& (2147483647 : Int32))), .val (.int stv), .val (.ref b1), .val (.ref b5), .val (.int (1 : Int32)), .val (.int (0 : Int32)), .val (.int (1 : Int32))] [(.int (1 : Int32)), (.int (1 : Int32))])) (fun tg kk => XS.iload X74.here hx rfl (hb hby at_350) rfl kk) ?_
          refine own_go (S' := T74.setTop (mkF m 355 #[.val (.int p1), .val (.int p2), .val (.int (p1 &&& (3 : Int32))), .val (.int (p2 &&& (2147483647 : Int32))), .val (.int stv), .val (.ref b1), .val (.ref b5), .val (.int (1 : Int32)), .val (.int (0 : Int32)), .val (.int (1 : Int32))] [])) (fun tg kk => XS.icmpNo X74.here hx rfl (hb hby at_352) rfl (XT.ii_ne_f (by decide)) kk) ?_
          refine own_go (S' := T74.setTop (mkF m 357 #[.val (.int p1), .val (.int p2), .val (.int (p1 &&& (3 : Int32))), .val (.int (p2 &&& (2147483647 : Int32))), .val (.int stv), .val (.ref b1), .val (.ref b5), .val (.int (1 : Int32)), .val (.int (0 : Int32)), .val (.int (1 : Int32))] [(.ref b1)])) (fun tg kk => XS.aload X74.here hx rfl (hb hby at_355) rfl rfl kk) ?_
          obtain ⟨cq76, kq76, qa76, qb76, qc76⟩ := isOf hZ e74 E11
          obtain ⟨v76, _, ⟨T76, L76, k76, n76⟩, -, X76, ⟨Lc76, hQ76, l76, y76, z76⟩, st76⟩ := X74.virtualBack hx (y := (⟨"com/example/periodic_jobs/periodicjobs/engine/DeliveryResult", "isAccepted", "()Z"⟩ : MethodName)) (z := (⟨"com/example/periodic_jobs/periodicjobs/engine/DeliveryResult", "isAccepted", "()Z"⟩ : MethodName)) hown (mvT hZ (hw _ (List.mem_of_getElem? (i := 90) rfl))) (mvT hZ (hw _ (List.mem_of_getElem? (i := 91) rfl))) (notFace_of_selects (args := #[]) (mvT hZ (hw _ (List.mem_of_getElem? (i := 93) rfl)))) (mvT hZ (hw _ (List.mem_of_getElem? (i := 93) rfl))) (mvT hZ (hw _ (List.mem_of_getElem? (i := 92) rfl))) (by decide) (backOf (W := 0) (rm16 l Z a0 hw [] b1 bx1 stv h5 n0 Z14 F7 E12 F10) hZ (hw _ (List.mem_of_getElem? (i := 94) rfl)) (hw _ (List.mem_of_getElem? (i := 3) rfl)) (by decide) (by decide)) qa76 qc76 (g := (mkF m 357 #[.val (.int p1), .val (.int p2), .val (.int (p1 &&& (3 : Int32))), .val (.int (p2 &&& (2147483647 : Int32))), .val (.int stv), .val (.ref b1), .val (.ref b5), .val (.int (1 : Int32)), .val (.int (0 : Int32)), .val (.int (1 : Int32))] [(.ref b1)])) rfl (by rw [hml]; rfl) (Steps.refl _) (argsL := []) (rest := []) (lenOf pd___Z rfl) rfl (by show 2 * 0 + _ ≤ _; exact Nat.le_of_eq rfl) (hb hby at_357) (fun _ _ => ⟨rfl, e74, (by decide : 4 + 0 ≤ _), (by decide : 30 + 0 ≤ _)⟩)
          dsimp only [Pt.U, Pt.locs, Pt.cells, Pt.slots] at X76 l76 y76 z76 st76 hQ76
          subst l76 y76 z76
          obtain ⟨hv76, M77, e76⟩ := hQ76
          obtain rfl : v76 = some (.int (0 : Int32)) := by rw [hv76]; rw [own_acc, if_neg cd67]
          have N77 := Fr.app N75 M77
          refine own_to (S' := T76.setTop (mkF m 360 #[.val (.int p1), .val (.int p2), .val (.int (p1 &&& (3 : Int32))), .val (.int (p2 &&& (2147483647 : Int32))), .val (.int stv), .val (.ref b1), .val (.ref b5), .val (.int (1 : Int32)), .val (.int (0 : Int32)), .val (.int (1 : Int32))] [(.int (0 : Int32))])) st76 ?_
          refine own_go (S' := T76.setTop (mkF m 362 #[.val (.int p1), .val (.int p2), .val (.int (p1 &&& (3 : Int32))), .val (.int (p2 &&& (2147483647 : Int32))), .val (.int stv), .val (.ref b1), .val (.ref b5), .val (.int (1 : Int32)), .val (.int (0 : Int32)), .val (.int (1 : Int32))] [(.int (0 : Int32)), (.int (0 : Int32))])) (fun tg kk => XS.iload X76.here hx rfl (hb hby at_360) rfl kk) ?_
          refine own_go (S' := T76.setTop (mkF m 365 #[.val (.int p1), .val (.int p2), .val (.int (p1 &&& (3 : Int32))), .val (.int (p2 &&& (2147483647 : Int32))), .val (.int stv), .val (.ref b1), .val (.ref b5), .val (.int (1 : Int32)), .val (.int (0 : Int32)), .val (.int (1 : Int32))] [])) (fun tg kk => XS.icmpNo X76.here hx rfl (hb hby at_362) rfl (XT.ii_ne_f (by decide)) kk) ?_
          refine own_go (S' := T76.setTop (mkF m 367 #[.val (.int p1), .val (.int p2), .val (.int (p1 &&& (3 : Int32))), .val (.int (p2 &&& (2147483647 : Int32))), .val (.int stv), .val (.ref b1), .val (.ref b5), .val (.int (1 : Int32)), .val (.int (0 : Int32)), .val (.int (1 : Int32))] [(.ref b1)])) (fun tg kk => XS.aload X76.here hx rfl (hb hby at_365) rfl rfl kk) ?_
          obtain ⟨cq78, kq78, qa78, qb78, qc78⟩ := isOf hZ e76 E11
          obtain ⟨v78, _, ⟨T78, L78, k78, n78⟩, -, X78, ⟨Lc78, hQ78, l78, y78, z78⟩, st78⟩ := X76.virtualBack hx (y := (⟨"com/example/periodic_jobs/periodicjobs/engine/DeliveryResult", "isWorthRetrying", "()Z"⟩ : MethodName)) (z := (⟨"com/example/periodic_jobs/periodicjobs/engine/DeliveryResult", "isWorthRetrying", "()Z"⟩ : MethodName)) hown (mvT hZ (hw _ (List.mem_of_getElem? (i := 95) rfl))) (mvT hZ (hw _ (List.mem_of_getElem? (i := 96) rfl))) (notFace_of_selects (args := #[]) (mvT hZ (hw _ (List.mem_of_getElem? (i := 98) rfl)))) (mvT hZ (hw _ (List.mem_of_getElem? (i := 98) rfl))) (mvT hZ (hw _ (List.mem_of_getElem? (i := 97) rfl))) (by decide) (backOf (W := 0) (rm17 l Z a0 hw [] b1 bx1 stv h5 n0 Z14 F7 E12 F10) hZ (hw _ (List.mem_of_getElem? (i := 99) rfl)) (hw _ (List.mem_of_getElem? (i := 3) rfl)) (by decide) (by decide)) qa78 qc78 (g := (mkF m 367 #[.val (.int p1), .val (.int p2), .val (.int (p1 &&& (3 : Int32))), .val (.int (p2 &&& (2147483647 : Int32))), .val (.int stv), .val (.ref b1), .val (.ref b5), .val (.int (1 : Int32)), .val (.int (0 : Int32)), .val (.int (1 : Int32))] [(.ref b1)])) rfl (by rw [hml]; rfl) (Steps.refl _) (argsL := []) (rest := []) (lenOf pd___Z rfl) rfl (by show 2 * 0 + _ ≤ _; exact Nat.le_of_eq rfl) (hb hby at_367) (fun _ _ => ⟨rfl, e76, (by decide : 4 + 0 ≤ _), (by decide : 30 + 0 ≤ _)⟩)
          dsimp only [Pt.U, Pt.locs, Pt.cells, Pt.slots] at X78 l78 y78 z78 st78 hQ78
          subst l78 y78 z78
          obtain ⟨hv78, M79, e78⟩ := hQ78
          obtain rfl : v78 = some (.int (1 : Int32)) := by rw [hv78]; rw [own_retry_eq, if_pos (by have q0 := cd25; have q1 := cd32; have q2 := cd67; have e0 : (200 : Int32).toInt = 200 := (by decide); have e1 : (202 : Int32).toInt = 202 := (by decide); have e2 : (299 : Int32).toInt = 299 := (by decide); have e3 : (400 : Int32).toInt = 400 := (by decide); simp only [Int32.lt_iff_toInt_lt, ← Int32.toInt_inj] at q0 q1 q2 ⊢; omega)]
          have N79 := Fr.app N77 M79
          refine own_to (S' := T78.setTop (mkF m 370 #[.val (.int p1), .val (.int p2), .val (.int (p1 &&& (3 : Int32))), .val (.int (p2 &&& (2147483647 : Int32))), .val (.int stv), .val (.ref b1), .val (.ref b5), .val (.int (1 : Int32)), .val (.int (0 : Int32)), .val (.int (1 : Int32))] [(.int (1 : Int32))])) st78 ?_
          refine own_go (S' := T78.setTop (mkF m 372 #[.val (.int p1), .val (.int p2), .val (.int (p1 &&& (3 : Int32))), .val (.int (p2 &&& (2147483647 : Int32))), .val (.int stv), .val (.ref b1), .val (.ref b5), .val (.int (1 : Int32)), .val (.int (0 : Int32)), .val (.int (1 : Int32))] [(.int (1 : Int32)), (.int (1 : Int32))])) (fun tg kk => XS.iload X78.here hx rfl (hb hby at_370) rfl kk) ?_
          refine own_go (S' := T78.setTop (mkF m 375 #[.val (.int p1), .val (.int p2), .val (.int (p1 &&& (3 : Int32))), .val (.int (p2 &&& (2147483647 : Int32))), .val (.int stv), .val (.ref b1), .val (.ref b5), .val (.int (1 : Int32)), .val (.int (0 : Int32)), .val (.int (1 : Int32))] [])) (fun tg kk => XS.icmpNo X78.here hx rfl (hb hby at_372) rfl (XT.ii_ne_f (by decide)) kk) ?_
          refine own_go (S' := T78.setTop (mkF m 376 #[.val (.int p1), .val (.int p2), .val (.int (p1 &&& (3 : Int32))), .val (.int (p2 &&& (2147483647 : Int32))), .val (.int stv), .val (.ref b1), .val (.ref b5), .val (.int (1 : Int32)), .val (.int (0 : Int32)), .val (.int (1 : Int32))] [(.int (1 : Int32))])) (fun tg kk => XT.iconstV X78.here hx rfl (1 : Int32) (hb hby at_375) (by decide) kk) ?_
          refine own_go (S' := T78.setTop (mkF m 380 #[.val (.int p1), .val (.int p2), .val (.int (p1 &&& (3 : Int32))), .val (.int (p2 &&& (2147483647 : Int32))), .val (.int stv), .val (.ref b1), .val (.ref b5), .val (.int (1 : Int32)), .val (.int (0 : Int32)), .val (.int (1 : Int32))] [(.int (1 : Int32))])) (fun tg kk => XS.goto X78.here hx rfl (pc0 := 376) (pc' := 380) rfl (hb hby at_376) (by decide) (by decide) kk) ?_
          obtain ⟨fs, hr, hrun, hended, hW, hsame⟩ := X78.leave (v := some (.int (1 : Int32))) (fun h => by rw [Bd.returns] at h; cases h)
          refine ⟨_, _, retN X78 hx (t := .boolean) Bd.returns (by simp) (hb hby at_380) hr, hrun, hended, _, _, rfl, ?_, ⟨_, rfl⟩, hW, hsame.mono (by decide) (by decide)⟩
          show Q0 Z p1 p2 ca clc em h0 n0 (some (.int (1 : Int32))) T78.heap _
          rw [e78]
          exact ⟨rfl, N79⟩
  refine own_go (S' := s₁.setTop (mkF m 10 #[.val (.int p1), .val (.int p2), .val (.int (p1 &&& (3 : Int32))), .val (.int (p2 &&& (2147483647 : Int32))), .unset, .unset, .unset, .unset, .unset, .unset] [(.int (p1 &&& (3 : Int32)))])) (fun tg kk => XS.iloadN X0.here hx rfl (hb hby at_9) rfl kk) ?_
  by_cases cd80 : (p1 &&& (3 : Int32)) = 0
  · refine own_go (S' := s₁.setTop (mkF m 13 #[.val (.int p1), .val (.int p2), .val (.int (p1 &&& (3 : Int32))), .val (.int (p2 &&& (2147483647 : Int32))), .unset, .unset, .unset, .unset, .unset, .unset] [])) (fun tg kk => XS.ifNo X0.here hx rfl (hb hby at_10) rfl (XT.i0_ne_f cd80) kk) ?_
    refine own_go (S' := s₁.setTop (mkF m 14 #[.val (.int p1), .val (.int p2), .val (.int (p1 &&& (3 : Int32))), .val (.int (p2 &&& (2147483647 : Int32))), .unset, .unset, .unset, .unset, .unset, .unset] [(.int p2)])) (fun tg kk => XS.iloadN X0.here hx rfl (hb hby at_13) rfl kk) ?_
    refine own_go (S' := s₁.setTop (mkF m 16 #[.val (.int p1), .val (.int p2), .val (.int (p1 &&& (3 : Int32))), .val (.int (p2 &&& (2147483647 : Int32))), .val (.int p2), .unset, .unset, .unset, .unset, .unset] [])) (fun tg kk => XS.istore X0.here hx rfl (hb hby at_14) rfl (l' := #[.val (.int p1), .val (.int p2), .val (.int (p1 &&& (3 : Int32))), .val (.int (p2 &&& (2147483647 : Int32))), .val (.int p2), .unset, .unset, .unset, .unset, .unset]) rfl kk) ?_
    refine own_go (S' := s₁.setTop (mkF m 211 #[.val (.int p1), .val (.int p2), .val (.int (p1 &&& (3 : Int32))), .val (.int (p2 &&& (2147483647 : Int32))), .val (.int p2), .unset, .unset, .unset, .unset, .unset] [])) (fun tg kk => XS.goto X0.here hx rfl (pc0 := 16) (pc' := 211) rfl (hb hby at_16) (by decide) (by decide) kk) ?_
    exact key p2 .unset _ _ _ (X0.mono (by decide) (by decide)) e0 N0 Z0 O0 One.u
  · refine own_go (S' := s₁.setTop (mkF m 19 #[.val (.int p1), .val (.int p2), .val (.int (p1 &&& (3 : Int32))), .val (.int (p2 &&& (2147483647 : Int32))), .unset, .unset, .unset, .unset, .unset, .unset] [])) (fun tg kk => XS.ifYes X0.here hx rfl (pc0 := 10) (pc' := 19) rfl (hb hby at_10) rfl (XT.i0_ne_t cd80) (by decide) (by decide) kk) ?_
    refine own_go (S' := s₁.setTop (mkF m 20 #[.val (.int p1), .val (.int p2), .val (.int (p1 &&& (3 : Int32))), .val (.int (p2 &&& (2147483647 : Int32))), .unset, .unset, .unset, .unset, .unset, .unset] [(.int (p1 &&& (3 : Int32)))])) (fun tg kk => XS.iloadN X0.here hx rfl (hb hby at_19) rfl kk) ?_
    refine own_go (S' := s₁.setTop (mkF m 21 #[.val (.int p1), .val (.int p2), .val (.int (p1 &&& (3 : Int32))), .val (.int (p2 &&& (2147483647 : Int32))), .unset, .unset, .unset, .unset, .unset, .unset] [(.int (1 : Int32)), (.int (p1 &&& (3 : Int32)))])) (fun tg kk => XT.iconstV X0.here hx rfl (1 : Int32) (hb hby at_20) (by decide) kk) ?_
    by_cases cd81 : (p1 &&& (3 : Int32)) = (1 : Int32)
    · refine own_go (S' := s₁.setTop (mkF m 24 #[.val (.int p1), .val (.int p2), .val (.int (p1 &&& (3 : Int32))), .val (.int (p2 &&& (2147483647 : Int32))), .unset, .unset, .unset, .unset, .unset, .unset] [])) (fun tg kk => XS.icmpNo X0.here hx rfl (hb hby at_21) rfl (XT.ii_ne_f cd81) kk) ?_
      refine own_go (S' := s₁.setTop (mkF m 26 #[.val (.int p1), .val (.int p2), .val (.int (p1 &&& (3 : Int32))), .val (.int (p2 &&& (2147483647 : Int32))), .unset, .unset, .unset, .unset, .unset, .unset] [(.int (100 : Int32))])) (fun tg kk => XT.bipushV X0.here hx rfl (100 : Int32) (hb hby at_24) (by decide) kk) ?_
      refine own_go (S' := s₁.setTop (mkF m 27 #[.val (.int p1), .val (.int p2), .val (.int (p1 &&& (3 : Int32))), .val (.int (p2 &&& (2147483647 : Int32))), .unset, .unset, .unset, .unset, .unset, .unset] [(.int (p2 &&& (2147483647 : Int32))), (.int (100 : Int32))])) (fun tg kk => XS.iloadN X0.here hx rfl (hb hby at_26) rfl kk) ?_
      refine own_go (S' := s₁.setTop (mkF m 30 #[.val (.int p1), .val (.int p2), .val (.int (p1 &&& (3 : Int32))), .val (.int (p2 &&& (2147483647 : Int32))), .unset, .unset, .unset, .unset, .unset, .unset] [(.int (500 : Int32)), (.int (p2 &&& (2147483647 : Int32))), (.int (100 : Int32))])) (fun tg kk => XT.sipushV X0.here hx rfl (500 : Int32) (hb hby at_27) (by decide) kk) ?_
      refine own_go (S' := s₁.setTop (mkF m 31 #[.val (.int p1), .val (.int p2), .val (.int (p1 &&& (3 : Int32))), .val (.int (p2 &&& (2147483647 : Int32))), .unset, .unset, .unset, .unset, .unset, .unset] [(.int ((p2 &&& (2147483647 : Int32)) % (500 : Int32))), (.int (100 : Int32))])) (fun tg kk => iremM X0 hx rfl (hb hby at_30) rfl (by decide) kk) ?_
      refine own_go (S' := s₁.setTop (mkF m 32 #[.val (.int p1), .val (.int p2), .val (.int (p1 &&& (3 : Int32))), .val (.int (p2 &&& (2147483647 : Int32))), .unset, .unset, .unset, .unset, .unset, .unset] [(.int ((100 : Int32) + ((p2 &&& (2147483647 : Int32)) % (500 : Int32))))])) (fun tg kk => XS.iadd X0.here hx rfl (hb hby at_31) rfl kk) ?_
      refine own_go (S' := s₁.setTop (mkF m 34 #[.val (.int p1), .val (.int p2), .val (.int (p1 &&& (3 : Int32))), .val (.int (p2 &&& (2147483647 : Int32))), .val (.int ((100 : Int32) + ((p2 &&& (2147483647 : Int32)) % (500 : Int32)))), .unset, .unset, .unset, .unset, .unset] [])) (fun tg kk => XS.istore X0.here hx rfl (hb hby at_32) rfl (l' := #[.val (.int p1), .val (.int p2), .val (.int (p1 &&& (3 : Int32))), .val (.int (p2 &&& (2147483647 : Int32))), .val (.int ((100 : Int32) + ((p2 &&& (2147483647 : Int32)) % (500 : Int32)))), .unset, .unset, .unset, .unset, .unset]) rfl kk) ?_
      refine own_go (S' := s₁.setTop (mkF m 211 #[.val (.int p1), .val (.int p2), .val (.int (p1 &&& (3 : Int32))), .val (.int (p2 &&& (2147483647 : Int32))), .val (.int ((100 : Int32) + ((p2 &&& (2147483647 : Int32)) % (500 : Int32)))), .unset, .unset, .unset, .unset, .unset] [])) (fun tg kk => XS.goto X0.here hx rfl (pc0 := 34) (pc' := 211) rfl (hb hby at_34) (by decide) (by decide) kk) ?_
      exact key ((100 : Int32) + ((p2 &&& (2147483647 : Int32)) % (500 : Int32))) .unset _ _ _ (X0.mono (by decide) (by decide)) e0 N0 Z0 O0 One.u
    · refine own_go (S' := s₁.setTop (mkF m 37 #[.val (.int p1), .val (.int p2), .val (.int (p1 &&& (3 : Int32))), .val (.int (p2 &&& (2147483647 : Int32))), .unset, .unset, .unset, .unset, .unset, .unset] [])) (fun tg kk => XS.icmpYes X0.here hx rfl (pc0 := 21) (pc' := 37) rfl (hb hby at_21) rfl (XT.ii_ne_t cd81) (by decide) (by decide) kk) ?_
      refine own_go (S' := s₁.setTop (mkF m 39 #[.val (.int p1), .val (.int p2), .val (.int (p1 &&& (3 : Int32))), .val (.int (p2 &&& (2147483647 : Int32))), .unset, .unset, .unset, .unset, .unset, .unset] [(.int (24 : Int32))])) (fun tg kk => XT.bipushV X0.here hx rfl (24 : Int32) (hb hby at_37) (by decide) kk) ?_
      obtain ⟨T82, h82, cA82, X82, e82, Ex82, A82, st82⟩ := newP X0 hx hZ (hw _ (List.mem_of_getElem? (i := 100) rfl)) e0 (g := (mkF m 39 #[.val (.int p1), .val (.int p2), .val (.int (p1 &&& (3 : Int32))), .val (.int (p2 &&& (2147483647 : Int32))), .unset, .unset, .unset, .unset, .unset, .unset] [(.int (24 : Int32))])) rfl (hb hby at_39) rfl (n := (24 : Int32)) (by decide) (cap := 24) (by decide) (by decide) (by decide) (by decide)
      obtain ⟨a82, g82⟩ : ∃ z, z = h0.size := ⟨_, rfl⟩
      rw [← g82] at A82 st82
      have q82 : n0 ≤ a82 := by rw [g82]; exact Z0
      have O83 : Old Z n0 h82 := O0.ext Ex82
      have Z84 : n0 ≤ h82.size := Nat.le_trans Z0 Ex82.1
      refine own_go (S' := T82.setTop (mkF m 41 #[.val (.int p1), .val (.int p2), .val (.int (p1 &&& (3 : Int32))), .val (.int (p2 &&& (2147483647 : Int32))), .unset, .unset, .unset, .unset, .unset, .unset] [(.ref a82)])) (st82) ?_
      have V82 : Arv Z h82 a82 cA82 .int (24 : Int32) [(.int (0 : Int32)), (.int (0 : Int32)), (.int (0 : Int32)), (.int (0 : Int32)), (.int (0 : Int32)), (.int (0 : Int32)), (.int (0 : Int32)), (.int (0 : Int32)), (.int (0 : Int32)), (.int (0 : Int32)), (.int (0 : Int32)), (.int (0 : Int32)), (.int (0 : Int32)), (.int (0 : Int32)), (.int (0 : Int32)), (.int (0 : Int32)), (.int (0 : Int32)), (.int (0 : Int32)), (.int (0 : Int32)), (.int (0 : Int32)), (.int (0 : Int32)), (.int (0 : Int32)), (.int (0 : Int32)), (.int (0 : Int32))] (.int (0 : Int32)) := (Arv.new A82 (by decide)).pad (pad_rep [] (.int (0 : Int32)) 24)
      refine own_go (S' := T82.setTop (mkF m 42 #[.val (.int p1), .val (.int p2), .val (.int (p1 &&& (3 : Int32))), .val (.int (p2 &&& (2147483647 : Int32))), .unset, .unset, .unset, .unset, .unset, .unset] [(.ref a82), (.ref a82)])) (fun tg kk => XS.dup X82.here hx rfl (hb hby at_41) rfl rfl kk) ?_
      refine own_go (S' := T82.setTop (mkF m 43 #[.val (.int p1), .val (.int p2), .val (.int (p1 &&& (3 : Int32))), .val (.int (p2 &&& (2147483647 : Int32))), .unset, .unset, .unset, .unset, .unset, .unset] [(.int (0 : Int32)), (.ref a82), (.ref a82)])) (fun tg kk => XT.iconstV X82.here hx rfl (0 : Int32) (hb hby at_42) (by decide) kk) ?_
      refine own_go (S' := T82.setTop (mkF m 46 #[.val (.int p1), .val (.int p2), .val (.int (p1 &&& (3 : Int32))), .val (.int (p2 &&& (2147483647 : Int32))), .unset, .unset, .unset, .unset, .unset, .unset] [(.int (199 : Int32)), (.int (0 : Int32)), (.ref a82), (.ref a82)])) (fun tg kk => XT.sipushV X82.here hx rfl (199 : Int32) (hb hby at_43) (by decide) kk) ?_
      obtain ⟨cl85, Ar85, q1_85, S85, q3_85, H85, G85⟩ := id V82
      have hj85 := inb_of (j := (0 : Int32)) S85 ⟨by decide, by decide⟩
      obtain ⟨T85, h85, X85, e85, W85, st85⟩ := stI X82 hx hZ e82 Ar85 hj85 (g := (mkF m 46 #[.val (.int p1), .val (.int p2), .val (.int (p1 &&& (3 : Int32))), .val (.int (p2 &&& (2147483647 : Int32))), .unset, .unset, .unset, .unset, .unset, .unset] [(.int (199 : Int32)), (.int (0 : Int32)), (.ref a82), (.ref a82)])) rfl rfl (hb hby at_46)
      refine own_go (S' := T85.setTop (mkF m 47 #[.val (.int p1), .val (.int p2), .val (.int (p1 &&& (3 : Int32))), .val (.int (p2 &&& (2147483647 : Int32))), .unset, .unset, .unset, .unset, .unset, .unset] [(.ref a82)])) (st85) ?_
      have N85 := Fr.snoc X85 N0 q82
      have O87 : Old Z n0 h85 := O83.wr W85 q82
      have Z88 : n0 ≤ h85.size := by rw [W85.size]; exact Z84
      have V85 : Arv Z h85 a82 cA82 .int (24 : Int32) [(.int (199 : Int32)), (.int (0 : Int32)), (.int (0 : Int32)), (.int (0 : Int32)), (.int (0 : Int32)), (.int (0 : Int32)), (.int (0 : Int32)), (.int (0 : Int32)), (.int (0 : Int32)), (.int (0 : Int32)), (.int (0 : Int32)), (.int (0 : Int32)), (.int (0 : Int32)), (.int (0 : Int32)), (.int (0 : Int32)), (.int (0 : Int32)), (.int (0 : Int32)), (.int (0 : Int32)), (.int (0 : Int32)), (.int (0 : Int32)), (.int (0 : Int32)), (.int (0 : Int32)), (.int (0 : Int32)), (.int (0 : Int32))] (.int (0 : Int32)) := Arv.set Ar85 q1_85 S85 q3_85 H85 G85 rfl W85 0 (by decide) (by show 0 < 24; decide)
      clear V82 st85 W85 hj85 H85 G85 q3_85 S85 q1_85 Ar85 cl85 O83 Z84 X82 e82
      refine own_go (S' := T85.setTop (mkF m 48 #[.val (.int p1), .val (.int p2), .val (.int (p1 &&& (3 : Int32))), .val (.int (p2 &&& (2147483647 : Int32))), .unset, .unset, .unset, .unset, .unset, .unset] [(.ref a82), (.ref a82)])) (fun tg kk => XS.dup X85.here hx rfl (hb hby at_47) rfl rfl kk) ?_
      refine own_go (S' := T85.setTop (mkF m 49 #[.val (.int p1), .val (.int p2), .val (.int (p1 &&& (3 : Int32))), .val (.int (p2 &&& (2147483647 : Int32))), .unset, .unset, .unset, .unset, .unset, .unset] [(.int (1 : Int32)), (.ref a82), (.ref a82)])) (fun tg kk => XT.iconstV X85.here hx rfl (1 : Int32) (hb hby at_48) (by decide) kk) ?_
      refine own_go (S' := T85.setTop (mkF m 52 #[.val (.int p1), .val (.int p2), .val (.int (p1 &&& (3 : Int32))), .val (.int (p2 &&& (2147483647 : Int32))), .unset, .unset, .unset, .unset, .unset, .unset] [(.int (200 : Int32)), (.int (1 : Int32)), (.ref a82), (.ref a82)])) (fun tg kk => XT.sipushV X85.here hx rfl (200 : Int32) (hb hby at_49) (by decide) kk) ?_
      obtain ⟨cl89, Ar89, q1_89, S89, q3_89, H89, G89⟩ := id V85
      have hj89 := inb_of (j := (1 : Int32)) S89 ⟨by decide, by decide⟩
      obtain ⟨T89, h89, X89, e89, W89, st89⟩ := stI X85 hx hZ e85 Ar89 hj89 (g := (mkF m 52 #[.val (.int p1), .val (.int p2), .val (.int (p1 &&& (3 : Int32))), .val (.int (p2 &&& (2147483647 : Int32))), .unset, .unset, .unset, .unset, .unset, .unset] [(.int (200 : Int32)), (.int (1 : Int32)), (.ref a82), (.ref a82)])) rfl rfl (hb hby at_52)
      refine own_go (S' := T89.setTop (mkF m 53 #[.val (.int p1), .val (.int p2), .val (.int (p1 &&& (3 : Int32))), .val (.int (p2 &&& (2147483647 : Int32))), .unset, .unset, .unset, .unset, .unset, .unset] [(.ref a82)])) (st89) ?_
      have N89 := Fr.snoc X89 N85 q82
      have O91 : Old Z n0 h89 := O87.wr W89 q82
      have Z92 : n0 ≤ h89.size := by rw [W89.size]; exact Z88
      have V89 : Arv Z h89 a82 cA82 .int (24 : Int32) [(.int (199 : Int32)), (.int (200 : Int32)), (.int (0 : Int32)), (.int (0 : Int32)), (.int (0 : Int32)), (.int (0 : Int32)), (.int (0 : Int32)), (.int (0 : Int32)), (.int (0 : Int32)), (.int (0 : Int32)), (.int (0 : Int32)), (.int (0 : Int32)), (.int (0 : Int32)), (.int (0 : Int32)), (.int (0 : Int32)), (.int (0 : Int32)), (.int (0 : Int32)), (.int (0 : Int32)), (.int (0 : Int32)), (.int (0 : Int32)), (.int (0 : Int32)), (.int (0 : Int32)), (.int (0 : Int32)), (.int (0 : Int32))] (.int (0 : Int32)) := Arv.set Ar89 q1_89 S89 q3_89 H89 G89 rfl W89 1 (by decide) (by show 1 < 24; decide)
      clear V85 st89 W89 hj89 H89 G89 q3_89 S89 q1_89 Ar89 cl89 N85 O87 Z88 X85 e85
      refine own_go (S' := T89.setTop (mkF m 54 #[.val (.int p1), .val (.int p2), .val (.int (p1 &&& (3 : Int32))), .val (.int (p2 &&& (2147483647 : Int32))), .unset, .unset, .unset, .unset, .unset, .unset] [(.ref a82), (.ref a82)])) (fun tg kk => XS.dup X89.here hx rfl (hb hby at_53) rfl rfl kk) ?_
      refine own_go (S' := T89.setTop (mkF m 55 #[.val (.int p1), .val (.int p2), .val (.int (p1 &&& (3 : Int32))), .val (.int (p2 &&& (2147483647 : Int32))), .unset, .unset, .unset, .unset, .unset, .unset] [(.int (2 : Int32)), (.ref a82), (.ref a82)])) (fun tg kk => XT.iconstV X89.here hx rfl (2 : Int32) (hb hby at_54) (by decide) kk) ?_
      refine own_go (S' := T89.setTop (mkF m 58 #[.val (.int p1), .val (.int p2), .val (.int (p1 &&& (3 : Int32))), .val (.int (p2 &&& (2147483647 : Int32))), .unset, .unset, .unset, .unset, .unset, .unset] [(.int (201 : Int32)), (.int (2 : Int32)), (.ref a82), (.ref a82)])) (fun tg kk => XT.sipushV X89.here hx rfl (201 : Int32) (hb hby at_55) (by decide) kk) ?_
      obtain ⟨cl93, Ar93, q1_93, S93, q3_93, H93, G93⟩ := id V89
      have hj93 := inb_of (j := (2 : Int32)) S93 ⟨by decide, by decide⟩
      obtain ⟨T93, h93, X93, e93, W93, st93⟩ := stI X89 hx hZ e89 Ar93 hj93 (g := (mkF m 58 #[.val (.int p1), .val (.int p2), .val (.int (p1 &&& (3 : Int32))), .val (.int (p2 &&& (2147483647 : Int32))), .unset, .unset, .unset, .unset, .unset, .unset] [(.int (201 : Int32)), (.int (2 : Int32)), (.ref a82), (.ref a82)])) rfl rfl (hb hby at_58)
      refine own_go (S' := T93.setTop (mkF m 59 #[.val (.int p1), .val (.int p2), .val (.int (p1 &&& (3 : Int32))), .val (.int (p2 &&& (2147483647 : Int32))), .unset, .unset, .unset, .unset, .unset, .unset] [(.ref a82)])) (st93) ?_
      have N93 := Fr.snoc X93 N89 q82
      have O95 : Old Z n0 h93 := O91.wr W93 q82
      have Z96 : n0 ≤ h93.size := by rw [W93.size]; exact Z92
      have V93 : Arv Z h93 a82 cA82 .int (24 : Int32) [(.int (199 : Int32)), (.int (200 : Int32)), (.int (201 : Int32)), (.int (0 : Int32)), (.int (0 : Int32)), (.int (0 : Int32)), (.int (0 : Int32)), (.int (0 : Int32)), (.int (0 : Int32)), (.int (0 : Int32)), (.int (0 : Int32)), (.int (0 : Int32)), (.int (0 : Int32)), (.int (0 : Int32)), (.int (0 : Int32)), (.int (0 : Int32)), (.int (0 : Int32)), (.int (0 : Int32)), (.int (0 : Int32)), (.int (0 : Int32)), (.int (0 : Int32)), (.int (0 : Int32)), (.int (0 : Int32)), (.int (0 : Int32))] (.int (0 : Int32)) := Arv.set Ar93 q1_93 S93 q3_93 H93 G93 rfl W93 2 (by decide) (by show 2 < 24; decide)
      clear V89 st93 W93 hj93 H93 G93 q3_93 S93 q1_93 Ar93 cl93 N89 O91 Z92 X89 e89
      refine own_go (S' := T93.setTop (mkF m 60 #[.val (.int p1), .val (.int p2), .val (.int (p1 &&& (3 : Int32))), .val (.int (p2 &&& (2147483647 : Int32))), .unset, .unset, .unset, .unset, .unset, .unset] [(.ref a82), (.ref a82)])) (fun tg kk => XS.dup X93.here hx rfl (hb hby at_59) rfl rfl kk) ?_
      refine own_go (S' := T93.setTop (mkF m 61 #[.val (.int p1), .val (.int p2), .val (.int (p1 &&& (3 : Int32))), .val (.int (p2 &&& (2147483647 : Int32))), .unset, .unset, .unset, .unset, .unset, .unset] [(.int (3 : Int32)), (.ref a82), (.ref a82)])) (fun tg kk => XT.iconstV X93.here hx rfl (3 : Int32) (hb hby at_60) (by decide) kk) ?_
      refine own_go (S' := T93.setTop (mkF m 64 #[.val (.int p1), .val (.int p2), .val (.int (p1 &&& (3 : Int32))), .val (.int (p2 &&& (2147483647 : Int32))), .unset, .unset, .unset, .unset, .unset, .unset] [(.int (202 : Int32)), (.int (3 : Int32)), (.ref a82), (.ref a82)])) (fun tg kk => XT.sipushV X93.here hx rfl (202 : Int32) (hb hby at_61) (by decide) kk) ?_
      obtain ⟨cl97, Ar97, q1_97, S97, q3_97, H97, G97⟩ := id V93
      have hj97 := inb_of (j := (3 : Int32)) S97 ⟨by decide, by decide⟩
      obtain ⟨T97, h97, X97, e97, W97, st97⟩ := stI X93 hx hZ e93 Ar97 hj97 (g := (mkF m 64 #[.val (.int p1), .val (.int p2), .val (.int (p1 &&& (3 : Int32))), .val (.int (p2 &&& (2147483647 : Int32))), .unset, .unset, .unset, .unset, .unset, .unset] [(.int (202 : Int32)), (.int (3 : Int32)), (.ref a82), (.ref a82)])) rfl rfl (hb hby at_64)
      refine own_go (S' := T97.setTop (mkF m 65 #[.val (.int p1), .val (.int p2), .val (.int (p1 &&& (3 : Int32))), .val (.int (p2 &&& (2147483647 : Int32))), .unset, .unset, .unset, .unset, .unset, .unset] [(.ref a82)])) (st97) ?_
      have N97 := Fr.snoc X97 N93 q82
      have O99 : Old Z n0 h97 := O95.wr W97 q82
      have Z100 : n0 ≤ h97.size := by rw [W97.size]; exact Z96
      have V97 : Arv Z h97 a82 cA82 .int (24 : Int32) [(.int (199 : Int32)), (.int (200 : Int32)), (.int (201 : Int32)), (.int (202 : Int32)), (.int (0 : Int32)), (.int (0 : Int32)), (.int (0 : Int32)), (.int (0 : Int32)), (.int (0 : Int32)), (.int (0 : Int32)), (.int (0 : Int32)), (.int (0 : Int32)), (.int (0 : Int32)), (.int (0 : Int32)), (.int (0 : Int32)), (.int (0 : Int32)), (.int (0 : Int32)), (.int (0 : Int32)), (.int (0 : Int32)), (.int (0 : Int32)), (.int (0 : Int32)), (.int (0 : Int32)), (.int (0 : Int32)), (.int (0 : Int32))] (.int (0 : Int32)) := Arv.set Ar97 q1_97 S97 q3_97 H97 G97 rfl W97 3 (by decide) (by show 3 < 24; decide)
      clear V93 st97 W97 hj97 H97 G97 q3_97 S97 q1_97 Ar97 cl97 N93 O95 Z96 X93 e93
      refine own_go (S' := T97.setTop (mkF m 66 #[.val (.int p1), .val (.int p2), .val (.int (p1 &&& (3 : Int32))), .val (.int (p2 &&& (2147483647 : Int32))), .unset, .unset, .unset, .unset, .unset, .unset] [(.ref a82), (.ref a82)])) (fun tg kk => XS.dup X97.here hx rfl (hb hby at_65) rfl rfl kk) ?_
      refine own_go (S' := T97.setTop (mkF m 67 #[.val (.int p1), .val (.int p2), .val (.int (p1 &&& (3 : Int32))), .val (.int (p2 &&& (2147483647 : Int32))), .unset, .unset, .unset, .unset, .unset, .unset] [(.int (4 : Int32)), (.ref a82), (.ref a82)])) (fun tg kk => XT.iconstV X97.here hx rfl (4 : Int32) (hb hby at_66) (by decide) kk) ?_
      refine own_go (S' := T97.setTop (mkF m 70 #[.val (.int p1), .val (.int p2), .val (.int (p1 &&& (3 : Int32))), .val (.int (p2 &&& (2147483647 : Int32))), .unset, .unset, .unset, .unset, .unset, .unset] [(.int (203 : Int32)), (.int (4 : Int32)), (.ref a82), (.ref a82)])) (fun tg kk => XT.sipushV X97.here hx rfl (203 : Int32) (hb hby at_67) (by decide) kk) ?_
      obtain ⟨cl101, Ar101, q1_101, S101, q3_101, H101, G101⟩ := id V97
      have hj101 := inb_of (j := (4 : Int32)) S101 ⟨by decide, by decide⟩
      obtain ⟨T101, h101, X101, e101, W101, st101⟩ := stI X97 hx hZ e97 Ar101 hj101 (g := (mkF m 70 #[.val (.int p1), .val (.int p2), .val (.int (p1 &&& (3 : Int32))), .val (.int (p2 &&& (2147483647 : Int32))), .unset, .unset, .unset, .unset, .unset, .unset] [(.int (203 : Int32)), (.int (4 : Int32)), (.ref a82), (.ref a82)])) rfl rfl (hb hby at_70)
      refine own_go (S' := T101.setTop (mkF m 71 #[.val (.int p1), .val (.int p2), .val (.int (p1 &&& (3 : Int32))), .val (.int (p2 &&& (2147483647 : Int32))), .unset, .unset, .unset, .unset, .unset, .unset] [(.ref a82)])) (st101) ?_
      have N101 := Fr.snoc X101 N97 q82
      have O103 : Old Z n0 h101 := O99.wr W101 q82
      have Z104 : n0 ≤ h101.size := by rw [W101.size]; exact Z100
      have V101 : Arv Z h101 a82 cA82 .int (24 : Int32) [(.int (199 : Int32)), (.int (200 : Int32)), (.int (201 : Int32)), (.int (202 : Int32)), (.int (203 : Int32)), (.int (0 : Int32)), (.int (0 : Int32)), (.int (0 : Int32)), (.int (0 : Int32)), (.int (0 : Int32)), (.int (0 : Int32)), (.int (0 : Int32)), (.int (0 : Int32)), (.int (0 : Int32)), (.int (0 : Int32)), (.int (0 : Int32)), (.int (0 : Int32)), (.int (0 : Int32)), (.int (0 : Int32)), (.int (0 : Int32)), (.int (0 : Int32)), (.int (0 : Int32)), (.int (0 : Int32)), (.int (0 : Int32))] (.int (0 : Int32)) := Arv.set Ar101 q1_101 S101 q3_101 H101 G101 rfl W101 4 (by decide) (by show 4 < 24; decide)
      clear V97 st101 W101 hj101 H101 G101 q3_101 S101 q1_101 Ar101 cl101 N97 O99 Z100 X97 e97
      refine own_go (S' := T101.setTop (mkF m 72 #[.val (.int p1), .val (.int p2), .val (.int (p1 &&& (3 : Int32))), .val (.int (p2 &&& (2147483647 : Int32))), .unset, .unset, .unset, .unset, .unset, .unset] [(.ref a82), (.ref a82)])) (fun tg kk => XS.dup X101.here hx rfl (hb hby at_71) rfl rfl kk) ?_
      refine own_go (S' := T101.setTop (mkF m 73 #[.val (.int p1), .val (.int p2), .val (.int (p1 &&& (3 : Int32))), .val (.int (p2 &&& (2147483647 : Int32))), .unset, .unset, .unset, .unset, .unset, .unset] [(.int (5 : Int32)), (.ref a82), (.ref a82)])) (fun tg kk => XT.iconstV X101.here hx rfl (5 : Int32) (hb hby at_72) (by decide) kk) ?_
      refine own_go (S' := T101.setTop (mkF m 76 #[.val (.int p1), .val (.int p2), .val (.int (p1 &&& (3 : Int32))), .val (.int (p2 &&& (2147483647 : Int32))), .unset, .unset, .unset, .unset, .unset, .unset] [(.int (299 : Int32)), (.int (5 : Int32)), (.ref a82), (.ref a82)])) (fun tg kk => XT.sipushV X101.here hx rfl (299 : Int32) (hb hby at_73) (by decide) kk) ?_
      obtain ⟨cl105, Ar105, q1_105, S105, q3_105, H105, G105⟩ := id V101
      have hj105 := inb_of (j := (5 : Int32)) S105 ⟨by decide, by decide⟩
      obtain ⟨T105, h105, X105, e105, W105, st105⟩ := stI X101 hx hZ e101 Ar105 hj105 (g := (mkF m 76 #[.val (.int p1), .val (.int p2), .val (.int (p1 &&& (3 : Int32))), .val (.int (p2 &&& (2147483647 : Int32))), .unset, .unset, .unset, .unset, .unset, .unset] [(.int (299 : Int32)), (.int (5 : Int32)), (.ref a82), (.ref a82)])) rfl rfl (hb hby at_76)
      refine own_go (S' := T105.setTop (mkF m 77 #[.val (.int p1), .val (.int p2), .val (.int (p1 &&& (3 : Int32))), .val (.int (p2 &&& (2147483647 : Int32))), .unset, .unset, .unset, .unset, .unset, .unset] [(.ref a82)])) (st105) ?_
      have N105 := Fr.snoc X105 N101 q82
      have O107 : Old Z n0 h105 := O103.wr W105 q82
      have Z108 : n0 ≤ h105.size := by rw [W105.size]; exact Z104
      have V105 : Arv Z h105 a82 cA82 .int (24 : Int32) [(.int (199 : Int32)), (.int (200 : Int32)), (.int (201 : Int32)), (.int (202 : Int32)), (.int (203 : Int32)), (.int (299 : Int32)), (.int (0 : Int32)), (.int (0 : Int32)), (.int (0 : Int32)), (.int (0 : Int32)), (.int (0 : Int32)), (.int (0 : Int32)), (.int (0 : Int32)), (.int (0 : Int32)), (.int (0 : Int32)), (.int (0 : Int32)), (.int (0 : Int32)), (.int (0 : Int32)), (.int (0 : Int32)), (.int (0 : Int32)), (.int (0 : Int32)), (.int (0 : Int32)), (.int (0 : Int32)), (.int (0 : Int32))] (.int (0 : Int32)) := Arv.set Ar105 q1_105 S105 q3_105 H105 G105 rfl W105 5 (by decide) (by show 5 < 24; decide)
      clear V101 st105 W105 hj105 H105 G105 q3_105 S105 q1_105 Ar105 cl105 N101 O103 Z104 X101 e101
      refine own_go (S' := T105.setTop (mkF m 78 #[.val (.int p1), .val (.int p2), .val (.int (p1 &&& (3 : Int32))), .val (.int (p2 &&& (2147483647 : Int32))), .unset, .unset, .unset, .unset, .unset, .unset] [(.ref a82), (.ref a82)])) (fun tg kk => XS.dup X105.here hx rfl (hb hby at_77) rfl rfl kk) ?_
      refine own_go (S' := T105.setTop (mkF m 80 #[.val (.int p1), .val (.int p2), .val (.int (p1 &&& (3 : Int32))), .val (.int (p2 &&& (2147483647 : Int32))), .unset, .unset, .unset, .unset, .unset, .unset] [(.int (6 : Int32)), (.ref a82), (.ref a82)])) (fun tg kk => XT.bipushV X105.here hx rfl (6 : Int32) (hb hby at_78) (by decide) kk) ?_
      refine own_go (S' := T105.setTop (mkF m 83 #[.val (.int p1), .val (.int p2), .val (.int (p1 &&& (3 : Int32))), .val (.int (p2 &&& (2147483647 : Int32))), .unset, .unset, .unset, .unset, .unset, .unset] [(.int (300 : Int32)), (.int (6 : Int32)), (.ref a82), (.ref a82)])) (fun tg kk => XT.sipushV X105.here hx rfl (300 : Int32) (hb hby at_80) (by decide) kk) ?_
      obtain ⟨cl109, Ar109, q1_109, S109, q3_109, H109, G109⟩ := id V105
      have hj109 := inb_of (j := (6 : Int32)) S109 ⟨by decide, by decide⟩
      obtain ⟨T109, h109, X109, e109, W109, st109⟩ := stI X105 hx hZ e105 Ar109 hj109 (g := (mkF m 83 #[.val (.int p1), .val (.int p2), .val (.int (p1 &&& (3 : Int32))), .val (.int (p2 &&& (2147483647 : Int32))), .unset, .unset, .unset, .unset, .unset, .unset] [(.int (300 : Int32)), (.int (6 : Int32)), (.ref a82), (.ref a82)])) rfl rfl (hb hby at_83)
      refine own_go (S' := T109.setTop (mkF m 84 #[.val (.int p1), .val (.int p2), .val (.int (p1 &&& (3 : Int32))), .val (.int (p2 &&& (2147483647 : Int32))), .unset, .unset, .unset, .unset, .unset, .unset] [(.ref a82)])) (st109) ?_
      have N109 := Fr.snoc X109 N105 q82
      have O111 : Old Z n0 h109 := O107.wr W109 q82
      have Z112 : n0 ≤ h109.size := by rw [W109.size]; exact Z108
      have V109 : Arv Z h109 a82 cA82 .int (24 : Int32) [(.int (199 : Int32)), (.int (200 : Int32)), (.int (201 : Int32)), (.int (202 : Int32)), (.int (203 : Int32)), (.int (299 : Int32)), (.int (300 : Int32)), (.int (0 : Int32)), (.int (0 : Int32)), (.int (0 : Int32)), (.int (0 : Int32)), (.int (0 : Int32)), (.int (0 : Int32)), (.int (0 : Int32)), (.int (0 : Int32)), (.int (0 : Int32)), (.int (0 : Int32)), (.int (0 : Int32)), (.int (0 : Int32)), (.int (0 : Int32)), (.int (0 : Int32)), (.int (0 : Int32)), (.int (0 : Int32)), (.int (0 : Int32))] (.int (0 : Int32)) := Arv.set Ar109 q1_109 S109 q3_109 H109 G109 rfl W109 6 (by decide) (by show 6 < 24; decide)
      clear V105 st109 W109 hj109 H109 G109 q3_109 S109 q1_109 Ar109 cl109 N105 O107 Z108 X105 e105
      refine own_go (S' := T109.setTop (mkF m 85 #[.val (.int p1), .val (.int p2), .val (.int (p1 &&& (3 : Int32))), .val (.int (p2 &&& (2147483647 : Int32))), .unset, .unset, .unset, .unset, .unset, .unset] [(.ref a82), (.ref a82)])) (fun tg kk => XS.dup X109.here hx rfl (hb hby at_84) rfl rfl kk) ?_
      refine own_go (S' := T109.setTop (mkF m 87 #[.val (.int p1), .val (.int p2), .val (.int (p1 &&& (3 : Int32))), .val (.int (p2 &&& (2147483647 : Int32))), .unset, .unset, .unset, .unset, .unset, .unset] [(.int (7 : Int32)), (.ref a82), (.ref a82)])) (fun tg kk => XT.bipushV X109.here hx rfl (7 : Int32) (hb hby at_85) (by decide) kk) ?_
      refine own_go (S' := T109.setTop (mkF m 90 #[.val (.int p1), .val (.int p2), .val (.int (p1 &&& (3 : Int32))), .val (.int (p2 &&& (2147483647 : Int32))), .unset, .unset, .unset, .unset, .unset, .unset] [(.int (399 : Int32)), (.int (7 : Int32)), (.ref a82), (.ref a82)])) (fun tg kk => XT.sipushV X109.here hx rfl (399 : Int32) (hb hby at_87) (by decide) kk) ?_
      obtain ⟨cl113, Ar113, q1_113, S113, q3_113, H113, G113⟩ := id V109
      have hj113 := inb_of (j := (7 : Int32)) S113 ⟨by decide, by decide⟩
      obtain ⟨T113, h113, X113, e113, W113, st113⟩ := stI X109 hx hZ e109 Ar113 hj113 (g := (mkF m 90 #[.val (.int p1), .val (.int p2), .val (.int (p1 &&& (3 : Int32))), .val (.int (p2 &&& (2147483647 : Int32))), .unset, .unset, .unset, .unset, .unset, .unset] [(.int (399 : Int32)), (.int (7 : Int32)), (.ref a82), (.ref a82)])) rfl rfl (hb hby at_90)
      refine own_go (S' := T113.setTop (mkF m 91 #[.val (.int p1), .val (.int p2), .val (.int (p1 &&& (3 : Int32))), .val (.int (p2 &&& (2147483647 : Int32))), .unset, .unset, .unset, .unset, .unset, .unset] [(.ref a82)])) (st113) ?_
      have N113 := Fr.snoc X113 N109 q82
      have O115 : Old Z n0 h113 := O111.wr W113 q82
      have Z116 : n0 ≤ h113.size := by rw [W113.size]; exact Z112
      have V113 : Arv Z h113 a82 cA82 .int (24 : Int32) [(.int (199 : Int32)), (.int (200 : Int32)), (.int (201 : Int32)), (.int (202 : Int32)), (.int (203 : Int32)), (.int (299 : Int32)), (.int (300 : Int32)), (.int (399 : Int32)), (.int (0 : Int32)), (.int (0 : Int32)), (.int (0 : Int32)), (.int (0 : Int32)), (.int (0 : Int32)), (.int (0 : Int32)), (.int (0 : Int32)), (.int (0 : Int32)), (.int (0 : Int32)), (.int (0 : Int32)), (.int (0 : Int32)), (.int (0 : Int32)), (.int (0 : Int32)), (.int (0 : Int32)), (.int (0 : Int32)), (.int (0 : Int32))] (.int (0 : Int32)) := Arv.set Ar113 q1_113 S113 q3_113 H113 G113 rfl W113 7 (by decide) (by show 7 < 24; decide)
      clear V109 st113 W113 hj113 H113 G113 q3_113 S113 q1_113 Ar113 cl113 N109 O111 Z112 X109 e109
      refine own_go (S' := T113.setTop (mkF m 92 #[.val (.int p1), .val (.int p2), .val (.int (p1 &&& (3 : Int32))), .val (.int (p2 &&& (2147483647 : Int32))), .unset, .unset, .unset, .unset, .unset, .unset] [(.ref a82), (.ref a82)])) (fun tg kk => XS.dup X113.here hx rfl (hb hby at_91) rfl rfl kk) ?_
      refine own_go (S' := T113.setTop (mkF m 94 #[.val (.int p1), .val (.int p2), .val (.int (p1 &&& (3 : Int32))), .val (.int (p2 &&& (2147483647 : Int32))), .unset, .unset, .unset, .unset, .unset, .unset] [(.int (8 : Int32)), (.ref a82), (.ref a82)])) (fun tg kk => XT.bipushV X113.here hx rfl (8 : Int32) (hb hby at_92) (by decide) kk) ?_
      refine own_go (S' := T113.setTop (mkF m 97 #[.val (.int p1), .val (.int p2), .val (.int (p1 &&& (3 : Int32))), .val (.int (p2 &&& (2147483647 : Int32))), .unset, .unset, .unset, .unset, .unset, .unset] [(.int (400 : Int32)), (.int (8 : Int32)), (.ref a82), (.ref a82)])) (fun tg kk => XT.sipushV X113.here hx rfl (400 : Int32) (hb hby at_94) (by decide) kk) ?_
      obtain ⟨cl117, Ar117, q1_117, S117, q3_117, H117, G117⟩ := id V113
      have hj117 := inb_of (j := (8 : Int32)) S117 ⟨by decide, by decide⟩
      obtain ⟨T117, h117, X117, e117, W117, st117⟩ := stI X113 hx hZ e113 Ar117 hj117 (g := (mkF m 97 #[.val (.int p1), .val (.int p2), .val (.int (p1 &&& (3 : Int32))), .val (.int (p2 &&& (2147483647 : Int32))), .unset, .unset, .unset, .unset, .unset, .unset] [(.int (400 : Int32)), (.int (8 : Int32)), (.ref a82), (.ref a82)])) rfl rfl (hb hby at_97)
      refine own_go (S' := T117.setTop (mkF m 98 #[.val (.int p1), .val (.int p2), .val (.int (p1 &&& (3 : Int32))), .val (.int (p2 &&& (2147483647 : Int32))), .unset, .unset, .unset, .unset, .unset, .unset] [(.ref a82)])) (st117) ?_
      have N117 := Fr.snoc X117 N113 q82
      have O119 : Old Z n0 h117 := O115.wr W117 q82
      have Z120 : n0 ≤ h117.size := by rw [W117.size]; exact Z116
      have V117 : Arv Z h117 a82 cA82 .int (24 : Int32) [(.int (199 : Int32)), (.int (200 : Int32)), (.int (201 : Int32)), (.int (202 : Int32)), (.int (203 : Int32)), (.int (299 : Int32)), (.int (300 : Int32)), (.int (399 : Int32)), (.int (400 : Int32)), (.int (0 : Int32)), (.int (0 : Int32)), (.int (0 : Int32)), (.int (0 : Int32)), (.int (0 : Int32)), (.int (0 : Int32)), (.int (0 : Int32)), (.int (0 : Int32)), (.int (0 : Int32)), (.int (0 : Int32)), (.int (0 : Int32)), (.int (0 : Int32)), (.int (0 : Int32)), (.int (0 : Int32)), (.int (0 : Int32))] (.int (0 : Int32)) := Arv.set Ar117 q1_117 S117 q3_117 H117 G117 rfl W117 8 (by decide) (by show 8 < 24; decide)
      clear V113 st117 W117 hj117 H117 G117 q3_117 S117 q1_117 Ar117 cl117 N113 O115 Z116 X113 e113
      refine own_go (S' := T117.setTop (mkF m 99 #[.val (.int p1), .val (.int p2), .val (.int (p1 &&& (3 : Int32))), .val (.int (p2 &&& (2147483647 : Int32))), .unset, .unset, .unset, .unset, .unset, .unset] [(.ref a82), (.ref a82)])) (fun tg kk => XS.dup X117.here hx rfl (hb hby at_98) rfl rfl kk) ?_
      refine own_go (S' := T117.setTop (mkF m 101 #[.val (.int p1), .val (.int p2), .val (.int (p1 &&& (3 : Int32))), .val (.int (p2 &&& (2147483647 : Int32))), .unset, .unset, .unset, .unset, .unset, .unset] [(.int (9 : Int32)), (.ref a82), (.ref a82)])) (fun tg kk => XT.bipushV X117.here hx rfl (9 : Int32) (hb hby at_99) (by decide) kk) ?_
      refine own_go (S' := T117.setTop (mkF m 104 #[.val (.int p1), .val (.int p2), .val (.int (p1 &&& (3 : Int32))), .val (.int (p2 &&& (2147483647 : Int32))), .unset, .unset, .unset, .unset, .unset, .unset] [(.int (407 : Int32)), (.int (9 : Int32)), (.ref a82), (.ref a82)])) (fun tg kk => XT.sipushV X117.here hx rfl (407 : Int32) (hb hby at_101) (by decide) kk) ?_
      obtain ⟨cl121, Ar121, q1_121, S121, q3_121, H121, G121⟩ := id V117
      have hj121 := inb_of (j := (9 : Int32)) S121 ⟨by decide, by decide⟩
      obtain ⟨T121, h121, X121, e121, W121, st121⟩ := stI X117 hx hZ e117 Ar121 hj121 (g := (mkF m 104 #[.val (.int p1), .val (.int p2), .val (.int (p1 &&& (3 : Int32))), .val (.int (p2 &&& (2147483647 : Int32))), .unset, .unset, .unset, .unset, .unset, .unset] [(.int (407 : Int32)), (.int (9 : Int32)), (.ref a82), (.ref a82)])) rfl rfl (hb hby at_104)
      refine own_go (S' := T121.setTop (mkF m 105 #[.val (.int p1), .val (.int p2), .val (.int (p1 &&& (3 : Int32))), .val (.int (p2 &&& (2147483647 : Int32))), .unset, .unset, .unset, .unset, .unset, .unset] [(.ref a82)])) (st121) ?_
      have N121 := Fr.snoc X121 N117 q82
      have O123 : Old Z n0 h121 := O119.wr W121 q82
      have Z124 : n0 ≤ h121.size := by rw [W121.size]; exact Z120
      have V121 : Arv Z h121 a82 cA82 .int (24 : Int32) [(.int (199 : Int32)), (.int (200 : Int32)), (.int (201 : Int32)), (.int (202 : Int32)), (.int (203 : Int32)), (.int (299 : Int32)), (.int (300 : Int32)), (.int (399 : Int32)), (.int (400 : Int32)), (.int (407 : Int32)), (.int (0 : Int32)), (.int (0 : Int32)), (.int (0 : Int32)), (.int (0 : Int32)), (.int (0 : Int32)), (.int (0 : Int32)), (.int (0 : Int32)), (.int (0 : Int32)), (.int (0 : Int32)), (.int (0 : Int32)), (.int (0 : Int32)), (.int (0 : Int32)), (.int (0 : Int32)), (.int (0 : Int32))] (.int (0 : Int32)) := Arv.set Ar121 q1_121 S121 q3_121 H121 G121 rfl W121 9 (by decide) (by show 9 < 24; decide)
      clear V117 st121 W121 hj121 H121 G121 q3_121 S121 q1_121 Ar121 cl121 N117 O119 Z120 X117 e117
      refine own_go (S' := T121.setTop (mkF m 106 #[.val (.int p1), .val (.int p2), .val (.int (p1 &&& (3 : Int32))), .val (.int (p2 &&& (2147483647 : Int32))), .unset, .unset, .unset, .unset, .unset, .unset] [(.ref a82), (.ref a82)])) (fun tg kk => XS.dup X121.here hx rfl (hb hby at_105) rfl rfl kk) ?_
      refine own_go (S' := T121.setTop (mkF m 108 #[.val (.int p1), .val (.int p2), .val (.int (p1 &&& (3 : Int32))), .val (.int (p2 &&& (2147483647 : Int32))), .unset, .unset, .unset, .unset, .unset, .unset] [(.int (10 : Int32)), (.ref a82), (.ref a82)])) (fun tg kk => XT.bipushV X121.here hx rfl (10 : Int32) (hb hby at_106) (by decide) kk) ?_
      refine own_go (S' := T121.setTop (mkF m 111 #[.val (.int p1), .val (.int p2), .val (.int (p1 &&& (3 : Int32))), .val (.int (p2 &&& (2147483647 : Int32))), .unset, .unset, .unset, .unset, .unset, .unset] [(.int (408 : Int32)), (.int (10 : Int32)), (.ref a82), (.ref a82)])) (fun tg kk => XT.sipushV X121.here hx rfl (408 : Int32) (hb hby at_108) (by decide) kk) ?_
      obtain ⟨cl125, Ar125, q1_125, S125, q3_125, H125, G125⟩ := id V121
      have hj125 := inb_of (j := (10 : Int32)) S125 ⟨by decide, by decide⟩
      obtain ⟨T125, h125, X125, e125, W125, st125⟩ := stI X121 hx hZ e121 Ar125 hj125 (g := (mkF m 111 #[.val (.int p1), .val (.int p2), .val (.int (p1 &&& (3 : Int32))), .val (.int (p2 &&& (2147483647 : Int32))), .unset, .unset, .unset, .unset, .unset, .unset] [(.int (408 : Int32)), (.int (10 : Int32)), (.ref a82), (.ref a82)])) rfl rfl (hb hby at_111)
      refine own_go (S' := T125.setTop (mkF m 112 #[.val (.int p1), .val (.int p2), .val (.int (p1 &&& (3 : Int32))), .val (.int (p2 &&& (2147483647 : Int32))), .unset, .unset, .unset, .unset, .unset, .unset] [(.ref a82)])) (st125) ?_
      have N125 := Fr.snoc X125 N121 q82
      have O127 : Old Z n0 h125 := O123.wr W125 q82
      have Z128 : n0 ≤ h125.size := by rw [W125.size]; exact Z124
      have V125 : Arv Z h125 a82 cA82 .int (24 : Int32) [(.int (199 : Int32)), (.int (200 : Int32)), (.int (201 : Int32)), (.int (202 : Int32)), (.int (203 : Int32)), (.int (299 : Int32)), (.int (300 : Int32)), (.int (399 : Int32)), (.int (400 : Int32)), (.int (407 : Int32)), (.int (408 : Int32)), (.int (0 : Int32)), (.int (0 : Int32)), (.int (0 : Int32)), (.int (0 : Int32)), (.int (0 : Int32)), (.int (0 : Int32)), (.int (0 : Int32)), (.int (0 : Int32)), (.int (0 : Int32)), (.int (0 : Int32)), (.int (0 : Int32)), (.int (0 : Int32)), (.int (0 : Int32))] (.int (0 : Int32)) := Arv.set Ar125 q1_125 S125 q3_125 H125 G125 rfl W125 10 (by decide) (by show 10 < 24; decide)
      clear V121 st125 W125 hj125 H125 G125 q3_125 S125 q1_125 Ar125 cl125 N121 O123 Z124 X121 e121
      refine own_go (S' := T125.setTop (mkF m 113 #[.val (.int p1), .val (.int p2), .val (.int (p1 &&& (3 : Int32))), .val (.int (p2 &&& (2147483647 : Int32))), .unset, .unset, .unset, .unset, .unset, .unset] [(.ref a82), (.ref a82)])) (fun tg kk => XS.dup X125.here hx rfl (hb hby at_112) rfl rfl kk) ?_
      refine own_go (S' := T125.setTop (mkF m 115 #[.val (.int p1), .val (.int p2), .val (.int (p1 &&& (3 : Int32))), .val (.int (p2 &&& (2147483647 : Int32))), .unset, .unset, .unset, .unset, .unset, .unset] [(.int (11 : Int32)), (.ref a82), (.ref a82)])) (fun tg kk => XT.bipushV X125.here hx rfl (11 : Int32) (hb hby at_113) (by decide) kk) ?_
      refine own_go (S' := T125.setTop (mkF m 118 #[.val (.int p1), .val (.int p2), .val (.int (p1 &&& (3 : Int32))), .val (.int (p2 &&& (2147483647 : Int32))), .unset, .unset, .unset, .unset, .unset, .unset] [(.int (409 : Int32)), (.int (11 : Int32)), (.ref a82), (.ref a82)])) (fun tg kk => XT.sipushV X125.here hx rfl (409 : Int32) (hb hby at_115) (by decide) kk) ?_
      obtain ⟨cl129, Ar129, q1_129, S129, q3_129, H129, G129⟩ := id V125
      have hj129 := inb_of (j := (11 : Int32)) S129 ⟨by decide, by decide⟩
      obtain ⟨T129, h129, X129, e129, W129, st129⟩ := stI X125 hx hZ e125 Ar129 hj129 (g := (mkF m 118 #[.val (.int p1), .val (.int p2), .val (.int (p1 &&& (3 : Int32))), .val (.int (p2 &&& (2147483647 : Int32))), .unset, .unset, .unset, .unset, .unset, .unset] [(.int (409 : Int32)), (.int (11 : Int32)), (.ref a82), (.ref a82)])) rfl rfl (hb hby at_118)
      refine own_go (S' := T129.setTop (mkF m 119 #[.val (.int p1), .val (.int p2), .val (.int (p1 &&& (3 : Int32))), .val (.int (p2 &&& (2147483647 : Int32))), .unset, .unset, .unset, .unset, .unset, .unset] [(.ref a82)])) (st129) ?_
      have N129 := Fr.snoc X129 N125 q82
      have O131 : Old Z n0 h129 := O127.wr W129 q82
      have Z132 : n0 ≤ h129.size := by rw [W129.size]; exact Z128
      have V129 : Arv Z h129 a82 cA82 .int (24 : Int32) [(.int (199 : Int32)), (.int (200 : Int32)), (.int (201 : Int32)), (.int (202 : Int32)), (.int (203 : Int32)), (.int (299 : Int32)), (.int (300 : Int32)), (.int (399 : Int32)), (.int (400 : Int32)), (.int (407 : Int32)), (.int (408 : Int32)), (.int (409 : Int32)), (.int (0 : Int32)), (.int (0 : Int32)), (.int (0 : Int32)), (.int (0 : Int32)), (.int (0 : Int32)), (.int (0 : Int32)), (.int (0 : Int32)), (.int (0 : Int32)), (.int (0 : Int32)), (.int (0 : Int32)), (.int (0 : Int32)), (.int (0 : Int32))] (.int (0 : Int32)) := Arv.set Ar129 q1_129 S129 q3_129 H129 G129 rfl W129 11 (by decide) (by show 11 < 24; decide)
      clear V125 st129 W129 hj129 H129 G129 q3_129 S129 q1_129 Ar129 cl129 N125 O127 Z128 X125 e125
      refine own_go (S' := T129.setTop (mkF m 120 #[.val (.int p1), .val (.int p2), .val (.int (p1 &&& (3 : Int32))), .val (.int (p2 &&& (2147483647 : Int32))), .unset, .unset, .unset, .unset, .unset, .unset] [(.ref a82), (.ref a82)])) (fun tg kk => XS.dup X129.here hx rfl (hb hby at_119) rfl rfl kk) ?_
      refine own_go (S' := T129.setTop (mkF m 122 #[.val (.int p1), .val (.int p2), .val (.int (p1 &&& (3 : Int32))), .val (.int (p2 &&& (2147483647 : Int32))), .unset, .unset, .unset, .unset, .unset, .unset] [(.int (12 : Int32)), (.ref a82), (.ref a82)])) (fun tg kk => XT.bipushV X129.here hx rfl (12 : Int32) (hb hby at_120) (by decide) kk) ?_
      refine own_go (S' := T129.setTop (mkF m 125 #[.val (.int p1), .val (.int p2), .val (.int (p1 &&& (3 : Int32))), .val (.int (p2 &&& (2147483647 : Int32))), .unset, .unset, .unset, .unset, .unset, .unset] [(.int (428 : Int32)), (.int (12 : Int32)), (.ref a82), (.ref a82)])) (fun tg kk => XT.sipushV X129.here hx rfl (428 : Int32) (hb hby at_122) (by decide) kk) ?_
      obtain ⟨cl133, Ar133, q1_133, S133, q3_133, H133, G133⟩ := id V129
      have hj133 := inb_of (j := (12 : Int32)) S133 ⟨by decide, by decide⟩
      obtain ⟨T133, h133, X133, e133, W133, st133⟩ := stI X129 hx hZ e129 Ar133 hj133 (g := (mkF m 125 #[.val (.int p1), .val (.int p2), .val (.int (p1 &&& (3 : Int32))), .val (.int (p2 &&& (2147483647 : Int32))), .unset, .unset, .unset, .unset, .unset, .unset] [(.int (428 : Int32)), (.int (12 : Int32)), (.ref a82), (.ref a82)])) rfl rfl (hb hby at_125)
      refine own_go (S' := T133.setTop (mkF m 126 #[.val (.int p1), .val (.int p2), .val (.int (p1 &&& (3 : Int32))), .val (.int (p2 &&& (2147483647 : Int32))), .unset, .unset, .unset, .unset, .unset, .unset] [(.ref a82)])) (st133) ?_
      have N133 := Fr.snoc X133 N129 q82
      have O135 : Old Z n0 h133 := O131.wr W133 q82
      have Z136 : n0 ≤ h133.size := by rw [W133.size]; exact Z132
      have V133 : Arv Z h133 a82 cA82 .int (24 : Int32) [(.int (199 : Int32)), (.int (200 : Int32)), (.int (201 : Int32)), (.int (202 : Int32)), (.int (203 : Int32)), (.int (299 : Int32)), (.int (300 : Int32)), (.int (399 : Int32)), (.int (400 : Int32)), (.int (407 : Int32)), (.int (408 : Int32)), (.int (409 : Int32)), (.int (428 : Int32)), (.int (0 : Int32)), (.int (0 : Int32)), (.int (0 : Int32)), (.int (0 : Int32)), (.int (0 : Int32)), (.int (0 : Int32)), (.int (0 : Int32)), (.int (0 : Int32)), (.int (0 : Int32)), (.int (0 : Int32)), (.int (0 : Int32))] (.int (0 : Int32)) := Arv.set Ar133 q1_133 S133 q3_133 H133 G133 rfl W133 12 (by decide) (by show 12 < 24; decide)
      clear V129 st133 W133 hj133 H133 G133 q3_133 S133 q1_133 Ar133 cl133 N129 O131 Z132 X129 e129
      refine own_go (S' := T133.setTop (mkF m 127 #[.val (.int p1), .val (.int p2), .val (.int (p1 &&& (3 : Int32))), .val (.int (p2 &&& (2147483647 : Int32))), .unset, .unset, .unset, .unset, .unset, .unset] [(.ref a82), (.ref a82)])) (fun tg kk => XS.dup X133.here hx rfl (hb hby at_126) rfl rfl kk) ?_
      refine own_go (S' := T133.setTop (mkF m 129 #[.val (.int p1), .val (.int p2), .val (.int (p1 &&& (3 : Int32))), .val (.int (p2 &&& (2147483647 : Int32))), .unset, .unset, .unset, .unset, .unset, .unset] [(.int (13 : Int32)), (.ref a82), (.ref a82)])) (fun tg kk => XT.bipushV X133.here hx rfl (13 : Int32) (hb hby at_127) (by decide) kk) ?_
      refine own_go (S' := T133.setTop (mkF m 132 #[.val (.int p1), .val (.int p2), .val (.int (p1 &&& (3 : Int32))), .val (.int (p2 &&& (2147483647 : Int32))), .unset, .unset, .unset, .unset, .unset, .unset] [(.int (429 : Int32)), (.int (13 : Int32)), (.ref a82), (.ref a82)])) (fun tg kk => XT.sipushV X133.here hx rfl (429 : Int32) (hb hby at_129) (by decide) kk) ?_
      obtain ⟨cl137, Ar137, q1_137, S137, q3_137, H137, G137⟩ := id V133
      have hj137 := inb_of (j := (13 : Int32)) S137 ⟨by decide, by decide⟩
      obtain ⟨T137, h137, X137, e137, W137, st137⟩ := stI X133 hx hZ e133 Ar137 hj137 (g := (mkF m 132 #[.val (.int p1), .val (.int p2), .val (.int (p1 &&& (3 : Int32))), .val (.int (p2 &&& (2147483647 : Int32))), .unset, .unset, .unset, .unset, .unset, .unset] [(.int (429 : Int32)), (.int (13 : Int32)), (.ref a82), (.ref a82)])) rfl rfl (hb hby at_132)
      refine own_go (S' := T137.setTop (mkF m 133 #[.val (.int p1), .val (.int p2), .val (.int (p1 &&& (3 : Int32))), .val (.int (p2 &&& (2147483647 : Int32))), .unset, .unset, .unset, .unset, .unset, .unset] [(.ref a82)])) (st137) ?_
      have N137 := Fr.snoc X137 N133 q82
      have O139 : Old Z n0 h137 := O135.wr W137 q82
      have Z140 : n0 ≤ h137.size := by rw [W137.size]; exact Z136
      have V137 : Arv Z h137 a82 cA82 .int (24 : Int32) [(.int (199 : Int32)), (.int (200 : Int32)), (.int (201 : Int32)), (.int (202 : Int32)), (.int (203 : Int32)), (.int (299 : Int32)), (.int (300 : Int32)), (.int (399 : Int32)), (.int (400 : Int32)), (.int (407 : Int32)), (.int (408 : Int32)), (.int (409 : Int32)), (.int (428 : Int32)), (.int (429 : Int32)), (.int (0 : Int32)), (.int (0 : Int32)), (.int (0 : Int32)), (.int (0 : Int32)), (.int (0 : Int32)), (.int (0 : Int32)), (.int (0 : Int32)), (.int (0 : Int32)), (.int (0 : Int32)), (.int (0 : Int32))] (.int (0 : Int32)) := Arv.set Ar137 q1_137 S137 q3_137 H137 G137 rfl W137 13 (by decide) (by show 13 < 24; decide)
      clear V133 st137 W137 hj137 H137 G137 q3_137 S137 q1_137 Ar137 cl137 N133 O135 Z136 X133 e133
      refine own_go (S' := T137.setTop (mkF m 134 #[.val (.int p1), .val (.int p2), .val (.int (p1 &&& (3 : Int32))), .val (.int (p2 &&& (2147483647 : Int32))), .unset, .unset, .unset, .unset, .unset, .unset] [(.ref a82), (.ref a82)])) (fun tg kk => XS.dup X137.here hx rfl (hb hby at_133) rfl rfl kk) ?_
      refine own_go (S' := T137.setTop (mkF m 136 #[.val (.int p1), .val (.int p2), .val (.int (p1 &&& (3 : Int32))), .val (.int (p2 &&& (2147483647 : Int32))), .unset, .unset, .unset, .unset, .unset, .unset] [(.int (14 : Int32)), (.ref a82), (.ref a82)])) (fun tg kk => XT.bipushV X137.here hx rfl (14 : Int32) (hb hby at_134) (by decide) kk) ?_
      refine own_go (S' := T137.setTop (mkF m 139 #[.val (.int p1), .val (.int p2), .val (.int (p1 &&& (3 : Int32))), .val (.int (p2 &&& (2147483647 : Int32))), .unset, .unset, .unset, .unset, .unset, .unset] [(.int (430 : Int32)), (.int (14 : Int32)), (.ref a82), (.ref a82)])) (fun tg kk => XT.sipushV X137.here hx rfl (430 : Int32) (hb hby at_136) (by decide) kk) ?_
      obtain ⟨cl141, Ar141, q1_141, S141, q3_141, H141, G141⟩ := id V137
      have hj141 := inb_of (j := (14 : Int32)) S141 ⟨by decide, by decide⟩
      obtain ⟨T141, h141, X141, e141, W141, st141⟩ := stI X137 hx hZ e137 Ar141 hj141 (g := (mkF m 139 #[.val (.int p1), .val (.int p2), .val (.int (p1 &&& (3 : Int32))), .val (.int (p2 &&& (2147483647 : Int32))), .unset, .unset, .unset, .unset, .unset, .unset] [(.int (430 : Int32)), (.int (14 : Int32)), (.ref a82), (.ref a82)])) rfl rfl (hb hby at_139)
      refine own_go (S' := T141.setTop (mkF m 140 #[.val (.int p1), .val (.int p2), .val (.int (p1 &&& (3 : Int32))), .val (.int (p2 &&& (2147483647 : Int32))), .unset, .unset, .unset, .unset, .unset, .unset] [(.ref a82)])) (st141) ?_
      have N141 := Fr.snoc X141 N137 q82
      have O143 : Old Z n0 h141 := O139.wr W141 q82
      have Z144 : n0 ≤ h141.size := by rw [W141.size]; exact Z140
      have V141 : Arv Z h141 a82 cA82 .int (24 : Int32) [(.int (199 : Int32)), (.int (200 : Int32)), (.int (201 : Int32)), (.int (202 : Int32)), (.int (203 : Int32)), (.int (299 : Int32)), (.int (300 : Int32)), (.int (399 : Int32)), (.int (400 : Int32)), (.int (407 : Int32)), (.int (408 : Int32)), (.int (409 : Int32)), (.int (428 : Int32)), (.int (429 : Int32)), (.int (430 : Int32)), (.int (0 : Int32)), (.int (0 : Int32)), (.int (0 : Int32)), (.int (0 : Int32)), (.int (0 : Int32)), (.int (0 : Int32)), (.int (0 : Int32)), (.int (0 : Int32)), (.int (0 : Int32))] (.int (0 : Int32)) := Arv.set Ar141 q1_141 S141 q3_141 H141 G141 rfl W141 14 (by decide) (by show 14 < 24; decide)
      clear V137 st141 W141 hj141 H141 G141 q3_141 S141 q1_141 Ar141 cl141 N137 O139 Z140 X137 e137
      refine own_go (S' := T141.setTop (mkF m 141 #[.val (.int p1), .val (.int p2), .val (.int (p1 &&& (3 : Int32))), .val (.int (p2 &&& (2147483647 : Int32))), .unset, .unset, .unset, .unset, .unset, .unset] [(.ref a82), (.ref a82)])) (fun tg kk => XS.dup X141.here hx rfl (hb hby at_140) rfl rfl kk) ?_
      refine own_go (S' := T141.setTop (mkF m 143 #[.val (.int p1), .val (.int p2), .val (.int (p1 &&& (3 : Int32))), .val (.int (p2 &&& (2147483647 : Int32))), .unset, .unset, .unset, .unset, .unset, .unset] [(.int (15 : Int32)), (.ref a82), (.ref a82)])) (fun tg kk => XT.bipushV X141.here hx rfl (15 : Int32) (hb hby at_141) (by decide) kk) ?_
      refine own_go (S' := T141.setTop (mkF m 146 #[.val (.int p1), .val (.int p2), .val (.int (p1 &&& (3 : Int32))), .val (.int (p2 &&& (2147483647 : Int32))), .unset, .unset, .unset, .unset, .unset, .unset] [(.int (499 : Int32)), (.int (15 : Int32)), (.ref a82), (.ref a82)])) (fun tg kk => XT.sipushV X141.here hx rfl (499 : Int32) (hb hby at_143) (by decide) kk) ?_
      obtain ⟨cl145, Ar145, q1_145, S145, q3_145, H145, G145⟩ := id V141
      have hj145 := inb_of (j := (15 : Int32)) S145 ⟨by decide, by decide⟩
      obtain ⟨T145, h145, X145, e145, W145, st145⟩ := stI X141 hx hZ e141 Ar145 hj145 (g := (mkF m 146 #[.val (.int p1), .val (.int p2), .val (.int (p1 &&& (3 : Int32))), .val (.int (p2 &&& (2147483647 : Int32))), .unset, .unset, .unset, .unset, .unset, .unset] [(.int (499 : Int32)), (.int (15 : Int32)), (.ref a82), (.ref a82)])) rfl rfl (hb hby at_146)
      refine own_go (S' := T145.setTop (mkF m 147 #[.val (.int p1), .val (.int p2), .val (.int (p1 &&& (3 : Int32))), .val (.int (p2 &&& (2147483647 : Int32))), .unset, .unset, .unset, .unset, .unset, .unset] [(.ref a82)])) (st145) ?_
      have N145 := Fr.snoc X145 N141 q82
      have O147 : Old Z n0 h145 := O143.wr W145 q82
      have Z148 : n0 ≤ h145.size := by rw [W145.size]; exact Z144
      have V145 : Arv Z h145 a82 cA82 .int (24 : Int32) [(.int (199 : Int32)), (.int (200 : Int32)), (.int (201 : Int32)), (.int (202 : Int32)), (.int (203 : Int32)), (.int (299 : Int32)), (.int (300 : Int32)), (.int (399 : Int32)), (.int (400 : Int32)), (.int (407 : Int32)), (.int (408 : Int32)), (.int (409 : Int32)), (.int (428 : Int32)), (.int (429 : Int32)), (.int (430 : Int32)), (.int (499 : Int32)), (.int (0 : Int32)), (.int (0 : Int32)), (.int (0 : Int32)), (.int (0 : Int32)), (.int (0 : Int32)), (.int (0 : Int32)), (.int (0 : Int32)), (.int (0 : Int32))] (.int (0 : Int32)) := Arv.set Ar145 q1_145 S145 q3_145 H145 G145 rfl W145 15 (by decide) (by show 15 < 24; decide)
      clear V141 st145 W145 hj145 H145 G145 q3_145 S145 q1_145 Ar145 cl145 N141 O143 Z144 X141 e141
      refine own_go (S' := T145.setTop (mkF m 148 #[.val (.int p1), .val (.int p2), .val (.int (p1 &&& (3 : Int32))), .val (.int (p2 &&& (2147483647 : Int32))), .unset, .unset, .unset, .unset, .unset, .unset] [(.ref a82), (.ref a82)])) (fun tg kk => XS.dup X145.here hx rfl (hb hby at_147) rfl rfl kk) ?_
      refine own_go (S' := T145.setTop (mkF m 150 #[.val (.int p1), .val (.int p2), .val (.int (p1 &&& (3 : Int32))), .val (.int (p2 &&& (2147483647 : Int32))), .unset, .unset, .unset, .unset, .unset, .unset] [(.int (16 : Int32)), (.ref a82), (.ref a82)])) (fun tg kk => XT.bipushV X145.here hx rfl (16 : Int32) (hb hby at_148) (by decide) kk) ?_
      refine own_go (S' := T145.setTop (mkF m 153 #[.val (.int p1), .val (.int p2), .val (.int (p1 &&& (3 : Int32))), .val (.int (p2 &&& (2147483647 : Int32))), .unset, .unset, .unset, .unset, .unset, .unset] [(.int (500 : Int32)), (.int (16 : Int32)), (.ref a82), (.ref a82)])) (fun tg kk => XT.sipushV X145.here hx rfl (500 : Int32) (hb hby at_150) (by decide) kk) ?_
      obtain ⟨cl149, Ar149, q1_149, S149, q3_149, H149, G149⟩ := id V145
      have hj149 := inb_of (j := (16 : Int32)) S149 ⟨by decide, by decide⟩
      obtain ⟨T149, h149, X149, e149, W149, st149⟩ := stI X145 hx hZ e145 Ar149 hj149 (g := (mkF m 153 #[.val (.int p1), .val (.int p2), .val (.int (p1 &&& (3 : Int32))), .val (.int (p2 &&& (2147483647 : Int32))), .unset, .unset, .unset, .unset, .unset, .unset] [(.int (500 : Int32)), (.int (16 : Int32)), (.ref a82), (.ref a82)])) rfl rfl (hb hby at_153)
      refine own_go (S' := T149.setTop (mkF m 154 #[.val (.int p1), .val (.int p2), .val (.int (p1 &&& (3 : Int32))), .val (.int (p2 &&& (2147483647 : Int32))), .unset, .unset, .unset, .unset, .unset, .unset] [(.ref a82)])) (st149) ?_
      have N149 := Fr.snoc X149 N145 q82
      have O151 : Old Z n0 h149 := O147.wr W149 q82
      have Z152 : n0 ≤ h149.size := by rw [W149.size]; exact Z148
      have V149 : Arv Z h149 a82 cA82 .int (24 : Int32) [(.int (199 : Int32)), (.int (200 : Int32)), (.int (201 : Int32)), (.int (202 : Int32)), (.int (203 : Int32)), (.int (299 : Int32)), (.int (300 : Int32)), (.int (399 : Int32)), (.int (400 : Int32)), (.int (407 : Int32)), (.int (408 : Int32)), (.int (409 : Int32)), (.int (428 : Int32)), (.int (429 : Int32)), (.int (430 : Int32)), (.int (499 : Int32)), (.int (500 : Int32)), (.int (0 : Int32)), (.int (0 : Int32)), (.int (0 : Int32)), (.int (0 : Int32)), (.int (0 : Int32)), (.int (0 : Int32)), (.int (0 : Int32))] (.int (0 : Int32)) := Arv.set Ar149 q1_149 S149 q3_149 H149 G149 rfl W149 16 (by decide) (by show 16 < 24; decide)
      clear V145 st149 W149 hj149 H149 G149 q3_149 S149 q1_149 Ar149 cl149 N145 O147 Z148 X145 e145
      refine own_go (S' := T149.setTop (mkF m 155 #[.val (.int p1), .val (.int p2), .val (.int (p1 &&& (3 : Int32))), .val (.int (p2 &&& (2147483647 : Int32))), .unset, .unset, .unset, .unset, .unset, .unset] [(.ref a82), (.ref a82)])) (fun tg kk => XS.dup X149.here hx rfl (hb hby at_154) rfl rfl kk) ?_
      refine own_go (S' := T149.setTop (mkF m 157 #[.val (.int p1), .val (.int p2), .val (.int (p1 &&& (3 : Int32))), .val (.int (p2 &&& (2147483647 : Int32))), .unset, .unset, .unset, .unset, .unset, .unset] [(.int (17 : Int32)), (.ref a82), (.ref a82)])) (fun tg kk => XT.bipushV X149.here hx rfl (17 : Int32) (hb hby at_155) (by decide) kk) ?_
      refine own_go (S' := T149.setTop (mkF m 158 #[.val (.int p1), .val (.int p2), .val (.int (p1 &&& (3 : Int32))), .val (.int (p2 &&& (2147483647 : Int32))), .unset, .unset, .unset, .unset, .unset, .unset] [(.int (0 : Int32)), (.int (17 : Int32)), (.ref a82), (.ref a82)])) (fun tg kk => XT.iconstV X149.here hx rfl (0 : Int32) (hb hby at_157) (by decide) kk) ?_
      obtain ⟨cl153, Ar153, q1_153, S153, q3_153, H153, G153⟩ := id V149
      have hj153 := inb_of (j := (17 : Int32)) S153 ⟨by decide, by decide⟩
      obtain ⟨T153, h153, X153, e153, W153, st153⟩ := stI X149 hx hZ e149 Ar153 hj153 (g := (mkF m 158 #[.val (.int p1), .val (.int p2), .val (.int (p1 &&& (3 : Int32))), .val (.int (p2 &&& (2147483647 : Int32))), .unset, .unset, .unset, .unset, .unset, .unset] [(.int (0 : Int32)), (.int (17 : Int32)), (.ref a82), (.ref a82)])) rfl rfl (hb hby at_158)
      refine own_go (S' := T153.setTop (mkF m 159 #[.val (.int p1), .val (.int p2), .val (.int (p1 &&& (3 : Int32))), .val (.int (p2 &&& (2147483647 : Int32))), .unset, .unset, .unset, .unset, .unset, .unset] [(.ref a82)])) (st153) ?_
      have N153 := Fr.snoc X153 N149 q82
      have O155 : Old Z n0 h153 := O151.wr W153 q82
      have Z156 : n0 ≤ h153.size := by rw [W153.size]; exact Z152
      have V153 : Arv Z h153 a82 cA82 .int (24 : Int32) [(.int (199 : Int32)), (.int (200 : Int32)), (.int (201 : Int32)), (.int (202 : Int32)), (.int (203 : Int32)), (.int (299 : Int32)), (.int (300 : Int32)), (.int (399 : Int32)), (.int (400 : Int32)), (.int (407 : Int32)), (.int (408 : Int32)), (.int (409 : Int32)), (.int (428 : Int32)), (.int (429 : Int32)), (.int (430 : Int32)), (.int (499 : Int32)), (.int (500 : Int32)), (.int (0 : Int32)), (.int (0 : Int32)), (.int (0 : Int32)), (.int (0 : Int32)), (.int (0 : Int32)), (.int (0 : Int32)), (.int (0 : Int32))] (.int (0 : Int32)) := Arv.set Ar153 q1_153 S153 q3_153 H153 G153 rfl W153 17 (by decide) (by show 17 < 24; decide)
      clear V149 st153 W153 hj153 H153 G153 q3_153 S153 q1_153 Ar153 cl153 N149 O151 Z152 X149 e149
      refine own_go (S' := T153.setTop (mkF m 160 #[.val (.int p1), .val (.int p2), .val (.int (p1 &&& (3 : Int32))), .val (.int (p2 &&& (2147483647 : Int32))), .unset, .unset, .unset, .unset, .unset, .unset] [(.ref a82), (.ref a82)])) (fun tg kk => XS.dup X153.here hx rfl (hb hby at_159) rfl rfl kk) ?_
      refine own_go (S' := T153.setTop (mkF m 162 #[.val (.int p1), .val (.int p2), .val (.int (p1 &&& (3 : Int32))), .val (.int (p2 &&& (2147483647 : Int32))), .unset, .unset, .unset, .unset, .unset, .unset] [(.int (18 : Int32)), (.ref a82), (.ref a82)])) (fun tg kk => XT.bipushV X153.here hx rfl (18 : Int32) (hb hby at_160) (by decide) kk) ?_
      refine own_go (S' := T153.setTop (mkF m 165 #[.val (.int p1), .val (.int p2), .val (.int (p1 &&& (3 : Int32))), .val (.int (p2 &&& (2147483647 : Int32))), .unset, .unset, .unset, .unset, .unset, .unset] [(.int (-200 : Int32)), (.int (18 : Int32)), (.ref a82), (.ref a82)])) (fun tg kk => XT.sipushV X153.here hx rfl (-200 : Int32) (hb hby at_162) (by decide) kk) ?_
      obtain ⟨cl157, Ar157, q1_157, S157, q3_157, H157, G157⟩ := id V153
      have hj157 := inb_of (j := (18 : Int32)) S157 ⟨by decide, by decide⟩
      obtain ⟨T157, h157, X157, e157, W157, st157⟩ := stI X153 hx hZ e153 Ar157 hj157 (g := (mkF m 165 #[.val (.int p1), .val (.int p2), .val (.int (p1 &&& (3 : Int32))), .val (.int (p2 &&& (2147483647 : Int32))), .unset, .unset, .unset, .unset, .unset, .unset] [(.int (-200 : Int32)), (.int (18 : Int32)), (.ref a82), (.ref a82)])) rfl rfl (hb hby at_165)
      refine own_go (S' := T157.setTop (mkF m 166 #[.val (.int p1), .val (.int p2), .val (.int (p1 &&& (3 : Int32))), .val (.int (p2 &&& (2147483647 : Int32))), .unset, .unset, .unset, .unset, .unset, .unset] [(.ref a82)])) (st157) ?_
      have N157 := Fr.snoc X157 N153 q82
      have O159 : Old Z n0 h157 := O155.wr W157 q82
      have Z160 : n0 ≤ h157.size := by rw [W157.size]; exact Z156
      have V157 : Arv Z h157 a82 cA82 .int (24 : Int32) [(.int (199 : Int32)), (.int (200 : Int32)), (.int (201 : Int32)), (.int (202 : Int32)), (.int (203 : Int32)), (.int (299 : Int32)), (.int (300 : Int32)), (.int (399 : Int32)), (.int (400 : Int32)), (.int (407 : Int32)), (.int (408 : Int32)), (.int (409 : Int32)), (.int (428 : Int32)), (.int (429 : Int32)), (.int (430 : Int32)), (.int (499 : Int32)), (.int (500 : Int32)), (.int (0 : Int32)), (.int (-200 : Int32)), (.int (0 : Int32)), (.int (0 : Int32)), (.int (0 : Int32)), (.int (0 : Int32)), (.int (0 : Int32))] (.int (0 : Int32)) := Arv.set Ar157 q1_157 S157 q3_157 H157 G157 rfl W157 18 (by decide) (by show 18 < 24; decide)
      clear V153 st157 W157 hj157 H157 G157 q3_157 S157 q1_157 Ar157 cl157 N153 O155 Z156 X153 e153
      refine own_go (S' := T157.setTop (mkF m 167 #[.val (.int p1), .val (.int p2), .val (.int (p1 &&& (3 : Int32))), .val (.int (p2 &&& (2147483647 : Int32))), .unset, .unset, .unset, .unset, .unset, .unset] [(.ref a82), (.ref a82)])) (fun tg kk => XS.dup X157.here hx rfl (hb hby at_166) rfl rfl kk) ?_
      refine own_go (S' := T157.setTop (mkF m 169 #[.val (.int p1), .val (.int p2), .val (.int (p1 &&& (3 : Int32))), .val (.int (p2 &&& (2147483647 : Int32))), .unset, .unset, .unset, .unset, .unset, .unset] [(.int (19 : Int32)), (.ref a82), (.ref a82)])) (fun tg kk => XT.bipushV X157.here hx rfl (19 : Int32) (hb hby at_167) (by decide) kk) ?_
      refine own_go (S' := T157.setTop (mkF m 172 #[.val (.int p1), .val (.int p2), .val (.int (p1 &&& (3 : Int32))), .val (.int (p2 &&& (2147483647 : Int32))), .unset, .unset, .unset, .unset, .unset, .unset] [(.int (-202 : Int32)), (.int (19 : Int32)), (.ref a82), (.ref a82)])) (fun tg kk => XT.sipushV X157.here hx rfl (-202 : Int32) (hb hby at_169) (by decide) kk) ?_
      obtain ⟨cl161, Ar161, q1_161, S161, q3_161, H161, G161⟩ := id V157
      have hj161 := inb_of (j := (19 : Int32)) S161 ⟨by decide, by decide⟩
      obtain ⟨T161, h161, X161, e161, W161, st161⟩ := stI X157 hx hZ e157 Ar161 hj161 (g := (mkF m 172 #[.val (.int p1), .val (.int p2), .val (.int (p1 &&& (3 : Int32))), .val (.int (p2 &&& (2147483647 : Int32))), .unset, .unset, .unset, .unset, .unset, .unset] [(.int (-202 : Int32)), (.int (19 : Int32)), (.ref a82), (.ref a82)])) rfl rfl (hb hby at_172)
      refine own_go (S' := T161.setTop (mkF m 173 #[.val (.int p1), .val (.int p2), .val (.int (p1 &&& (3 : Int32))), .val (.int (p2 &&& (2147483647 : Int32))), .unset, .unset, .unset, .unset, .unset, .unset] [(.ref a82)])) (st161) ?_
      have N161 := Fr.snoc X161 N157 q82
      have O163 : Old Z n0 h161 := O159.wr W161 q82
      have Z164 : n0 ≤ h161.size := by rw [W161.size]; exact Z160
      have V161 : Arv Z h161 a82 cA82 .int (24 : Int32) [(.int (199 : Int32)), (.int (200 : Int32)), (.int (201 : Int32)), (.int (202 : Int32)), (.int (203 : Int32)), (.int (299 : Int32)), (.int (300 : Int32)), (.int (399 : Int32)), (.int (400 : Int32)), (.int (407 : Int32)), (.int (408 : Int32)), (.int (409 : Int32)), (.int (428 : Int32)), (.int (429 : Int32)), (.int (430 : Int32)), (.int (499 : Int32)), (.int (500 : Int32)), (.int (0 : Int32)), (.int (-200 : Int32)), (.int (-202 : Int32)), (.int (0 : Int32)), (.int (0 : Int32)), (.int (0 : Int32)), (.int (0 : Int32))] (.int (0 : Int32)) := Arv.set Ar161 q1_161 S161 q3_161 H161 G161 rfl W161 19 (by decide) (by show 19 < 24; decide)
      clear V157 st161 W161 hj161 H161 G161 q3_161 S161 q1_161 Ar161 cl161 N157 O159 Z160 X157 e157
      refine own_go (S' := T161.setTop (mkF m 174 #[.val (.int p1), .val (.int p2), .val (.int (p1 &&& (3 : Int32))), .val (.int (p2 &&& (2147483647 : Int32))), .unset, .unset, .unset, .unset, .unset, .unset] [(.ref a82), (.ref a82)])) (fun tg kk => XS.dup X161.here hx rfl (hb hby at_173) rfl rfl kk) ?_
      refine own_go (S' := T161.setTop (mkF m 176 #[.val (.int p1), .val (.int p2), .val (.int (p1 &&& (3 : Int32))), .val (.int (p2 &&& (2147483647 : Int32))), .unset, .unset, .unset, .unset, .unset, .unset] [(.int (20 : Int32)), (.ref a82), (.ref a82)])) (fun tg kk => XT.bipushV X161.here hx rfl (20 : Int32) (hb hby at_174) (by decide) kk) ?_
      refine own_go (S' := T161.setTop (mkF m 179 #[.val (.int p1), .val (.int p2), .val (.int (p1 &&& (3 : Int32))), .val (.int (p2 &&& (2147483647 : Int32))), .unset, .unset, .unset, .unset, .unset, .unset] [(.int (-299 : Int32)), (.int (20 : Int32)), (.ref a82), (.ref a82)])) (fun tg kk => XT.sipushV X161.here hx rfl (-299 : Int32) (hb hby at_176) (by decide) kk) ?_
      obtain ⟨cl165, Ar165, q1_165, S165, q3_165, H165, G165⟩ := id V161
      have hj165 := inb_of (j := (20 : Int32)) S165 ⟨by decide, by decide⟩
      obtain ⟨T165, h165, X165, e165, W165, st165⟩ := stI X161 hx hZ e161 Ar165 hj165 (g := (mkF m 179 #[.val (.int p1), .val (.int p2), .val (.int (p1 &&& (3 : Int32))), .val (.int (p2 &&& (2147483647 : Int32))), .unset, .unset, .unset, .unset, .unset, .unset] [(.int (-299 : Int32)), (.int (20 : Int32)), (.ref a82), (.ref a82)])) rfl rfl (hb hby at_179)
      refine own_go (S' := T165.setTop (mkF m 180 #[.val (.int p1), .val (.int p2), .val (.int (p1 &&& (3 : Int32))), .val (.int (p2 &&& (2147483647 : Int32))), .unset, .unset, .unset, .unset, .unset, .unset] [(.ref a82)])) (st165) ?_
      have N165 := Fr.snoc X165 N161 q82
      have O167 : Old Z n0 h165 := O163.wr W165 q82
      have Z168 : n0 ≤ h165.size := by rw [W165.size]; exact Z164
      have V165 : Arv Z h165 a82 cA82 .int (24 : Int32) [(.int (199 : Int32)), (.int (200 : Int32)), (.int (201 : Int32)), (.int (202 : Int32)), (.int (203 : Int32)), (.int (299 : Int32)), (.int (300 : Int32)), (.int (399 : Int32)), (.int (400 : Int32)), (.int (407 : Int32)), (.int (408 : Int32)), (.int (409 : Int32)), (.int (428 : Int32)), (.int (429 : Int32)), (.int (430 : Int32)), (.int (499 : Int32)), (.int (500 : Int32)), (.int (0 : Int32)), (.int (-200 : Int32)), (.int (-202 : Int32)), (.int (-299 : Int32)), (.int (0 : Int32)), (.int (0 : Int32)), (.int (0 : Int32))] (.int (0 : Int32)) := Arv.set Ar165 q1_165 S165 q3_165 H165 G165 rfl W165 20 (by decide) (by show 20 < 24; decide)
      clear V161 st165 W165 hj165 H165 G165 q3_165 S165 q1_165 Ar165 cl165 N161 O163 Z164 X161 e161
      refine own_go (S' := T165.setTop (mkF m 181 #[.val (.int p1), .val (.int p2), .val (.int (p1 &&& (3 : Int32))), .val (.int (p2 &&& (2147483647 : Int32))), .unset, .unset, .unset, .unset, .unset, .unset] [(.ref a82), (.ref a82)])) (fun tg kk => XS.dup X165.here hx rfl (hb hby at_180) rfl rfl kk) ?_
      refine own_go (S' := T165.setTop (mkF m 183 #[.val (.int p1), .val (.int p2), .val (.int (p1 &&& (3 : Int32))), .val (.int (p2 &&& (2147483647 : Int32))), .unset, .unset, .unset, .unset, .unset, .unset] [(.int (21 : Int32)), (.ref a82), (.ref a82)])) (fun tg kk => XT.bipushV X165.here hx rfl (21 : Int32) (hb hby at_181) (by decide) kk) ?_
      refine own_go (S' := T165.setTop (mkF m 186 #[.val (.int p1), .val (.int p2), .val (.int (p1 &&& (3 : Int32))), .val (.int (p2 &&& (2147483647 : Int32))), .unset, .unset, .unset, .unset, .unset, .unset] [(.int (-408 : Int32)), (.int (21 : Int32)), (.ref a82), (.ref a82)])) (fun tg kk => XT.sipushV X165.here hx rfl (-408 : Int32) (hb hby at_183) (by decide) kk) ?_
      obtain ⟨cl169, Ar169, q1_169, S169, q3_169, H169, G169⟩ := id V165
      have hj169 := inb_of (j := (21 : Int32)) S169 ⟨by decide, by decide⟩
      obtain ⟨T169, h169, X169, e169, W169, st169⟩ := stI X165 hx hZ e165 Ar169 hj169 (g := (mkF m 186 #[.val (.int p1), .val (.int p2), .val (.int (p1 &&& (3 : Int32))), .val (.int (p2 &&& (2147483647 : Int32))), .unset, .unset, .unset, .unset, .unset, .unset] [(.int (-408 : Int32)), (.int (21 : Int32)), (.ref a82), (.ref a82)])) rfl rfl (hb hby at_186)
      refine own_go (S' := T169.setTop (mkF m 187 #[.val (.int p1), .val (.int p2), .val (.int (p1 &&& (3 : Int32))), .val (.int (p2 &&& (2147483647 : Int32))), .unset, .unset, .unset, .unset, .unset, .unset] [(.ref a82)])) (st169) ?_
      have N169 := Fr.snoc X169 N165 q82
      have O171 : Old Z n0 h169 := O167.wr W169 q82
      have Z172 : n0 ≤ h169.size := by rw [W169.size]; exact Z168
      have V169 : Arv Z h169 a82 cA82 .int (24 : Int32) [(.int (199 : Int32)), (.int (200 : Int32)), (.int (201 : Int32)), (.int (202 : Int32)), (.int (203 : Int32)), (.int (299 : Int32)), (.int (300 : Int32)), (.int (399 : Int32)), (.int (400 : Int32)), (.int (407 : Int32)), (.int (408 : Int32)), (.int (409 : Int32)), (.int (428 : Int32)), (.int (429 : Int32)), (.int (430 : Int32)), (.int (499 : Int32)), (.int (500 : Int32)), (.int (0 : Int32)), (.int (-200 : Int32)), (.int (-202 : Int32)), (.int (-299 : Int32)), (.int (-408 : Int32)), (.int (0 : Int32)), (.int (0 : Int32))] (.int (0 : Int32)) := Arv.set Ar169 q1_169 S169 q3_169 H169 G169 rfl W169 21 (by decide) (by show 21 < 24; decide)
      clear V165 st169 W169 hj169 H169 G169 q3_169 S169 q1_169 Ar169 cl169 N165 O167 Z168 X165 e165
      refine own_go (S' := T169.setTop (mkF m 188 #[.val (.int p1), .val (.int p2), .val (.int (p1 &&& (3 : Int32))), .val (.int (p2 &&& (2147483647 : Int32))), .unset, .unset, .unset, .unset, .unset, .unset] [(.ref a82), (.ref a82)])) (fun tg kk => XS.dup X169.here hx rfl (hb hby at_187) rfl rfl kk) ?_
      refine own_go (S' := T169.setTop (mkF m 190 #[.val (.int p1), .val (.int p2), .val (.int (p1 &&& (3 : Int32))), .val (.int (p2 &&& (2147483647 : Int32))), .unset, .unset, .unset, .unset, .unset, .unset] [(.int (22 : Int32)), (.ref a82), (.ref a82)])) (fun tg kk => XT.bipushV X169.here hx rfl (22 : Int32) (hb hby at_188) (by decide) kk) ?_
      refine own_go (S' := T169.setTop (mkF m 192 #[.val (.int p1), .val (.int p2), .val (.int (p1 &&& (3 : Int32))), .val (.int (p2 &&& (2147483647 : Int32))), .unset, .unset, .unset, .unset, .unset, .unset] [(.int (2147483647 : Int32)), (.int (22 : Int32)), (.ref a82), (.ref a82)])) (fun tg kk => Stand.ldcI X169 hx (v := (2147483647 : Int32)) hown (mvT hZ (hw _ (List.mem_of_getElem? (i := 0) rfl))) rfl (hb hby at_190) kk) ?_
      obtain ⟨cl173, Ar173, q1_173, S173, q3_173, H173, G173⟩ := id V169
      have hj173 := inb_of (j := (22 : Int32)) S173 ⟨by decide, by decide⟩
      obtain ⟨T173, h173, X173, e173, W173, st173⟩ := stI X169 hx hZ e169 Ar173 hj173 (g := (mkF m 192 #[.val (.int p1), .val (.int p2), .val (.int (p1 &&& (3 : Int32))), .val (.int (p2 &&& (2147483647 : Int32))), .unset, .unset, .unset, .unset, .unset, .unset] [(.int (2147483647 : Int32)), (.int (22 : Int32)), (.ref a82), (.ref a82)])) rfl rfl (hb hby at_192)
      refine own_go (S' := T173.setTop (mkF m 193 #[.val (.int p1), .val (.int p2), .val (.int (p1 &&& (3 : Int32))), .val (.int (p2 &&& (2147483647 : Int32))), .unset, .unset, .unset, .unset, .unset, .unset] [(.ref a82)])) (st173) ?_
      have N173 := Fr.snoc X173 N169 q82
      have O175 : Old Z n0 h173 := O171.wr W173 q82
      have Z176 : n0 ≤ h173.size := by rw [W173.size]; exact Z172
      have V173 : Arv Z h173 a82 cA82 .int (24 : Int32) [(.int (199 : Int32)), (.int (200 : Int32)), (.int (201 : Int32)), (.int (202 : Int32)), (.int (203 : Int32)), (.int (299 : Int32)), (.int (300 : Int32)), (.int (399 : Int32)), (.int (400 : Int32)), (.int (407 : Int32)), (.int (408 : Int32)), (.int (409 : Int32)), (.int (428 : Int32)), (.int (429 : Int32)), (.int (430 : Int32)), (.int (499 : Int32)), (.int (500 : Int32)), (.int (0 : Int32)), (.int (-200 : Int32)), (.int (-202 : Int32)), (.int (-299 : Int32)), (.int (-408 : Int32)), (.int (2147483647 : Int32)), (.int (0 : Int32))] (.int (0 : Int32)) := Arv.set Ar173 q1_173 S173 q3_173 H173 G173 rfl W173 22 (by decide) (by show 22 < 24; decide)
      clear V169 st173 W173 hj173 H173 G173 q3_173 S173 q1_173 Ar173 cl173 N169 O171 Z172 X169 e169
      refine own_go (S' := T173.setTop (mkF m 194 #[.val (.int p1), .val (.int p2), .val (.int (p1 &&& (3 : Int32))), .val (.int (p2 &&& (2147483647 : Int32))), .unset, .unset, .unset, .unset, .unset, .unset] [(.ref a82), (.ref a82)])) (fun tg kk => XS.dup X173.here hx rfl (hb hby at_193) rfl rfl kk) ?_
      refine own_go (S' := T173.setTop (mkF m 196 #[.val (.int p1), .val (.int p2), .val (.int (p1 &&& (3 : Int32))), .val (.int (p2 &&& (2147483647 : Int32))), .unset, .unset, .unset, .unset, .unset, .unset] [(.int (23 : Int32)), (.ref a82), (.ref a82)])) (fun tg kk => XT.bipushV X173.here hx rfl (23 : Int32) (hb hby at_194) (by decide) kk) ?_
      refine own_go (S' := T173.setTop (mkF m 198 #[.val (.int p1), .val (.int p2), .val (.int (p1 &&& (3 : Int32))), .val (.int (p2 &&& (2147483647 : Int32))), .unset, .unset, .unset, .unset, .unset, .unset] [(.int (-2147483648 : Int32)), (.int (23 : Int32)), (.ref a82), (.ref a82)])) (fun tg kk => Stand.ldcI X173 hx (v := (-2147483648 : Int32)) hown (mvT hZ (hw _ (List.mem_of_getElem? (i := 101) rfl))) rfl (hb hby at_196) kk) ?_
      obtain ⟨cl177, Ar177, q1_177, S177, q3_177, H177, G177⟩ := id V173
      have hj177 := inb_of (j := (23 : Int32)) S177 ⟨by decide, by decide⟩
      obtain ⟨T177, h177, X177, e177, W177, st177⟩ := stI X173 hx hZ e173 Ar177 hj177 (g := (mkF m 198 #[.val (.int p1), .val (.int p2), .val (.int (p1 &&& (3 : Int32))), .val (.int (p2 &&& (2147483647 : Int32))), .unset, .unset, .unset, .unset, .unset, .unset] [(.int (-2147483648 : Int32)), (.int (23 : Int32)), (.ref a82), (.ref a82)])) rfl rfl (hb hby at_198)
      refine own_go (S' := T177.setTop (mkF m 199 #[.val (.int p1), .val (.int p2), .val (.int (p1 &&& (3 : Int32))), .val (.int (p2 &&& (2147483647 : Int32))), .unset, .unset, .unset, .unset, .unset, .unset] [(.ref a82)])) (st177) ?_
      have N177 := Fr.snoc X177 N173 q82
      have O179 : Old Z n0 h177 := O175.wr W177 q82
      have Z180 : n0 ≤ h177.size := by rw [W177.size]; exact Z176
      have V177 : Arv Z h177 a82 cA82 .int (24 : Int32) [(.int (199 : Int32)), (.int (200 : Int32)), (.int (201 : Int32)), (.int (202 : Int32)), (.int (203 : Int32)), (.int (299 : Int32)), (.int (300 : Int32)), (.int (399 : Int32)), (.int (400 : Int32)), (.int (407 : Int32)), (.int (408 : Int32)), (.int (409 : Int32)), (.int (428 : Int32)), (.int (429 : Int32)), (.int (430 : Int32)), (.int (499 : Int32)), (.int (500 : Int32)), (.int (0 : Int32)), (.int (-200 : Int32)), (.int (-202 : Int32)), (.int (-299 : Int32)), (.int (-408 : Int32)), (.int (2147483647 : Int32)), (.int (-2147483648 : Int32))] (.int (0 : Int32)) := Arv.set Ar177 q1_177 S177 q3_177 H177 G177 rfl W177 23 (by decide) (by show 23 < 24; decide)
      clear V173 st177 W177 hj177 H177 G177 q3_177 S177 q1_177 Ar177 cl177 N173 O175 Z176 X173 e173
      refine own_go (S' := T177.setTop (mkF m 201 #[.val (.int p1), .val (.int p2), .val (.int (p1 &&& (3 : Int32))), .val (.int (p2 &&& (2147483647 : Int32))), .unset, .val (.ref a82), .unset, .unset, .unset, .unset] [])) (fun tg kk => XS.astore X177.here hx rfl (hb hby at_199) rfl rfl (l' := #[.val (.int p1), .val (.int p2), .val (.int (p1 &&& (3 : Int32))), .val (.int (p2 &&& (2147483647 : Int32))), .unset, .val (.ref a82), .unset, .unset, .unset, .unset]) rfl kk) ?_
      refine own_go (S' := T177.setTop (mkF m 203 #[.val (.int p1), .val (.int p2), .val (.int (p1 &&& (3 : Int32))), .val (.int (p2 &&& (2147483647 : Int32))), .unset, .val (.ref a82), .unset, .unset, .unset, .unset] [(.ref a82)])) (fun tg kk => XS.aload X177.here hx rfl (hb hby at_201) rfl rfl kk) ?_
      refine own_go (S' := T177.setTop (mkF m 204 #[.val (.int p1), .val (.int p2), .val (.int (p1 &&& (3 : Int32))), .val (.int (p2 &&& (2147483647 : Int32))), .unset, .val (.ref a82), .unset, .unset, .unset, .unset] [(.int (p2 &&& (2147483647 : Int32))), (.ref a82)])) (fun tg kk => XS.iloadN X177.here hx rfl (hb hby at_203) rfl kk) ?_
      refine own_go (S' := T177.setTop (mkF m 206 #[.val (.int p1), .val (.int p2), .val (.int (p1 &&& (3 : Int32))), .val (.int (p2 &&& (2147483647 : Int32))), .unset, .val (.ref a82), .unset, .unset, .unset, .unset] [(.ref a82), (.int (p2 &&& (2147483647 : Int32))), (.ref a82)])) (fun tg kk => XS.aload X177.here hx rfl (hb hby at_204) rfl rfl kk) ?_
      obtain ⟨cl181, Ar181, q1_181, S181, q3_181, H181, G181⟩ := id V177
      refine own_go (S' := T177.setTop (mkF m 207 #[.val (.int p1), .val (.int p2), .val (.int (p1 &&& (3 : Int32))), .val (.int (p2 &&& (2147483647 : Int32))), .unset, .val (.ref a82), .unset, .unset, .unset, .unset] [(.int (24 : Int32)), (.int (p2 &&& (2147483647 : Int32))), (.ref a82)])) (fun tg kk => X177.arraylength hx (cell := cl181) (by rw [e177]; exact Ar181.1) (State.isArrayOf_alike hZ.alike Ar181.2.1) (g := (mkF m 206 #[.val (.int p1), .val (.int p2), .val (.int (p1 &&& (3 : Int32))), .val (.int (p2 &&& (2147483647 : Int32))), .unset, .val (.ref a82), .unset, .unset, .unset, .unset] [(.ref a82), (.int (p2 &&& (2147483647 : Int32))), (.ref a82)])) rfl rfl (hb hby at_206) tg (by rw [len_of S181 q3_181]; exact kk)) ?_
      refine own_go (S' := T177.setTop (mkF m 208 #[.val (.int p1), .val (.int p2), .val (.int (p1 &&& (3 : Int32))), .val (.int (p2 &&& (2147483647 : Int32))), .unset, .val (.ref a82), .unset, .unset, .unset, .unset] [(.int ((p2 &&& (2147483647 : Int32)) % (24 : Int32))), (.ref a82)])) (fun tg kk => iremM X177 hx rfl (hb hby at_207) rfl (by decide) kk) ?_
      obtain ⟨cl182, Ar182, q1_182, S182, q3_182, H182, G182⟩ := id V177
      have hj182 := inb_of (j := ((p2 &&& (2147483647 : Int32)) % (24 : Int32))) S182 (own_rem24 p2)
      obtain ⟨w182, hv182⟩ : ∃ w, cl182.slots[((p2 &&& (2147483647 : Int32)) % (24 : Int32)).toNatClampNeg]? = some (.int w) := by
        have hlt := Nat.lt_of_not_le fun q => hj182 (Or.inr q)
        obtain ⟨x, hx'⟩ := fit_I (G182 _ hlt) (Or.inl rfl)
        exact ⟨x, by rw [H182 _ hlt, hx']⟩
      refine own_go (S' := T177.setTop (mkF m 209 #[.val (.int p1), .val (.int p2), .val (.int (p1 &&& (3 : Int32))), .val (.int (p2 &&& (2147483647 : Int32))), .unset, .val (.ref a82), .unset, .unset, .unset, .unset] [(.int w182)])) (fun tg kk => X177.iaload hx (by rw [e177]; exact Ar182.1) (State.isArrayOf_alike hZ.alike Ar182.2.1) Ar182.2.2 hj182 hv182 (g := (mkF m 208 #[.val (.int p1), .val (.int p2), .val (.int (p1 &&& (3 : Int32))), .val (.int (p2 &&& (2147483647 : Int32))), .unset, .val (.ref a82), .unset, .unset, .unset, .unset] [(.int ((p2 &&& (2147483647 : Int32)) % (24 : Int32))), (.ref a82)])) rfl rfl (hb hby at_208) tg kk) ?_
      refine own_go (S' := T177.setTop (mkF m 211 #[.val (.int p1), .val (.int p2), .val (.int (p1 &&& (3 : Int32))), .val (.int (p2 &&& (2147483647 : Int32))), .val (.int w182), .val (.ref a82), .unset, .unset, .unset, .unset] [])) (fun tg kk => XS.istore X177.here hx rfl (hb hby at_209) rfl (l' := #[.val (.int p1), .val (.int p2), .val (.int (p1 &&& (3 : Int32))), .val (.int (p2 &&& (2147483647 : Int32))), .val (.int w182), .val (.ref a82), .unset, .unset, .unset, .unset]) rfl kk) ?_
      exact key w182 (.val (.ref a82)) _ _ _ X177 e177 N177 Z180 O179 (One.val rfl)
set_option maxRecDepth 65536 in
set_option maxHeartbeats 40000000 in
theorem comes_1 {Post : Tables → Env → Array Value → State → Outcome → State → Prop} (hpost : ∀ tb e args s v u, (limb_1_1.after args s (.returned v) u = true ∧ limb_1_2.after args s (.returned v) u = true ∧ True) → FrameEnd s (.returned v) u (Jvm.fieldLocs frame_1_writes args s ++ Jvm.arrayLocs frame_1_arrays args s ++ Jvm.staticLocs frame_1_statics s) 16 128 → Post tb e args s (.returned v) u) :
    ArmFor flags0 classFile x code maxLocals ret World_1 tables_1 room_1 Calls_1 rest_1 Pre_1 Post := by
  intro l hfl _ _ p e ha hc hk s m args below hf hA hF happ hP
  obtain ⟨hcalls, hrest, hpre⟩ := hP
  obtain ⟨-, -, -, hnamed, -, -, -, hat⟩ := (Spec.applies_iff hf).mp happ
  obtain ⟨hg, hn⟩ := and_e (Cond.before_iff.mp (show (Jvm.Cond.and given_1 narrow_1).before args s = true from hpre))
  obtain ⟨hgl, hgr⟩ := and_e hg
  obtain ⟨hgrl, hgrr⟩ := and_e hgr
  obtain ⟨w0, w1, rfl⟩ : ∃ w0 w1 : Value, args = #[w0, w1] := by
    have hs : args.size = 2 := by simpa [Cond.value] using hgl
    obtain ⟨L⟩ := args
    match L, hs with
    | [w0, w1], _ => exact ⟨w0, w1, rfl⟩
  have hw := fun d (hd : d ∈ tables_1) => atoms_spec (ws := Jvm.Cond.code x code maxLocals ret :: tables_1) hat d (List.mem_cons_of_mem _ hd)
  have hfit : Fit s := fun {y c} hc i hi => by
    obtain ⟨ha, rfl⟩ := Array.getElem?_eq_some_iff.mp hc
    have q := List.all_eq_true.mp ((Array.all_eq_true_iff_forall_mem.mp hF) _ (Array.getElem_mem ha)) i (List.mem_range.mpr hi)
    simpa [Array.getElem?_eq_getElem hi] using q
  obtain ⟨p1, ew0⟩ := is_v hgrl
  obtain rfl : w0 = (.int p1) := Option.some.inj ew0
  obtain ⟨p2, ew1⟩ := is_v hgrr
  obtain rfl : w1 = (.int p2) := Option.some.inj ew1
  obtain ⟨hsets, hown0⟩ := atoms_of _ (rest_1_c_eq ▸ (show rest_1_c.before _ s = true from hrest))
  have ev_high := Cond.eq_int (hsets _ (List.mem_of_getElem? (i := 3) rfl)) rfl
  have S_high : Sta s s.heap "java/lang/Integer$IntegerCache" "high" "I" (.int (127 : Int32)) := Sta.start ev_high (Or.inl (hsets _ (List.mem_of_getElem? (i := 1) rfl)))
  obtain ⟨ca, ev_ca⟩ := arr_v (Cond.before_iff.mp (hsets _ (List.mem_of_getElem? (i := 4) rfl)))
  have S_cache : Sta s s.heap "java/lang/Integer$IntegerCache" "cache" "[Ljava/lang/Integer;" (.ref ca) := Sta.start ev_ca (Or.inr ⟨(hw _ (List.mem_of_getElem? (i := 12) rfl)), (hsets _ (List.mem_of_getElem? (i := 2) rfl))⟩)
  obtain ⟨clc, A_ca⟩ := Arr.start ev_ca (Cond.before_iff.mp (hsets _ (List.mem_of_getElem? (i := 4) rfl)))
  obtain ⟨hq1, hq2⟩ := Jvm.Free.IntBox.length_fwd (hsets _ (List.mem_of_getElem? (i := 6) rfl)) ev_ca A_ca.1 A_ca.2.1 A_ca.2.2
  have B_cache : Bxs s ca clc "java/lang/Integer" "I" (256 : Int32) (fun j => .int (j - 128)) := Bxs.start (fun _ => ev_ca) A_ca hq1 hq2 (by decide) (Cond.before_iff.mp (hsets _ (List.mem_of_getElem? (i := 7) rfl))) (fun X j nn h => eqv_i (Term.sub_int (idx_at nn) rfl) h)
  obtain ⟨em, ev_em⟩ := exa_v (Cond.before_iff.mp (hsets _ (List.mem_of_getElem? (i := 10) rfl)))
  have E_EMPTY := Exa.start ev_em (Cond.before_iff.mp (hsets _ (List.mem_of_getElem? (i := 10) rfl)))
  have S_EMPTY : Sta s s.heap "java/util/Optional" "EMPTY" "Ljava/util/Optional;" (.ref em) := Sta.start ev_em (Or.inl (hsets _ (List.mem_of_getElem? (i := 9) rfl)))
  have F_EMPTY : Fld s s.heap em "java/util/Optional" "value" "Ljava/lang/Object;" .null := Fld.start ((fld_at ev_em).symm.trans (null_v (Cond.before_iff.mp (hsets _ (List.mem_of_getElem? (i := 11) rfl)))))
  obtain ⟨n, o, h1, h2, h3, _, L, rfl, ⟨rfl, N⟩, hq⟩ := rm0 l s _ hw tables_1 p1 p2 ca clc em s.heap s.heap.size (Nat.le_refl _) (Old.start s) S_high S_cache B_cache S_EMPTY E_EMPTY F_EMPTY p e ha hc hk s m _ below hf ((Spec.applies_iff_loose hf).mp happ).1 ⟨rfl, State.Warmed39.refl s, rfl⟩ trivial
  refine ⟨n, _, h1, h2, h3, hpost _ _ _ _ _ _ ⟨Cond.after_iff.mpr rfl, Cond.after_iff.mpr (eq_i res_at (Term.int_eval (1)) rfl), trivial⟩ ⟨hq.1, hq.2.1, (hq.2.2.sift fun y hy => Or.inr (N y hy)).mono (by decide) (by decide)⟩⟩
theorem main_1_1 : Claimed_1_1 := comes_1 fun _ _ _ _ _ _ h hF => ⟨h.1, hF⟩
theorem main_1_2 : Claimed_1_2 := comes_1 fun _ _ _ _ _ _ h hF => ⟨h.2.1, hF⟩
end Jvm.Pilot.@@N@@
namespace Jvm.Pilot.@@N@@
open Jvm Jvm.ClassFile Sem Op Lib Jvm.Free Jvm.Stand Jvm.Pilot.@@N@@.Jvm.D
/-! MADE BY PROGRAM (witnessworld.py) out of the Statement's table words and the real class files: 18 classes; the members and pool entries that the words name. The judged class is class 1, her method 1. -/
namespace start1
open Jvm.ClassFile
def u (s : String) : CpInfo := .utf8 (stringToUtf16 s)
/-- a pool by its gaps: so many unusable entries, then the entry; so many at the end -/
def gap : Nat → List CpInfo → List CpInfo
  | 0, r => r
  | n + 1, r => .unusable :: gap n r
def poolList (es : List (Nat × CpInfo)) (last : Nat) : List CpInfo := es.foldr (fun e r => gap e.1 (e.2 :: r)) (gap last [])
def pool (es : List (Nat × CpInfo)) (last : Nat) : Array CpInfo := ⟨poolList es last⟩
def fileOf (pool : Array CpInfo) (this : Nat) (attrs : Array Attribute := #[]) (ms : Array MethodInfo := #[]) (fl : Nat := 33) (sup : Nat := 0) (ifs : Array Nat := #[]) (fds : Array FieldInfo := #[]) : ClassFile where
  minorVersion := 0
  majorVersion := 65
  constantPool := pool
  accessFlags := fl
  thisClass := this
  superClass := sup
  interfaces := ifs
  fields := fds
  methods := ms
  attributes := attrs
def plain (name : String) (sup : Option ClassId) : Class where
  name := name
  kind := .ordinary
  loader := none
  accessFlags := 33
  super := sup
  interfaces := #[]
  cf := none
  fields := #[]
  methods := #[]
  instanceTypes := #[]
  staticTypes := #[]
  resolved := #[]
  callSites := []
  init := .initialized
  statics := none
  mirror := none

def pool0 : Array CpInfo := pool [(5, u "<init>"), (0, u "()V"), (1, .class_ 10), (1, u "java/lang/Object")] 113

def k0c0 : Code := { maxStack := 0, maxLocals := 1, code := object_method_1_code, exceptionTable := #[], attributes := #[] }
def k0m0 : Method := { name := "<init>", desc := "()V", sig := { parameters := [], returnType := none }, accessFlags := 1, code := some k0c0 }
/-- java/lang/Object -/
def k0 : Class := { plain "java/lang/Object" none with
  accessFlags := 33
  interfaces := #[]
  cf := some (fileOf pool0 8 #[] #[{ accessFlags := 1, nameIndex := 5, descriptorIndex := 6, attributes := #[] }] 33 0 #[] #[])
  fields := #[]
  methods := #[k0m0]
  instanceTypes := #[]
  staticTypes := #[]
  resolved := Array.replicate 124 none
  statics := none }

def pool1 : Array CpInfo := pool [(2, .class_ 4), (1, u "java/lang/Object"), (0, u "<init>"), (0, u "()V"), (0, .integer 2147483647), (0, .integer 2147483648), (0, .methodref 10 11), (0, .class_ 12), (0, .nameAndType 13 14), (0, u "com/example/periodic_jobs/periodicjobs/engine/DeliveryResult"), (0, u "answered"), (0, u "(I)Lcom/example/periodic_jobs/periodicjobs/engine/DeliveryResult;"), (0, .methodref 10 16), (0, .nameAndType 17 18), (0, u "getHttpStatus"), (0, u "()Ljava/util/OptionalInt;"), (0, .methodref 20 21), (0, .class_ 22), (0, .nameAndType 23 24), (0, u "java/util/OptionalInt"), (0, u "isPresent"), (0, u "()Z"), (0, .methodref 20 26), (0, .nameAndType 27 28), (0, u "getAsInt"), (0, u "()I"), (0, .methodref 10 30), (0, .nameAndType 31 24), (0, u "isConfirmed"), (0, .methodref 10 33), (0, .nameAndType 34 35), (0, u "getError"), (0, u "()Ljava/util/Optional;"), (0, .methodref 37 21), (0, .class_ 38), (0, u "java/util/Optional"), (0, .methodref 10 40), (0, .nameAndType 41 24), (0, u "isSuccess"), (0, .methodref 10 43), (0, .nameAndType 44 24), (0, u "isAccepted"), (0, .methodref 10 46), (0, .nameAndType 47 24), (0, u "isWorthRetrying"), (0, .class_ 49), (0, u "com/example/periodic_jobs/periodicjobs/engine/DeliveryResultAnsweredPinLaw"), (2, u "law"), (0, u "(II)Z")] 3

def k1m0 : Method := { name := "<init>", desc := "()V", sig := { parameters := [], returnType := none }, accessFlags := 1, code := none }
def k1c1 : Code := { maxStack := 4, maxLocals := 10, code := code, exceptionTable := #[], attributes := #[] }
def k1m1 : Method := { name := "law", desc := "(II)Z", sig := { parameters := [.int, .int], returnType := some .boolean }, accessFlags := 9, code := some k1c1 }
/-- com/example/periodic_jobs/periodicjobs/engine/DeliveryResultAnsweredPinLaw -/
def k1 : Class := { plain "com/example/periodic_jobs/periodicjobs/engine/DeliveryResultAnsweredPinLaw" (some 0) with
  accessFlags := 49
  interfaces := #[]
  cf := some (fileOf pool1 48 #[] #[{ accessFlags := 1, nameIndex := 5, descriptorIndex := 6, attributes := #[] }, { accessFlags := 9, nameIndex := 52, descriptorIndex := 53, attributes := #[] }] 49 2 #[] #[])
  fields := #[]
  methods := #[k1m0, k1m1]
  instanceTypes := #[]
  staticTypes := #[]
  resolved := Array.replicate 57 none
  statics := none }

def pool2 : Array CpInfo := pool [(1, .methodref 2 3), (0, .class_ 4), (0, .nameAndType 5 6), (0, u "java/lang/Object"), (0, u "<init>"), (0, u "()V"), (0, .fieldref 8 9), (0, .class_ 10), (0, .nameAndType 11 12), (0, u "com/example/periodic_jobs/periodicjobs/engine/DeliveryResult"), (0, u "httpStatus"), (0, u "Ljava/lang/Integer;"), (0, .fieldref 8 14), (0, .nameAndType 15 16), (0, u "confirmed"), (0, u "Z"), (0, .fieldref 8 18), (0, .nameAndType 19 20), (0, u "error"), (0, u "Ljava/lang/String;"), (0, .methodref 22 23), (0, .class_ 24), (0, .nameAndType 25 26), (0, u "java/lang/Integer"), (0, u "valueOf"), (0, u "(I)Ljava/lang/Integer;"), (0, .methodref 8 28), (0, .nameAndType 5 29), (0, u "(Ljava/lang/Integer;ZLjava/lang/String;)V"), (10, .class_ 42), (1, u "java/util/OptionalInt"), (1, u "()Ljava/util/OptionalInt;"), (0, .methodref 22 46), (0, .nameAndType 47 48), (0, u "intValue"), (0, u "()I"), (0, .methodref 40 50), (0, .nameAndType 51 52), (0, u "of"), (0, u "(I)Ljava/util/OptionalInt;"), (0, .methodref 54 55), (0, .class_ 56), (0, .nameAndType 57 58), (0, u "java/util/Optional"), (0, u "ofNullable"), (0, u "(Ljava/lang/Object;)Ljava/util/Optional;"), (2, u "answered"), (0, u "(I)Lcom/example/periodic_jobs/periodicjobs/engine/DeliveryResult;"), (3, u "getHttpStatus"), (1, u "isConfirmed"), (0, u "()Z"), (0, u "getError"), (0, u "()Ljava/util/Optional;"), (2, u "isSuccess"), (0, u "isAccepted"), (0, u "isWorthRetrying")] 2

def k2c0 : Code := { maxStack := 2, maxLocals := 4, code := prog_9_method_1_code, exceptionTable := #[], attributes := #[] }
def k2m0 : Method := { name := "<init>", desc := "(Ljava/lang/Integer;ZLjava/lang/String;)V", sig := { parameters := [(.object "java/lang/Integer"), .boolean, (.object "java/lang/String")], returnType := none }, accessFlags := 2, code := some k2c0 }
def k2c1 : Code := { maxStack := 5, maxLocals := 1, code := prog_9_method_2_code, exceptionTable := #[], attributes := #[] }
def k2m1 : Method := { name := "answered", desc := "(I)Lcom/example/periodic_jobs/periodicjobs/engine/DeliveryResult;", sig := { parameters := [.int], returnType := some (.object "com/example/periodic_jobs/periodicjobs/engine/DeliveryResult") }, accessFlags := 8, code := some k2c1 }
def k2c2 : Code := { maxStack := 1, maxLocals := 1, code := prog_9_method_5_code, exceptionTable := #[], attributes := #[] }
def k2m2 : Method := { name := "getHttpStatus", desc := "()Ljava/util/OptionalInt;", sig := { parameters := [], returnType := some (.object "java/util/OptionalInt") }, accessFlags := 1, code := some k2c2 }
def k2c3 : Code := { maxStack := 1, maxLocals := 1, code := prog_9_method_6_code, exceptionTable := #[], attributes := #[] }
def k2m3 : Method := { name := "isConfirmed", desc := "()Z", sig := { parameters := [], returnType := some .boolean }, accessFlags := 1, code := some k2c3 }
def k2c4 : Code := { maxStack := 1, maxLocals := 1, code := prog_9_method_7_code, exceptionTable := #[], attributes := #[] }
def k2m4 : Method := { name := "getError", desc := "()Ljava/util/Optional;", sig := { parameters := [], returnType := some (.object "java/util/Optional") }, accessFlags := 1, code := some k2c4 }
def k2c5 : Code := { maxStack := 2, maxLocals := 1, code := prog_9_method_8_code, exceptionTable := #[], attributes := #[] }
def k2m5 : Method := { name := "isSuccess", desc := "()Z", sig := { parameters := [], returnType := some .boolean }, accessFlags := 0, code := some k2c5 }
def k2c6 : Code := { maxStack := 2, maxLocals := 1, code := prog_9_method_9_code, exceptionTable := #[], attributes := #[] }
def k2m6 : Method := { name := "isAccepted", desc := "()Z", sig := { parameters := [], returnType := some .boolean }, accessFlags := 0, code := some k2c6 }
def k2c7 : Code := { maxStack := 2, maxLocals := 1, code := prog_9_method_10_code, exceptionTable := #[], attributes := #[] }
def k2m7 : Method := { name := "isWorthRetrying", desc := "()Z", sig := { parameters := [], returnType := some .boolean }, accessFlags := 0, code := some k2c7 }
/-- com/example/periodic_jobs/periodicjobs/engine/DeliveryResult -/
def k2 : Class := { plain "com/example/periodic_jobs/periodicjobs/engine/DeliveryResult" (some 0) with
  accessFlags := 49
  interfaces := #[]
  cf := some (fileOf pool2 8 #[] #[{ accessFlags := 2, nameIndex := 5, descriptorIndex := 29, attributes := #[] }, { accessFlags := 8, nameIndex := 61, descriptorIndex := 62, attributes := #[] }, { accessFlags := 1, nameIndex := 66, descriptorIndex := 44, attributes := #[] }, { accessFlags := 1, nameIndex := 68, descriptorIndex := 69, attributes := #[] }, { accessFlags := 1, nameIndex := 70, descriptorIndex := 71, attributes := #[] }, { accessFlags := 0, nameIndex := 74, descriptorIndex := 69, attributes := #[] }, { accessFlags := 0, nameIndex := 75, descriptorIndex := 69, attributes := #[] }, { accessFlags := 0, nameIndex := 76, descriptorIndex := 69, attributes := #[] }] 49 2 #[] #[{ accessFlags := 18, nameIndex := 11, descriptorIndex := 12, attributes := #[] }, { accessFlags := 18, nameIndex := 15, descriptorIndex := 16, attributes := #[] }, { accessFlags := 18, nameIndex := 19, descriptorIndex := 20, attributes := #[] }])
  fields := #[{ name := "httpStatus", type := (.object "java/lang/Integer"), accessFlags := 18, slot := 0, constantValue := 0 }, { name := "confirmed", type := .boolean, accessFlags := 18, slot := 1, constantValue := 0 }, { name := "error", type := (.object "java/lang/String"), accessFlags := 18, slot := 2, constantValue := 0 }]
  methods := #[k2m0, k2m1, k2m2, k2m3, k2m4, k2m5, k2m6, k2m7]
  instanceTypes := #[(.object "java/lang/Integer"), .boolean, (.object "java/lang/String")]
  staticTypes := #[]
  resolved := Array.replicate 79 none
  statics := none }

def pool3 : Array CpInfo := pool [(1, .class_ 2), (0, u "java/io/Serializable"), (0, .class_ 4), (0, u "java/lang/Object")] 2

/-- java/io/Serializable -/
def k3 : Class := { plain "java/io/Serializable" (some 0) with
  accessFlags := 1537
  interfaces := #[]
  cf := some (fileOf pool3 1 #[] #[] 1537 3 #[] #[])
  fields := #[]
  methods := #[]
  instanceTypes := #[]
  staticTypes := #[]
  resolved := Array.replicate 7 none
  statics := none }

def pool4 : Array CpInfo := pool [(1, .methodref 2 3), (0, .class_ 4), (0, .nameAndType 5 6), (0, u "java/lang/Object"), (0, u "<init>"), (0, u "()V"), (1, .class_ 10), (1, u "java/lang/Number"), (2, .class_ 14), (0, u "java/io/Serializable"), (0, u "serialVersionUID"), (0, u "J")] 20

def k4c0 : Code := { maxStack := 1, maxLocals := 1, code := jdk_18_method_1_code, exceptionTable := #[], attributes := #[] }
def k4m0 : Method := { name := "<init>", desc := "()V", sig := { parameters := [], returnType := none }, accessFlags := 1, code := some k4c0 }
/-- java/lang/Number -/
def k4 : Class := { plain "java/lang/Number" (some 0) with
  accessFlags := 1057
  interfaces := #[3]
  cf := some (fileOf pool4 8 #[] #[{ accessFlags := 1, nameIndex := 5, descriptorIndex := 6, attributes := #[] }] 1057 2 #[13] #[{ accessFlags := 26, nameIndex := 15, descriptorIndex := 16, attributes := #[] }])
  fields := #[{ name := "serialVersionUID", type := .long, accessFlags := 26, slot := 0, constantValue := 0 }]
  methods := #[k4m0]
  instanceTypes := #[]
  staticTypes := #[.long]
  resolved := Array.replicate 37 none
  statics := none }

def pool5 : Array CpInfo := pool [(1, .class_ 2), (0, u "java/lang/Comparable"), (0, .class_ 4), (0, u "java/lang/Object")] 7

/-- java/lang/Comparable -/
def k5 : Class := { plain "java/lang/Comparable" (some 0) with
  accessFlags := 1537
  interfaces := #[]
  cf := some (fileOf pool5 1 #[] #[] 1537 3 #[] #[])
  fields := #[]
  methods := #[]
  instanceTypes := #[]
  staticTypes := #[]
  resolved := Array.replicate 12 none
  statics := none }

def pool6 : Array CpInfo := pool [(1, .class_ 2), (0, u "java/lang/constant/Constable"), (0, .class_ 4), (0, u "java/lang/Object")] 6

/-- java/lang/constant/Constable -/
def k6 : Class := { plain "java/lang/constant/Constable" (some 0) with
  accessFlags := 1537
  interfaces := #[]
  cf := some (fileOf pool6 1 #[] #[] 1537 3 #[] #[])
  fields := #[]
  methods := #[]
  instanceTypes := #[]
  staticTypes := #[]
  resolved := Array.replicate 11 none
  statics := none }

def pool7 : Array CpInfo := pool [(1, .class_ 2), (0, u "java/lang/constant/ConstantDesc"), (0, .class_ 4), (0, u "java/lang/Object")] 32

/-- java/lang/constant/ConstantDesc -/
def k7 : Class := { plain "java/lang/constant/ConstantDesc" (some 0) with
  accessFlags := 1537
  interfaces := #[]
  cf := some (fileOf pool7 1 #[] #[] 1537 3 #[] #[])
  fields := #[]
  methods := #[]
  instanceTypes := #[]
  staticTypes := #[]
  resolved := Array.replicate 37 none
  statics := none }

def pool8 : Array CpInfo := pool [(1, .class_ 2), (0, u "java/lang/Integer"), (16, u "digits"), (0, u "[C"), (46, u "<init>"), (17, u "DigitOnes"), (0, u "[B"), (2, u "DigitTens"), (10, .nameAndType 67 101), (0, u "()V"), (19, u "()I"), (65, u "valueOf"), (0, u "(I)Ljava/lang/Integer;"), (0, .class_ 190), (0, u "java/lang/Integer$IntegerCache"), (0, .fieldref 189 192), (0, .nameAndType 193 194), (0, u "high"), (0, u "I"), (0, .fieldref 189 196), (0, .nameAndType 197 198), (0, u "cache"), (0, u "[Ljava/lang/Integer;"), (0, .methodref 1 200), (0, .nameAndType 67 201), (0, u "(I)V"), (0, .methodref 203 100), (0, .class_ 204), (0, u "java/lang/Number"), (0, .fieldref 1 206), (0, .nameAndType 207 194), (0, u "value"), (5, u "intValue"), (88, u "TYPE"), (0, u "Ljava/lang/Class;"), (0, .class_ 305), (0, u "java/lang/Comparable"), (0, .class_ 307), (0, u "java/lang/constant/Constable"), (0, .class_ 309), (0, u "java/lang/constant/ConstantDesc"), (0, u "MIN_VALUE"), (1, u "MAX_VALUE"), (3, u "SIZE"), (1, u "BYTES"), (1, u "serialVersionUID"), (0, u "J")] 131

def k8c0 : Code := { maxStack := 3, maxLocals := 1, code := jdk_33_method_22_code, exceptionTable := #[], attributes := #[] }
def k8m0 : Method := { name := "valueOf", desc := "(I)Ljava/lang/Integer;", sig := { parameters := [.int], returnType := some (.object "java/lang/Integer") }, accessFlags := 9, code := some k8c0 }
def k8c1 : Code := { maxStack := 2, maxLocals := 2, code := jdk_33_method_23_code, exceptionTable := #[], attributes := #[] }
def k8m1 : Method := { name := "<init>", desc := "(I)V", sig := { parameters := [.int], returnType := none }, accessFlags := 1, code := some k8c1 }
def k8c2 : Code := { maxStack := 1, maxLocals := 1, code := jdk_33_method_27_code, exceptionTable := #[], attributes := #[] }
def k8m2 : Method := { name := "intValue", desc := "()I", sig := { parameters := [], returnType := some .int }, accessFlags := 1, code := some k8c2 }
/-- java/lang/Integer -/
def k8 : Class := { plain "java/lang/Integer" (some 4) with
  accessFlags := 49
  interfaces := #[5, 6, 7]
  cf := some (fileOf pool8 1 #[.nestMembers #[189]] #[{ accessFlags := 9, nameIndex := 187, descriptorIndex := 188, attributes := #[] }, { accessFlags := 1, nameIndex := 67, descriptorIndex := 201, attributes := #[] }, { accessFlags := 1, nameIndex := 213, descriptorIndex := 121, attributes := #[] }] 49 203 #[304, 306, 308] #[{ accessFlags := 25, nameIndex := 310, descriptorIndex := 194, attributes := #[] }, { accessFlags := 25, nameIndex := 312, descriptorIndex := 194, attributes := #[] }, { accessFlags := 25, nameIndex := 302, descriptorIndex := 303, attributes := #[] }, { accessFlags := 24, nameIndex := 19, descriptorIndex := 20, attributes := #[] }, { accessFlags := 24, nameIndex := 89, descriptorIndex := 86, attributes := #[] }, { accessFlags := 24, nameIndex := 85, descriptorIndex := 86, attributes := #[] }, { accessFlags := 18, nameIndex := 207, descriptorIndex := 194, attributes := #[] }, { accessFlags := 25, nameIndex := 316, descriptorIndex := 194, attributes := #[] }, { accessFlags := 25, nameIndex := 318, descriptorIndex := 194, attributes := #[] }, { accessFlags := 26, nameIndex := 320, descriptorIndex := 321, attributes := #[] }])
  fields := #[{ name := "MIN_VALUE", type := .int, accessFlags := 25, slot := 0, constantValue := 0 }, { name := "MAX_VALUE", type := .int, accessFlags := 25, slot := 1, constantValue := 0 }, { name := "TYPE", type := (.object "java/lang/Class"), accessFlags := 25, slot := 2, constantValue := 0 }, { name := "digits", type := (.array .char), accessFlags := 24, slot := 3, constantValue := 0 }, { name := "DigitTens", type := (.array .byte), accessFlags := 24, slot := 4, constantValue := 0 }, { name := "DigitOnes", type := (.array .byte), accessFlags := 24, slot := 5, constantValue := 0 }, { name := "value", type := .int, accessFlags := 18, slot := 0, constantValue := 0 }, { name := "SIZE", type := .int, accessFlags := 25, slot := 6, constantValue := 0 }, { name := "BYTES", type := .int, accessFlags := 25, slot := 7, constantValue := 0 }, { name := "serialVersionUID", type := .long, accessFlags := 26, slot := 8, constantValue := 0 }]
  methods := #[k8m0, k8m1, k8m2]
  instanceTypes := #[.int]
  staticTypes := #[.int, .int, (.object "java/lang/Class"), (.array .char), (.array .byte), (.array .byte), .int, .int, .long]
  resolved := Array.replicate 453 none
  statics := none }

def pool9 : Array CpInfo := pool [(2, .class_ 4), (1, u "java/lang/Object"), (0, u "<init>"), (0, u "()V"), (0, .class_ 8), (0, u "java/lang/Integer"), (7, .class_ 18), (1, u "java/lang/Integer$IntegerCache"), (0, u "$assertionsDisabled"), (0, u "Z"), (26, u "high"), (0, u "I"), (8, u "archivedCache"), (0, u "[Ljava/lang/Integer;"), (12, u "cache"), (0, u "low")] 27

def k9m0 : Method := { name := "<init>", desc := "()V", sig := { parameters := [], returnType := none }, accessFlags := 2, code := none }
/-- java/lang/Integer$IntegerCache -/
def k9 : Class := { plain "java/lang/Integer$IntegerCache" (some 0) with
  accessFlags := 48
  interfaces := #[]
  cf := some (fileOf pool9 16 #[.nestHost 7] #[{ accessFlags := 2, nameIndex := 5, descriptorIndex := 6, attributes := #[] }] 48 2 #[] #[{ accessFlags := 24, nameIndex := 72, descriptorIndex := 48, attributes := #[] }, { accessFlags := 24, nameIndex := 47, descriptorIndex := 48, attributes := #[] }, { accessFlags := 24, nameIndex := 71, descriptorIndex := 58, attributes := #[] }, { accessFlags := 8, nameIndex := 57, descriptorIndex := 58, attributes := #[] }, { accessFlags := 4120, nameIndex := 19, descriptorIndex := 20, attributes := #[] }])
  fields := #[{ name := "low", type := .int, accessFlags := 24, slot := 0, constantValue := 0 }, { name := "high", type := .int, accessFlags := 24, slot := 1, constantValue := 0 }, { name := "cache", type := (.array (.object "java/lang/Integer")), accessFlags := 24, slot := 2, constantValue := 0 }, { name := "archivedCache", type := (.array (.object "java/lang/Integer")), accessFlags := 8, slot := 3, constantValue := 0 }, { name := "$assertionsDisabled", type := .boolean, accessFlags := 4120, slot := 4, constantValue := 0 }]
  methods := #[k9m0]
  instanceTypes := #[]
  staticTypes := #[.int, .int, (.array (.object "java/lang/Integer")), (.array (.object "java/lang/Integer")), .boolean]
  resolved := Array.replicate 100 none
  statics := some 0 }

def pool10 : Array CpInfo := pool [(1, .methodref 2 3), (0, .class_ 4), (0, .nameAndType 5 6), (0, u "java/lang/Object"), (0, u "<init>"), (0, u "()V"), (0, .fieldref 8 9), (0, .class_ 10), (0, .nameAndType 11 12), (0, u "java/util/OptionalInt"), (0, u "isPresent"), (0, u "Z"), (0, .fieldref 8 14), (0, .nameAndType 15 16), (0, u "value"), (0, u "I"), (2, u "EMPTY"), (0, u "Ljava/util/OptionalInt;"), (0, .methodref 8 22), (0, .nameAndType 5 23), (0, u "(I)V"), (21, u "of"), (9, u "getAsInt"), (0, u "()I"), (40, u "(I)Ljava/util/OptionalInt;"), (1, u "()Z")] 36

def k10m0 : Method := { name := "<init>", desc := "()V", sig := { parameters := [], returnType := none }, accessFlags := 2, code := none }
def k10c1 : Code := { maxStack := 2, maxLocals := 2, code := jdk_2649_method_3_code, exceptionTable := #[], attributes := #[] }
def k10m1 : Method := { name := "<init>", desc := "(I)V", sig := { parameters := [.int], returnType := none }, accessFlags := 2, code := some k10c1 }
def k10c2 : Code := { maxStack := 3, maxLocals := 1, code := jdk_2649_method_4_code, exceptionTable := #[], attributes := #[] }
def k10m2 : Method := { name := "of", desc := "(I)Ljava/util/OptionalInt;", sig := { parameters := [.int], returnType := some (.object "java/util/OptionalInt") }, accessFlags := 9, code := some k10c2 }
def k10c3 : Code := { maxStack := 3, maxLocals := 1, code := jdk_2649_method_5_code, exceptionTable := #[], attributes := #[] }
def k10m3 : Method := { name := "getAsInt", desc := "()I", sig := { parameters := [], returnType := some .int }, accessFlags := 1, code := some k10c3 }
def k10c4 : Code := { maxStack := 1, maxLocals := 1, code := jdk_2649_method_6_code, exceptionTable := #[], attributes := #[] }
def k10m4 : Method := { name := "isPresent", desc := "()Z", sig := { parameters := [], returnType := some .boolean }, accessFlags := 1, code := some k10c4 }
/-- java/util/OptionalInt -/
def k10 : Class := { plain "java/util/OptionalInt" (some 0) with
  accessFlags := 49
  interfaces := #[]
  cf := some (fileOf pool10 8 #[] #[{ accessFlags := 2, nameIndex := 5, descriptorIndex := 6, attributes := #[] }, { accessFlags := 2, nameIndex := 5, descriptorIndex := 23, attributes := #[] }, { accessFlags := 9, nameIndex := 45, descriptorIndex := 97, attributes := #[] }, { accessFlags := 1, nameIndex := 55, descriptorIndex := 56, attributes := #[] }, { accessFlags := 1, nameIndex := 11, descriptorIndex := 99, attributes := #[] }] 49 2 #[] #[{ accessFlags := 26, nameIndex := 19, descriptorIndex := 20, attributes := #[] }, { accessFlags := 18, nameIndex := 11, descriptorIndex := 12, attributes := #[] }, { accessFlags := 18, nameIndex := 15, descriptorIndex := 16, attributes := #[] }])
  fields := #[{ name := "EMPTY", type := (.object "java/util/OptionalInt"), accessFlags := 26, slot := 0, constantValue := 0 }, { name := "isPresent", type := .boolean, accessFlags := 18, slot := 0, constantValue := 0 }, { name := "value", type := .int, accessFlags := 18, slot := 1, constantValue := 0 }]
  methods := #[k10m0, k10m1, k10m2, k10m3, k10m4]
  instanceTypes := #[.boolean, .int]
  staticTypes := #[(.object "java/util/OptionalInt")]
  resolved := Array.replicate 136 none
  statics := none }

def pool11 : Array CpInfo := pool [(1, .fieldref 2 3), (0, .class_ 4), (0, .nameAndType 5 6), (0, u "java/util/Optional"), (0, u "EMPTY"), (0, u "Ljava/util/Optional;"), (1, .class_ 10), (1, u "java/lang/Object"), (2, .fieldref 2 14), (0, .nameAndType 15 16), (0, u "value"), (0, u "Ljava/lang/Object;"), (29, u "()Z"), (17, u "ofNullable"), (0, u "(Ljava/lang/Object;)Ljava/util/Optional;"), (2, u "isPresent")] 118

def k11c0 : Code := { maxStack := 3, maxLocals := 1, code := jdk_32_method_4_code, exceptionTable := #[], attributes := #[] }
def k11m0 : Method := { name := "ofNullable", desc := "(Ljava/lang/Object;)Ljava/util/Optional;", sig := { parameters := [(.object "java/lang/Object")], returnType := some (.object "java/util/Optional") }, accessFlags := 9, code := some k11c0 }
def k11c1 : Code := { maxStack := 1, maxLocals := 1, code := jdk_32_method_6_code, exceptionTable := #[], attributes := #[] }
def k11m1 : Method := { name := "isPresent", desc := "()Z", sig := { parameters := [], returnType := some .boolean }, accessFlags := 1, code := some k11c1 }
/-- java/util/Optional -/
def k11 : Class := { plain "java/util/Optional" (some 0) with
  accessFlags := 49
  interfaces := #[]
  cf := some (fileOf pool11 2 #[] #[{ accessFlags := 9, nameIndex := 64, descriptorIndex := 65, attributes := #[] }, { accessFlags := 1, nameIndex := 68, descriptorIndex := 46, attributes := #[] }] 49 8 #[] #[{ accessFlags := 26, nameIndex := 5, descriptorIndex := 6, attributes := #[] }, { accessFlags := 18, nameIndex := 15, descriptorIndex := 16, attributes := #[] }])
  fields := #[{ name := "EMPTY", type := (.object "java/util/Optional"), accessFlags := 26, slot := 0, constantValue := 0 }, { name := "value", type := (.object "java/lang/Object"), accessFlags := 18, slot := 0, constantValue := 0 }]
  methods := #[k11m0, k11m1]
  instanceTypes := #[(.object "java/lang/Object")]
  staticTypes := #[(.object "java/util/Optional")]
  resolved := Array.replicate 187 none
  statics := some 1 }

def pool12 : Array CpInfo := pool [(1, u "java/lang/Cloneable"), (0, .class_ 1), (0, u "java/lang/Object"), (0, .class_ 3)] 3

/-- java/lang/Cloneable -/
def k12 : Class := { plain "java/lang/Cloneable" (some 0) with
  accessFlags := 1537
  interfaces := #[]
  cf := some (fileOf pool12 2 #[] #[] 1537 4 #[] #[])
  fields := #[]
  methods := #[]
  instanceTypes := #[]
  staticTypes := #[]
  resolved := Array.replicate 8 none
  statics := none }

/-- the primitive byte -/
def k13 : Class := { plain "byte" none with kind := .primitive 'B', accessFlags := 0x411 }
/-- [B -/
def k14 : Class := { plain "[B" (some 0) with kind := .array 13 .byte, interfaces := #[12, 3], accessFlags := 1041 }

/-- the primitive int -/
def k15 : Class := { plain "int" none with kind := .primitive 'I', accessFlags := 0x411 }
/-- [I -/
def k16 : Class := { plain "[I" (some 0) with kind := .array 15 .int, interfaces := #[12, 3], accessFlags := 1041 }

/-- [Ljava/lang/Integer; -/
def k17 : Class := { plain "[Ljava/lang/Integer;" (some 0) with kind := .array 8 (.object "java/lang/Integer"), interfaces := #[12, 3], accessFlags := 1041 }

def heap : Heap := #[{ cls := 9, slots := #[.int 0, .int 127, .ref 2, .null, .int 0], vm := .statics 9 },
  { cls := 11, slots := #[.ref 259], vm := .statics 11 },
  { cls := 17, slots := #[.ref 3, .ref 4, .ref 5, .ref 6, .ref 7, .ref 8, .ref 9, .ref 10, .ref 11, .ref 12, .ref 13, .ref 14, .ref 15, .ref 16, .ref 17, .ref 18, .ref 19, .ref 20, .ref 21, .ref 22, .ref 23, .ref 24, .ref 25, .ref 26, .ref 27, .ref 28, .ref 29, .ref 30, .ref 31, .ref 32, .ref 33, .ref 34, .ref 35, .ref 36, .ref 37, .ref 38, .ref 39, .ref 40, .ref 41, .ref 42, .ref 43, .ref 44, .ref 45, .ref 46, .ref 47, .ref 48, .ref 49, .ref 50, .ref 51, .ref 52, .ref 53, .ref 54, .ref 55, .ref 56, .ref 57, .ref 58, .ref 59, .ref 60, .ref 61, .ref 62, .ref 63, .ref 64, .ref 65, .ref 66, .ref 67, .ref 68, .ref 69, .ref 70, .ref 71, .ref 72, .ref 73, .ref 74, .ref 75, .ref 76, .ref 77, .ref 78, .ref 79, .ref 80, .ref 81, .ref 82, .ref 83, .ref 84, .ref 85, .ref 86, .ref 87, .ref 88, .ref 89, .ref 90, .ref 91, .ref 92, .ref 93, .ref 94, .ref 95, .ref 96, .ref 97, .ref 98, .ref 99, .ref 100, .ref 101, .ref 102, .ref 103, .ref 104, .ref 105, .ref 106, .ref 107, .ref 108, .ref 109, .ref 110, .ref 111, .ref 112, .ref 113, .ref 114, .ref 115, .ref 116, .ref 117, .ref 118, .ref 119, .ref 120, .ref 121, .ref 122, .ref 123, .ref 124, .ref 125, .ref 126, .ref 127, .ref 128, .ref 129, .ref 130, .ref 131, .ref 132, .ref 133, .ref 134, .ref 135, .ref 136, .ref 137, .ref 138, .ref 139, .ref 140, .ref 141, .ref 142, .ref 143, .ref 144, .ref 145, .ref 146, .ref 147, .ref 148, .ref 149, .ref 150, .ref 151, .ref 152, .ref 153, .ref 154, .ref 155, .ref 156, .ref 157, .ref 158, .ref 159, .ref 160, .ref 161, .ref 162, .ref 163, .ref 164, .ref 165, .ref 166, .ref 167, .ref 168, .ref 169, .ref 170, .ref 171, .ref 172, .ref 173, .ref 174, .ref 175, .ref 176, .ref 177, .ref 178, .ref 179, .ref 180, .ref 181, .ref 182, .ref 183, .ref 184, .ref 185, .ref 186, .ref 187, .ref 188, .ref 189, .ref 190, .ref 191, .ref 192, .ref 193, .ref 194, .ref 195, .ref 196, .ref 197, .ref 198, .ref 199, .ref 200, .ref 201, .ref 202, .ref 203, .ref 204, .ref 205, .ref 206, .ref 207, .ref 208, .ref 209, .ref 210, .ref 211, .ref 212, .ref 213, .ref 214, .ref 215, .ref 216, .ref 217, .ref 218, .ref 219, .ref 220, .ref 221, .ref 222, .ref 223, .ref 224, .ref 225, .ref 226, .ref 227, .ref 228, .ref 229, .ref 230, .ref 231, .ref 232, .ref 233, .ref 234, .ref 235, .ref 236, .ref 237, .ref 238, .ref 239, .ref 240, .ref 241, .ref 242, .ref 243, .ref 244, .ref 245, .ref 246, .ref 247, .ref 248, .ref 249, .ref 250, .ref 251, .ref 252, .ref 253, .ref 254, .ref 255, .ref 256, .ref 257, .ref 258], vm := .none },
  { cls := 8, slots := #[.int (-128)], vm := .none },
  { cls := 8, slots := #[.int (-127)], vm := .none },
  { cls := 8, slots := #[.int (-126)], vm := .none },
  { cls := 8, slots := #[.int (-125)], vm := .none },
  { cls := 8, slots := #[.int (-124)], vm := .none },
  { cls := 8, slots := #[.int (-123)], vm := .none },
  { cls := 8, slots := #[.int (-122)], vm := .none },
  { cls := 8, slots := #[.int (-121)], vm := .none },
  { cls := 8, slots := #[.int (-120)], vm := .none },
  { cls := 8, slots := #[.int (-119)], vm := .none },
  { cls := 8, slots := #[.int (-118)], vm := .none },
  { cls := 8, slots := #[.int (-117)], vm := .none },
  { cls := 8, slots := #[.int (-116)], vm := .none },
  { cls := 8, slots := #[.int (-115)], vm := .none },
  { cls := 8, slots := #[.int (-114)], vm := .none },
  { cls := 8, slots := #[.int (-113)], vm := .none },
  { cls := 8, slots := #[.int (-112)], vm := .none },
  { cls := 8, slots := #[.int (-111)], vm := .none },
  { cls := 8, slots := #[.int (-110)], vm := .none },
  { cls := 8, slots := #[.int (-109)], vm := .none },
  { cls := 8, slots := #[.int (-108)], vm := .none },
  { cls := 8, slots := #[.int (-107)], vm := .none },
  { cls := 8, slots := #[.int (-106)], vm := .none },
  { cls := 8, slots := #[.int (-105)], vm := .none },
  { cls := 8, slots := #[.int (-104)], vm := .none },
  { cls := 8, slots := #[.int (-103)], vm := .none },
  { cls := 8, slots := #[.int (-102)], vm := .none },
  { cls := 8, slots := #[.int (-101)], vm := .none },
  { cls := 8, slots := #[.int (-100)], vm := .none },
  { cls := 8, slots := #[.int (-99)], vm := .none },
  { cls := 8, slots := #[.int (-98)], vm := .none },
  { cls := 8, slots := #[.int (-97)], vm := .none },
  { cls := 8, slots := #[.int (-96)], vm := .none },
  { cls := 8, slots := #[.int (-95)], vm := .none },
  { cls := 8, slots := #[.int (-94)], vm := .none },
  { cls := 8, slots := #[.int (-93)], vm := .none },
  { cls := 8, slots := #[.int (-92)], vm := .none },
  { cls := 8, slots := #[.int (-91)], vm := .none },
  { cls := 8, slots := #[.int (-90)], vm := .none },
  { cls := 8, slots := #[.int (-89)], vm := .none },
  { cls := 8, slots := #[.int (-88)], vm := .none },
  { cls := 8, slots := #[.int (-87)], vm := .none },
  { cls := 8, slots := #[.int (-86)], vm := .none },
  { cls := 8, slots := #[.int (-85)], vm := .none },
  { cls := 8, slots := #[.int (-84)], vm := .none },
  { cls := 8, slots := #[.int (-83)], vm := .none },
  { cls := 8, slots := #[.int (-82)], vm := .none },
  { cls := 8, slots := #[.int (-81)], vm := .none },
  { cls := 8, slots := #[.int (-80)], vm := .none },
  { cls := 8, slots := #[.int (-79)], vm := .none },
  { cls := 8, slots := #[.int (-78)], vm := .none },
  { cls := 8, slots := #[.int (-77)], vm := .none },
  { cls := 8, slots := #[.int (-76)], vm := .none },
  { cls := 8, slots := #[.int (-75)], vm := .none },
  { cls := 8, slots := #[.int (-74)], vm := .none },
  { cls := 8, slots := #[.int (-73)], vm := .none },
  { cls := 8, slots := #[.int (-72)], vm := .none },
  { cls := 8, slots := #[.int (-71)], vm := .none },
  { cls := 8, slots := #[.int (-70)], vm := .none },
  { cls := 8, slots := #[.int (-69)], vm := .none },
  { cls := 8, slots := #[.int (-68)], vm := .none },
  { cls := 8, slots := #[.int (-67)], vm := .none },
  { cls := 8, slots := #[.int (-66)], vm := .none },
  { cls := 8, slots := #[.int (-65)], vm := .none },
  { cls := 8, slots := #[.int (-64)], vm := .none },
  { cls := 8, slots := #[.int (-63)], vm := .none },
  { cls := 8, slots := #[.int (-62)], vm := .none },
  { cls := 8, slots := #[.int (-61)], vm := .none },
  { cls := 8, slots := #[.int (-60)], vm := .none },
  { cls := 8, slots := #[.int (-59)], vm := .none },
  { cls := 8, slots := #[.int (-58)], vm := .none },
  { cls := 8, slots := #[.int (-57)], vm := .none },
  { cls := 8, slots := #[.int (-56)], vm := .none },
  { cls := 8, slots := #[.int (-55)], vm := .none },
  { cls := 8, slots := #[.int (-54)], vm := .none },
  { cls := 8, slots := #[.int (-53)], vm := .none },
  { cls := 8, slots := #[.int (-52)], vm := .none },
  { cls := 8, slots := #[.int (-51)], vm := .none },
  { cls := 8, slots := #[.int (-50)], vm := .none },
  { cls := 8, slots := #[.int (-49)], vm := .none },
  { cls := 8, slots := #[.int (-48)], vm := .none },
  { cls := 8, slots := #[.int (-47)], vm := .none },
  { cls := 8, slots := #[.int (-46)], vm := .none },
  { cls := 8, slots := #[.int (-45)], vm := .none },
  { cls := 8, slots := #[.int (-44)], vm := .none },
  { cls := 8, slots := #[.int (-43)], vm := .none },
  { cls := 8, slots := #[.int (-42)], vm := .none },
  { cls := 8, slots := #[.int (-41)], vm := .none },
  { cls := 8, slots := #[.int (-40)], vm := .none },
  { cls := 8, slots := #[.int (-39)], vm := .none },
  { cls := 8, slots := #[.int (-38)], vm := .none },
  { cls := 8, slots := #[.int (-37)], vm := .none },
  { cls := 8, slots := #[.int (-36)], vm := .none },
  { cls := 8, slots := #[.int (-35)], vm := .none },
  { cls := 8, slots := #[.int (-34)], vm := .none },
  { cls := 8, slots := #[.int (-33)], vm := .none },
  { cls := 8, slots := #[.int (-32)], vm := .none },
  { cls := 8, slots := #[.int (-31)], vm := .none },
  { cls := 8, slots := #[.int (-30)], vm := .none },
  { cls := 8, slots := #[.int (-29)], vm := .none },
  { cls := 8, slots := #[.int (-28)], vm := .none },
  { cls := 8, slots := #[.int (-27)], vm := .none },
  { cls := 8, slots := #[.int (-26)], vm := .none },
  { cls := 8, slots := #[.int (-25)], vm := .none },
  { cls := 8, slots := #[.int (-24)], vm := .none },
  { cls := 8, slots := #[.int (-23)], vm := .none },
  { cls := 8, slots := #[.int (-22)], vm := .none },
  { cls := 8, slots := #[.int (-21)], vm := .none },
  { cls := 8, slots := #[.int (-20)], vm := .none },
  { cls := 8, slots := #[.int (-19)], vm := .none },
  { cls := 8, slots := #[.int (-18)], vm := .none },
  { cls := 8, slots := #[.int (-17)], vm := .none },
  { cls := 8, slots := #[.int (-16)], vm := .none },
  { cls := 8, slots := #[.int (-15)], vm := .none },
  { cls := 8, slots := #[.int (-14)], vm := .none },
  { cls := 8, slots := #[.int (-13)], vm := .none },
  { cls := 8, slots := #[.int (-12)], vm := .none },
  { cls := 8, slots := #[.int (-11)], vm := .none },
  { cls := 8, slots := #[.int (-10)], vm := .none },
  { cls := 8, slots := #[.int (-9)], vm := .none },
  { cls := 8, slots := #[.int (-8)], vm := .none },
  { cls := 8, slots := #[.int (-7)], vm := .none },
  { cls := 8, slots := #[.int (-6)], vm := .none },
  { cls := 8, slots := #[.int (-5)], vm := .none },
  { cls := 8, slots := #[.int (-4)], vm := .none },
  { cls := 8, slots := #[.int (-3)], vm := .none },
  { cls := 8, slots := #[.int (-2)], vm := .none },
  { cls := 8, slots := #[.int (-1)], vm := .none },
  { cls := 8, slots := #[.int 0], vm := .none },
  { cls := 8, slots := #[.int 1], vm := .none },
  { cls := 8, slots := #[.int 2], vm := .none },
  { cls := 8, slots := #[.int 3], vm := .none },
  { cls := 8, slots := #[.int 4], vm := .none },
  { cls := 8, slots := #[.int 5], vm := .none },
  { cls := 8, slots := #[.int 6], vm := .none },
  { cls := 8, slots := #[.int 7], vm := .none },
  { cls := 8, slots := #[.int 8], vm := .none },
  { cls := 8, slots := #[.int 9], vm := .none },
  { cls := 8, slots := #[.int 10], vm := .none },
  { cls := 8, slots := #[.int 11], vm := .none },
  { cls := 8, slots := #[.int 12], vm := .none },
  { cls := 8, slots := #[.int 13], vm := .none },
  { cls := 8, slots := #[.int 14], vm := .none },
  { cls := 8, slots := #[.int 15], vm := .none },
  { cls := 8, slots := #[.int 16], vm := .none },
  { cls := 8, slots := #[.int 17], vm := .none },
  { cls := 8, slots := #[.int 18], vm := .none },
  { cls := 8, slots := #[.int 19], vm := .none },
  { cls := 8, slots := #[.int 20], vm := .none },
  { cls := 8, slots := #[.int 21], vm := .none },
  { cls := 8, slots := #[.int 22], vm := .none },
  { cls := 8, slots := #[.int 23], vm := .none },
  { cls := 8, slots := #[.int 24], vm := .none },
  { cls := 8, slots := #[.int 25], vm := .none },
  { cls := 8, slots := #[.int 26], vm := .none },
  { cls := 8, slots := #[.int 27], vm := .none },
  { cls := 8, slots := #[.int 28], vm := .none },
  { cls := 8, slots := #[.int 29], vm := .none },
  { cls := 8, slots := #[.int 30], vm := .none },
  { cls := 8, slots := #[.int 31], vm := .none },
  { cls := 8, slots := #[.int 32], vm := .none },
  { cls := 8, slots := #[.int 33], vm := .none },
  { cls := 8, slots := #[.int 34], vm := .none },
  { cls := 8, slots := #[.int 35], vm := .none },
  { cls := 8, slots := #[.int 36], vm := .none },
  { cls := 8, slots := #[.int 37], vm := .none },
  { cls := 8, slots := #[.int 38], vm := .none },
  { cls := 8, slots := #[.int 39], vm := .none },
  { cls := 8, slots := #[.int 40], vm := .none },
  { cls := 8, slots := #[.int 41], vm := .none },
  { cls := 8, slots := #[.int 42], vm := .none },
  { cls := 8, slots := #[.int 43], vm := .none },
  { cls := 8, slots := #[.int 44], vm := .none },
  { cls := 8, slots := #[.int 45], vm := .none },
  { cls := 8, slots := #[.int 46], vm := .none },
  { cls := 8, slots := #[.int 47], vm := .none },
  { cls := 8, slots := #[.int 48], vm := .none },
  { cls := 8, slots := #[.int 49], vm := .none },
  { cls := 8, slots := #[.int 50], vm := .none },
  { cls := 8, slots := #[.int 51], vm := .none },
  { cls := 8, slots := #[.int 52], vm := .none },
  { cls := 8, slots := #[.int 53], vm := .none },
  { cls := 8, slots := #[.int 54], vm := .none },
  { cls := 8, slots := #[.int 55], vm := .none },
  { cls := 8, slots := #[.int 56], vm := .none },
  { cls := 8, slots := #[.int 57], vm := .none },
  { cls := 8, slots := #[.int 58], vm := .none },
  { cls := 8, slots := #[.int 59], vm := .none },
  { cls := 8, slots := #[.int 60], vm := .none },
  { cls := 8, slots := #[.int 61], vm := .none },
  { cls := 8, slots := #[.int 62], vm := .none },
  { cls := 8, slots := #[.int 63], vm := .none },
  { cls := 8, slots := #[.int 64], vm := .none },
  { cls := 8, slots := #[.int 65], vm := .none },
  { cls := 8, slots := #[.int 66], vm := .none },
  { cls := 8, slots := #[.int 67], vm := .none },
  { cls := 8, slots := #[.int 68], vm := .none },
  { cls := 8, slots := #[.int 69], vm := .none },
  { cls := 8, slots := #[.int 70], vm := .none },
  { cls := 8, slots := #[.int 71], vm := .none },
  { cls := 8, slots := #[.int 72], vm := .none },
  { cls := 8, slots := #[.int 73], vm := .none },
  { cls := 8, slots := #[.int 74], vm := .none },
  { cls := 8, slots := #[.int 75], vm := .none },
  { cls := 8, slots := #[.int 76], vm := .none },
  { cls := 8, slots := #[.int 77], vm := .none },
  { cls := 8, slots := #[.int 78], vm := .none },
  { cls := 8, slots := #[.int 79], vm := .none },
  { cls := 8, slots := #[.int 80], vm := .none },
  { cls := 8, slots := #[.int 81], vm := .none },
  { cls := 8, slots := #[.int 82], vm := .none },
  { cls := 8, slots := #[.int 83], vm := .none },
  { cls := 8, slots := #[.int 84], vm := .none },
  { cls := 8, slots := #[.int 85], vm := .none },
  { cls := 8, slots := #[.int 86], vm := .none },
  { cls := 8, slots := #[.int 87], vm := .none },
  { cls := 8, slots := #[.int 88], vm := .none },
  { cls := 8, slots := #[.int 89], vm := .none },
  { cls := 8, slots := #[.int 90], vm := .none },
  { cls := 8, slots := #[.int 91], vm := .none },
  { cls := 8, slots := #[.int 92], vm := .none },
  { cls := 8, slots := #[.int 93], vm := .none },
  { cls := 8, slots := #[.int 94], vm := .none },
  { cls := 8, slots := #[.int 95], vm := .none },
  { cls := 8, slots := #[.int 96], vm := .none },
  { cls := 8, slots := #[.int 97], vm := .none },
  { cls := 8, slots := #[.int 98], vm := .none },
  { cls := 8, slots := #[.int 99], vm := .none },
  { cls := 8, slots := #[.int 100], vm := .none },
  { cls := 8, slots := #[.int 101], vm := .none },
  { cls := 8, slots := #[.int 102], vm := .none },
  { cls := 8, slots := #[.int 103], vm := .none },
  { cls := 8, slots := #[.int 104], vm := .none },
  { cls := 8, slots := #[.int 105], vm := .none },
  { cls := 8, slots := #[.int 106], vm := .none },
  { cls := 8, slots := #[.int 107], vm := .none },
  { cls := 8, slots := #[.int 108], vm := .none },
  { cls := 8, slots := #[.int 109], vm := .none },
  { cls := 8, slots := #[.int 110], vm := .none },
  { cls := 8, slots := #[.int 111], vm := .none },
  { cls := 8, slots := #[.int 112], vm := .none },
  { cls := 8, slots := #[.int 113], vm := .none },
  { cls := 8, slots := #[.int 114], vm := .none },
  { cls := 8, slots := #[.int 115], vm := .none },
  { cls := 8, slots := #[.int 116], vm := .none },
  { cls := 8, slots := #[.int 117], vm := .none },
  { cls := 8, slots := #[.int 118], vm := .none },
  { cls := 8, slots := #[.int 119], vm := .none },
  { cls := 8, slots := #[.int 120], vm := .none },
  { cls := 8, slots := #[.int 121], vm := .none },
  { cls := 8, slots := #[.int 122], vm := .none },
  { cls := 8, slots := #[.int 123], vm := .none },
  { cls := 8, slots := #[.int 124], vm := .none },
  { cls := 8, slots := #[.int 125], vm := .none },
  { cls := 8, slots := #[.int 126], vm := .none },
  { cls := 8, slots := #[.int 127], vm := .none },
  { cls := 11, slots := #[.null], vm := .none }]
def classes : Array Class := #[k0, k1, k2, k3, k4, k5, k6, k7, k8, k9, k10, k11, k12, k13, k14, k15, k16, k17]
def interned : List (Array UInt16 × Addr) := []
def slotsUsed : Nat := 519
def theMethod : MethodId := ⟨1, 1⟩
def args0 : Array Value := #[.int 0, .int 300]
def aboutOver (below : List Frame) : State where
  vm := { classes := classes, interned := interned.toArray }
  heap := heap
  slotsUsed := slotsUsed
  threads := #[{ frames := .invoking theMethod args0 :: below }]
def below0 : List Frame := [.native { method := ⟨0, 0⟩, args := #[] }]
def about1 : State := aboutOver below0
def p0 : Program := .bare "" "" ""
def e0 : Env := launch0.env 0 0 0
theorem w_frames : about1.frames = Frame.invoking theMethod args0 :: below0 := rfl
set_option maxRecDepth 65536 in
theorem w_args : argsFit about1.vm theMethod args0 = true := by decide +kernel
set_option maxRecDepth 65536 in
theorem w_heap : heapFits about1 = true := by decide +kernel
set_option maxRecDepth 65536 in
theorem w_runnable : about1.curStatus? = some .runnable := by decide +kernel
set_option maxRecDepth 65536 in
theorem w_alone : about1.alone = true := by decide +kernel
set_option maxRecDepth 65536 in
theorem w_named : about1.methodNamed? x = some theMethod := by decide +kernel
set_option maxRecDepth 65536 in
theorem w_hears : about1.hears theMethod below0 = true := by decide +kernel
set_option maxRecDepth 65536 in
theorem w_ripe : about1.ripe theMethod args0 below0 = true := by decide +kernel
theorem w_running : about1.status = .running := rfl
set_option maxRecDepth 65536 in
theorem w_room : about1.hasRoom e0.platform room_1 = true :=
  launch0.hasRoom_least _ room_1 (by decide +kernel) (by decide +kernel) (by decide +kernel) (by decide +kernel) (by decide +kernel) (by decide +kernel)
theorem allAtoms_all (ts : List Jvm.Cond) (a : Array Jvm.Value) (st : Jvm.State) : (allAtoms ts).before a st = ts.all (fun c => c.before a st) := by
  induction ts with
  | nil => rfl
  | cons c t ih =>
    show (Jvm.Cond.and c (allAtoms t)).before a st = _
    rw [Jvm.Cond.before_and, ih, List.all_cons]
def words1 : List Jvm.Cond := Jvm.Cond.code x code maxLocals ret :: tables_1
/-- a 'code' word, met by the world's own term for the bytes: nothing is compared byte by byte -/
theorem code_word {y : MethodName} {bytes : ByteArray} {mx : Nat} {rt : Option FieldType} {a : Array Value} {s : State} {m : MethodId} {meth : Method} {c : Code} (h1 : s.methodNamed? y = some m) (h2 : s.vm.method? m = some meth) (h3 : meth.code = some c) (h4 : c.code = bytes)
    (h5 : (c.maxLocals == mx && c.exceptionTable.isEmpty && decide (c.maxStack ≤ mostOperands) && decide (meth.sig.returnType = rt) && !meth.locks && decide (parseMethodDescriptor y.desc = some meth.sig)) = true) : (Jvm.Cond.code y bytes mx rt).before a s = true := by
  simp only [Bool.and_eq_true, beq_iff_eq, Bool.not_eq_true', decide_eq_true_eq] at h5
  obtain ⟨⟨⟨⟨⟨g1, g2⟩, g3⟩, g4⟩, g5⟩, g6⟩ := h5
  simp [Cond.before, Cond.holds, Cond.value, h1, h2, h3, h4, g1, g2, g3, g4, g5, g6]
def isCode : Jvm.Cond → Bool
  | .code _ _ _ _ => true
  | _ => false
theorem all_split {L : List Jvm.Cond} {P : Jvm.Cond → Bool} (h1 : L.all (fun c => isCode c || P c) = true) (h2 : ∀ c ∈ L.filter isCode, P c = true) : L.all P = true := by
  refine List.all_eq_true.mpr fun c hc => ?_
  have h := List.all_eq_true.mp h1 c hc
  rcases Bool.eq_false_or_eq_true (isCode c) with hi | hi
  · exact h2 c (List.mem_filter.mpr ⟨hc, hi⟩)
  · simpa [hi] using h
set_option maxRecDepth 65536 in
theorem w_c0 : (Jvm.Cond.code x code maxLocals ret).before args0 about1 = true := code_word (m := ⟨1, 1⟩) (meth := k1m1) (c := k1c1) (by decide +kernel) rfl rfl rfl (by decide +kernel)
set_option maxRecDepth 65536 in
theorem w_c1 : (Jvm.Cond.code ({ cls := "com/example/periodic_jobs/periodicjobs/engine/DeliveryResult", name := "answered", desc := "(I)Lcom/example/periodic_jobs/periodicjobs/engine/DeliveryResult;" } : Jvm.MethodName) prog_9_method_2_code (1 : Nat) (Option.some (Jvm.ClassFile.FieldType.object "com/example/periodic_jobs/periodicjobs/engine/DeliveryResult"))).before args0 about1 = true := code_word (m := ⟨2, 1⟩) (meth := k2m1) (c := k2c1) (by decide +kernel) rfl rfl rfl (by decide +kernel)
set_option maxRecDepth 65536 in
theorem w_c2 : (Jvm.Cond.code ({ cls := "java/lang/Integer", name := "valueOf", desc := "(I)Ljava/lang/Integer;" } : Jvm.MethodName) jdk_33_method_22_code (1 : Nat) (Option.some (Jvm.ClassFile.FieldType.object "java/lang/Integer"))).before args0 about1 = true := code_word (m := ⟨8, 0⟩) (meth := k8m0) (c := k8c0) (by decide +kernel) rfl rfl rfl (by decide +kernel)
set_option maxRecDepth 65536 in
theorem w_c3 : (Jvm.Cond.code ({ cls := "com/example/periodic_jobs/periodicjobs/engine/DeliveryResult", name := "<init>", desc := "(Ljava/lang/Integer;ZLjava/lang/String;)V" } : Jvm.MethodName) prog_9_method_1_code (4 : Nat) (Option.none : Option Jvm.ClassFile.FieldType)).before args0 about1 = true := code_word (m := ⟨2, 0⟩) (meth := k2m0) (c := k2c0) (by decide +kernel) rfl rfl rfl (by decide +kernel)
set_option maxRecDepth 65536 in
theorem w_c4 : (Jvm.Cond.code ({ cls := "java/lang/Object", name := "<init>", desc := "()V" } : Jvm.MethodName) object_method_1_code (1 : Nat) (Option.none : Option Jvm.ClassFile.FieldType)).before args0 about1 = true := code_word (m := ⟨0, 0⟩) (meth := k0m0) (c := k0c0) (by decide +kernel) rfl rfl rfl (by decide +kernel)
set_option maxRecDepth 65536 in
theorem w_c5 : (Jvm.Cond.code ({ cls := "com/example/periodic_jobs/periodicjobs/engine/DeliveryResult", name := "getHttpStatus", desc := "()Ljava/util/OptionalInt;" } : Jvm.MethodName) prog_9_method_5_code (1 : Nat) (Option.some (Jvm.ClassFile.FieldType.object "java/util/OptionalInt"))).before args0 about1 = true := code_word (m := ⟨2, 2⟩) (meth := k2m2) (c := k2c2) (by decide +kernel) rfl rfl rfl (by decide +kernel)
set_option maxRecDepth 65536 in
theorem w_c6 : (Jvm.Cond.code ({ cls := "java/lang/Integer", name := "intValue", desc := "()I" } : Jvm.MethodName) jdk_33_method_27_code (1 : Nat) (Option.some Jvm.ClassFile.FieldType.int)).before args0 about1 = true := code_word (m := ⟨8, 2⟩) (meth := k8m2) (c := k8c2) (by decide +kernel) rfl rfl rfl (by decide +kernel)
set_option maxRecDepth 65536 in
theorem w_c7 : (Jvm.Cond.code ({ cls := "java/util/OptionalInt", name := "of", desc := "(I)Ljava/util/OptionalInt;" } : Jvm.MethodName) jdk_2649_method_4_code (1 : Nat) (Option.some (Jvm.ClassFile.FieldType.object "java/util/OptionalInt"))).before args0 about1 = true := code_word (m := ⟨10, 2⟩) (meth := k10m2) (c := k10c2) (by decide +kernel) rfl rfl rfl (by decide +kernel)
set_option maxRecDepth 65536 in
theorem w_c8 : (Jvm.Cond.code ({ cls := "java/util/OptionalInt", name := "<init>", desc := "(I)V" } : Jvm.MethodName) jdk_2649_method_3_code (2 : Nat) (Option.none : Option Jvm.ClassFile.FieldType)).before args0 about1 = true := code_word (m := ⟨10, 1⟩) (meth := k10m1) (c := k10c1) (by decide +kernel) rfl rfl rfl (by decide +kernel)
set_option maxRecDepth 65536 in
theorem w_c9 : (Jvm.Cond.code ({ cls := "java/util/OptionalInt", name := "isPresent", desc := "()Z" } : Jvm.MethodName) jdk_2649_method_6_code (1 : Nat) (Option.some Jvm.ClassFile.FieldType.boolean)).before args0 about1 = true := code_word (m := ⟨10, 4⟩) (meth := k10m4) (c := k10c4) (by decide +kernel) rfl rfl rfl (by decide +kernel)
set_option maxRecDepth 65536 in
theorem w_c10 : (Jvm.Cond.code ({ cls := "java/util/OptionalInt", name := "getAsInt", desc := "()I" } : Jvm.MethodName) jdk_2649_method_5_code (1 : Nat) (Option.some Jvm.ClassFile.FieldType.int)).before args0 about1 = true := code_word (m := ⟨10, 3⟩) (meth := k10m3) (c := k10c3) (by decide +kernel) rfl rfl rfl (by decide +kernel)
set_option maxRecDepth 65536 in
theorem w_c11 : (Jvm.Cond.code ({ cls := "com/example/periodic_jobs/periodicjobs/engine/DeliveryResult", name := "isConfirmed", desc := "()Z" } : Jvm.MethodName) prog_9_method_6_code (1 : Nat) (Option.some Jvm.ClassFile.FieldType.boolean)).before args0 about1 = true := code_word (m := ⟨2, 3⟩) (meth := k2m3) (c := k2c3) (by decide +kernel) rfl rfl rfl (by decide +kernel)
set_option maxRecDepth 65536 in
theorem w_c12 : (Jvm.Cond.code ({ cls := "com/example/periodic_jobs/periodicjobs/engine/DeliveryResult", name := "getError", desc := "()Ljava/util/Optional;" } : Jvm.MethodName) prog_9_method_7_code (1 : Nat) (Option.some (Jvm.ClassFile.FieldType.object "java/util/Optional"))).before args0 about1 = true := code_word (m := ⟨2, 4⟩) (meth := k2m4) (c := k2c4) (by decide +kernel) rfl rfl rfl (by decide +kernel)
set_option maxRecDepth 65536 in
theorem w_c13 : (Jvm.Cond.code ({ cls := "java/util/Optional", name := "ofNullable", desc := "(Ljava/lang/Object;)Ljava/util/Optional;" } : Jvm.MethodName) jdk_32_method_4_code (1 : Nat) (Option.some (Jvm.ClassFile.FieldType.object "java/util/Optional"))).before args0 about1 = true := code_word (m := ⟨11, 0⟩) (meth := k11m0) (c := k11c0) (by decide +kernel) rfl rfl rfl (by decide +kernel)
set_option maxRecDepth 65536 in
theorem w_c14 : (Jvm.Cond.code ({ cls := "java/util/Optional", name := "isPresent", desc := "()Z" } : Jvm.MethodName) jdk_32_method_6_code (1 : Nat) (Option.some Jvm.ClassFile.FieldType.boolean)).before args0 about1 = true := code_word (m := ⟨11, 1⟩) (meth := k11m1) (c := k11c1) (by decide +kernel) rfl rfl rfl (by decide +kernel)
set_option maxRecDepth 65536 in
theorem w_c15 : (Jvm.Cond.code ({ cls := "com/example/periodic_jobs/periodicjobs/engine/DeliveryResult", name := "isSuccess", desc := "()Z" } : Jvm.MethodName) prog_9_method_8_code (1 : Nat) (Option.some Jvm.ClassFile.FieldType.boolean)).before args0 about1 = true := code_word (m := ⟨2, 5⟩) (meth := k2m5) (c := k2c5) (by decide +kernel) rfl rfl rfl (by decide +kernel)
set_option maxRecDepth 65536 in
theorem w_c16 : (Jvm.Cond.code ({ cls := "com/example/periodic_jobs/periodicjobs/engine/DeliveryResult", name := "isAccepted", desc := "()Z" } : Jvm.MethodName) prog_9_method_9_code (1 : Nat) (Option.some Jvm.ClassFile.FieldType.boolean)).before args0 about1 = true := code_word (m := ⟨2, 6⟩) (meth := k2m6) (c := k2c6) (by decide +kernel) rfl rfl rfl (by decide +kernel)
set_option maxRecDepth 65536 in
theorem w_c17 : (Jvm.Cond.code ({ cls := "com/example/periodic_jobs/periodicjobs/engine/DeliveryResult", name := "isWorthRetrying", desc := "()Z" } : Jvm.MethodName) prog_9_method_10_code (1 : Nat) (Option.some Jvm.ClassFile.FieldType.boolean)).before args0 about1 = true := code_word (m := ⟨2, 7⟩) (meth := k2m7) (c := k2c7) (by decide +kernel) rfl rfl rfl (by decide +kernel)
set_option maxRecDepth 65536 in
theorem w_c18 : (Jvm.Cond.code ({ cls := "java/lang/Integer", name := "<init>", desc := "(I)V" } : Jvm.MethodName) jdk_33_method_23_code (2 : Nat) (Option.none : Option Jvm.ClassFile.FieldType)).before args0 about1 = true := code_word (m := ⟨8, 1⟩) (meth := k8m1) (c := k8c1) (by decide +kernel) rfl rfl rfl (by decide +kernel)
set_option maxRecDepth 65536 in
theorem w_c19 : (Jvm.Cond.code ({ cls := "java/lang/Number", name := "<init>", desc := "()V" } : Jvm.MethodName) jdk_18_method_1_code (1 : Nat) (Option.none : Option Jvm.ClassFile.FieldType)).before args0 about1 = true := code_word (m := ⟨4, 0⟩) (meth := k4m0) (c := k4c0) (by decide +kernel) rfl rfl rfl (by decide +kernel)
def codes1 : List Jvm.Cond := [Jvm.Cond.code x code maxLocals ret, Jvm.Cond.code ({ cls := "com/example/periodic_jobs/periodicjobs/engine/DeliveryResult", name := "answered", desc := "(I)Lcom/example/periodic_jobs/periodicjobs/engine/DeliveryResult;" } : Jvm.MethodName) prog_9_method_2_code (1 : Nat) (Option.some (Jvm.ClassFile.FieldType.object "com/example/periodic_jobs/periodicjobs/engine/DeliveryResult")), Jvm.Cond.code ({ cls := "java/lang/Integer", name := "valueOf", desc := "(I)Ljava/lang/Integer;" } : Jvm.MethodName) jdk_33_method_22_code (1 : Nat) (Option.some (Jvm.ClassFile.FieldType.object "java/lang/Integer")), Jvm.Cond.code ({ cls := "com/example/periodic_jobs/periodicjobs/engine/DeliveryResult", name := "<init>", desc := "(Ljava/lang/Integer;ZLjava/lang/String;)V" } : Jvm.MethodName) prog_9_method_1_code (4 : Nat) (Option.none : Option Jvm.ClassFile.FieldType), Jvm.Cond.code ({ cls := "java/lang/Object", name := "<init>", desc := "()V" } : Jvm.MethodName) object_method_1_code (1 : Nat) (Option.none : Option Jvm.ClassFile.FieldType), Jvm.Cond.code ({ cls := "com/example/periodic_jobs/periodicjobs/engine/DeliveryResult", name := "getHttpStatus", desc := "()Ljava/util/OptionalInt;" } : Jvm.MethodName) prog_9_method_5_code (1 : Nat) (Option.some (Jvm.ClassFile.FieldType.object "java/util/OptionalInt")), Jvm.Cond.code ({ cls := "java/lang/Integer", name := "intValue", desc := "()I" } : Jvm.MethodName) jdk_33_method_27_code (1 : Nat) (Option.some Jvm.ClassFile.FieldType.int), Jvm.Cond.code ({ cls := "java/util/OptionalInt", name := "of", desc := "(I)Ljava/util/OptionalInt;" } : Jvm.MethodName) jdk_2649_method_4_code (1 : Nat) (Option.some (Jvm.ClassFile.FieldType.object "java/util/OptionalInt")), Jvm.Cond.code ({ cls := "java/util/OptionalInt", name := "<init>", desc := "(I)V" } : Jvm.MethodName) jdk_2649_method_3_code (2 : Nat) (Option.none : Option Jvm.ClassFile.FieldType), Jvm.Cond.code ({ cls := "java/util/OptionalInt", name := "isPresent", desc := "()Z" } : Jvm.MethodName) jdk_2649_method_6_code (1 : Nat) (Option.some Jvm.ClassFile.FieldType.boolean), Jvm.Cond.code ({ cls := "java/util/OptionalInt", name := "getAsInt", desc := "()I" } : Jvm.MethodName) jdk_2649_method_5_code (1 : Nat) (Option.some Jvm.ClassFile.FieldType.int), Jvm.Cond.code ({ cls := "com/example/periodic_jobs/periodicjobs/engine/DeliveryResult", name := "isConfirmed", desc := "()Z" } : Jvm.MethodName) prog_9_method_6_code (1 : Nat) (Option.some Jvm.ClassFile.FieldType.boolean), Jvm.Cond.code ({ cls := "com/example/periodic_jobs/periodicjobs/engine/DeliveryResult", name := "getError", desc := "()Ljava/util/Optional;" } : Jvm.MethodName) prog_9_method_7_code (1 : Nat) (Option.some (Jvm.ClassFile.FieldType.object "java/util/Optional")), Jvm.Cond.code ({ cls := "java/util/Optional", name := "ofNullable", desc := "(Ljava/lang/Object;)Ljava/util/Optional;" } : Jvm.MethodName) jdk_32_method_4_code (1 : Nat) (Option.some (Jvm.ClassFile.FieldType.object "java/util/Optional")), Jvm.Cond.code ({ cls := "java/util/Optional", name := "isPresent", desc := "()Z" } : Jvm.MethodName) jdk_32_method_6_code (1 : Nat) (Option.some Jvm.ClassFile.FieldType.boolean), Jvm.Cond.code ({ cls := "com/example/periodic_jobs/periodicjobs/engine/DeliveryResult", name := "isSuccess", desc := "()Z" } : Jvm.MethodName) prog_9_method_8_code (1 : Nat) (Option.some Jvm.ClassFile.FieldType.boolean), Jvm.Cond.code ({ cls := "com/example/periodic_jobs/periodicjobs/engine/DeliveryResult", name := "isAccepted", desc := "()Z" } : Jvm.MethodName) prog_9_method_9_code (1 : Nat) (Option.some Jvm.ClassFile.FieldType.boolean), Jvm.Cond.code ({ cls := "com/example/periodic_jobs/periodicjobs/engine/DeliveryResult", name := "isWorthRetrying", desc := "()Z" } : Jvm.MethodName) prog_9_method_10_code (1 : Nat) (Option.some Jvm.ClassFile.FieldType.boolean), Jvm.Cond.code ({ cls := "java/lang/Integer", name := "<init>", desc := "(I)V" } : Jvm.MethodName) jdk_33_method_23_code (2 : Nat) (Option.none : Option Jvm.ClassFile.FieldType), Jvm.Cond.code ({ cls := "java/lang/Number", name := "<init>", desc := "()V" } : Jvm.MethodName) jdk_18_method_1_code (1 : Nat) (Option.none : Option Jvm.ClassFile.FieldType)]
set_option maxRecDepth 65536 in
theorem codes_eq : words1.filter isCode = codes1 := rfl
theorem w_codes : ∀ c ∈ words1.filter isCode, c.before args0 about1 = true := by
  rw [codes_eq]
  intro c hc
  simp only [codes1, List.mem_cons, List.not_mem_nil, or_false] at hc
  rcases hc with rfl | rfl | rfl | rfl | rfl | rfl | rfl | rfl | rfl | rfl | rfl | rfl | rfl | rfl | rfl | rfl | rfl | rfl | rfl | rfl
  · exact w_c0
  · exact w_c1
  · exact w_c2
  · exact w_c3
  · exact w_c4
  · exact w_c5
  · exact w_c6
  · exact w_c7
  · exact w_c8
  · exact w_c9
  · exact w_c10
  · exact w_c11
  · exact w_c12
  · exact w_c13
  · exact w_c14
  · exact w_c15
  · exact w_c16
  · exact w_c17
  · exact w_c18
  · exact w_c19
set_option maxRecDepth 65536 in
theorem w_t1 : (words1.take 24).all (fun c => isCode c || c.before args0 about1) = true := by decide +kernel
set_option maxRecDepth 65536 in
theorem w_t2 : ((words1.drop 24).take 24).all (fun c => isCode c || c.before args0 about1) = true := by decide +kernel
set_option maxRecDepth 65536 in
theorem w_t3 : (((words1.drop 24).drop 24).take 24).all (fun c => isCode c || c.before args0 about1) = true := by decide +kernel
set_option maxRecDepth 65536 in
theorem w_t4 : ((((words1.drop 24).drop 24).drop 24).take 24).all (fun c => isCode c || c.before args0 about1) = true := by decide +kernel
set_option maxRecDepth 65536 in
theorem w_t5 : ((((words1.drop 24).drop 24).drop 24).drop 24).all (fun c => isCode c || c.before args0 about1) = true := by decide +kernel
theorem w_tables : (allAtoms (Jvm.Cond.code x code maxLocals ret :: tables_1)).before args0 about1 = true := by
  rw [allAtoms_all]
  show words1.all (fun c => c.before args0 about1) = true
  refine all_split ?_ w_codes
  rw [← List.take_append_drop 24 words1, List.all_append, w_t1, ← List.take_append_drop 24 (words1.drop 24), List.all_append, w_t2, ← List.take_append_drop 24 ((words1.drop 24).drop 24), List.all_append, w_t3, ← List.take_append_drop 24 (((words1.drop 24).drop 24).drop 24), List.all_append, w_t4, w_t5]
  rfl
set_option maxRecDepth 65536 in
theorem w_rest : rest_1_c.before args0 about1 = true := by decide +kernel
set_option maxRecDepth 65536 in
theorem w_case : (Jvm.Cond.and given_1 narrow_1).before args0 about1 = true := by decide +kernel
theorem w_applies : (headSpec (Jvm.Cond.code x code maxLocals ret :: tables_1) room_1).applies x e0.platform about1 = true :=
  (Spec.applies_iff w_frames).mpr ⟨w_running, w_runnable, w_alone, w_named, w_hears, w_ripe, w_room, w_tables⟩
theorem atStart : AtStart classFile x code maxLocals ret World_1 tables_1 room_1 Calls_1 rest_1 Pre_1 launch0 p0 e0 about1 theMethod args0 below0 :=
  ⟨lists_1, trivial, launch0.admits_env _ _ _, launch0.least_env, fairChoices_fair.cas, fairChoices_fair.clock, w_frames, w_args, w_heap, w_applies, trivial, w_rest, w_case⟩
end start1
theorem witness_1 : WitnessClaimed_1 := ⟨start1.p0, start1.e0, start1.about1, start1.theMethod, start1.args0, start1.below0, start1.atStart⟩
end Jvm.Pilot.@@N@@
