import JvmDerived
import JvmDerived.Pilot.@@N@@Statement
import JvmDerived.Pilot.@@N@@Code
set_option linter.unusedVariables false
set_option linter.unusedSimpArgs false
namespace Jvm.RoadKit
open Sem ClassFile Op Lib Jvm.Stand Jvm.Free Jvm.LawKit
section New
variable {p : Program} {l : Launch} {e : Env} {R : Room} {s : State} {m : MethodId} {args : Array Value} {below : List Frame} {meth : Method} {c : Code} {T : State} {locs : List Loc} {cells slots : Nat}
theorem retI (X : Stand p l e R s m args below meth c T locs cells slots) (hx : p.tables.exec = Jvm.exec) {pc : Nat} {Ls : Array Slot} {z : Int32} {rest : List Value} (hret : meth.sig.returnType = some .int) (hd : decode c.code pc = .ok (.ireturn, 1)) {fs : List Frame}
    (hl : ∀ (f : JFrame) (acts : List Action), f.method = m → f.locked = none → f.entered = [] → (doReturn e (T.setTop f) acts (some (.int z))).1 = T.setFrames fs) : Steps p.tables e below (T.setTop (mkF m pc Ls (.int z :: rest))) (T.setFrames fs) := retOut X hx hret rfl (Or.inl ⟨rfl, Or.inl rfl, z, rfl⟩) hd hl
end New
end Jvm.RoadKit
namespace Jvm.Pilot.@@N@@
open Jvm Jvm.ClassFile Sem Op Lib Jvm.Free Jvm.Stand Jvm.LawKit Jvm.RoadKit Bundle Jvm.Pilot.@@N@@.Jvm.D
def own_Go (tb : Tables) (e : Env) (below : List Frame) (R : Outcome → State → Prop) (S : State) : Prop := ∃ s₂ o, Steps tb e below S s₂ ∧ s₂.status = .running ∧ Ended s₂ below o ∧ R o s₂
theorem own_go {tb : Tables} {e : Env} {below : List Frame} {R : Outcome → State → Prop} {S S' : State} (k : ∀ t, Steps tb e below S' t → Steps tb e below S t) (h : own_Go tb e below R S') : own_Go tb e below R S := by
  obtain ⟨a, b, c, d⟩ := h
  exact ⟨a, b, k _ c, d⟩
theorem own_to {tb : Tables} {e : Env} {below : List Frame} {R : Outcome → State → Prop} {S S' : State} (k : Steps tb e below S S') (h : own_Go tb e below R S') : own_Go tb e below R S := by
  obtain ⟨a, b, c, d⟩ := h
  exact ⟨a, b, k.trans c, d⟩
theorem own_narR {t : FieldType} {v : Value} (ht : t.isReference = true) (hv : v.isRef = true) : narrow t v = v := by
  cases t <;> first | (cases ht; done) | (cases v <;> first | rfl | (cases hv; done))
theorem d3_0 : decode prog_15_method_2_code 0 = .ok (.aload_n 0, 1) := by decide +kernel
theorem d3_1 : decode prog_15_method_2_code 1 = .ok (.invokespecial 7, 3) := by decide +kernel
theorem d3_4 : decode prog_15_method_2_code 4 = .ok (.iload 4, 2) := by decide +kernel
theorem d3_6 : decode prog_15_method_2_code 6 = .ok (.iconst 1, 1) := by decide +kernel
theorem d3_7 : decode prog_15_method_2_code 7 = .ok (.if_icmp .lt 11, 3) := by decide +kernel
theorem d3_10 : decode prog_15_method_2_code 10 = .ok (.iload 4, 2) := by decide +kernel
theorem d3_12 : decode prog_15_method_2_code 12 = .ok (.sipush 1000, 3) := by decide +kernel
theorem d3_15 : decode prog_15_method_2_code 15 = .ok (.if_icmp .le 18, 3) := by decide +kernel
theorem d3_33 : decode prog_15_method_2_code 33 = .ok (.aload_n 0, 1) := by decide +kernel
theorem d3_34 : decode prog_15_method_2_code 34 = .ok (.aload_n 1, 1) := by decide +kernel
theorem d3_35 : decode prog_15_method_2_code 35 = .ok (.putfield 21, 3) := by decide +kernel
theorem d3_38 : decode prog_15_method_2_code 38 = .ok (.aload_n 0, 1) := by decide +kernel
theorem d3_39 : decode prog_15_method_2_code 39 = .ok (.aload_n 2, 1) := by decide +kernel
theorem d3_40 : decode prog_15_method_2_code 40 = .ok (.putfield 25, 3) := by decide +kernel
theorem d3_43 : decode prog_15_method_2_code 43 = .ok (.aload_n 0, 1) := by decide +kernel
theorem d3_44 : decode prog_15_method_2_code 44 = .ok (.aload_n 3, 1) := by decide +kernel
theorem d3_45 : decode prog_15_method_2_code 45 = .ok (.putfield 29, 3) := by decide +kernel
theorem d3_48 : decode prog_15_method_2_code 48 = .ok (.aload_n 0, 1) := by decide +kernel
theorem d3_49 : decode prog_15_method_2_code 49 = .ok (.iload 4, 2) := by decide +kernel
theorem d3_51 : decode prog_15_method_2_code 51 = .ok (.putfield 32, 3) := by decide +kernel
theorem d3_54 : decode prog_15_method_2_code 54 = .ok (.aload_n 0, 1) := by decide +kernel
theorem d3_55 : decode prog_15_method_2_code 55 = .ok (.aload 5, 2) := by decide +kernel
theorem d3_57 : decode prog_15_method_2_code 57 = .ok (.putfield 36, 3) := by decide +kernel
theorem d3_60 : decode prog_15_method_2_code 60 = .ok (.aload_n 0, 1) := by decide +kernel
theorem d3_61 : decode prog_15_method_2_code 61 = .ok (.aload 6, 2) := by decide +kernel
theorem d3_63 : decode prog_15_method_2_code 63 = .ok (.putfield 39, 3) := by decide +kernel
theorem d3_66 : decode prog_15_method_2_code 66 = .ok (.aload_n 0, 1) := by decide +kernel
theorem d3_67 : decode prog_15_method_2_code 67 = .ok (.aload 7, 2) := by decide +kernel
theorem d3_69 : decode prog_15_method_2_code 69 = .ok (.putfield 43, 3) := by decide +kernel
theorem d3_72 : decode prog_15_method_2_code 72 = .ok (.return_, 1) := by decide +kernel
theorem pn_com_example_periodic_jobs_periodicjobs_engine_FiringQuery : plainName "com/example/periodic_jobs/periodicjobs/engine/FiringQuery" = true := by first | (simp [plainName, overriddenIn]; done) | decide +kernel
theorem ef3 (m : MethodId) (x0 : Addr) (x4 : Int32) : entryFrame m #[(.ref x0), .null, .null, .null, (.int x4), .null, .null, .null] 8 = mkF m 0 #[.val (.ref x0), .val .null, .val .null, .val .null, .val (.int x4), .val .null, .val .null, .val .null] [] := by first | (simp [entryFrame, mkF, argsToLocals, Value.category]; done) | rfl
def Q3 (Z : State) (a : Addr) (h0 : Heap) (n0 : Nat) (v : Option Value) (h : Heap) (L : List Loc) : Prop := v = none ∧ Fr n0 L ∧ Keep h0 h [a] ∧ Fld Z h a "com/example/periodic_jobs/periodicjobs/engine/FiringQuery" "status" "Lcom/example/periodic_jobs/periodicjobs/engine/FiringStatus;" .null ∧ Fld Z h a "com/example/periodic_jobs/periodicjobs/engine/FiringQuery" "from" "Ljava/time/Instant;" .null ∧ Fld Z h a "com/example/periodic_jobs/periodicjobs/engine/FiringQuery" "to" "Ljava/time/Instant;" .null ∧ Fld Z h a "com/example/periodic_jobs/periodicjobs/engine/FiringQuery" "limit" "I" (.int (100 : Int32)) ∧ Fld Z h a "com/example/periodic_jobs/periodicjobs/engine/FiringQuery" "afterScheduledAt" "Ljava/time/Instant;" .null ∧ Fld Z h a "com/example/periodic_jobs/periodicjobs/engine/FiringQuery" "afterKind" "Lcom/example/periodic_jobs/periodicjobs/engine/FiringKind;" .null ∧ Fld Z h a "com/example/periodic_jobs/periodicjobs/engine/FiringQuery" "afterId" "Ljava/util/UUID;" .null
set_option maxRecDepth 65536 in
set_option maxHeartbeats 40000000 in
theorem rm3 (l : Launch) (Z : State) (a0 : Array Value) (hw : ∀ d ∈ tables_1, d.before a0 Z = true) (ws : List Jvm.Cond) (a : Addr) (h0 : Heap) (n0 : Nat) (Z0 : n0 ≤ h0.size) (F_status : Fld Z h0 a "com/example/periodic_jobs/periodicjobs/engine/FiringQuery" "status" "Lcom/example/periodic_jobs/periodicjobs/engine/FiringStatus;" .null) (F_from : Fld Z h0 a "com/example/periodic_jobs/periodicjobs/engine/FiringQuery" "from" "Ljava/time/Instant;" .null) (F_to : Fld Z h0 a "com/example/periodic_jobs/periodicjobs/engine/FiringQuery" "to" "Ljava/time/Instant;" .null) (F_limit : Fld Z h0 a "com/example/periodic_jobs/periodicjobs/engine/FiringQuery" "limit" "I" (.int (0 : Int32))) (F_afterScheduledAt : Fld Z h0 a "com/example/periodic_jobs/periodicjobs/engine/FiringQuery" "afterScheduledAt" "Ljava/time/Instant;" .null) (F_afterKind : Fld Z h0 a "com/example/periodic_jobs/periodicjobs/engine/FiringQuery" "afterKind" "Lcom/example/periodic_jobs/periodicjobs/engine/FiringKind;" .null) (F_afterId : Fld Z h0 a "com/example/periodic_jobs/periodicjobs/engine/FiringQuery" "afterId" "Ljava/util/UUID;" .null) (E1 : Exa Z h0 a "com/example/periodic_jobs/periodicjobs/engine/FiringQuery") (g1 : n0 ≤ a) :
    MetFree l (⟨"com/example/periodic_jobs/periodicjobs/engine/FiringQuery", "<init>", "(Lcom/example/periodic_jobs/periodicjobs/engine/FiringStatus;Ljava/time/Instant;Ljava/time/Instant;ILjava/time/Instant;Lcom/example/periodic_jobs/periodicjobs/engine/FiringKind;Ljava/util/UUID;)V"⟩ : MethodName) (head1 (Jvm.Cond.code (⟨"com/example/periodic_jobs/periodicjobs/engine/FiringQuery", "<init>", "(Lcom/example/periodic_jobs/periodicjobs/engine/FiringStatus;Ljava/time/Instant;Ljava/time/Instant;ILjava/time/Instant;Lcom/example/periodic_jobs/periodicjobs/engine/FiringKind;Ljava/util/UUID;)V"⟩ : MethodName) prog_15_method_2_code 8 ((Option.none : Option FieldType)) :: ws) ({ frames := 1, cells := 0, slots := 0, locals := 12 } : Room)) (fun aa U => aa = #[(.ref a), .null, .null, .null, (.int (100 : Int32)), .null, .null, .null] ∧ Z.Warmed39 U.vm ∧ U.heap = h0) (fun _ _ _ _ _ => True) (fun _ U ou U' => ∃ v L, ou = .returned v ∧ Q3 Z a h0 n0 v U'.heap L ∧ FrameEnd U ou U' L ({ frames := 1, cells := 0, slots := 0, locals := 12 } : Room).cells ({ frames := 1, cells := 0, slots := 0, locals := 12 } : Room).slots) := by
  refine MetFree.of_bodySF (plainFor_of_name pn_com_example_periodic_jobs_periodicjobs_engine_FiringQuery) hisR ?_
  intro pg e s m args below meth c s₁ Bd hml0 hP hK
  obtain ⟨rfl, hZ, hh⟩ := hP
  have hx := Bd.exec
  have hby := Bd.bytes
  have hml : c.maxLocals = 8 := hml0
  have hown : s.vm.findClass "com/example/periodic_jobs/periodicjobs/engine/FiringQuery" = some m.cls := findClass_of_methodNamed Bd.named
  have hnm := (name_of_methodNamed Bd.named Bd.method).1
  have X0 : Stand pg l e ({ frames := 1, cells := 0, slots := 0, locals := 12 } : Room) s m #[(.ref a), .null, .null, .null, (.int (100 : Int32)), .null, .null, .null] below meth c s₁ [] 0 0 := Stand.of_body Bd
  have e0 : s₁.heap = h0 := by rw [← hh, Bd.state]; rfl
  have N0 := Fr.nil n0
  have K0 : Keep h0 h0 [a] := Keep.refl _ _
  show own_Go pg.tables e below (fun ou U' => ∃ v L, ou = .returned v ∧ Q3 Z a h0 n0 v U'.heap L ∧ FrameEnd s ou U' L ({ frames := 1, cells := 0, slots := 0, locals := 12 } : Room).cells ({ frames := 1, cells := 0, slots := 0, locals := 12 } : Room).slots) (s₁.setTop (entryFrame m #[(.ref a), .null, .null, .null, (.int (100 : Int32)), .null, .null, .null] 8))
  refine own_go (S' := s₁.setTop (mkF m 0 #[.val (.ref a), .val .null, .val .null, .val .null, .val (.int (100 : Int32)), .val .null, .val .null, .val .null] [])) (fun tg kk => castTop (ef3 m a (100 : Int32)) kk) ?_
  refine own_go (S' := s₁.setTop (mkF m 1 #[.val (.ref a), .val .null, .val .null, .val .null, .val (.int (100 : Int32)), .val .null, .val .null, .val .null] [(.ref a)])) (fun tg kk => XS.aloadN X0.here hx rfl (hb hby d3_0) rfl rfl kk) ?_
  obtain ⟨T1, X1, e1, st1⟩ := initO X0 hx hZ hown (hw _ (List.mem_of_getElem? (i := 12) rfl)) (hw _ (List.mem_of_getElem? (i := 13) rfl)) (hw _ (List.mem_of_getElem? (i := 14) rfl)) e0 (g := (mkF m 1 #[.val (.ref a), .val .null, .val .null, .val .null, .val (.int (100 : Int32)), .val .null, .val .null, .val .null] [(.ref a)])) rfl (by rw [hml]; rfl) rfl (hb hby d3_1) (by decide) (W := 0) (by show 2 * 0 + _ ≤ _; exact Nat.le_of_eq rfl) (by decide)
  refine own_go (S' := T1.setTop (mkF m 4 #[.val (.ref a), .val .null, .val .null, .val .null, .val (.int (100 : Int32)), .val .null, .val .null, .val .null] [])) (st1) ?_
  refine own_go (S' := T1.setTop (mkF m 6 #[.val (.ref a), .val .null, .val .null, .val .null, .val (.int (100 : Int32)), .val .null, .val .null, .val .null] [(.int (100 : Int32))])) (fun tg kk => XS.iload X1.here hx rfl (hb hby d3_4) rfl kk) ?_
  refine own_go (S' := T1.setTop (mkF m 7 #[.val (.ref a), .val .null, .val .null, .val .null, .val (.int (100 : Int32)), .val .null, .val .null, .val .null] [(.int (1 : Int32)), (.int (100 : Int32))])) (fun tg kk => XT.iconstV X1.here hx rfl (1 : Int32) (hb hby d3_6) (by decide) kk) ?_
  refine own_go (S' := T1.setTop (mkF m 10 #[.val (.ref a), .val .null, .val .null, .val .null, .val (.int (100 : Int32)), .val .null, .val .null, .val .null] [])) (fun tg kk => XS.icmpNo X1.here hx rfl (hb hby d3_7) rfl (XT.ii_lt_f (by decide)) kk) ?_
  refine own_go (S' := T1.setTop (mkF m 12 #[.val (.ref a), .val .null, .val .null, .val .null, .val (.int (100 : Int32)), .val .null, .val .null, .val .null] [(.int (100 : Int32))])) (fun tg kk => XS.iload X1.here hx rfl (hb hby d3_10) rfl kk) ?_
  refine own_go (S' := T1.setTop (mkF m 15 #[.val (.ref a), .val .null, .val .null, .val .null, .val (.int (100 : Int32)), .val .null, .val .null, .val .null] [(.int (1000 : Int32)), (.int (100 : Int32))])) (fun tg kk => XT.sipushV X1.here hx rfl (1000 : Int32) (hb hby d3_12) (by decide) kk) ?_
  refine own_go (S' := T1.setTop (mkF m 33 #[.val (.ref a), .val .null, .val .null, .val .null, .val (.int (100 : Int32)), .val .null, .val .null, .val .null] [])) (fun tg kk => XS.icmpYes X1.here hx rfl (pc0 := 15) (pc' := 33) rfl (hb hby d3_15) rfl (XT.ii_le_t (by decide)) (by decide) (by decide) kk) ?_
  refine own_go (S' := T1.setTop (mkF m 34 #[.val (.ref a), .val .null, .val .null, .val .null, .val (.int (100 : Int32)), .val .null, .val .null, .val .null] [(.ref a)])) (fun tg kk => XS.aloadN X1.here hx rfl (hb hby d3_33) rfl rfl kk) ?_
  refine own_go (S' := T1.setTop (mkF m 35 #[.val (.ref a), .val .null, .val .null, .val .null, .val (.int (100 : Int32)), .val .null, .val .null, .val .null] [.null, (.ref a)])) (fun tg kk => XS.aloadN X1.here hx rfl (hb hby d3_34) rfl rfl kk) ?_
  obtain ⟨T2, h2, X2, e2, W2, st2⟩ := putF X1 hx hZ hown (host := "") (Or.inl (hw _ (List.mem_of_getElem? (i := 15) rfl))) Via.refl e1 F_status E1 (Or.inr ⟨(hw _ (List.mem_of_getElem? (i := 16) rfl)), rfl, hnm⟩) (hw _ (List.mem_of_getElem? (i := 5) rfl)) (ty := .object "com/example/periodic_jobs/periodicjobs/engine/FiringStatus") (by decide) rfl rfl (g := (mkF m 35 #[.val (.ref a), .val .null, .val .null, .val .null, .val (.int (100 : Int32)), .val .null, .val .null, .val .null] [.null, (.ref a)])) rfl rfl (hb hby d3_35)
  refine own_go (S' := T2.setTop (mkF m 38 #[.val (.ref a), .val .null, .val .null, .val .null, .val (.int (100 : Int32)), .val .null, .val .null, .val .null] [])) (st2) ?_
  have N2 := Fr.snoc X2 N0 g1
  have F3 := F_status.same W2
  have F4 := F_from.other W2 (Or.inr (slot_ne (Or.inr (hw _ (List.mem_of_getElem? (i := 18) rfl))) (Or.inr (hw _ (List.mem_of_getElem? (i := 16) rfl))) (by decide) (t := .object "java/time/Instant") (t' := .object "com/example/periodic_jobs/periodicjobs/engine/FiringStatus") (by decide) (by decide)))
  have F5 := F_to.other W2 (Or.inr (slot_ne (Or.inr (hw _ (List.mem_of_getElem? (i := 20) rfl))) (Or.inr (hw _ (List.mem_of_getElem? (i := 16) rfl))) (by decide) (t := .object "java/time/Instant") (t' := .object "com/example/periodic_jobs/periodicjobs/engine/FiringStatus") (by decide) (by decide)))
  have F6 := F_limit.other W2 (Or.inr (slot_ne (Or.inr (hw _ (List.mem_of_getElem? (i := 22) rfl))) (Or.inr (hw _ (List.mem_of_getElem? (i := 16) rfl))) (by decide) (t := .int) (t' := .object "com/example/periodic_jobs/periodicjobs/engine/FiringStatus") (by decide) (by decide)))
  have F7 := F_afterScheduledAt.other W2 (Or.inr (slot_ne (Or.inr (hw _ (List.mem_of_getElem? (i := 24) rfl))) (Or.inr (hw _ (List.mem_of_getElem? (i := 16) rfl))) (by decide) (t := .object "java/time/Instant") (t' := .object "com/example/periodic_jobs/periodicjobs/engine/FiringStatus") (by decide) (by decide)))
  have F8 := F_afterKind.other W2 (Or.inr (slot_ne (Or.inr (hw _ (List.mem_of_getElem? (i := 26) rfl))) (Or.inr (hw _ (List.mem_of_getElem? (i := 16) rfl))) (by decide) (t := .object "com/example/periodic_jobs/periodicjobs/engine/FiringKind") (t' := .object "com/example/periodic_jobs/periodicjobs/engine/FiringStatus") (by decide) (by decide)))
  have F9 := F_afterId.other W2 (Or.inr (slot_ne (Or.inr (hw _ (List.mem_of_getElem? (i := 28) rfl))) (Or.inr (hw _ (List.mem_of_getElem? (i := 16) rfl))) (by decide) (t := .object "java/util/UUID") (t' := .object "com/example/periodic_jobs/periodicjobs/engine/FiringStatus") (by decide) (by decide)))
  have E10 : Exa Z h2 a "com/example/periodic_jobs/periodicjobs/engine/FiringQuery" := E1.wr W2
  have Z11 : n0 ≤ h2.size := by rw [W2.size]; exact Z0
  have K12 : Keep h0 h2 [a] := K0.wr W2 (Or.inl (List.mem_of_getElem? (i := 0) rfl))
  refine own_go (S' := T2.setTop (mkF m 39 #[.val (.ref a), .val .null, .val .null, .val .null, .val (.int (100 : Int32)), .val .null, .val .null, .val .null] [(.ref a)])) (fun tg kk => XS.aloadN X2.here hx rfl (hb hby d3_38) rfl rfl kk) ?_
  refine own_go (S' := T2.setTop (mkF m 40 #[.val (.ref a), .val .null, .val .null, .val .null, .val (.int (100 : Int32)), .val .null, .val .null, .val .null] [.null, (.ref a)])) (fun tg kk => XS.aloadN X2.here hx rfl (hb hby d3_39) rfl rfl kk) ?_
  obtain ⟨T13, h13, X13, e13, W13, st13⟩ := putF X2 hx hZ hown (host := "") (Or.inl (hw _ (List.mem_of_getElem? (i := 17) rfl))) Via.refl e2 F4 E10 (Or.inr ⟨(hw _ (List.mem_of_getElem? (i := 18) rfl)), rfl, hnm⟩) (hw _ (List.mem_of_getElem? (i := 5) rfl)) (ty := .object "java/time/Instant") (by decide) rfl rfl (g := (mkF m 40 #[.val (.ref a), .val .null, .val .null, .val .null, .val (.int (100 : Int32)), .val .null, .val .null, .val .null] [.null, (.ref a)])) rfl rfl (hb hby d3_40)
  refine own_go (S' := T13.setTop (mkF m 43 #[.val (.ref a), .val .null, .val .null, .val .null, .val (.int (100 : Int32)), .val .null, .val .null, .val .null] [])) (st13) ?_
  have N13 := Fr.snoc X13 N2 g1
  have F14 := F3.other W13 (Or.inr (slot_ne (Or.inr (hw _ (List.mem_of_getElem? (i := 16) rfl))) (Or.inr (hw _ (List.mem_of_getElem? (i := 18) rfl))) (by decide) (t := .object "com/example/periodic_jobs/periodicjobs/engine/FiringStatus") (t' := .object "java/time/Instant") (by decide) (by decide)))
  have F15 := F4.same W13
  have F16 := F5.other W13 (Or.inr (slot_ne (Or.inr (hw _ (List.mem_of_getElem? (i := 20) rfl))) (Or.inr (hw _ (List.mem_of_getElem? (i := 18) rfl))) (by decide) (t := .object "java/time/Instant") (t' := .object "java/time/Instant") (by decide) (by decide)))
  have F17 := F6.other W13 (Or.inr (slot_ne (Or.inr (hw _ (List.mem_of_getElem? (i := 22) rfl))) (Or.inr (hw _ (List.mem_of_getElem? (i := 18) rfl))) (by decide) (t := .int) (t' := .object "java/time/Instant") (by decide) (by decide)))
  have F18 := F7.other W13 (Or.inr (slot_ne (Or.inr (hw _ (List.mem_of_getElem? (i := 24) rfl))) (Or.inr (hw _ (List.mem_of_getElem? (i := 18) rfl))) (by decide) (t := .object "java/time/Instant") (t' := .object "java/time/Instant") (by decide) (by decide)))
  have F19 := F8.other W13 (Or.inr (slot_ne (Or.inr (hw _ (List.mem_of_getElem? (i := 26) rfl))) (Or.inr (hw _ (List.mem_of_getElem? (i := 18) rfl))) (by decide) (t := .object "com/example/periodic_jobs/periodicjobs/engine/FiringKind") (t' := .object "java/time/Instant") (by decide) (by decide)))
  have F20 := F9.other W13 (Or.inr (slot_ne (Or.inr (hw _ (List.mem_of_getElem? (i := 28) rfl))) (Or.inr (hw _ (List.mem_of_getElem? (i := 18) rfl))) (by decide) (t := .object "java/util/UUID") (t' := .object "java/time/Instant") (by decide) (by decide)))
  have E21 : Exa Z h13 a "com/example/periodic_jobs/periodicjobs/engine/FiringQuery" := E10.wr W13
  have Z22 : n0 ≤ h13.size := by rw [W13.size]; exact Z11
  have K23 : Keep h0 h13 [a] := K12.wr W13 (Or.inl (List.mem_of_getElem? (i := 0) rfl))
  refine own_go (S' := T13.setTop (mkF m 44 #[.val (.ref a), .val .null, .val .null, .val .null, .val (.int (100 : Int32)), .val .null, .val .null, .val .null] [(.ref a)])) (fun tg kk => XS.aloadN X13.here hx rfl (hb hby d3_43) rfl rfl kk) ?_
  refine own_go (S' := T13.setTop (mkF m 45 #[.val (.ref a), .val .null, .val .null, .val .null, .val (.int (100 : Int32)), .val .null, .val .null, .val .null] [.null, (.ref a)])) (fun tg kk => XS.aloadN X13.here hx rfl (hb hby d3_44) rfl rfl kk) ?_
  obtain ⟨T24, h24, X24, e24, W24, st24⟩ := putF X13 hx hZ hown (host := "") (Or.inl (hw _ (List.mem_of_getElem? (i := 19) rfl))) Via.refl e13 F16 E21 (Or.inr ⟨(hw _ (List.mem_of_getElem? (i := 20) rfl)), rfl, hnm⟩) (hw _ (List.mem_of_getElem? (i := 5) rfl)) (ty := .object "java/time/Instant") (by decide) rfl rfl (g := (mkF m 45 #[.val (.ref a), .val .null, .val .null, .val .null, .val (.int (100 : Int32)), .val .null, .val .null, .val .null] [.null, (.ref a)])) rfl rfl (hb hby d3_45)
  refine own_go (S' := T24.setTop (mkF m 48 #[.val (.ref a), .val .null, .val .null, .val .null, .val (.int (100 : Int32)), .val .null, .val .null, .val .null] [])) (st24) ?_
  have N24 := Fr.snoc X24 N13 g1
  have F25 := F14.other W24 (Or.inr (slot_ne (Or.inr (hw _ (List.mem_of_getElem? (i := 16) rfl))) (Or.inr (hw _ (List.mem_of_getElem? (i := 20) rfl))) (by decide) (t := .object "com/example/periodic_jobs/periodicjobs/engine/FiringStatus") (t' := .object "java/time/Instant") (by decide) (by decide)))
  have F26 := F15.other W24 (Or.inr (slot_ne (Or.inr (hw _ (List.mem_of_getElem? (i := 18) rfl))) (Or.inr (hw _ (List.mem_of_getElem? (i := 20) rfl))) (by decide) (t := .object "java/time/Instant") (t' := .object "java/time/Instant") (by decide) (by decide)))
  have F27 := F16.same W24
  have F28 := F17.other W24 (Or.inr (slot_ne (Or.inr (hw _ (List.mem_of_getElem? (i := 22) rfl))) (Or.inr (hw _ (List.mem_of_getElem? (i := 20) rfl))) (by decide) (t := .int) (t' := .object "java/time/Instant") (by decide) (by decide)))
  have F29 := F18.other W24 (Or.inr (slot_ne (Or.inr (hw _ (List.mem_of_getElem? (i := 24) rfl))) (Or.inr (hw _ (List.mem_of_getElem? (i := 20) rfl))) (by decide) (t := .object "java/time/Instant") (t' := .object "java/time/Instant") (by decide) (by decide)))
  have F30 := F19.other W24 (Or.inr (slot_ne (Or.inr (hw _ (List.mem_of_getElem? (i := 26) rfl))) (Or.inr (hw _ (List.mem_of_getElem? (i := 20) rfl))) (by decide) (t := .object "com/example/periodic_jobs/periodicjobs/engine/FiringKind") (t' := .object "java/time/Instant") (by decide) (by decide)))
  have F31 := F20.other W24 (Or.inr (slot_ne (Or.inr (hw _ (List.mem_of_getElem? (i := 28) rfl))) (Or.inr (hw _ (List.mem_of_getElem? (i := 20) rfl))) (by decide) (t := .object "java/util/UUID") (t' := .object "java/time/Instant") (by decide) (by decide)))
  have E32 : Exa Z h24 a "com/example/periodic_jobs/periodicjobs/engine/FiringQuery" := E21.wr W24
  have Z33 : n0 ≤ h24.size := by rw [W24.size]; exact Z22
  have K34 : Keep h0 h24 [a] := K23.wr W24 (Or.inl (List.mem_of_getElem? (i := 0) rfl))
  refine own_go (S' := T24.setTop (mkF m 49 #[.val (.ref a), .val .null, .val .null, .val .null, .val (.int (100 : Int32)), .val .null, .val .null, .val .null] [(.ref a)])) (fun tg kk => XS.aloadN X24.here hx rfl (hb hby d3_48) rfl rfl kk) ?_
  refine own_go (S' := T24.setTop (mkF m 51 #[.val (.ref a), .val .null, .val .null, .val .null, .val (.int (100 : Int32)), .val .null, .val .null, .val .null] [(.int (100 : Int32)), (.ref a)])) (fun tg kk => XS.iload X24.here hx rfl (hb hby d3_49) rfl kk) ?_
  obtain ⟨T35, h35, X35, e35, W35, st35⟩ := putF X24 hx hZ hown (host := "") (Or.inl (hw _ (List.mem_of_getElem? (i := 21) rfl))) Via.refl e24 F28 E32 (Or.inr ⟨(hw _ (List.mem_of_getElem? (i := 22) rfl)), rfl, hnm⟩) (hw _ (List.mem_of_getElem? (i := 5) rfl)) (ty := .int) (by decide) rfl rfl (g := (mkF m 51 #[.val (.ref a), .val .null, .val .null, .val .null, .val (.int (100 : Int32)), .val .null, .val .null, .val .null] [(.int (100 : Int32)), (.ref a)])) rfl rfl (hb hby d3_51)
  refine own_go (S' := T35.setTop (mkF m 54 #[.val (.ref a), .val .null, .val .null, .val .null, .val (.int (100 : Int32)), .val .null, .val .null, .val .null] [])) (st35) ?_
  have N35 := Fr.snoc X35 N24 g1
  have F36 := F25.other W35 (Or.inr (slot_ne (Or.inr (hw _ (List.mem_of_getElem? (i := 16) rfl))) (Or.inr (hw _ (List.mem_of_getElem? (i := 22) rfl))) (by decide) (t := .object "com/example/periodic_jobs/periodicjobs/engine/FiringStatus") (t' := .int) (by decide) (by decide)))
  have F37 := F26.other W35 (Or.inr (slot_ne (Or.inr (hw _ (List.mem_of_getElem? (i := 18) rfl))) (Or.inr (hw _ (List.mem_of_getElem? (i := 22) rfl))) (by decide) (t := .object "java/time/Instant") (t' := .int) (by decide) (by decide)))
  have F38 := F27.other W35 (Or.inr (slot_ne (Or.inr (hw _ (List.mem_of_getElem? (i := 20) rfl))) (Or.inr (hw _ (List.mem_of_getElem? (i := 22) rfl))) (by decide) (t := .object "java/time/Instant") (t' := .int) (by decide) (by decide)))
  have F39 := F28.same W35
  have F40 := F29.other W35 (Or.inr (slot_ne (Or.inr (hw _ (List.mem_of_getElem? (i := 24) rfl))) (Or.inr (hw _ (List.mem_of_getElem? (i := 22) rfl))) (by decide) (t := .object "java/time/Instant") (t' := .int) (by decide) (by decide)))
  have F41 := F30.other W35 (Or.inr (slot_ne (Or.inr (hw _ (List.mem_of_getElem? (i := 26) rfl))) (Or.inr (hw _ (List.mem_of_getElem? (i := 22) rfl))) (by decide) (t := .object "com/example/periodic_jobs/periodicjobs/engine/FiringKind") (t' := .int) (by decide) (by decide)))
  have F42 := F31.other W35 (Or.inr (slot_ne (Or.inr (hw _ (List.mem_of_getElem? (i := 28) rfl))) (Or.inr (hw _ (List.mem_of_getElem? (i := 22) rfl))) (by decide) (t := .object "java/util/UUID") (t' := .int) (by decide) (by decide)))
  have E43 : Exa Z h35 a "com/example/periodic_jobs/periodicjobs/engine/FiringQuery" := E32.wr W35
  have Z44 : n0 ≤ h35.size := by rw [W35.size]; exact Z33
  have K45 : Keep h0 h35 [a] := K34.wr W35 (Or.inl (List.mem_of_getElem? (i := 0) rfl))
  refine own_go (S' := T35.setTop (mkF m 55 #[.val (.ref a), .val .null, .val .null, .val .null, .val (.int (100 : Int32)), .val .null, .val .null, .val .null] [(.ref a)])) (fun tg kk => XS.aloadN X35.here hx rfl (hb hby d3_54) rfl rfl kk) ?_
  refine own_go (S' := T35.setTop (mkF m 57 #[.val (.ref a), .val .null, .val .null, .val .null, .val (.int (100 : Int32)), .val .null, .val .null, .val .null] [.null, (.ref a)])) (fun tg kk => XS.aload X35.here hx rfl (hb hby d3_55) rfl rfl kk) ?_
  obtain ⟨T46, h46, X46, e46, W46, st46⟩ := putF X35 hx hZ hown (host := "") (Or.inl (hw _ (List.mem_of_getElem? (i := 23) rfl))) Via.refl e35 F40 E43 (Or.inr ⟨(hw _ (List.mem_of_getElem? (i := 24) rfl)), rfl, hnm⟩) (hw _ (List.mem_of_getElem? (i := 5) rfl)) (ty := .object "java/time/Instant") (by decide) rfl rfl (g := (mkF m 57 #[.val (.ref a), .val .null, .val .null, .val .null, .val (.int (100 : Int32)), .val .null, .val .null, .val .null] [.null, (.ref a)])) rfl rfl (hb hby d3_57)
  refine own_go (S' := T46.setTop (mkF m 60 #[.val (.ref a), .val .null, .val .null, .val .null, .val (.int (100 : Int32)), .val .null, .val .null, .val .null] [])) (st46) ?_
  have N46 := Fr.snoc X46 N35 g1
  have F47 := F36.other W46 (Or.inr (slot_ne (Or.inr (hw _ (List.mem_of_getElem? (i := 16) rfl))) (Or.inr (hw _ (List.mem_of_getElem? (i := 24) rfl))) (by decide) (t := .object "com/example/periodic_jobs/periodicjobs/engine/FiringStatus") (t' := .object "java/time/Instant") (by decide) (by decide)))
  have F48 := F37.other W46 (Or.inr (slot_ne (Or.inr (hw _ (List.mem_of_getElem? (i := 18) rfl))) (Or.inr (hw _ (List.mem_of_getElem? (i := 24) rfl))) (by decide) (t := .object "java/time/Instant") (t' := .object "java/time/Instant") (by decide) (by decide)))
  have F49 := F38.other W46 (Or.inr (slot_ne (Or.inr (hw _ (List.mem_of_getElem? (i := 20) rfl))) (Or.inr (hw _ (List.mem_of_getElem? (i := 24) rfl))) (by decide) (t := .object "java/time/Instant") (t' := .object "java/time/Instant") (by decide) (by decide)))
  have F50 := F39.other W46 (Or.inr (slot_ne (Or.inr (hw _ (List.mem_of_getElem? (i := 22) rfl))) (Or.inr (hw _ (List.mem_of_getElem? (i := 24) rfl))) (by decide) (t := .int) (t' := .object "java/time/Instant") (by decide) (by decide)))
  have F51 := F40.same W46
  have F52 := F41.other W46 (Or.inr (slot_ne (Or.inr (hw _ (List.mem_of_getElem? (i := 26) rfl))) (Or.inr (hw _ (List.mem_of_getElem? (i := 24) rfl))) (by decide) (t := .object "com/example/periodic_jobs/periodicjobs/engine/FiringKind") (t' := .object "java/time/Instant") (by decide) (by decide)))
  have F53 := F42.other W46 (Or.inr (slot_ne (Or.inr (hw _ (List.mem_of_getElem? (i := 28) rfl))) (Or.inr (hw _ (List.mem_of_getElem? (i := 24) rfl))) (by decide) (t := .object "java/util/UUID") (t' := .object "java/time/Instant") (by decide) (by decide)))
  have E54 : Exa Z h46 a "com/example/periodic_jobs/periodicjobs/engine/FiringQuery" := E43.wr W46
  have Z55 : n0 ≤ h46.size := by rw [W46.size]; exact Z44
  have K56 : Keep h0 h46 [a] := K45.wr W46 (Or.inl (List.mem_of_getElem? (i := 0) rfl))
  refine own_go (S' := T46.setTop (mkF m 61 #[.val (.ref a), .val .null, .val .null, .val .null, .val (.int (100 : Int32)), .val .null, .val .null, .val .null] [(.ref a)])) (fun tg kk => XS.aloadN X46.here hx rfl (hb hby d3_60) rfl rfl kk) ?_
  refine own_go (S' := T46.setTop (mkF m 63 #[.val (.ref a), .val .null, .val .null, .val .null, .val (.int (100 : Int32)), .val .null, .val .null, .val .null] [.null, (.ref a)])) (fun tg kk => XS.aload X46.here hx rfl (hb hby d3_61) rfl rfl kk) ?_
  obtain ⟨T57, h57, X57, e57, W57, st57⟩ := putF X46 hx hZ hown (host := "") (Or.inl (hw _ (List.mem_of_getElem? (i := 25) rfl))) Via.refl e46 F52 E54 (Or.inr ⟨(hw _ (List.mem_of_getElem? (i := 26) rfl)), rfl, hnm⟩) (hw _ (List.mem_of_getElem? (i := 5) rfl)) (ty := .object "com/example/periodic_jobs/periodicjobs/engine/FiringKind") (by decide) rfl rfl (g := (mkF m 63 #[.val (.ref a), .val .null, .val .null, .val .null, .val (.int (100 : Int32)), .val .null, .val .null, .val .null] [.null, (.ref a)])) rfl rfl (hb hby d3_63)
  refine own_go (S' := T57.setTop (mkF m 66 #[.val (.ref a), .val .null, .val .null, .val .null, .val (.int (100 : Int32)), .val .null, .val .null, .val .null] [])) (st57) ?_
  have N57 := Fr.snoc X57 N46 g1
  have F58 := F47.other W57 (Or.inr (slot_ne (Or.inr (hw _ (List.mem_of_getElem? (i := 16) rfl))) (Or.inr (hw _ (List.mem_of_getElem? (i := 26) rfl))) (by decide) (t := .object "com/example/periodic_jobs/periodicjobs/engine/FiringStatus") (t' := .object "com/example/periodic_jobs/periodicjobs/engine/FiringKind") (by decide) (by decide)))
  have F59 := F48.other W57 (Or.inr (slot_ne (Or.inr (hw _ (List.mem_of_getElem? (i := 18) rfl))) (Or.inr (hw _ (List.mem_of_getElem? (i := 26) rfl))) (by decide) (t := .object "java/time/Instant") (t' := .object "com/example/periodic_jobs/periodicjobs/engine/FiringKind") (by decide) (by decide)))
  have F60 := F49.other W57 (Or.inr (slot_ne (Or.inr (hw _ (List.mem_of_getElem? (i := 20) rfl))) (Or.inr (hw _ (List.mem_of_getElem? (i := 26) rfl))) (by decide) (t := .object "java/time/Instant") (t' := .object "com/example/periodic_jobs/periodicjobs/engine/FiringKind") (by decide) (by decide)))
  have F61 := F50.other W57 (Or.inr (slot_ne (Or.inr (hw _ (List.mem_of_getElem? (i := 22) rfl))) (Or.inr (hw _ (List.mem_of_getElem? (i := 26) rfl))) (by decide) (t := .int) (t' := .object "com/example/periodic_jobs/periodicjobs/engine/FiringKind") (by decide) (by decide)))
  have F62 := F51.other W57 (Or.inr (slot_ne (Or.inr (hw _ (List.mem_of_getElem? (i := 24) rfl))) (Or.inr (hw _ (List.mem_of_getElem? (i := 26) rfl))) (by decide) (t := .object "java/time/Instant") (t' := .object "com/example/periodic_jobs/periodicjobs/engine/FiringKind") (by decide) (by decide)))
  have F63 := F52.same W57
  have F64 := F53.other W57 (Or.inr (slot_ne (Or.inr (hw _ (List.mem_of_getElem? (i := 28) rfl))) (Or.inr (hw _ (List.mem_of_getElem? (i := 26) rfl))) (by decide) (t := .object "java/util/UUID") (t' := .object "com/example/periodic_jobs/periodicjobs/engine/FiringKind") (by decide) (by decide)))
  have E65 : Exa Z h57 a "com/example/periodic_jobs/periodicjobs/engine/FiringQuery" := E54.wr W57
  have Z66 : n0 ≤ h57.size := by rw [W57.size]; exact Z55
  have K67 : Keep h0 h57 [a] := K56.wr W57 (Or.inl (List.mem_of_getElem? (i := 0) rfl))
  refine own_go (S' := T57.setTop (mkF m 67 #[.val (.ref a), .val .null, .val .null, .val .null, .val (.int (100 : Int32)), .val .null, .val .null, .val .null] [(.ref a)])) (fun tg kk => XS.aloadN X57.here hx rfl (hb hby d3_66) rfl rfl kk) ?_
  refine own_go (S' := T57.setTop (mkF m 69 #[.val (.ref a), .val .null, .val .null, .val .null, .val (.int (100 : Int32)), .val .null, .val .null, .val .null] [.null, (.ref a)])) (fun tg kk => XS.aload X57.here hx rfl (hb hby d3_67) rfl rfl kk) ?_
  obtain ⟨T68, h68, X68, e68, W68, st68⟩ := putF X57 hx hZ hown (host := "") (Or.inl (hw _ (List.mem_of_getElem? (i := 27) rfl))) Via.refl e57 F64 E65 (Or.inr ⟨(hw _ (List.mem_of_getElem? (i := 28) rfl)), rfl, hnm⟩) (hw _ (List.mem_of_getElem? (i := 5) rfl)) (ty := .object "java/util/UUID") (by decide) rfl rfl (g := (mkF m 69 #[.val (.ref a), .val .null, .val .null, .val .null, .val (.int (100 : Int32)), .val .null, .val .null, .val .null] [.null, (.ref a)])) rfl rfl (hb hby d3_69)
  refine own_go (S' := T68.setTop (mkF m 72 #[.val (.ref a), .val .null, .val .null, .val .null, .val (.int (100 : Int32)), .val .null, .val .null, .val .null] [])) (st68) ?_
  have N68 := Fr.snoc X68 N57 g1
  have F69 := F58.other W68 (Or.inr (slot_ne (Or.inr (hw _ (List.mem_of_getElem? (i := 16) rfl))) (Or.inr (hw _ (List.mem_of_getElem? (i := 28) rfl))) (by decide) (t := .object "com/example/periodic_jobs/periodicjobs/engine/FiringStatus") (t' := .object "java/util/UUID") (by decide) (by decide)))
  have F70 := F59.other W68 (Or.inr (slot_ne (Or.inr (hw _ (List.mem_of_getElem? (i := 18) rfl))) (Or.inr (hw _ (List.mem_of_getElem? (i := 28) rfl))) (by decide) (t := .object "java/time/Instant") (t' := .object "java/util/UUID") (by decide) (by decide)))
  have F71 := F60.other W68 (Or.inr (slot_ne (Or.inr (hw _ (List.mem_of_getElem? (i := 20) rfl))) (Or.inr (hw _ (List.mem_of_getElem? (i := 28) rfl))) (by decide) (t := .object "java/time/Instant") (t' := .object "java/util/UUID") (by decide) (by decide)))
  have F72 := F61.other W68 (Or.inr (slot_ne (Or.inr (hw _ (List.mem_of_getElem? (i := 22) rfl))) (Or.inr (hw _ (List.mem_of_getElem? (i := 28) rfl))) (by decide) (t := .int) (t' := .object "java/util/UUID") (by decide) (by decide)))
  have F73 := F62.other W68 (Or.inr (slot_ne (Or.inr (hw _ (List.mem_of_getElem? (i := 24) rfl))) (Or.inr (hw _ (List.mem_of_getElem? (i := 28) rfl))) (by decide) (t := .object "java/time/Instant") (t' := .object "java/util/UUID") (by decide) (by decide)))
  have F74 := F63.other W68 (Or.inr (slot_ne (Or.inr (hw _ (List.mem_of_getElem? (i := 26) rfl))) (Or.inr (hw _ (List.mem_of_getElem? (i := 28) rfl))) (by decide) (t := .object "com/example/periodic_jobs/periodicjobs/engine/FiringKind") (t' := .object "java/util/UUID") (by decide) (by decide)))
  have F75 := F64.same W68
  have E76 : Exa Z h68 a "com/example/periodic_jobs/periodicjobs/engine/FiringQuery" := E65.wr W68
  have Z77 : n0 ≤ h68.size := by rw [W68.size]; exact Z66
  have K78 : Keep h0 h68 [a] := K67.wr W68 (Or.inl (List.mem_of_getElem? (i := 0) rfl))
  obtain ⟨fs, hr, hrun, hended, hW, hsame⟩ := X68.leave (v := none) (fun _ => rfl)
  refine ⟨_, _, X68.returnOut hx Bd.returns (hb hby d3_72) hr, hrun, hended, _, _, rfl, ?_, ⟨_, rfl⟩, hW, hsame.mono (by decide) (by decide)⟩
  show Q3 Z a h0 n0 none T68.heap _
  rw [e68]
  exact ⟨rfl, N68, K78, F69, F70, F71, F72, F73, F74, F75⟩
theorem d2_0 : decode prog_15_method_1_code 0 = .ok (.aload_n 0, 1) := by decide +kernel
theorem d2_1 : decode prog_15_method_1_code 1 = .ok (.aload_n 1, 1) := by decide +kernel
theorem d2_2 : decode prog_15_method_1_code 2 = .ok (.aload_n 2, 1) := by decide +kernel
theorem d2_3 : decode prog_15_method_1_code 3 = .ok (.aload_n 3, 1) := by decide +kernel
theorem d2_4 : decode prog_15_method_1_code 4 = .ok (.iload 4, 2) := by decide +kernel
theorem d2_6 : decode prog_15_method_1_code 6 = .ok (.aconst_null, 1) := by decide +kernel
theorem d2_7 : decode prog_15_method_1_code 7 = .ok (.aconst_null, 1) := by decide +kernel
theorem d2_8 : decode prog_15_method_1_code 8 = .ok (.aconst_null, 1) := by decide +kernel
theorem pd__Lcom_example_periodic_jobs_periodicjobs_engine_FiringStatus_Ljava_time_Instant_Ljava_time_Instant_ILjava_time_Instant_Lcom_example_periodic_jobs_periodicjobs_engine_FiringKind_Ljava_util_UUID__V : parseMethodDescriptor "(Lcom/example/periodic_jobs/periodicjobs/engine/FiringStatus;Ljava/time/Instant;Ljava/time/Instant;ILjava/time/Instant;Lcom/example/periodic_jobs/periodicjobs/engine/FiringKind;Ljava/util/UUID;)V" = some ⟨[.object "com/example/periodic_jobs/periodicjobs/engine/FiringStatus", .object "java/time/Instant", .object "java/time/Instant", .int, .object "java/time/Instant", .object "com/example/periodic_jobs/periodicjobs/engine/FiringKind", .object "java/util/UUID"], none⟩ := by decide +kernel
theorem d2_9 : decode prog_15_method_1_code 9 = .ok (.invokespecial 1, 3) := by decide +kernel
theorem d2_12 : decode prog_15_method_1_code 12 = .ok (.return_, 1) := by decide +kernel
theorem ef2 (m : MethodId) (x0 : Addr) (x4 : Int32) : entryFrame m #[(.ref x0), .null, .null, .null, (.int x4)] 5 = mkF m 0 #[.val (.ref x0), .val .null, .val .null, .val .null, .val (.int x4)] [] := by first | (simp [entryFrame, mkF, argsToLocals, Value.category]; done) | rfl
def Q2 (Z : State) (a : Addr) (h0 : Heap) (n0 : Nat) (v : Option Value) (h : Heap) (L : List Loc) : Prop := v = none ∧ Fr n0 L ∧ Keep h0 h [a] ∧ Fld Z h a "com/example/periodic_jobs/periodicjobs/engine/FiringQuery" "status" "Lcom/example/periodic_jobs/periodicjobs/engine/FiringStatus;" .null ∧ Fld Z h a "com/example/periodic_jobs/periodicjobs/engine/FiringQuery" "from" "Ljava/time/Instant;" .null ∧ Fld Z h a "com/example/periodic_jobs/periodicjobs/engine/FiringQuery" "to" "Ljava/time/Instant;" .null ∧ Fld Z h a "com/example/periodic_jobs/periodicjobs/engine/FiringQuery" "limit" "I" (.int (100 : Int32)) ∧ Fld Z h a "com/example/periodic_jobs/periodicjobs/engine/FiringQuery" "afterScheduledAt" "Ljava/time/Instant;" .null ∧ Fld Z h a "com/example/periodic_jobs/periodicjobs/engine/FiringQuery" "afterKind" "Lcom/example/periodic_jobs/periodicjobs/engine/FiringKind;" .null ∧ Fld Z h a "com/example/periodic_jobs/periodicjobs/engine/FiringQuery" "afterId" "Ljava/util/UUID;" .null
set_option maxRecDepth 65536 in
set_option maxHeartbeats 40000000 in
theorem rm2 (l : Launch) (Z : State) (a0 : Array Value) (hw : ∀ d ∈ tables_1, d.before a0 Z = true) (ws : List Jvm.Cond) (a : Addr) (h0 : Heap) (n0 : Nat) (Z0 : n0 ≤ h0.size) (F_status : Fld Z h0 a "com/example/periodic_jobs/periodicjobs/engine/FiringQuery" "status" "Lcom/example/periodic_jobs/periodicjobs/engine/FiringStatus;" .null) (F_from : Fld Z h0 a "com/example/periodic_jobs/periodicjobs/engine/FiringQuery" "from" "Ljava/time/Instant;" .null) (F_to : Fld Z h0 a "com/example/periodic_jobs/periodicjobs/engine/FiringQuery" "to" "Ljava/time/Instant;" .null) (F_limit : Fld Z h0 a "com/example/periodic_jobs/periodicjobs/engine/FiringQuery" "limit" "I" (.int (0 : Int32))) (F_afterScheduledAt : Fld Z h0 a "com/example/periodic_jobs/periodicjobs/engine/FiringQuery" "afterScheduledAt" "Ljava/time/Instant;" .null) (F_afterKind : Fld Z h0 a "com/example/periodic_jobs/periodicjobs/engine/FiringQuery" "afterKind" "Lcom/example/periodic_jobs/periodicjobs/engine/FiringKind;" .null) (F_afterId : Fld Z h0 a "com/example/periodic_jobs/periodicjobs/engine/FiringQuery" "afterId" "Ljava/util/UUID;" .null) (E1 : Exa Z h0 a "com/example/periodic_jobs/periodicjobs/engine/FiringQuery") (g1 : n0 ≤ a) :
    MetFree l (⟨"com/example/periodic_jobs/periodicjobs/engine/FiringQuery", "<init>", "(Lcom/example/periodic_jobs/periodicjobs/engine/FiringStatus;Ljava/time/Instant;Ljava/time/Instant;I)V"⟩ : MethodName) (head1 (Jvm.Cond.code (⟨"com/example/periodic_jobs/periodicjobs/engine/FiringQuery", "<init>", "(Lcom/example/periodic_jobs/periodicjobs/engine/FiringStatus;Ljava/time/Instant;Ljava/time/Instant;I)V"⟩ : MethodName) prog_15_method_1_code 5 ((Option.none : Option FieldType)) :: ws) ({ frames := 2, cells := 0, slots := 0, locals := 31 } : Room)) (fun aa U => aa = #[(.ref a), .null, .null, .null, (.int (100 : Int32))] ∧ Z.Warmed39 U.vm ∧ U.heap = h0) (fun _ _ _ _ _ => True) (fun _ U ou U' => ∃ v L, ou = .returned v ∧ Q2 Z a h0 n0 v U'.heap L ∧ FrameEnd U ou U' L ({ frames := 2, cells := 0, slots := 0, locals := 31 } : Room).cells ({ frames := 2, cells := 0, slots := 0, locals := 31 } : Room).slots) := by
  refine MetFree.of_bodySF (plainFor_of_name pn_com_example_periodic_jobs_periodicjobs_engine_FiringQuery) hisR ?_
  intro pg e s m args below meth c s₁ Bd hml0 hP hK
  obtain ⟨rfl, hZ, hh⟩ := hP
  have hx := Bd.exec
  have hby := Bd.bytes
  have hml : c.maxLocals = 5 := hml0
  have hown : s.vm.findClass "com/example/periodic_jobs/periodicjobs/engine/FiringQuery" = some m.cls := findClass_of_methodNamed Bd.named
  have hnm := (name_of_methodNamed Bd.named Bd.method).1
  have X0 : Stand pg l e ({ frames := 2, cells := 0, slots := 0, locals := 31 } : Room) s m #[(.ref a), .null, .null, .null, (.int (100 : Int32))] below meth c s₁ [] 0 0 := Stand.of_body Bd
  have e0 : s₁.heap = h0 := by rw [← hh, Bd.state]; rfl
  have N0 := Fr.nil n0
  have K0 : Keep h0 h0 [a] := Keep.refl _ _
  show own_Go pg.tables e below (fun ou U' => ∃ v L, ou = .returned v ∧ Q2 Z a h0 n0 v U'.heap L ∧ FrameEnd s ou U' L ({ frames := 2, cells := 0, slots := 0, locals := 31 } : Room).cells ({ frames := 2, cells := 0, slots := 0, locals := 31 } : Room).slots) (s₁.setTop (entryFrame m #[(.ref a), .null, .null, .null, (.int (100 : Int32))] 5))
  refine own_go (S' := s₁.setTop (mkF m 0 #[.val (.ref a), .val .null, .val .null, .val .null, .val (.int (100 : Int32))] [])) (fun tg kk => castTop (ef2 m a (100 : Int32)) kk) ?_
  refine own_go (S' := s₁.setTop (mkF m 1 #[.val (.ref a), .val .null, .val .null, .val .null, .val (.int (100 : Int32))] [(.ref a)])) (fun tg kk => XS.aloadN X0.here hx rfl (hb hby d2_0) rfl rfl kk) ?_
  refine own_go (S' := s₁.setTop (mkF m 2 #[.val (.ref a), .val .null, .val .null, .val .null, .val (.int (100 : Int32))] [.null, (.ref a)])) (fun tg kk => XS.aloadN X0.here hx rfl (hb hby d2_1) rfl rfl kk) ?_
  refine own_go (S' := s₁.setTop (mkF m 3 #[.val (.ref a), .val .null, .val .null, .val .null, .val (.int (100 : Int32))] [.null, .null, (.ref a)])) (fun tg kk => XS.aloadN X0.here hx rfl (hb hby d2_2) rfl rfl kk) ?_
  refine own_go (S' := s₁.setTop (mkF m 4 #[.val (.ref a), .val .null, .val .null, .val .null, .val (.int (100 : Int32))] [.null, .null, .null, (.ref a)])) (fun tg kk => XS.aloadN X0.here hx rfl (hb hby d2_3) rfl rfl kk) ?_
  refine own_go (S' := s₁.setTop (mkF m 6 #[.val (.ref a), .val .null, .val .null, .val .null, .val (.int (100 : Int32))] [(.int (100 : Int32)), .null, .null, .null, (.ref a)])) (fun tg kk => XS.iload X0.here hx rfl (hb hby d2_4) rfl kk) ?_
  refine own_go (S' := s₁.setTop (mkF m 7 #[.val (.ref a), .val .null, .val .null, .val .null, .val (.int (100 : Int32))] [.null, (.int (100 : Int32)), .null, .null, .null, (.ref a)])) (fun tg kk => XS.aconstNull X0.here hx rfl (hb hby d2_6) kk) ?_
  refine own_go (S' := s₁.setTop (mkF m 8 #[.val (.ref a), .val .null, .val .null, .val .null, .val (.int (100 : Int32))] [.null, .null, (.int (100 : Int32)), .null, .null, .null, (.ref a)])) (fun tg kk => XS.aconstNull X0.here hx rfl (hb hby d2_7) kk) ?_
  refine own_go (S' := s₁.setTop (mkF m 9 #[.val (.ref a), .val .null, .val .null, .val .null, .val (.int (100 : Int32))] [.null, .null, .null, (.int (100 : Int32)), .null, .null, .null, (.ref a)])) (fun tg kk => XS.aconstNull X0.here hx rfl (hb hby d2_8) kk) ?_
  obtain ⟨v1, _, ⟨T1, L1, k1, n1⟩, -, X1, ⟨Lc1, hQ1, l1, y1, z1⟩, st1⟩ := X0.specialBack hx (y := (⟨"com/example/periodic_jobs/periodicjobs/engine/FiringQuery", "<init>", "(Lcom/example/periodic_jobs/periodicjobs/engine/FiringStatus;Ljava/time/Instant;Ljava/time/Instant;ILjava/time/Instant;Lcom/example/periodic_jobs/periodicjobs/engine/FiringKind;Ljava/util/UUID;)V"⟩ : MethodName)) rfl hown (mvT hZ (hw _ (List.mem_of_getElem? (i := 9) rfl))) (mvT hZ (hw _ (List.mem_of_getElem? (i := 10) rfl))) (mvT hZ (hw _ (List.mem_of_getElem? (i := 11) rfl))) (by decide) (backOf (W := 0) (rm3 l Z a0 hw [] a h0 n0 Z0 F_status F_from F_to F_limit F_afterScheduledAt F_afterKind F_afterId E1 g1) hZ (hw _ (List.mem_of_getElem? (i := 11) rfl)) (hw _ (List.mem_of_getElem? (i := 2) rfl)) (by decide) (by decide)) (g := (mkF m 9 #[.val (.ref a), .val .null, .val .null, .val .null, .val (.int (100 : Int32))] [.null, .null, .null, (.int (100 : Int32)), .null, .null, .null, (.ref a)])) rfl (by rw [hml]; rfl) (Steps.refl _) (a := a) (argsL := [.null, .null, .null, (.int (100 : Int32)), .null, .null, .null]) (rest := []) (lenOf pd__Lcom_example_periodic_jobs_periodicjobs_engine_FiringStatus_Ljava_time_Instant_Ljava_time_Instant_ILjava_time_Instant_Lcom_example_periodic_jobs_periodicjobs_engine_FiringKind_Ljava_util_UUID__V rfl) rfl (by show 2 * 0 + _ ≤ _; exact Nat.le_of_eq rfl) (hb hby d2_9) (fun _ _ => ⟨rfl, e0, (by decide : 0 + 0 ≤ _), (by decide : 0 + 0 ≤ _)⟩)
  dsimp only [Pt.U, Pt.locs, Pt.cells, Pt.slots] at X1 l1 y1 z1 st1 hQ1
  subst l1 y1 z1
  obtain ⟨rfl, M2, K1, G1_0, G1_1, G1_2, G1_3, G1_4, G1_5, G1_6⟩ := hQ1
  have N2 := Fr.app N0 M2
  obtain ⟨h1, e1⟩ : ∃ z, T1.heap = z := ⟨_, rfl⟩
  rw [e1] at K1 G1_0 G1_1 G1_2 G1_3 G1_4 G1_5 G1_6
  have E3 : Exa Z h1 a "com/example/periodic_jobs/periodicjobs/engine/FiringQuery" := E1.keep K1
  have Z4 : n0 ≤ h1.size := Nat.le_trans Z0 K1.1
  have K5 : Keep h0 h1 [a] := K0.trans K1 (allS (Or.inl (List.mem_of_getElem? (i := 0) rfl)) all0)
  refine own_to (S' := T1.setTop (mkF m 12 #[.val (.ref a), .val .null, .val .null, .val .null, .val (.int (100 : Int32))] [])) st1 ?_
  obtain ⟨fs, hr, hrun, hended, hW, hsame⟩ := X1.leave (v := none) (fun _ => rfl)
  refine ⟨_, _, X1.returnOut hx Bd.returns (hb hby d2_12) hr, hrun, hended, _, _, rfl, ?_, ⟨_, rfl⟩, hW, hsame.mono (by decide) (by decide)⟩
  show Q2 Z a h0 n0 none T1.heap _
  rw [e1]
  exact ⟨rfl, N2, K5, G1_0, G1_1, G1_2, G1_3, G1_4, G1_5, G1_6⟩
theorem d1_0 : decode prog_15_method_3_code 0 = .ok (.new 2, 3) := by decide +kernel
theorem d1_3 : decode prog_15_method_3_code 3 = .ok (.dup, 1) := by decide +kernel
theorem d1_4 : decode prog_15_method_3_code 4 = .ok (.aconst_null, 1) := by decide +kernel
theorem d1_5 : decode prog_15_method_3_code 5 = .ok (.aconst_null, 1) := by decide +kernel
theorem d1_6 : decode prog_15_method_3_code 6 = .ok (.aconst_null, 1) := by decide +kernel
theorem d1_7 : decode prog_15_method_3_code 7 = .ok (.bipush 100, 2) := by decide +kernel
theorem pd__Lcom_example_periodic_jobs_periodicjobs_engine_FiringStatus_Ljava_time_Instant_Ljava_time_Instant_I_V : parseMethodDescriptor "(Lcom/example/periodic_jobs/periodicjobs/engine/FiringStatus;Ljava/time/Instant;Ljava/time/Instant;I)V" = some ⟨[.object "com/example/periodic_jobs/periodicjobs/engine/FiringStatus", .object "java/time/Instant", .object "java/time/Instant", .int], none⟩ := by decide +kernel
theorem d1_9 : decode prog_15_method_3_code 9 = .ok (.invokespecial 47, 3) := by decide +kernel
theorem d1_12 : decode prog_15_method_3_code 12 = .ok (.areturn, 1) := by decide +kernel
theorem ef1 (m : MethodId)  : entryFrame m #[] 0 = mkF m 0 #[] [] := by first | (simp [entryFrame, mkF, argsToLocals, Value.category]; done) | rfl
def Q1 (Z : State)  (h0 : Heap) (n0 : Nat) (v : Option Value) (h : Heap) (L : List Loc) : Prop := ∃ a, v = some (.ref a) ∧ Fr n0 L ∧ Keep h0 h [] ∧ Exa Z h a "com/example/periodic_jobs/periodicjobs/engine/FiringQuery" ∧ Fld Z h a "com/example/periodic_jobs/periodicjobs/engine/FiringQuery" "status" "Lcom/example/periodic_jobs/periodicjobs/engine/FiringStatus;" .null ∧ Fld Z h a "com/example/periodic_jobs/periodicjobs/engine/FiringQuery" "from" "Ljava/time/Instant;" .null ∧ Fld Z h a "com/example/periodic_jobs/periodicjobs/engine/FiringQuery" "to" "Ljava/time/Instant;" .null ∧ Fld Z h a "com/example/periodic_jobs/periodicjobs/engine/FiringQuery" "limit" "I" (.int (100 : Int32)) ∧ Fld Z h a "com/example/periodic_jobs/periodicjobs/engine/FiringQuery" "afterScheduledAt" "Ljava/time/Instant;" .null ∧ Fld Z h a "com/example/periodic_jobs/periodicjobs/engine/FiringQuery" "afterKind" "Lcom/example/periodic_jobs/periodicjobs/engine/FiringKind;" .null ∧ Fld Z h a "com/example/periodic_jobs/periodicjobs/engine/FiringQuery" "afterId" "Ljava/util/UUID;" .null
set_option maxRecDepth 65536 in
set_option maxHeartbeats 40000000 in
theorem rm1 (l : Launch) (Z : State) (a0 : Array Value) (hw : ∀ d ∈ tables_1, d.before a0 Z = true) (ws : List Jvm.Cond)  (h0 : Heap) (n0 : Nat) (Z0 : n0 ≤ h0.size)  :
    MetFree l (⟨"com/example/periodic_jobs/periodicjobs/engine/FiringQuery", "all", "()Lcom/example/periodic_jobs/periodicjobs/engine/FiringQuery;"⟩ : MethodName) (head1 (Jvm.Cond.code (⟨"com/example/periodic_jobs/periodicjobs/engine/FiringQuery", "all", "()Lcom/example/periodic_jobs/periodicjobs/engine/FiringQuery;"⟩ : MethodName) prog_15_method_3_code 0 ((Option.some (FieldType.object "com/example/periodic_jobs/periodicjobs/engine/FiringQuery"))) :: ws) ({ frames := 3, cells := 1, slots := 7, locals := 48 } : Room)) (fun aa U => aa = #[] ∧ Z.Warmed39 U.vm ∧ U.heap = h0) (fun _ _ _ _ _ => True) (fun _ U ou U' => ∃ v L, ou = .returned v ∧ Q1 Z  h0 n0 v U'.heap L ∧ FrameEnd U ou U' L ({ frames := 3, cells := 1, slots := 7, locals := 48 } : Room).cells ({ frames := 3, cells := 1, slots := 7, locals := 48 } : Room).slots) := by
  refine MetFree.of_bodySF (plainFor_of_name pn_com_example_periodic_jobs_periodicjobs_engine_FiringQuery) hisR ?_
  intro pg e s m args below meth c s₁ Bd hml0 hP hK
  obtain ⟨rfl, hZ, hh⟩ := hP
  have hx := Bd.exec
  have hby := Bd.bytes
  have hml : c.maxLocals = 0 := hml0
  have hown : s.vm.findClass "com/example/periodic_jobs/periodicjobs/engine/FiringQuery" = some m.cls := findClass_of_methodNamed Bd.named
  have hnm := (name_of_methodNamed Bd.named Bd.method).1
  have X0 : Stand pg l e ({ frames := 3, cells := 1, slots := 7, locals := 48 } : Room) s m #[] below meth c s₁ [] 0 0 := Stand.of_body Bd
  have e0 : s₁.heap = h0 := by rw [← hh, Bd.state]; rfl
  have N0 := Fr.nil n0
  have K0 : Keep h0 h0 [] := Keep.refl _ _
  show own_Go pg.tables e below (fun ou U' => ∃ v L, ou = .returned v ∧ Q1 Z  h0 n0 v U'.heap L ∧ FrameEnd s ou U' L ({ frames := 3, cells := 1, slots := 7, locals := 48 } : Room).cells ({ frames := 3, cells := 1, slots := 7, locals := 48 } : Room).slots) (s₁.setTop (entryFrame m #[] 0))
  refine own_go (S' := s₁.setTop (mkF m 0 #[] [])) (fun tg kk => castTop (ef1 m ) kk) ?_
  obtain ⟨T1, h1, X1, e1, Ex1, A1, D1, -, st1⟩ := newO X0 hx hZ hown (hw _ (List.mem_of_getElem? (i := 4) rfl)) (hw _ (List.mem_of_getElem? (i := 5) rfl)) (hw _ (List.mem_of_getElem? (i := 2) rfl)) e0 (g := (mkF m 0 #[] [])) rfl (hb hby d1_0) (by decide) (by decide)
  obtain ⟨a1, g1⟩ : ∃ z, z = h0.size := ⟨_, rfl⟩
  rw [← g1] at A1 D1 st1
  have q1 : n0 ≤ a1 := by rw [g1]; exact Z0
  have r1 : h0.size ≤ a1 := by rw [g1]; exact K0.1
  have Z2 : n0 ≤ h1.size := Nat.le_trans Z0 Ex1.1
  have K3 : Keep h0 h1 [] := K0.ext Ex1
  refine own_go (S' := T1.setTop (mkF m 3 #[] [(.ref a1)])) (st1) ?_
  have F1_status : Fld Z h1 a1 "com/example/periodic_jobs/periodicjobs/engine/FiringQuery" "status" "Lcom/example/periodic_jobs/periodicjobs/engine/FiringStatus;" .null := D1 (Or.inr (hw _ (List.mem_of_getElem? (i := 16) rfl))) (ty := .object "com/example/periodic_jobs/periodicjobs/engine/FiringStatus") (by decide)
  have F1_from : Fld Z h1 a1 "com/example/periodic_jobs/periodicjobs/engine/FiringQuery" "from" "Ljava/time/Instant;" .null := D1 (Or.inr (hw _ (List.mem_of_getElem? (i := 18) rfl))) (ty := .object "java/time/Instant") (by decide)
  have F1_to : Fld Z h1 a1 "com/example/periodic_jobs/periodicjobs/engine/FiringQuery" "to" "Ljava/time/Instant;" .null := D1 (Or.inr (hw _ (List.mem_of_getElem? (i := 20) rfl))) (ty := .object "java/time/Instant") (by decide)
  have F1_limit : Fld Z h1 a1 "com/example/periodic_jobs/periodicjobs/engine/FiringQuery" "limit" "I" (.int (0 : Int32)) := D1 (Or.inr (hw _ (List.mem_of_getElem? (i := 22) rfl))) (ty := .int) (by decide)
  have F1_afterScheduledAt : Fld Z h1 a1 "com/example/periodic_jobs/periodicjobs/engine/FiringQuery" "afterScheduledAt" "Ljava/time/Instant;" .null := D1 (Or.inr (hw _ (List.mem_of_getElem? (i := 24) rfl))) (ty := .object "java/time/Instant") (by decide)
  have F1_afterKind : Fld Z h1 a1 "com/example/periodic_jobs/periodicjobs/engine/FiringQuery" "afterKind" "Lcom/example/periodic_jobs/periodicjobs/engine/FiringKind;" .null := D1 (Or.inr (hw _ (List.mem_of_getElem? (i := 26) rfl))) (ty := .object "com/example/periodic_jobs/periodicjobs/engine/FiringKind") (by decide)
  have F1_afterId : Fld Z h1 a1 "com/example/periodic_jobs/periodicjobs/engine/FiringQuery" "afterId" "Ljava/util/UUID;" .null := D1 (Or.inr (hw _ (List.mem_of_getElem? (i := 28) rfl))) (ty := .object "java/util/UUID") (by decide)
  refine own_go (S' := T1.setTop (mkF m 4 #[] [(.ref a1), (.ref a1)])) (fun tg kk => XS.dup X1.here hx rfl (hb hby d1_3) rfl rfl kk) ?_
  refine own_go (S' := T1.setTop (mkF m 5 #[] [.null, (.ref a1), (.ref a1)])) (fun tg kk => XS.aconstNull X1.here hx rfl (hb hby d1_4) kk) ?_
  refine own_go (S' := T1.setTop (mkF m 6 #[] [.null, .null, (.ref a1), (.ref a1)])) (fun tg kk => XS.aconstNull X1.here hx rfl (hb hby d1_5) kk) ?_
  refine own_go (S' := T1.setTop (mkF m 7 #[] [.null, .null, .null, (.ref a1), (.ref a1)])) (fun tg kk => XS.aconstNull X1.here hx rfl (hb hby d1_6) kk) ?_
  refine own_go (S' := T1.setTop (mkF m 9 #[] [(.int (100 : Int32)), .null, .null, .null, (.ref a1), (.ref a1)])) (fun tg kk => XT.bipushV X1.here hx rfl (100 : Int32) (hb hby d1_7) (by decide) kk) ?_
  obtain ⟨v4, _, ⟨T4, L4, k4, n4⟩, -, X4, ⟨Lc4, hQ4, l4, y4, z4⟩, st4⟩ := X1.specialBack hx (y := (⟨"com/example/periodic_jobs/periodicjobs/engine/FiringQuery", "<init>", "(Lcom/example/periodic_jobs/periodicjobs/engine/FiringStatus;Ljava/time/Instant;Ljava/time/Instant;I)V"⟩ : MethodName)) rfl hown (mvT hZ (hw _ (List.mem_of_getElem? (i := 6) rfl))) (mvT hZ (hw _ (List.mem_of_getElem? (i := 7) rfl))) (mvT hZ (hw _ (List.mem_of_getElem? (i := 8) rfl))) (by decide) (backOf (W := 1) (rm2 l Z a0 hw [] a1 h1 n0 Z2 F1_status F1_from F1_to F1_limit F1_afterScheduledAt F1_afterKind F1_afterId A1 q1) hZ (hw _ (List.mem_of_getElem? (i := 8) rfl)) (hw _ (List.mem_of_getElem? (i := 2) rfl)) (by decide) (by decide)) (g := (mkF m 9 #[] [(.int (100 : Int32)), .null, .null, .null, (.ref a1), (.ref a1)])) rfl (by rw [hml]; rfl) (Steps.refl _) (a := a1) (argsL := [.null, .null, .null, (.int (100 : Int32))]) (rest := [(.ref a1)]) (lenOf pd__Lcom_example_periodic_jobs_periodicjobs_engine_FiringStatus_Ljava_time_Instant_Ljava_time_Instant_I_V rfl) rfl (by show 2 * 0 + _ ≤ _; exact Nat.le_of_eq rfl) (hb hby d1_9) (fun _ _ => ⟨rfl, e1, (by decide : 1 + 0 ≤ _), (by decide : 7 + 0 ≤ _)⟩)
  dsimp only [Pt.U, Pt.locs, Pt.cells, Pt.slots] at X4 l4 y4 z4 st4 hQ4
  subst l4 y4 z4
  obtain ⟨rfl, M5, K4, G4_0, G4_1, G4_2, G4_3, G4_4, G4_5, G4_6⟩ := hQ4
  have N5 := Fr.app N0 M5
  obtain ⟨h4, e4⟩ : ∃ z, T4.heap = z := ⟨_, rfl⟩
  rw [e4] at K4 G4_0 G4_1 G4_2 G4_3 G4_4 G4_5 G4_6
  have E6 : Exa Z h4 a1 "com/example/periodic_jobs/periodicjobs/engine/FiringQuery" := A1.keep K4
  have Z7 : n0 ≤ h4.size := Nat.le_trans Z2 K4.1
  have K8 : Keep h0 h4 [] := K3.trans K4 (allS (Or.inr r1) all0)
  refine own_to (S' := T4.setTop (mkF m 12 #[] [(.ref a1)])) st4 ?_
  obtain ⟨fs, hr, hrun, hended, hW, hsame⟩ := X4.leave (v := some (.ref a1)) (fun h => by rw [Bd.returns] at h; cases h)
  refine ⟨_, _, retOut X4 hx (i := .areturn) Bd.returns (own_narR rfl rfl) (Or.inr (Or.inr (Or.inr (Or.inr ⟨rfl, rfl, rfl⟩)))) (hb hby d1_12) hr, hrun, hended, _, _, rfl, ?_, ⟨_, rfl⟩, hW, hsame.mono (by decide) (by decide)⟩
  show Q1 Z  h0 n0 (some (.ref a1)) T4.heap _
  rw [e4]
  exact ⟨a1, rfl, N5, K8, E6, G4_0, G4_1, G4_2, G4_3, G4_4, G4_5, G4_6⟩
theorem d6_0 : decode jdk_32_method_4_code 0 = .ok (.aload_n 0, 1) := by decide +kernel
theorem d6_1 : decode jdk_32_method_4_code 1 = .ok (.ifnonnull 9, 3) := by decide +kernel
theorem d6_4 : decode jdk_32_method_4_code 4 = .ok (.getstatic 1, 3) := by decide +kernel
theorem d6_7 : decode jdk_32_method_4_code 7 = .ok (.goto 11, 3) := by decide +kernel
theorem d6_18 : decode jdk_32_method_4_code 18 = .ok (.areturn, 1) := by decide +kernel
theorem pn_java_util_Optional : plainName "java/util/Optional" = true := by first | (simp [plainName, overriddenIn]; done) | decide +kernel
theorem ef6n (m : MethodId)  : entryFrame m #[.null] 1 = mkF m 0 #[.val .null] [] := by first | (simp [entryFrame, mkF, argsToLocals, Value.category]; done) | rfl
def Q6n (Z : State) (em : Addr) (h0 : Heap) (n0 : Nat) (v : Option Value) (h : Heap) (L : List Loc) : Prop := v = some (.ref em) ∧ Fr n0 L ∧ h = h0
set_option maxRecDepth 65536 in
set_option maxHeartbeats 40000000 in
theorem rm6n (l : Launch) (Z : State) (a0 : Array Value) (hw : ∀ d ∈ tables_1, d.before a0 Z = true) (ws : List Jvm.Cond) (em : Addr) (h0 : Heap) (n0 : Nat) (Z0 : n0 ≤ h0.size) (O0 : Old Z n0 h0) (S_EMPTY : Sta Z Z.heap "java/util/Optional" "EMPTY" "Ljava/util/Optional;" (.ref em)) :
    MetFree l (⟨"java/util/Optional", "ofNullable", "(Ljava/lang/Object;)Ljava/util/Optional;"⟩ : MethodName) (head1 (Jvm.Cond.code (⟨"java/util/Optional", "ofNullable", "(Ljava/lang/Object;)Ljava/util/Optional;"⟩ : MethodName) jdk_32_method_4_code 1 ((Option.some (FieldType.object "java/util/Optional"))) :: ws) ({ frames := 0, cells := 0, slots := 0, locals := 0 } : Room)) (fun aa U => aa = #[.null] ∧ Z.Warmed39 U.vm ∧ U.heap = h0) (fun _ _ _ _ _ => True) (fun _ U ou U' => ∃ v L, ou = .returned v ∧ Q6n Z em h0 n0 v U'.heap L ∧ FrameEnd U ou U' L ({ frames := 0, cells := 0, slots := 0, locals := 0 } : Room).cells ({ frames := 0, cells := 0, slots := 0, locals := 0 } : Room).slots) := by
  refine MetFree.of_bodySF (plainFor_of_name pn_java_util_Optional) hisR ?_
  intro pg e s m args below meth c s₁ Bd hml0 hP hK
  obtain ⟨rfl, hZ, hh⟩ := hP
  have hx := Bd.exec
  have hby := Bd.bytes
  have hml : c.maxLocals = 1 := hml0
  have hown : s.vm.findClass "java/util/Optional" = some m.cls := findClass_of_methodNamed Bd.named
  have hnm := (name_of_methodNamed Bd.named Bd.method).1
  have X0 : Stand pg l e ({ frames := 0, cells := 0, slots := 0, locals := 0 } : Room) s m #[.null] below meth c s₁ [] 0 0 := Stand.of_body Bd
  have e0 : s₁.heap = h0 := by rw [← hh, Bd.state]; rfl
  have N0 := Fr.nil n0
  show own_Go pg.tables e below (fun ou U' => ∃ v L, ou = .returned v ∧ Q6n Z em h0 n0 v U'.heap L ∧ FrameEnd s ou U' L ({ frames := 0, cells := 0, slots := 0, locals := 0 } : Room).cells ({ frames := 0, cells := 0, slots := 0, locals := 0 } : Room).slots) (s₁.setTop (entryFrame m #[.null] 1))
  refine own_go (S' := s₁.setTop (mkF m 0 #[.val .null] [])) (fun tg kk => castTop (ef6n m ) kk) ?_
  refine own_go (S' := s₁.setTop (mkF m 1 #[.val .null] [.null])) (fun tg kk => XS.aloadN X0.here hx rfl (hb hby d6_0) rfl rfl kk) ?_
  refine own_go (S' := s₁.setTop (mkF m 4 #[.val .null] [])) (fun tg kk => XT.ifnonnullNo X0.here hx rfl (hb hby d6_1) rfl kk) ?_
  obtain ⟨T1, X1, e1, st1⟩ := getS (host := "") X0 hx hZ hown (hw _ (List.mem_of_getElem? (i := 38) rfl)) Via.refl e0 (S_EMPTY.ext O0.2) (g := (mkF m 4 #[.val .null] [])) rfl (hb hby d6_4)
  refine own_go (S' := T1.setTop (mkF m 7 #[.val .null] [(.ref em)])) (st1) ?_
  refine own_go (S' := T1.setTop (mkF m 18 #[.val .null] [(.ref em)])) (fun tg kk => XS.goto X1.here hx rfl (pc0 := 7) (pc' := 18) rfl (hb hby d6_7) (by decide) (by decide) kk) ?_
  obtain ⟨fs, hr, hrun, hended, hW, hsame⟩ := X1.leave (v := some (.ref em)) (fun h => by rw [Bd.returns] at h; cases h)
  refine ⟨_, _, retOut X1 hx (i := .areturn) Bd.returns (own_narR rfl rfl) (Or.inr (Or.inr (Or.inr (Or.inr ⟨rfl, rfl, rfl⟩)))) (hb hby d6_18) hr, hrun, hended, _, _, rfl, ?_, ⟨_, rfl⟩, hW, hsame.mono (by decide) (by decide)⟩
  show Q6n Z em h0 n0 (some (.ref em)) T1.heap _
  rw [e1]
  exact ⟨rfl, N0, rfl⟩
theorem d7_0 : decode jdk_32_method_6_code 0 = .ok (.aload_n 0, 1) := by decide +kernel
theorem d7_1 : decode jdk_32_method_6_code 1 = .ok (.getfield 13, 3) := by decide +kernel
theorem d7_4 : decode jdk_32_method_6_code 4 = .ok (.ifnull 7, 3) := by decide +kernel
theorem d7_11 : decode jdk_32_method_6_code 11 = .ok (.iconst 0, 1) := by decide +kernel
theorem d7_12 : decode jdk_32_method_6_code 12 = .ok (.ireturn, 1) := by decide +kernel
theorem ef7n (m : MethodId) (x0 : Addr) : entryFrame m #[(.ref x0)] 1 = mkF m 0 #[.val (.ref x0)] [] := by first | (simp [entryFrame, mkF, argsToLocals, Value.category]; done) | rfl
def Q7n (Z : State) (em : Addr) (h0 : Heap) (n0 : Nat) (v : Option Value) (h : Heap) (L : List Loc) : Prop := v = some (.int 0) ∧ Fr n0 L ∧ h = h0
set_option maxRecDepth 65536 in
set_option maxHeartbeats 40000000 in
theorem rm7n (l : Launch) (Z : State) (a0 : Array Value) (hw : ∀ d ∈ tables_1, d.before a0 Z = true) (ws : List Jvm.Cond) (em : Addr) (h0 : Heap) (n0 : Nat) (Z0 : n0 ≤ h0.size) (O0 : Old Z n0 h0) (F_EMPTY : Fld Z Z.heap em "java/util/Optional" "value" "Ljava/lang/Object;" .null) :
    MetFree l (⟨"java/util/Optional", "isPresent", "()Z"⟩ : MethodName) (head1 (Jvm.Cond.code (⟨"java/util/Optional", "isPresent", "()Z"⟩ : MethodName) jdk_32_method_6_code 1 ((Option.some FieldType.boolean)) :: ws) ({ frames := 0, cells := 0, slots := 0, locals := 0 } : Room)) (fun aa U => aa = #[(.ref em)] ∧ Z.Warmed39 U.vm ∧ U.heap = h0) (fun _ _ _ _ _ => True) (fun _ U ou U' => ∃ v L, ou = .returned v ∧ Q7n Z em h0 n0 v U'.heap L ∧ FrameEnd U ou U' L ({ frames := 0, cells := 0, slots := 0, locals := 0 } : Room).cells ({ frames := 0, cells := 0, slots := 0, locals := 0 } : Room).slots) := by
  refine MetFree.of_bodySF (plainFor_of_name pn_java_util_Optional) hisR ?_
  intro pg e s m args below meth c s₁ Bd hml0 hP hK
  obtain ⟨rfl, hZ, hh⟩ := hP
  have hx := Bd.exec
  have hby := Bd.bytes
  have hml : c.maxLocals = 1 := hml0
  have hown : s.vm.findClass "java/util/Optional" = some m.cls := findClass_of_methodNamed Bd.named
  have hnm := (name_of_methodNamed Bd.named Bd.method).1
  have X0 : Stand pg l e ({ frames := 0, cells := 0, slots := 0, locals := 0 } : Room) s m #[(.ref em)] below meth c s₁ [] 0 0 := Stand.of_body Bd
  have e0 : s₁.heap = h0 := by rw [← hh, Bd.state]; rfl
  have N0 := Fr.nil n0
  show own_Go pg.tables e below (fun ou U' => ∃ v L, ou = .returned v ∧ Q7n Z em h0 n0 v U'.heap L ∧ FrameEnd s ou U' L ({ frames := 0, cells := 0, slots := 0, locals := 0 } : Room).cells ({ frames := 0, cells := 0, slots := 0, locals := 0 } : Room).slots) (s₁.setTop (entryFrame m #[(.ref em)] 1))
  refine own_go (S' := s₁.setTop (mkF m 0 #[.val (.ref em)] [])) (fun tg kk => castTop (ef7n m em) kk) ?_
  refine own_go (S' := s₁.setTop (mkF m 1 #[.val (.ref em)] [(.ref em)])) (fun tg kk => XS.aloadN X0.here hx rfl (hb hby d7_0) rfl rfl kk) ?_
  obtain ⟨T1, X1, e1, st1⟩ := getF X0 hx hZ hown (host := "") (Or.inl (hw _ (List.mem_of_getElem? (i := 44) rfl))) Via.refl e0 (F_EMPTY.ext O0.2) (g := (mkF m 1 #[.val (.ref em)] [(.ref em)])) rfl rfl (hb hby d7_1)
  refine own_go (S' := T1.setTop (mkF m 4 #[.val (.ref em)] [.null])) (st1) ?_
  refine own_go (S' := T1.setTop (mkF m 11 #[.val (.ref em)] [])) (fun tg kk => XS.ifnullYes X1.here hx rfl (pc0 := 4) (pc' := 11) rfl (hb hby d7_4) rfl (by decide) (by decide) kk) ?_
  refine own_go (S' := T1.setTop (mkF m 12 #[.val (.ref em)] [(.int (0 : Int32))])) (fun tg kk => XT.iconstV X1.here hx rfl (0 : Int32) (hb hby d7_11) (by decide) kk) ?_
  obtain ⟨fs, hr, hrun, hended, hW, hsame⟩ := X1.leave (v := some (.int (0 : Int32))) (fun h => by rw [Bd.returns] at h; cases h)
  refine ⟨_, _, retN X1 hx (t := .boolean) Bd.returns (by simp) (hb hby d7_12) hr, hrun, hended, _, _, rfl, ?_, ⟨_, rfl⟩, hW, hsame.mono (by decide) (by decide)⟩
  show Q7n Z em h0 n0 (some (.int (0 : Int32))) T1.heap _
  rw [e1]
  exact ⟨rfl, N0, rfl⟩
theorem d5_0 : decode prog_15_method_5_code 0 = .ok (.aload_n 0, 1) := by decide +kernel
theorem d5_1 : decode prog_15_method_5_code 1 = .ok (.getfield 21, 3) := by decide +kernel
theorem pd__Ljava_lang_Object__Ljava_util_Optional_ : parseMethodDescriptor "(Ljava/lang/Object;)Ljava/util/Optional;" = some ⟨[.object "java/lang/Object"], some (.object "java/util/Optional")⟩ := by decide +kernel
theorem d5_4 : decode prog_15_method_5_code 4 = .ok (.invokestatic 134, 3) := by decide +kernel
theorem d5_7 : decode prog_15_method_5_code 7 = .ok (.areturn, 1) := by decide +kernel
theorem ef5 (m : MethodId) (x0 : Addr) : entryFrame m #[(.ref x0)] 1 = mkF m 0 #[.val (.ref x0)] [] := by first | (simp [entryFrame, mkF, argsToLocals, Value.category]; done) | rfl
def Q5 (Z : State) (a : Addr) (em : Addr) (h0 : Heap) (n0 : Nat) (v : Option Value) (h : Heap) (L : List Loc) : Prop := v = some (.ref em) ∧ Fr n0 L ∧ h = h0
set_option maxRecDepth 65536 in
set_option maxHeartbeats 40000000 in
theorem rm5 (l : Launch) (Z : State) (a0 : Array Value) (hw : ∀ d ∈ tables_1, d.before a0 Z = true) (ws : List Jvm.Cond) (a : Addr) (em : Addr) (h0 : Heap) (n0 : Nat) (Z0 : n0 ≤ h0.size) (O0 : Old Z n0 h0) (F1 : Fld Z h0 a "com/example/periodic_jobs/periodicjobs/engine/FiringQuery" "status" "Lcom/example/periodic_jobs/periodicjobs/engine/FiringStatus;" .null) (S_EMPTY : Sta Z Z.heap "java/util/Optional" "EMPTY" "Ljava/util/Optional;" (.ref em)) :
    MetFree l (⟨"com/example/periodic_jobs/periodicjobs/engine/FiringQuery", "getStatus", "()Ljava/util/Optional;"⟩ : MethodName) (head1 (Jvm.Cond.code (⟨"com/example/periodic_jobs/periodicjobs/engine/FiringQuery", "getStatus", "()Ljava/util/Optional;"⟩ : MethodName) prog_15_method_5_code 1 ((Option.some (FieldType.object "java/util/Optional"))) :: ws) ({ frames := 1, cells := 0, slots := 0, locals := 12 } : Room)) (fun aa U => aa = #[(.ref a)] ∧ Z.Warmed39 U.vm ∧ U.heap = h0) (fun _ _ _ _ _ => True) (fun _ U ou U' => ∃ v L, ou = .returned v ∧ Q5 Z a em h0 n0 v U'.heap L ∧ FrameEnd U ou U' L ({ frames := 1, cells := 0, slots := 0, locals := 12 } : Room).cells ({ frames := 1, cells := 0, slots := 0, locals := 12 } : Room).slots) := by
  refine MetFree.of_bodySF (plainFor_of_name pn_com_example_periodic_jobs_periodicjobs_engine_FiringQuery) hisR ?_
  intro pg e s m args below meth c s₁ Bd hml0 hP hK
  obtain ⟨rfl, hZ, hh⟩ := hP
  have hx := Bd.exec
  have hby := Bd.bytes
  have hml : c.maxLocals = 1 := hml0
  have hown : s.vm.findClass "com/example/periodic_jobs/periodicjobs/engine/FiringQuery" = some m.cls := findClass_of_methodNamed Bd.named
  have hnm := (name_of_methodNamed Bd.named Bd.method).1
  have X0 : Stand pg l e ({ frames := 1, cells := 0, slots := 0, locals := 12 } : Room) s m #[(.ref a)] below meth c s₁ [] 0 0 := Stand.of_body Bd
  have e0 : s₁.heap = h0 := by rw [← hh, Bd.state]; rfl
  have N0 := Fr.nil n0
  show own_Go pg.tables e below (fun ou U' => ∃ v L, ou = .returned v ∧ Q5 Z a em h0 n0 v U'.heap L ∧ FrameEnd s ou U' L ({ frames := 1, cells := 0, slots := 0, locals := 12 } : Room).cells ({ frames := 1, cells := 0, slots := 0, locals := 12 } : Room).slots) (s₁.setTop (entryFrame m #[(.ref a)] 1))
  refine own_go (S' := s₁.setTop (mkF m 0 #[.val (.ref a)] [])) (fun tg kk => castTop (ef5 m a) kk) ?_
  refine own_go (S' := s₁.setTop (mkF m 1 #[.val (.ref a)] [(.ref a)])) (fun tg kk => XS.aloadN X0.here hx rfl (hb hby d5_0) rfl rfl kk) ?_
  obtain ⟨T1, X1, e1, st1⟩ := getF X0 hx hZ hown (host := "") (Or.inl (hw _ (List.mem_of_getElem? (i := 15) rfl))) Via.refl e0 F1 (g := (mkF m 1 #[.val (.ref a)] [(.ref a)])) rfl rfl (hb hby d5_1)
  refine own_go (S' := T1.setTop (mkF m 4 #[.val (.ref a)] [.null])) (st1) ?_
  obtain ⟨v2, _, ⟨T2, L2, k2, n2⟩, -, X2, ⟨Lc2, hQ2, l2, y2, z2⟩, st2⟩ := Jvm.LawKit.callS X1 hx (y := (⟨"java/util/Optional", "ofNullable", "(Ljava/lang/Object;)Ljava/util/Optional;"⟩ : MethodName)) hown (mvT hZ (hw _ (List.mem_of_getElem? (i := 34) rfl))) (mvT hZ (hw _ (List.mem_of_getElem? (i := 35) rfl))) (mvT hZ (hw _ (List.mem_of_getElem? (i := 36) rfl))) (mvT hZ (hw _ (List.mem_of_getElem? (i := 37) rfl))) (by decide) (backOf (W := 0) (rm6n l Z a0 hw [] em h0 n0 Z0 O0 S_EMPTY) hZ (hw _ (List.mem_of_getElem? (i := 37) rfl)) (hw _ (List.mem_of_getElem? (i := 36) rfl)) (by decide) (by decide)) (g := (mkF m 4 #[.val (.ref a)] [.null])) rfl (by rw [hml]; rfl) (argsL := [.null]) (rest := []) (lenOf pd__Ljava_lang_Object__Ljava_util_Optional_ rfl) rfl (by show 2 * 0 + _ ≤ _; exact Nat.le_of_eq rfl) (hb hby d5_4) (fun _ _ => ⟨rfl, e1, (by decide : 0 + 0 ≤ _), (by decide : 0 + 0 ≤ _)⟩)
  dsimp only [Pt.U, Pt.locs, Pt.cells, Pt.slots] at X2 l2 y2 z2 st2 hQ2
  subst l2 y2 z2
  obtain ⟨rfl, M3, e2⟩ := hQ2
  have N3 := Fr.app N0 M3
  refine own_go (S' := T2.setTop (mkF m 7 #[.val (.ref a)] [(.ref em)])) st2 ?_
  obtain ⟨fs, hr, hrun, hended, hW, hsame⟩ := X2.leave (v := some (.ref em)) (fun h => by rw [Bd.returns] at h; cases h)
  refine ⟨_, _, retOut X2 hx (i := .areturn) Bd.returns (own_narR rfl rfl) (Or.inr (Or.inr (Or.inr (Or.inr ⟨rfl, rfl, rfl⟩)))) (hb hby d5_7) hr, hrun, hended, _, _, rfl, ?_, ⟨_, rfl⟩, hW, hsame.mono (by decide) (by decide)⟩
  show Q5 Z a em h0 n0 (some (.ref em)) T2.heap _
  rw [e2]
  exact ⟨rfl, N3, rfl⟩
theorem d8_0 : decode prog_15_method_6_code 0 = .ok (.aload_n 0, 1) := by decide +kernel
theorem d8_1 : decode prog_15_method_6_code 1 = .ok (.getfield 25, 3) := by decide +kernel
theorem d8_4 : decode prog_15_method_6_code 4 = .ok (.invokestatic 134, 3) := by decide +kernel
theorem d8_7 : decode prog_15_method_6_code 7 = .ok (.areturn, 1) := by decide +kernel
theorem ef8 (m : MethodId) (x0 : Addr) : entryFrame m #[(.ref x0)] 1 = mkF m 0 #[.val (.ref x0)] [] := by first | (simp [entryFrame, mkF, argsToLocals, Value.category]; done) | rfl
def Q8 (Z : State) (a : Addr) (em : Addr) (h0 : Heap) (n0 : Nat) (v : Option Value) (h : Heap) (L : List Loc) : Prop := v = some (.ref em) ∧ Fr n0 L ∧ h = h0
set_option maxRecDepth 65536 in
set_option maxHeartbeats 40000000 in
theorem rm8 (l : Launch) (Z : State) (a0 : Array Value) (hw : ∀ d ∈ tables_1, d.before a0 Z = true) (ws : List Jvm.Cond) (a : Addr) (em : Addr) (h0 : Heap) (n0 : Nat) (Z0 : n0 ≤ h0.size) (O0 : Old Z n0 h0) (F1 : Fld Z h0 a "com/example/periodic_jobs/periodicjobs/engine/FiringQuery" "from" "Ljava/time/Instant;" .null) (S_EMPTY : Sta Z Z.heap "java/util/Optional" "EMPTY" "Ljava/util/Optional;" (.ref em)) :
    MetFree l (⟨"com/example/periodic_jobs/periodicjobs/engine/FiringQuery", "getFrom", "()Ljava/util/Optional;"⟩ : MethodName) (head1 (Jvm.Cond.code (⟨"com/example/periodic_jobs/periodicjobs/engine/FiringQuery", "getFrom", "()Ljava/util/Optional;"⟩ : MethodName) prog_15_method_6_code 1 ((Option.some (FieldType.object "java/util/Optional"))) :: ws) ({ frames := 1, cells := 0, slots := 0, locals := 12 } : Room)) (fun aa U => aa = #[(.ref a)] ∧ Z.Warmed39 U.vm ∧ U.heap = h0) (fun _ _ _ _ _ => True) (fun _ U ou U' => ∃ v L, ou = .returned v ∧ Q8 Z a em h0 n0 v U'.heap L ∧ FrameEnd U ou U' L ({ frames := 1, cells := 0, slots := 0, locals := 12 } : Room).cells ({ frames := 1, cells := 0, slots := 0, locals := 12 } : Room).slots) := by
  refine MetFree.of_bodySF (plainFor_of_name pn_com_example_periodic_jobs_periodicjobs_engine_FiringQuery) hisR ?_
  intro pg e s m args below meth c s₁ Bd hml0 hP hK
  obtain ⟨rfl, hZ, hh⟩ := hP
  have hx := Bd.exec
  have hby := Bd.bytes
  have hml : c.maxLocals = 1 := hml0
  have hown : s.vm.findClass "com/example/periodic_jobs/periodicjobs/engine/FiringQuery" = some m.cls := findClass_of_methodNamed Bd.named
  have hnm := (name_of_methodNamed Bd.named Bd.method).1
  have X0 : Stand pg l e ({ frames := 1, cells := 0, slots := 0, locals := 12 } : Room) s m #[(.ref a)] below meth c s₁ [] 0 0 := Stand.of_body Bd
  have e0 : s₁.heap = h0 := by rw [← hh, Bd.state]; rfl
  have N0 := Fr.nil n0
  show own_Go pg.tables e below (fun ou U' => ∃ v L, ou = .returned v ∧ Q8 Z a em h0 n0 v U'.heap L ∧ FrameEnd s ou U' L ({ frames := 1, cells := 0, slots := 0, locals := 12 } : Room).cells ({ frames := 1, cells := 0, slots := 0, locals := 12 } : Room).slots) (s₁.setTop (entryFrame m #[(.ref a)] 1))
  refine own_go (S' := s₁.setTop (mkF m 0 #[.val (.ref a)] [])) (fun tg kk => castTop (ef8 m a) kk) ?_
  refine own_go (S' := s₁.setTop (mkF m 1 #[.val (.ref a)] [(.ref a)])) (fun tg kk => XS.aloadN X0.here hx rfl (hb hby d8_0) rfl rfl kk) ?_
  obtain ⟨T1, X1, e1, st1⟩ := getF X0 hx hZ hown (host := "") (Or.inl (hw _ (List.mem_of_getElem? (i := 17) rfl))) Via.refl e0 F1 (g := (mkF m 1 #[.val (.ref a)] [(.ref a)])) rfl rfl (hb hby d8_1)
  refine own_go (S' := T1.setTop (mkF m 4 #[.val (.ref a)] [.null])) (st1) ?_
  obtain ⟨v2, _, ⟨T2, L2, k2, n2⟩, -, X2, ⟨Lc2, hQ2, l2, y2, z2⟩, st2⟩ := Jvm.LawKit.callS X1 hx (y := (⟨"java/util/Optional", "ofNullable", "(Ljava/lang/Object;)Ljava/util/Optional;"⟩ : MethodName)) hown (mvT hZ (hw _ (List.mem_of_getElem? (i := 34) rfl))) (mvT hZ (hw _ (List.mem_of_getElem? (i := 35) rfl))) (mvT hZ (hw _ (List.mem_of_getElem? (i := 36) rfl))) (mvT hZ (hw _ (List.mem_of_getElem? (i := 37) rfl))) (by decide) (backOf (W := 0) (rm6n l Z a0 hw [] em h0 n0 Z0 O0 S_EMPTY) hZ (hw _ (List.mem_of_getElem? (i := 37) rfl)) (hw _ (List.mem_of_getElem? (i := 36) rfl)) (by decide) (by decide)) (g := (mkF m 4 #[.val (.ref a)] [.null])) rfl (by rw [hml]; rfl) (argsL := [.null]) (rest := []) (lenOf pd__Ljava_lang_Object__Ljava_util_Optional_ rfl) rfl (by show 2 * 0 + _ ≤ _; exact Nat.le_of_eq rfl) (hb hby d8_4) (fun _ _ => ⟨rfl, e1, (by decide : 0 + 0 ≤ _), (by decide : 0 + 0 ≤ _)⟩)
  dsimp only [Pt.U, Pt.locs, Pt.cells, Pt.slots] at X2 l2 y2 z2 st2 hQ2
  subst l2 y2 z2
  obtain ⟨rfl, M3, e2⟩ := hQ2
  have N3 := Fr.app N0 M3
  refine own_go (S' := T2.setTop (mkF m 7 #[.val (.ref a)] [(.ref em)])) st2 ?_
  obtain ⟨fs, hr, hrun, hended, hW, hsame⟩ := X2.leave (v := some (.ref em)) (fun h => by rw [Bd.returns] at h; cases h)
  refine ⟨_, _, retOut X2 hx (i := .areturn) Bd.returns (own_narR rfl rfl) (Or.inr (Or.inr (Or.inr (Or.inr ⟨rfl, rfl, rfl⟩)))) (hb hby d8_7) hr, hrun, hended, _, _, rfl, ?_, ⟨_, rfl⟩, hW, hsame.mono (by decide) (by decide)⟩
  show Q8 Z a em h0 n0 (some (.ref em)) T2.heap _
  rw [e2]
  exact ⟨rfl, N3, rfl⟩
theorem d9_0 : decode prog_15_method_7_code 0 = .ok (.aload_n 0, 1) := by decide +kernel
theorem d9_1 : decode prog_15_method_7_code 1 = .ok (.getfield 29, 3) := by decide +kernel
theorem d9_4 : decode prog_15_method_7_code 4 = .ok (.invokestatic 134, 3) := by decide +kernel
theorem d9_7 : decode prog_15_method_7_code 7 = .ok (.areturn, 1) := by decide +kernel
theorem ef9 (m : MethodId) (x0 : Addr) : entryFrame m #[(.ref x0)] 1 = mkF m 0 #[.val (.ref x0)] [] := by first | (simp [entryFrame, mkF, argsToLocals, Value.category]; done) | rfl
def Q9 (Z : State) (a : Addr) (em : Addr) (h0 : Heap) (n0 : Nat) (v : Option Value) (h : Heap) (L : List Loc) : Prop := v = some (.ref em) ∧ Fr n0 L ∧ h = h0
set_option maxRecDepth 65536 in
set_option maxHeartbeats 40000000 in
theorem rm9 (l : Launch) (Z : State) (a0 : Array Value) (hw : ∀ d ∈ tables_1, d.before a0 Z = true) (ws : List Jvm.Cond) (a : Addr) (em : Addr) (h0 : Heap) (n0 : Nat) (Z0 : n0 ≤ h0.size) (O0 : Old Z n0 h0) (F1 : Fld Z h0 a "com/example/periodic_jobs/periodicjobs/engine/FiringQuery" "to" "Ljava/time/Instant;" .null) (S_EMPTY : Sta Z Z.heap "java/util/Optional" "EMPTY" "Ljava/util/Optional;" (.ref em)) :
    MetFree l (⟨"com/example/periodic_jobs/periodicjobs/engine/FiringQuery", "getTo", "()Ljava/util/Optional;"⟩ : MethodName) (head1 (Jvm.Cond.code (⟨"com/example/periodic_jobs/periodicjobs/engine/FiringQuery", "getTo", "()Ljava/util/Optional;"⟩ : MethodName) prog_15_method_7_code 1 ((Option.some (FieldType.object "java/util/Optional"))) :: ws) ({ frames := 1, cells := 0, slots := 0, locals := 12 } : Room)) (fun aa U => aa = #[(.ref a)] ∧ Z.Warmed39 U.vm ∧ U.heap = h0) (fun _ _ _ _ _ => True) (fun _ U ou U' => ∃ v L, ou = .returned v ∧ Q9 Z a em h0 n0 v U'.heap L ∧ FrameEnd U ou U' L ({ frames := 1, cells := 0, slots := 0, locals := 12 } : Room).cells ({ frames := 1, cells := 0, slots := 0, locals := 12 } : Room).slots) := by
  refine MetFree.of_bodySF (plainFor_of_name pn_com_example_periodic_jobs_periodicjobs_engine_FiringQuery) hisR ?_
  intro pg e s m args below meth c s₁ Bd hml0 hP hK
  obtain ⟨rfl, hZ, hh⟩ := hP
  have hx := Bd.exec
  have hby := Bd.bytes
  have hml : c.maxLocals = 1 := hml0
  have hown : s.vm.findClass "com/example/periodic_jobs/periodicjobs/engine/FiringQuery" = some m.cls := findClass_of_methodNamed Bd.named
  have hnm := (name_of_methodNamed Bd.named Bd.method).1
  have X0 : Stand pg l e ({ frames := 1, cells := 0, slots := 0, locals := 12 } : Room) s m #[(.ref a)] below meth c s₁ [] 0 0 := Stand.of_body Bd
  have e0 : s₁.heap = h0 := by rw [← hh, Bd.state]; rfl
  have N0 := Fr.nil n0
  show own_Go pg.tables e below (fun ou U' => ∃ v L, ou = .returned v ∧ Q9 Z a em h0 n0 v U'.heap L ∧ FrameEnd s ou U' L ({ frames := 1, cells := 0, slots := 0, locals := 12 } : Room).cells ({ frames := 1, cells := 0, slots := 0, locals := 12 } : Room).slots) (s₁.setTop (entryFrame m #[(.ref a)] 1))
  refine own_go (S' := s₁.setTop (mkF m 0 #[.val (.ref a)] [])) (fun tg kk => castTop (ef9 m a) kk) ?_
  refine own_go (S' := s₁.setTop (mkF m 1 #[.val (.ref a)] [(.ref a)])) (fun tg kk => XS.aloadN X0.here hx rfl (hb hby d9_0) rfl rfl kk) ?_
  obtain ⟨T1, X1, e1, st1⟩ := getF X0 hx hZ hown (host := "") (Or.inl (hw _ (List.mem_of_getElem? (i := 19) rfl))) Via.refl e0 F1 (g := (mkF m 1 #[.val (.ref a)] [(.ref a)])) rfl rfl (hb hby d9_1)
  refine own_go (S' := T1.setTop (mkF m 4 #[.val (.ref a)] [.null])) (st1) ?_
  obtain ⟨v2, _, ⟨T2, L2, k2, n2⟩, -, X2, ⟨Lc2, hQ2, l2, y2, z2⟩, st2⟩ := Jvm.LawKit.callS X1 hx (y := (⟨"java/util/Optional", "ofNullable", "(Ljava/lang/Object;)Ljava/util/Optional;"⟩ : MethodName)) hown (mvT hZ (hw _ (List.mem_of_getElem? (i := 34) rfl))) (mvT hZ (hw _ (List.mem_of_getElem? (i := 35) rfl))) (mvT hZ (hw _ (List.mem_of_getElem? (i := 36) rfl))) (mvT hZ (hw _ (List.mem_of_getElem? (i := 37) rfl))) (by decide) (backOf (W := 0) (rm6n l Z a0 hw [] em h0 n0 Z0 O0 S_EMPTY) hZ (hw _ (List.mem_of_getElem? (i := 37) rfl)) (hw _ (List.mem_of_getElem? (i := 36) rfl)) (by decide) (by decide)) (g := (mkF m 4 #[.val (.ref a)] [.null])) rfl (by rw [hml]; rfl) (argsL := [.null]) (rest := []) (lenOf pd__Ljava_lang_Object__Ljava_util_Optional_ rfl) rfl (by show 2 * 0 + _ ≤ _; exact Nat.le_of_eq rfl) (hb hby d9_4) (fun _ _ => ⟨rfl, e1, (by decide : 0 + 0 ≤ _), (by decide : 0 + 0 ≤ _)⟩)
  dsimp only [Pt.U, Pt.locs, Pt.cells, Pt.slots] at X2 l2 y2 z2 st2 hQ2
  subst l2 y2 z2
  obtain ⟨rfl, M3, e2⟩ := hQ2
  have N3 := Fr.app N0 M3
  refine own_go (S' := T2.setTop (mkF m 7 #[.val (.ref a)] [(.ref em)])) st2 ?_
  obtain ⟨fs, hr, hrun, hended, hW, hsame⟩ := X2.leave (v := some (.ref em)) (fun h => by rw [Bd.returns] at h; cases h)
  refine ⟨_, _, retOut X2 hx (i := .areturn) Bd.returns (own_narR rfl rfl) (Or.inr (Or.inr (Or.inr (Or.inr ⟨rfl, rfl, rfl⟩)))) (hb hby d9_7) hr, hrun, hended, _, _, rfl, ?_, ⟨_, rfl⟩, hW, hsame.mono (by decide) (by decide)⟩
  show Q9 Z a em h0 n0 (some (.ref em)) T2.heap _
  rw [e2]
  exact ⟨rfl, N3, rfl⟩
theorem d10_0 : decode prog_15_method_8_code 0 = .ok (.aload_n 0, 1) := by decide +kernel
theorem d10_1 : decode prog_15_method_8_code 1 = .ok (.getfield 32, 3) := by decide +kernel
theorem d10_4 : decode prog_15_method_8_code 4 = .ok (.ireturn, 1) := by decide +kernel
theorem ef10 (m : MethodId) (x0 : Addr) : entryFrame m #[(.ref x0)] 1 = mkF m 0 #[.val (.ref x0)] [] := by first | (simp [entryFrame, mkF, argsToLocals, Value.category]; done) | rfl
def Q10 (Z : State) (a : Addr) (h0 : Heap) (n0 : Nat) (v : Option Value) (h : Heap) (L : List Loc) : Prop := v = some (.int (100 : Int32)) ∧ Fr n0 L ∧ h = h0
set_option maxRecDepth 65536 in
set_option maxHeartbeats 40000000 in
theorem rm10 (l : Launch) (Z : State) (a0 : Array Value) (hw : ∀ d ∈ tables_1, d.before a0 Z = true) (ws : List Jvm.Cond) (a : Addr) (h0 : Heap) (n0 : Nat) (Z0 : n0 ≤ h0.size) (F1 : Fld Z h0 a "com/example/periodic_jobs/periodicjobs/engine/FiringQuery" "limit" "I" (.int (100 : Int32))) :
    MetFree l (⟨"com/example/periodic_jobs/periodicjobs/engine/FiringQuery", "getLimit", "()I"⟩ : MethodName) (head1 (Jvm.Cond.code (⟨"com/example/periodic_jobs/periodicjobs/engine/FiringQuery", "getLimit", "()I"⟩ : MethodName) prog_15_method_8_code 1 ((Option.some FieldType.int)) :: ws) ({ frames := 0, cells := 0, slots := 0, locals := 0 } : Room)) (fun aa U => aa = #[(.ref a)] ∧ Z.Warmed39 U.vm ∧ U.heap = h0) (fun _ _ _ _ _ => True) (fun _ U ou U' => ∃ v L, ou = .returned v ∧ Q10 Z a h0 n0 v U'.heap L ∧ FrameEnd U ou U' L ({ frames := 0, cells := 0, slots := 0, locals := 0 } : Room).cells ({ frames := 0, cells := 0, slots := 0, locals := 0 } : Room).slots) := by
  refine MetFree.of_bodySF (plainFor_of_name pn_com_example_periodic_jobs_periodicjobs_engine_FiringQuery) hisR ?_
  intro pg e s m args below meth c s₁ Bd hml0 hP hK
  obtain ⟨rfl, hZ, hh⟩ := hP
  have hx := Bd.exec
  have hby := Bd.bytes
  have hml : c.maxLocals = 1 := hml0
  have hown : s.vm.findClass "com/example/periodic_jobs/periodicjobs/engine/FiringQuery" = some m.cls := findClass_of_methodNamed Bd.named
  have hnm := (name_of_methodNamed Bd.named Bd.method).1
  have X0 : Stand pg l e ({ frames := 0, cells := 0, slots := 0, locals := 0 } : Room) s m #[(.ref a)] below meth c s₁ [] 0 0 := Stand.of_body Bd
  have e0 : s₁.heap = h0 := by rw [← hh, Bd.state]; rfl
  have N0 := Fr.nil n0
  show own_Go pg.tables e below (fun ou U' => ∃ v L, ou = .returned v ∧ Q10 Z a h0 n0 v U'.heap L ∧ FrameEnd s ou U' L ({ frames := 0, cells := 0, slots := 0, locals := 0 } : Room).cells ({ frames := 0, cells := 0, slots := 0, locals := 0 } : Room).slots) (s₁.setTop (entryFrame m #[(.ref a)] 1))
  refine own_go (S' := s₁.setTop (mkF m 0 #[.val (.ref a)] [])) (fun tg kk => castTop (ef10 m a) kk) ?_
  refine own_go (S' := s₁.setTop (mkF m 1 #[.val (.ref a)] [(.ref a)])) (fun tg kk => XS.aloadN X0.here hx rfl (hb hby d10_0) rfl rfl kk) ?_
  obtain ⟨T1, X1, e1, st1⟩ := getF X0 hx hZ hown (host := "") (Or.inl (hw _ (List.mem_of_getElem? (i := 21) rfl))) Via.refl e0 F1 (g := (mkF m 1 #[.val (.ref a)] [(.ref a)])) rfl rfl (hb hby d10_1)
  refine own_go (S' := T1.setTop (mkF m 4 #[.val (.ref a)] [(.int (100 : Int32))])) (st1) ?_
  obtain ⟨fs, hr, hrun, hended, hW, hsame⟩ := X1.leave (v := some (.int (100 : Int32))) (fun h => by rw [Bd.returns] at h; cases h)
  refine ⟨_, _, retI X1 hx Bd.returns (hb hby d10_4) hr, hrun, hended, _, _, rfl, ?_, ⟨_, rfl⟩, hW, hsame.mono (by decide) (by decide)⟩
  show Q10 Z a h0 n0 (some (.int (100 : Int32))) T1.heap _
  rw [e1]
  exact ⟨rfl, N0, rfl⟩
theorem d11_0 : decode prog_15_method_11_code 0 = .ok (.aload_n 0, 1) := by decide +kernel
theorem d11_1 : decode prog_15_method_11_code 1 = .ok (.getfield 36, 3) := by decide +kernel
theorem d11_4 : decode prog_15_method_11_code 4 = .ok (.invokestatic 134, 3) := by decide +kernel
theorem d11_7 : decode prog_15_method_11_code 7 = .ok (.areturn, 1) := by decide +kernel
theorem ef11 (m : MethodId) (x0 : Addr) : entryFrame m #[(.ref x0)] 1 = mkF m 0 #[.val (.ref x0)] [] := by first | (simp [entryFrame, mkF, argsToLocals, Value.category]; done) | rfl
def Q11 (Z : State) (a : Addr) (em : Addr) (h0 : Heap) (n0 : Nat) (v : Option Value) (h : Heap) (L : List Loc) : Prop := v = some (.ref em) ∧ Fr n0 L ∧ h = h0
set_option maxRecDepth 65536 in
set_option maxHeartbeats 40000000 in
theorem rm11 (l : Launch) (Z : State) (a0 : Array Value) (hw : ∀ d ∈ tables_1, d.before a0 Z = true) (ws : List Jvm.Cond) (a : Addr) (em : Addr) (h0 : Heap) (n0 : Nat) (Z0 : n0 ≤ h0.size) (O0 : Old Z n0 h0) (F1 : Fld Z h0 a "com/example/periodic_jobs/periodicjobs/engine/FiringQuery" "afterScheduledAt" "Ljava/time/Instant;" .null) (S_EMPTY : Sta Z Z.heap "java/util/Optional" "EMPTY" "Ljava/util/Optional;" (.ref em)) :
    MetFree l (⟨"com/example/periodic_jobs/periodicjobs/engine/FiringQuery", "getAfterScheduledAt", "()Ljava/util/Optional;"⟩ : MethodName) (head1 (Jvm.Cond.code (⟨"com/example/periodic_jobs/periodicjobs/engine/FiringQuery", "getAfterScheduledAt", "()Ljava/util/Optional;"⟩ : MethodName) prog_15_method_11_code 1 ((Option.some (FieldType.object "java/util/Optional"))) :: ws) ({ frames := 1, cells := 0, slots := 0, locals := 12 } : Room)) (fun aa U => aa = #[(.ref a)] ∧ Z.Warmed39 U.vm ∧ U.heap = h0) (fun _ _ _ _ _ => True) (fun _ U ou U' => ∃ v L, ou = .returned v ∧ Q11 Z a em h0 n0 v U'.heap L ∧ FrameEnd U ou U' L ({ frames := 1, cells := 0, slots := 0, locals := 12 } : Room).cells ({ frames := 1, cells := 0, slots := 0, locals := 12 } : Room).slots) := by
  refine MetFree.of_bodySF (plainFor_of_name pn_com_example_periodic_jobs_periodicjobs_engine_FiringQuery) hisR ?_
  intro pg e s m args below meth c s₁ Bd hml0 hP hK
  obtain ⟨rfl, hZ, hh⟩ := hP
  have hx := Bd.exec
  have hby := Bd.bytes
  have hml : c.maxLocals = 1 := hml0
  have hown : s.vm.findClass "com/example/periodic_jobs/periodicjobs/engine/FiringQuery" = some m.cls := findClass_of_methodNamed Bd.named
  have hnm := (name_of_methodNamed Bd.named Bd.method).1
  have X0 : Stand pg l e ({ frames := 1, cells := 0, slots := 0, locals := 12 } : Room) s m #[(.ref a)] below meth c s₁ [] 0 0 := Stand.of_body Bd
  have e0 : s₁.heap = h0 := by rw [← hh, Bd.state]; rfl
  have N0 := Fr.nil n0
  show own_Go pg.tables e below (fun ou U' => ∃ v L, ou = .returned v ∧ Q11 Z a em h0 n0 v U'.heap L ∧ FrameEnd s ou U' L ({ frames := 1, cells := 0, slots := 0, locals := 12 } : Room).cells ({ frames := 1, cells := 0, slots := 0, locals := 12 } : Room).slots) (s₁.setTop (entryFrame m #[(.ref a)] 1))
  refine own_go (S' := s₁.setTop (mkF m 0 #[.val (.ref a)] [])) (fun tg kk => castTop (ef11 m a) kk) ?_
  refine own_go (S' := s₁.setTop (mkF m 1 #[.val (.ref a)] [(.ref a)])) (fun tg kk => XS.aloadN X0.here hx rfl (hb hby d11_0) rfl rfl kk) ?_
  obtain ⟨T1, X1, e1, st1⟩ := getF X0 hx hZ hown (host := "") (Or.inl (hw _ (List.mem_of_getElem? (i := 23) rfl))) Via.refl e0 F1 (g := (mkF m 1 #[.val (.ref a)] [(.ref a)])) rfl rfl (hb hby d11_1)
  refine own_go (S' := T1.setTop (mkF m 4 #[.val (.ref a)] [.null])) (st1) ?_
  obtain ⟨v2, _, ⟨T2, L2, k2, n2⟩, -, X2, ⟨Lc2, hQ2, l2, y2, z2⟩, st2⟩ := Jvm.LawKit.callS X1 hx (y := (⟨"java/util/Optional", "ofNullable", "(Ljava/lang/Object;)Ljava/util/Optional;"⟩ : MethodName)) hown (mvT hZ (hw _ (List.mem_of_getElem? (i := 34) rfl))) (mvT hZ (hw _ (List.mem_of_getElem? (i := 35) rfl))) (mvT hZ (hw _ (List.mem_of_getElem? (i := 36) rfl))) (mvT hZ (hw _ (List.mem_of_getElem? (i := 37) rfl))) (by decide) (backOf (W := 0) (rm6n l Z a0 hw [] em h0 n0 Z0 O0 S_EMPTY) hZ (hw _ (List.mem_of_getElem? (i := 37) rfl)) (hw _ (List.mem_of_getElem? (i := 36) rfl)) (by decide) (by decide)) (g := (mkF m 4 #[.val (.ref a)] [.null])) rfl (by rw [hml]; rfl) (argsL := [.null]) (rest := []) (lenOf pd__Ljava_lang_Object__Ljava_util_Optional_ rfl) rfl (by show 2 * 0 + _ ≤ _; exact Nat.le_of_eq rfl) (hb hby d11_4) (fun _ _ => ⟨rfl, e1, (by decide : 0 + 0 ≤ _), (by decide : 0 + 0 ≤ _)⟩)
  dsimp only [Pt.U, Pt.locs, Pt.cells, Pt.slots] at X2 l2 y2 z2 st2 hQ2
  subst l2 y2 z2
  obtain ⟨rfl, M3, e2⟩ := hQ2
  have N3 := Fr.app N0 M3
  refine own_go (S' := T2.setTop (mkF m 7 #[.val (.ref a)] [(.ref em)])) st2 ?_
  obtain ⟨fs, hr, hrun, hended, hW, hsame⟩ := X2.leave (v := some (.ref em)) (fun h => by rw [Bd.returns] at h; cases h)
  refine ⟨_, _, retOut X2 hx (i := .areturn) Bd.returns (own_narR rfl rfl) (Or.inr (Or.inr (Or.inr (Or.inr ⟨rfl, rfl, rfl⟩)))) (hb hby d11_7) hr, hrun, hended, _, _, rfl, ?_, ⟨_, rfl⟩, hW, hsame.mono (by decide) (by decide)⟩
  show Q11 Z a em h0 n0 (some (.ref em)) T2.heap _
  rw [e2]
  exact ⟨rfl, N3, rfl⟩
theorem d12_0 : decode prog_15_method_12_code 0 = .ok (.aload_n 0, 1) := by decide +kernel
theorem d12_1 : decode prog_15_method_12_code 1 = .ok (.getfield 39, 3) := by decide +kernel
theorem d12_4 : decode prog_15_method_12_code 4 = .ok (.areturn, 1) := by decide +kernel
theorem ef12 (m : MethodId) (x0 : Addr) : entryFrame m #[(.ref x0)] 1 = mkF m 0 #[.val (.ref x0)] [] := by first | (simp [entryFrame, mkF, argsToLocals, Value.category]; done) | rfl
def Q12 (Z : State) (a : Addr) (h0 : Heap) (n0 : Nat) (v : Option Value) (h : Heap) (L : List Loc) : Prop := v = some .null ∧ Fr n0 L ∧ h = h0
set_option maxRecDepth 65536 in
set_option maxHeartbeats 40000000 in
theorem rm12 (l : Launch) (Z : State) (a0 : Array Value) (hw : ∀ d ∈ tables_1, d.before a0 Z = true) (ws : List Jvm.Cond) (a : Addr) (h0 : Heap) (n0 : Nat) (Z0 : n0 ≤ h0.size) (F1 : Fld Z h0 a "com/example/periodic_jobs/periodicjobs/engine/FiringQuery" "afterKind" "Lcom/example/periodic_jobs/periodicjobs/engine/FiringKind;" .null) :
    MetFree l (⟨"com/example/periodic_jobs/periodicjobs/engine/FiringQuery", "getAfterKind", "()Lcom/example/periodic_jobs/periodicjobs/engine/FiringKind;"⟩ : MethodName) (head1 (Jvm.Cond.code (⟨"com/example/periodic_jobs/periodicjobs/engine/FiringQuery", "getAfterKind", "()Lcom/example/periodic_jobs/periodicjobs/engine/FiringKind;"⟩ : MethodName) prog_15_method_12_code 1 ((Option.some (FieldType.object "com/example/periodic_jobs/periodicjobs/engine/FiringKind"))) :: ws) ({ frames := 0, cells := 0, slots := 0, locals := 0 } : Room)) (fun aa U => aa = #[(.ref a)] ∧ Z.Warmed39 U.vm ∧ U.heap = h0) (fun _ _ _ _ _ => True) (fun _ U ou U' => ∃ v L, ou = .returned v ∧ Q12 Z a h0 n0 v U'.heap L ∧ FrameEnd U ou U' L ({ frames := 0, cells := 0, slots := 0, locals := 0 } : Room).cells ({ frames := 0, cells := 0, slots := 0, locals := 0 } : Room).slots) := by
  refine MetFree.of_bodySF (plainFor_of_name pn_com_example_periodic_jobs_periodicjobs_engine_FiringQuery) hisR ?_
  intro pg e s m args below meth c s₁ Bd hml0 hP hK
  obtain ⟨rfl, hZ, hh⟩ := hP
  have hx := Bd.exec
  have hby := Bd.bytes
  have hml : c.maxLocals = 1 := hml0
  have hown : s.vm.findClass "com/example/periodic_jobs/periodicjobs/engine/FiringQuery" = some m.cls := findClass_of_methodNamed Bd.named
  have hnm := (name_of_methodNamed Bd.named Bd.method).1
  have X0 : Stand pg l e ({ frames := 0, cells := 0, slots := 0, locals := 0 } : Room) s m #[(.ref a)] below meth c s₁ [] 0 0 := Stand.of_body Bd
  have e0 : s₁.heap = h0 := by rw [← hh, Bd.state]; rfl
  have N0 := Fr.nil n0
  show own_Go pg.tables e below (fun ou U' => ∃ v L, ou = .returned v ∧ Q12 Z a h0 n0 v U'.heap L ∧ FrameEnd s ou U' L ({ frames := 0, cells := 0, slots := 0, locals := 0 } : Room).cells ({ frames := 0, cells := 0, slots := 0, locals := 0 } : Room).slots) (s₁.setTop (entryFrame m #[(.ref a)] 1))
  refine own_go (S' := s₁.setTop (mkF m 0 #[.val (.ref a)] [])) (fun tg kk => castTop (ef12 m a) kk) ?_
  refine own_go (S' := s₁.setTop (mkF m 1 #[.val (.ref a)] [(.ref a)])) (fun tg kk => XS.aloadN X0.here hx rfl (hb hby d12_0) rfl rfl kk) ?_
  obtain ⟨T1, X1, e1, st1⟩ := getF X0 hx hZ hown (host := "") (Or.inl (hw _ (List.mem_of_getElem? (i := 25) rfl))) Via.refl e0 F1 (g := (mkF m 1 #[.val (.ref a)] [(.ref a)])) rfl rfl (hb hby d12_1)
  refine own_go (S' := T1.setTop (mkF m 4 #[.val (.ref a)] [.null])) (st1) ?_
  obtain ⟨fs, hr, hrun, hended, hW, hsame⟩ := X1.leave (v := some .null) (fun h => by rw [Bd.returns] at h; cases h)
  refine ⟨_, _, retOut X1 hx (i := .areturn) Bd.returns (own_narR rfl rfl) (Or.inr (Or.inr (Or.inr (Or.inr ⟨rfl, rfl, rfl⟩)))) (hb hby d12_4) hr, hrun, hended, _, _, rfl, ?_, ⟨_, rfl⟩, hW, hsame.mono (by decide) (by decide)⟩
  show Q12 Z a h0 n0 (some .null) T1.heap _
  rw [e1]
  exact ⟨rfl, N0, rfl⟩
theorem d13_0 : decode prog_15_method_13_code 0 = .ok (.aload_n 0, 1) := by decide +kernel
theorem d13_1 : decode prog_15_method_13_code 1 = .ok (.getfield 43, 3) := by decide +kernel
theorem d13_4 : decode prog_15_method_13_code 4 = .ok (.areturn, 1) := by decide +kernel
theorem ef13 (m : MethodId) (x0 : Addr) : entryFrame m #[(.ref x0)] 1 = mkF m 0 #[.val (.ref x0)] [] := by first | (simp [entryFrame, mkF, argsToLocals, Value.category]; done) | rfl
def Q13 (Z : State) (a : Addr) (h0 : Heap) (n0 : Nat) (v : Option Value) (h : Heap) (L : List Loc) : Prop := v = some .null ∧ Fr n0 L ∧ h = h0
set_option maxRecDepth 65536 in
set_option maxHeartbeats 40000000 in
theorem rm13 (l : Launch) (Z : State) (a0 : Array Value) (hw : ∀ d ∈ tables_1, d.before a0 Z = true) (ws : List Jvm.Cond) (a : Addr) (h0 : Heap) (n0 : Nat) (Z0 : n0 ≤ h0.size) (F1 : Fld Z h0 a "com/example/periodic_jobs/periodicjobs/engine/FiringQuery" "afterId" "Ljava/util/UUID;" .null) :
    MetFree l (⟨"com/example/periodic_jobs/periodicjobs/engine/FiringQuery", "getAfterId", "()Ljava/util/UUID;"⟩ : MethodName) (head1 (Jvm.Cond.code (⟨"com/example/periodic_jobs/periodicjobs/engine/FiringQuery", "getAfterId", "()Ljava/util/UUID;"⟩ : MethodName) prog_15_method_13_code 1 ((Option.some (FieldType.object "java/util/UUID"))) :: ws) ({ frames := 0, cells := 0, slots := 0, locals := 0 } : Room)) (fun aa U => aa = #[(.ref a)] ∧ Z.Warmed39 U.vm ∧ U.heap = h0) (fun _ _ _ _ _ => True) (fun _ U ou U' => ∃ v L, ou = .returned v ∧ Q13 Z a h0 n0 v U'.heap L ∧ FrameEnd U ou U' L ({ frames := 0, cells := 0, slots := 0, locals := 0 } : Room).cells ({ frames := 0, cells := 0, slots := 0, locals := 0 } : Room).slots) := by
  refine MetFree.of_bodySF (plainFor_of_name pn_com_example_periodic_jobs_periodicjobs_engine_FiringQuery) hisR ?_
  intro pg e s m args below meth c s₁ Bd hml0 hP hK
  obtain ⟨rfl, hZ, hh⟩ := hP
  have hx := Bd.exec
  have hby := Bd.bytes
  have hml : c.maxLocals = 1 := hml0
  have hown : s.vm.findClass "com/example/periodic_jobs/periodicjobs/engine/FiringQuery" = some m.cls := findClass_of_methodNamed Bd.named
  have hnm := (name_of_methodNamed Bd.named Bd.method).1
  have X0 : Stand pg l e ({ frames := 0, cells := 0, slots := 0, locals := 0 } : Room) s m #[(.ref a)] below meth c s₁ [] 0 0 := Stand.of_body Bd
  have e0 : s₁.heap = h0 := by rw [← hh, Bd.state]; rfl
  have N0 := Fr.nil n0
  show own_Go pg.tables e below (fun ou U' => ∃ v L, ou = .returned v ∧ Q13 Z a h0 n0 v U'.heap L ∧ FrameEnd s ou U' L ({ frames := 0, cells := 0, slots := 0, locals := 0 } : Room).cells ({ frames := 0, cells := 0, slots := 0, locals := 0 } : Room).slots) (s₁.setTop (entryFrame m #[(.ref a)] 1))
  refine own_go (S' := s₁.setTop (mkF m 0 #[.val (.ref a)] [])) (fun tg kk => castTop (ef13 m a) kk) ?_
  refine own_go (S' := s₁.setTop (mkF m 1 #[.val (.ref a)] [(.ref a)])) (fun tg kk => XS.aloadN X0.here hx rfl (hb hby d13_0) rfl rfl kk) ?_
  obtain ⟨T1, X1, e1, st1⟩ := getF X0 hx hZ hown (host := "") (Or.inl (hw _ (List.mem_of_getElem? (i := 27) rfl))) Via.refl e0 F1 (g := (mkF m 1 #[.val (.ref a)] [(.ref a)])) rfl rfl (hb hby d13_1)
  refine own_go (S' := T1.setTop (mkF m 4 #[.val (.ref a)] [.null])) (st1) ?_
  obtain ⟨fs, hr, hrun, hended, hW, hsame⟩ := X1.leave (v := some .null) (fun h => by rw [Bd.returns] at h; cases h)
  refine ⟨_, _, retOut X1 hx (i := .areturn) Bd.returns (own_narR rfl rfl) (Or.inr (Or.inr (Or.inr (Or.inr ⟨rfl, rfl, rfl⟩)))) (hb hby d13_4) hr, hrun, hended, _, _, rfl, ?_, ⟨_, rfl⟩, hW, hsame.mono (by decide) (by decide)⟩
  show Q13 Z a h0 n0 (some .null) T1.heap _
  rw [e1]
  exact ⟨rfl, N0, rfl⟩
theorem pd___Lcom_example_periodic_jobs_periodicjobs_engine_FiringQuery_ : parseMethodDescriptor "()Lcom/example/periodic_jobs/periodicjobs/engine/FiringQuery;" = some ⟨[], some (.object "com/example/periodic_jobs/periodicjobs/engine/FiringQuery")⟩ := by decide +kernel
theorem pd___Ljava_util_Optional_ : parseMethodDescriptor "()Ljava/util/Optional;" = some ⟨[], some (.object "java/util/Optional")⟩ := by decide +kernel
theorem pd___Z : parseMethodDescriptor "()Z" = some ⟨[], some .boolean⟩ := by decide +kernel
theorem pd___I : parseMethodDescriptor "()I" = some ⟨[], some .int⟩ := by decide +kernel
theorem pd___Lcom_example_periodic_jobs_periodicjobs_engine_FiringKind_ : parseMethodDescriptor "()Lcom/example/periodic_jobs/periodicjobs/engine/FiringKind;" = some ⟨[], some (.object "com/example/periodic_jobs/periodicjobs/engine/FiringKind")⟩ := by decide +kernel
theorem pd___Ljava_util_UUID_ : parseMethodDescriptor "()Ljava/util/UUID;" = some ⟨[], some (.object "java/util/UUID")⟩ := by decide +kernel
theorem pn_com_example_periodic_jobs_periodicjobs_engine_FiringQueryAllPinLaw : plainName "com/example/periodic_jobs/periodicjobs/engine/FiringQueryAllPinLaw" = true := by first | (simp [plainName, overriddenIn]; done) | decide +kernel
theorem ef0 (m : MethodId)  : entryFrame m #[] maxLocals = mkF m 0 #[.unset, .unset, .unset, .unset, .unset, .unset, .unset, .unset] [] := by first | (simp [entryFrame, mkF, argsToLocals, Value.category, maxLocals]; done) | rfl
def Q0 (Z : State) (em : Addr) (h0 : Heap) (n0 : Nat) (v : Option Value) (h : Heap) (L : List Loc) : Prop := v = some (.int 1) ∧ Fr n0 L
set_option maxRecDepth 65536 in
set_option maxHeartbeats 40000000 in
theorem rm0 (l : Launch) (Z : State) (a0 : Array Value) (hw : ∀ d ∈ tables_1, d.before a0 Z = true) (ws : List Jvm.Cond) (em : Addr) (h0 : Heap) (n0 : Nat) (Z0 : n0 ≤ h0.size) (O0 : Old Z n0 h0) (S_EMPTY : Sta Z Z.heap "java/util/Optional" "EMPTY" "Ljava/util/Optional;" (.ref em)) (E_EMPTY : Exa Z Z.heap em "java/util/Optional") (F_EMPTY : Fld Z Z.heap em "java/util/Optional" "value" "Ljava/lang/Object;" .null) :
    MetFree l x (head1 (Jvm.Cond.code x code maxLocals ret :: ws) room_1) (fun aa U => aa = #[] ∧ Z.Warmed39 U.vm ∧ U.heap = h0) (fun _ _ _ _ _ => True) (fun _ U ou U' => ∃ v L, ou = .returned v ∧ Q0 Z em h0 n0 v U'.heap L ∧ FrameEnd U ou U' L room_1.cells room_1.slots) := by
  refine MetFree.of_bodySF (plainFor_of_name pn_com_example_periodic_jobs_periodicjobs_engine_FiringQueryAllPinLaw) hisR ?_
  intro pg e s m args below meth c s₁ Bd hml0 hP hK
  obtain ⟨rfl, hZ, hh⟩ := hP
  have hx := Bd.exec
  have hby := Bd.bytes
  have hml : c.maxLocals = 8 := hml0
  have hown : s.vm.findClass "com/example/periodic_jobs/periodicjobs/engine/FiringQueryAllPinLaw" = some m.cls := findClass_of_methodNamed Bd.named
  have hnm := (name_of_methodNamed Bd.named Bd.method).1
  have X0 : Stand pg l e room_1 s m #[] below meth c s₁ [] 0 0 := Stand.of_body Bd
  have e0 : s₁.heap = h0 := by rw [← hh, Bd.state]; rfl
  have N0 := Fr.nil n0
  show own_Go pg.tables e below (fun ou U' => ∃ v L, ou = .returned v ∧ Q0 Z em h0 n0 v U'.heap L ∧ FrameEnd s ou U' L room_1.cells room_1.slots) (s₁.setTop (entryFrame m #[] maxLocals))
  refine own_go (S' := s₁.setTop (mkF m 0 #[.unset, .unset, .unset, .unset, .unset, .unset, .unset, .unset] [])) (fun tg kk => castTop (ef0 m ) kk) ?_
  obtain ⟨v1, _, ⟨T1, L1, k1, n1⟩, -, X1, ⟨Lc1, hQ1, l1, y1, z1⟩, st1⟩ := Jvm.LawKit.callS X0 hx (y := (⟨"com/example/periodic_jobs/periodicjobs/engine/FiringQuery", "all", "()Lcom/example/periodic_jobs/periodicjobs/engine/FiringQuery;"⟩ : MethodName)) hown (mvT hZ (hw _ (List.mem_of_getElem? (i := 0) rfl))) (mvT hZ (hw _ (List.mem_of_getElem? (i := 1) rfl))) (mvT hZ (hw _ (List.mem_of_getElem? (i := 2) rfl))) (mvT hZ (hw _ (List.mem_of_getElem? (i := 3) rfl))) (by decide) (backOf (W := 0) (rm1 l Z a0 hw [] h0 n0 Z0) hZ (hw _ (List.mem_of_getElem? (i := 3) rfl)) (hw _ (List.mem_of_getElem? (i := 2) rfl)) (by decide) (by decide)) (g := (mkF m 0 #[.unset, .unset, .unset, .unset, .unset, .unset, .unset, .unset] [])) rfl (by rw [hml]; rfl) (argsL := []) (rest := []) (lenOf pd___Lcom_example_periodic_jobs_periodicjobs_engine_FiringQuery_ rfl) rfl (by show 2 * 0 + _ ≤ _; exact Nat.le_of_eq rfl) (hb hby at_0) (fun _ _ => ⟨rfl, e0, (by decide : 0 + 1 ≤ _), (by decide : 0 + 7 ≤ _)⟩)
  dsimp only [Pt.U, Pt.locs, Pt.cells, Pt.slots] at X1 l1 y1 z1 st1 hQ1
  subst l1 y1 z1
  obtain ⟨b1, rfl, M2, K1, G1_0, G1_1, G1_2, G1_3, G1_4, G1_5, G1_6, G1_7⟩ := hQ1
  have N2 := Fr.app N0 M2
  obtain ⟨h1, e1⟩ : ∃ z, T1.heap = z := ⟨_, rfl⟩
  rw [e1] at K1 G1_0 G1_1 G1_2 G1_3 G1_4 G1_5 G1_6 G1_7
  have O3 : Old Z n0 h1 := O0.keep K1 all0
  have Z4 : n0 ≤ h1.size := Nat.le_trans Z0 K1.1
  refine own_go (S' := T1.setTop (mkF m 3 #[.unset, .unset, .unset, .unset, .unset, .unset, .unset, .unset] [(.ref b1)])) st1 ?_
  refine own_go (S' := T1.setTop (mkF m 4 #[.val (.ref b1), .unset, .unset, .unset, .unset, .unset, .unset, .unset] [])) (fun tg kk => XS.astoreN X1.here hx rfl (hb hby at_3) rfl rfl (l' := #[.val (.ref b1), .unset, .unset, .unset, .unset, .unset, .unset, .unset]) rfl kk) ?_
  refine own_go (S' := T1.setTop (mkF m 5 #[.val (.ref b1), .unset, .unset, .unset, .unset, .unset, .unset, .unset] [(.ref b1)])) (fun tg kk => XS.aloadN X1.here hx rfl (hb hby at_4) rfl rfl kk) ?_
  refine own_go (S' := T1.setTop (mkF m 10 #[.val (.ref b1), .unset, .unset, .unset, .unset, .unset, .unset, .unset] [])) (fun tg kk => XT.ifnonnullYes X1.here hx rfl (pc0 := 5) (pc' := 10) rfl (hb hby at_5) rfl (by decide) (by decide) kk) ?_
  refine own_go (S' := T1.setTop (mkF m 11 #[.val (.ref b1), .unset, .unset, .unset, .unset, .unset, .unset, .unset] [(.ref b1)])) (fun tg kk => XS.aloadN X1.here hx rfl (hb hby at_10) rfl rfl kk) ?_
  obtain ⟨cq5, kq5, qa5, qb5, qc5⟩ := isOf hZ e1 G1_0
  obtain ⟨v5, _, ⟨T5, L5, k5, n5⟩, -, X5, ⟨Lc5, hQ5, l5, y5, z5⟩, st5⟩ := X1.virtualBack hx (y := (⟨"com/example/periodic_jobs/periodicjobs/engine/FiringQuery", "getStatus", "()Ljava/util/Optional;"⟩ : MethodName)) (z := (⟨"com/example/periodic_jobs/periodicjobs/engine/FiringQuery", "getStatus", "()Ljava/util/Optional;"⟩ : MethodName)) hown (mvT hZ (hw _ (List.mem_of_getElem? (i := 29) rfl))) (mvT hZ (hw _ (List.mem_of_getElem? (i := 30) rfl))) (notFace_of_selects (args := #[]) (mvT hZ (hw _ (List.mem_of_getElem? (i := 32) rfl)))) (mvT hZ (hw _ (List.mem_of_getElem? (i := 32) rfl))) (mvT hZ (hw _ (List.mem_of_getElem? (i := 31) rfl))) (by decide) (backOf (W := 0) (rm5 l Z a0 hw [] b1 em h1 n0 Z4 O3 G1_1 S_EMPTY) hZ (hw _ (List.mem_of_getElem? (i := 33) rfl)) (hw _ (List.mem_of_getElem? (i := 2) rfl)) (by decide) (by decide)) qa5 qc5 (g := (mkF m 11 #[.val (.ref b1), .unset, .unset, .unset, .unset, .unset, .unset, .unset] [(.ref b1)])) rfl (by rw [hml]; rfl) (Steps.refl _) (argsL := []) (rest := []) (lenOf pd___Ljava_util_Optional_ rfl) rfl (by show 2 * 0 + _ ≤ _; exact Nat.le_of_eq rfl) (hb hby at_11) (fun _ _ => ⟨rfl, e1, (by decide : 1 + 0 ≤ _), (by decide : 7 + 0 ≤ _)⟩)
  dsimp only [Pt.U, Pt.locs, Pt.cells, Pt.slots] at X5 l5 y5 z5 st5 hQ5
  subst l5 y5 z5
  obtain ⟨rfl, M6, e5⟩ := hQ5
  have N6 := Fr.app N2 M6
  refine own_to (S' := T5.setTop (mkF m 14 #[.val (.ref b1), .unset, .unset, .unset, .unset, .unset, .unset, .unset] [(.ref em)])) st5 ?_
  obtain ⟨cq7, kq7, qa7, qb7, qc7⟩ := isOf hZ e5 (E_EMPTY.ext O3.2)
  obtain ⟨v7, _, ⟨T7, L7, k7, n7⟩, -, X7, ⟨Lc7, hQ7, l7, y7, z7⟩, st7⟩ := X5.virtualBack hx (y := (⟨"java/util/Optional", "isPresent", "()Z"⟩ : MethodName)) (z := (⟨"java/util/Optional", "isPresent", "()Z"⟩ : MethodName)) hown (mvT hZ (hw _ (List.mem_of_getElem? (i := 39) rfl))) (mvT hZ (hw _ (List.mem_of_getElem? (i := 40) rfl))) (notFace_of_selects (args := #[]) (mvT hZ (hw _ (List.mem_of_getElem? (i := 42) rfl)))) (mvT hZ (hw _ (List.mem_of_getElem? (i := 42) rfl))) (mvT hZ (hw _ (List.mem_of_getElem? (i := 41) rfl))) (by decide) (backOf (W := 0) (rm7n l Z a0 hw [] em h1 n0 Z4 O3 F_EMPTY) hZ (hw _ (List.mem_of_getElem? (i := 43) rfl)) (hw _ (List.mem_of_getElem? (i := 36) rfl)) (by decide) (by decide)) qa7 qc7 (g := (mkF m 14 #[.val (.ref b1), .unset, .unset, .unset, .unset, .unset, .unset, .unset] [(.ref em)])) rfl (by rw [hml]; rfl) (Steps.refl _) (argsL := []) (rest := []) (lenOf pd___Z rfl) rfl (by show 2 * 0 + _ ≤ _; exact Nat.le_of_eq rfl) (hb hby at_14) (fun _ _ => ⟨rfl, e5, (by decide : 1 + 0 ≤ _), (by decide : 7 + 0 ≤ _)⟩)
  dsimp only [Pt.U, Pt.locs, Pt.cells, Pt.slots] at X7 l7 y7 z7 st7 hQ7
  subst l7 y7 z7
  obtain ⟨rfl, M8, e7⟩ := hQ7
  have N8 := Fr.app N6 M8
  refine own_to (S' := T7.setTop (mkF m 17 #[.val (.ref b1), .unset, .unset, .unset, .unset, .unset, .unset, .unset] [(.int (0 : Int32))])) st7 ?_
  refine own_go (S' := T7.setTop (mkF m 20 #[.val (.ref b1), .unset, .unset, .unset, .unset, .unset, .unset, .unset] [])) (fun tg kk => XS.ifNo X7.here hx rfl (hb hby at_17) rfl (XT.i0_ne_f (by decide)) kk) ?_
  refine own_go (S' := T7.setTop (mkF m 21 #[.val (.ref b1), .unset, .unset, .unset, .unset, .unset, .unset, .unset] [(.int (1 : Int32))])) (fun tg kk => XT.iconstV X7.here hx rfl (1 : Int32) (hb hby at_20) (by decide) kk) ?_
  refine own_go (S' := T7.setTop (mkF m 25 #[.val (.ref b1), .unset, .unset, .unset, .unset, .unset, .unset, .unset] [(.int (1 : Int32))])) (fun tg kk => XS.goto X7.here hx rfl (pc0 := 21) (pc' := 25) rfl (hb hby at_21) (by decide) (by decide) kk) ?_
  refine own_go (S' := T7.setTop (mkF m 26 #[.val (.ref b1), .val (.int (1 : Int32)), .unset, .unset, .unset, .unset, .unset, .unset] [])) (fun tg kk => XS.istoreN X7.here hx rfl (hb hby at_25) rfl (l' := #[.val (.ref b1), .val (.int (1 : Int32)), .unset, .unset, .unset, .unset, .unset, .unset]) rfl kk) ?_
  refine own_go (S' := T7.setTop (mkF m 27 #[.val (.ref b1), .val (.int (1 : Int32)), .unset, .unset, .unset, .unset, .unset, .unset] [(.ref b1)])) (fun tg kk => XS.aloadN X7.here hx rfl (hb hby at_26) rfl rfl kk) ?_
  obtain ⟨cq9, kq9, qa9, qb9, qc9⟩ := isOf hZ e7 G1_0
  obtain ⟨v9, _, ⟨T9, L9, k9, n9⟩, -, X9, ⟨Lc9, hQ9, l9, y9, z9⟩, st9⟩ := X7.virtualBack hx (y := (⟨"com/example/periodic_jobs/periodicjobs/engine/FiringQuery", "getFrom", "()Ljava/util/Optional;"⟩ : MethodName)) (z := (⟨"com/example/periodic_jobs/periodicjobs/engine/FiringQuery", "getFrom", "()Ljava/util/Optional;"⟩ : MethodName)) hown (mvT hZ (hw _ (List.mem_of_getElem? (i := 46) rfl))) (mvT hZ (hw _ (List.mem_of_getElem? (i := 47) rfl))) (notFace_of_selects (args := #[]) (mvT hZ (hw _ (List.mem_of_getElem? (i := 49) rfl)))) (mvT hZ (hw _ (List.mem_of_getElem? (i := 49) rfl))) (mvT hZ (hw _ (List.mem_of_getElem? (i := 48) rfl))) (by decide) (backOf (W := 0) (rm8 l Z a0 hw [] b1 em h1 n0 Z4 O3 G1_2 S_EMPTY) hZ (hw _ (List.mem_of_getElem? (i := 50) rfl)) (hw _ (List.mem_of_getElem? (i := 2) rfl)) (by decide) (by decide)) qa9 qc9 (g := (mkF m 27 #[.val (.ref b1), .val (.int (1 : Int32)), .unset, .unset, .unset, .unset, .unset, .unset] [(.ref b1)])) rfl (by rw [hml]; rfl) (Steps.refl _) (argsL := []) (rest := []) (lenOf pd___Ljava_util_Optional_ rfl) rfl (by show 2 * 0 + _ ≤ _; exact Nat.le_of_eq rfl) (hb hby at_27) (fun _ _ => ⟨rfl, e7, (by decide : 1 + 0 ≤ _), (by decide : 7 + 0 ≤ _)⟩)
  dsimp only [Pt.U, Pt.locs, Pt.cells, Pt.slots] at X9 l9 y9 z9 st9 hQ9
  subst l9 y9 z9
  obtain ⟨rfl, M10, e9⟩ := hQ9
  have N10 := Fr.app N8 M10
  refine own_to (S' := T9.setTop (mkF m 30 #[.val (.ref b1), .val (.int (1 : Int32)), .unset, .unset, .unset, .unset, .unset, .unset] [(.ref em)])) st9 ?_
  obtain ⟨cq11, kq11, qa11, qb11, qc11⟩ := isOf hZ e9 (E_EMPTY.ext O3.2)
  obtain ⟨v11, _, ⟨T11, L11, k11, n11⟩, -, X11, ⟨Lc11, hQ11, l11, y11, z11⟩, st11⟩ := X9.virtualBack hx (y := (⟨"java/util/Optional", "isPresent", "()Z"⟩ : MethodName)) (z := (⟨"java/util/Optional", "isPresent", "()Z"⟩ : MethodName)) hown (mvT hZ (hw _ (List.mem_of_getElem? (i := 39) rfl))) (mvT hZ (hw _ (List.mem_of_getElem? (i := 40) rfl))) (notFace_of_selects (args := #[]) (mvT hZ (hw _ (List.mem_of_getElem? (i := 42) rfl)))) (mvT hZ (hw _ (List.mem_of_getElem? (i := 42) rfl))) (mvT hZ (hw _ (List.mem_of_getElem? (i := 41) rfl))) (by decide) (backOf (W := 0) (rm7n l Z a0 hw [] em h1 n0 Z4 O3 F_EMPTY) hZ (hw _ (List.mem_of_getElem? (i := 43) rfl)) (hw _ (List.mem_of_getElem? (i := 36) rfl)) (by decide) (by decide)) qa11 qc11 (g := (mkF m 30 #[.val (.ref b1), .val (.int (1 : Int32)), .unset, .unset, .unset, .unset, .unset, .unset] [(.ref em)])) rfl (by rw [hml]; rfl) (Steps.refl _) (argsL := []) (rest := []) (lenOf pd___Z rfl) rfl (by show 2 * 0 + _ ≤ _; exact Nat.le_of_eq rfl) (hb hby at_30) (fun _ _ => ⟨rfl, e9, (by decide : 1 + 0 ≤ _), (by decide : 7 + 0 ≤ _)⟩)
  dsimp only [Pt.U, Pt.locs, Pt.cells, Pt.slots] at X11 l11 y11 z11 st11 hQ11
  subst l11 y11 z11
  obtain ⟨rfl, M12, e11⟩ := hQ11
  have N12 := Fr.app N10 M12
  refine own_to (S' := T11.setTop (mkF m 33 #[.val (.ref b1), .val (.int (1 : Int32)), .unset, .unset, .unset, .unset, .unset, .unset] [(.int (0 : Int32))])) st11 ?_
  refine own_go (S' := T11.setTop (mkF m 36 #[.val (.ref b1), .val (.int (1 : Int32)), .unset, .unset, .unset, .unset, .unset, .unset] [])) (fun tg kk => XS.ifNo X11.here hx rfl (hb hby at_33) rfl (XT.i0_ne_f (by decide)) kk) ?_
  refine own_go (S' := T11.setTop (mkF m 37 #[.val (.ref b1), .val (.int (1 : Int32)), .unset, .unset, .unset, .unset, .unset, .unset] [(.int (1 : Int32))])) (fun tg kk => XT.iconstV X11.here hx rfl (1 : Int32) (hb hby at_36) (by decide) kk) ?_
  refine own_go (S' := T11.setTop (mkF m 41 #[.val (.ref b1), .val (.int (1 : Int32)), .unset, .unset, .unset, .unset, .unset, .unset] [(.int (1 : Int32))])) (fun tg kk => XS.goto X11.here hx rfl (pc0 := 37) (pc' := 41) rfl (hb hby at_37) (by decide) (by decide) kk) ?_
  refine own_go (S' := T11.setTop (mkF m 42 #[.val (.ref b1), .val (.int (1 : Int32)), .val (.int (1 : Int32)), .unset, .unset, .unset, .unset, .unset] [])) (fun tg kk => XS.istoreN X11.here hx rfl (hb hby at_41) rfl (l' := #[.val (.ref b1), .val (.int (1 : Int32)), .val (.int (1 : Int32)), .unset, .unset, .unset, .unset, .unset]) rfl kk) ?_
  refine own_go (S' := T11.setTop (mkF m 43 #[.val (.ref b1), .val (.int (1 : Int32)), .val (.int (1 : Int32)), .unset, .unset, .unset, .unset, .unset] [(.ref b1)])) (fun tg kk => XS.aloadN X11.here hx rfl (hb hby at_42) rfl rfl kk) ?_
  obtain ⟨cq13, kq13, qa13, qb13, qc13⟩ := isOf hZ e11 G1_0
  obtain ⟨v13, _, ⟨T13, L13, k13, n13⟩, -, X13, ⟨Lc13, hQ13, l13, y13, z13⟩, st13⟩ := X11.virtualBack hx (y := (⟨"com/example/periodic_jobs/periodicjobs/engine/FiringQuery", "getTo", "()Ljava/util/Optional;"⟩ : MethodName)) (z := (⟨"com/example/periodic_jobs/periodicjobs/engine/FiringQuery", "getTo", "()Ljava/util/Optional;"⟩ : MethodName)) hown (mvT hZ (hw _ (List.mem_of_getElem? (i := 51) rfl))) (mvT hZ (hw _ (List.mem_of_getElem? (i := 52) rfl))) (notFace_of_selects (args := #[]) (mvT hZ (hw _ (List.mem_of_getElem? (i := 54) rfl)))) (mvT hZ (hw _ (List.mem_of_getElem? (i := 54) rfl))) (mvT hZ (hw _ (List.mem_of_getElem? (i := 53) rfl))) (by decide) (backOf (W := 0) (rm9 l Z a0 hw [] b1 em h1 n0 Z4 O3 G1_3 S_EMPTY) hZ (hw _ (List.mem_of_getElem? (i := 55) rfl)) (hw _ (List.mem_of_getElem? (i := 2) rfl)) (by decide) (by decide)) qa13 qc13 (g := (mkF m 43 #[.val (.ref b1), .val (.int (1 : Int32)), .val (.int (1 : Int32)), .unset, .unset, .unset, .unset, .unset] [(.ref b1)])) rfl (by rw [hml]; rfl) (Steps.refl _) (argsL := []) (rest := []) (lenOf pd___Ljava_util_Optional_ rfl) rfl (by show 2 * 0 + _ ≤ _; exact Nat.le_of_eq rfl) (hb hby at_43) (fun _ _ => ⟨rfl, e11, (by decide : 1 + 0 ≤ _), (by decide : 7 + 0 ≤ _)⟩)
  dsimp only [Pt.U, Pt.locs, Pt.cells, Pt.slots] at X13 l13 y13 z13 st13 hQ13
  subst l13 y13 z13
  obtain ⟨rfl, M14, e13⟩ := hQ13
  have N14 := Fr.app N12 M14
  refine own_to (S' := T13.setTop (mkF m 46 #[.val (.ref b1), .val (.int (1 : Int32)), .val (.int (1 : Int32)), .unset, .unset, .unset, .unset, .unset] [(.ref em)])) st13 ?_
  obtain ⟨cq15, kq15, qa15, qb15, qc15⟩ := isOf hZ e13 (E_EMPTY.ext O3.2)
  obtain ⟨v15, _, ⟨T15, L15, k15, n15⟩, -, X15, ⟨Lc15, hQ15, l15, y15, z15⟩, st15⟩ := X13.virtualBack hx (y := (⟨"java/util/Optional", "isPresent", "()Z"⟩ : MethodName)) (z := (⟨"java/util/Optional", "isPresent", "()Z"⟩ : MethodName)) hown (mvT hZ (hw _ (List.mem_of_getElem? (i := 39) rfl))) (mvT hZ (hw _ (List.mem_of_getElem? (i := 40) rfl))) (notFace_of_selects (args := #[]) (mvT hZ (hw _ (List.mem_of_getElem? (i := 42) rfl)))) (mvT hZ (hw _ (List.mem_of_getElem? (i := 42) rfl))) (mvT hZ (hw _ (List.mem_of_getElem? (i := 41) rfl))) (by decide) (backOf (W := 0) (rm7n l Z a0 hw [] em h1 n0 Z4 O3 F_EMPTY) hZ (hw _ (List.mem_of_getElem? (i := 43) rfl)) (hw _ (List.mem_of_getElem? (i := 36) rfl)) (by decide) (by decide)) qa15 qc15 (g := (mkF m 46 #[.val (.ref b1), .val (.int (1 : Int32)), .val (.int (1 : Int32)), .unset, .unset, .unset, .unset, .unset] [(.ref em)])) rfl (by rw [hml]; rfl) (Steps.refl _) (argsL := []) (rest := []) (lenOf pd___Z rfl) rfl (by show 2 * 0 + _ ≤ _; exact Nat.le_of_eq rfl) (hb hby at_46) (fun _ _ => ⟨rfl, e13, (by decide : 1 + 0 ≤ _), (by decide : 7 + 0 ≤ _)⟩)
  dsimp only [Pt.U, Pt.locs, Pt.cells, Pt.slots] at X15 l15 y15 z15 st15 hQ15
  subst l15 y15 z15
  obtain ⟨rfl, M16, e15⟩ := hQ15
  have N16 := Fr.app N14 M16
  refine own_to (S' := T15.setTop (mkF m 49 #[.val (.ref b1), .val (.int (1 : Int32)), .val (.int (1 : Int32)), .unset, .unset, .unset, .unset, .unset] [(.int (0 : Int32))])) st15 ?_
  refine own_go (S' := T15.setTop (mkF m 52 #[.val (.ref b1), .val (.int (1 : Int32)), .val (.int (1 : Int32)), .unset, .unset, .unset, .unset, .unset] [])) (fun tg kk => XS.ifNo X15.here hx rfl (hb hby at_49) rfl (XT.i0_ne_f (by decide)) kk) ?_
  refine own_go (S' := T15.setTop (mkF m 53 #[.val (.ref b1), .val (.int (1 : Int32)), .val (.int (1 : Int32)), .unset, .unset, .unset, .unset, .unset] [(.int (1 : Int32))])) (fun tg kk => XT.iconstV X15.here hx rfl (1 : Int32) (hb hby at_52) (by decide) kk) ?_
  refine own_go (S' := T15.setTop (mkF m 57 #[.val (.ref b1), .val (.int (1 : Int32)), .val (.int (1 : Int32)), .unset, .unset, .unset, .unset, .unset] [(.int (1 : Int32))])) (fun tg kk => XS.goto X15.here hx rfl (pc0 := 53) (pc' := 57) rfl (hb hby at_53) (by decide) (by decide) kk) ?_
  refine own_go (S' := T15.setTop (mkF m 58 #[.val (.ref b1), .val (.int (1 : Int32)), .val (.int (1 : Int32)), .val (.int (1 : Int32)), .unset, .unset, .unset, .unset] [])) (fun tg kk => XS.istoreN X15.here hx rfl (hb hby at_57) rfl (l' := #[.val (.ref b1), .val (.int (1 : Int32)), .val (.int (1 : Int32)), .val (.int (1 : Int32)), .unset, .unset, .unset, .unset]) rfl kk) ?_
  refine own_go (S' := T15.setTop (mkF m 59 #[.val (.ref b1), .val (.int (1 : Int32)), .val (.int (1 : Int32)), .val (.int (1 : Int32)), .unset, .unset, .unset, .unset] [(.ref b1)])) (fun tg kk => XS.aloadN X15.here hx rfl (hb hby at_58) rfl rfl kk) ?_
  obtain ⟨cq17, kq17, qa17, qb17, qc17⟩ := isOf hZ e15 G1_0
  obtain ⟨v17, _, ⟨T17, L17, k17, n17⟩, -, X17, ⟨Lc17, hQ17, l17, y17, z17⟩, st17⟩ := X15.virtualBack hx (y := (⟨"com/example/periodic_jobs/periodicjobs/engine/FiringQuery", "getLimit", "()I"⟩ : MethodName)) (z := (⟨"com/example/periodic_jobs/periodicjobs/engine/FiringQuery", "getLimit", "()I"⟩ : MethodName)) hown (mvT hZ (hw _ (List.mem_of_getElem? (i := 56) rfl))) (mvT hZ (hw _ (List.mem_of_getElem? (i := 57) rfl))) (notFace_of_selects (args := #[]) (mvT hZ (hw _ (List.mem_of_getElem? (i := 59) rfl)))) (mvT hZ (hw _ (List.mem_of_getElem? (i := 59) rfl))) (mvT hZ (hw _ (List.mem_of_getElem? (i := 58) rfl))) (by decide) (backOf (W := 0) (rm10 l Z a0 hw [] b1 h1 n0 Z4 G1_4) hZ (hw _ (List.mem_of_getElem? (i := 60) rfl)) (hw _ (List.mem_of_getElem? (i := 2) rfl)) (by decide) (by decide)) qa17 qc17 (g := (mkF m 59 #[.val (.ref b1), .val (.int (1 : Int32)), .val (.int (1 : Int32)), .val (.int (1 : Int32)), .unset, .unset, .unset, .unset] [(.ref b1)])) rfl (by rw [hml]; rfl) (Steps.refl _) (argsL := []) (rest := []) (lenOf pd___I rfl) rfl (by show 2 * 0 + _ ≤ _; exact Nat.le_of_eq rfl) (hb hby at_59) (fun _ _ => ⟨rfl, e15, (by decide : 1 + 0 ≤ _), (by decide : 7 + 0 ≤ _)⟩)
  dsimp only [Pt.U, Pt.locs, Pt.cells, Pt.slots] at X17 l17 y17 z17 st17 hQ17
  subst l17 y17 z17
  obtain ⟨rfl, M18, e17⟩ := hQ17
  have N18 := Fr.app N16 M18
  refine own_to (S' := T17.setTop (mkF m 62 #[.val (.ref b1), .val (.int (1 : Int32)), .val (.int (1 : Int32)), .val (.int (1 : Int32)), .unset, .unset, .unset, .unset] [(.int (100 : Int32))])) st17 ?_
  refine own_go (S' := T17.setTop (mkF m 64 #[.val (.ref b1), .val (.int (1 : Int32)), .val (.int (1 : Int32)), .val (.int (1 : Int32)), .unset, .unset, .unset, .unset] [(.int (100 : Int32)), (.int (100 : Int32))])) (fun tg kk => XT.bipushV X17.here hx rfl (100 : Int32) (hb hby at_62) (by decide) kk) ?_
  refine own_go (S' := T17.setTop (mkF m 67 #[.val (.ref b1), .val (.int (1 : Int32)), .val (.int (1 : Int32)), .val (.int (1 : Int32)), .unset, .unset, .unset, .unset] [])) (fun tg kk => XS.icmpNo X17.here hx rfl (hb hby at_64) rfl (XT.ii_ne_f (by decide)) kk) ?_
  refine own_go (S' := T17.setTop (mkF m 68 #[.val (.ref b1), .val (.int (1 : Int32)), .val (.int (1 : Int32)), .val (.int (1 : Int32)), .unset, .unset, .unset, .unset] [(.int (1 : Int32))])) (fun tg kk => XT.iconstV X17.here hx rfl (1 : Int32) (hb hby at_67) (by decide) kk) ?_
  refine own_go (S' := T17.setTop (mkF m 72 #[.val (.ref b1), .val (.int (1 : Int32)), .val (.int (1 : Int32)), .val (.int (1 : Int32)), .unset, .unset, .unset, .unset] [(.int (1 : Int32))])) (fun tg kk => XS.goto X17.here hx rfl (pc0 := 68) (pc' := 72) rfl (hb hby at_68) (by decide) (by decide) kk) ?_
  refine own_go (S' := T17.setTop (mkF m 74 #[.val (.ref b1), .val (.int (1 : Int32)), .val (.int (1 : Int32)), .val (.int (1 : Int32)), .val (.int (1 : Int32)), .unset, .unset, .unset] [])) (fun tg kk => XS.istore X17.here hx rfl (hb hby at_72) rfl (l' := #[.val (.ref b1), .val (.int (1 : Int32)), .val (.int (1 : Int32)), .val (.int (1 : Int32)), .val (.int (1 : Int32)), .unset, .unset, .unset]) rfl kk) ?_
  refine own_go (S' := T17.setTop (mkF m 75 #[.val (.ref b1), .val (.int (1 : Int32)), .val (.int (1 : Int32)), .val (.int (1 : Int32)), .val (.int (1 : Int32)), .unset, .unset, .unset] [(.ref b1)])) (fun tg kk => XS.aloadN X17.here hx rfl (hb hby at_74) rfl rfl kk) ?_
  obtain ⟨cq19, kq19, qa19, qb19, qc19⟩ := isOf hZ e17 G1_0
  obtain ⟨v19, _, ⟨T19, L19, k19, n19⟩, -, X19, ⟨Lc19, hQ19, l19, y19, z19⟩, st19⟩ := X17.virtualBack hx (y := (⟨"com/example/periodic_jobs/periodicjobs/engine/FiringQuery", "getAfterScheduledAt", "()Ljava/util/Optional;"⟩ : MethodName)) (z := (⟨"com/example/periodic_jobs/periodicjobs/engine/FiringQuery", "getAfterScheduledAt", "()Ljava/util/Optional;"⟩ : MethodName)) hown (mvT hZ (hw _ (List.mem_of_getElem? (i := 61) rfl))) (mvT hZ (hw _ (List.mem_of_getElem? (i := 62) rfl))) (notFace_of_selects (args := #[]) (mvT hZ (hw _ (List.mem_of_getElem? (i := 64) rfl)))) (mvT hZ (hw _ (List.mem_of_getElem? (i := 64) rfl))) (mvT hZ (hw _ (List.mem_of_getElem? (i := 63) rfl))) (by decide) (backOf (W := 0) (rm11 l Z a0 hw [] b1 em h1 n0 Z4 O3 G1_5 S_EMPTY) hZ (hw _ (List.mem_of_getElem? (i := 65) rfl)) (hw _ (List.mem_of_getElem? (i := 2) rfl)) (by decide) (by decide)) qa19 qc19 (g := (mkF m 75 #[.val (.ref b1), .val (.int (1 : Int32)), .val (.int (1 : Int32)), .val (.int (1 : Int32)), .val (.int (1 : Int32)), .unset, .unset, .unset] [(.ref b1)])) rfl (by rw [hml]; rfl) (Steps.refl _) (argsL := []) (rest := []) (lenOf pd___Ljava_util_Optional_ rfl) rfl (by show 2 * 0 + _ ≤ _; exact Nat.le_of_eq rfl) (hb hby at_75) (fun _ _ => ⟨rfl, e17, (by decide : 1 + 0 ≤ _), (by decide : 7 + 0 ≤ _)⟩)
  dsimp only [Pt.U, Pt.locs, Pt.cells, Pt.slots] at X19 l19 y19 z19 st19 hQ19
  subst l19 y19 z19
  obtain ⟨rfl, M20, e19⟩ := hQ19
  have N20 := Fr.app N18 M20
  refine own_to (S' := T19.setTop (mkF m 78 #[.val (.ref b1), .val (.int (1 : Int32)), .val (.int (1 : Int32)), .val (.int (1 : Int32)), .val (.int (1 : Int32)), .unset, .unset, .unset] [(.ref em)])) st19 ?_
  obtain ⟨cq21, kq21, qa21, qb21, qc21⟩ := isOf hZ e19 (E_EMPTY.ext O3.2)
  obtain ⟨v21, _, ⟨T21, L21, k21, n21⟩, -, X21, ⟨Lc21, hQ21, l21, y21, z21⟩, st21⟩ := X19.virtualBack hx (y := (⟨"java/util/Optional", "isPresent", "()Z"⟩ : MethodName)) (z := (⟨"java/util/Optional", "isPresent", "()Z"⟩ : MethodName)) hown (mvT hZ (hw _ (List.mem_of_getElem? (i := 39) rfl))) (mvT hZ (hw _ (List.mem_of_getElem? (i := 40) rfl))) (notFace_of_selects (args := #[]) (mvT hZ (hw _ (List.mem_of_getElem? (i := 42) rfl)))) (mvT hZ (hw _ (List.mem_of_getElem? (i := 42) rfl))) (mvT hZ (hw _ (List.mem_of_getElem? (i := 41) rfl))) (by decide) (backOf (W := 0) (rm7n l Z a0 hw [] em h1 n0 Z4 O3 F_EMPTY) hZ (hw _ (List.mem_of_getElem? (i := 43) rfl)) (hw _ (List.mem_of_getElem? (i := 36) rfl)) (by decide) (by decide)) qa21 qc21 (g := (mkF m 78 #[.val (.ref b1), .val (.int (1 : Int32)), .val (.int (1 : Int32)), .val (.int (1 : Int32)), .val (.int (1 : Int32)), .unset, .unset, .unset] [(.ref em)])) rfl (by rw [hml]; rfl) (Steps.refl _) (argsL := []) (rest := []) (lenOf pd___Z rfl) rfl (by show 2 * 0 + _ ≤ _; exact Nat.le_of_eq rfl) (hb hby at_78) (fun _ _ => ⟨rfl, e19, (by decide : 1 + 0 ≤ _), (by decide : 7 + 0 ≤ _)⟩)
  dsimp only [Pt.U, Pt.locs, Pt.cells, Pt.slots] at X21 l21 y21 z21 st21 hQ21
  subst l21 y21 z21
  obtain ⟨rfl, M22, e21⟩ := hQ21
  have N22 := Fr.app N20 M22
  refine own_to (S' := T21.setTop (mkF m 81 #[.val (.ref b1), .val (.int (1 : Int32)), .val (.int (1 : Int32)), .val (.int (1 : Int32)), .val (.int (1 : Int32)), .unset, .unset, .unset] [(.int (0 : Int32))])) st21 ?_
  refine own_go (S' := T21.setTop (mkF m 84 #[.val (.ref b1), .val (.int (1 : Int32)), .val (.int (1 : Int32)), .val (.int (1 : Int32)), .val (.int (1 : Int32)), .unset, .unset, .unset] [])) (fun tg kk => XS.ifNo X21.here hx rfl (hb hby at_81) rfl (XT.i0_ne_f (by decide)) kk) ?_
  refine own_go (S' := T21.setTop (mkF m 85 #[.val (.ref b1), .val (.int (1 : Int32)), .val (.int (1 : Int32)), .val (.int (1 : Int32)), .val (.int (1 : Int32)), .unset, .unset, .unset] [(.int (1 : Int32))])) (fun tg kk => XT.iconstV X21.here hx rfl (1 : Int32) (hb hby at_84) (by decide) kk) ?_
  refine own_go (S' := T21.setTop (mkF m 89 #[.val (.ref b1), .val (.int (1 : Int32)), .val (.int (1 : Int32)), .val (.int (1 : Int32)), .val (.int (1 : Int32)), .unset, .unset, .unset] [(.int (1 : Int32))])) (fun tg kk => XS.goto X21.here hx rfl (pc0 := 85) (pc' := 89) rfl (hb hby at_85) (by decide) (by decide) kk) ?_
  refine own_go (S' := T21.setTop (mkF m 91 #[.val (.ref b1), .val (.int (1 : Int32)), .val (.int (1 : Int32)), .val (.int (1 : Int32)), .val (.int (1 : Int32)), .val (.int (1 : Int32)), .unset, .unset] [])) (fun tg kk => XS.istore X21.here hx rfl (hb hby at_89) rfl (l' := #[.val (.ref b1), .val (.int (1 : Int32)), .val (.int (1 : Int32)), .val (.int (1 : Int32)), .val (.int (1 : Int32)), .val (.int (1 : Int32)), .unset, .unset]) rfl kk) ?_
  refine own_go (S' := T21.setTop (mkF m 92 #[.val (.ref b1), .val (.int (1 : Int32)), .val (.int (1 : Int32)), .val (.int (1 : Int32)), .val (.int (1 : Int32)), .val (.int (1 : Int32)), .unset, .unset] [(.ref b1)])) (fun tg kk => XS.aloadN X21.here hx rfl (hb hby at_91) rfl rfl kk) ?_
  obtain ⟨cq23, kq23, qa23, qb23, qc23⟩ := isOf hZ e21 G1_0
  obtain ⟨v23, _, ⟨T23, L23, k23, n23⟩, -, X23, ⟨Lc23, hQ23, l23, y23, z23⟩, st23⟩ := X21.virtualBack hx (y := (⟨"com/example/periodic_jobs/periodicjobs/engine/FiringQuery", "getAfterKind", "()Lcom/example/periodic_jobs/periodicjobs/engine/FiringKind;"⟩ : MethodName)) (z := (⟨"com/example/periodic_jobs/periodicjobs/engine/FiringQuery", "getAfterKind", "()Lcom/example/periodic_jobs/periodicjobs/engine/FiringKind;"⟩ : MethodName)) hown (mvT hZ (hw _ (List.mem_of_getElem? (i := 66) rfl))) (mvT hZ (hw _ (List.mem_of_getElem? (i := 67) rfl))) (notFace_of_selects (args := #[]) (mvT hZ (hw _ (List.mem_of_getElem? (i := 69) rfl)))) (mvT hZ (hw _ (List.mem_of_getElem? (i := 69) rfl))) (mvT hZ (hw _ (List.mem_of_getElem? (i := 68) rfl))) (by decide) (backOf (W := 0) (rm12 l Z a0 hw [] b1 h1 n0 Z4 G1_6) hZ (hw _ (List.mem_of_getElem? (i := 70) rfl)) (hw _ (List.mem_of_getElem? (i := 2) rfl)) (by decide) (by decide)) qa23 qc23 (g := (mkF m 92 #[.val (.ref b1), .val (.int (1 : Int32)), .val (.int (1 : Int32)), .val (.int (1 : Int32)), .val (.int (1 : Int32)), .val (.int (1 : Int32)), .unset, .unset] [(.ref b1)])) rfl (by rw [hml]; rfl) (Steps.refl _) (argsL := []) (rest := []) (lenOf pd___Lcom_example_periodic_jobs_periodicjobs_engine_FiringKind_ rfl) rfl (by show 2 * 0 + _ ≤ _; exact Nat.le_of_eq rfl) (hb hby at_92) (fun _ _ => ⟨rfl, e21, (by decide : 1 + 0 ≤ _), (by decide : 7 + 0 ≤ _)⟩)
  dsimp only [Pt.U, Pt.locs, Pt.cells, Pt.slots] at X23 l23 y23 z23 st23 hQ23
  subst l23 y23 z23
  obtain ⟨rfl, M24, e23⟩ := hQ23
  have N24 := Fr.app N22 M24
  refine own_to (S' := T23.setTop (mkF m 95 #[.val (.ref b1), .val (.int (1 : Int32)), .val (.int (1 : Int32)), .val (.int (1 : Int32)), .val (.int (1 : Int32)), .val (.int (1 : Int32)), .unset, .unset] [.null])) st23 ?_
  refine own_go (S' := T23.setTop (mkF m 98 #[.val (.ref b1), .val (.int (1 : Int32)), .val (.int (1 : Int32)), .val (.int (1 : Int32)), .val (.int (1 : Int32)), .val (.int (1 : Int32)), .unset, .unset] [])) (fun tg kk => XT.ifnonnullNo X23.here hx rfl (hb hby at_95) rfl kk) ?_
  refine own_go (S' := T23.setTop (mkF m 99 #[.val (.ref b1), .val (.int (1 : Int32)), .val (.int (1 : Int32)), .val (.int (1 : Int32)), .val (.int (1 : Int32)), .val (.int (1 : Int32)), .unset, .unset] [(.int (1 : Int32))])) (fun tg kk => XT.iconstV X23.here hx rfl (1 : Int32) (hb hby at_98) (by decide) kk) ?_
  refine own_go (S' := T23.setTop (mkF m 103 #[.val (.ref b1), .val (.int (1 : Int32)), .val (.int (1 : Int32)), .val (.int (1 : Int32)), .val (.int (1 : Int32)), .val (.int (1 : Int32)), .unset, .unset] [(.int (1 : Int32))])) (fun tg kk => XS.goto X23.here hx rfl (pc0 := 99) (pc' := 103) rfl (hb hby at_99) (by decide) (by decide) kk) ?_
  refine own_go (S' := T23.setTop (mkF m 105 #[.val (.ref b1), .val (.int (1 : Int32)), .val (.int (1 : Int32)), .val (.int (1 : Int32)), .val (.int (1 : Int32)), .val (.int (1 : Int32)), .val (.int (1 : Int32)), .unset] [])) (fun tg kk => XS.istore X23.here hx rfl (hb hby at_103) rfl (l' := #[.val (.ref b1), .val (.int (1 : Int32)), .val (.int (1 : Int32)), .val (.int (1 : Int32)), .val (.int (1 : Int32)), .val (.int (1 : Int32)), .val (.int (1 : Int32)), .unset]) rfl kk) ?_
  refine own_go (S' := T23.setTop (mkF m 106 #[.val (.ref b1), .val (.int (1 : Int32)), .val (.int (1 : Int32)), .val (.int (1 : Int32)), .val (.int (1 : Int32)), .val (.int (1 : Int32)), .val (.int (1 : Int32)), .unset] [(.ref b1)])) (fun tg kk => XS.aloadN X23.here hx rfl (hb hby at_105) rfl rfl kk) ?_
  obtain ⟨cq25, kq25, qa25, qb25, qc25⟩ := isOf hZ e23 G1_0
  obtain ⟨v25, _, ⟨T25, L25, k25, n25⟩, -, X25, ⟨Lc25, hQ25, l25, y25, z25⟩, st25⟩ := X23.virtualBack hx (y := (⟨"com/example/periodic_jobs/periodicjobs/engine/FiringQuery", "getAfterId", "()Ljava/util/UUID;"⟩ : MethodName)) (z := (⟨"com/example/periodic_jobs/periodicjobs/engine/FiringQuery", "getAfterId", "()Ljava/util/UUID;"⟩ : MethodName)) hown (mvT hZ (hw _ (List.mem_of_getElem? (i := 71) rfl))) (mvT hZ (hw _ (List.mem_of_getElem? (i := 72) rfl))) (notFace_of_selects (args := #[]) (mvT hZ (hw _ (List.mem_of_getElem? (i := 74) rfl)))) (mvT hZ (hw _ (List.mem_of_getElem? (i := 74) rfl))) (mvT hZ (hw _ (List.mem_of_getElem? (i := 73) rfl))) (by decide) (backOf (W := 0) (rm13 l Z a0 hw [] b1 h1 n0 Z4 G1_7) hZ (hw _ (List.mem_of_getElem? (i := 75) rfl)) (hw _ (List.mem_of_getElem? (i := 2) rfl)) (by decide) (by decide)) qa25 qc25 (g := (mkF m 106 #[.val (.ref b1), .val (.int (1 : Int32)), .val (.int (1 : Int32)), .val (.int (1 : Int32)), .val (.int (1 : Int32)), .val (.int (1 : Int32)), .val (.int (1 : Int32)), .unset] [(.ref b1)])) rfl (by rw [hml]; rfl) (Steps.refl _) (argsL := []) (rest := []) (lenOf pd___Ljava_util_UUID_ rfl) rfl (by show 2 * 0 + _ ≤ _; exact Nat.le_of_eq rfl) (hb hby at_106) (fun _ _ => ⟨rfl, e23, (by decide : 1 + 0 ≤ _), (by decide : 7 + 0 ≤ _)⟩)
  dsimp only [Pt.U, Pt.locs, Pt.cells, Pt.slots] at X25 l25 y25 z25 st25 hQ25
  subst l25 y25 z25
  obtain ⟨rfl, M26, e25⟩ := hQ25
  have N26 := Fr.app N24 M26
  refine own_to (S' := T25.setTop (mkF m 109 #[.val (.ref b1), .val (.int (1 : Int32)), .val (.int (1 : Int32)), .val (.int (1 : Int32)), .val (.int (1 : Int32)), .val (.int (1 : Int32)), .val (.int (1 : Int32)), .unset] [.null])) st25 ?_
  refine own_go (S' := T25.setTop (mkF m 112 #[.val (.ref b1), .val (.int (1 : Int32)), .val (.int (1 : Int32)), .val (.int (1 : Int32)), .val (.int (1 : Int32)), .val (.int (1 : Int32)), .val (.int (1 : Int32)), .unset] [])) (fun tg kk => XT.ifnonnullNo X25.here hx rfl (hb hby at_109) rfl kk) ?_
  refine own_go (S' := T25.setTop (mkF m 113 #[.val (.ref b1), .val (.int (1 : Int32)), .val (.int (1 : Int32)), .val (.int (1 : Int32)), .val (.int (1 : Int32)), .val (.int (1 : Int32)), .val (.int (1 : Int32)), .unset] [(.int (1 : Int32))])) (fun tg kk => XT.iconstV X25.here hx rfl (1 : Int32) (hb hby at_112) (by decide) kk) ?_
  refine own_go (S' := T25.setTop (mkF m 117 #[.val (.ref b1), .val (.int (1 : Int32)), .val (.int (1 : Int32)), .val (.int (1 : Int32)), .val (.int (1 : Int32)), .val (.int (1 : Int32)), .val (.int (1 : Int32)), .unset] [(.int (1 : Int32))])) (fun tg kk => XS.goto X25.here hx rfl (pc0 := 113) (pc' := 117) rfl (hb hby at_113) (by decide) (by decide) kk) ?_
  refine own_go (S' := T25.setTop (mkF m 119 #[.val (.ref b1), .val (.int (1 : Int32)), .val (.int (1 : Int32)), .val (.int (1 : Int32)), .val (.int (1 : Int32)), .val (.int (1 : Int32)), .val (.int (1 : Int32)), .val (.int (1 : Int32))] [])) (fun tg kk => XS.istore X25.here hx rfl (hb hby at_117) rfl (l' := #[.val (.ref b1), .val (.int (1 : Int32)), .val (.int (1 : Int32)), .val (.int (1 : Int32)), .val (.int (1 : Int32)), .val (.int (1 : Int32)), .val (.int (1 : Int32)), .val (.int (1 : Int32))]) rfl kk) ?_
  refine own_go (S' := T25.setTop (mkF m 120 #[.val (.ref b1), .val (.int (1 : Int32)), .val (.int (1 : Int32)), .val (.int (1 : Int32)), .val (.int (1 : Int32)), .val (.int (1 : Int32)), .val (.int (1 : Int32)), .val (.int (1 : Int32))] [(.int (1 : Int32))])) (fun tg kk => XS.iloadN X25.here hx rfl (hb hby at_119) rfl kk) ?_
  refine own_go (S' := T25.setTop (mkF m 123 #[.val (.ref b1), .val (.int (1 : Int32)), .val (.int (1 : Int32)), .val (.int (1 : Int32)), .val (.int (1 : Int32)), .val (.int (1 : Int32)), .val (.int (1 : Int32)), .val (.int (1 : Int32))] [])) (fun tg kk => XS.ifNo X25.here hx rfl (hb hby at_120) rfl (XT.i0_eq_f (by decide)) kk) ?_
  refine own_go (S' := T25.setTop (mkF m 124 #[.val (.ref b1), .val (.int (1 : Int32)), .val (.int (1 : Int32)), .val (.int (1 : Int32)), .val (.int (1 : Int32)), .val (.int (1 : Int32)), .val (.int (1 : Int32)), .val (.int (1 : Int32))] [(.int (1 : Int32))])) (fun tg kk => XS.iloadN X25.here hx rfl (hb hby at_123) rfl kk) ?_
  refine own_go (S' := T25.setTop (mkF m 127 #[.val (.ref b1), .val (.int (1 : Int32)), .val (.int (1 : Int32)), .val (.int (1 : Int32)), .val (.int (1 : Int32)), .val (.int (1 : Int32)), .val (.int (1 : Int32)), .val (.int (1 : Int32))] [])) (fun tg kk => XS.ifNo X25.here hx rfl (hb hby at_124) rfl (XT.i0_eq_f (by decide)) kk) ?_
  refine own_go (S' := T25.setTop (mkF m 128 #[.val (.ref b1), .val (.int (1 : Int32)), .val (.int (1 : Int32)), .val (.int (1 : Int32)), .val (.int (1 : Int32)), .val (.int (1 : Int32)), .val (.int (1 : Int32)), .val (.int (1 : Int32))] [(.int (1 : Int32))])) (fun tg kk => XS.iloadN X25.here hx rfl (hb hby at_127) rfl kk) ?_
  refine own_go (S' := T25.setTop (mkF m 131 #[.val (.ref b1), .val (.int (1 : Int32)), .val (.int (1 : Int32)), .val (.int (1 : Int32)), .val (.int (1 : Int32)), .val (.int (1 : Int32)), .val (.int (1 : Int32)), .val (.int (1 : Int32))] [])) (fun tg kk => XS.ifNo X25.here hx rfl (hb hby at_128) rfl (XT.i0_eq_f (by decide)) kk) ?_
  refine own_go (S' := T25.setTop (mkF m 133 #[.val (.ref b1), .val (.int (1 : Int32)), .val (.int (1 : Int32)), .val (.int (1 : Int32)), .val (.int (1 : Int32)), .val (.int (1 : Int32)), .val (.int (1 : Int32)), .val (.int (1 : Int32))] [(.int (1 : Int32))])) (fun tg kk => XS.iload X25.here hx rfl (hb hby at_131) rfl kk) ?_
  refine own_go (S' := T25.setTop (mkF m 136 #[.val (.ref b1), .val (.int (1 : Int32)), .val (.int (1 : Int32)), .val (.int (1 : Int32)), .val (.int (1 : Int32)), .val (.int (1 : Int32)), .val (.int (1 : Int32)), .val (.int (1 : Int32))] [])) (fun tg kk => XS.ifNo X25.here hx rfl (hb hby at_133) rfl (XT.i0_eq_f (by decide)) kk) ?_
  refine own_go (S' := T25.setTop (mkF m 138 #[.val (.ref b1), .val (.int (1 : Int32)), .val (.int (1 : Int32)), .val (.int (1 : Int32)), .val (.int (1 : Int32)), .val (.int (1 : Int32)), .val (.int (1 : Int32)), .val (.int (1 : Int32))] [(.int (1 : Int32))])) (fun tg kk => XS.iload X25.here hx rfl (hb hby at_136) rfl kk) ?_
  refine own_go (S' := T25.setTop (mkF m 141 #[.val (.ref b1), .val (.int (1 : Int32)), .val (.int (1 : Int32)), .val (.int (1 : Int32)), .val (.int (1 : Int32)), .val (.int (1 : Int32)), .val (.int (1 : Int32)), .val (.int (1 : Int32))] [])) (fun tg kk => XS.ifNo X25.here hx rfl (hb hby at_138) rfl (XT.i0_eq_f (by decide)) kk) ?_
  refine own_go (S' := T25.setTop (mkF m 143 #[.val (.ref b1), .val (.int (1 : Int32)), .val (.int (1 : Int32)), .val (.int (1 : Int32)), .val (.int (1 : Int32)), .val (.int (1 : Int32)), .val (.int (1 : Int32)), .val (.int (1 : Int32))] [(.int (1 : Int32))])) (fun tg kk => XS.iload X25.here hx rfl (hb hby at_141) rfl kk) ?_
  refine own_go (S' := T25.setTop (mkF m 146 #[.val (.ref b1), .val (.int (1 : Int32)), .val (.int (1 : Int32)), .val (.int (1 : Int32)), .val (.int (1 : Int32)), .val (.int (1 : Int32)), .val (.int (1 : Int32)), .val (.int (1 : Int32))] [])) (fun tg kk => XS.ifNo X25.here hx rfl (hb hby at_143) rfl (XT.i0_eq_f (by decide)) kk) ?_
  refine own_go (S' := T25.setTop (mkF m 148 #[.val (.ref b1), .val (.int (1 : Int32)), .val (.int (1 : Int32)), .val (.int (1 : Int32)), .val (.int (1 : Int32)), .val (.int (1 : Int32)), .val (.int (1 : Int32)), .val (.int (1 : Int32))] [(.int (1 : Int32))])) (fun tg kk => XS.iload X25.here hx rfl (hb hby at_146) rfl kk) ?_
  refine own_go (S' := T25.setTop (mkF m 151 #[.val (.ref b1), .val (.int (1 : Int32)), .val (.int (1 : Int32)), .val (.int (1 : Int32)), .val (.int (1 : Int32)), .val (.int (1 : Int32)), .val (.int (1 : Int32)), .val (.int (1 : Int32))] [])) (fun tg kk => XS.ifNo X25.here hx rfl (hb hby at_148) rfl (XT.i0_eq_f (by decide)) kk) ?_
  refine own_go (S' := T25.setTop (mkF m 152 #[.val (.ref b1), .val (.int (1 : Int32)), .val (.int (1 : Int32)), .val (.int (1 : Int32)), .val (.int (1 : Int32)), .val (.int (1 : Int32)), .val (.int (1 : Int32)), .val (.int (1 : Int32))] [(.int (1 : Int32))])) (fun tg kk => XT.iconstV X25.here hx rfl (1 : Int32) (hb hby at_151) (by decide) kk) ?_
  refine own_go (S' := T25.setTop (mkF m 156 #[.val (.ref b1), .val (.int (1 : Int32)), .val (.int (1 : Int32)), .val (.int (1 : Int32)), .val (.int (1 : Int32)), .val (.int (1 : Int32)), .val (.int (1 : Int32)), .val (.int (1 : Int32))] [(.int (1 : Int32))])) (fun tg kk => XS.goto X25.here hx rfl (pc0 := 152) (pc' := 156) rfl (hb hby at_152) (by decide) (by decide) kk) ?_
  obtain ⟨fs, hr, hrun, hended, hW, hsame⟩ := X25.leave (v := some (.int (1 : Int32))) (fun h => by rw [Bd.returns] at h; cases h)
  refine ⟨_, _, retN X25 hx (t := .boolean) Bd.returns (by simp) (hb hby at_156) hr, hrun, hended, _, _, rfl, ?_, ⟨_, rfl⟩, hW, hsame.mono (by decide) (by decide)⟩
  show Q0 Z em h0 n0 (some (.int (1 : Int32))) T25.heap _
  rw [e25]
  exact ⟨rfl, N26⟩
set_option maxRecDepth 65536 in
set_option maxHeartbeats 40000000 in
theorem comes_1 {Post : Tables → Env → Array Value → State → Outcome → State → Prop} (hpost : ∀ tb e args s v u, (limb_1_1.after args s (.returned v) u = true ∧ limb_1_2.after args s (.returned v) u = true ∧ True) → FrameEnd s (.returned v) u (Jvm.fieldLocs frame_1_writes args s ++ Jvm.arrayLocs frame_1_arrays args s ++ Jvm.staticLocs frame_1_statics s) 16 128 → Post tb e args s (.returned v) u) :
    ArmFor flags0 classFile x code maxLocals ret World_1 tables_1 room_1 Calls_1 rest_1 Pre_1 Post := by
  intro l hfl _ _ p e ha hc hk s m args below hf hA hF happ hP
  obtain ⟨hcalls, hrest, hpre⟩ := hP
  obtain ⟨-, -, -, hnamed, -, -, -, hat⟩ := (Spec.applies_iff hf).mp happ
  obtain ⟨hg, hn⟩ := and_e (Cond.before_iff.mp (show (Jvm.Cond.and given_1 narrow_1).before args s = true from hpre))
  obtain rfl : args = #[] := by
    simpa [Cond.value, given_1] using hg
  have hw := fun d (hd : d ∈ tables_1) => atoms_spec (ws := Jvm.Cond.code x code maxLocals ret :: tables_1) hat d (List.mem_cons_of_mem _ hd)
  have hfit : Fit s := fun {y c} hc i hi => by
    obtain ⟨ha, rfl⟩ := Array.getElem?_eq_some_iff.mp hc
    have q := List.all_eq_true.mp ((Array.all_eq_true_iff_forall_mem.mp hF) _ (Array.getElem_mem ha)) i (List.mem_range.mpr hi)
    simpa [Array.getElem?_eq_getElem hi] using q
  obtain ⟨hsets, hown0⟩ := atoms_of _ (rest_1_c_eq ▸ (show rest_1_c.before _ s = true from hrest))
  obtain ⟨em, ev_em⟩ := exa_v (Cond.before_iff.mp (hsets _ (List.mem_of_getElem? (i := 2) rfl)))
  have E_EMPTY := Exa.start ev_em (Cond.before_iff.mp (hsets _ (List.mem_of_getElem? (i := 2) rfl)))
  have S_EMPTY : Sta s s.heap "java/util/Optional" "EMPTY" "Ljava/util/Optional;" (.ref em) := Sta.start ev_em (Or.inl (hsets _ (List.mem_of_getElem? (i := 1) rfl)))
  have F_EMPTY : Fld s s.heap em "java/util/Optional" "value" "Ljava/lang/Object;" .null := Fld.start ((fld_at ev_em).symm.trans (null_v (Cond.before_iff.mp (hsets _ (List.mem_of_getElem? (i := 3) rfl)))))
  obtain ⟨n, o, h1, h2, h3, _, L, rfl, ⟨rfl, N⟩, hq⟩ := rm0 l s _ hw tables_1 em s.heap s.heap.size (Nat.le_refl _) (Old.start s) S_EMPTY E_EMPTY F_EMPTY p e ha hc hk s m _ below hf ((Spec.applies_iff_loose hf).mp happ).1 ⟨rfl, State.Warmed39.refl s, rfl⟩ trivial
  refine ⟨n, _, h1, h2, h3, hpost _ _ _ _ _ _ ⟨Cond.after_iff.mpr rfl, Cond.after_iff.mpr (eq_i res_at (Term.int_eval (1)) rfl), trivial⟩ ⟨hq.1, hq.2.1, (hq.2.2.sift fun y hy => Or.inr (N y hy)).mono (by decide) (by decide)⟩⟩
theorem main_1_1 : Claimed_1_1 := comes_1 fun _ _ _ _ _ _ h hF => ⟨h.1, hF⟩
theorem main_1_2 : Claimed_1_2 := comes_1 fun _ _ _ _ _ _ h hF => ⟨h.2.1, hF⟩
end Jvm.Pilot.@@N@@
namespace Jvm.Pilot.@@N@@
open Jvm Jvm.ClassFile Sem Op Lib Jvm.Free Jvm.Stand Jvm.Pilot.@@N@@.Jvm.D
/-! MADE BY PROGRAM (witnessworld.py) out of the Statement's table words and the real class files: 10 classes; the members and pool entries that the words name. The judged class is class 1, her method 1. -/
namespace start1
open Jvm.ClassFile
def u (s : String) : CpInfo := .utf8 (stringToUtf16 s)
/-- a pool by its gaps: so many unusable entries, then the entry; so many at the end -/
def gap : Nat → List CpInfo → List CpInfo
  | 0, r => r
  | n + 1, r => .unusable :: gap n r
def poolList (es : List (Nat × CpInfo)) (last : Nat) : List CpInfo := es.foldr (fun e r => gap e.1 (e.2 :: r)) (gap last [])
def pool (es : List (Nat × CpInfo)) (last : Nat) : Array CpInfo := ⟨poolList es last⟩
def fileOf (pool : Array CpInfo) (this : Nat) (attrs : Array Attribute := #[]) (ms : Array MethodInfo := #[]) (fl : Nat := 33) (sup : Nat := 0) (ifs : Array Nat := #[]) (fds : Array FieldInfo := #[]) : ClassFile where
  minorVersion := 0
  majorVersion := 65
  constantPool := pool
  accessFlags := fl
  thisClass := this
  superClass := sup
  interfaces := ifs
  fields := fds
  methods := ms
  attributes := attrs
def plain (name : String) (sup : Option ClassId) : Class where
  name := name
  kind := .ordinary
  loader := none
  accessFlags := 33
  super := sup
  interfaces := #[]
  cf := none
  fields := #[]
  methods := #[]
  instanceTypes := #[]
  staticTypes := #[]
  resolved := #[]
  callSites := []
  init := .initialized
  statics := none
  mirror := none

def pool0 : Array CpInfo := pool [(5, u "<init>"), (0, u "()V"), (1, .class_ 10), (1, u "java/lang/Object")] 113

def k0c0 : Code := { maxStack := 0, maxLocals := 1, code := object_method_1_code, exceptionTable := #[], attributes := #[] }
def k0m0 : Method := { name := "<init>", desc := "()V", sig := { parameters := [], returnType := none }, accessFlags := 1, code := some k0c0 }
/-- java/lang/Object -/
def k0 : Class := { plain "java/lang/Object" none with
  accessFlags := 33
  interfaces := #[]
  cf := some (fileOf pool0 8 #[] #[{ accessFlags := 1, nameIndex := 5, descriptorIndex := 6, attributes := #[] }] 33 0 #[] #[])
  fields := #[]
  methods := #[k0m0]
  instanceTypes := #[]
  staticTypes := #[]
  resolved := Array.replicate 124 none
  statics := none }

def pool1 : Array CpInfo := pool [(2, .class_ 4), (1, u "java/lang/Object"), (0, u "<init>"), (0, u "()V"), (0, .methodref 8 9), (0, .class_ 10), (0, .nameAndType 11 12), (0, u "com/example/periodic_jobs/periodicjobs/engine/FiringQuery"), (0, u "all"), (0, u "()Lcom/example/periodic_jobs/periodicjobs/engine/FiringQuery;"), (0, .methodref 8 14), (0, .nameAndType 15 16), (0, u "getStatus"), (0, u "()Ljava/util/Optional;"), (0, .methodref 18 19), (0, .class_ 20), (0, .nameAndType 21 22), (0, u "java/util/Optional"), (0, u "isPresent"), (0, u "()Z"), (0, .methodref 8 24), (0, .nameAndType 25 16), (0, u "getFrom"), (0, .methodref 8 27), (0, .nameAndType 28 16), (0, u "getTo"), (0, .methodref 8 30), (0, .nameAndType 31 32), (0, u "getLimit"), (0, u "()I"), (0, .methodref 8 34), (0, .nameAndType 35 16), (0, u "getAfterScheduledAt"), (0, .methodref 8 37), (0, .nameAndType 38 39), (0, u "getAfterKind"), (0, u "()Lcom/example/periodic_jobs/periodicjobs/engine/FiringKind;"), (0, .methodref 8 41), (0, .nameAndType 42 43), (0, u "getAfterId"), (0, u "()Ljava/util/UUID;"), (0, .class_ 45), (0, u "com/example/periodic_jobs/periodicjobs/engine/FiringQueryAllPinLaw"), (2, u "law")] 3

def k1m0 : Method := { name := "<init>", desc := "()V", sig := { parameters := [], returnType := none }, accessFlags := 1, code := none }
def k1c1 : Code := { maxStack := 2, maxLocals := 8, code := code, exceptionTable := #[], attributes := #[] }
def k1m1 : Method := { name := "law", desc := "()Z", sig := { parameters := [], returnType := some .boolean }, accessFlags := 9, code := some k1c1 }
/-- com/example/periodic_jobs/periodicjobs/engine/FiringQueryAllPinLaw -/
def k1 : Class := { plain "com/example/periodic_jobs/periodicjobs/engine/FiringQueryAllPinLaw" (some 0) with
  accessFlags := 49
  interfaces := #[]
  cf := some (fileOf pool1 44 #[] #[{ accessFlags := 1, nameIndex := 5, descriptorIndex := 6, attributes := #[] }, { accessFlags := 9, nameIndex := 48, descriptorIndex := 22, attributes := #[] }] 49 2 #[] #[])
  fields := #[]
  methods := #[k1m0, k1m1]
  instanceTypes := #[]
  staticTypes := #[]
  resolved := Array.replicate 52 none
  statics := none }

def pool2 : Array CpInfo := pool [(1, .methodref 2 3), (0, .class_ 4), (0, .nameAndType 5 6), (0, u "com/example/periodic_jobs/periodicjobs/engine/FiringQuery"), (0, u "<init>"), (0, u "(Lcom/example/periodic_jobs/periodicjobs/engine/FiringStatus;Ljava/time/Instant;Ljava/time/Instant;ILjava/time/Instant;Lcom/example/periodic_jobs/periodicjobs/engine/FiringKind;Ljava/util/UUID;)V"), (0, .methodref 8 9), (0, .class_ 10), (0, .nameAndType 5 11), (0, u "java/lang/Object"), (0, u "()V"), (9, .fieldref 2 22), (0, .nameAndType 23 24), (0, u "status"), (0, u "Lcom/example/periodic_jobs/periodicjobs/engine/FiringStatus;"), (0, .fieldref 2 26), (0, .nameAndType 27 28), (0, u "from"), (0, u "Ljava/time/Instant;"), (0, .fieldref 2 30), (0, .nameAndType 31 28), (0, u "to"), (0, .fieldref 2 33), (0, .nameAndType 34 35), (0, u "limit"), (0, u "I"), (0, .fieldref 2 37), (0, .nameAndType 38 28), (0, u "afterScheduledAt"), (0, .fieldref 2 40), (0, .nameAndType 41 42), (0, u "afterKind"), (0, u "Lcom/example/periodic_jobs/periodicjobs/engine/FiringKind;"), (0, .fieldref 2 44), (0, .nameAndType 45 46), (0, u "afterId"), (0, u "Ljava/util/UUID;"), (0, .methodref 2 48), (0, .nameAndType 5 49), (0, u "(Lcom/example/periodic_jobs/periodicjobs/engine/FiringStatus;Ljava/time/Instant;Ljava/time/Instant;I)V"), (84, .methodref 135 136), (0, .class_ 137), (0, .nameAndType 138 139), (0, u "java/util/Optional"), (0, u "ofNullable"), (0, u "(Ljava/lang/Object;)Ljava/util/Optional;"), (53, u "()Lcom/example/periodic_jobs/periodicjobs/engine/FiringKind;"), (3, u "()Ljava/util/UUID;"), (5, u "DEFAULT_LIMIT"), (2, u "MOST_LIMIT"), (1, u "CURSOR_VERSION"), (0, u "Ljava/lang/String;"), (0, u "SEPARATOR"), (0, u "CURSOR_PARTS"), (4, u "all"), (0, u "()Lcom/example/periodic_jobs/periodicjobs/engine/FiringQuery;"), (6, u "getStatus"), (0, u "()Ljava/util/Optional;"), (2, u "getFrom"), (1, u "getTo"), (0, u "getLimit"), (0, u "()I"), (5, u "getAfterScheduledAt"), (0, u "getAfterKind"), (0, u "getAfterId")] 21

def k2c0 : Code := { maxStack := 8, maxLocals := 5, code := prog_15_method_1_code, exceptionTable := #[], attributes := #[] }
def k2m0 : Method := { name := "<init>", desc := "(Lcom/example/periodic_jobs/periodicjobs/engine/FiringStatus;Ljava/time/Instant;Ljava/time/Instant;I)V", sig := { parameters := [(.object "com/example/periodic_jobs/periodicjobs/engine/FiringStatus"), (.object "java/time/Instant"), (.object "java/time/Instant"), .int], returnType := none }, accessFlags := 1, code := some k2c0 }
def k2c1 : Code := { maxStack := 3, maxLocals := 8, code := prog_15_method_2_code, exceptionTable := #[], attributes := #[] }
def k2m1 : Method := { name := "<init>", desc := "(Lcom/example/periodic_jobs/periodicjobs/engine/FiringStatus;Ljava/time/Instant;Ljava/time/Instant;ILjava/time/Instant;Lcom/example/periodic_jobs/periodicjobs/engine/FiringKind;Ljava/util/UUID;)V", sig := { parameters := [(.object "com/example/periodic_jobs/periodicjobs/engine/FiringStatus"), (.object "java/time/Instant"), (.object "java/time/Instant"), .int, (.object "java/time/Instant"), (.object "com/example/periodic_jobs/periodicjobs/engine/FiringKind"), (.object "java/util/UUID")], returnType := none }, accessFlags := 2, code := some k2c1 }
def k2c2 : Code := { maxStack := 6, maxLocals := 0, code := prog_15_method_3_code, exceptionTable := #[], attributes := #[] }
def k2m2 : Method := { name := "all", desc := "()Lcom/example/periodic_jobs/periodicjobs/engine/FiringQuery;", sig := { parameters := [], returnType := some (.object "com/example/periodic_jobs/periodicjobs/engine/FiringQuery") }, accessFlags := 9, code := some k2c2 }
def k2c3 : Code := { maxStack := 1, maxLocals := 1, code := prog_15_method_5_code, exceptionTable := #[], attributes := #[] }
def k2m3 : Method := { name := "getStatus", desc := "()Ljava/util/Optional;", sig := { parameters := [], returnType := some (.object "java/util/Optional") }, accessFlags := 1, code := some k2c3 }
def k2c4 : Code := { maxStack := 1, maxLocals := 1, code := prog_15_method_6_code, exceptionTable := #[], attributes := #[] }
def k2m4 : Method := { name := "getFrom", desc := "()Ljava/util/Optional;", sig := { parameters := [], returnType := some (.object "java/util/Optional") }, accessFlags := 1, code := some k2c4 }
def k2c5 : Code := { maxStack := 1, maxLocals := 1, code := prog_15_method_7_code, exceptionTable := #[], attributes := #[] }
def k2m5 : Method := { name := "getTo", desc := "()Ljava/util/Optional;", sig := { parameters := [], returnType := some (.object "java/util/Optional") }, accessFlags := 1, code := some k2c5 }
def k2c6 : Code := { maxStack := 1, maxLocals := 1, code := prog_15_method_8_code, exceptionTable := #[], attributes := #[] }
def k2m6 : Method := { name := "getLimit", desc := "()I", sig := { parameters := [], returnType := some .int }, accessFlags := 1, code := some k2c6 }
def k2c7 : Code := { maxStack := 1, maxLocals := 1, code := prog_15_method_11_code, exceptionTable := #[], attributes := #[] }
def k2m7 : Method := { name := "getAfterScheduledAt", desc := "()Ljava/util/Optional;", sig := { parameters := [], returnType := some (.object "java/util/Optional") }, accessFlags := 0, code := some k2c7 }
def k2c8 : Code := { maxStack := 1, maxLocals := 1, code := prog_15_method_12_code, exceptionTable := #[], attributes := #[] }
def k2m8 : Method := { name := "getAfterKind", desc := "()Lcom/example/periodic_jobs/periodicjobs/engine/FiringKind;", sig := { parameters := [], returnType := some (.object "com/example/periodic_jobs/periodicjobs/engine/FiringKind") }, accessFlags := 0, code := some k2c8 }
def k2c9 : Code := { maxStack := 1, maxLocals := 1, code := prog_15_method_13_code, exceptionTable := #[], attributes := #[] }
def k2m9 : Method := { name := "getAfterId", desc := "()Ljava/util/UUID;", sig := { parameters := [], returnType := some (.object "java/util/UUID") }, accessFlags := 0, code := some k2c9 }
/-- com/example/periodic_jobs/periodicjobs/engine/FiringQuery -/
def k2 : Class := { plain "com/example/periodic_jobs/periodicjobs/engine/FiringQuery" (some 0) with
  accessFlags := 49
  interfaces := #[]
  cf := some (fileOf pool2 2 #[] #[{ accessFlags := 1, nameIndex := 5, descriptorIndex := 49, attributes := #[] }, { accessFlags := 2, nameIndex := 5, descriptorIndex := 6, attributes := #[] }, { accessFlags := 9, nameIndex := 216, descriptorIndex := 217, attributes := #[] }, { accessFlags := 1, nameIndex := 224, descriptorIndex := 225, attributes := #[] }, { accessFlags := 1, nameIndex := 228, descriptorIndex := 225, attributes := #[] }, { accessFlags := 1, nameIndex := 230, descriptorIndex := 225, attributes := #[] }, { accessFlags := 1, nameIndex := 231, descriptorIndex := 232, attributes := #[] }, { accessFlags := 0, nameIndex := 238, descriptorIndex := 225, attributes := #[] }, { accessFlags := 0, nameIndex := 239, descriptorIndex := 193, attributes := #[] }, { accessFlags := 0, nameIndex := 240, descriptorIndex := 197, attributes := #[] }] 49 8 #[] #[{ accessFlags := 25, nameIndex := 203, descriptorIndex := 35, attributes := #[] }, { accessFlags := 25, nameIndex := 206, descriptorIndex := 35, attributes := #[] }, { accessFlags := 26, nameIndex := 208, descriptorIndex := 209, attributes := #[] }, { accessFlags := 26, nameIndex := 210, descriptorIndex := 209, attributes := #[] }, { accessFlags := 26, nameIndex := 211, descriptorIndex := 35, attributes := #[] }, { accessFlags := 18, nameIndex := 23, descriptorIndex := 24, attributes := #[] }, { accessFlags := 18, nameIndex := 27, descriptorIndex := 28, attributes := #[] }, { accessFlags := 18, nameIndex := 31, descriptorIndex := 28, attributes := #[] }, { accessFlags := 18, nameIndex := 34, descriptorIndex := 35, attributes := #[] }, { accessFlags := 18, nameIndex := 38, descriptorIndex := 28, attributes := #[] }, { accessFlags := 18, nameIndex := 41, descriptorIndex := 42, attributes := #[] }, { accessFlags := 18, nameIndex := 45, descriptorIndex := 46, attributes := #[] }])
  fields := #[{ name := "DEFAULT_LIMIT", type := .int, accessFlags := 25, slot := 0, constantValue := 0 }, { name := "MOST_LIMIT", type := .int, accessFlags := 25, slot := 1, constantValue := 0 }, { name := "CURSOR_VERSION", type := (.object "java/lang/String"), accessFlags := 26, slot := 2, constantValue := 0 }, { name := "SEPARATOR", type := (.object "java/lang/String"), accessFlags := 26, slot := 3, constantValue := 0 }, { name := "CURSOR_PARTS", type := .int, accessFlags := 26, slot := 4, constantValue := 0 }, { name := "status", type := (.object "com/example/periodic_jobs/periodicjobs/engine/FiringStatus"), accessFlags := 18, slot := 0, constantValue := 0 }, { name := "from", type := (.object "java/time/Instant"), accessFlags := 18, slot := 1, constantValue := 0 }, { name := "to", type := (.object "java/time/Instant"), accessFlags := 18, slot := 2, constantValue := 0 }, { name := "limit", type := .int, accessFlags := 18, slot := 3, constantValue := 0 }, { name := "afterScheduledAt", type := (.object "java/time/Instant"), accessFlags := 18, slot := 4, constantValue := 0 }, { name := "afterKind", type := (.object "com/example/periodic_jobs/periodicjobs/engine/FiringKind"), accessFlags := 18, slot := 5, constantValue := 0 }, { name := "afterId", type := (.object "java/util/UUID"), accessFlags := 18, slot := 6, constantValue := 0 }]
  methods := #[k2m0, k2m1, k2m2, k2m3, k2m4, k2m5, k2m6, k2m7, k2m8, k2m9]
  instanceTypes := #[(.object "com/example/periodic_jobs/periodicjobs/engine/FiringStatus"), (.object "java/time/Instant"), (.object "java/time/Instant"), .int, (.object "java/time/Instant"), (.object "com/example/periodic_jobs/periodicjobs/engine/FiringKind"), (.object "java/util/UUID")]
  staticTypes := #[.int, .int, (.object "java/lang/String"), (.object "java/lang/String"), .int]
  resolved := Array.replicate 262 none
  statics := none }

def pool3 : Array CpInfo := pool [(1, .fieldref 2 3), (0, .class_ 4), (0, .nameAndType 5 6), (0, u "java/util/Optional"), (0, u "EMPTY"), (0, u "Ljava/util/Optional;"), (1, .class_ 10), (1, u "java/lang/Object"), (2, .fieldref 2 14), (0, .nameAndType 15 16), (0, u "value"), (0, u "Ljava/lang/Object;"), (29, u "()Z"), (17, u "ofNullable"), (0, u "(Ljava/lang/Object;)Ljava/util/Optional;"), (2, u "isPresent")] 118

def k3c0 : Code := { maxStack := 3, maxLocals := 1, code := jdk_32_method_4_code, exceptionTable := #[], attributes := #[] }
def k3m0 : Method := { name := "ofNullable", desc := "(Ljava/lang/Object;)Ljava/util/Optional;", sig := { parameters := [(.object "java/lang/Object")], returnType := some (.object "java/util/Optional") }, accessFlags := 9, code := some k3c0 }
def k3c1 : Code := { maxStack := 1, maxLocals := 1, code := jdk_32_method_6_code, exceptionTable := #[], attributes := #[] }
def k3m1 : Method := { name := "isPresent", desc := "()Z", sig := { parameters := [], returnType := some .boolean }, accessFlags := 1, code := some k3c1 }
/-- java/util/Optional -/
def k3 : Class := { plain "java/util/Optional" (some 0) with
  accessFlags := 49
  interfaces := #[]
  cf := some (fileOf pool3 2 #[] #[{ accessFlags := 9, nameIndex := 64, descriptorIndex := 65, attributes := #[] }, { accessFlags := 1, nameIndex := 68, descriptorIndex := 46, attributes := #[] }] 49 8 #[] #[{ accessFlags := 26, nameIndex := 5, descriptorIndex := 6, attributes := #[] }, { accessFlags := 18, nameIndex := 15, descriptorIndex := 16, attributes := #[] }])
  fields := #[{ name := "EMPTY", type := (.object "java/util/Optional"), accessFlags := 26, slot := 0, constantValue := 0 }, { name := "value", type := (.object "java/lang/Object"), accessFlags := 18, slot := 0, constantValue := 0 }]
  methods := #[k3m0, k3m1]
  instanceTypes := #[(.object "java/lang/Object")]
  staticTypes := #[(.object "java/util/Optional")]
  resolved := Array.replicate 187 none
  statics := some 0 }

def pool4 : Array CpInfo := pool [(1, u "java/lang/Cloneable"), (0, .class_ 1), (0, u "java/lang/Object"), (0, .class_ 3)] 3

/-- java/lang/Cloneable -/
def k4 : Class := { plain "java/lang/Cloneable" (some 0) with
  accessFlags := 1537
  interfaces := #[]
  cf := some (fileOf pool4 2 #[] #[] 1537 4 #[] #[])
  fields := #[]
  methods := #[]
  instanceTypes := #[]
  staticTypes := #[]
  resolved := Array.replicate 8 none
  statics := none }

def pool5 : Array CpInfo := pool [(1, u "java/io/Serializable"), (0, .class_ 1), (0, u "java/lang/Object"), (0, .class_ 3)] 3

/-- java/io/Serializable -/
def k5 : Class := { plain "java/io/Serializable" (some 0) with
  accessFlags := 1537
  interfaces := #[]
  cf := some (fileOf pool5 2 #[] #[] 1537 4 #[] #[])
  fields := #[]
  methods := #[]
  instanceTypes := #[]
  staticTypes := #[]
  resolved := Array.replicate 8 none
  statics := none }

/-- the primitive byte -/
def k6 : Class := { plain "byte" none with kind := .primitive 'B', accessFlags := 0x411 }
/-- [B -/
def k7 : Class := { plain "[B" (some 0) with kind := .array 6 .byte, interfaces := #[4, 5], accessFlags := 1041 }

/-- the primitive int -/
def k8 : Class := { plain "int" none with kind := .primitive 'I', accessFlags := 0x411 }
/-- [I -/
def k9 : Class := { plain "[I" (some 0) with kind := .array 8 .int, interfaces := #[4, 5], accessFlags := 1041 }

def heap : Heap := #[{ cls := 3, slots := #[.ref 1], vm := .statics 3 },
  { cls := 3, slots := #[.null], vm := .none }]
def classes : Array Class := #[k0, k1, k2, k3, k4, k5, k6, k7, k8, k9]
def interned : List (Array UInt16 × Addr) := []
def slotsUsed : Nat := 2
def theMethod : MethodId := ⟨1, 1⟩
def args0 : Array Value := #[]
def aboutOver (below : List Frame) : State where
  vm := { classes := classes, interned := interned.toArray }
  heap := heap
  slotsUsed := slotsUsed
  threads := #[{ frames := .invoking theMethod args0 :: below }]
def below0 : List Frame := [.native { method := ⟨0, 0⟩, args := #[] }]
def about1 : State := aboutOver below0
def p0 : Program := .bare "" "" ""
def e0 : Env := launch0.env 0 0 0
theorem w_frames : about1.frames = Frame.invoking theMethod args0 :: below0 := rfl
set_option maxRecDepth 65536 in
theorem w_args : argsFit about1.vm theMethod args0 = true := by decide +kernel
set_option maxRecDepth 65536 in
theorem w_heap : heapFits about1 = true := by decide +kernel
set_option maxRecDepth 65536 in
theorem w_runnable : about1.curStatus? = some .runnable := by decide +kernel
set_option maxRecDepth 65536 in
theorem w_alone : about1.alone = true := by decide +kernel
set_option maxRecDepth 65536 in
theorem w_named : about1.methodNamed? x = some theMethod := by decide +kernel
set_option maxRecDepth 65536 in
theorem w_hears : about1.hears theMethod below0 = true := by decide +kernel
set_option maxRecDepth 65536 in
theorem w_ripe : about1.ripe theMethod args0 below0 = true := by decide +kernel
theorem w_running : about1.status = .running := rfl
set_option maxRecDepth 65536 in
theorem w_room : about1.hasRoom e0.platform room_1 = true :=
  launch0.hasRoom_least _ room_1 (by decide +kernel) (by decide +kernel) (by decide +kernel) (by decide +kernel) (by decide +kernel) (by decide +kernel)
theorem allAtoms_all (ts : List Jvm.Cond) (a : Array Jvm.Value) (st : Jvm.State) : (allAtoms ts).before a st = ts.all (fun c => c.before a st) := by
  induction ts with
  | nil => rfl
  | cons c t ih =>
    show (Jvm.Cond.and c (allAtoms t)).before a st = _
    rw [Jvm.Cond.before_and, ih, List.all_cons]
def words1 : List Jvm.Cond := Jvm.Cond.code x code maxLocals ret :: tables_1
/-- a 'code' word, met by the world's own term for the bytes: nothing is compared byte by byte -/
theorem code_word {y : MethodName} {bytes : ByteArray} {mx : Nat} {rt : Option FieldType} {a : Array Value} {s : State} {m : MethodId} {meth : Method} {c : Code} (h1 : s.methodNamed? y = some m) (h2 : s.vm.method? m = some meth) (h3 : meth.code = some c) (h4 : c.code = bytes)
    (h5 : (c.maxLocals == mx && c.exceptionTable.isEmpty && decide (c.maxStack ≤ mostOperands) && decide (meth.sig.returnType = rt) && !meth.locks && decide (parseMethodDescriptor y.desc = some meth.sig)) = true) : (Jvm.Cond.code y bytes mx rt).before a s = true := by
  simp only [Bool.and_eq_true, beq_iff_eq, Bool.not_eq_true', decide_eq_true_eq] at h5
  obtain ⟨⟨⟨⟨⟨g1, g2⟩, g3⟩, g4⟩, g5⟩, g6⟩ := h5
  simp [Cond.before, Cond.holds, Cond.value, h1, h2, h3, h4, g1, g2, g3, g4, g5, g6]
def isCode : Jvm.Cond → Bool
  | .code _ _ _ _ => true
  | _ => false
theorem all_split {L : List Jvm.Cond} {P : Jvm.Cond → Bool} (h1 : L.all (fun c => isCode c || P c) = true) (h2 : ∀ c ∈ L.filter isCode, P c = true) : L.all P = true := by
  refine List.all_eq_true.mpr fun c hc => ?_
  have h := List.all_eq_true.mp h1 c hc
  rcases Bool.eq_false_or_eq_true (isCode c) with hi | hi
  · exact h2 c (List.mem_filter.mpr ⟨hc, hi⟩)
  · simpa [hi] using h
set_option maxRecDepth 65536 in
theorem w_c0 : (Jvm.Cond.code x code maxLocals ret).before args0 about1 = true := code_word (m := ⟨1, 1⟩) (meth := k1m1) (c := k1c1) (by decide +kernel) rfl rfl rfl (by decide +kernel)
set_option maxRecDepth 65536 in
theorem w_c1 : (Jvm.Cond.code ({ cls := "com/example/periodic_jobs/periodicjobs/engine/FiringQuery", name := "all", desc := "()Lcom/example/periodic_jobs/periodicjobs/engine/FiringQuery;" } : Jvm.MethodName) prog_15_method_3_code (0 : Nat) (Option.some (Jvm.ClassFile.FieldType.object "com/example/periodic_jobs/periodicjobs/engine/FiringQuery"))).before args0 about1 = true := code_word (m := ⟨2, 2⟩) (meth := k2m2) (c := k2c2) (by decide +kernel) rfl rfl rfl (by decide +kernel)
set_option maxRecDepth 65536 in
theorem w_c2 : (Jvm.Cond.code ({ cls := "com/example/periodic_jobs/periodicjobs/engine/FiringQuery", name := "<init>", desc := "(Lcom/example/periodic_jobs/periodicjobs/engine/FiringStatus;Ljava/time/Instant;Ljava/time/Instant;I)V" } : Jvm.MethodName) prog_15_method_1_code (5 : Nat) (Option.none : Option Jvm.ClassFile.FieldType)).before args0 about1 = true := code_word (m := ⟨2, 0⟩) (meth := k2m0) (c := k2c0) (by decide +kernel) rfl rfl rfl (by decide +kernel)
set_option maxRecDepth 65536 in
theorem w_c3 : (Jvm.Cond.code ({ cls := "com/example/periodic_jobs/periodicjobs/engine/FiringQuery", name := "<init>", desc := "(Lcom/example/periodic_jobs/periodicjobs/engine/FiringStatus;Ljava/time/Instant;Ljava/time/Instant;ILjava/time/Instant;Lcom/example/periodic_jobs/periodicjobs/engine/FiringKind;Ljava/util/UUID;)V" } : Jvm.MethodName) prog_15_method_2_code (8 : Nat) (Option.none : Option Jvm.ClassFile.FieldType)).before args0 about1 = true := code_word (m := ⟨2, 1⟩) (meth := k2m1) (c := k2c1) (by decide +kernel) rfl rfl rfl (by decide +kernel)
set_option maxRecDepth 65536 in
theorem w_c4 : (Jvm.Cond.code ({ cls := "java/lang/Object", name := "<init>", desc := "()V" } : Jvm.MethodName) object_method_1_code (1 : Nat) (Option.none : Option Jvm.ClassFile.FieldType)).before args0 about1 = true := code_word (m := ⟨0, 0⟩) (meth := k0m0) (c := k0c0) (by decide +kernel) rfl rfl rfl (by decide +kernel)
set_option maxRecDepth 65536 in
theorem w_c5 : (Jvm.Cond.code ({ cls := "com/example/periodic_jobs/periodicjobs/engine/FiringQuery", name := "getStatus", desc := "()Ljava/util/Optional;" } : Jvm.MethodName) prog_15_method_5_code (1 : Nat) (Option.some (Jvm.ClassFile.FieldType.object "java/util/Optional"))).before args0 about1 = true := code_word (m := ⟨2, 3⟩) (meth := k2m3) (c := k2c3) (by decide +kernel) rfl rfl rfl (by decide +kernel)
set_option maxRecDepth 65536 in
theorem w_c6 : (Jvm.Cond.code ({ cls := "java/util/Optional", name := "ofNullable", desc := "(Ljava/lang/Object;)Ljava/util/Optional;" } : Jvm.MethodName) jdk_32_method_4_code (1 : Nat) (Option.some (Jvm.ClassFile.FieldType.object "java/util/Optional"))).before args0 about1 = true := code_word (m := ⟨3, 0⟩) (meth := k3m0) (c := k3c0) (by decide +kernel) rfl rfl rfl (by decide +kernel)
set_option maxRecDepth 65536 in
theorem w_c7 : (Jvm.Cond.code ({ cls := "java/util/Optional", name := "isPresent", desc := "()Z" } : Jvm.MethodName) jdk_32_method_6_code (1 : Nat) (Option.some Jvm.ClassFile.FieldType.boolean)).before args0 about1 = true := code_word (m := ⟨3, 1⟩) (meth := k3m1) (c := k3c1) (by decide +kernel) rfl rfl rfl (by decide +kernel)
set_option maxRecDepth 65536 in
theorem w_c8 : (Jvm.Cond.code ({ cls := "com/example/periodic_jobs/periodicjobs/engine/FiringQuery", name := "getFrom", desc := "()Ljava/util/Optional;" } : Jvm.MethodName) prog_15_method_6_code (1 : Nat) (Option.some (Jvm.ClassFile.FieldType.object "java/util/Optional"))).before args0 about1 = true := code_word (m := ⟨2, 4⟩) (meth := k2m4) (c := k2c4) (by decide +kernel) rfl rfl rfl (by decide +kernel)
set_option maxRecDepth 65536 in
theorem w_c9 : (Jvm.Cond.code ({ cls := "com/example/periodic_jobs/periodicjobs/engine/FiringQuery", name := "getTo", desc := "()Ljava/util/Optional;" } : Jvm.MethodName) prog_15_method_7_code (1 : Nat) (Option.some (Jvm.ClassFile.FieldType.object "java/util/Optional"))).before args0 about1 = true := code_word (m := ⟨2, 5⟩) (meth := k2m5) (c := k2c5) (by decide +kernel) rfl rfl rfl (by decide +kernel)
set_option maxRecDepth 65536 in
theorem w_c10 : (Jvm.Cond.code ({ cls := "com/example/periodic_jobs/periodicjobs/engine/FiringQuery", name := "getLimit", desc := "()I" } : Jvm.MethodName) prog_15_method_8_code (1 : Nat) (Option.some Jvm.ClassFile.FieldType.int)).before args0 about1 = true := code_word (m := ⟨2, 6⟩) (meth := k2m6) (c := k2c6) (by decide +kernel) rfl rfl rfl (by decide +kernel)
set_option maxRecDepth 65536 in
theorem w_c11 : (Jvm.Cond.code ({ cls := "com/example/periodic_jobs/periodicjobs/engine/FiringQuery", name := "getAfterScheduledAt", desc := "()Ljava/util/Optional;" } : Jvm.MethodName) prog_15_method_11_code (1 : Nat) (Option.some (Jvm.ClassFile.FieldType.object "java/util/Optional"))).before args0 about1 = true := code_word (m := ⟨2, 7⟩) (meth := k2m7) (c := k2c7) (by decide +kernel) rfl rfl rfl (by decide +kernel)
set_option maxRecDepth 65536 in
theorem w_c12 : (Jvm.Cond.code ({ cls := "com/example/periodic_jobs/periodicjobs/engine/FiringQuery", name := "getAfterKind", desc := "()Lcom/example/periodic_jobs/periodicjobs/engine/FiringKind;" } : Jvm.MethodName) prog_15_method_12_code (1 : Nat) (Option.some (Jvm.ClassFile.FieldType.object "com/example/periodic_jobs/periodicjobs/engine/FiringKind"))).before args0 about1 = true := code_word (m := ⟨2, 8⟩) (meth := k2m8) (c := k2c8) (by decide +kernel) rfl rfl rfl (by decide +kernel)
set_option maxRecDepth 65536 in
theorem w_c13 : (Jvm.Cond.code ({ cls := "com/example/periodic_jobs/periodicjobs/engine/FiringQuery", name := "getAfterId", desc := "()Ljava/util/UUID;" } : Jvm.MethodName) prog_15_method_13_code (1 : Nat) (Option.some (Jvm.ClassFile.FieldType.object "java/util/UUID"))).before args0 about1 = true := code_word (m := ⟨2, 9⟩) (meth := k2m9) (c := k2c9) (by decide +kernel) rfl rfl rfl (by decide +kernel)
def codes1 : List Jvm.Cond := [Jvm.Cond.code x code maxLocals ret, Jvm.Cond.code ({ cls := "com/example/periodic_jobs/periodicjobs/engine/FiringQuery", name := "all", desc := "()Lcom/example/periodic_jobs/periodicjobs/engine/FiringQuery;" } : Jvm.MethodName) prog_15_method_3_code (0 : Nat) (Option.some (Jvm.ClassFile.FieldType.object "com/example/periodic_jobs/periodicjobs/engine/FiringQuery")), Jvm.Cond.code ({ cls := "com/example/periodic_jobs/periodicjobs/engine/FiringQuery", name := "<init>", desc := "(Lcom/example/periodic_jobs/periodicjobs/engine/FiringStatus;Ljava/time/Instant;Ljava/time/Instant;I)V" } : Jvm.MethodName) prog_15_method_1_code (5 : Nat) (Option.none : Option Jvm.ClassFile.FieldType), Jvm.Cond.code ({ cls := "com/example/periodic_jobs/periodicjobs/engine/FiringQuery", name := "<init>", desc := "(Lcom/example/periodic_jobs/periodicjobs/engine/FiringStatus;Ljava/time/Instant;Ljava/time/Instant;ILjava/time/Instant;Lcom/example/periodic_jobs/periodicjobs/engine/FiringKind;Ljava/util/UUID;)V" } : Jvm.MethodName) prog_15_method_2_code (8 : Nat) (Option.none : Option Jvm.ClassFile.FieldType), Jvm.Cond.code ({ cls := "java/lang/Object", name := "<init>", desc := "()V" } : Jvm.MethodName) object_method_1_code (1 : Nat) (Option.none : Option Jvm.ClassFile.FieldType), Jvm.Cond.code ({ cls := "com/example/periodic_jobs/periodicjobs/engine/FiringQuery", name := "getStatus", desc := "()Ljava/util/Optional;" } : Jvm.MethodName) prog_15_method_5_code (1 : Nat) (Option.some (Jvm.ClassFile.FieldType.object "java/util/Optional")), Jvm.Cond.code ({ cls := "java/util/Optional", name := "ofNullable", desc := "(Ljava/lang/Object;)Ljava/util/Optional;" } : Jvm.MethodName) jdk_32_method_4_code (1 : Nat) (Option.some (Jvm.ClassFile.FieldType.object "java/util/Optional")), Jvm.Cond.code ({ cls := "java/util/Optional", name := "isPresent", desc := "()Z" } : Jvm.MethodName) jdk_32_method_6_code (1 : Nat) (Option.some Jvm.ClassFile.FieldType.boolean), Jvm.Cond.code ({ cls := "com/example/periodic_jobs/periodicjobs/engine/FiringQuery", name := "getFrom", desc := "()Ljava/util/Optional;" } : Jvm.MethodName) prog_15_method_6_code (1 : Nat) (Option.some (Jvm.ClassFile.FieldType.object "java/util/Optional")), Jvm.Cond.code ({ cls := "com/example/periodic_jobs/periodicjobs/engine/FiringQuery", name := "getTo", desc := "()Ljava/util/Optional;" } : Jvm.MethodName) prog_15_method_7_code (1 : Nat) (Option.some (Jvm.ClassFile.FieldType.object "java/util/Optional")), Jvm.Cond.code ({ cls := "com/example/periodic_jobs/periodicjobs/engine/FiringQuery", name := "getLimit", desc := "()I" } : Jvm.MethodName) prog_15_method_8_code (1 : Nat) (Option.some Jvm.ClassFile.FieldType.int), Jvm.Cond.code ({ cls := "com/example/periodic_jobs/periodicjobs/engine/FiringQuery", name := "getAfterScheduledAt", desc := "()Ljava/util/Optional;" } : Jvm.MethodName) prog_15_method_11_code (1 : Nat) (Option.some (Jvm.ClassFile.FieldType.object "java/util/Optional")), Jvm.Cond.code ({ cls := "com/example/periodic_jobs/periodicjobs/engine/FiringQuery", name := "getAfterKind", desc := "()Lcom/example/periodic_jobs/periodicjobs/engine/FiringKind;" } : Jvm.MethodName) prog_15_method_12_code (1 : Nat) (Option.some (Jvm.ClassFile.FieldType.object "com/example/periodic_jobs/periodicjobs/engine/FiringKind")), Jvm.Cond.code ({ cls := "com/example/periodic_jobs/periodicjobs/engine/FiringQuery", name := "getAfterId", desc := "()Ljava/util/UUID;" } : Jvm.MethodName) prog_15_method_13_code (1 : Nat) (Option.some (Jvm.ClassFile.FieldType.object "java/util/UUID"))]
set_option maxRecDepth 65536 in
theorem codes_eq : words1.filter isCode = codes1 := rfl
theorem w_codes : ∀ c ∈ words1.filter isCode, c.before args0 about1 = true := by
  rw [codes_eq]
  intro c hc
  simp only [codes1, List.mem_cons, List.not_mem_nil, or_false] at hc
  rcases hc with rfl | rfl | rfl | rfl | rfl | rfl | rfl | rfl | rfl | rfl | rfl | rfl | rfl | rfl
  · exact w_c0
  · exact w_c1
  · exact w_c2
  · exact w_c3
  · exact w_c4
  · exact w_c5
  · exact w_c6
  · exact w_c7
  · exact w_c8
  · exact w_c9
  · exact w_c10
  · exact w_c11
  · exact w_c12
  · exact w_c13
set_option maxRecDepth 65536 in
theorem w_t1 : (words1.take 24).all (fun c => isCode c || c.before args0 about1) = true := by decide +kernel
set_option maxRecDepth 65536 in
theorem w_t2 : ((words1.drop 24).take 24).all (fun c => isCode c || c.before args0 about1) = true := by decide +kernel
set_option maxRecDepth 65536 in
theorem w_t3 : (((words1.drop 24).drop 24).take 24).all (fun c => isCode c || c.before args0 about1) = true := by decide +kernel
set_option maxRecDepth 65536 in
theorem w_t4 : (((words1.drop 24).drop 24).drop 24).all (fun c => isCode c || c.before args0 about1) = true := by decide +kernel
theorem w_tables : (allAtoms (Jvm.Cond.code x code maxLocals ret :: tables_1)).before args0 about1 = true := by
  rw [allAtoms_all]
  show words1.all (fun c => c.before args0 about1) = true
  refine all_split ?_ w_codes
  rw [← List.take_append_drop 24 words1, List.all_append, w_t1, ← List.take_append_drop 24 (words1.drop 24), List.all_append, w_t2, ← List.take_append_drop 24 ((words1.drop 24).drop 24), List.all_append, w_t3, w_t4]
  rfl
set_option maxRecDepth 65536 in
theorem w_rest : rest_1_c.before args0 about1 = true := by decide +kernel
set_option maxRecDepth 65536 in
theorem w_case : (Jvm.Cond.and given_1 narrow_1).before args0 about1 = true := by decide +kernel
theorem w_applies : (headSpec (Jvm.Cond.code x code maxLocals ret :: tables_1) room_1).applies x e0.platform about1 = true :=
  (Spec.applies_iff w_frames).mpr ⟨w_running, w_runnable, w_alone, w_named, w_hears, w_ripe, w_room, w_tables⟩
theorem atStart : AtStart classFile x code maxLocals ret World_1 tables_1 room_1 Calls_1 rest_1 Pre_1 launch0 p0 e0 about1 theMethod args0 below0 :=
  ⟨lists_1, trivial, launch0.admits_env _ _ _, launch0.least_env, fairChoices_fair.cas, fairChoices_fair.clock, w_frames, w_args, w_heap, w_applies, trivial, w_rest, w_case⟩
end start1
theorem witness_1 : WitnessClaimed_1 := ⟨start1.p0, start1.e0, start1.about1, start1.theMethod, start1.args0, start1.below0, start1.atStart⟩
end Jvm.Pilot.@@N@@
