import JvmDerived
import JvmDerived.Pilot.@@N@@Statement
import JvmDerived.Pilot.@@N@@Code
set_option linter.unusedVariables false
set_option linter.unusedSimpArgs false
namespace Jvm.RoadKit
open Sem ClassFile Op Lib Jvm.Stand Jvm.Free Jvm.LawKit
section New
variable {p : Program} {l : Launch} {e : Env} {R : Room} {s : State} {m : MethodId} {args : Array Value} {below : List Frame} {meth : Method} {c : Code} {T : State} {locs : List Loc} {cells slots : Nat}
theorem retI (X : Stand p l e R s m args below meth c T locs cells slots) (hx : p.tables.exec = Jvm.exec) {pc : Nat} {Ls : Array Slot} {z : Int32} {rest : List Value} (hret : meth.sig.returnType = some .int) (hd : decode c.code pc = .ok (.ireturn, 1)) {fs : List Frame}
    (hl : ∀ (f : JFrame) (acts : List Action), f.method = m → f.locked = none → f.entered = [] → (doReturn e (T.setTop f) acts (some (.int z))).1 = T.setFrames fs) : Steps p.tables e below (T.setTop (mkF m pc Ls (.int z :: rest))) (T.setFrames fs) := retOut X hx hret rfl (Or.inl ⟨rfl, Or.inl rfl, z, rfl⟩) hd hl
end New
end Jvm.RoadKit
namespace Jvm.Pilot.@@N@@
open Jvm Jvm.ClassFile Sem Op Lib Jvm.Free Jvm.Stand Jvm.LawKit Jvm.RoadKit Bundle Jvm.Pilot.@@N@@.Jvm.D
def own_Go (tb : Tables) (e : Env) (below : List Frame) (R : Outcome → State → Prop) (S : State) : Prop := ∃ s₂ o, Steps tb e below S s₂ ∧ s₂.status = .running ∧ Ended s₂ below o ∧ R o s₂
theorem own_go {tb : Tables} {e : Env} {below : List Frame} {R : Outcome → State → Prop} {S S' : State} (k : ∀ t, Steps tb e below S' t → Steps tb e below S t) (h : own_Go tb e below R S') : own_Go tb e below R S := by
  obtain ⟨a, b, c, d⟩ := h
  exact ⟨a, b, k _ c, d⟩
theorem own_to {tb : Tables} {e : Env} {below : List Frame} {R : Outcome → State → Prop} {S S' : State} (k : Steps tb e below S S') (h : own_Go tb e below R S') : own_Go tb e below R S := by
  obtain ⟨a, b, c, d⟩ := h
  exact ⟨a, b, k.trans c, d⟩
theorem own_narR {t : FieldType} {v : Value} (ht : t.isReference = true) (hv : v.isRef = true) : narrow t v = v := by
  cases t <;> first | (cases ht; done) | (cases v <;> first | rfl | (cases hv; done))
theorem own_le7 (x : Int32) : x &&& (7 : Int32) = (0 : Int32) ∨ x &&& (7 : Int32) = (1 : Int32) ∨ x &&& (7 : Int32) = (2 : Int32) ∨ x &&& (7 : Int32) = (3 : Int32) ∨ x &&& (7 : Int32) = (4 : Int32) ∨ x &&& (7 : Int32) = (5 : Int32) ∨ x &&& (7 : Int32) = (6 : Int32) ∨ x &&& (7 : Int32) = (7 : Int32) := by
  have h := c_mask x 7 3 (by decide) (by decide)
  simp only [← Int32.toInt_inj]
  generalize (x &&& 7).toInt = y at h ⊢
  have e0 : (0 : Int32).toInt = 0 := by decide
  have e1 : (1 : Int32).toInt = 1 := by decide
  have e2 : (2 : Int32).toInt = 2 := by decide
  have e3 : (3 : Int32).toInt = 3 := by decide
  have e4 : (4 : Int32).toInt = 4 := by decide
  have e5 : (5 : Int32).toInt = 5 := by decide
  have e6 : (6 : Int32).toInt = 6 := by decide
  have e7 : (7 : Int32).toInt = 7 := by decide
  omega
def own_l8 (f : Nat → Int64) : List Value := [.long (f 0), .long (f 1), .long (f 2), .long (f 3), .long (f 4), .long (f 5), .long (f 6), .long (f 7)]
def own_upd (f : Nat → Int64) (o : Int32) (c : Int64) : Nat → Int64 := fun i => if i = o.toNatClampNeg then f i + c else f i
def own_sum (f g : Nat → Int64) : Nat → Int64 := fun i => f i + g i
def own_zero : Nat → Int64 := fun _ => 0
def own_tot (k sD : Addr) (t c : Int64) : Int64 := if (Value.ref k) = (Value.ref sD) then t else t + c
def own_kind (i : Int32) (s0 s1 s2 s3 s4 s5 s6 s7 : Addr) : Addr := if i = 0 then s0 else if i = (1 : Int32) then s1 else if i = (2 : Int32) then s2 else if i = (3 : Int32) then s3 else if i = (4 : Int32) then s4 else if i = (5 : Int32) then s5 else if i = (6 : Int32) then s6 else s7
def own_isp (r sD : Addr) : Int32 := if (Value.ref r) = (Value.ref sD) then 0 else 1
theorem d1_0 : decode method_2_code 0 = .ok (.iload_n 0, 1) := by decide +kernel
theorem d1_1 : decode method_2_code 1 = .ok (.ifCond .ne 7, 3) := by decide +kernel
theorem d1_4 : decode method_2_code 4 = .ok (.getstatic 7, 3) := by decide +kernel
theorem d1_7 : decode method_2_code 7 = .ok (.areturn, 1) := by decide +kernel
theorem d1_8 : decode method_2_code 8 = .ok (.iload_n 0, 1) := by decide +kernel
theorem d1_9 : decode method_2_code 9 = .ok (.iconst 1, 1) := by decide +kernel
theorem d1_10 : decode method_2_code 10 = .ok (.if_icmp .ne 7, 3) := by decide +kernel
theorem d1_13 : decode method_2_code 13 = .ok (.getstatic 13, 3) := by decide +kernel
theorem d1_16 : decode method_2_code 16 = .ok (.areturn, 1) := by decide +kernel
theorem d1_17 : decode method_2_code 17 = .ok (.iload_n 0, 1) := by decide +kernel
theorem d1_18 : decode method_2_code 18 = .ok (.iconst 2, 1) := by decide +kernel
theorem d1_19 : decode method_2_code 19 = .ok (.if_icmp .ne 7, 3) := by decide +kernel
theorem d1_22 : decode method_2_code 22 = .ok (.getstatic 16, 3) := by decide +kernel
theorem d1_25 : decode method_2_code 25 = .ok (.areturn, 1) := by decide +kernel
theorem d1_26 : decode method_2_code 26 = .ok (.iload_n 0, 1) := by decide +kernel
theorem d1_27 : decode method_2_code 27 = .ok (.iconst 3, 1) := by decide +kernel
theorem d1_28 : decode method_2_code 28 = .ok (.if_icmp .ne 7, 3) := by decide +kernel
theorem d1_31 : decode method_2_code 31 = .ok (.getstatic 19, 3) := by decide +kernel
theorem d1_34 : decode method_2_code 34 = .ok (.areturn, 1) := by decide +kernel
theorem d1_35 : decode method_2_code 35 = .ok (.iload_n 0, 1) := by decide +kernel
theorem d1_36 : decode method_2_code 36 = .ok (.iconst 4, 1) := by decide +kernel
theorem d1_37 : decode method_2_code 37 = .ok (.if_icmp .ne 7, 3) := by decide +kernel
theorem d1_40 : decode method_2_code 40 = .ok (.getstatic 22, 3) := by decide +kernel
theorem d1_43 : decode method_2_code 43 = .ok (.areturn, 1) := by decide +kernel
theorem d1_44 : decode method_2_code 44 = .ok (.iload_n 0, 1) := by decide +kernel
theorem d1_45 : decode method_2_code 45 = .ok (.iconst 5, 1) := by decide +kernel
theorem d1_46 : decode method_2_code 46 = .ok (.if_icmp .ne 7, 3) := by decide +kernel
theorem d1_49 : decode method_2_code 49 = .ok (.getstatic 25, 3) := by decide +kernel
theorem d1_52 : decode method_2_code 52 = .ok (.areturn, 1) := by decide +kernel
theorem d1_53 : decode method_2_code 53 = .ok (.iload_n 0, 1) := by decide +kernel
theorem d1_54 : decode method_2_code 54 = .ok (.bipush 6, 2) := by decide +kernel
theorem d1_56 : decode method_2_code 56 = .ok (.if_icmp .ne 7, 3) := by decide +kernel
theorem d1_59 : decode method_2_code 59 = .ok (.getstatic 28, 3) := by decide +kernel
theorem d1_62 : decode method_2_code 62 = .ok (.areturn, 1) := by decide +kernel
theorem d1_63 : decode method_2_code 63 = .ok (.getstatic 31, 3) := by decide +kernel
theorem d1_66 : decode method_2_code 66 = .ok (.areturn, 1) := by decide +kernel
theorem pn_spanwire_protocol_MessageCountsAddAllPinLaw : plainName "spanwire/protocol/MessageCountsAddAllPinLaw" = true := by first | (simp [plainName, overriddenIn]; done) | decide +kernel
theorem ef1 (m : MethodId) (x0 : Int32) : entryFrame m #[(.int x0)] 1 = mkF m 0 #[.val (.int x0)] [] := by first | (simp [entryFrame, mkF, argsToLocals, Value.category]; done) | rfl
def Q1 (Z : State) (i : Int32) (s0 : Addr) (s1 : Addr) (s2 : Addr) (s3 : Addr) (s4 : Addr) (s5 : Addr) (s6 : Addr) (s7 : Addr) (h0 : Heap) (n0 : Nat) (v : Option Value) (h : Heap) (L : List Loc) : Prop := v = some (.ref (own_kind i s0 s1 s2 s3 s4 s5 s6 s7)) ∧ Fr n0 L ∧ h = h0
set_option maxRecDepth 65536 in
set_option maxHeartbeats 40000000 in
theorem rm1 (l : Launch) (Z : State) (a0 : Array Value) (hw : ∀ d ∈ tables_1, d.before a0 Z = true) (ws : List Jvm.Cond) (i : Int32) (s0 : Addr) (s1 : Addr) (s2 : Addr) (s3 : Addr) (s4 : Addr) (s5 : Addr) (s6 : Addr) (s7 : Addr) (h0 : Heap) (n0 : Nat) (Z0 : n0 ≤ h0.size) (O0 : Old Z n0 h0) (S_CONNECT : Sta Z Z.heap "spanwire/protocol/MessageKind" "CONNECT" "Lspanwire/protocol/MessageKind;" (.ref s0)) (S_INITIATE : Sta Z Z.heap "spanwire/protocol/MessageKind" "INITIATE" "Lspanwire/protocol/MessageKind;" (.ref s1)) (S_TEST : Sta Z Z.heap "spanwire/protocol/MessageKind" "TEST" "Lspanwire/protocol/MessageKind;" (.ref s2)) (S_ACCEPT : Sta Z Z.heap "spanwire/protocol/MessageKind" "ACCEPT" "Lspanwire/protocol/MessageKind;" (.ref s3)) (S_REJECT : Sta Z Z.heap "spanwire/protocol/MessageKind" "REJECT" "Lspanwire/protocol/MessageKind;" (.ref s4)) (S_REPORT : Sta Z Z.heap "spanwire/protocol/MessageKind" "REPORT" "Lspanwire/protocol/MessageKind;" (.ref s5)) (S_CHANGE_ROOT : Sta Z Z.heap "spanwire/protocol/MessageKind" "CHANGE_ROOT" "Lspanwire/protocol/MessageKind;" (.ref s6)) (S_DONE : Sta Z Z.heap "spanwire/protocol/MessageKind" "DONE" "Lspanwire/protocol/MessageKind;" (.ref s7)) :
    MetFree l (⟨"spanwire/protocol/MessageCountsAddAllPinLaw", "kind", "(I)Lspanwire/protocol/MessageKind;"⟩ : MethodName) (head1 (Jvm.Cond.code (⟨"spanwire/protocol/MessageCountsAddAllPinLaw", "kind", "(I)Lspanwire/protocol/MessageKind;"⟩ : MethodName) method_2_code 1 ((Option.some (FieldType.object "spanwire/protocol/MessageKind"))) :: ws) ({ frames := 0, cells := 0, slots := 0, locals := 0 } : Room)) (fun aa U => aa = #[(.int i)] ∧ Z.Warmed39 U.vm ∧ U.heap = h0) (fun _ _ _ _ _ => True) (fun _ U ou U' => ∃ v L, ou = .returned v ∧ Q1 Z i s0 s1 s2 s3 s4 s5 s6 s7 h0 n0 v U'.heap L ∧ FrameEnd U ou U' L ({ frames := 0, cells := 0, slots := 0, locals := 0 } : Room).cells ({ frames := 0, cells := 0, slots := 0, locals := 0 } : Room).slots) := by
  refine MetFree.of_bodySF (plainFor_of_name pn_spanwire_protocol_MessageCountsAddAllPinLaw) hisR ?_
  intro pg e s m args below meth c s₁ Bd hml0 hP hK
  obtain ⟨rfl, hZ, hh⟩ := hP
  have hx := Bd.exec
  have hby := Bd.bytes
  have hml : c.maxLocals = 1 := hml0
  have hown : s.vm.findClass "spanwire/protocol/MessageCountsAddAllPinLaw" = some m.cls := findClass_of_methodNamed Bd.named
  have hnm := (name_of_methodNamed Bd.named Bd.method).1
  have X0 : Stand pg l e ({ frames := 0, cells := 0, slots := 0, locals := 0 } : Room) s m #[(.int i)] below meth c s₁ [] 0 0 := Stand.of_body Bd
  have e0 : s₁.heap = h0 := by rw [← hh, Bd.state]; rfl
  have N0 := Fr.nil n0
  show own_Go pg.tables e below (fun ou U' => ∃ v L, ou = .returned v ∧ Q1 Z i s0 s1 s2 s3 s4 s5 s6 s7 h0 n0 v U'.heap L ∧ FrameEnd s ou U' L ({ frames := 0, cells := 0, slots := 0, locals := 0 } : Room).cells ({ frames := 0, cells := 0, slots := 0, locals := 0 } : Room).slots) (s₁.setTop (entryFrame m #[(.int i)] 1))
  refine own_go (S' := s₁.setTop (mkF m 0 #[.val (.int i)] [])) (fun tg kk => castTop (ef1 m i) kk) ?_
  refine own_go (S' := s₁.setTop (mkF m 1 #[.val (.int i)] [(.int i)])) (fun tg kk => XS.iloadN X0.here hx rfl (hb hby d1_0) rfl kk) ?_
  by_cases c1 : i = 0
  · refine own_go (S' := s₁.setTop (mkF m 4 #[.val (.int i)] [])) (fun tg kk => XS.ifNo X0.here hx rfl (hb hby d1_1) rfl (XT.i0_ne_f c1) kk) ?_
    obtain ⟨T2, X2, e2, st2⟩ := getS (host := "") X0 hx hZ hown (hw _ (List.mem_of_getElem? (i := 4) rfl)) Via.refl e0 (S_CONNECT.ext O0.2) (g := (mkF m 4 #[.val (.int i)] [])) rfl (hb hby d1_4)
    refine own_go (S' := T2.setTop (mkF m 7 #[.val (.int i)] [(.ref s0)])) (st2) ?_
    obtain ⟨fs, hr, hrun, hended, hW, hsame⟩ := X2.leave (v := some (.ref s0)) (fun h => by rw [Bd.returns] at h; cases h)
    refine ⟨_, _, retOut X2 hx (i := .areturn) Bd.returns (own_narR rfl rfl) (Or.inr (Or.inr (Or.inr (Or.inr ⟨rfl, rfl, rfl⟩)))) (hb hby d1_7) hr, hrun, hended, _, _, rfl, ?_, ⟨_, rfl⟩, hW, hsame.mono (by decide) (by decide)⟩
    show Q1 Z i s0 s1 s2 s3 s4 s5 s6 s7 h0 n0 (some (.ref s0)) T2.heap _
    rw [e2]
    exact ⟨by unfold own_kind; rw [if_pos c1], N0, rfl⟩
  · refine own_go (S' := s₁.setTop (mkF m 8 #[.val (.int i)] [])) (fun tg kk => XS.ifYes X0.here hx rfl (pc0 := 1) (pc' := 8) rfl (hb hby d1_1) rfl (XT.i0_ne_t c1) (by decide) (by decide) kk) ?_
    refine own_go (S' := s₁.setTop (mkF m 9 #[.val (.int i)] [(.int i)])) (fun tg kk => XS.iloadN X0.here hx rfl (hb hby d1_8) rfl kk) ?_
    refine own_go (S' := s₁.setTop (mkF m 10 #[.val (.int i)] [(.int (1 : Int32)), (.int i)])) (fun tg kk => XT.iconstV X0.here hx rfl (1 : Int32) (hb hby d1_9) (by decide) kk) ?_
    by_cases c3 : i = (1 : Int32)
    · refine own_go (S' := s₁.setTop (mkF m 13 #[.val (.int i)] [])) (fun tg kk => XS.icmpNo X0.here hx rfl (hb hby d1_10) rfl (XT.ii_ne_f c3) kk) ?_
      obtain ⟨T4, X4, e4, st4⟩ := getS (host := "") X0 hx hZ hown (hw _ (List.mem_of_getElem? (i := 7) rfl)) Via.refl e0 (S_INITIATE.ext O0.2) (g := (mkF m 13 #[.val (.int i)] [])) rfl (hb hby d1_13)
      refine own_go (S' := T4.setTop (mkF m 16 #[.val (.int i)] [(.ref s1)])) (st4) ?_
      obtain ⟨fs, hr, hrun, hended, hW, hsame⟩ := X4.leave (v := some (.ref s1)) (fun h => by rw [Bd.returns] at h; cases h)
      refine ⟨_, _, retOut X4 hx (i := .areturn) Bd.returns (own_narR rfl rfl) (Or.inr (Or.inr (Or.inr (Or.inr ⟨rfl, rfl, rfl⟩)))) (hb hby d1_16) hr, hrun, hended, _, _, rfl, ?_, ⟨_, rfl⟩, hW, hsame.mono (by decide) (by decide)⟩
      show Q1 Z i s0 s1 s2 s3 s4 s5 s6 s7 h0 n0 (some (.ref s1)) T4.heap _
      rw [e4]
      exact ⟨by unfold own_kind; rw [if_neg c1, if_pos c3], N0, rfl⟩
    · refine own_go (S' := s₁.setTop (mkF m 17 #[.val (.int i)] [])) (fun tg kk => XS.icmpYes X0.here hx rfl (pc0 := 10) (pc' := 17) rfl (hb hby d1_10) rfl (XT.ii_ne_t c3) (by decide) (by decide) kk) ?_
      refine own_go (S' := s₁.setTop (mkF m 18 #[.val (.int i)] [(.int i)])) (fun tg kk => XS.iloadN X0.here hx rfl (hb hby d1_17) rfl kk) ?_
      refine own_go (S' := s₁.setTop (mkF m 19 #[.val (.int i)] [(.int (2 : Int32)), (.int i)])) (fun tg kk => XT.iconstV X0.here hx rfl (2 : Int32) (hb hby d1_18) (by decide) kk) ?_
      by_cases c5 : i = (2 : Int32)
      · refine own_go (S' := s₁.setTop (mkF m 22 #[.val (.int i)] [])) (fun tg kk => XS.icmpNo X0.here hx rfl (hb hby d1_19) rfl (XT.ii_ne_f c5) kk) ?_
        obtain ⟨T6, X6, e6, st6⟩ := getS (host := "") X0 hx hZ hown (hw _ (List.mem_of_getElem? (i := 9) rfl)) Via.refl e0 (S_TEST.ext O0.2) (g := (mkF m 22 #[.val (.int i)] [])) rfl (hb hby d1_22)
        refine own_go (S' := T6.setTop (mkF m 25 #[.val (.int i)] [(.ref s2)])) (st6) ?_
        obtain ⟨fs, hr, hrun, hended, hW, hsame⟩ := X6.leave (v := some (.ref s2)) (fun h => by rw [Bd.returns] at h; cases h)
        refine ⟨_, _, retOut X6 hx (i := .areturn) Bd.returns (own_narR rfl rfl) (Or.inr (Or.inr (Or.inr (Or.inr ⟨rfl, rfl, rfl⟩)))) (hb hby d1_25) hr, hrun, hended, _, _, rfl, ?_, ⟨_, rfl⟩, hW, hsame.mono (by decide) (by decide)⟩
        show Q1 Z i s0 s1 s2 s3 s4 s5 s6 s7 h0 n0 (some (.ref s2)) T6.heap _
        rw [e6]
        exact ⟨by unfold own_kind; rw [if_neg c1, if_neg c3, if_pos c5], N0, rfl⟩
      · refine own_go (S' := s₁.setTop (mkF m 26 #[.val (.int i)] [])) (fun tg kk => XS.icmpYes X0.here hx rfl (pc0 := 19) (pc' := 26) rfl (hb hby d1_19) rfl (XT.ii_ne_t c5) (by decide) (by decide) kk) ?_
        refine own_go (S' := s₁.setTop (mkF m 27 #[.val (.int i)] [(.int i)])) (fun tg kk => XS.iloadN X0.here hx rfl (hb hby d1_26) rfl kk) ?_
        refine own_go (S' := s₁.setTop (mkF m 28 #[.val (.int i)] [(.int (3 : Int32)), (.int i)])) (fun tg kk => XT.iconstV X0.here hx rfl (3 : Int32) (hb hby d1_27) (by decide) kk) ?_
        by_cases c7 : i = (3 : Int32)
        · refine own_go (S' := s₁.setTop (mkF m 31 #[.val (.int i)] [])) (fun tg kk => XS.icmpNo X0.here hx rfl (hb hby d1_28) rfl (XT.ii_ne_f c7) kk) ?_
          obtain ⟨T8, X8, e8, st8⟩ := getS (host := "") X0 hx hZ hown (hw _ (List.mem_of_getElem? (i := 82) rfl)) Via.refl e0 (S_ACCEPT.ext O0.2) (g := (mkF m 31 #[.val (.int i)] [])) rfl (hb hby d1_31)
          refine own_go (S' := T8.setTop (mkF m 34 #[.val (.int i)] [(.ref s3)])) (st8) ?_
          obtain ⟨fs, hr, hrun, hended, hW, hsame⟩ := X8.leave (v := some (.ref s3)) (fun h => by rw [Bd.returns] at h; cases h)
          refine ⟨_, _, retOut X8 hx (i := .areturn) Bd.returns (own_narR rfl rfl) (Or.inr (Or.inr (Or.inr (Or.inr ⟨rfl, rfl, rfl⟩)))) (hb hby d1_34) hr, hrun, hended, _, _, rfl, ?_, ⟨_, rfl⟩, hW, hsame.mono (by decide) (by decide)⟩
          show Q1 Z i s0 s1 s2 s3 s4 s5 s6 s7 h0 n0 (some (.ref s3)) T8.heap _
          rw [e8]
          exact ⟨by unfold own_kind; rw [if_neg c1, if_neg c3, if_neg c5, if_pos c7], N0, rfl⟩
        · refine own_go (S' := s₁.setTop (mkF m 35 #[.val (.int i)] [])) (fun tg kk => XS.icmpYes X0.here hx rfl (pc0 := 28) (pc' := 35) rfl (hb hby d1_28) rfl (XT.ii_ne_t c7) (by decide) (by decide) kk) ?_
          refine own_go (S' := s₁.setTop (mkF m 36 #[.val (.int i)] [(.int i)])) (fun tg kk => XS.iloadN X0.here hx rfl (hb hby d1_35) rfl kk) ?_
          refine own_go (S' := s₁.setTop (mkF m 37 #[.val (.int i)] [(.int (4 : Int32)), (.int i)])) (fun tg kk => XT.iconstV X0.here hx rfl (4 : Int32) (hb hby d1_36) (by decide) kk) ?_
          by_cases c9 : i = (4 : Int32)
          · refine own_go (S' := s₁.setTop (mkF m 40 #[.val (.int i)] [])) (fun tg kk => XS.icmpNo X0.here hx rfl (hb hby d1_37) rfl (XT.ii_ne_f c9) kk) ?_
            obtain ⟨T10, X10, e10, st10⟩ := getS (host := "") X0 hx hZ hown (hw _ (List.mem_of_getElem? (i := 84) rfl)) Via.refl e0 (S_REJECT.ext O0.2) (g := (mkF m 40 #[.val (.int i)] [])) rfl (hb hby d1_40)
            refine own_go (S' := T10.setTop (mkF m 43 #[.val (.int i)] [(.ref s4)])) (st10) ?_
            obtain ⟨fs, hr, hrun, hended, hW, hsame⟩ := X10.leave (v := some (.ref s4)) (fun h => by rw [Bd.returns] at h; cases h)
            refine ⟨_, _, retOut X10 hx (i := .areturn) Bd.returns (own_narR rfl rfl) (Or.inr (Or.inr (Or.inr (Or.inr ⟨rfl, rfl, rfl⟩)))) (hb hby d1_43) hr, hrun, hended, _, _, rfl, ?_, ⟨_, rfl⟩, hW, hsame.mono (by decide) (by decide)⟩
            show Q1 Z i s0 s1 s2 s3 s4 s5 s6 s7 h0 n0 (some (.ref s4)) T10.heap _
            rw [e10]
            exact ⟨by unfold own_kind; rw [if_neg c1, if_neg c3, if_neg c5, if_neg c7, if_pos c9], N0, rfl⟩
          · refine own_go (S' := s₁.setTop (mkF m 44 #[.val (.int i)] [])) (fun tg kk => XS.icmpYes X0.here hx rfl (pc0 := 37) (pc' := 44) rfl (hb hby d1_37) rfl (XT.ii_ne_t c9) (by decide) (by decide) kk) ?_
            refine own_go (S' := s₁.setTop (mkF m 45 #[.val (.int i)] [(.int i)])) (fun tg kk => XS.iloadN X0.here hx rfl (hb hby d1_44) rfl kk) ?_
            refine own_go (S' := s₁.setTop (mkF m 46 #[.val (.int i)] [(.int (5 : Int32)), (.int i)])) (fun tg kk => XT.iconstV X0.here hx rfl (5 : Int32) (hb hby d1_45) (by decide) kk) ?_
            by_cases c11 : i = (5 : Int32)
            · refine own_go (S' := s₁.setTop (mkF m 49 #[.val (.int i)] [])) (fun tg kk => XS.icmpNo X0.here hx rfl (hb hby d1_46) rfl (XT.ii_ne_f c11) kk) ?_
              obtain ⟨T12, X12, e12, st12⟩ := getS (host := "") X0 hx hZ hown (hw _ (List.mem_of_getElem? (i := 81) rfl)) Via.refl e0 (S_REPORT.ext O0.2) (g := (mkF m 49 #[.val (.int i)] [])) rfl (hb hby d1_49)
              refine own_go (S' := T12.setTop (mkF m 52 #[.val (.int i)] [(.ref s5)])) (st12) ?_
              obtain ⟨fs, hr, hrun, hended, hW, hsame⟩ := X12.leave (v := some (.ref s5)) (fun h => by rw [Bd.returns] at h; cases h)
              refine ⟨_, _, retOut X12 hx (i := .areturn) Bd.returns (own_narR rfl rfl) (Or.inr (Or.inr (Or.inr (Or.inr ⟨rfl, rfl, rfl⟩)))) (hb hby d1_52) hr, hrun, hended, _, _, rfl, ?_, ⟨_, rfl⟩, hW, hsame.mono (by decide) (by decide)⟩
              show Q1 Z i s0 s1 s2 s3 s4 s5 s6 s7 h0 n0 (some (.ref s5)) T12.heap _
              rw [e12]
              exact ⟨by unfold own_kind; rw [if_neg c1, if_neg c3, if_neg c5, if_neg c7, if_neg c9, if_pos c11], N0, rfl⟩
            · refine own_go (S' := s₁.setTop (mkF m 53 #[.val (.int i)] [])) (fun tg kk => XS.icmpYes X0.here hx rfl (pc0 := 46) (pc' := 53) rfl (hb hby d1_46) rfl (XT.ii_ne_t c11) (by decide) (by decide) kk) ?_
              refine own_go (S' := s₁.setTop (mkF m 54 #[.val (.int i)] [(.int i)])) (fun tg kk => XS.iloadN X0.here hx rfl (hb hby d1_53) rfl kk) ?_
              refine own_go (S' := s₁.setTop (mkF m 56 #[.val (.int i)] [(.int (6 : Int32)), (.int i)])) (fun tg kk => XT.bipushV X0.here hx rfl (6 : Int32) (hb hby d1_54) (by decide) kk) ?_
              by_cases c13 : i = (6 : Int32)
              · refine own_go (S' := s₁.setTop (mkF m 59 #[.val (.int i)] [])) (fun tg kk => XS.icmpNo X0.here hx rfl (hb hby d1_56) rfl (XT.ii_ne_f c13) kk) ?_
                obtain ⟨T14, X14, e14, st14⟩ := getS (host := "") X0 hx hZ hown (hw _ (List.mem_of_getElem? (i := 80) rfl)) Via.refl e0 (S_CHANGE_ROOT.ext O0.2) (g := (mkF m 59 #[.val (.int i)] [])) rfl (hb hby d1_59)
                refine own_go (S' := T14.setTop (mkF m 62 #[.val (.int i)] [(.ref s6)])) (st14) ?_
                obtain ⟨fs, hr, hrun, hended, hW, hsame⟩ := X14.leave (v := some (.ref s6)) (fun h => by rw [Bd.returns] at h; cases h)
                refine ⟨_, _, retOut X14 hx (i := .areturn) Bd.returns (own_narR rfl rfl) (Or.inr (Or.inr (Or.inr (Or.inr ⟨rfl, rfl, rfl⟩)))) (hb hby d1_62) hr, hrun, hended, _, _, rfl, ?_, ⟨_, rfl⟩, hW, hsame.mono (by decide) (by decide)⟩
                show Q1 Z i s0 s1 s2 s3 s4 s5 s6 s7 h0 n0 (some (.ref s6)) T14.heap _
                rw [e14]
                exact ⟨by unfold own_kind; rw [if_neg c1, if_neg c3, if_neg c5, if_neg c7, if_neg c9, if_neg c11, if_pos c13], N0, rfl⟩
              · refine own_go (S' := s₁.setTop (mkF m 63 #[.val (.int i)] [])) (fun tg kk => XS.icmpYes X0.here hx rfl (pc0 := 56) (pc' := 63) rfl (hb hby d1_56) rfl (XT.ii_ne_t c13) (by decide) (by decide) kk) ?_
                obtain ⟨T15, X15, e15, st15⟩ := getS (host := "") X0 hx hZ hown (hw _ (List.mem_of_getElem? (i := 83) rfl)) Via.refl e0 (S_DONE.ext O0.2) (g := (mkF m 63 #[.val (.int i)] [])) rfl (hb hby d1_63)
                refine own_go (S' := T15.setTop (mkF m 66 #[.val (.int i)] [(.ref s7)])) (st15) ?_
                obtain ⟨fs, hr, hrun, hended, hW, hsame⟩ := X15.leave (v := some (.ref s7)) (fun h => by rw [Bd.returns] at h; cases h)
                refine ⟨_, _, retOut X15 hx (i := .areturn) Bd.returns (own_narR rfl rfl) (Or.inr (Or.inr (Or.inr (Or.inr ⟨rfl, rfl, rfl⟩)))) (hb hby d1_66) hr, hrun, hended, _, _, rfl, ?_, ⟨_, rfl⟩, hW, hsame.mono (by decide) (by decide)⟩
                show Q1 Z i s0 s1 s2 s3 s4 s5 s6 s7 h0 n0 (some (.ref s7)) T15.heap _
                rw [e15]
                exact ⟨by unfold own_kind; rw [if_neg c1, if_neg c3, if_neg c5, if_neg c7, if_neg c9, if_neg c11, if_neg c13], N0, rfl⟩
theorem d6_0 : decode jdk_37_method_2_code 0 = .ok (.aload_n 0, 1) := by decide +kernel
theorem d6_1 : decode jdk_37_method_2_code 1 = .ok (.getfield 7, 3) := by decide +kernel
theorem d6_4 : decode jdk_37_method_2_code 4 = .ok (.ireturn, 1) := by decide +kernel
theorem pn_java_lang_Enum : plainName "java/lang/Enum" = true := by first | (simp [plainName, overriddenIn]; done) | decide +kernel
theorem ef6 (m : MethodId) (x0 : Addr) : entryFrame m #[(.ref x0)] 1 = mkF m 0 #[.val (.ref x0)] [] := by first | (simp [entryFrame, mkF, argsToLocals, Value.category]; done) | rfl
def Q6 (Z : State) (r : Addr) (o : Int32) (h0 : Heap) (n0 : Nat) (v : Option Value) (h : Heap) (L : List Loc) : Prop := v = some (.int o) ∧ Fr n0 L ∧ h = h0
set_option maxRecDepth 65536 in
set_option maxHeartbeats 40000000 in
theorem rm6 (l : Launch) (Z : State) (a0 : Array Value) (hw : ∀ d ∈ tables_1, d.before a0 Z = true) (ws : List Jvm.Cond) (r : Addr) (o : Int32) (h0 : Heap) (n0 : Nat) (Z0 : n0 ≤ h0.size) (O0 : Old Z n0 h0) (Fo : Fld Z Z.heap r "java/lang/Enum" "ordinal" "I" (.int o)) :
    MetFree l (⟨"java/lang/Enum", "ordinal", "()I"⟩ : MethodName) (head1 (Jvm.Cond.code (⟨"java/lang/Enum", "ordinal", "()I"⟩ : MethodName) jdk_37_method_2_code 1 ((Option.some FieldType.int)) :: ws) ({ frames := 0, cells := 0, slots := 0, locals := 0 } : Room)) (fun aa U => aa = #[(.ref r)] ∧ Z.Warmed39 U.vm ∧ U.heap = h0) (fun _ _ _ _ _ => True) (fun _ U ou U' => ∃ v L, ou = .returned v ∧ Q6 Z r o h0 n0 v U'.heap L ∧ FrameEnd U ou U' L ({ frames := 0, cells := 0, slots := 0, locals := 0 } : Room).cells ({ frames := 0, cells := 0, slots := 0, locals := 0 } : Room).slots) := by
  refine MetFree.of_bodySF (plainFor_of_name pn_java_lang_Enum) hisR ?_
  intro pg e s m args below meth c s₁ Bd hml0 hP hK
  obtain ⟨rfl, hZ, hh⟩ := hP
  have hx := Bd.exec
  have hby := Bd.bytes
  have hml : c.maxLocals = 1 := hml0
  have hown : s.vm.findClass "java/lang/Enum" = some m.cls := findClass_of_methodNamed Bd.named
  have hnm := (name_of_methodNamed Bd.named Bd.method).1
  have X0 : Stand pg l e ({ frames := 0, cells := 0, slots := 0, locals := 0 } : Room) s m #[(.ref r)] below meth c s₁ [] 0 0 := Stand.of_body Bd
  have e0 : s₁.heap = h0 := by rw [← hh, Bd.state]; rfl
  have N0 := Fr.nil n0
  show own_Go pg.tables e below (fun ou U' => ∃ v L, ou = .returned v ∧ Q6 Z r o h0 n0 v U'.heap L ∧ FrameEnd s ou U' L ({ frames := 0, cells := 0, slots := 0, locals := 0 } : Room).cells ({ frames := 0, cells := 0, slots := 0, locals := 0 } : Room).slots) (s₁.setTop (entryFrame m #[(.ref r)] 1))
  refine own_go (S' := s₁.setTop (mkF m 0 #[.val (.ref r)] [])) (fun tg kk => castTop (ef6 m r) kk) ?_
  refine own_go (S' := s₁.setTop (mkF m 1 #[.val (.ref r)] [(.ref r)])) (fun tg kk => XS.aloadN X0.here hx rfl (hb hby d6_0) rfl rfl kk) ?_
  obtain ⟨T1, X1, e1, st1⟩ := getF X0 hx hZ hown (host := "") (Or.inl (hw _ (List.mem_of_getElem? (i := 55) rfl))) Via.refl e0 (Fo.ext O0.2) (g := (mkF m 1 #[.val (.ref r)] [(.ref r)])) rfl rfl (hb hby d6_1)
  refine own_go (S' := T1.setTop (mkF m 4 #[.val (.ref r)] [(.int o)])) (st1) ?_
  obtain ⟨fs, hr, hrun, hended, hW, hsame⟩ := X1.leave (v := some (.int o)) (fun h => by rw [Bd.returns] at h; cases h)
  refine ⟨_, _, retI X1 hx Bd.returns (hb hby d6_4) hr, hrun, hended, _, _, rfl, ?_, ⟨_, rfl⟩, hW, hsame.mono (by decide) (by decide)⟩
  show Q6 Z r o h0 n0 (some (.int o)) T1.heap _
  rw [e1]
  exact ⟨rfl, N0, rfl⟩
theorem d7_0 : decode prog_75_method_5_code 0 = .ok (.aload_n 0, 1) := by decide +kernel
theorem d7_1 : decode prog_75_method_5_code 1 = .ok (.getstatic 25, 3) := by decide +kernel
theorem d7_4 : decode prog_75_method_5_code 4 = .ok (.if_acmp .eq 7, 3) := by decide +kernel
theorem d7_11 : decode prog_75_method_5_code 11 = .ok (.iconst 0, 1) := by decide +kernel
theorem d7_12 : decode prog_75_method_5_code 12 = .ok (.ireturn, 1) := by decide +kernel
theorem d7_7 : decode prog_75_method_5_code 7 = .ok (.iconst 1, 1) := by decide +kernel
theorem d7_8 : decode prog_75_method_5_code 8 = .ok (.goto 4, 3) := by decide +kernel
theorem pn_spanwire_protocol_MessageKind : plainName "spanwire/protocol/MessageKind" = true := by first | (simp [plainName, overriddenIn]; done) | decide +kernel
theorem ef7 (m : MethodId) (x0 : Addr) : entryFrame m #[(.ref x0)] 1 = mkF m 0 #[.val (.ref x0)] [] := by first | (simp [entryFrame, mkF, argsToLocals, Value.category]; done) | rfl
def Q7 (Z : State) (r : Addr) (sD : Addr) (h0 : Heap) (n0 : Nat) (v : Option Value) (h : Heap) (L : List Loc) : Prop := v = some (.int (own_isp r sD)) ∧ Fr n0 L ∧ h = h0
set_option maxRecDepth 65536 in
set_option maxHeartbeats 40000000 in
theorem rm7 (l : Launch) (Z : State) (a0 : Array Value) (hw : ∀ d ∈ tables_1, d.before a0 Z = true) (ws : List Jvm.Cond) (r : Addr) (sD : Addr) (h0 : Heap) (n0 : Nat) (Z0 : n0 ≤ h0.size) (O0 : Old Z n0 h0) (S_DONE : Sta Z Z.heap "spanwire/protocol/MessageKind" "DONE" "Lspanwire/protocol/MessageKind;" (.ref sD)) :
    MetFree l (⟨"spanwire/protocol/MessageKind", "isProtocol", "()Z"⟩ : MethodName) (head1 (Jvm.Cond.code (⟨"spanwire/protocol/MessageKind", "isProtocol", "()Z"⟩ : MethodName) prog_75_method_5_code 1 ((Option.some FieldType.boolean)) :: ws) ({ frames := 0, cells := 0, slots := 0, locals := 0 } : Room)) (fun aa U => aa = #[(.ref r)] ∧ Z.Warmed39 U.vm ∧ U.heap = h0) (fun _ _ _ _ _ => True) (fun _ U ou U' => ∃ v L, ou = .returned v ∧ Q7 Z r sD h0 n0 v U'.heap L ∧ FrameEnd U ou U' L ({ frames := 0, cells := 0, slots := 0, locals := 0 } : Room).cells ({ frames := 0, cells := 0, slots := 0, locals := 0 } : Room).slots) := by
  refine MetFree.of_bodySF (plainFor_of_name pn_spanwire_protocol_MessageKind) hisR ?_
  intro pg e s m args below meth c s₁ Bd hml0 hP hK
  obtain ⟨rfl, hZ, hh⟩ := hP
  have hx := Bd.exec
  have hby := Bd.bytes
  have hml : c.maxLocals = 1 := hml0
  have hown : s.vm.findClass "spanwire/protocol/MessageKind" = some m.cls := findClass_of_methodNamed Bd.named
  have hnm := (name_of_methodNamed Bd.named Bd.method).1
  have X0 : Stand pg l e ({ frames := 0, cells := 0, slots := 0, locals := 0 } : Room) s m #[(.ref r)] below meth c s₁ [] 0 0 := Stand.of_body Bd
  have e0 : s₁.heap = h0 := by rw [← hh, Bd.state]; rfl
  have N0 := Fr.nil n0
  show own_Go pg.tables e below (fun ou U' => ∃ v L, ou = .returned v ∧ Q7 Z r sD h0 n0 v U'.heap L ∧ FrameEnd s ou U' L ({ frames := 0, cells := 0, slots := 0, locals := 0 } : Room).cells ({ frames := 0, cells := 0, slots := 0, locals := 0 } : Room).slots) (s₁.setTop (entryFrame m #[(.ref r)] 1))
  refine own_go (S' := s₁.setTop (mkF m 0 #[.val (.ref r)] [])) (fun tg kk => castTop (ef7 m r) kk) ?_
  refine own_go (S' := s₁.setTop (mkF m 1 #[.val (.ref r)] [(.ref r)])) (fun tg kk => XS.aloadN X0.here hx rfl (hb hby d7_0) rfl rfl kk) ?_
  obtain ⟨T1, X1, e1, st1⟩ := getS (host := "") X0 hx hZ hown (hw _ (List.mem_of_getElem? (i := 62) rfl)) Via.refl e0 (S_DONE.ext O0.2) (g := (mkF m 1 #[.val (.ref r)] [(.ref r)])) rfl (hb hby d7_1)
  refine own_go (S' := T1.setTop (mkF m 4 #[.val (.ref r)] [(.ref sD), (.ref r)])) (st1) ?_
  by_cases c2 : (Value.ref r) = (Value.ref sD)
  · refine own_go (S' := T1.setTop (mkF m 11 #[.val (.ref r)] [])) (fun tg kk => XT.acmpYes X1.here hx rfl (pc0 := 4) (pc' := 11) rfl (hb hby d7_4) rfl rfl rfl (XT.aa_eq_t c2) (by decide) (by decide) kk) ?_
    refine own_go (S' := T1.setTop (mkF m 12 #[.val (.ref r)] [(.int (0 : Int32))])) (fun tg kk => XT.iconstV X1.here hx rfl (0 : Int32) (hb hby d7_11) (by decide) kk) ?_
    obtain ⟨fs, hr, hrun, hended, hW, hsame⟩ := X1.leave (v := some (.int (0 : Int32))) (fun h => by rw [Bd.returns] at h; cases h)
    refine ⟨_, _, retN X1 hx (t := .boolean) Bd.returns (by simp) (hb hby d7_12) hr, hrun, hended, _, _, rfl, ?_, ⟨_, rfl⟩, hW, hsame.mono (by decide) (by decide)⟩
    show Q7 Z r sD h0 n0 (some (.int (0 : Int32))) T1.heap _
    rw [e1]
    exact ⟨by unfold own_isp; rw [if_pos c2], N0, rfl⟩
  · refine own_go (S' := T1.setTop (mkF m 7 #[.val (.ref r)] [])) (fun tg kk => XT.acmpNo X1.here hx rfl (hb hby d7_4) rfl rfl rfl (XT.aa_eq_f c2) kk) ?_
    refine own_go (S' := T1.setTop (mkF m 8 #[.val (.ref r)] [(.int (1 : Int32))])) (fun tg kk => XT.iconstV X1.here hx rfl (1 : Int32) (hb hby d7_7) (by decide) kk) ?_
    refine own_go (S' := T1.setTop (mkF m 12 #[.val (.ref r)] [(.int (1 : Int32))])) (fun tg kk => XS.goto X1.here hx rfl (pc0 := 8) (pc' := 12) rfl (hb hby d7_8) (by decide) (by decide) kk) ?_
    obtain ⟨fs, hr, hrun, hended, hW, hsame⟩ := X1.leave (v := some (.int (1 : Int32))) (fun h => by rw [Bd.returns] at h; cases h)
    refine ⟨_, _, retN X1 hx (t := .boolean) Bd.returns (by simp) (hb hby d7_12) hr, hrun, hended, _, _, rfl, ?_, ⟨_, rfl⟩, hW, hsame.mono (by decide) (by decide)⟩
    show Q7 Z r sD h0 n0 (some (.int (1 : Int32))) T1.heap _
    rw [e1]
    exact ⟨by unfold own_isp; rw [if_neg c2], N0, rfl⟩
theorem d4_0 : decode prog_75_method_1_code 0 = .ok (.getstatic 28, 3) := by decide +kernel
theorem d4_3 : decode prog_75_method_1_code 3 = .ok (.invokevirtual 32, 3) := by decide +kernel
theorem d4_6 : decode prog_75_method_1_code 6 = .ok (.checkcast 33, 3) := by decide +kernel
theorem d4_9 : decode prog_75_method_1_code 9 = .ok (.areturn, 1) := by decide +kernel
theorem ef4 (m : MethodId)  : entryFrame m #[] 0 = mkF m 0 #[] [] := by first | (simp [entryFrame, mkF, argsToLocals, Value.category]; done) | rfl
def Q4 (Z : State) (va : Addr) (clv : Cell) (h0 : Heap) (n0 : Nat) (v : Option Value) (h : Heap) (L : List Loc) : Prop := ∃ (a : Addr) (cl : Cell), v = some (.ref a) ∧ Fr n0 L ∧ Keep h0 h [] ∧ Arr Z h a cl (.object "spanwire/protocol/MessageKind") ∧ cl.slots.size = 8
set_option maxRecDepth 65536 in
set_option maxHeartbeats 40000000 in
theorem rm4 (l : Launch) (Z : State) (a0 : Array Value) (hw : ∀ d ∈ tables_1, d.before a0 Z = true) (ws : List Jvm.Cond) (va : Addr) (clv : Cell) (h0 : Heap) (n0 : Nat) (Z0 : n0 ≤ h0.size) (O0 : Old Z n0 h0) (S_VAL : Sta Z Z.heap "spanwire/protocol/MessageKind" "$VALUES" "[Lspanwire/protocol/MessageKind;" (.ref va)) (A_VAL : Arr Z Z.heap va clv (.object "spanwire/protocol/MessageKind")) (E_VAL : Exa Z Z.heap va "[Lspanwire/protocol/MessageKind;") (C_VAL : FitC Z clv) (L_VAL : clv.slots.size = 8) :
    MetFree l (⟨"spanwire/protocol/MessageKind", "values", "()[Lspanwire/protocol/MessageKind;"⟩ : MethodName) (head1 (Jvm.Cond.code (⟨"spanwire/protocol/MessageKind", "values", "()[Lspanwire/protocol/MessageKind;"⟩ : MethodName) prog_75_method_1_code 0 ((Option.some (FieldType.array (FieldType.object "spanwire/protocol/MessageKind")))) :: ws) ({ frames := 1, cells := 1, slots := 8, locals := 14 } : Room)) (fun aa U => aa = #[] ∧ Z.Warmed39 U.vm ∧ U.heap = h0) (fun _ _ _ _ _ => True) (fun _ U ou U' => ∃ v L, ou = .returned v ∧ Q4 Z va clv h0 n0 v U'.heap L ∧ FrameEnd U ou U' L ({ frames := 1, cells := 1, slots := 8, locals := 14 } : Room).cells ({ frames := 1, cells := 1, slots := 8, locals := 14 } : Room).slots) := by
  refine MetFree.of_bodySF (plainFor_of_name pn_spanwire_protocol_MessageKind) hisR ?_
  intro pg e s m args below meth c s₁ Bd hml0 hP hK
  obtain ⟨rfl, hZ, hh⟩ := hP
  have hx := Bd.exec
  have hby := Bd.bytes
  have hml : c.maxLocals = 0 := hml0
  have hown : s.vm.findClass "spanwire/protocol/MessageKind" = some m.cls := findClass_of_methodNamed Bd.named
  have hnm := (name_of_methodNamed Bd.named Bd.method).1
  have X0 : Stand pg l e ({ frames := 1, cells := 1, slots := 8, locals := 14 } : Room) s m #[] below meth c s₁ [] 0 0 := Stand.of_body Bd
  have e0 : s₁.heap = h0 := by rw [← hh, Bd.state]; rfl
  have N0 := Fr.nil n0
  have K0 : Keep h0 h0 [] := Keep.refl _ _
  show own_Go pg.tables e below (fun ou U' => ∃ v L, ou = .returned v ∧ Q4 Z va clv h0 n0 v U'.heap L ∧ FrameEnd s ou U' L ({ frames := 1, cells := 1, slots := 8, locals := 14 } : Room).cells ({ frames := 1, cells := 1, slots := 8, locals := 14 } : Room).slots) (s₁.setTop (entryFrame m #[] 0))
  refine own_go (S' := s₁.setTop (mkF m 0 #[] [])) (fun tg kk => castTop (ef4 m ) kk) ?_
  obtain ⟨T1, X1, e1, st1⟩ := getS (host := "") X0 hx hZ hown (hw _ (List.mem_of_getElem? (i := 23) rfl)) Via.refl e0 (S_VAL.ext O0.2) (g := (mkF m 0 #[] [])) rfl (hb hby d4_0)
  refine own_go (S' := T1.setTop (mkF m 3 #[] [(.ref va)])) (st1) ?_
  obtain ⟨T2, h2, X2, e2, Ex2, A2, E2, st2⟩ := cloneA X1 hx hZ hown (hw _ (List.mem_of_getElem? (i := 25) rfl)) (hw _ (List.mem_of_getElem? (i := 26) rfl)) (hw _ (List.mem_of_getElem? (i := 30) rfl)) (hw _ (List.mem_of_getElem? (i := 28) rfl)) (hw _ (List.mem_of_getElem? (i := 29) rfl)) (hw _ (List.mem_of_getElem? (i := 31) rfl)) e1 (A_VAL.ext O0.2) (E_VAL.ext O0.2) C_VAL (g := (mkF m 3 #[] [(.ref va)])) rfl (by rw [hml]; rfl) rfl (hb hby d4_3) (by decide) (W := 0) (cap := 8) (by show 2 * 0 + _ ≤ _; exact Nat.le_of_eq rfl) (by decide) (Nat.le_of_eq L_VAL) (by decide) (by decide)
  obtain ⟨a2, g2⟩ : ∃ z, z = h0.size := ⟨_, rfl⟩
  rw [← g2] at A2 E2 st2
  have q2 : n0 ≤ a2 := by rw [g2]; exact Z0
  have r2 : h0.size ≤ a2 := by rw [g2]; exact K0.1
  have O3 : Old Z n0 h2 := O0.ext Ex2
  have Z4 : n0 ≤ h2.size := Nat.le_trans Z0 Ex2.1
  have K5 : Keep h0 h2 [] := K0.ext Ex2
  refine own_go (S' := T2.setTop (mkF m 6 #[] [(.ref a2)])) (st2) ?_
  obtain ⟨T6, X6, e6, st6⟩ := castY X2 hx hZ hown (hw _ (List.mem_of_getElem? (i := 38) rfl)) e2 (Ins.self E2) (g := (mkF m 6 #[] [(.ref a2)])) rfl rfl (hb hby d4_6)
  refine own_go (S' := T6.setTop (mkF m 9 #[] [(.ref a2)])) (st6) ?_
  obtain ⟨fs, hr, hrun, hended, hW, hsame⟩ := X6.leave (v := some (.ref a2)) (fun h => by rw [Bd.returns] at h; cases h)
  refine ⟨_, _, retOut X6 hx (i := .areturn) Bd.returns (own_narR rfl rfl) (Or.inr (Or.inr (Or.inr (Or.inr ⟨rfl, rfl, rfl⟩)))) (hb hby d4_9) hr, hrun, hended, _, _, rfl, ?_, ⟨_, rfl⟩, hW, hsame.mono (by decide) (by decide)⟩
  show Q4 Z va clv h0 n0 (some (.ref a2)) T6.heap _
  rw [e6]
  exact ⟨a2, cloneOf clv, rfl, N0, K5, A2, L_VAL⟩
theorem d2_0 : decode prog_73_method_1_code 0 = .ok (.aload_n 0, 1) := by decide +kernel
theorem d2_1 : decode prog_73_method_1_code 1 = .ok (.invokespecial 1, 3) := by decide +kernel
theorem d2_4 : decode prog_73_method_1_code 4 = .ok (.aload_n 0, 1) := by decide +kernel
theorem pd____Lspanwire_protocol_MessageKind_ : parseMethodDescriptor "()[Lspanwire/protocol/MessageKind;" = some ⟨[], some (.array (.object "spanwire/protocol/MessageKind"))⟩ := by decide +kernel
theorem d2_5 : decode prog_73_method_1_code 5 = .ok (.invokestatic 7, 3) := by decide +kernel
theorem d2_8 : decode prog_73_method_1_code 8 = .ok (.arraylength, 1) := by decide +kernel
theorem d2_9 : decode prog_73_method_1_code 9 = .ok (.newarray .long, 2) := by decide +kernel
theorem d2_11 : decode prog_73_method_1_code 11 = .ok (.putfield 13, 3) := by decide +kernel
theorem d2_14 : decode prog_73_method_1_code 14 = .ok (.return_, 1) := by decide +kernel
theorem pn_spanwire_protocol_MessageCounts : plainName "spanwire/protocol/MessageCounts" = true := by first | (simp [plainName, overriddenIn]; done) | decide +kernel
theorem ef2 (m : MethodId) (x0 : Addr) : entryFrame m #[(.ref x0)] 1 = mkF m 0 #[.val (.ref x0)] [] := by first | (simp [entryFrame, mkF, argsToLocals, Value.category]; done) | rfl
def Q2 (Z : State) (a : Addr) (va : Addr) (clv : Cell) (h0 : Heap) (n0 : Nat) (v : Option Value) (h : Heap) (L : List Loc) : Prop := ∃ (ca : Addr) (k : ClassId), v = none ∧ Fr n0 L ∧ Keep h0 h [a] ∧ Fld Z h a "spanwire/protocol/MessageCounts" "counts" "[J" (.ref ca) ∧ Fld Z h a "spanwire/protocol/MessageCounts" "total" "J" (.long (0 : Int64)) ∧ Arv Z h ca k .long (8 : Int32) (own_l8 own_zero) (.long (0 : Int64)) ∧ n0 ≤ ca ∧ h0.size ≤ ca
set_option maxRecDepth 65536 in
set_option maxHeartbeats 40000000 in
theorem rm2 (l : Launch) (Z : State) (a0 : Array Value) (hw : ∀ d ∈ tables_1, d.before a0 Z = true) (ws : List Jvm.Cond) (a : Addr) (va : Addr) (clv : Cell) (h0 : Heap) (n0 : Nat) (Z0 : n0 ≤ h0.size) (O0 : Old Z n0 h0) (S_VAL : Sta Z Z.heap "spanwire/protocol/MessageKind" "$VALUES" "[Lspanwire/protocol/MessageKind;" (.ref va)) (A_VAL : Arr Z Z.heap va clv (.object "spanwire/protocol/MessageKind")) (E_VAL : Exa Z Z.heap va "[Lspanwire/protocol/MessageKind;") (C_VAL : FitC Z clv) (L_VAL : clv.slots.size = 8) (F1 : Fld Z h0 a "spanwire/protocol/MessageCounts" "counts" "[J" .null) (F2 : Fld Z h0 a "spanwire/protocol/MessageCounts" "total" "J" (.long (0 : Int64))) (E1 : Exa Z h0 a "spanwire/protocol/MessageCounts") (g1 : n0 ≤ a) :
    MetFree l (⟨"spanwire/protocol/MessageCounts", "<init>", "()V"⟩ : MethodName) (head1 (Jvm.Cond.code (⟨"spanwire/protocol/MessageCounts", "<init>", "()V"⟩ : MethodName) prog_73_method_1_code 1 ((Option.none : Option FieldType)) :: ws) ({ frames := 2, cells := 2, slots := 16, locals := 26 } : Room)) (fun aa U => aa = #[(.ref a)] ∧ Z.Warmed39 U.vm ∧ U.heap = h0) (fun _ _ _ _ _ => True) (fun _ U ou U' => ∃ v L, ou = .returned v ∧ Q2 Z a va clv h0 n0 v U'.heap L ∧ FrameEnd U ou U' L ({ frames := 2, cells := 2, slots := 16, locals := 26 } : Room).cells ({ frames := 2, cells := 2, slots := 16, locals := 26 } : Room).slots) := by
  refine MetFree.of_bodySF (plainFor_of_name pn_spanwire_protocol_MessageCounts) hisR ?_
  intro pg e s m args below meth c s₁ Bd hml0 hP hK
  obtain ⟨rfl, hZ, hh⟩ := hP
  have hx := Bd.exec
  have hby := Bd.bytes
  have hml : c.maxLocals = 1 := hml0
  have hown : s.vm.findClass "spanwire/protocol/MessageCounts" = some m.cls := findClass_of_methodNamed Bd.named
  have hnm := (name_of_methodNamed Bd.named Bd.method).1
  have X0 : Stand pg l e ({ frames := 2, cells := 2, slots := 16, locals := 26 } : Room) s m #[(.ref a)] below meth c s₁ [] 0 0 := Stand.of_body Bd
  have e0 : s₁.heap = h0 := by rw [← hh, Bd.state]; rfl
  have N0 := Fr.nil n0
  have K0 : Keep h0 h0 [a] := Keep.refl _ _
  show own_Go pg.tables e below (fun ou U' => ∃ v L, ou = .returned v ∧ Q2 Z a va clv h0 n0 v U'.heap L ∧ FrameEnd s ou U' L ({ frames := 2, cells := 2, slots := 16, locals := 26 } : Room).cells ({ frames := 2, cells := 2, slots := 16, locals := 26 } : Room).slots) (s₁.setTop (entryFrame m #[(.ref a)] 1))
  refine own_go (S' := s₁.setTop (mkF m 0 #[.val (.ref a)] [])) (fun tg kk => castTop (ef2 m a) kk) ?_
  refine own_go (S' := s₁.setTop (mkF m 1 #[.val (.ref a)] [(.ref a)])) (fun tg kk => XS.aloadN X0.here hx rfl (hb hby d2_0) rfl rfl kk) ?_
  obtain ⟨T1, X1, e1, st1⟩ := initO X0 hx hZ hown (hw _ (List.mem_of_getElem? (i := 17) rfl)) (hw _ (List.mem_of_getElem? (i := 18) rfl)) (hw _ (List.mem_of_getElem? (i := 19) rfl)) e0 (g := (mkF m 1 #[.val (.ref a)] [(.ref a)])) rfl (by rw [hml]; rfl) rfl (hb hby d2_1) (by decide) (W := 0) (by show 2 * 0 + _ ≤ _; exact Nat.le_of_eq rfl) (by decide)
  refine own_go (S' := T1.setTop (mkF m 4 #[.val (.ref a)] [])) (st1) ?_
  refine own_go (S' := T1.setTop (mkF m 5 #[.val (.ref a)] [(.ref a)])) (fun tg kk => XS.aloadN X1.here hx rfl (hb hby d2_4) rfl rfl kk) ?_
  obtain ⟨v2, _, ⟨T2, L2, k2, n2⟩, -, X2, ⟨Lc2, hQ2, l2, y2, z2⟩, st2⟩ := Jvm.LawKit.callS X1 hx (y := (⟨"spanwire/protocol/MessageKind", "values", "()[Lspanwire/protocol/MessageKind;"⟩ : MethodName)) hown (mvT hZ (hw _ (List.mem_of_getElem? (i := 20) rfl))) (mvT hZ (hw _ (List.mem_of_getElem? (i := 21) rfl))) (mvT hZ (hw _ (List.mem_of_getElem? (i := 5) rfl))) (mvT hZ (hw _ (List.mem_of_getElem? (i := 22) rfl))) (by decide) (backOf (W := 1) (rm4 l Z a0 hw [] va clv h0 n0 Z0 O0 S_VAL A_VAL E_VAL C_VAL L_VAL) hZ (hw _ (List.mem_of_getElem? (i := 22) rfl)) (hw _ (List.mem_of_getElem? (i := 5) rfl)) (by decide) (by decide)) (g := (mkF m 5 #[.val (.ref a)] [(.ref a)])) rfl (by rw [hml]; rfl) (argsL := []) (rest := [(.ref a)]) (lenOf pd____Lspanwire_protocol_MessageKind_ rfl) rfl (by show 2 * 0 + _ ≤ _; exact Nat.le_of_eq rfl) (hb hby d2_5) (fun _ _ => ⟨rfl, e1, (by decide : 0 + 1 ≤ _), (by decide : 0 + 8 ≤ _)⟩)
  dsimp only [Pt.U, Pt.locs, Pt.cells, Pt.slots] at X2 l2 y2 z2 st2 hQ2
  subst l2 y2 z2
  obtain ⟨va2, cv2, rfl, M3, K2, Av2, Lv2⟩ := hQ2
  have N3 := Fr.app N0 M3
  obtain ⟨h2, e2⟩ : ∃ z, T2.heap = z := ⟨_, rfl⟩
  rw [e2] at K2 Av2
  have F4 := F1.keep K2 nin0
  have F5 := F2.keep K2 nin0
  have E6 : Exa Z h2 a "spanwire/protocol/MessageCounts" := E1.keep K2
  have O7 : Old Z n0 h2 := O0.keep K2 all0
  have Z8 : n0 ≤ h2.size := Nat.le_trans Z0 K2.1
  have K9 : Keep h0 h2 [a] := K0.trans K2 all0
  refine own_go (S' := T2.setTop (mkF m 8 #[.val (.ref a)] [(.ref va2), (.ref a)])) st2 ?_
  refine own_go (S' := T2.setTop (mkF m 9 #[.val (.ref a)] [(.int (8 : Int32)), (.ref a)])) (fun tg kk => X2.arraylength hx (cell := cv2) (by rw [e2]; exact Av2.1) (State.isArrayOf_alike hZ.alike Av2.2.1) (g := (mkF m 8 #[.val (.ref a)] [(.ref va2), (.ref a)])) rfl rfl (hb hby d2_8) tg (by rw [Lv2]; exact kk)) ?_
  obtain ⟨T10, h10, cA10, X10, e10, Ex10, A10, st10⟩ := newP X2 hx hZ (hw _ (List.mem_of_getElem? (i := 40) rfl)) e2 (g := (mkF m 9 #[.val (.ref a)] [(.int (8 : Int32)), (.ref a)])) rfl (hb hby d2_9) rfl (n := (8 : Int32)) (by decide) (cap := 8) (by decide) (by decide) (by decide) (by decide)
  obtain ⟨a10, g10⟩ : ∃ z, z = h2.size := ⟨_, rfl⟩
  rw [← g10] at A10 st10
  have ne10_a : a ≠ a10 := by rw [g10]; exact Nat.ne_of_lt E6.lt
  have q10 : n0 ≤ a10 := by rw [g10]; exact Z8
  have r10 : h0.size ≤ a10 := by rw [g10]; exact K9.1
  have F11 := F4.ext Ex10
  have F12 := F5.ext Ex10
  have E13 : Exa Z h10 a "spanwire/protocol/MessageCounts" := E6.ext Ex10
  have O14 : Old Z n0 h10 := O7.ext Ex10
  have Z15 : n0 ≤ h10.size := Nat.le_trans Z8 Ex10.1
  have K16 : Keep h0 h10 [a] := K9.ext Ex10
  refine own_go (S' := T10.setTop (mkF m 11 #[.val (.ref a)] [(.ref a10), (.ref a)])) (st10) ?_
  have V10 : Arv Z h10 a10 cA10 .long (8 : Int32) [(.long (0 : Int64)), (.long (0 : Int64)), (.long (0 : Int64)), (.long (0 : Int64)), (.long (0 : Int64)), (.long (0 : Int64)), (.long (0 : Int64)), (.long (0 : Int64))] (.long (0 : Int64)) := (Arv.new A10 (by decide)).pad (pad_rep [] (.long (0 : Int64)) 8)
  obtain ⟨T17, h17, X17, e17, W17, st17⟩ := putF X10 hx hZ hown (host := "") (Or.inl (hw _ (List.mem_of_getElem? (i := 41) rfl))) Via.refl e10 F11 E13 (Or.inr ⟨(hw _ (List.mem_of_getElem? (i := 42) rfl)), rfl, hnm⟩) (hw _ (List.mem_of_getElem? (i := 12) rfl)) (ty := .array .long) (by decide) rfl rfl (g := (mkF m 11 #[.val (.ref a)] [(.ref a10), (.ref a)])) rfl rfl (hb hby d2_11)
  refine own_go (S' := T17.setTop (mkF m 14 #[.val (.ref a)] [])) (st17) ?_
  have N17 := Fr.snoc X17 N3 g1
  have F18 := F11.same W17
  have F19 := F12.other W17 (Or.inr (slot_ne (Or.inl (hw _ (List.mem_of_getElem? (i := 64) rfl))) (Or.inr (hw _ (List.mem_of_getElem? (i := 42) rfl))) (by decide) (t := .long) (t' := .array .long) (by decide) (by decide)))
  have E20 : Exa Z h17 a "spanwire/protocol/MessageCounts" := E13.wr W17
  have A21 := V10.other W17 (Ne.symm ne10_a)
  have O22 : Old Z n0 h17 := O14.wr W17 g1
  have Z23 : n0 ≤ h17.size := by rw [W17.size]; exact Z15
  have K24 : Keep h0 h17 [a] := K16.wr W17 (Or.inl (List.mem_of_getElem? (i := 0) rfl))
  obtain ⟨fs, hr, hrun, hended, hW, hsame⟩ := X17.leave (v := none) (fun _ => rfl)
  refine ⟨_, _, X17.returnOut hx Bd.returns (hb hby d2_14) hr, hrun, hended, _, _, rfl, ?_, ⟨_, rfl⟩, hW, hsame.mono (by decide) (by decide)⟩
  show Q2 Z a va clv h0 n0 none T17.heap _
  rw [e17]
  exact ⟨a10, cA10, rfl, N17, K24, F18, F19, A21, q10, r10⟩
theorem d5_0 : decode prog_73_method_3_code 0 = .ok (.aload_n 0, 1) := by decide +kernel
theorem d5_1 : decode prog_73_method_3_code 1 = .ok (.getfield 13, 3) := by decide +kernel
theorem d5_4 : decode prog_73_method_3_code 4 = .ok (.aload_n 1, 1) := by decide +kernel
theorem pd___I : parseMethodDescriptor "()I" = some ⟨[], some .int⟩ := by decide +kernel
theorem d5_5 : decode prog_73_method_3_code 5 = .ok (.invokevirtual 19, 3) := by decide +kernel
theorem d5_8 : decode prog_73_method_3_code 8 = .ok (.dup2, 1) := by decide +kernel
theorem d5_9 : decode prog_73_method_3_code 9 = .ok (.laload, 1) := by decide +kernel
theorem d5_10 : decode prog_73_method_3_code 10 = .ok (.lload_n 2, 1) := by decide +kernel
theorem d5_11 : decode prog_73_method_3_code 11 = .ok (.ladd, 1) := by decide +kernel
theorem d5_12 : decode prog_73_method_3_code 12 = .ok (.lastore, 1) := by decide +kernel
theorem d5_13 : decode prog_73_method_3_code 13 = .ok (.aload_n 1, 1) := by decide +kernel
theorem pd___Z : parseMethodDescriptor "()Z" = some ⟨[], some .boolean⟩ := by decide +kernel
theorem d5_14 : decode prog_73_method_3_code 14 = .ok (.invokevirtual 23, 3) := by decide +kernel
theorem d5_17 : decode prog_73_method_3_code 17 = .ok (.ifCond .eq 13, 3) := by decide +kernel
theorem d5_30 : decode prog_73_method_3_code 30 = .ok (.return_, 1) := by decide +kernel
theorem d5_20 : decode prog_73_method_3_code 20 = .ok (.aload_n 0, 1) := by decide +kernel
theorem d5_21 : decode prog_73_method_3_code 21 = .ok (.dup, 1) := by decide +kernel
theorem d5_22 : decode prog_73_method_3_code 22 = .ok (.getfield 27, 3) := by decide +kernel
theorem d5_25 : decode prog_73_method_3_code 25 = .ok (.lload_n 2, 1) := by decide +kernel
theorem d5_26 : decode prog_73_method_3_code 26 = .ok (.ladd, 1) := by decide +kernel
theorem d5_27 : decode prog_73_method_3_code 27 = .ok (.putfield 27, 3) := by decide +kernel
theorem ef5 (m : MethodId) (x0 : Addr) (x1 : Addr) (x2 : Int64) : entryFrame m #[(.ref x0), (.ref x1), (.long x2)] 4 = mkF m 0 #[.val (.ref x0), .val (.ref x1), .val (.long x2), .second] [] := by first | (simp [entryFrame, mkF, argsToLocals, Value.category]; done) | rfl
def Q5 (Z : State) (a : Addr) (ca : Addr) (k : ClassId) (kd : Addr) (o : Int32) (cc : Int64) (f : Nat → Int64) (t : Int64) (sD : Addr) (h0 : Heap) (n0 : Nat) (v : Option Value) (h : Heap) (L : List Loc) : Prop := v = none ∧ Fr n0 L ∧ Keep h0 h [a, ca] ∧ Fld Z h a "spanwire/protocol/MessageCounts" "counts" "[J" (.ref ca) ∧ Fld Z h a "spanwire/protocol/MessageCounts" "total" "J" (.long (own_tot kd sD t cc)) ∧ Arv Z h ca k .long (8 : Int32) (own_l8 (own_upd f o cc)) (.long (0 : Int64))
set_option maxRecDepth 65536 in
set_option maxHeartbeats 40000000 in
theorem rm5 (l : Launch) (Z : State) (a0 : Array Value) (hw : ∀ d ∈ tables_1, d.before a0 Z = true) (ws : List Jvm.Cond) (a : Addr) (ca : Addr) (k : ClassId) (kd : Addr) (o : Int32) (cc : Int64) (f : Nat → Int64) (t : Int64) (sD : Addr) (h0 : Heap) (n0 : Nat) (Z0 : n0 ≤ h0.size) (O0 : Old Z n0 h0) (Fc : Fld Z h0 a "spanwire/protocol/MessageCounts" "counts" "[J" (.ref ca)) (Ft : Fld Z h0 a "spanwire/protocol/MessageCounts" "total" "J" (.long t)) (Ea : Exa Z h0 a "spanwire/protocol/MessageCounts") (Va : Arv Z h0 ca k .long (8 : Int32) (own_l8 f) (.long (0 : Int64))) (Ek : Exa Z Z.heap kd "spanwire/protocol/MessageKind") (Fo : Fld Z Z.heap kd "java/lang/Enum" "ordinal" "I" (.int o)) (ho : o = (0 : Int32) ∨ o = (1 : Int32) ∨ o = (2 : Int32) ∨ o = (3 : Int32) ∨ o = (4 : Int32) ∨ o = (5 : Int32) ∨ o = (6 : Int32) ∨ o = (7 : Int32)) (ga : n0 ≤ a) (gc : n0 ≤ ca) (nac : a ≠ ca) (S_DONE : Sta Z Z.heap "spanwire/protocol/MessageKind" "DONE" "Lspanwire/protocol/MessageKind;" (.ref sD)) :
    MetFree l (⟨"spanwire/protocol/MessageCounts", "add", "(Lspanwire/protocol/MessageKind;J)V"⟩ : MethodName) (head1 (Jvm.Cond.code (⟨"spanwire/protocol/MessageCounts", "add", "(Lspanwire/protocol/MessageKind;J)V"⟩ : MethodName) prog_73_method_3_code 4 ((Option.none : Option FieldType)) :: ws) ({ frames := 1, cells := 0, slots := 0, locals := 13 } : Room)) (fun aa U => aa = #[(.ref a), (.ref kd), (.long cc)] ∧ Z.Warmed39 U.vm ∧ U.heap = h0) (fun _ _ _ _ _ => True) (fun _ U ou U' => ∃ v L, ou = .returned v ∧ Q5 Z a ca k kd o cc f t sD h0 n0 v U'.heap L ∧ FrameEnd U ou U' L ({ frames := 1, cells := 0, slots := 0, locals := 13 } : Room).cells ({ frames := 1, cells := 0, slots := 0, locals := 13 } : Room).slots) := by
  refine MetFree.of_bodySF (plainFor_of_name pn_spanwire_protocol_MessageCounts) hisR ?_
  intro pg e s m args below meth c s₁ Bd hml0 hP hK
  obtain ⟨rfl, hZ, hh⟩ := hP
  have hx := Bd.exec
  have hby := Bd.bytes
  have hml : c.maxLocals = 4 := hml0
  have hown : s.vm.findClass "spanwire/protocol/MessageCounts" = some m.cls := findClass_of_methodNamed Bd.named
  have hnm := (name_of_methodNamed Bd.named Bd.method).1
  have X0 : Stand pg l e ({ frames := 1, cells := 0, slots := 0, locals := 13 } : Room) s m #[(.ref a), (.ref kd), (.long cc)] below meth c s₁ [] 0 0 := Stand.of_body Bd
  have e0 : s₁.heap = h0 := by rw [← hh, Bd.state]; rfl
  have N0 := Fr.nil n0
  have K0 : Keep h0 h0 [a, ca] := Keep.refl _ _
  show own_Go pg.tables e below (fun ou U' => ∃ v L, ou = .returned v ∧ Q5 Z a ca k kd o cc f t sD h0 n0 v U'.heap L ∧ FrameEnd s ou U' L ({ frames := 1, cells := 0, slots := 0, locals := 13 } : Room).cells ({ frames := 1, cells := 0, slots := 0, locals := 13 } : Room).slots) (s₁.setTop (entryFrame m #[(.ref a), (.ref kd), (.long cc)] 4))
  refine own_go (S' := s₁.setTop (mkF m 0 #[.val (.ref a), .val (.ref kd), .val (.long cc), .second] [])) (fun tg kk => castTop (ef5 m a kd cc) kk) ?_
  rcases ho with rfl | rfl | rfl | rfl | rfl | rfl | rfl | rfl
  · refine own_go (S' := s₁.setTop (mkF m 1 #[.val (.ref a), .val (.ref kd), .val (.long cc), .second] [(.ref a)])) (fun tg kk => XS.aloadN X0.here hx rfl (hb hby d5_0) rfl rfl kk) ?_
    obtain ⟨T1, X1, e1, st1⟩ := getF X0 hx hZ hown (host := "") (Or.inl (hw _ (List.mem_of_getElem? (i := 41) rfl))) Via.refl e0 Fc (g := (mkF m 1 #[.val (.ref a), .val (.ref kd), .val (.long cc), .second] [(.ref a)])) rfl rfl (hb hby d5_1)
    refine own_go (S' := T1.setTop (mkF m 4 #[.val (.ref a), .val (.ref kd), .val (.long cc), .second] [(.ref ca)])) (st1) ?_
    refine own_go (S' := T1.setTop (mkF m 5 #[.val (.ref a), .val (.ref kd), .val (.long cc), .second] [(.ref kd), (.ref ca)])) (fun tg kk => XS.aloadN X1.here hx rfl (hb hby d5_4) rfl rfl kk) ?_
    obtain ⟨cq2, kq2, qa2, qb2, qc2⟩ := isOf hZ e1 (Ek.ext O0.2)
    obtain ⟨v2, _, ⟨T2, L2, k2, n2⟩, -, X2, ⟨Lc2, hQ2, l2, y2, z2⟩, st2⟩ := X1.virtualBackUp hx (x := (⟨"spanwire/protocol/MessageKind", "ordinal", "()I"⟩ : MethodName)) (y := (⟨"java/lang/Enum", "ordinal", "()I"⟩ : MethodName)) (owner := "java/lang/Enum") hown (mvT hZ (hw _ (List.mem_of_getElem? (i := 48) rfl))) (mvT hZ (hw _ (List.mem_of_getElem? (i := 49) rfl))) (mvT hZ (hw _ (List.mem_of_getElem? (i := 50) rfl))) (by decide) (mvT hZ (hw _ (List.mem_of_getElem? (i := 52) rfl))) (mvT hZ (hw _ (List.mem_of_getElem? (i := 51) rfl))) (backOf (W := 1) (rm6 l Z a0 hw [] kd (0 : Int32) h0 n0 Z0 O0 Fo) hZ (hw _ (List.mem_of_getElem? (i := 54) rfl)) (hw _ (List.mem_of_getElem? (i := 53) rfl)) (by decide) (by decide)) qa2 qc2 (g := (mkF m 5 #[.val (.ref a), .val (.ref kd), .val (.long cc), .second] [(.ref kd), (.ref ca)])) rfl (by rw [hml]; rfl) (Steps.refl _) (argsL := []) (rest := [(.ref ca)]) (lenOf pd___I rfl) rfl (by show 2 * 0 + _ ≤ _; exact Nat.le_of_eq rfl) (hb hby d5_5) (fun _ _ => ⟨rfl, e1, (by decide : 0 + 0 ≤ _), (by decide : 0 + 0 ≤ _)⟩)
    dsimp only [Pt.U, Pt.locs, Pt.cells, Pt.slots] at X2 l2 y2 z2 st2 hQ2
    subst l2 y2 z2
    obtain ⟨rfl, M3, e2⟩ := hQ2
    have N3 := Fr.app N0 M3
    refine own_to (S' := T2.setTop (mkF m 8 #[.val (.ref a), .val (.ref kd), .val (.long cc), .second] [(.int (0 : Int32)), (.ref ca)])) st2 ?_
    refine own_go (S' := T2.setTop (mkF m 9 #[.val (.ref a), .val (.ref kd), .val (.long cc), .second] [(.int (0 : Int32)), (.ref ca), (.int (0 : Int32)), (.ref ca)])) (fun tg kk => XT.dup2 X2.here hx rfl (hb hby d5_8) rfl rfl rfl kk) ?_
    obtain ⟨cl4, Ar4, q1_4, S4, q3_4, H4, G4⟩ := id Va
    have hj4 := inb_of (j := (0 : Int32)) S4 ⟨by decide, by decide⟩
    have hv4 : cl4.slots[((0 : Int32)).toNatClampNeg]? = some (.long (f 0)) := Has.at H4 hj4 (by rfl)
    refine own_go (S' := T2.setTop (mkF m 10 #[.val (.ref a), .val (.ref kd), .val (.long cc), .second] [(.long (f 0)), (.int (0 : Int32)), (.ref ca)])) (fun tg kk => X2.laload hx (by rw [e2]; exact Ar4.1) (State.isArrayOf_alike hZ.alike Ar4.2.1) Ar4.2.2 hj4 hv4 (g := (mkF m 9 #[.val (.ref a), .val (.ref kd), .val (.long cc), .second] [(.int (0 : Int32)), (.ref ca), (.int (0 : Int32)), (.ref ca)])) rfl rfl (hb hby d5_9) tg kk) ?_
    refine own_go (S' := T2.setTop (mkF m 11 #[.val (.ref a), .val (.ref kd), .val (.long cc), .second] [(.long cc), (.long (f 0)), (.int (0 : Int32)), (.ref ca)])) (fun tg kk => XT.lloadN X2.here hx rfl (hb hby d5_10) rfl kk) ?_
    refine own_go (S' := T2.setTop (mkF m 12 #[.val (.ref a), .val (.ref kd), .val (.long cc), .second] [(.long ((f 0) + cc)), (.int (0 : Int32)), (.ref ca)])) (fun tg kk => XT.ladd X2.here hx rfl (hb hby d5_11) rfl kk) ?_
    obtain ⟨cl5, Ar5, q1_5, S5, q3_5, H5, G5⟩ := id Va
    have hj5 := inb_of (j := (0 : Int32)) S5 ⟨by decide, by decide⟩
    obtain ⟨T5, h5, X5, e5, W5, st5⟩ := stJ X2 hx hZ e2 Ar5 hj5 (g := (mkF m 12 #[.val (.ref a), .val (.ref kd), .val (.long cc), .second] [(.long ((f 0) + cc)), (.int (0 : Int32)), (.ref ca)])) rfl rfl (hb hby d5_12)
    refine own_go (S' := T5.setTop (mkF m 13 #[.val (.ref a), .val (.ref kd), .val (.long cc), .second] [])) (st5) ?_
    have N5 := Fr.snoc X5 N3 gc
    have F6 := Fc.other W5 (Or.inl nac)
    have F7 := Ft.other W5 (Or.inl nac)
    have E8 : Exa Z h5 a "spanwire/protocol/MessageCounts" := Ea.wr W5
    have O10 : Old Z n0 h5 := O0.wr W5 gc
    have Z11 : n0 ≤ h5.size := by rw [W5.size]; exact Z0
    have K12 : Keep h0 h5 [a, ca] := K0.wr W5 (Or.inl (List.mem_of_getElem? (i := 1) rfl))
    have V5 : Arv Z h5 ca k .long (8 : Int32) [(.long ((f 0) + cc)), (.long (f 1)), (.long (f 2)), (.long (f 3)), (.long (f 4)), (.long (f 5)), (.long (f 6)), (.long (f 7))] (.long (0 : Int64)) := Arv.set Ar5 q1_5 S5 q3_5 H5 G5 rfl W5 0 (by decide) (by show 0 < 8; decide)
    refine own_go (S' := T5.setTop (mkF m 14 #[.val (.ref a), .val (.ref kd), .val (.long cc), .second] [(.ref kd)])) (fun tg kk => XS.aloadN X5.here hx rfl (hb hby d5_13) rfl rfl kk) ?_
    by_cases c13 : (Value.ref kd) = (Value.ref sD)
    · obtain ⟨cq14, kq14, qa14, qb14, qc14⟩ := isOf hZ e5 (Ek.ext O10.2)
      obtain ⟨v14, _, ⟨T14, L14, k14, n14⟩, -, X14, ⟨Lc14, hQ14, l14, y14, z14⟩, st14⟩ := X5.virtualBack hx (y := (⟨"spanwire/protocol/MessageKind", "isProtocol", "()Z"⟩ : MethodName)) (z := (⟨"spanwire/protocol/MessageKind", "isProtocol", "()Z"⟩ : MethodName)) hown (mvT hZ (hw _ (List.mem_of_getElem? (i := 57) rfl))) (mvT hZ (hw _ (List.mem_of_getElem? (i := 58) rfl))) (notFace_of_selects (args := #[]) (mvT hZ (hw _ (List.mem_of_getElem? (i := 60) rfl)))) (mvT hZ (hw _ (List.mem_of_getElem? (i := 60) rfl))) (mvT hZ (hw _ (List.mem_of_getElem? (i := 59) rfl))) (by decide) (backOf (W := 0) (rm7 l Z a0 hw [] kd sD h5 n0 Z11 O10 S_DONE) hZ (hw _ (List.mem_of_getElem? (i := 61) rfl)) (hw _ (List.mem_of_getElem? (i := 5) rfl)) (by decide) (by decide)) qa14 qc14 (g := (mkF m 14 #[.val (.ref a), .val (.ref kd), .val (.long cc), .second] [(.ref kd)])) rfl (by rw [hml]; rfl) (Steps.refl _) (argsL := []) (rest := []) (lenOf pd___Z rfl) rfl (by show 2 * 0 + _ ≤ _; exact Nat.le_of_eq rfl) (hb hby d5_14) (fun _ _ => ⟨rfl, e5, (by decide : 0 + 0 ≤ _), (by decide : 0 + 0 ≤ _)⟩)
      dsimp only [Pt.U, Pt.locs, Pt.cells, Pt.slots] at X14 l14 y14 z14 st14 hQ14
      subst l14 y14 z14
      obtain ⟨hv14, M15, e14⟩ := hQ14
      obtain rfl : v14 = some (.int (0 : Int32)) := by rw [hv14]; rw [own_isp, if_pos c13]
      have N15 := Fr.app N5 M15
      refine own_to (S' := T14.setTop (mkF m 17 #[.val (.ref a), .val (.ref kd), .val (.long cc), .second] [(.int (0 : Int32))])) st14 ?_
      refine own_go (S' := T14.setTop (mkF m 30 #[.val (.ref a), .val (.ref kd), .val (.long cc), .second] [])) (fun tg kk => XS.ifYes X14.here hx rfl (pc0 := 17) (pc' := 30) rfl (hb hby d5_17) rfl (XT.i0_eq_t (by decide)) (by decide) (by decide) kk) ?_
      obtain ⟨fs, hr, hrun, hended, hW, hsame⟩ := X14.leave (v := none) (fun _ => rfl)
      refine ⟨_, _, X14.returnOut hx Bd.returns (hb hby d5_30) hr, hrun, hended, _, _, rfl, ?_, ⟨_, rfl⟩, hW, hsame.mono (by decide) (by decide)⟩
      show Q5 Z a ca k kd (0 : Int32) cc f t sD h0 n0 none T14.heap _
      rw [e14]
      exact ⟨rfl, N15, K12, F6, by rw [own_tot, if_pos c13]; exact F7, V5⟩
    · obtain ⟨cq17, kq17, qa17, qb17, qc17⟩ := isOf hZ e5 (Ek.ext O10.2)
      obtain ⟨v17, _, ⟨T17, L17, k17, n17⟩, -, X17, ⟨Lc17, hQ17, l17, y17, z17⟩, st17⟩ := X5.virtualBack hx (y := (⟨"spanwire/protocol/MessageKind", "isProtocol", "()Z"⟩ : MethodName)) (z := (⟨"spanwire/protocol/MessageKind", "isProtocol", "()Z"⟩ : MethodName)) hown (mvT hZ (hw _ (List.mem_of_getElem? (i := 57) rfl))) (mvT hZ (hw _ (List.mem_of_getElem? (i := 58) rfl))) (notFace_of_selects (args := #[]) (mvT hZ (hw _ (List.mem_of_getElem? (i := 60) rfl)))) (mvT hZ (hw _ (List.mem_of_getElem? (i := 60) rfl))) (mvT hZ (hw _ (List.mem_of_getElem? (i := 59) rfl))) (by decide) (backOf (W := 0) (rm7 l Z a0 hw [] kd sD h5 n0 Z11 O10 S_DONE) hZ (hw _ (List.mem_of_getElem? (i := 61) rfl)) (hw _ (List.mem_of_getElem? (i := 5) rfl)) (by decide) (by decide)) qa17 qc17 (g := (mkF m 14 #[.val (.ref a), .val (.ref kd), .val (.long cc), .second] [(.ref kd)])) rfl (by rw [hml]; rfl) (Steps.refl _) (argsL := []) (rest := []) (lenOf pd___Z rfl) rfl (by show 2 * 0 + _ ≤ _; exact Nat.le_of_eq rfl) (hb hby d5_14) (fun _ _ => ⟨rfl, e5, (by decide : 0 + 0 ≤ _), (by decide : 0 + 0 ≤ _)⟩)
      dsimp only [Pt.U, Pt.locs, Pt.cells, Pt.slots] at X17 l17 y17 z17 st17 hQ17
      subst l17 y17 z17
      obtain ⟨hv17, M18, e17⟩ := hQ17
      obtain rfl : v17 = some (.int (1 : Int32)) := by rw [hv17]; rw [own_isp, if_neg c13]
      have N18 := Fr.app N5 M18
      refine own_to (S' := T17.setTop (mkF m 17 #[.val (.ref a), .val (.ref kd), .val (.long cc), .second] [(.int (1 : Int32))])) st17 ?_
      refine own_go (S' := T17.setTop (mkF m 20 #[.val (.ref a), .val (.ref kd), .val (.long cc), .second] [])) (fun tg kk => XS.ifNo X17.here hx rfl (hb hby d5_17) rfl (XT.i0_eq_f (by decide)) kk) ?_
      refine own_go (S' := T17.setTop (mkF m 21 #[.val (.ref a), .val (.ref kd), .val (.long cc), .second] [(.ref a)])) (fun tg kk => XS.aloadN X17.here hx rfl (hb hby d5_20) rfl rfl kk) ?_
      refine own_go (S' := T17.setTop (mkF m 22 #[.val (.ref a), .val (.ref kd), .val (.long cc), .second] [(.ref a), (.ref a)])) (fun tg kk => XS.dup X17.here hx rfl (hb hby d5_21) rfl rfl kk) ?_
      obtain ⟨T19, X19, e19, st19⟩ := getF X17 hx hZ hown (host := "") (Or.inl (hw _ (List.mem_of_getElem? (i := 63) rfl))) Via.refl e17 F7 (g := (mkF m 22 #[.val (.ref a), .val (.ref kd), .val (.long cc), .second] [(.ref a), (.ref a)])) rfl rfl (hb hby d5_22)
      refine own_go (S' := T19.setTop (mkF m 25 #[.val (.ref a), .val (.ref kd), .val (.long cc), .second] [(.long t), (.ref a)])) (st19) ?_
      refine own_go (S' := T19.setTop (mkF m 26 #[.val (.ref a), .val (.ref kd), .val (.long cc), .second] [(.long cc), (.long t), (.ref a)])) (fun tg kk => XT.lloadN X19.here hx rfl (hb hby d5_25) rfl kk) ?_
      refine own_go (S' := T19.setTop (mkF m 27 #[.val (.ref a), .val (.ref kd), .val (.long cc), .second] [(.long (t + cc)), (.ref a)])) (fun tg kk => XT.ladd X19.here hx rfl (hb hby d5_26) rfl kk) ?_
      obtain ⟨T20, h20, X20, e20, W20, st20⟩ := putF X19 hx hZ hown (host := "") (Or.inl (hw _ (List.mem_of_getElem? (i := 63) rfl))) Via.refl e19 F7 E8 (Or.inl (hw _ (List.mem_of_getElem? (i := 64) rfl))) (hw _ (List.mem_of_getElem? (i := 12) rfl)) (ty := .long) (by decide) rfl rfl (g := (mkF m 27 #[.val (.ref a), .val (.ref kd), .val (.long cc), .second] [(.long (t + cc)), (.ref a)])) rfl rfl (hb hby d5_27)
      refine own_go (S' := T20.setTop (mkF m 30 #[.val (.ref a), .val (.ref kd), .val (.long cc), .second] [])) (st20) ?_
      have N20 := Fr.snoc X20 N18 ga
      have F21 := F6.other W20 (Or.inr (slot_ne (Or.inr (hw _ (List.mem_of_getElem? (i := 42) rfl))) (Or.inl (hw _ (List.mem_of_getElem? (i := 64) rfl))) (by decide) (t := .array .long) (t' := .long) (by decide) (by decide)))
      have F22 := F7.same W20
      have E23 : Exa Z h20 a "spanwire/protocol/MessageCounts" := E8.wr W20
      have A24 := V5.other W20 (Ne.symm nac)
      have O25 : Old Z n0 h20 := O10.wr W20 ga
      have Z26 : n0 ≤ h20.size := by rw [W20.size]; exact Z11
      have K27 : Keep h0 h20 [a, ca] := K12.wr W20 (Or.inl (List.mem_of_getElem? (i := 0) rfl))
      obtain ⟨fs, hr, hrun, hended, hW, hsame⟩ := X20.leave (v := none) (fun _ => rfl)
      refine ⟨_, _, X20.returnOut hx Bd.returns (hb hby d5_30) hr, hrun, hended, _, _, rfl, ?_, ⟨_, rfl⟩, hW, hsame.mono (by decide) (by decide)⟩
      show Q5 Z a ca k kd (0 : Int32) cc f t sD h0 n0 none T20.heap _
      rw [e20]
      exact ⟨rfl, N20, K27, F21, by rw [own_tot, if_neg c13]; exact F22, A24⟩
  · refine own_go (S' := s₁.setTop (mkF m 1 #[.val (.ref a), .val (.ref kd), .val (.long cc), .second] [(.ref a)])) (fun tg kk => XS.aloadN X0.here hx rfl (hb hby d5_0) rfl rfl kk) ?_
    obtain ⟨T29, X29, e29, st29⟩ := getF X0 hx hZ hown (host := "") (Or.inl (hw _ (List.mem_of_getElem? (i := 41) rfl))) Via.refl e0 Fc (g := (mkF m 1 #[.val (.ref a), .val (.ref kd), .val (.long cc), .second] [(.ref a)])) rfl rfl (hb hby d5_1)
    refine own_go (S' := T29.setTop (mkF m 4 #[.val (.ref a), .val (.ref kd), .val (.long cc), .second] [(.ref ca)])) (st29) ?_
    refine own_go (S' := T29.setTop (mkF m 5 #[.val (.ref a), .val (.ref kd), .val (.long cc), .second] [(.ref kd), (.ref ca)])) (fun tg kk => XS.aloadN X29.here hx rfl (hb hby d5_4) rfl rfl kk) ?_
    obtain ⟨cq30, kq30, qa30, qb30, qc30⟩ := isOf hZ e29 (Ek.ext O0.2)
    obtain ⟨v30, _, ⟨T30, L30, k30, n30⟩, -, X30, ⟨Lc30, hQ30, l30, y30, z30⟩, st30⟩ := X29.virtualBackUp hx (x := (⟨"spanwire/protocol/MessageKind", "ordinal", "()I"⟩ : MethodName)) (y := (⟨"java/lang/Enum", "ordinal", "()I"⟩ : MethodName)) (owner := "java/lang/Enum") hown (mvT hZ (hw _ (List.mem_of_getElem? (i := 48) rfl))) (mvT hZ (hw _ (List.mem_of_getElem? (i := 49) rfl))) (mvT hZ (hw _ (List.mem_of_getElem? (i := 50) rfl))) (by decide) (mvT hZ (hw _ (List.mem_of_getElem? (i := 52) rfl))) (mvT hZ (hw _ (List.mem_of_getElem? (i := 51) rfl))) (backOf (W := 1) (rm6 l Z a0 hw [] kd (1 : Int32) h0 n0 Z0 O0 Fo) hZ (hw _ (List.mem_of_getElem? (i := 54) rfl)) (hw _ (List.mem_of_getElem? (i := 53) rfl)) (by decide) (by decide)) qa30 qc30 (g := (mkF m 5 #[.val (.ref a), .val (.ref kd), .val (.long cc), .second] [(.ref kd), (.ref ca)])) rfl (by rw [hml]; rfl) (Steps.refl _) (argsL := []) (rest := [(.ref ca)]) (lenOf pd___I rfl) rfl (by show 2 * 0 + _ ≤ _; exact Nat.le_of_eq rfl) (hb hby d5_5) (fun _ _ => ⟨rfl, e29, (by decide : 0 + 0 ≤ _), (by decide : 0 + 0 ≤ _)⟩)
    dsimp only [Pt.U, Pt.locs, Pt.cells, Pt.slots] at X30 l30 y30 z30 st30 hQ30
    subst l30 y30 z30
    obtain ⟨rfl, M31, e30⟩ := hQ30
    have N31 := Fr.app N0 M31
    refine own_to (S' := T30.setTop (mkF m 8 #[.val (.ref a), .val (.ref kd), .val (.long cc), .second] [(.int (1 : Int32)), (.ref ca)])) st30 ?_
    refine own_go (S' := T30.setTop (mkF m 9 #[.val (.ref a), .val (.ref kd), .val (.long cc), .second] [(.int (1 : Int32)), (.ref ca), (.int (1 : Int32)), (.ref ca)])) (fun tg kk => XT.dup2 X30.here hx rfl (hb hby d5_8) rfl rfl rfl kk) ?_
    obtain ⟨cl32, Ar32, q1_32, S32, q3_32, H32, G32⟩ := id Va
    have hj32 := inb_of (j := (1 : Int32)) S32 ⟨by decide, by decide⟩
    have hv32 : cl32.slots[((1 : Int32)).toNatClampNeg]? = some (.long (f 1)) := Has.at H32 hj32 (by rfl)
    refine own_go (S' := T30.setTop (mkF m 10 #[.val (.ref a), .val (.ref kd), .val (.long cc), .second] [(.long (f 1)), (.int (1 : Int32)), (.ref ca)])) (fun tg kk => X30.laload hx (by rw [e30]; exact Ar32.1) (State.isArrayOf_alike hZ.alike Ar32.2.1) Ar32.2.2 hj32 hv32 (g := (mkF m 9 #[.val (.ref a), .val (.ref kd), .val (.long cc), .second] [(.int (1 : Int32)), (.ref ca), (.int (1 : Int32)), (.ref ca)])) rfl rfl (hb hby d5_9) tg kk) ?_
    refine own_go (S' := T30.setTop (mkF m 11 #[.val (.ref a), .val (.ref kd), .val (.long cc), .second] [(.long cc), (.long (f 1)), (.int (1 : Int32)), (.ref ca)])) (fun tg kk => XT.lloadN X30.here hx rfl (hb hby d5_10) rfl kk) ?_
    refine own_go (S' := T30.setTop (mkF m 12 #[.val (.ref a), .val (.ref kd), .val (.long cc), .second] [(.long ((f 1) + cc)), (.int (1 : Int32)), (.ref ca)])) (fun tg kk => XT.ladd X30.here hx rfl (hb hby d5_11) rfl kk) ?_
    obtain ⟨cl33, Ar33, q1_33, S33, q3_33, H33, G33⟩ := id Va
    have hj33 := inb_of (j := (1 : Int32)) S33 ⟨by decide, by decide⟩
    obtain ⟨T33, h33, X33, e33, W33, st33⟩ := stJ X30 hx hZ e30 Ar33 hj33 (g := (mkF m 12 #[.val (.ref a), .val (.ref kd), .val (.long cc), .second] [(.long ((f 1) + cc)), (.int (1 : Int32)), (.ref ca)])) rfl rfl (hb hby d5_12)
    refine own_go (S' := T33.setTop (mkF m 13 #[.val (.ref a), .val (.ref kd), .val (.long cc), .second] [])) (st33) ?_
    have N33 := Fr.snoc X33 N31 gc
    have F34 := Fc.other W33 (Or.inl nac)
    have F35 := Ft.other W33 (Or.inl nac)
    have E36 : Exa Z h33 a "spanwire/protocol/MessageCounts" := Ea.wr W33
    have O38 : Old Z n0 h33 := O0.wr W33 gc
    have Z39 : n0 ≤ h33.size := by rw [W33.size]; exact Z0
    have K40 : Keep h0 h33 [a, ca] := K0.wr W33 (Or.inl (List.mem_of_getElem? (i := 1) rfl))
    have V33 : Arv Z h33 ca k .long (8 : Int32) [(.long (f 0)), (.long ((f 1) + cc)), (.long (f 2)), (.long (f 3)), (.long (f 4)), (.long (f 5)), (.long (f 6)), (.long (f 7))] (.long (0 : Int64)) := Arv.set Ar33 q1_33 S33 q3_33 H33 G33 rfl W33 1 (by decide) (by show 1 < 8; decide)
    refine own_go (S' := T33.setTop (mkF m 14 #[.val (.ref a), .val (.ref kd), .val (.long cc), .second] [(.ref kd)])) (fun tg kk => XS.aloadN X33.here hx rfl (hb hby d5_13) rfl rfl kk) ?_
    by_cases c41 : (Value.ref kd) = (Value.ref sD)
    · obtain ⟨cq42, kq42, qa42, qb42, qc42⟩ := isOf hZ e33 (Ek.ext O38.2)
      obtain ⟨v42, _, ⟨T42, L42, k42, n42⟩, -, X42, ⟨Lc42, hQ42, l42, y42, z42⟩, st42⟩ := X33.virtualBack hx (y := (⟨"spanwire/protocol/MessageKind", "isProtocol", "()Z"⟩ : MethodName)) (z := (⟨"spanwire/protocol/MessageKind", "isProtocol", "()Z"⟩ : MethodName)) hown (mvT hZ (hw _ (List.mem_of_getElem? (i := 57) rfl))) (mvT hZ (hw _ (List.mem_of_getElem? (i := 58) rfl))) (notFace_of_selects (args := #[]) (mvT hZ (hw _ (List.mem_of_getElem? (i := 60) rfl)))) (mvT hZ (hw _ (List.mem_of_getElem? (i := 60) rfl))) (mvT hZ (hw _ (List.mem_of_getElem? (i := 59) rfl))) (by decide) (backOf (W := 0) (rm7 l Z a0 hw [] kd sD h33 n0 Z39 O38 S_DONE) hZ (hw _ (List.mem_of_getElem? (i := 61) rfl)) (hw _ (List.mem_of_getElem? (i := 5) rfl)) (by decide) (by decide)) qa42 qc42 (g := (mkF m 14 #[.val (.ref a), .val (.ref kd), .val (.long cc), .second] [(.ref kd)])) rfl (by rw [hml]; rfl) (Steps.refl _) (argsL := []) (rest := []) (lenOf pd___Z rfl) rfl (by show 2 * 0 + _ ≤ _; exact Nat.le_of_eq rfl) (hb hby d5_14) (fun _ _ => ⟨rfl, e33, (by decide : 0 + 0 ≤ _), (by decide : 0 + 0 ≤ _)⟩)
      dsimp only [Pt.U, Pt.locs, Pt.cells, Pt.slots] at X42 l42 y42 z42 st42 hQ42
      subst l42 y42 z42
      obtain ⟨hv42, M43, e42⟩ := hQ42
      obtain rfl : v42 = some (.int (0 : Int32)) := by rw [hv42]; rw [own_isp, if_pos c41]
      have N43 := Fr.app N33 M43
      refine own_to (S' := T42.setTop (mkF m 17 #[.val (.ref a), .val (.ref kd), .val (.long cc), .second] [(.int (0 : Int32))])) st42 ?_
      refine own_go (S' := T42.setTop (mkF m 30 #[.val (.ref a), .val (.ref kd), .val (.long cc), .second] [])) (fun tg kk => XS.ifYes X42.here hx rfl (pc0 := 17) (pc' := 30) rfl (hb hby d5_17) rfl (XT.i0_eq_t (by decide)) (by decide) (by decide) kk) ?_
      obtain ⟨fs, hr, hrun, hended, hW, hsame⟩ := X42.leave (v := none) (fun _ => rfl)
      refine ⟨_, _, X42.returnOut hx Bd.returns (hb hby d5_30) hr, hrun, hended, _, _, rfl, ?_, ⟨_, rfl⟩, hW, hsame.mono (by decide) (by decide)⟩
      show Q5 Z a ca k kd (1 : Int32) cc f t sD h0 n0 none T42.heap _
      rw [e42]
      exact ⟨rfl, N43, K40, F34, by rw [own_tot, if_pos c41]; exact F35, V33⟩
    · obtain ⟨cq45, kq45, qa45, qb45, qc45⟩ := isOf hZ e33 (Ek.ext O38.2)
      obtain ⟨v45, _, ⟨T45, L45, k45, n45⟩, -, X45, ⟨Lc45, hQ45, l45, y45, z45⟩, st45⟩ := X33.virtualBack hx (y := (⟨"spanwire/protocol/MessageKind", "isProtocol", "()Z"⟩ : MethodName)) (z := (⟨"spanwire/protocol/MessageKind", "isProtocol", "()Z"⟩ : MethodName)) hown (mvT hZ (hw _ (List.mem_of_getElem? (i := 57) rfl))) (mvT hZ (hw _ (List.mem_of_getElem? (i := 58) rfl))) (notFace_of_selects (args := #[]) (mvT hZ (hw _ (List.mem_of_getElem? (i := 60) rfl)))) (mvT hZ (hw _ (List.mem_of_getElem? (i := 60) rfl))) (mvT hZ (hw _ (List.mem_of_getElem? (i := 59) rfl))) (by decide) (backOf (W := 0) (rm7 l Z a0 hw [] kd sD h33 n0 Z39 O38 S_DONE) hZ (hw _ (List.mem_of_getElem? (i := 61) rfl)) (hw _ (List.mem_of_getElem? (i := 5) rfl)) (by decide) (by decide)) qa45 qc45 (g := (mkF m 14 #[.val (.ref a), .val (.ref kd), .val (.long cc), .second] [(.ref kd)])) rfl (by rw [hml]; rfl) (Steps.refl _) (argsL := []) (rest := []) (lenOf pd___Z rfl) rfl (by show 2 * 0 + _ ≤ _; exact Nat.le_of_eq rfl) (hb hby d5_14) (fun _ _ => ⟨rfl, e33, (by decide : 0 + 0 ≤ _), (by decide : 0 + 0 ≤ _)⟩)
      dsimp only [Pt.U, Pt.locs, Pt.cells, Pt.slots] at X45 l45 y45 z45 st45 hQ45
      subst l45 y45 z45
      obtain ⟨hv45, M46, e45⟩ := hQ45
      obtain rfl : v45 = some (.int (1 : Int32)) := by rw [hv45]; rw [own_isp, if_neg c41]
      have N46 := Fr.app N33 M46
      refine own_to (S' := T45.setTop (mkF m 17 #[.val (.ref a), .val (.ref kd), .val (.long cc), .second] [(.int (1 : Int32))])) st45 ?_
      refine own_go (S' := T45.setTop (mkF m 20 #[.val (.ref a), .val (.ref kd), .val (.long cc), .second] [])) (fun tg kk => XS.ifNo X45.here hx rfl (hb hby d5_17) rfl (XT.i0_eq_f (by decide)) kk) ?_
      refine own_go (S' := T45.setTop (mkF m 21 #[.val (.ref a), .val (.ref kd), .val (.long cc), .second] [(.ref a)])) (fun tg kk => XS.aloadN X45.here hx rfl (hb hby d5_20) rfl rfl kk) ?_
      refine own_go (S' := T45.setTop (mkF m 22 #[.val (.ref a), .val (.ref kd), .val (.long cc), .second] [(.ref a), (.ref a)])) (fun tg kk => XS.dup X45.here hx rfl (hb hby d5_21) rfl rfl kk) ?_
      obtain ⟨T47, X47, e47, st47⟩ := getF X45 hx hZ hown (host := "") (Or.inl (hw _ (List.mem_of_getElem? (i := 63) rfl))) Via.refl e45 F35 (g := (mkF m 22 #[.val (.ref a), .val (.ref kd), .val (.long cc), .second] [(.ref a), (.ref a)])) rfl rfl (hb hby d5_22)
      refine own_go (S' := T47.setTop (mkF m 25 #[.val (.ref a), .val (.ref kd), .val (.long cc), .second] [(.long t), (.ref a)])) (st47) ?_
      refine own_go (S' := T47.setTop (mkF m 26 #[.val (.ref a), .val (.ref kd), .val (.long cc), .second] [(.long cc), (.long t), (.ref a)])) (fun tg kk => XT.lloadN X47.here hx rfl (hb hby d5_25) rfl kk) ?_
      refine own_go (S' := T47.setTop (mkF m 27 #[.val (.ref a), .val (.ref kd), .val (.long cc), .second] [(.long (t + cc)), (.ref a)])) (fun tg kk => XT.ladd X47.here hx rfl (hb hby d5_26) rfl kk) ?_
      obtain ⟨T48, h48, X48, e48, W48, st48⟩ := putF X47 hx hZ hown (host := "") (Or.inl (hw _ (List.mem_of_getElem? (i := 63) rfl))) Via.refl e47 F35 E36 (Or.inl (hw _ (List.mem_of_getElem? (i := 64) rfl))) (hw _ (List.mem_of_getElem? (i := 12) rfl)) (ty := .long) (by decide) rfl rfl (g := (mkF m 27 #[.val (.ref a), .val (.ref kd), .val (.long cc), .second] [(.long (t + cc)), (.ref a)])) rfl rfl (hb hby d5_27)
      refine own_go (S' := T48.setTop (mkF m 30 #[.val (.ref a), .val (.ref kd), .val (.long cc), .second] [])) (st48) ?_
      have N48 := Fr.snoc X48 N46 ga
      have F49 := F34.other W48 (Or.inr (slot_ne (Or.inr (hw _ (List.mem_of_getElem? (i := 42) rfl))) (Or.inl (hw _ (List.mem_of_getElem? (i := 64) rfl))) (by decide) (t := .array .long) (t' := .long) (by decide) (by decide)))
      have F50 := F35.same W48
      have E51 : Exa Z h48 a "spanwire/protocol/MessageCounts" := E36.wr W48
      have A52 := V33.other W48 (Ne.symm nac)
      have O53 : Old Z n0 h48 := O38.wr W48 ga
      have Z54 : n0 ≤ h48.size := by rw [W48.size]; exact Z39
      have K55 : Keep h0 h48 [a, ca] := K40.wr W48 (Or.inl (List.mem_of_getElem? (i := 0) rfl))
      obtain ⟨fs, hr, hrun, hended, hW, hsame⟩ := X48.leave (v := none) (fun _ => rfl)
      refine ⟨_, _, X48.returnOut hx Bd.returns (hb hby d5_30) hr, hrun, hended, _, _, rfl, ?_, ⟨_, rfl⟩, hW, hsame.mono (by decide) (by decide)⟩
      show Q5 Z a ca k kd (1 : Int32) cc f t sD h0 n0 none T48.heap _
      rw [e48]
      exact ⟨rfl, N48, K55, F49, by rw [own_tot, if_neg c41]; exact F50, A52⟩
  · refine own_go (S' := s₁.setTop (mkF m 1 #[.val (.ref a), .val (.ref kd), .val (.long cc), .second] [(.ref a)])) (fun tg kk => XS.aloadN X0.here hx rfl (hb hby d5_0) rfl rfl kk) ?_
    obtain ⟨T57, X57, e57, st57⟩ := getF X0 hx hZ hown (host := "") (Or.inl (hw _ (List.mem_of_getElem? (i := 41) rfl))) Via.refl e0 Fc (g := (mkF m 1 #[.val (.ref a), .val (.ref kd), .val (.long cc), .second] [(.ref a)])) rfl rfl (hb hby d5_1)
    refine own_go (S' := T57.setTop (mkF m 4 #[.val (.ref a), .val (.ref kd), .val (.long cc), .second] [(.ref ca)])) (st57) ?_
    refine own_go (S' := T57.setTop (mkF m 5 #[.val (.ref a), .val (.ref kd), .val (.long cc), .second] [(.ref kd), (.ref ca)])) (fun tg kk => XS.aloadN X57.here hx rfl (hb hby d5_4) rfl rfl kk) ?_
    obtain ⟨cq58, kq58, qa58, qb58, qc58⟩ := isOf hZ e57 (Ek.ext O0.2)
    obtain ⟨v58, _, ⟨T58, L58, k58, n58⟩, -, X58, ⟨Lc58, hQ58, l58, y58, z58⟩, st58⟩ := X57.virtualBackUp hx (x := (⟨"spanwire/protocol/MessageKind", "ordinal", "()I"⟩ : MethodName)) (y := (⟨"java/lang/Enum", "ordinal", "()I"⟩ : MethodName)) (owner := "java/lang/Enum") hown (mvT hZ (hw _ (List.mem_of_getElem? (i := 48) rfl))) (mvT hZ (hw _ (List.mem_of_getElem? (i := 49) rfl))) (mvT hZ (hw _ (List.mem_of_getElem? (i := 50) rfl))) (by decide) (mvT hZ (hw _ (List.mem_of_getElem? (i := 52) rfl))) (mvT hZ (hw _ (List.mem_of_getElem? (i := 51) rfl))) (backOf (W := 1) (rm6 l Z a0 hw [] kd (2 : Int32) h0 n0 Z0 O0 Fo) hZ (hw _ (List.mem_of_getElem? (i := 54) rfl)) (hw _ (List.mem_of_getElem? (i := 53) rfl)) (by decide) (by decide)) qa58 qc58 (g := (mkF m 5 #[.val (.ref a), .val (.ref kd), .val (.long cc), .second] [(.ref kd), (.ref ca)])) rfl (by rw [hml]; rfl) (Steps.refl _) (argsL := []) (rest := [(.ref ca)]) (lenOf pd___I rfl) rfl (by show 2 * 0 + _ ≤ _; exact Nat.le_of_eq rfl) (hb hby d5_5) (fun _ _ => ⟨rfl, e57, (by decide : 0 + 0 ≤ _), (by decide : 0 + 0 ≤ _)⟩)
    dsimp only [Pt.U, Pt.locs, Pt.cells, Pt.slots] at X58 l58 y58 z58 st58 hQ58
    subst l58 y58 z58
    obtain ⟨rfl, M59, e58⟩ := hQ58
    have N59 := Fr.app N0 M59
    refine own_to (S' := T58.setTop (mkF m 8 #[.val (.ref a), .val (.ref kd), .val (.long cc), .second] [(.int (2 : Int32)), (.ref ca)])) st58 ?_
    refine own_go (S' := T58.setTop (mkF m 9 #[.val (.ref a), .val (.ref kd), .val (.long cc), .second] [(.int (2 : Int32)), (.ref ca), (.int (2 : Int32)), (.ref ca)])) (fun tg kk => XT.dup2 X58.here hx rfl (hb hby d5_8) rfl rfl rfl kk) ?_
    obtain ⟨cl60, Ar60, q1_60, S60, q3_60, H60, G60⟩ := id Va
    have hj60 := inb_of (j := (2 : Int32)) S60 ⟨by decide, by decide⟩
    have hv60 : cl60.slots[((2 : Int32)).toNatClampNeg]? = some (.long (f 2)) := Has.at H60 hj60 (by rfl)
    refine own_go (S' := T58.setTop (mkF m 10 #[.val (.ref a), .val (.ref kd), .val (.long cc), .second] [(.long (f 2)), (.int (2 : Int32)), (.ref ca)])) (fun tg kk => X58.laload hx (by rw [e58]; exact Ar60.1) (State.isArrayOf_alike hZ.alike Ar60.2.1) Ar60.2.2 hj60 hv60 (g := (mkF m 9 #[.val (.ref a), .val (.ref kd), .val (.long cc), .second] [(.int (2 : Int32)), (.ref ca), (.int (2 : Int32)), (.ref ca)])) rfl rfl (hb hby d5_9) tg kk) ?_
    refine own_go (S' := T58.setTop (mkF m 11 #[.val (.ref a), .val (.ref kd), .val (.long cc), .second] [(.long cc), (.long (f 2)), (.int (2 : Int32)), (.ref ca)])) (fun tg kk => XT.lloadN X58.here hx rfl (hb hby d5_10) rfl kk) ?_
    refine own_go (S' := T58.setTop (mkF m 12 #[.val (.ref a), .val (.ref kd), .val (.long cc), .second] [(.long ((f 2) + cc)), (.int (2 : Int32)), (.ref ca)])) (fun tg kk => XT.ladd X58.here hx rfl (hb hby d5_11) rfl kk) ?_
    obtain ⟨cl61, Ar61, q1_61, S61, q3_61, H61, G61⟩ := id Va
    have hj61 := inb_of (j := (2 : Int32)) S61 ⟨by decide, by decide⟩
    obtain ⟨T61, h61, X61, e61, W61, st61⟩ := stJ X58 hx hZ e58 Ar61 hj61 (g := (mkF m 12 #[.val (.ref a), .val (.ref kd), .val (.long cc), .second] [(.long ((f 2) + cc)), (.int (2 : Int32)), (.ref ca)])) rfl rfl (hb hby d5_12)
    refine own_go (S' := T61.setTop (mkF m 13 #[.val (.ref a), .val (.ref kd), .val (.long cc), .second] [])) (st61) ?_
    have N61 := Fr.snoc X61 N59 gc
    have F62 := Fc.other W61 (Or.inl nac)
    have F63 := Ft.other W61 (Or.inl nac)
    have E64 : Exa Z h61 a "spanwire/protocol/MessageCounts" := Ea.wr W61
    have O66 : Old Z n0 h61 := O0.wr W61 gc
    have Z67 : n0 ≤ h61.size := by rw [W61.size]; exact Z0
    have K68 : Keep h0 h61 [a, ca] := K0.wr W61 (Or.inl (List.mem_of_getElem? (i := 1) rfl))
    have V61 : Arv Z h61 ca k .long (8 : Int32) [(.long (f 0)), (.long (f 1)), (.long ((f 2) + cc)), (.long (f 3)), (.long (f 4)), (.long (f 5)), (.long (f 6)), (.long (f 7))] (.long (0 : Int64)) := Arv.set Ar61 q1_61 S61 q3_61 H61 G61 rfl W61 2 (by decide) (by show 2 < 8; decide)
    refine own_go (S' := T61.setTop (mkF m 14 #[.val (.ref a), .val (.ref kd), .val (.long cc), .second] [(.ref kd)])) (fun tg kk => XS.aloadN X61.here hx rfl (hb hby d5_13) rfl rfl kk) ?_
    by_cases c69 : (Value.ref kd) = (Value.ref sD)
    · obtain ⟨cq70, kq70, qa70, qb70, qc70⟩ := isOf hZ e61 (Ek.ext O66.2)
      obtain ⟨v70, _, ⟨T70, L70, k70, n70⟩, -, X70, ⟨Lc70, hQ70, l70, y70, z70⟩, st70⟩ := X61.virtualBack hx (y := (⟨"spanwire/protocol/MessageKind", "isProtocol", "()Z"⟩ : MethodName)) (z := (⟨"spanwire/protocol/MessageKind", "isProtocol", "()Z"⟩ : MethodName)) hown (mvT hZ (hw _ (List.mem_of_getElem? (i := 57) rfl))) (mvT hZ (hw _ (List.mem_of_getElem? (i := 58) rfl))) (notFace_of_selects (args := #[]) (mvT hZ (hw _ (List.mem_of_getElem? (i := 60) rfl)))) (mvT hZ (hw _ (List.mem_of_getElem? (i := 60) rfl))) (mvT hZ (hw _ (List.mem_of_getElem? (i := 59) rfl))) (by decide) (backOf (W := 0) (rm7 l Z a0 hw [] kd sD h61 n0 Z67 O66 S_DONE) hZ (hw _ (List.mem_of_getElem? (i := 61) rfl)) (hw _ (List.mem_of_getElem? (i := 5) rfl)) (by decide) (by decide)) qa70 qc70 (g := (mkF m 14 #[.val (.ref a), .val (.ref kd), .val (.long cc), .second] [(.ref kd)])) rfl (by rw [hml]; rfl) (Steps.refl _) (argsL := []) (rest := []) (lenOf pd___Z rfl) rfl (by show 2 * 0 + _ ≤ _; exact Nat.le_of_eq rfl) (hb hby d5_14) (fun _ _ => ⟨rfl, e61, (by decide : 0 + 0 ≤ _), (by decide : 0 + 0 ≤ _)⟩)
      dsimp only [Pt.U, Pt.locs, Pt.cells, Pt.slots] at X70 l70 y70 z70 st70 hQ70
      subst l70 y70 z70
      obtain ⟨hv70, M71, e70⟩ := hQ70
      obtain rfl : v70 = some (.int (0 : Int32)) := by rw [hv70]; rw [own_isp, if_pos c69]
      have N71 := Fr.app N61 M71
      refine own_to (S' := T70.setTop (mkF m 17 #[.val (.ref a), .val (.ref kd), .val (.long cc), .second] [(.int (0 : Int32))])) st70 ?_
      refine own_go (S' := T70.setTop (mkF m 30 #[.val (.ref a), .val (.ref kd), .val (.long cc), .second] [])) (fun tg kk => XS.ifYes X70.here hx rfl (pc0 := 17) (pc' := 30) rfl (hb hby d5_17) rfl (XT.i0_eq_t (by decide)) (by decide) (by decide) kk) ?_
      obtain ⟨fs, hr, hrun, hended, hW, hsame⟩ := X70.leave (v := none) (fun _ => rfl)
      refine ⟨_, _, X70.returnOut hx Bd.returns (hb hby d5_30) hr, hrun, hended, _, _, rfl, ?_, ⟨_, rfl⟩, hW, hsame.mono (by decide) (by decide)⟩
      show Q5 Z a ca k kd (2 : Int32) cc f t sD h0 n0 none T70.heap _
      rw [e70]
      exact ⟨rfl, N71, K68, F62, by rw [own_tot, if_pos c69]; exact F63, V61⟩
    · obtain ⟨cq73, kq73, qa73, qb73, qc73⟩ := isOf hZ e61 (Ek.ext O66.2)
      obtain ⟨v73, _, ⟨T73, L73, k73, n73⟩, -, X73, ⟨Lc73, hQ73, l73, y73, z73⟩, st73⟩ := X61.virtualBack hx (y := (⟨"spanwire/protocol/MessageKind", "isProtocol", "()Z"⟩ : MethodName)) (z := (⟨"spanwire/protocol/MessageKind", "isProtocol", "()Z"⟩ : MethodName)) hown (mvT hZ (hw _ (List.mem_of_getElem? (i := 57) rfl))) (mvT hZ (hw _ (List.mem_of_getElem? (i := 58) rfl))) (notFace_of_selects (args := #[]) (mvT hZ (hw _ (List.mem_of_getElem? (i := 60) rfl)))) (mvT hZ (hw _ (List.mem_of_getElem? (i := 60) rfl))) (mvT hZ (hw _ (List.mem_of_getElem? (i := 59) rfl))) (by decide) (backOf (W := 0) (rm7 l Z a0 hw [] kd sD h61 n0 Z67 O66 S_DONE) hZ (hw _ (List.mem_of_getElem? (i := 61) rfl)) (hw _ (List.mem_of_getElem? (i := 5) rfl)) (by decide) (by decide)) qa73 qc73 (g := (mkF m 14 #[.val (.ref a), .val (.ref kd), .val (.long cc), .second] [(.ref kd)])) rfl (by rw [hml]; rfl) (Steps.refl _) (argsL := []) (rest := []) (lenOf pd___Z rfl) rfl (by show 2 * 0 + _ ≤ _; exact Nat.le_of_eq rfl) (hb hby d5_14) (fun _ _ => ⟨rfl, e61, (by decide : 0 + 0 ≤ _), (by decide : 0 + 0 ≤ _)⟩)
      dsimp only [Pt.U, Pt.locs, Pt.cells, Pt.slots] at X73 l73 y73 z73 st73 hQ73
      subst l73 y73 z73
      obtain ⟨hv73, M74, e73⟩ := hQ73
      obtain rfl : v73 = some (.int (1 : Int32)) := by rw [hv73]; rw [own_isp, if_neg c69]
      have N74 := Fr.app N61 M74
      refine own_to (S' := T73.setTop (mkF m 17 #[.val (.ref a), .val (.ref kd), .val (.long cc), .second] [(.int (1 : Int32))])) st73 ?_
      refine own_go (S' := T73.setTop (mkF m 20 #[.val (.ref a), .val (.ref kd), .val (.long cc), .second] [])) (fun tg kk => XS.ifNo X73.here hx rfl (hb hby d5_17) rfl (XT.i0_eq_f (by decide)) kk) ?_
      refine own_go (S' := T73.setTop (mkF m 21 #[.val (.ref a), .val (.ref kd), .val (.long cc), .second] [(.ref a)])) (fun tg kk => XS.aloadN X73.here hx rfl (hb hby d5_20) rfl rfl kk) ?_
      refine own_go (S' := T73.setTop (mkF m 22 #[.val (.ref a), .val (.ref kd), .val (.long cc), .second] [(.ref a), (.ref a)])) (fun tg kk => XS.dup X73.here hx rfl (hb hby d5_21) rfl rfl kk) ?_
      obtain ⟨T75, X75, e75, st75⟩ := getF X73 hx hZ hown (host := "") (Or.inl (hw _ (List.mem_of_getElem? (i := 63) rfl))) Via.refl e73 F63 (g := (mkF m 22 #[.val (.ref a), .val (.ref kd), .val (.long cc), .second] [(.ref a), (.ref a)])) rfl rfl (hb hby d5_22)
      refine own_go (S' := T75.setTop (mkF m 25 #[.val (.ref a), .val (.ref kd), .val (.long cc), .second] [(.long t), (.ref a)])) (st75) ?_
      refine own_go (S' := T75.setTop (mkF m 26 #[.val (.ref a), .val (.ref kd), .val (.long cc), .second] [(.long cc), (.long t), (.ref a)])) (fun tg kk => XT.lloadN X75.here hx rfl (hb hby d5_25) rfl kk) ?_
      refine own_go (S' := T75.setTop (mkF m 27 #[.val (.ref a), .val (.ref kd), .val (.long cc), .second] [(.long (t + cc)), (.ref a)])) (fun tg kk => XT.ladd X75.here hx rfl (hb hby d5_26) rfl kk) ?_
      obtain ⟨T76, h76, X76, e76, W76, st76⟩ := putF X75 hx hZ hown (host := "") (Or.inl (hw _ (List.mem_of_getElem? (i := 63) rfl))) Via.refl e75 F63 E64 (Or.inl (hw _ (List.mem_of_getElem? (i := 64) rfl))) (hw _ (List.mem_of_getElem? (i := 12) rfl)) (ty := .long) (by decide) rfl rfl (g := (mkF m 27 #[.val (.ref a), .val (.ref kd), .val (.long cc), .second] [(.long (t + cc)), (.ref a)])) rfl rfl (hb hby d5_27)
      refine own_go (S' := T76.setTop (mkF m 30 #[.val (.ref a), .val (.ref kd), .val (.long cc), .second] [])) (st76) ?_
      have N76 := Fr.snoc X76 N74 ga
      have F77 := F62.other W76 (Or.inr (slot_ne (Or.inr (hw _ (List.mem_of_getElem? (i := 42) rfl))) (Or.inl (hw _ (List.mem_of_getElem? (i := 64) rfl))) (by decide) (t := .array .long) (t' := .long) (by decide) (by decide)))
      have F78 := F63.same W76
      have E79 : Exa Z h76 a "spanwire/protocol/MessageCounts" := E64.wr W76
      have A80 := V61.other W76 (Ne.symm nac)
      have O81 : Old Z n0 h76 := O66.wr W76 ga
      have Z82 : n0 ≤ h76.size := by rw [W76.size]; exact Z67
      have K83 : Keep h0 h76 [a, ca] := K68.wr W76 (Or.inl (List.mem_of_getElem? (i := 0) rfl))
      obtain ⟨fs, hr, hrun, hended, hW, hsame⟩ := X76.leave (v := none) (fun _ => rfl)
      refine ⟨_, _, X76.returnOut hx Bd.returns (hb hby d5_30) hr, hrun, hended, _, _, rfl, ?_, ⟨_, rfl⟩, hW, hsame.mono (by decide) (by decide)⟩
      show Q5 Z a ca k kd (2 : Int32) cc f t sD h0 n0 none T76.heap _
      rw [e76]
      exact ⟨rfl, N76, K83, F77, by rw [own_tot, if_neg c69]; exact F78, A80⟩
  · refine own_go (S' := s₁.setTop (mkF m 1 #[.val (.ref a), .val (.ref kd), .val (.long cc), .second] [(.ref a)])) (fun tg kk => XS.aloadN X0.here hx rfl (hb hby d5_0) rfl rfl kk) ?_
    obtain ⟨T85, X85, e85, st85⟩ := getF X0 hx hZ hown (host := "") (Or.inl (hw _ (List.mem_of_getElem? (i := 41) rfl))) Via.refl e0 Fc (g := (mkF m 1 #[.val (.ref a), .val (.ref kd), .val (.long cc), .second] [(.ref a)])) rfl rfl (hb hby d5_1)
    refine own_go (S' := T85.setTop (mkF m 4 #[.val (.ref a), .val (.ref kd), .val (.long cc), .second] [(.ref ca)])) (st85) ?_
    refine own_go (S' := T85.setTop (mkF m 5 #[.val (.ref a), .val (.ref kd), .val (.long cc), .second] [(.ref kd), (.ref ca)])) (fun tg kk => XS.aloadN X85.here hx rfl (hb hby d5_4) rfl rfl kk) ?_
    obtain ⟨cq86, kq86, qa86, qb86, qc86⟩ := isOf hZ e85 (Ek.ext O0.2)
    obtain ⟨v86, _, ⟨T86, L86, k86, n86⟩, -, X86, ⟨Lc86, hQ86, l86, y86, z86⟩, st86⟩ := X85.virtualBackUp hx (x := (⟨"spanwire/protocol/MessageKind", "ordinal", "()I"⟩ : MethodName)) (y := (⟨"java/lang/Enum", "ordinal", "()I"⟩ : MethodName)) (owner := "java/lang/Enum") hown (mvT hZ (hw _ (List.mem_of_getElem? (i := 48) rfl))) (mvT hZ (hw _ (List.mem_of_getElem? (i := 49) rfl))) (mvT hZ (hw _ (List.mem_of_getElem? (i := 50) rfl))) (by decide) (mvT hZ (hw _ (List.mem_of_getElem? (i := 52) rfl))) (mvT hZ (hw _ (List.mem_of_getElem? (i := 51) rfl))) (backOf (W := 1) (rm6 l Z a0 hw [] kd (3 : Int32) h0 n0 Z0 O0 Fo) hZ (hw _ (List.mem_of_getElem? (i := 54) rfl)) (hw _ (List.mem_of_getElem? (i := 53) rfl)) (by decide) (by decide)) qa86 qc86 (g := (mkF m 5 #[.val (.ref a), .val (.ref kd), .val (.long cc), .second] [(.ref kd), (.ref ca)])) rfl (by rw [hml]; rfl) (Steps.refl _) (argsL := []) (rest := [(.ref ca)]) (lenOf pd___I rfl) rfl (by show 2 * 0 + _ ≤ _; exact Nat.le_of_eq rfl) (hb hby d5_5) (fun _ _ => ⟨rfl, e85, (by decide : 0 + 0 ≤ _), (by decide : 0 + 0 ≤ _)⟩)
    dsimp only [Pt.U, Pt.locs, Pt.cells, Pt.slots] at X86 l86 y86 z86 st86 hQ86
    subst l86 y86 z86
    obtain ⟨rfl, M87, e86⟩ := hQ86
    have N87 := Fr.app N0 M87
    refine own_to (S' := T86.setTop (mkF m 8 #[.val (.ref a), .val (.ref kd), .val (.long cc), .second] [(.int (3 : Int32)), (.ref ca)])) st86 ?_
    refine own_go (S' := T86.setTop (mkF m 9 #[.val (.ref a), .val (.ref kd), .val (.long cc), .second] [(.int (3 : Int32)), (.ref ca), (.int (3 : Int32)), (.ref ca)])) (fun tg kk => XT.dup2 X86.here hx rfl (hb hby d5_8) rfl rfl rfl kk) ?_
    obtain ⟨cl88, Ar88, q1_88, S88, q3_88, H88, G88⟩ := id Va
    have hj88 := inb_of (j := (3 : Int32)) S88 ⟨by decide, by decide⟩
    have hv88 : cl88.slots[((3 : Int32)).toNatClampNeg]? = some (.long (f 3)) := Has.at H88 hj88 (by rfl)
    refine own_go (S' := T86.setTop (mkF m 10 #[.val (.ref a), .val (.ref kd), .val (.long cc), .second] [(.long (f 3)), (.int (3 : Int32)), (.ref ca)])) (fun tg kk => X86.laload hx (by rw [e86]; exact Ar88.1) (State.isArrayOf_alike hZ.alike Ar88.2.1) Ar88.2.2 hj88 hv88 (g := (mkF m 9 #[.val (.ref a), .val (.ref kd), .val (.long cc), .second] [(.int (3 : Int32)), (.ref ca), (.int (3 : Int32)), (.ref ca)])) rfl rfl (hb hby d5_9) tg kk) ?_
    refine own_go (S' := T86.setTop (mkF m 11 #[.val (.ref a), .val (.ref kd), .val (.long cc), .second] [(.long cc), (.long (f 3)), (.int (3 : Int32)), (.ref ca)])) (fun tg kk => XT.lloadN X86.here hx rfl (hb hby d5_10) rfl kk) ?_
    refine own_go (S' := T86.setTop (mkF m 12 #[.val (.ref a), .val (.ref kd), .val (.long cc), .second] [(.long ((f 3) + cc)), (.int (3 : Int32)), (.ref ca)])) (fun tg kk => XT.ladd X86.here hx rfl (hb hby d5_11) rfl kk) ?_
    obtain ⟨cl89, Ar89, q1_89, S89, q3_89, H89, G89⟩ := id Va
    have hj89 := inb_of (j := (3 : Int32)) S89 ⟨by decide, by decide⟩
    obtain ⟨T89, h89, X89, e89, W89, st89⟩ := stJ X86 hx hZ e86 Ar89 hj89 (g := (mkF m 12 #[.val (.ref a), .val (.ref kd), .val (.long cc), .second] [(.long ((f 3) + cc)), (.int (3 : Int32)), (.ref ca)])) rfl rfl (hb hby d5_12)
    refine own_go (S' := T89.setTop (mkF m 13 #[.val (.ref a), .val (.ref kd), .val (.long cc), .second] [])) (st89) ?_
    have N89 := Fr.snoc X89 N87 gc
    have F90 := Fc.other W89 (Or.inl nac)
    have F91 := Ft.other W89 (Or.inl nac)
    have E92 : Exa Z h89 a "spanwire/protocol/MessageCounts" := Ea.wr W89
    have O94 : Old Z n0 h89 := O0.wr W89 gc
    have Z95 : n0 ≤ h89.size := by rw [W89.size]; exact Z0
    have K96 : Keep h0 h89 [a, ca] := K0.wr W89 (Or.inl (List.mem_of_getElem? (i := 1) rfl))
    have V89 : Arv Z h89 ca k .long (8 : Int32) [(.long (f 0)), (.long (f 1)), (.long (f 2)), (.long ((f 3) + cc)), (.long (f 4)), (.long (f 5)), (.long (f 6)), (.long (f 7))] (.long (0 : Int64)) := Arv.set Ar89 q1_89 S89 q3_89 H89 G89 rfl W89 3 (by decide) (by show 3 < 8; decide)
    refine own_go (S' := T89.setTop (mkF m 14 #[.val (.ref a), .val (.ref kd), .val (.long cc), .second] [(.ref kd)])) (fun tg kk => XS.aloadN X89.here hx rfl (hb hby d5_13) rfl rfl kk) ?_
    by_cases c97 : (Value.ref kd) = (Value.ref sD)
    · obtain ⟨cq98, kq98, qa98, qb98, qc98⟩ := isOf hZ e89 (Ek.ext O94.2)
      obtain ⟨v98, _, ⟨T98, L98, k98, n98⟩, -, X98, ⟨Lc98, hQ98, l98, y98, z98⟩, st98⟩ := X89.virtualBack hx (y := (⟨"spanwire/protocol/MessageKind", "isProtocol", "()Z"⟩ : MethodName)) (z := (⟨"spanwire/protocol/MessageKind", "isProtocol", "()Z"⟩ : MethodName)) hown (mvT hZ (hw _ (List.mem_of_getElem? (i := 57) rfl))) (mvT hZ (hw _ (List.mem_of_getElem? (i := 58) rfl))) (notFace_of_selects (args := #[]) (mvT hZ (hw _ (List.mem_of_getElem? (i := 60) rfl)))) (mvT hZ (hw _ (List.mem_of_getElem? (i := 60) rfl))) (mvT hZ (hw _ (List.mem_of_getElem? (i := 59) rfl))) (by decide) (backOf (W := 0) (rm7 l Z a0 hw [] kd sD h89 n0 Z95 O94 S_DONE) hZ (hw _ (List.mem_of_getElem? (i := 61) rfl)) (hw _ (List.mem_of_getElem? (i := 5) rfl)) (by decide) (by decide)) qa98 qc98 (g := (mkF m 14 #[.val (.ref a), .val (.ref kd), .val (.long cc), .second] [(.ref kd)])) rfl (by rw [hml]; rfl) (Steps.refl _) (argsL := []) (rest := []) (lenOf pd___Z rfl) rfl (by show 2 * 0 + _ ≤ _; exact Nat.le_of_eq rfl) (hb hby d5_14) (fun _ _ => ⟨rfl, e89, (by decide : 0 + 0 ≤ _), (by decide : 0 + 0 ≤ _)⟩)
      dsimp only [Pt.U, Pt.locs, Pt.cells, Pt.slots] at X98 l98 y98 z98 st98 hQ98
      subst l98 y98 z98
      obtain ⟨hv98, M99, e98⟩ := hQ98
      obtain rfl : v98 = some (.int (0 : Int32)) := by rw [hv98]; rw [own_isp, if_pos c97]
      have N99 := Fr.app N89 M99
      refine own_to (S' := T98.setTop (mkF m 17 #[.val (.ref a), .val (.ref kd), .val (.long cc), .second] [(.int (0 : Int32))])) st98 ?_
      refine own_go (S' := T98.setTop (mkF m 30 #[.val (.ref a), .val (.ref kd), .val (.long cc), .second] [])) (fun tg kk => XS.ifYes X98.here hx rfl (pc0 := 17) (pc' := 30) rfl (hb hby d5_17) rfl (XT.i0_eq_t (by decide)) (by decide) (by decide) kk) ?_
      obtain ⟨fs, hr, hrun, hended, hW, hsame⟩ := X98.leave (v := none) (fun _ => rfl)
      refine ⟨_, _, X98.returnOut hx Bd.returns (hb hby d5_30) hr, hrun, hended, _, _, rfl, ?_, ⟨_, rfl⟩, hW, hsame.mono (by decide) (by decide)⟩
      show Q5 Z a ca k kd (3 : Int32) cc f t sD h0 n0 none T98.heap _
      rw [e98]
      exact ⟨rfl, N99, K96, F90, by rw [own_tot, if_pos c97]; exact F91, V89⟩
    · obtain ⟨cq101, kq101, qa101, qb101, qc101⟩ := isOf hZ e89 (Ek.ext O94.2)
      obtain ⟨v101, _, ⟨T101, L101, k101, n101⟩, -, X101, ⟨Lc101, hQ101, l101, y101, z101⟩, st101⟩ := X89.virtualBack hx (y := (⟨"spanwire/protocol/MessageKind", "isProtocol", "()Z"⟩ : MethodName)) (z := (⟨"spanwire/protocol/MessageKind", "isProtocol", "()Z"⟩ : MethodName)) hown (mvT hZ (hw _ (List.mem_of_getElem? (i := 57) rfl))) (mvT hZ (hw _ (List.mem_of_getElem? (i := 58) rfl))) (notFace_of_selects (args := #[]) (mvT hZ (hw _ (List.mem_of_getElem? (i := 60) rfl)))) (mvT hZ (hw _ (List.mem_of_getElem? (i := 60) rfl))) (mvT hZ (hw _ (List.mem_of_getElem? (i := 59) rfl))) (by decide) (backOf (W := 0) (rm7 l Z a0 hw [] kd sD h89 n0 Z95 O94 S_DONE) hZ (hw _ (List.mem_of_getElem? (i := 61) rfl)) (hw _ (List.mem_of_getElem? (i := 5) rfl)) (by decide) (by decide)) qa101 qc101 (g := (mkF m 14 #[.val (.ref a), .val (.ref kd), .val (.long cc), .second] [(.ref kd)])) rfl (by rw [hml]; rfl) (Steps.refl _) (argsL := []) (rest := []) (lenOf pd___Z rfl) rfl (by show 2 * 0 + _ ≤ _; exact Nat.le_of_eq rfl) (hb hby d5_14) (fun _ _ => ⟨rfl, e89, (by decide : 0 + 0 ≤ _), (by decide : 0 + 0 ≤ _)⟩)
      dsimp only [Pt.U, Pt.locs, Pt.cells, Pt.slots] at X101 l101 y101 z101 st101 hQ101
      subst l101 y101 z101
      obtain ⟨hv101, M102, e101⟩ := hQ101
      obtain rfl : v101 = some (.int (1 : Int32)) := by rw [hv101]; rw [own_isp, if_neg c97]
      have N102 := Fr.app N89 M102
      refine own_to (S' := T101.setTop (mkF m 17 #[.val (.ref a), .val (.ref kd), .val (.long cc), .second] [(.int (1 : Int32))])) st101 ?_
      refine own_go (S' := T101.setTop (mkF m 20 #[.val (.ref a), .val (.ref kd), .val (.long cc), .second] [])) (fun tg kk => XS.ifNo X101.here hx rfl (hb hby d5_17) rfl (XT.i0_eq_f (by decide)) kk) ?_
      refine own_go (S' := T101.setTop (mkF m 21 #[.val (.ref a), .val (.ref kd), .val (.long cc), .second] [(.ref a)])) (fun tg kk => XS.aloadN X101.here hx rfl (hb hby d5_20) rfl rfl kk) ?_
      refine own_go (S' := T101.setTop (mkF m 22 #[.val (.ref a), .val (.ref kd), .val (.long cc), .second] [(.ref a), (.ref a)])) (fun tg kk => XS.dup X101.here hx rfl (hb hby d5_21) rfl rfl kk) ?_
      obtain ⟨T103, X103, e103, st103⟩ := getF X101 hx hZ hown (host := "") (Or.inl (hw _ (List.mem_of_getElem? (i := 63) rfl))) Via.refl e101 F91 (g := (mkF m 22 #[.val (.ref a), .val (.ref kd), .val (.long cc), .second] [(.ref a), (.ref a)])) rfl rfl (hb hby d5_22)
      refine own_go (S' := T103.setTop (mkF m 25 #[.val (.ref a), .val (.ref kd), .val (.long cc), .second] [(.long t), (.ref a)])) (st103) ?_
      refine own_go (S' := T103.setTop (mkF m 26 #[.val (.ref a), .val (.ref kd), .val (.long cc), .second] [(.long cc), (.long t), (.ref a)])) (fun tg kk => XT.lloadN X103.here hx rfl (hb hby d5_25) rfl kk) ?_
      refine own_go (S' := T103.setTop (mkF m 27 #[.val (.ref a), .val (.ref kd), .val (.long cc), .second] [(.long (t + cc)), (.ref a)])) (fun tg kk => XT.ladd X103.here hx rfl (hb hby d5_26) rfl kk) ?_
      obtain ⟨T104, h104, X104, e104, W104, st104⟩ := putF X103 hx hZ hown (host := "") (Or.inl (hw _ (List.mem_of_getElem? (i := 63) rfl))) Via.refl e103 F91 E92 (Or.inl (hw _ (List.mem_of_getElem? (i := 64) rfl))) (hw _ (List.mem_of_getElem? (i := 12) rfl)) (ty := .long) (by decide) rfl rfl (g := (mkF m 27 #[.val (.ref a), .val (.ref kd), .val (.long cc), .second] [(.long (t + cc)), (.ref a)])) rfl rfl (hb hby d5_27)
      refine own_go (S' := T104.setTop (mkF m 30 #[.val (.ref a), .val (.ref kd), .val (.long cc), .second] [])) (st104) ?_
      have N104 := Fr.snoc X104 N102 ga
      have F105 := F90.other W104 (Or.inr (slot_ne (Or.inr (hw _ (List.mem_of_getElem? (i := 42) rfl))) (Or.inl (hw _ (List.mem_of_getElem? (i := 64) rfl))) (by decide) (t := .array .long) (t' := .long) (by decide) (by decide)))
      have F106 := F91.same W104
      have E107 : Exa Z h104 a "spanwire/protocol/MessageCounts" := E92.wr W104
      have A108 := V89.other W104 (Ne.symm nac)
      have O109 : Old Z n0 h104 := O94.wr W104 ga
      have Z110 : n0 ≤ h104.size := by rw [W104.size]; exact Z95
      have K111 : Keep h0 h104 [a, ca] := K96.wr W104 (Or.inl (List.mem_of_getElem? (i := 0) rfl))
      obtain ⟨fs, hr, hrun, hended, hW, hsame⟩ := X104.leave (v := none) (fun _ => rfl)
      refine ⟨_, _, X104.returnOut hx Bd.returns (hb hby d5_30) hr, hrun, hended, _, _, rfl, ?_, ⟨_, rfl⟩, hW, hsame.mono (by decide) (by decide)⟩
      show Q5 Z a ca k kd (3 : Int32) cc f t sD h0 n0 none T104.heap _
      rw [e104]
      exact ⟨rfl, N104, K111, F105, by rw [own_tot, if_neg c97]; exact F106, A108⟩
  · refine own_go (S' := s₁.setTop (mkF m 1 #[.val (.ref a), .val (.ref kd), .val (.long cc), .second] [(.ref a)])) (fun tg kk => XS.aloadN X0.here hx rfl (hb hby d5_0) rfl rfl kk) ?_
    obtain ⟨T113, X113, e113, st113⟩ := getF X0 hx hZ hown (host := "") (Or.inl (hw _ (List.mem_of_getElem? (i := 41) rfl))) Via.refl e0 Fc (g := (mkF m 1 #[.val (.ref a), .val (.ref kd), .val (.long cc), .second] [(.ref a)])) rfl rfl (hb hby d5_1)
    refine own_go (S' := T113.setTop (mkF m 4 #[.val (.ref a), .val (.ref kd), .val (.long cc), .second] [(.ref ca)])) (st113) ?_
    refine own_go (S' := T113.setTop (mkF m 5 #[.val (.ref a), .val (.ref kd), .val (.long cc), .second] [(.ref kd), (.ref ca)])) (fun tg kk => XS.aloadN X113.here hx rfl (hb hby d5_4) rfl rfl kk) ?_
    obtain ⟨cq114, kq114, qa114, qb114, qc114⟩ := isOf hZ e113 (Ek.ext O0.2)
    obtain ⟨v114, _, ⟨T114, L114, k114, n114⟩, -, X114, ⟨Lc114, hQ114, l114, y114, z114⟩, st114⟩ := X113.virtualBackUp hx (x := (⟨"spanwire/protocol/MessageKind", "ordinal", "()I"⟩ : MethodName)) (y := (⟨"java/lang/Enum", "ordinal", "()I"⟩ : MethodName)) (owner := "java/lang/Enum") hown (mvT hZ (hw _ (List.mem_of_getElem? (i := 48) rfl))) (mvT hZ (hw _ (List.mem_of_getElem? (i := 49) rfl))) (mvT hZ (hw _ (List.mem_of_getElem? (i := 50) rfl))) (by decide) (mvT hZ (hw _ (List.mem_of_getElem? (i := 52) rfl))) (mvT hZ (hw _ (List.mem_of_getElem? (i := 51) rfl))) (backOf (W := 1) (rm6 l Z a0 hw [] kd (4 : Int32) h0 n0 Z0 O0 Fo) hZ (hw _ (List.mem_of_getElem? (i := 54) rfl)) (hw _ (List.mem_of_getElem? (i := 53) rfl)) (by decide) (by decide)) qa114 qc114 (g := (mkF m 5 #[.val (.ref a), .val (.ref kd), .val (.long cc), .second] [(.ref kd), (.ref ca)])) rfl (by rw [hml]; rfl) (Steps.refl _) (argsL := []) (rest := [(.ref ca)]) (lenOf pd___I rfl) rfl (by show 2 * 0 + _ ≤ _; exact Nat.le_of_eq rfl) (hb hby d5_5) (fun _ _ => ⟨rfl, e113, (by decide : 0 + 0 ≤ _), (by decide : 0 + 0 ≤ _)⟩)
    dsimp only [Pt.U, Pt.locs, Pt.cells, Pt.slots] at X114 l114 y114 z114 st114 hQ114
    subst l114 y114 z114
    obtain ⟨rfl, M115, e114⟩ := hQ114
    have N115 := Fr.app N0 M115
    refine own_to (S' := T114.setTop (mkF m 8 #[.val (.ref a), .val (.ref kd), .val (.long cc), .second] [(.int (4 : Int32)), (.ref ca)])) st114 ?_
    refine own_go (S' := T114.setTop (mkF m 9 #[.val (.ref a), .val (.ref kd), .val (.long cc), .second] [(.int (4 : Int32)), (.ref ca), (.int (4 : Int32)), (.ref ca)])) (fun tg kk => XT.dup2 X114.here hx rfl (hb hby d5_8) rfl rfl rfl kk) ?_
    obtain ⟨cl116, Ar116, q1_116, S116, q3_116, H116, G116⟩ := id Va
    have hj116 := inb_of (j := (4 : Int32)) S116 ⟨by decide, by decide⟩
    have hv116 : cl116.slots[((4 : Int32)).toNatClampNeg]? = some (.long (f 4)) := Has.at H116 hj116 (by rfl)
    refine own_go (S' := T114.setTop (mkF m 10 #[.val (.ref a), .val (.ref kd), .val (.long cc), .second] [(.long (f 4)), (.int (4 : Int32)), (.ref ca)])) (fun tg kk => X114.laload hx (by rw [e114]; exact Ar116.1) (State.isArrayOf_alike hZ.alike Ar116.2.1) Ar116.2.2 hj116 hv116 (g := (mkF m 9 #[.val (.ref a), .val (.ref kd), .val (.long cc), .second] [(.int (4 : Int32)), (.ref ca), (.int (4 : Int32)), (.ref ca)])) rfl rfl (hb hby d5_9) tg kk) ?_
    refine own_go (S' := T114.setTop (mkF m 11 #[.val (.ref a), .val (.ref kd), .val (.long cc), .second] [(.long cc), (.long (f 4)), (.int (4 : Int32)), (.ref ca)])) (fun tg kk => XT.lloadN X114.here hx rfl (hb hby d5_10) rfl kk) ?_
    refine own_go (S' := T114.setTop (mkF m 12 #[.val (.ref a), .val (.ref kd), .val (.long cc), .second] [(.long ((f 4) + cc)), (.int (4 : Int32)), (.ref ca)])) (fun tg kk => XT.ladd X114.here hx rfl (hb hby d5_11) rfl kk) ?_
    obtain ⟨cl117, Ar117, q1_117, S117, q3_117, H117, G117⟩ := id Va
    have hj117 := inb_of (j := (4 : Int32)) S117 ⟨by decide, by decide⟩
    obtain ⟨T117, h117, X117, e117, W117, st117⟩ := stJ X114 hx hZ e114 Ar117 hj117 (g := (mkF m 12 #[.val (.ref a), .val (.ref kd), .val (.long cc), .second] [(.long ((f 4) + cc)), (.int (4 : Int32)), (.ref ca)])) rfl rfl (hb hby d5_12)
    refine own_go (S' := T117.setTop (mkF m 13 #[.val (.ref a), .val (.ref kd), .val (.long cc), .second] [])) (st117) ?_
    have N117 := Fr.snoc X117 N115 gc
    have F118 := Fc.other W117 (Or.inl nac)
    have F119 := Ft.other W117 (Or.inl nac)
    have E120 : Exa Z h117 a "spanwire/protocol/MessageCounts" := Ea.wr W117
    have O122 : Old Z n0 h117 := O0.wr W117 gc
    have Z123 : n0 ≤ h117.size := by rw [W117.size]; exact Z0
    have K124 : Keep h0 h117 [a, ca] := K0.wr W117 (Or.inl (List.mem_of_getElem? (i := 1) rfl))
    have V117 : Arv Z h117 ca k .long (8 : Int32) [(.long (f 0)), (.long (f 1)), (.long (f 2)), (.long (f 3)), (.long ((f 4) + cc)), (.long (f 5)), (.long (f 6)), (.long (f 7))] (.long (0 : Int64)) := Arv.set Ar117 q1_117 S117 q3_117 H117 G117 rfl W117 4 (by decide) (by show 4 < 8; decide)
    refine own_go (S' := T117.setTop (mkF m 14 #[.val (.ref a), .val (.ref kd), .val (.long cc), .second] [(.ref kd)])) (fun tg kk => XS.aloadN X117.here hx rfl (hb hby d5_13) rfl rfl kk) ?_
    by_cases c125 : (Value.ref kd) = (Value.ref sD)
    · obtain ⟨cq126, kq126, qa126, qb126, qc126⟩ := isOf hZ e117 (Ek.ext O122.2)
      obtain ⟨v126, _, ⟨T126, L126, k126, n126⟩, -, X126, ⟨Lc126, hQ126, l126, y126, z126⟩, st126⟩ := X117.virtualBack hx (y := (⟨"spanwire/protocol/MessageKind", "isProtocol", "()Z"⟩ : MethodName)) (z := (⟨"spanwire/protocol/MessageKind", "isProtocol", "()Z"⟩ : MethodName)) hown (mvT hZ (hw _ (List.mem_of_getElem? (i := 57) rfl))) (mvT hZ (hw _ (List.mem_of_getElem? (i := 58) rfl))) (notFace_of_selects (args := #[]) (mvT hZ (hw _ (List.mem_of_getElem? (i := 60) rfl)))) (mvT hZ (hw _ (List.mem_of_getElem? (i := 60) rfl))) (mvT hZ (hw _ (List.mem_of_getElem? (i := 59) rfl))) (by decide) (backOf (W := 0) (rm7 l Z a0 hw [] kd sD h117 n0 Z123 O122 S_DONE) hZ (hw _ (List.mem_of_getElem? (i := 61) rfl)) (hw _ (List.mem_of_getElem? (i := 5) rfl)) (by decide) (by decide)) qa126 qc126 (g := (mkF m 14 #[.val (.ref a), .val (.ref kd), .val (.long cc), .second] [(.ref kd)])) rfl (by rw [hml]; rfl) (Steps.refl _) (argsL := []) (rest := []) (lenOf pd___Z rfl) rfl (by show 2 * 0 + _ ≤ _; exact Nat.le_of_eq rfl) (hb hby d5_14) (fun _ _ => ⟨rfl, e117, (by decide : 0 + 0 ≤ _), (by decide : 0 + 0 ≤ _)⟩)
      dsimp only [Pt.U, Pt.locs, Pt.cells, Pt.slots] at X126 l126 y126 z126 st126 hQ126
      subst l126 y126 z126
      obtain ⟨hv126, M127, e126⟩ := hQ126
      obtain rfl : v126 = some (.int (0 : Int32)) := by rw [hv126]; rw [own_isp, if_pos c125]
      have N127 := Fr.app N117 M127
      refine own_to (S' := T126.setTop (mkF m 17 #[.val (.ref a), .val (.ref kd), .val (.long cc), .second] [(.int (0 : Int32))])) st126 ?_
      refine own_go (S' := T126.setTop (mkF m 30 #[.val (.ref a), .val (.ref kd), .val (.long cc), .second] [])) (fun tg kk => XS.ifYes X126.here hx rfl (pc0 := 17) (pc' := 30) rfl (hb hby d5_17) rfl (XT.i0_eq_t (by decide)) (by decide) (by decide) kk) ?_
      obtain ⟨fs, hr, hrun, hended, hW, hsame⟩ := X126.leave (v := none) (fun _ => rfl)
      refine ⟨_, _, X126.returnOut hx Bd.returns (hb hby d5_30) hr, hrun, hended, _, _, rfl, ?_, ⟨_, rfl⟩, hW, hsame.mono (by decide) (by decide)⟩
      show Q5 Z a ca k kd (4 : Int32) cc f t sD h0 n0 none T126.heap _
      rw [e126]
      exact ⟨rfl, N127, K124, F118, by rw [own_tot, if_pos c125]; exact F119, V117⟩
    · obtain ⟨cq129, kq129, qa129, qb129, qc129⟩ := isOf hZ e117 (Ek.ext O122.2)
      obtain ⟨v129, _, ⟨T129, L129, k129, n129⟩, -, X129, ⟨Lc129, hQ129, l129, y129, z129⟩, st129⟩ := X117.virtualBack hx (y := (⟨"spanwire/protocol/MessageKind", "isProtocol", "()Z"⟩ : MethodName)) (z := (⟨"spanwire/protocol/MessageKind", "isProtocol", "()Z"⟩ : MethodName)) hown (mvT hZ (hw _ (List.mem_of_getElem? (i := 57) rfl))) (mvT hZ (hw _ (List.mem_of_getElem? (i := 58) rfl))) (notFace_of_selects (args := #[]) (mvT hZ (hw _ (List.mem_of_getElem? (i := 60) rfl)))) (mvT hZ (hw _ (List.mem_of_getElem? (i := 60) rfl))) (mvT hZ (hw _ (List.mem_of_getElem? (i := 59) rfl))) (by decide) (backOf (W := 0) (rm7 l Z a0 hw [] kd sD h117 n0 Z123 O122 S_DONE) hZ (hw _ (List.mem_of_getElem? (i := 61) rfl)) (hw _ (List.mem_of_getElem? (i := 5) rfl)) (by decide) (by decide)) qa129 qc129 (g := (mkF m 14 #[.val (.ref a), .val (.ref kd), .val (.long cc), .second] [(.ref kd)])) rfl (by rw [hml]; rfl) (Steps.refl _) (argsL := []) (rest := []) (lenOf pd___Z rfl) rfl (by show 2 * 0 + _ ≤ _; exact Nat.le_of_eq rfl) (hb hby d5_14) (fun _ _ => ⟨rfl, e117, (by decide : 0 + 0 ≤ _), (by decide : 0 + 0 ≤ _)⟩)
      dsimp only [Pt.U, Pt.locs, Pt.cells, Pt.slots] at X129 l129 y129 z129 st129 hQ129
      subst l129 y129 z129
      obtain ⟨hv129, M130, e129⟩ := hQ129
      obtain rfl : v129 = some (.int (1 : Int32)) := by rw [hv129]; rw [own_isp, if_neg c125]
      have N130 := Fr.app N117 M130
      refine own_to (S' := T129.setTop (mkF m 17 #[.val (.ref a), .val (.ref kd), .val (.long cc), .second] [(.int (1 : Int32))])) st129 ?_
      refine own_go (S' := T129.setTop (mkF m 20 #[.val (.ref a), .val (.ref kd), .val (.long cc), .second] [])) (fun tg kk => XS.ifNo X129.here hx rfl (hb hby d5_17) rfl (XT.i0_eq_f (by decide)) kk) ?_
      refine own_go (S' := T129.setTop (mkF m 21 #[.val (.ref a), .val (.ref kd), .val (.long cc), .second] [(.ref a)])) (fun tg kk => XS.aloadN X129.here hx rfl (hb hby d5_20) rfl rfl kk) ?_
      refine own_go (S' := T129.setTop (mkF m 22 #[.val (.ref a), .val (.ref kd), .val (.long cc), .second] [(.ref a), (.ref a)])) (fun tg kk => XS.dup X129.here hx rfl (hb hby d5_21) rfl rfl kk) ?_
      obtain ⟨T131, X131, e131, st131⟩ := getF X129 hx hZ hown (host := "") (Or.inl (hw _ (List.mem_of_getElem? (i := 63) rfl))) Via.refl e129 F119 (g := (mkF m 22 #[.val (.ref a), .val (.ref kd), .val (.long cc), .second] [(.ref a), (.ref a)])) rfl rfl (hb hby d5_22)
      refine own_go (S' := T131.setTop (mkF m 25 #[.val (.ref a), .val (.ref kd), .val (.long cc), .second] [(.long t), (.ref a)])) (st131) ?_
      refine own_go (S' := T131.setTop (mkF m 26 #[.val (.ref a), .val (.ref kd), .val (.long cc), .second] [(.long cc), (.long t), (.ref a)])) (fun tg kk => XT.lloadN X131.here hx rfl (hb hby d5_25) rfl kk) ?_
      refine own_go (S' := T131.setTop (mkF m 27 #[.val (.ref a), .val (.ref kd), .val (.long cc), .second] [(.long (t + cc)), (.ref a)])) (fun tg kk => XT.ladd X131.here hx rfl (hb hby d5_26) rfl kk) ?_
      obtain ⟨T132, h132, X132, e132, W132, st132⟩ := putF X131 hx hZ hown (host := "") (Or.inl (hw _ (List.mem_of_getElem? (i := 63) rfl))) Via.refl e131 F119 E120 (Or.inl (hw _ (List.mem_of_getElem? (i := 64) rfl))) (hw _ (List.mem_of_getElem? (i := 12) rfl)) (ty := .long) (by decide) rfl rfl (g := (mkF m 27 #[.val (.ref a), .val (.ref kd), .val (.long cc), .second] [(.long (t + cc)), (.ref a)])) rfl rfl (hb hby d5_27)
      refine own_go (S' := T132.setTop (mkF m 30 #[.val (.ref a), .val (.ref kd), .val (.long cc), .second] [])) (st132) ?_
      have N132 := Fr.snoc X132 N130 ga
      have F133 := F118.other W132 (Or.inr (slot_ne (Or.inr (hw _ (List.mem_of_getElem? (i := 42) rfl))) (Or.inl (hw _ (List.mem_of_getElem? (i := 64) rfl))) (by decide) (t := .array .long) (t' := .long) (by decide) (by decide)))
      have F134 := F119.same W132
      have E135 : Exa Z h132 a "spanwire/protocol/MessageCounts" := E120.wr W132
      have A136 := V117.other W132 (Ne.symm nac)
      have O137 : Old Z n0 h132 := O122.wr W132 ga
      have Z138 : n0 ≤ h132.size := by rw [W132.size]; exact Z123
      have K139 : Keep h0 h132 [a, ca] := K124.wr W132 (Or.inl (List.mem_of_getElem? (i := 0) rfl))
      obtain ⟨fs, hr, hrun, hended, hW, hsame⟩ := X132.leave (v := none) (fun _ => rfl)
      refine ⟨_, _, X132.returnOut hx Bd.returns (hb hby d5_30) hr, hrun, hended, _, _, rfl, ?_, ⟨_, rfl⟩, hW, hsame.mono (by decide) (by decide)⟩
      show Q5 Z a ca k kd (4 : Int32) cc f t sD h0 n0 none T132.heap _
      rw [e132]
      exact ⟨rfl, N132, K139, F133, by rw [own_tot, if_neg c125]; exact F134, A136⟩
  · refine own_go (S' := s₁.setTop (mkF m 1 #[.val (.ref a), .val (.ref kd), .val (.long cc), .second] [(.ref a)])) (fun tg kk => XS.aloadN X0.here hx rfl (hb hby d5_0) rfl rfl kk) ?_
    obtain ⟨T141, X141, e141, st141⟩ := getF X0 hx hZ hown (host := "") (Or.inl (hw _ (List.mem_of_getElem? (i := 41) rfl))) Via.refl e0 Fc (g := (mkF m 1 #[.val (.ref a), .val (.ref kd), .val (.long cc), .second] [(.ref a)])) rfl rfl (hb hby d5_1)
    refine own_go (S' := T141.setTop (mkF m 4 #[.val (.ref a), .val (.ref kd), .val (.long cc), .second] [(.ref ca)])) (st141) ?_
    refine own_go (S' := T141.setTop (mkF m 5 #[.val (.ref a), .val (.ref kd), .val (.long cc), .second] [(.ref kd), (.ref ca)])) (fun tg kk => XS.aloadN X141.here hx rfl (hb hby d5_4) rfl rfl kk) ?_
    obtain ⟨cq142, kq142, qa142, qb142, qc142⟩ := isOf hZ e141 (Ek.ext O0.2)
    obtain ⟨v142, _, ⟨T142, L142, k142, n142⟩, -, X142, ⟨Lc142, hQ142, l142, y142, z142⟩, st142⟩ := X141.virtualBackUp hx (x := (⟨"spanwire/protocol/MessageKind", "ordinal", "()I"⟩ : MethodName)) (y := (⟨"java/lang/Enum", "ordinal", "()I"⟩ : MethodName)) (owner := "java/lang/Enum") hown (mvT hZ (hw _ (List.mem_of_getElem? (i := 48) rfl))) (mvT hZ (hw _ (List.mem_of_getElem? (i := 49) rfl))) (mvT hZ (hw _ (List.mem_of_getElem? (i := 50) rfl))) (by decide) (mvT hZ (hw _ (List.mem_of_getElem? (i := 52) rfl))) (mvT hZ (hw _ (List.mem_of_getElem? (i := 51) rfl))) (backOf (W := 1) (rm6 l Z a0 hw [] kd (5 : Int32) h0 n0 Z0 O0 Fo) hZ (hw _ (List.mem_of_getElem? (i := 54) rfl)) (hw _ (List.mem_of_getElem? (i := 53) rfl)) (by decide) (by decide)) qa142 qc142 (g := (mkF m 5 #[.val (.ref a), .val (.ref kd), .val (.long cc), .second] [(.ref kd), (.ref ca)])) rfl (by rw [hml]; rfl) (Steps.refl _) (argsL := []) (rest := [(.ref ca)]) (lenOf pd___I rfl) rfl (by show 2 * 0 + _ ≤ _; exact Nat.le_of_eq rfl) (hb hby d5_5) (fun _ _ => ⟨rfl, e141, (by decide : 0 + 0 ≤ _), (by decide : 0 + 0 ≤ _)⟩)
    dsimp only [Pt.U, Pt.locs, Pt.cells, Pt.slots] at X142 l142 y142 z142 st142 hQ142
    subst l142 y142 z142
    obtain ⟨rfl, M143, e142⟩ := hQ142
    have N143 := Fr.app N0 M143
    refine own_to (S' := T142.setTop (mkF m 8 #[.val (.ref a), .val (.ref kd), .val (.long cc), .second] [(.int (5 : Int32)), (.ref ca)])) st142 ?_
    refine own_go (S' := T142.setTop (mkF m 9 #[.val (.ref a), .val (.ref kd), .val (.long cc), .second] [(.int (5 : Int32)), (.ref ca), (.int (5 : Int32)), (.ref ca)])) (fun tg kk => XT.dup2 X142.here hx rfl (hb hby d5_8) rfl rfl rfl kk) ?_
    obtain ⟨cl144, Ar144, q1_144, S144, q3_144, H144, G144⟩ := id Va
    have hj144 := inb_of (j := (5 : Int32)) S144 ⟨by decide, by decide⟩
    have hv144 : cl144.slots[((5 : Int32)).toNatClampNeg]? = some (.long (f 5)) := Has.at H144 hj144 (by rfl)
    refine own_go (S' := T142.setTop (mkF m 10 #[.val (.ref a), .val (.ref kd), .val (.long cc), .second] [(.long (f 5)), (.int (5 : Int32)), (.ref ca)])) (fun tg kk => X142.laload hx (by rw [e142]; exact Ar144.1) (State.isArrayOf_alike hZ.alike Ar144.2.1) Ar144.2.2 hj144 hv144 (g := (mkF m 9 #[.val (.ref a), .val (.ref kd), .val (.long cc), .second] [(.int (5 : Int32)), (.ref ca), (.int (5 : Int32)), (.ref ca)])) rfl rfl (hb hby d5_9) tg kk) ?_
    refine own_go (S' := T142.setTop (mkF m 11 #[.val (.ref a), .val (.ref kd), .val (.long cc), .second] [(.long cc), (.long (f 5)), (.int (5 : Int32)), (.ref ca)])) (fun tg kk => XT.lloadN X142.here hx rfl (hb hby d5_10) rfl kk) ?_
    refine own_go (S' := T142.setTop (mkF m 12 #[.val (.ref a), .val (.ref kd), .val (.long cc), .second] [(.long ((f 5) + cc)), (.int (5 : Int32)), (.ref ca)])) (fun tg kk => XT.ladd X142.here hx rfl (hb hby d5_11) rfl kk) ?_
    obtain ⟨cl145, Ar145, q1_145, S145, q3_145, H145, G145⟩ := id Va
    have hj145 := inb_of (j := (5 : Int32)) S145 ⟨by decide, by decide⟩
    obtain ⟨T145, h145, X145, e145, W145, st145⟩ := stJ X142 hx hZ e142 Ar145 hj145 (g := (mkF m 12 #[.val (.ref a), .val (.ref kd), .val (.long cc), .second] [(.long ((f 5) + cc)), (.int (5 : Int32)), (.ref ca)])) rfl rfl (hb hby d5_12)
    refine own_go (S' := T145.setTop (mkF m 13 #[.val (.ref a), .val (.ref kd), .val (.long cc), .second] [])) (st145) ?_
    have N145 := Fr.snoc X145 N143 gc
    have F146 := Fc.other W145 (Or.inl nac)
    have F147 := Ft.other W145 (Or.inl nac)
    have E148 : Exa Z h145 a "spanwire/protocol/MessageCounts" := Ea.wr W145
    have O150 : Old Z n0 h145 := O0.wr W145 gc
    have Z151 : n0 ≤ h145.size := by rw [W145.size]; exact Z0
    have K152 : Keep h0 h145 [a, ca] := K0.wr W145 (Or.inl (List.mem_of_getElem? (i := 1) rfl))
    have V145 : Arv Z h145 ca k .long (8 : Int32) [(.long (f 0)), (.long (f 1)), (.long (f 2)), (.long (f 3)), (.long (f 4)), (.long ((f 5) + cc)), (.long (f 6)), (.long (f 7))] (.long (0 : Int64)) := Arv.set Ar145 q1_145 S145 q3_145 H145 G145 rfl W145 5 (by decide) (by show 5 < 8; decide)
    refine own_go (S' := T145.setTop (mkF m 14 #[.val (.ref a), .val (.ref kd), .val (.long cc), .second] [(.ref kd)])) (fun tg kk => XS.aloadN X145.here hx rfl (hb hby d5_13) rfl rfl kk) ?_
    by_cases c153 : (Value.ref kd) = (Value.ref sD)
    · obtain ⟨cq154, kq154, qa154, qb154, qc154⟩ := isOf hZ e145 (Ek.ext O150.2)
      obtain ⟨v154, _, ⟨T154, L154, k154, n154⟩, -, X154, ⟨Lc154, hQ154, l154, y154, z154⟩, st154⟩ := X145.virtualBack hx (y := (⟨"spanwire/protocol/MessageKind", "isProtocol", "()Z"⟩ : MethodName)) (z := (⟨"spanwire/protocol/MessageKind", "isProtocol", "()Z"⟩ : MethodName)) hown (mvT hZ (hw _ (List.mem_of_getElem? (i := 57) rfl))) (mvT hZ (hw _ (List.mem_of_getElem? (i := 58) rfl))) (notFace_of_selects (args := #[]) (mvT hZ (hw _ (List.mem_of_getElem? (i := 60) rfl)))) (mvT hZ (hw _ (List.mem_of_getElem? (i := 60) rfl))) (mvT hZ (hw _ (List.mem_of_getElem? (i := 59) rfl))) (by decide) (backOf (W := 0) (rm7 l Z a0 hw [] kd sD h145 n0 Z151 O150 S_DONE) hZ (hw _ (List.mem_of_getElem? (i := 61) rfl)) (hw _ (List.mem_of_getElem? (i := 5) rfl)) (by decide) (by decide)) qa154 qc154 (g := (mkF m 14 #[.val (.ref a), .val (.ref kd), .val (.long cc), .second] [(.ref kd)])) rfl (by rw [hml]; rfl) (Steps.refl _) (argsL := []) (rest := []) (lenOf pd___Z rfl) rfl (by show 2 * 0 + _ ≤ _; exact Nat.le_of_eq rfl) (hb hby d5_14) (fun _ _ => ⟨rfl, e145, (by decide : 0 + 0 ≤ _), (by decide : 0 + 0 ≤ _)⟩)
      dsimp only [Pt.U, Pt.locs, Pt.cells, Pt.slots] at X154 l154 y154 z154 st154 hQ154
      subst l154 y154 z154
      obtain ⟨hv154, M155, e154⟩ := hQ154
      obtain rfl : v154 = some (.int (0 : Int32)) := by rw [hv154]; rw [own_isp, if_pos c153]
      have N155 := Fr.app N145 M155
      refine own_to (S' := T154.setTop (mkF m 17 #[.val (.ref a), .val (.ref kd), .val (.long cc), .second] [(.int (0 : Int32))])) st154 ?_
      refine own_go (S' := T154.setTop (mkF m 30 #[.val (.ref a), .val (.ref kd), .val (.long cc), .second] [])) (fun tg kk => XS.ifYes X154.here hx rfl (pc0 := 17) (pc' := 30) rfl (hb hby d5_17) rfl (XT.i0_eq_t (by decide)) (by decide) (by decide) kk) ?_
      obtain ⟨fs, hr, hrun, hended, hW, hsame⟩ := X154.leave (v := none) (fun _ => rfl)
      refine ⟨_, _, X154.returnOut hx Bd.returns (hb hby d5_30) hr, hrun, hended, _, _, rfl, ?_, ⟨_, rfl⟩, hW, hsame.mono (by decide) (by decide)⟩
      show Q5 Z a ca k kd (5 : Int32) cc f t sD h0 n0 none T154.heap _
      rw [e154]
      exact ⟨rfl, N155, K152, F146, by rw [own_tot, if_pos c153]; exact F147, V145⟩
    · obtain ⟨cq157, kq157, qa157, qb157, qc157⟩ := isOf hZ e145 (Ek.ext O150.2)
      obtain ⟨v157, _, ⟨T157, L157, k157, n157⟩, -, X157, ⟨Lc157, hQ157, l157, y157, z157⟩, st157⟩ := X145.virtualBack hx (y := (⟨"spanwire/protocol/MessageKind", "isProtocol", "()Z"⟩ : MethodName)) (z := (⟨"spanwire/protocol/MessageKind", "isProtocol", "()Z"⟩ : MethodName)) hown (mvT hZ (hw _ (List.mem_of_getElem? (i := 57) rfl))) (mvT hZ (hw _ (List.mem_of_getElem? (i := 58) rfl))) (notFace_of_selects (args := #[]) (mvT hZ (hw _ (List.mem_of_getElem? (i := 60) rfl)))) (mvT hZ (hw _ (List.mem_of_getElem? (i := 60) rfl))) (mvT hZ (hw _ (List.mem_of_getElem? (i := 59) rfl))) (by decide) (backOf (W := 0) (rm7 l Z a0 hw [] kd sD h145 n0 Z151 O150 S_DONE) hZ (hw _ (List.mem_of_getElem? (i := 61) rfl)) (hw _ (List.mem_of_getElem? (i := 5) rfl)) (by decide) (by decide)) qa157 qc157 (g := (mkF m 14 #[.val (.ref a), .val (.ref kd), .val (.long cc), .second] [(.ref kd)])) rfl (by rw [hml]; rfl) (Steps.refl _) (argsL := []) (rest := []) (lenOf pd___Z rfl) rfl (by show 2 * 0 + _ ≤ _; exact Nat.le_of_eq rfl) (hb hby d5_14) (fun _ _ => ⟨rfl, e145, (by decide : 0 + 0 ≤ _), (by decide : 0 + 0 ≤ _)⟩)
      dsimp only [Pt.U, Pt.locs, Pt.cells, Pt.slots] at X157 l157 y157 z157 st157 hQ157
      subst l157 y157 z157
      obtain ⟨hv157, M158, e157⟩ := hQ157
      obtain rfl : v157 = some (.int (1 : Int32)) := by rw [hv157]; rw [own_isp, if_neg c153]
      have N158 := Fr.app N145 M158
      refine own_to (S' := T157.setTop (mkF m 17 #[.val (.ref a), .val (.ref kd), .val (.long cc), .second] [(.int (1 : Int32))])) st157 ?_
      refine own_go (S' := T157.setTop (mkF m 20 #[.val (.ref a), .val (.ref kd), .val (.long cc), .second] [])) (fun tg kk => XS.ifNo X157.here hx rfl (hb hby d5_17) rfl (XT.i0_eq_f (by decide)) kk) ?_
      refine own_go (S' := T157.setTop (mkF m 21 #[.val (.ref a), .val (.ref kd), .val (.long cc), .second] [(.ref a)])) (fun tg kk => XS.aloadN X157.here hx rfl (hb hby d5_20) rfl rfl kk) ?_
      refine own_go (S' := T157.setTop (mkF m 22 #[.val (.ref a), .val (.ref kd), .val (.long cc), .second] [(.ref a), (.ref a)])) (fun tg kk => XS.dup X157.here hx rfl (hb hby d5_21) rfl rfl kk) ?_
      obtain ⟨T159, X159, e159, st159⟩ := getF X157 hx hZ hown (host := "") (Or.inl (hw _ (List.mem_of_getElem? (i := 63) rfl))) Via.refl e157 F147 (g := (mkF m 22 #[.val (.ref a), .val (.ref kd), .val (.long cc), .second] [(.ref a), (.ref a)])) rfl rfl (hb hby d5_22)
      refine own_go (S' := T159.setTop (mkF m 25 #[.val (.ref a), .val (.ref kd), .val (.long cc), .second] [(.long t), (.ref a)])) (st159) ?_
      refine own_go (S' := T159.setTop (mkF m 26 #[.val (.ref a), .val (.ref kd), .val (.long cc), .second] [(.long cc), (.long t), (.ref a)])) (fun tg kk => XT.lloadN X159.here hx rfl (hb hby d5_25) rfl kk) ?_
      refine own_go (S' := T159.setTop (mkF m 27 #[.val (.ref a), .val (.ref kd), .val (.long cc), .second] [(.long (t + cc)), (.ref a)])) (fun tg kk => XT.ladd X159.here hx rfl (hb hby d5_26) rfl kk) ?_
      obtain ⟨T160, h160, X160, e160, W160, st160⟩ := putF X159 hx hZ hown (host := "") (Or.inl (hw _ (List.mem_of_getElem? (i := 63) rfl))) Via.refl e159 F147 E148 (Or.inl (hw _ (List.mem_of_getElem? (i := 64) rfl))) (hw _ (List.mem_of_getElem? (i := 12) rfl)) (ty := .long) (by decide) rfl rfl (g := (mkF m 27 #[.val (.ref a), .val (.ref kd), .val (.long cc), .second] [(.long (t + cc)), (.ref a)])) rfl rfl (hb hby d5_27)
      refine own_go (S' := T160.setTop (mkF m 30 #[.val (.ref a), .val (.ref kd), .val (.long cc), .second] [])) (st160) ?_
      have N160 := Fr.snoc X160 N158 ga
      have F161 := F146.other W160 (Or.inr (slot_ne (Or.inr (hw _ (List.mem_of_getElem? (i := 42) rfl))) (Or.inl (hw _ (List.mem_of_getElem? (i := 64) rfl))) (by decide) (t := .array .long) (t' := .long) (by decide) (by decide)))
      have F162 := F147.same W160
      have E163 : Exa Z h160 a "spanwire/protocol/MessageCounts" := E148.wr W160
      have A164 := V145.other W160 (Ne.symm nac)
      have O165 : Old Z n0 h160 := O150.wr W160 ga
      have Z166 : n0 ≤ h160.size := by rw [W160.size]; exact Z151
      have K167 : Keep h0 h160 [a, ca] := K152.wr W160 (Or.inl (List.mem_of_getElem? (i := 0) rfl))
      obtain ⟨fs, hr, hrun, hended, hW, hsame⟩ := X160.leave (v := none) (fun _ => rfl)
      refine ⟨_, _, X160.returnOut hx Bd.returns (hb hby d5_30) hr, hrun, hended, _, _, rfl, ?_, ⟨_, rfl⟩, hW, hsame.mono (by decide) (by decide)⟩
      show Q5 Z a ca k kd (5 : Int32) cc f t sD h0 n0 none T160.heap _
      rw [e160]
      exact ⟨rfl, N160, K167, F161, by rw [own_tot, if_neg c153]; exact F162, A164⟩
  · refine own_go (S' := s₁.setTop (mkF m 1 #[.val (.ref a), .val (.ref kd), .val (.long cc), .second] [(.ref a)])) (fun tg kk => XS.aloadN X0.here hx rfl (hb hby d5_0) rfl rfl kk) ?_
    obtain ⟨T169, X169, e169, st169⟩ := getF X0 hx hZ hown (host := "") (Or.inl (hw _ (List.mem_of_getElem? (i := 41) rfl))) Via.refl e0 Fc (g := (mkF m 1 #[.val (.ref a), .val (.ref kd), .val (.long cc), .second] [(.ref a)])) rfl rfl (hb hby d5_1)
    refine own_go (S' := T169.setTop (mkF m 4 #[.val (.ref a), .val (.ref kd), .val (.long cc), .second] [(.ref ca)])) (st169) ?_
    refine own_go (S' := T169.setTop (mkF m 5 #[.val (.ref a), .val (.ref kd), .val (.long cc), .second] [(.ref kd), (.ref ca)])) (fun tg kk => XS.aloadN X169.here hx rfl (hb hby d5_4) rfl rfl kk) ?_
    obtain ⟨cq170, kq170, qa170, qb170, qc170⟩ := isOf hZ e169 (Ek.ext O0.2)
    obtain ⟨v170, _, ⟨T170, L170, k170, n170⟩, -, X170, ⟨Lc170, hQ170, l170, y170, z170⟩, st170⟩ := X169.virtualBackUp hx (x := (⟨"spanwire/protocol/MessageKind", "ordinal", "()I"⟩ : MethodName)) (y := (⟨"java/lang/Enum", "ordinal", "()I"⟩ : MethodName)) (owner := "java/lang/Enum") hown (mvT hZ (hw _ (List.mem_of_getElem? (i := 48) rfl))) (mvT hZ (hw _ (List.mem_of_getElem? (i := 49) rfl))) (mvT hZ (hw _ (List.mem_of_getElem? (i := 50) rfl))) (by decide) (mvT hZ (hw _ (List.mem_of_getElem? (i := 52) rfl))) (mvT hZ (hw _ (List.mem_of_getElem? (i := 51) rfl))) (backOf (W := 1) (rm6 l Z a0 hw [] kd (6 : Int32) h0 n0 Z0 O0 Fo) hZ (hw _ (List.mem_of_getElem? (i := 54) rfl)) (hw _ (List.mem_of_getElem? (i := 53) rfl)) (by decide) (by decide)) qa170 qc170 (g := (mkF m 5 #[.val (.ref a), .val (.ref kd), .val (.long cc), .second] [(.ref kd), (.ref ca)])) rfl (by rw [hml]; rfl) (Steps.refl _) (argsL := []) (rest := [(.ref ca)]) (lenOf pd___I rfl) rfl (by show 2 * 0 + _ ≤ _; exact Nat.le_of_eq rfl) (hb hby d5_5) (fun _ _ => ⟨rfl, e169, (by decide : 0 + 0 ≤ _), (by decide : 0 + 0 ≤ _)⟩)
    dsimp only [Pt.U, Pt.locs, Pt.cells, Pt.slots] at X170 l170 y170 z170 st170 hQ170
    subst l170 y170 z170
    obtain ⟨rfl, M171, e170⟩ := hQ170
    have N171 := Fr.app N0 M171
    refine own_to (S' := T170.setTop (mkF m 8 #[.val (.ref a), .val (.ref kd), .val (.long cc), .second] [(.int (6 : Int32)), (.ref ca)])) st170 ?_
    refine own_go (S' := T170.setTop (mkF m 9 #[.val (.ref a), .val (.ref kd), .val (.long cc), .second] [(.int (6 : Int32)), (.ref ca), (.int (6 : Int32)), (.ref ca)])) (fun tg kk => XT.dup2 X170.here hx rfl (hb hby d5_8) rfl rfl rfl kk) ?_
    obtain ⟨cl172, Ar172, q1_172, S172, q3_172, H172, G172⟩ := id Va
    have hj172 := inb_of (j := (6 : Int32)) S172 ⟨by decide, by decide⟩
    have hv172 : cl172.slots[((6 : Int32)).toNatClampNeg]? = some (.long (f 6)) := Has.at H172 hj172 (by rfl)
    refine own_go (S' := T170.setTop (mkF m 10 #[.val (.ref a), .val (.ref kd), .val (.long cc), .second] [(.long (f 6)), (.int (6 : Int32)), (.ref ca)])) (fun tg kk => X170.laload hx (by rw [e170]; exact Ar172.1) (State.isArrayOf_alike hZ.alike Ar172.2.1) Ar172.2.2 hj172 hv172 (g := (mkF m 9 #[.val (.ref a), .val (.ref kd), .val (.long cc), .second] [(.int (6 : Int32)), (.ref ca), (.int (6 : Int32)), (.ref ca)])) rfl rfl (hb hby d5_9) tg kk) ?_
    refine own_go (S' := T170.setTop (mkF m 11 #[.val (.ref a), .val (.ref kd), .val (.long cc), .second] [(.long cc), (.long (f 6)), (.int (6 : Int32)), (.ref ca)])) (fun tg kk => XT.lloadN X170.here hx rfl (hb hby d5_10) rfl kk) ?_
    refine own_go (S' := T170.setTop (mkF m 12 #[.val (.ref a), .val (.ref kd), .val (.long cc), .second] [(.long ((f 6) + cc)), (.int (6 : Int32)), (.ref ca)])) (fun tg kk => XT.ladd X170.here hx rfl (hb hby d5_11) rfl kk) ?_
    obtain ⟨cl173, Ar173, q1_173, S173, q3_173, H173, G173⟩ := id Va
    have hj173 := inb_of (j := (6 : Int32)) S173 ⟨by decide, by decide⟩
    obtain ⟨T173, h173, X173, e173, W173, st173⟩ := stJ X170 hx hZ e170 Ar173 hj173 (g := (mkF m 12 #[.val (.ref a), .val (.ref kd), .val (.long cc), .second] [(.long ((f 6) + cc)), (.int (6 : Int32)), (.ref ca)])) rfl rfl (hb hby d5_12)
    refine own_go (S' := T173.setTop (mkF m 13 #[.val (.ref a), .val (.ref kd), .val (.long cc), .second] [])) (st173) ?_
    have N173 := Fr.snoc X173 N171 gc
    have F174 := Fc.other W173 (Or.inl nac)
    have F175 := Ft.other W173 (Or.inl nac)
    have E176 : Exa Z h173 a "spanwire/protocol/MessageCounts" := Ea.wr W173
    have O178 : Old Z n0 h173 := O0.wr W173 gc
    have Z179 : n0 ≤ h173.size := by rw [W173.size]; exact Z0
    have K180 : Keep h0 h173 [a, ca] := K0.wr W173 (Or.inl (List.mem_of_getElem? (i := 1) rfl))
    have V173 : Arv Z h173 ca k .long (8 : Int32) [(.long (f 0)), (.long (f 1)), (.long (f 2)), (.long (f 3)), (.long (f 4)), (.long (f 5)), (.long ((f 6) + cc)), (.long (f 7))] (.long (0 : Int64)) := Arv.set Ar173 q1_173 S173 q3_173 H173 G173 rfl W173 6 (by decide) (by show 6 < 8; decide)
    refine own_go (S' := T173.setTop (mkF m 14 #[.val (.ref a), .val (.ref kd), .val (.long cc), .second] [(.ref kd)])) (fun tg kk => XS.aloadN X173.here hx rfl (hb hby d5_13) rfl rfl kk) ?_
    by_cases c181 : (Value.ref kd) = (Value.ref sD)
    · obtain ⟨cq182, kq182, qa182, qb182, qc182⟩ := isOf hZ e173 (Ek.ext O178.2)
      obtain ⟨v182, _, ⟨T182, L182, k182, n182⟩, -, X182, ⟨Lc182, hQ182, l182, y182, z182⟩, st182⟩ := X173.virtualBack hx (y := (⟨"spanwire/protocol/MessageKind", "isProtocol", "()Z"⟩ : MethodName)) (z := (⟨"spanwire/protocol/MessageKind", "isProtocol", "()Z"⟩ : MethodName)) hown (mvT hZ (hw _ (List.mem_of_getElem? (i := 57) rfl))) (mvT hZ (hw _ (List.mem_of_getElem? (i := 58) rfl))) (notFace_of_selects (args := #[]) (mvT hZ (hw _ (List.mem_of_getElem? (i := 60) rfl)))) (mvT hZ (hw _ (List.mem_of_getElem? (i := 60) rfl))) (mvT hZ (hw _ (List.mem_of_getElem? (i := 59) rfl))) (by decide) (backOf (W := 0) (rm7 l Z a0 hw [] kd sD h173 n0 Z179 O178 S_DONE) hZ (hw _ (List.mem_of_getElem? (i := 61) rfl)) (hw _ (List.mem_of_getElem? (i := 5) rfl)) (by decide) (by decide)) qa182 qc182 (g := (mkF m 14 #[.val (.ref a), .val (.ref kd), .val (.long cc), .second] [(.ref kd)])) rfl (by rw [hml]; rfl) (Steps.refl _) (argsL := []) (rest := []) (lenOf pd___Z rfl) rfl (by show 2 * 0 + _ ≤ _; exact Nat.le_of_eq rfl) (hb hby d5_14) (fun _ _ => ⟨rfl, e173, (by decide : 0 + 0 ≤ _), (by decide : 0 + 0 ≤ _)⟩)
      dsimp only [Pt.U, Pt.locs, Pt.cells, Pt.slots] at X182 l182 y182 z182 st182 hQ182
      subst l182 y182 z182
      obtain ⟨hv182, M183, e182⟩ := hQ182
      obtain rfl : v182 = some (.int (0 : Int32)) := by rw [hv182]; rw [own_isp, if_pos c181]
      have N183 := Fr.app N173 M183
      refine own_to (S' := T182.setTop (mkF m 17 #[.val (.ref a), .val (.ref kd), .val (.long cc), .second] [(.int (0 : Int32))])) st182 ?_
      refine own_go (S' := T182.setTop (mkF m 30 #[.val (.ref a), .val (.ref kd), .val (.long cc), .second] [])) (fun tg kk => XS.ifYes X182.here hx rfl (pc0 := 17) (pc' := 30) rfl (hb hby d5_17) rfl (XT.i0_eq_t (by decide)) (by decide) (by decide) kk) ?_
      obtain ⟨fs, hr, hrun, hended, hW, hsame⟩ := X182.leave (v := none) (fun _ => rfl)
      refine ⟨_, _, X182.returnOut hx Bd.returns (hb hby d5_30) hr, hrun, hended, _, _, rfl, ?_, ⟨_, rfl⟩, hW, hsame.mono (by decide) (by decide)⟩
      show Q5 Z a ca k kd (6 : Int32) cc f t sD h0 n0 none T182.heap _
      rw [e182]
      exact ⟨rfl, N183, K180, F174, by rw [own_tot, if_pos c181]; exact F175, V173⟩
    · obtain ⟨cq185, kq185, qa185, qb185, qc185⟩ := isOf hZ e173 (Ek.ext O178.2)
      obtain ⟨v185, _, ⟨T185, L185, k185, n185⟩, -, X185, ⟨Lc185, hQ185, l185, y185, z185⟩, st185⟩ := X173.virtualBack hx (y := (⟨"spanwire/protocol/MessageKind", "isProtocol", "()Z"⟩ : MethodName)) (z := (⟨"spanwire/protocol/MessageKind", "isProtocol", "()Z"⟩ : MethodName)) hown (mvT hZ (hw _ (List.mem_of_getElem? (i := 57) rfl))) (mvT hZ (hw _ (List.mem_of_getElem? (i := 58) rfl))) (notFace_of_selects (args := #[]) (mvT hZ (hw _ (List.mem_of_getElem? (i := 60) rfl)))) (mvT hZ (hw _ (List.mem_of_getElem? (i := 60) rfl))) (mvT hZ (hw _ (List.mem_of_getElem? (i := 59) rfl))) (by decide) (backOf (W := 0) (rm7 l Z a0 hw [] kd sD h173 n0 Z179 O178 S_DONE) hZ (hw _ (List.mem_of_getElem? (i := 61) rfl)) (hw _ (List.mem_of_getElem? (i := 5) rfl)) (by decide) (by decide)) qa185 qc185 (g := (mkF m 14 #[.val (.ref a), .val (.ref kd), .val (.long cc), .second] [(.ref kd)])) rfl (by rw [hml]; rfl) (Steps.refl _) (argsL := []) (rest := []) (lenOf pd___Z rfl) rfl (by show 2 * 0 + _ ≤ _; exact Nat.le_of_eq rfl) (hb hby d5_14) (fun _ _ => ⟨rfl, e173, (by decide : 0 + 0 ≤ _), (by decide : 0 + 0 ≤ _)⟩)
      dsimp only [Pt.U, Pt.locs, Pt.cells, Pt.slots] at X185 l185 y185 z185 st185 hQ185
      subst l185 y185 z185
      obtain ⟨hv185, M186, e185⟩ := hQ185
      obtain rfl : v185 = some (.int (1 : Int32)) := by rw [hv185]; rw [own_isp, if_neg c181]
      have N186 := Fr.app N173 M186
      refine own_to (S' := T185.setTop (mkF m 17 #[.val (.ref a), .val (.ref kd), .val (.long cc), .second] [(.int (1 : Int32))])) st185 ?_
      refine own_go (S' := T185.setTop (mkF m 20 #[.val (.ref a), .val (.ref kd), .val (.long cc), .second] [])) (fun tg kk => XS.ifNo X185.here hx rfl (hb hby d5_17) rfl (XT.i0_eq_f (by decide)) kk) ?_
      refine own_go (S' := T185.setTop (mkF m 21 #[.val (.ref a), .val (.ref kd), .val (.long cc), .second] [(.ref a)])) (fun tg kk => XS.aloadN X185.here hx rfl (hb hby d5_20) rfl rfl kk) ?_
      refine own_go (S' := T185.setTop (mkF m 22 #[.val (.ref a), .val (.ref kd), .val (.long cc), .second] [(.ref a), (.ref a)])) (fun tg kk => XS.dup X185.here hx rfl (hb hby d5_21) rfl rfl kk) ?_
      obtain ⟨T187, X187, e187, st187⟩ := getF X185 hx hZ hown (host := "") (Or.inl (hw _ (List.mem_of_getElem? (i := 63) rfl))) Via.refl e185 F175 (g := (mkF m 22 #[.val (.ref a), .val (.ref kd), .val (.long cc), .second] [(.ref a), (.ref a)])) rfl rfl (hb hby d5_22)
      refine own_go (S' := T187.setTop (mkF m 25 #[.val (.ref a), .val (.ref kd), .val (.long cc), .second] [(.long t), (.ref a)])) (st187) ?_
      refine own_go (S' := T187.setTop (mkF m 26 #[.val (.ref a), .val (.ref kd), .val (.long cc), .second] [(.long cc), (.long t), (.ref a)])) (fun tg kk => XT.lloadN X187.here hx rfl (hb hby d5_25) rfl kk) ?_
      refine own_go (S' := T187.setTop (mkF m 27 #[.val (.ref a), .val (.ref kd), .val (.long cc), .second] [(.long (t + cc)), (.ref a)])) (fun tg kk => XT.ladd X187.here hx rfl (hb hby d5_26) rfl kk) ?_
      obtain ⟨T188, h188, X188, e188, W188, st188⟩ := putF X187 hx hZ hown (host := "") (Or.inl (hw _ (List.mem_of_getElem? (i := 63) rfl))) Via.refl e187 F175 E176 (Or.inl (hw _ (List.mem_of_getElem? (i := 64) rfl))) (hw _ (List.mem_of_getElem? (i := 12) rfl)) (ty := .long) (by decide) rfl rfl (g := (mkF m 27 #[.val (.ref a), .val (.ref kd), .val (.long cc), .second] [(.long (t + cc)), (.ref a)])) rfl rfl (hb hby d5_27)
      refine own_go (S' := T188.setTop (mkF m 30 #[.val (.ref a), .val (.ref kd), .val (.long cc), .second] [])) (st188) ?_
      have N188 := Fr.snoc X188 N186 ga
      have F189 := F174.other W188 (Or.inr (slot_ne (Or.inr (hw _ (List.mem_of_getElem? (i := 42) rfl))) (Or.inl (hw _ (List.mem_of_getElem? (i := 64) rfl))) (by decide) (t := .array .long) (t' := .long) (by decide) (by decide)))
      have F190 := F175.same W188
      have E191 : Exa Z h188 a "spanwire/protocol/MessageCounts" := E176.wr W188
      have A192 := V173.other W188 (Ne.symm nac)
      have O193 : Old Z n0 h188 := O178.wr W188 ga
      have Z194 : n0 ≤ h188.size := by rw [W188.size]; exact Z179
      have K195 : Keep h0 h188 [a, ca] := K180.wr W188 (Or.inl (List.mem_of_getElem? (i := 0) rfl))
      obtain ⟨fs, hr, hrun, hended, hW, hsame⟩ := X188.leave (v := none) (fun _ => rfl)
      refine ⟨_, _, X188.returnOut hx Bd.returns (hb hby d5_30) hr, hrun, hended, _, _, rfl, ?_, ⟨_, rfl⟩, hW, hsame.mono (by decide) (by decide)⟩
      show Q5 Z a ca k kd (6 : Int32) cc f t sD h0 n0 none T188.heap _
      rw [e188]
      exact ⟨rfl, N188, K195, F189, by rw [own_tot, if_neg c181]; exact F190, A192⟩
  · refine own_go (S' := s₁.setTop (mkF m 1 #[.val (.ref a), .val (.ref kd), .val (.long cc), .second] [(.ref a)])) (fun tg kk => XS.aloadN X0.here hx rfl (hb hby d5_0) rfl rfl kk) ?_
    obtain ⟨T197, X197, e197, st197⟩ := getF X0 hx hZ hown (host := "") (Or.inl (hw _ (List.mem_of_getElem? (i := 41) rfl))) Via.refl e0 Fc (g := (mkF m 1 #[.val (.ref a), .val (.ref kd), .val (.long cc), .second] [(.ref a)])) rfl rfl (hb hby d5_1)
    refine own_go (S' := T197.setTop (mkF m 4 #[.val (.ref a), .val (.ref kd), .val (.long cc), .second] [(.ref ca)])) (st197) ?_
    refine own_go (S' := T197.setTop (mkF m 5 #[.val (.ref a), .val (.ref kd), .val (.long cc), .second] [(.ref kd), (.ref ca)])) (fun tg kk => XS.aloadN X197.here hx rfl (hb hby d5_4) rfl rfl kk) ?_
    obtain ⟨cq198, kq198, qa198, qb198, qc198⟩ := isOf hZ e197 (Ek.ext O0.2)
    obtain ⟨v198, _, ⟨T198, L198, k198, n198⟩, -, X198, ⟨Lc198, hQ198, l198, y198, z198⟩, st198⟩ := X197.virtualBackUp hx (x := (⟨"spanwire/protocol/MessageKind", "ordinal", "()I"⟩ : MethodName)) (y := (⟨"java/lang/Enum", "ordinal", "()I"⟩ : MethodName)) (owner := "java/lang/Enum") hown (mvT hZ (hw _ (List.mem_of_getElem? (i := 48) rfl))) (mvT hZ (hw _ (List.mem_of_getElem? (i := 49) rfl))) (mvT hZ (hw _ (List.mem_of_getElem? (i := 50) rfl))) (by decide) (mvT hZ (hw _ (List.mem_of_getElem? (i := 52) rfl))) (mvT hZ (hw _ (List.mem_of_getElem? (i := 51) rfl))) (backOf (W := 1) (rm6 l Z a0 hw [] kd (7 : Int32) h0 n0 Z0 O0 Fo) hZ (hw _ (List.mem_of_getElem? (i := 54) rfl)) (hw _ (List.mem_of_getElem? (i := 53) rfl)) (by decide) (by decide)) qa198 qc198 (g := (mkF m 5 #[.val (.ref a), .val (.ref kd), .val (.long cc), .second] [(.ref kd), (.ref ca)])) rfl (by rw [hml]; rfl) (Steps.refl _) (argsL := []) (rest := [(.ref ca)]) (lenOf pd___I rfl) rfl (by show 2 * 0 + _ ≤ _; exact Nat.le_of_eq rfl) (hb hby d5_5) (fun _ _ => ⟨rfl, e197, (by decide : 0 + 0 ≤ _), (by decide : 0 + 0 ≤ _)⟩)
    dsimp only [Pt.U, Pt.locs, Pt.cells, Pt.slots] at X198 l198 y198 z198 st198 hQ198
    subst l198 y198 z198
    obtain ⟨rfl, M199, e198⟩ := hQ198
    have N199 := Fr.app N0 M199
    refine own_to (S' := T198.setTop (mkF m 8 #[.val (.ref a), .val (.ref kd), .val (.long cc), .second] [(.int (7 : Int32)), (.ref ca)])) st198 ?_
    refine own_go (S' := T198.setTop (mkF m 9 #[.val (.ref a), .val (.ref kd), .val (.long cc), .second] [(.int (7 : Int32)), (.ref ca), (.int (7 : Int32)), (.ref ca)])) (fun tg kk => XT.dup2 X198.here hx rfl (hb hby d5_8) rfl rfl rfl kk) ?_
    obtain ⟨cl200, Ar200, q1_200, S200, q3_200, H200, G200⟩ := id Va
    have hj200 := inb_of (j := (7 : Int32)) S200 ⟨by decide, by decide⟩
    have hv200 : cl200.slots[((7 : Int32)).toNatClampNeg]? = some (.long (f 7)) := Has.at H200 hj200 (by rfl)
    refine own_go (S' := T198.setTop (mkF m 10 #[.val (.ref a), .val (.ref kd), .val (.long cc), .second] [(.long (f 7)), (.int (7 : Int32)), (.ref ca)])) (fun tg kk => X198.laload hx (by rw [e198]; exact Ar200.1) (State.isArrayOf_alike hZ.alike Ar200.2.1) Ar200.2.2 hj200 hv200 (g := (mkF m 9 #[.val (.ref a), .val (.ref kd), .val (.long cc), .second] [(.int (7 : Int32)), (.ref ca), (.int (7 : Int32)), (.ref ca)])) rfl rfl (hb hby d5_9) tg kk) ?_
    refine own_go (S' := T198.setTop (mkF m 11 #[.val (.ref a), .val (.ref kd), .val (.long cc), .second] [(.long cc), (.long (f 7)), (.int (7 : Int32)), (.ref ca)])) (fun tg kk => XT.lloadN X198.here hx rfl (hb hby d5_10) rfl kk) ?_
    refine own_go (S' := T198.setTop (mkF m 12 #[.val (.ref a), .val (.ref kd), .val (.long cc), .second] [(.long ((f 7) + cc)), (.int (7 : Int32)), (.ref ca)])) (fun tg kk => XT.ladd X198.here hx rfl (hb hby d5_11) rfl kk) ?_
    obtain ⟨cl201, Ar201, q1_201, S201, q3_201, H201, G201⟩ := id Va
    have hj201 := inb_of (j := (7 : Int32)) S201 ⟨by decide, by decide⟩
    obtain ⟨T201, h201, X201, e201, W201, st201⟩ := stJ X198 hx hZ e198 Ar201 hj201 (g := (mkF m 12 #[.val (.ref a), .val (.ref kd), .val (.long cc), .second] [(.long ((f 7) + cc)), (.int (7 : Int32)), (.ref ca)])) rfl rfl (hb hby d5_12)
    refine own_go (S' := T201.setTop (mkF m 13 #[.val (.ref a), .val (.ref kd), .val (.long cc), .second] [])) (st201) ?_
    have N201 := Fr.snoc X201 N199 gc
    have F202 := Fc.other W201 (Or.inl nac)
    have F203 := Ft.other W201 (Or.inl nac)
    have E204 : Exa Z h201 a "spanwire/protocol/MessageCounts" := Ea.wr W201
    have O206 : Old Z n0 h201 := O0.wr W201 gc
    have Z207 : n0 ≤ h201.size := by rw [W201.size]; exact Z0
    have K208 : Keep h0 h201 [a, ca] := K0.wr W201 (Or.inl (List.mem_of_getElem? (i := 1) rfl))
    have V201 : Arv Z h201 ca k .long (8 : Int32) [(.long (f 0)), (.long (f 1)), (.long (f 2)), (.long (f 3)), (.long (f 4)), (.long (f 5)), (.long (f 6)), (.long ((f 7) + cc))] (.long (0 : Int64)) := Arv.set Ar201 q1_201 S201 q3_201 H201 G201 rfl W201 7 (by decide) (by show 7 < 8; decide)
    refine own_go (S' := T201.setTop (mkF m 14 #[.val (.ref a), .val (.ref kd), .val (.long cc), .second] [(.ref kd)])) (fun tg kk => XS.aloadN X201.here hx rfl (hb hby d5_13) rfl rfl kk) ?_
    by_cases c209 : (Value.ref kd) = (Value.ref sD)
    · obtain ⟨cq210, kq210, qa210, qb210, qc210⟩ := isOf hZ e201 (Ek.ext O206.2)
      obtain ⟨v210, _, ⟨T210, L210, k210, n210⟩, -, X210, ⟨Lc210, hQ210, l210, y210, z210⟩, st210⟩ := X201.virtualBack hx (y := (⟨"spanwire/protocol/MessageKind", "isProtocol", "()Z"⟩ : MethodName)) (z := (⟨"spanwire/protocol/MessageKind", "isProtocol", "()Z"⟩ : MethodName)) hown (mvT hZ (hw _ (List.mem_of_getElem? (i := 57) rfl))) (mvT hZ (hw _ (List.mem_of_getElem? (i := 58) rfl))) (notFace_of_selects (args := #[]) (mvT hZ (hw _ (List.mem_of_getElem? (i := 60) rfl)))) (mvT hZ (hw _ (List.mem_of_getElem? (i := 60) rfl))) (mvT hZ (hw _ (List.mem_of_getElem? (i := 59) rfl))) (by decide) (backOf (W := 0) (rm7 l Z a0 hw [] kd sD h201 n0 Z207 O206 S_DONE) hZ (hw _ (List.mem_of_getElem? (i := 61) rfl)) (hw _ (List.mem_of_getElem? (i := 5) rfl)) (by decide) (by decide)) qa210 qc210 (g := (mkF m 14 #[.val (.ref a), .val (.ref kd), .val (.long cc), .second] [(.ref kd)])) rfl (by rw [hml]; rfl) (Steps.refl _) (argsL := []) (rest := []) (lenOf pd___Z rfl) rfl (by show 2 * 0 + _ ≤ _; exact Nat.le_of_eq rfl) (hb hby d5_14) (fun _ _ => ⟨rfl, e201, (by decide : 0 + 0 ≤ _), (by decide : 0 + 0 ≤ _)⟩)
      dsimp only [Pt.U, Pt.locs, Pt.cells, Pt.slots] at X210 l210 y210 z210 st210 hQ210
      subst l210 y210 z210
      obtain ⟨hv210, M211, e210⟩ := hQ210
      obtain rfl : v210 = some (.int (0 : Int32)) := by rw [hv210]; rw [own_isp, if_pos c209]
      have N211 := Fr.app N201 M211
      refine own_to (S' := T210.setTop (mkF m 17 #[.val (.ref a), .val (.ref kd), .val (.long cc), .second] [(.int (0 : Int32))])) st210 ?_
      refine own_go (S' := T210.setTop (mkF m 30 #[.val (.ref a), .val (.ref kd), .val (.long cc), .second] [])) (fun tg kk => XS.ifYes X210.here hx rfl (pc0 := 17) (pc' := 30) rfl (hb hby d5_17) rfl (XT.i0_eq_t (by decide)) (by decide) (by decide) kk) ?_
      obtain ⟨fs, hr, hrun, hended, hW, hsame⟩ := X210.leave (v := none) (fun _ => rfl)
      refine ⟨_, _, X210.returnOut hx Bd.returns (hb hby d5_30) hr, hrun, hended, _, _, rfl, ?_, ⟨_, rfl⟩, hW, hsame.mono (by decide) (by decide)⟩
      show Q5 Z a ca k kd (7 : Int32) cc f t sD h0 n0 none T210.heap _
      rw [e210]
      exact ⟨rfl, N211, K208, F202, by rw [own_tot, if_pos c209]; exact F203, V201⟩
    · obtain ⟨cq213, kq213, qa213, qb213, qc213⟩ := isOf hZ e201 (Ek.ext O206.2)
      obtain ⟨v213, _, ⟨T213, L213, k213, n213⟩, -, X213, ⟨Lc213, hQ213, l213, y213, z213⟩, st213⟩ := X201.virtualBack hx (y := (⟨"spanwire/protocol/MessageKind", "isProtocol", "()Z"⟩ : MethodName)) (z := (⟨"spanwire/protocol/MessageKind", "isProtocol", "()Z"⟩ : MethodName)) hown (mvT hZ (hw _ (List.mem_of_getElem? (i := 57) rfl))) (mvT hZ (hw _ (List.mem_of_getElem? (i := 58) rfl))) (notFace_of_selects (args := #[]) (mvT hZ (hw _ (List.mem_of_getElem? (i := 60) rfl)))) (mvT hZ (hw _ (List.mem_of_getElem? (i := 60) rfl))) (mvT hZ (hw _ (List.mem_of_getElem? (i := 59) rfl))) (by decide) (backOf (W := 0) (rm7 l Z a0 hw [] kd sD h201 n0 Z207 O206 S_DONE) hZ (hw _ (List.mem_of_getElem? (i := 61) rfl)) (hw _ (List.mem_of_getElem? (i := 5) rfl)) (by decide) (by decide)) qa213 qc213 (g := (mkF m 14 #[.val (.ref a), .val (.ref kd), .val (.long cc), .second] [(.ref kd)])) rfl (by rw [hml]; rfl) (Steps.refl _) (argsL := []) (rest := []) (lenOf pd___Z rfl) rfl (by show 2 * 0 + _ ≤ _; exact Nat.le_of_eq rfl) (hb hby d5_14) (fun _ _ => ⟨rfl, e201, (by decide : 0 + 0 ≤ _), (by decide : 0 + 0 ≤ _)⟩)
      dsimp only [Pt.U, Pt.locs, Pt.cells, Pt.slots] at X213 l213 y213 z213 st213 hQ213
      subst l213 y213 z213
      obtain ⟨hv213, M214, e213⟩ := hQ213
      obtain rfl : v213 = some (.int (1 : Int32)) := by rw [hv213]; rw [own_isp, if_neg c209]
      have N214 := Fr.app N201 M214
      refine own_to (S' := T213.setTop (mkF m 17 #[.val (.ref a), .val (.ref kd), .val (.long cc), .second] [(.int (1 : Int32))])) st213 ?_
      refine own_go (S' := T213.setTop (mkF m 20 #[.val (.ref a), .val (.ref kd), .val (.long cc), .second] [])) (fun tg kk => XS.ifNo X213.here hx rfl (hb hby d5_17) rfl (XT.i0_eq_f (by decide)) kk) ?_
      refine own_go (S' := T213.setTop (mkF m 21 #[.val (.ref a), .val (.ref kd), .val (.long cc), .second] [(.ref a)])) (fun tg kk => XS.aloadN X213.here hx rfl (hb hby d5_20) rfl rfl kk) ?_
      refine own_go (S' := T213.setTop (mkF m 22 #[.val (.ref a), .val (.ref kd), .val (.long cc), .second] [(.ref a), (.ref a)])) (fun tg kk => XS.dup X213.here hx rfl (hb hby d5_21) rfl rfl kk) ?_
      obtain ⟨T215, X215, e215, st215⟩ := getF X213 hx hZ hown (host := "") (Or.inl (hw _ (List.mem_of_getElem? (i := 63) rfl))) Via.refl e213 F203 (g := (mkF m 22 #[.val (.ref a), .val (.ref kd), .val (.long cc), .second] [(.ref a), (.ref a)])) rfl rfl (hb hby d5_22)
      refine own_go (S' := T215.setTop (mkF m 25 #[.val (.ref a), .val (.ref kd), .val (.long cc), .second] [(.long t), (.ref a)])) (st215) ?_
      refine own_go (S' := T215.setTop (mkF m 26 #[.val (.ref a), .val (.ref kd), .val (.long cc), .second] [(.long cc), (.long t), (.ref a)])) (fun tg kk => XT.lloadN X215.here hx rfl (hb hby d5_25) rfl kk) ?_
      refine own_go (S' := T215.setTop (mkF m 27 #[.val (.ref a), .val (.ref kd), .val (.long cc), .second] [(.long (t + cc)), (.ref a)])) (fun tg kk => XT.ladd X215.here hx rfl (hb hby d5_26) rfl kk) ?_
      obtain ⟨T216, h216, X216, e216, W216, st216⟩ := putF X215 hx hZ hown (host := "") (Or.inl (hw _ (List.mem_of_getElem? (i := 63) rfl))) Via.refl e215 F203 E204 (Or.inl (hw _ (List.mem_of_getElem? (i := 64) rfl))) (hw _ (List.mem_of_getElem? (i := 12) rfl)) (ty := .long) (by decide) rfl rfl (g := (mkF m 27 #[.val (.ref a), .val (.ref kd), .val (.long cc), .second] [(.long (t + cc)), (.ref a)])) rfl rfl (hb hby d5_27)
      refine own_go (S' := T216.setTop (mkF m 30 #[.val (.ref a), .val (.ref kd), .val (.long cc), .second] [])) (st216) ?_
      have N216 := Fr.snoc X216 N214 ga
      have F217 := F202.other W216 (Or.inr (slot_ne (Or.inr (hw _ (List.mem_of_getElem? (i := 42) rfl))) (Or.inl (hw _ (List.mem_of_getElem? (i := 64) rfl))) (by decide) (t := .array .long) (t' := .long) (by decide) (by decide)))
      have F218 := F203.same W216
      have E219 : Exa Z h216 a "spanwire/protocol/MessageCounts" := E204.wr W216
      have A220 := V201.other W216 (Ne.symm nac)
      have O221 : Old Z n0 h216 := O206.wr W216 ga
      have Z222 : n0 ≤ h216.size := by rw [W216.size]; exact Z207
      have K223 : Keep h0 h216 [a, ca] := K208.wr W216 (Or.inl (List.mem_of_getElem? (i := 0) rfl))
      obtain ⟨fs, hr, hrun, hended, hW, hsame⟩ := X216.leave (v := none) (fun _ => rfl)
      refine ⟨_, _, X216.returnOut hx Bd.returns (hb hby d5_30) hr, hrun, hended, _, _, rfl, ?_, ⟨_, rfl⟩, hW, hsame.mono (by decide) (by decide)⟩
      show Q5 Z a ca k kd (7 : Int32) cc f t sD h0 n0 none T216.heap _
      rw [e216]
      exact ⟨rfl, N216, K223, F217, by rw [own_tot, if_neg c209]; exact F218, A220⟩
theorem d9_0 : decode prog_73_method_5_code 0 = .ok (.aload_n 0, 1) := by decide +kernel
theorem d9_1 : decode prog_73_method_5_code 1 = .ok (.getfield 13, 3) := by decide +kernel
theorem d9_4 : decode prog_73_method_5_code 4 = .ok (.aload_n 1, 1) := by decide +kernel
theorem d9_5 : decode prog_73_method_5_code 5 = .ok (.invokevirtual 19, 3) := by decide +kernel
theorem d9_8 : decode prog_73_method_5_code 8 = .ok (.laload, 1) := by decide +kernel
theorem d9_9 : decode prog_73_method_5_code 9 = .ok (.lreturn, 1) := by decide +kernel
theorem ef9 (m : MethodId) (x0 : Addr) (x1 : Addr) : entryFrame m #[(.ref x0), (.ref x1)] 2 = mkF m 0 #[.val (.ref x0), .val (.ref x1)] [] := by first | (simp [entryFrame, mkF, argsToLocals, Value.category]; done) | rfl
def Q9 (Z : State) (a : Addr) (ca : Addr) (k : ClassId) (kd : Addr) (o : Int32) (f : Nat → Int64) (h0 : Heap) (n0 : Nat) (v : Option Value) (h : Heap) (L : List Loc) : Prop := v = some (.long (f o.toNatClampNeg)) ∧ Fr n0 L ∧ h = h0
set_option maxRecDepth 65536 in
set_option maxHeartbeats 40000000 in
theorem rm9 (l : Launch) (Z : State) (a0 : Array Value) (hw : ∀ d ∈ tables_1, d.before a0 Z = true) (ws : List Jvm.Cond) (a : Addr) (ca : Addr) (k : ClassId) (kd : Addr) (o : Int32) (f : Nat → Int64) (h0 : Heap) (n0 : Nat) (Z0 : n0 ≤ h0.size) (O0 : Old Z n0 h0) (Fc : Fld Z h0 a "spanwire/protocol/MessageCounts" "counts" "[J" (.ref ca)) (Va : Arv Z h0 ca k .long (8 : Int32) (own_l8 f) (.long (0 : Int64))) (Ek : Exa Z Z.heap kd "spanwire/protocol/MessageKind") (Fo : Fld Z Z.heap kd "java/lang/Enum" "ordinal" "I" (.int o)) (ho : o = (0 : Int32) ∨ o = (1 : Int32) ∨ o = (2 : Int32) ∨ o = (3 : Int32) ∨ o = (4 : Int32) ∨ o = (5 : Int32) ∨ o = (6 : Int32) ∨ o = (7 : Int32)) :
    MetFree l (⟨"spanwire/protocol/MessageCounts", "get", "(Lspanwire/protocol/MessageKind;)J"⟩ : MethodName) (head1 (Jvm.Cond.code (⟨"spanwire/protocol/MessageCounts", "get", "(Lspanwire/protocol/MessageKind;)J"⟩ : MethodName) prog_73_method_5_code 2 ((Option.some FieldType.long)) :: ws) ({ frames := 1, cells := 0, slots := 0, locals := 13 } : Room)) (fun aa U => aa = #[(.ref a), (.ref kd)] ∧ Z.Warmed39 U.vm ∧ U.heap = h0) (fun _ _ _ _ _ => True) (fun _ U ou U' => ∃ v L, ou = .returned v ∧ Q9 Z a ca k kd o f h0 n0 v U'.heap L ∧ FrameEnd U ou U' L ({ frames := 1, cells := 0, slots := 0, locals := 13 } : Room).cells ({ frames := 1, cells := 0, slots := 0, locals := 13 } : Room).slots) := by
  refine MetFree.of_bodySF (plainFor_of_name pn_spanwire_protocol_MessageCounts) hisR ?_
  intro pg e s m args below meth c s₁ Bd hml0 hP hK
  obtain ⟨rfl, hZ, hh⟩ := hP
  have hx := Bd.exec
  have hby := Bd.bytes
  have hml : c.maxLocals = 2 := hml0
  have hown : s.vm.findClass "spanwire/protocol/MessageCounts" = some m.cls := findClass_of_methodNamed Bd.named
  have hnm := (name_of_methodNamed Bd.named Bd.method).1
  have X0 : Stand pg l e ({ frames := 1, cells := 0, slots := 0, locals := 13 } : Room) s m #[(.ref a), (.ref kd)] below meth c s₁ [] 0 0 := Stand.of_body Bd
  have e0 : s₁.heap = h0 := by rw [← hh, Bd.state]; rfl
  have N0 := Fr.nil n0
  show own_Go pg.tables e below (fun ou U' => ∃ v L, ou = .returned v ∧ Q9 Z a ca k kd o f h0 n0 v U'.heap L ∧ FrameEnd s ou U' L ({ frames := 1, cells := 0, slots := 0, locals := 13 } : Room).cells ({ frames := 1, cells := 0, slots := 0, locals := 13 } : Room).slots) (s₁.setTop (entryFrame m #[(.ref a), (.ref kd)] 2))
  refine own_go (S' := s₁.setTop (mkF m 0 #[.val (.ref a), .val (.ref kd)] [])) (fun tg kk => castTop (ef9 m a kd) kk) ?_
  rcases ho with rfl | rfl | rfl | rfl | rfl | rfl | rfl | rfl
  · refine own_go (S' := s₁.setTop (mkF m 1 #[.val (.ref a), .val (.ref kd)] [(.ref a)])) (fun tg kk => XS.aloadN X0.here hx rfl (hb hby d9_0) rfl rfl kk) ?_
    obtain ⟨T1, X1, e1, st1⟩ := getF X0 hx hZ hown (host := "") (Or.inl (hw _ (List.mem_of_getElem? (i := 41) rfl))) Via.refl e0 Fc (g := (mkF m 1 #[.val (.ref a), .val (.ref kd)] [(.ref a)])) rfl rfl (hb hby d9_1)
    refine own_go (S' := T1.setTop (mkF m 4 #[.val (.ref a), .val (.ref kd)] [(.ref ca)])) (st1) ?_
    refine own_go (S' := T1.setTop (mkF m 5 #[.val (.ref a), .val (.ref kd)] [(.ref kd), (.ref ca)])) (fun tg kk => XS.aloadN X1.here hx rfl (hb hby d9_4) rfl rfl kk) ?_
    obtain ⟨cq2, kq2, qa2, qb2, qc2⟩ := isOf hZ e1 (Ek.ext O0.2)
    obtain ⟨v2, _, ⟨T2, L2, k2, n2⟩, -, X2, ⟨Lc2, hQ2, l2, y2, z2⟩, st2⟩ := X1.virtualBackUp hx (x := (⟨"spanwire/protocol/MessageKind", "ordinal", "()I"⟩ : MethodName)) (y := (⟨"java/lang/Enum", "ordinal", "()I"⟩ : MethodName)) (owner := "java/lang/Enum") hown (mvT hZ (hw _ (List.mem_of_getElem? (i := 48) rfl))) (mvT hZ (hw _ (List.mem_of_getElem? (i := 49) rfl))) (mvT hZ (hw _ (List.mem_of_getElem? (i := 50) rfl))) (by decide) (mvT hZ (hw _ (List.mem_of_getElem? (i := 52) rfl))) (mvT hZ (hw _ (List.mem_of_getElem? (i := 51) rfl))) (backOf (W := 1) (rm6 l Z a0 hw [] kd (0 : Int32) h0 n0 Z0 O0 Fo) hZ (hw _ (List.mem_of_getElem? (i := 54) rfl)) (hw _ (List.mem_of_getElem? (i := 53) rfl)) (by decide) (by decide)) qa2 qc2 (g := (mkF m 5 #[.val (.ref a), .val (.ref kd)] [(.ref kd), (.ref ca)])) rfl (by rw [hml]; rfl) (Steps.refl _) (argsL := []) (rest := [(.ref ca)]) (lenOf pd___I rfl) rfl (by show 2 * 0 + _ ≤ _; exact Nat.le_of_eq rfl) (hb hby d9_5) (fun _ _ => ⟨rfl, e1, (by decide : 0 + 0 ≤ _), (by decide : 0 + 0 ≤ _)⟩)
    dsimp only [Pt.U, Pt.locs, Pt.cells, Pt.slots] at X2 l2 y2 z2 st2 hQ2
    subst l2 y2 z2
    obtain ⟨rfl, M3, e2⟩ := hQ2
    have N3 := Fr.app N0 M3
    refine own_to (S' := T2.setTop (mkF m 8 #[.val (.ref a), .val (.ref kd)] [(.int (0 : Int32)), (.ref ca)])) st2 ?_
    obtain ⟨cl4, Ar4, q1_4, S4, q3_4, H4, G4⟩ := id Va
    have hj4 := inb_of (j := (0 : Int32)) S4 ⟨by decide, by decide⟩
    have hv4 : cl4.slots[((0 : Int32)).toNatClampNeg]? = some (.long (f 0)) := Has.at H4 hj4 (by rfl)
    refine own_go (S' := T2.setTop (mkF m 9 #[.val (.ref a), .val (.ref kd)] [(.long (f 0))])) (fun tg kk => X2.laload hx (by rw [e2]; exact Ar4.1) (State.isArrayOf_alike hZ.alike Ar4.2.1) Ar4.2.2 hj4 hv4 (g := (mkF m 8 #[.val (.ref a), .val (.ref kd)] [(.int (0 : Int32)), (.ref ca)])) rfl rfl (hb hby d9_8) tg kk) ?_
    obtain ⟨fs, hr, hrun, hended, hW, hsame⟩ := X2.leave (v := some (.long (f 0))) (fun h => by rw [Bd.returns] at h; cases h)
    refine ⟨_, _, retOut X2 hx (t := .long) (i := .lreturn) Bd.returns rfl (Or.inr (Or.inl ⟨rfl, rfl, _, rfl⟩)) (hb hby d9_9) hr, hrun, hended, _, _, rfl, ?_, ⟨_, rfl⟩, hW, hsame.mono (by decide) (by decide)⟩
    show Q9 Z a ca k kd (0 : Int32) f h0 n0 (some (.long (f 0))) T2.heap _
    rw [e2]
    exact ⟨rfl, N3, rfl⟩
  · refine own_go (S' := s₁.setTop (mkF m 1 #[.val (.ref a), .val (.ref kd)] [(.ref a)])) (fun tg kk => XS.aloadN X0.here hx rfl (hb hby d9_0) rfl rfl kk) ?_
    obtain ⟨T5, X5, e5, st5⟩ := getF X0 hx hZ hown (host := "") (Or.inl (hw _ (List.mem_of_getElem? (i := 41) rfl))) Via.refl e0 Fc (g := (mkF m 1 #[.val (.ref a), .val (.ref kd)] [(.ref a)])) rfl rfl (hb hby d9_1)
    refine own_go (S' := T5.setTop (mkF m 4 #[.val (.ref a), .val (.ref kd)] [(.ref ca)])) (st5) ?_
    refine own_go (S' := T5.setTop (mkF m 5 #[.val (.ref a), .val (.ref kd)] [(.ref kd), (.ref ca)])) (fun tg kk => XS.aloadN X5.here hx rfl (hb hby d9_4) rfl rfl kk) ?_
    obtain ⟨cq6, kq6, qa6, qb6, qc6⟩ := isOf hZ e5 (Ek.ext O0.2)
    obtain ⟨v6, _, ⟨T6, L6, k6, n6⟩, -, X6, ⟨Lc6, hQ6, l6, y6, z6⟩, st6⟩ := X5.virtualBackUp hx (x := (⟨"spanwire/protocol/MessageKind", "ordinal", "()I"⟩ : MethodName)) (y := (⟨"java/lang/Enum", "ordinal", "()I"⟩ : MethodName)) (owner := "java/lang/Enum") hown (mvT hZ (hw _ (List.mem_of_getElem? (i := 48) rfl))) (mvT hZ (hw _ (List.mem_of_getElem? (i := 49) rfl))) (mvT hZ (hw _ (List.mem_of_getElem? (i := 50) rfl))) (by decide) (mvT hZ (hw _ (List.mem_of_getElem? (i := 52) rfl))) (mvT hZ (hw _ (List.mem_of_getElem? (i := 51) rfl))) (backOf (W := 1) (rm6 l Z a0 hw [] kd (1 : Int32) h0 n0 Z0 O0 Fo) hZ (hw _ (List.mem_of_getElem? (i := 54) rfl)) (hw _ (List.mem_of_getElem? (i := 53) rfl)) (by decide) (by decide)) qa6 qc6 (g := (mkF m 5 #[.val (.ref a), .val (.ref kd)] [(.ref kd), (.ref ca)])) rfl (by rw [hml]; rfl) (Steps.refl _) (argsL := []) (rest := [(.ref ca)]) (lenOf pd___I rfl) rfl (by show 2 * 0 + _ ≤ _; exact Nat.le_of_eq rfl) (hb hby d9_5) (fun _ _ => ⟨rfl, e5, (by decide : 0 + 0 ≤ _), (by decide : 0 + 0 ≤ _)⟩)
    dsimp only [Pt.U, Pt.locs, Pt.cells, Pt.slots] at X6 l6 y6 z6 st6 hQ6
    subst l6 y6 z6
    obtain ⟨rfl, M7, e6⟩ := hQ6
    have N7 := Fr.app N0 M7
    refine own_to (S' := T6.setTop (mkF m 8 #[.val (.ref a), .val (.ref kd)] [(.int (1 : Int32)), (.ref ca)])) st6 ?_
    obtain ⟨cl8, Ar8, q1_8, S8, q3_8, H8, G8⟩ := id Va
    have hj8 := inb_of (j := (1 : Int32)) S8 ⟨by decide, by decide⟩
    have hv8 : cl8.slots[((1 : Int32)).toNatClampNeg]? = some (.long (f 1)) := Has.at H8 hj8 (by rfl)
    refine own_go (S' := T6.setTop (mkF m 9 #[.val (.ref a), .val (.ref kd)] [(.long (f 1))])) (fun tg kk => X6.laload hx (by rw [e6]; exact Ar8.1) (State.isArrayOf_alike hZ.alike Ar8.2.1) Ar8.2.2 hj8 hv8 (g := (mkF m 8 #[.val (.ref a), .val (.ref kd)] [(.int (1 : Int32)), (.ref ca)])) rfl rfl (hb hby d9_8) tg kk) ?_
    obtain ⟨fs, hr, hrun, hended, hW, hsame⟩ := X6.leave (v := some (.long (f 1))) (fun h => by rw [Bd.returns] at h; cases h)
    refine ⟨_, _, retOut X6 hx (t := .long) (i := .lreturn) Bd.returns rfl (Or.inr (Or.inl ⟨rfl, rfl, _, rfl⟩)) (hb hby d9_9) hr, hrun, hended, _, _, rfl, ?_, ⟨_, rfl⟩, hW, hsame.mono (by decide) (by decide)⟩
    show Q9 Z a ca k kd (1 : Int32) f h0 n0 (some (.long (f 1))) T6.heap _
    rw [e6]
    exact ⟨rfl, N7, rfl⟩
  · refine own_go (S' := s₁.setTop (mkF m 1 #[.val (.ref a), .val (.ref kd)] [(.ref a)])) (fun tg kk => XS.aloadN X0.here hx rfl (hb hby d9_0) rfl rfl kk) ?_
    obtain ⟨T9, X9, e9, st9⟩ := getF X0 hx hZ hown (host := "") (Or.inl (hw _ (List.mem_of_getElem? (i := 41) rfl))) Via.refl e0 Fc (g := (mkF m 1 #[.val (.ref a), .val (.ref kd)] [(.ref a)])) rfl rfl (hb hby d9_1)
    refine own_go (S' := T9.setTop (mkF m 4 #[.val (.ref a), .val (.ref kd)] [(.ref ca)])) (st9) ?_
    refine own_go (S' := T9.setTop (mkF m 5 #[.val (.ref a), .val (.ref kd)] [(.ref kd), (.ref ca)])) (fun tg kk => XS.aloadN X9.here hx rfl (hb hby d9_4) rfl rfl kk) ?_
    obtain ⟨cq10, kq10, qa10, qb10, qc10⟩ := isOf hZ e9 (Ek.ext O0.2)
    obtain ⟨v10, _, ⟨T10, L10, k10, n10⟩, -, X10, ⟨Lc10, hQ10, l10, y10, z10⟩, st10⟩ := X9.virtualBackUp hx (x := (⟨"spanwire/protocol/MessageKind", "ordinal", "()I"⟩ : MethodName)) (y := (⟨"java/lang/Enum", "ordinal", "()I"⟩ : MethodName)) (owner := "java/lang/Enum") hown (mvT hZ (hw _ (List.mem_of_getElem? (i := 48) rfl))) (mvT hZ (hw _ (List.mem_of_getElem? (i := 49) rfl))) (mvT hZ (hw _ (List.mem_of_getElem? (i := 50) rfl))) (by decide) (mvT hZ (hw _ (List.mem_of_getElem? (i := 52) rfl))) (mvT hZ (hw _ (List.mem_of_getElem? (i := 51) rfl))) (backOf (W := 1) (rm6 l Z a0 hw [] kd (2 : Int32) h0 n0 Z0 O0 Fo) hZ (hw _ (List.mem_of_getElem? (i := 54) rfl)) (hw _ (List.mem_of_getElem? (i := 53) rfl)) (by decide) (by decide)) qa10 qc10 (g := (mkF m 5 #[.val (.ref a), .val (.ref kd)] [(.ref kd), (.ref ca)])) rfl (by rw [hml]; rfl) (Steps.refl _) (argsL := []) (rest := [(.ref ca)]) (lenOf pd___I rfl) rfl (by show 2 * 0 + _ ≤ _; exact Nat.le_of_eq rfl) (hb hby d9_5) (fun _ _ => ⟨rfl, e9, (by decide : 0 + 0 ≤ _), (by decide : 0 + 0 ≤ _)⟩)
    dsimp only [Pt.U, Pt.locs, Pt.cells, Pt.slots] at X10 l10 y10 z10 st10 hQ10
    subst l10 y10 z10
    obtain ⟨rfl, M11, e10⟩ := hQ10
    have N11 := Fr.app N0 M11
    refine own_to (S' := T10.setTop (mkF m 8 #[.val (.ref a), .val (.ref kd)] [(.int (2 : Int32)), (.ref ca)])) st10 ?_
    obtain ⟨cl12, Ar12, q1_12, S12, q3_12, H12, G12⟩ := id Va
    have hj12 := inb_of (j := (2 : Int32)) S12 ⟨by decide, by decide⟩
    have hv12 : cl12.slots[((2 : Int32)).toNatClampNeg]? = some (.long (f 2)) := Has.at H12 hj12 (by rfl)
    refine own_go (S' := T10.setTop (mkF m 9 #[.val (.ref a), .val (.ref kd)] [(.long (f 2))])) (fun tg kk => X10.laload hx (by rw [e10]; exact Ar12.1) (State.isArrayOf_alike hZ.alike Ar12.2.1) Ar12.2.2 hj12 hv12 (g := (mkF m 8 #[.val (.ref a), .val (.ref kd)] [(.int (2 : Int32)), (.ref ca)])) rfl rfl (hb hby d9_8) tg kk) ?_
    obtain ⟨fs, hr, hrun, hended, hW, hsame⟩ := X10.leave (v := some (.long (f 2))) (fun h => by rw [Bd.returns] at h; cases h)
    refine ⟨_, _, retOut X10 hx (t := .long) (i := .lreturn) Bd.returns rfl (Or.inr (Or.inl ⟨rfl, rfl, _, rfl⟩)) (hb hby d9_9) hr, hrun, hended, _, _, rfl, ?_, ⟨_, rfl⟩, hW, hsame.mono (by decide) (by decide)⟩
    show Q9 Z a ca k kd (2 : Int32) f h0 n0 (some (.long (f 2))) T10.heap _
    rw [e10]
    exact ⟨rfl, N11, rfl⟩
  · refine own_go (S' := s₁.setTop (mkF m 1 #[.val (.ref a), .val (.ref kd)] [(.ref a)])) (fun tg kk => XS.aloadN X0.here hx rfl (hb hby d9_0) rfl rfl kk) ?_
    obtain ⟨T13, X13, e13, st13⟩ := getF X0 hx hZ hown (host := "") (Or.inl (hw _ (List.mem_of_getElem? (i := 41) rfl))) Via.refl e0 Fc (g := (mkF m 1 #[.val (.ref a), .val (.ref kd)] [(.ref a)])) rfl rfl (hb hby d9_1)
    refine own_go (S' := T13.setTop (mkF m 4 #[.val (.ref a), .val (.ref kd)] [(.ref ca)])) (st13) ?_
    refine own_go (S' := T13.setTop (mkF m 5 #[.val (.ref a), .val (.ref kd)] [(.ref kd), (.ref ca)])) (fun tg kk => XS.aloadN X13.here hx rfl (hb hby d9_4) rfl rfl kk) ?_
    obtain ⟨cq14, kq14, qa14, qb14, qc14⟩ := isOf hZ e13 (Ek.ext O0.2)
    obtain ⟨v14, _, ⟨T14, L14, k14, n14⟩, -, X14, ⟨Lc14, hQ14, l14, y14, z14⟩, st14⟩ := X13.virtualBackUp hx (x := (⟨"spanwire/protocol/MessageKind", "ordinal", "()I"⟩ : MethodName)) (y := (⟨"java/lang/Enum", "ordinal", "()I"⟩ : MethodName)) (owner := "java/lang/Enum") hown (mvT hZ (hw _ (List.mem_of_getElem? (i := 48) rfl))) (mvT hZ (hw _ (List.mem_of_getElem? (i := 49) rfl))) (mvT hZ (hw _ (List.mem_of_getElem? (i := 50) rfl))) (by decide) (mvT hZ (hw _ (List.mem_of_getElem? (i := 52) rfl))) (mvT hZ (hw _ (List.mem_of_getElem? (i := 51) rfl))) (backOf (W := 1) (rm6 l Z a0 hw [] kd (3 : Int32) h0 n0 Z0 O0 Fo) hZ (hw _ (List.mem_of_getElem? (i := 54) rfl)) (hw _ (List.mem_of_getElem? (i := 53) rfl)) (by decide) (by decide)) qa14 qc14 (g := (mkF m 5 #[.val (.ref a), .val (.ref kd)] [(.ref kd), (.ref ca)])) rfl (by rw [hml]; rfl) (Steps.refl _) (argsL := []) (rest := [(.ref ca)]) (lenOf pd___I rfl) rfl (by show 2 * 0 + _ ≤ _; exact Nat.le_of_eq rfl) (hb hby d9_5) (fun _ _ => ⟨rfl, e13, (by decide : 0 + 0 ≤ _), (by decide : 0 + 0 ≤ _)⟩)
    dsimp only [Pt.U, Pt.locs, Pt.cells, Pt.slots] at X14 l14 y14 z14 st14 hQ14
    subst l14 y14 z14
    obtain ⟨rfl, M15, e14⟩ := hQ14
    have N15 := Fr.app N0 M15
    refine own_to (S' := T14.setTop (mkF m 8 #[.val (.ref a), .val (.ref kd)] [(.int (3 : Int32)), (.ref ca)])) st14 ?_
    obtain ⟨cl16, Ar16, q1_16, S16, q3_16, H16, G16⟩ := id Va
    have hj16 := inb_of (j := (3 : Int32)) S16 ⟨by decide, by decide⟩
    have hv16 : cl16.slots[((3 : Int32)).toNatClampNeg]? = some (.long (f 3)) := Has.at H16 hj16 (by rfl)
    refine own_go (S' := T14.setTop (mkF m 9 #[.val (.ref a), .val (.ref kd)] [(.long (f 3))])) (fun tg kk => X14.laload hx (by rw [e14]; exact Ar16.1) (State.isArrayOf_alike hZ.alike Ar16.2.1) Ar16.2.2 hj16 hv16 (g := (mkF m 8 #[.val (.ref a), .val (.ref kd)] [(.int (3 : Int32)), (.ref ca)])) rfl rfl (hb hby d9_8) tg kk) ?_
    obtain ⟨fs, hr, hrun, hended, hW, hsame⟩ := X14.leave (v := some (.long (f 3))) (fun h => by rw [Bd.returns] at h; cases h)
    refine ⟨_, _, retOut X14 hx (t := .long) (i := .lreturn) Bd.returns rfl (Or.inr (Or.inl ⟨rfl, rfl, _, rfl⟩)) (hb hby d9_9) hr, hrun, hended, _, _, rfl, ?_, ⟨_, rfl⟩, hW, hsame.mono (by decide) (by decide)⟩
    show Q9 Z a ca k kd (3 : Int32) f h0 n0 (some (.long (f 3))) T14.heap _
    rw [e14]
    exact ⟨rfl, N15, rfl⟩
  · refine own_go (S' := s₁.setTop (mkF m 1 #[.val (.ref a), .val (.ref kd)] [(.ref a)])) (fun tg kk => XS.aloadN X0.here hx rfl (hb hby d9_0) rfl rfl kk) ?_
    obtain ⟨T17, X17, e17, st17⟩ := getF X0 hx hZ hown (host := "") (Or.inl (hw _ (List.mem_of_getElem? (i := 41) rfl))) Via.refl e0 Fc (g := (mkF m 1 #[.val (.ref a), .val (.ref kd)] [(.ref a)])) rfl rfl (hb hby d9_1)
    refine own_go (S' := T17.setTop (mkF m 4 #[.val (.ref a), .val (.ref kd)] [(.ref ca)])) (st17) ?_
    refine own_go (S' := T17.setTop (mkF m 5 #[.val (.ref a), .val (.ref kd)] [(.ref kd), (.ref ca)])) (fun tg kk => XS.aloadN X17.here hx rfl (hb hby d9_4) rfl rfl kk) ?_
    obtain ⟨cq18, kq18, qa18, qb18, qc18⟩ := isOf hZ e17 (Ek.ext O0.2)
    obtain ⟨v18, _, ⟨T18, L18, k18, n18⟩, -, X18, ⟨Lc18, hQ18, l18, y18, z18⟩, st18⟩ := X17.virtualBackUp hx (x := (⟨"spanwire/protocol/MessageKind", "ordinal", "()I"⟩ : MethodName)) (y := (⟨"java/lang/Enum", "ordinal", "()I"⟩ : MethodName)) (owner := "java/lang/Enum") hown (mvT hZ (hw _ (List.mem_of_getElem? (i := 48) rfl))) (mvT hZ (hw _ (List.mem_of_getElem? (i := 49) rfl))) (mvT hZ (hw _ (List.mem_of_getElem? (i := 50) rfl))) (by decide) (mvT hZ (hw _ (List.mem_of_getElem? (i := 52) rfl))) (mvT hZ (hw _ (List.mem_of_getElem? (i := 51) rfl))) (backOf (W := 1) (rm6 l Z a0 hw [] kd (4 : Int32) h0 n0 Z0 O0 Fo) hZ (hw _ (List.mem_of_getElem? (i := 54) rfl)) (hw _ (List.mem_of_getElem? (i := 53) rfl)) (by decide) (by decide)) qa18 qc18 (g := (mkF m 5 #[.val (.ref a), .val (.ref kd)] [(.ref kd), (.ref ca)])) rfl (by rw [hml]; rfl) (Steps.refl _) (argsL := []) (rest := [(.ref ca)]) (lenOf pd___I rfl) rfl (by show 2 * 0 + _ ≤ _; exact Nat.le_of_eq rfl) (hb hby d9_5) (fun _ _ => ⟨rfl, e17, (by decide : 0 + 0 ≤ _), (by decide : 0 + 0 ≤ _)⟩)
    dsimp only [Pt.U, Pt.locs, Pt.cells, Pt.slots] at X18 l18 y18 z18 st18 hQ18
    subst l18 y18 z18
    obtain ⟨rfl, M19, e18⟩ := hQ18
    have N19 := Fr.app N0 M19
    refine own_to (S' := T18.setTop (mkF m 8 #[.val (.ref a), .val (.ref kd)] [(.int (4 : Int32)), (.ref ca)])) st18 ?_
    obtain ⟨cl20, Ar20, q1_20, S20, q3_20, H20, G20⟩ := id Va
    have hj20 := inb_of (j := (4 : Int32)) S20 ⟨by decide, by decide⟩
    have hv20 : cl20.slots[((4 : Int32)).toNatClampNeg]? = some (.long (f 4)) := Has.at H20 hj20 (by rfl)
    refine own_go (S' := T18.setTop (mkF m 9 #[.val (.ref a), .val (.ref kd)] [(.long (f 4))])) (fun tg kk => X18.laload hx (by rw [e18]; exact Ar20.1) (State.isArrayOf_alike hZ.alike Ar20.2.1) Ar20.2.2 hj20 hv20 (g := (mkF m 8 #[.val (.ref a), .val (.ref kd)] [(.int (4 : Int32)), (.ref ca)])) rfl rfl (hb hby d9_8) tg kk) ?_
    obtain ⟨fs, hr, hrun, hended, hW, hsame⟩ := X18.leave (v := some (.long (f 4))) (fun h => by rw [Bd.returns] at h; cases h)
    refine ⟨_, _, retOut X18 hx (t := .long) (i := .lreturn) Bd.returns rfl (Or.inr (Or.inl ⟨rfl, rfl, _, rfl⟩)) (hb hby d9_9) hr, hrun, hended, _, _, rfl, ?_, ⟨_, rfl⟩, hW, hsame.mono (by decide) (by decide)⟩
    show Q9 Z a ca k kd (4 : Int32) f h0 n0 (some (.long (f 4))) T18.heap _
    rw [e18]
    exact ⟨rfl, N19, rfl⟩
  · refine own_go (S' := s₁.setTop (mkF m 1 #[.val (.ref a), .val (.ref kd)] [(.ref a)])) (fun tg kk => XS.aloadN X0.here hx rfl (hb hby d9_0) rfl rfl kk) ?_
    obtain ⟨T21, X21, e21, st21⟩ := getF X0 hx hZ hown (host := "") (Or.inl (hw _ (List.mem_of_getElem? (i := 41) rfl))) Via.refl e0 Fc (g := (mkF m 1 #[.val (.ref a), .val (.ref kd)] [(.ref a)])) rfl rfl (hb hby d9_1)
    refine own_go (S' := T21.setTop (mkF m 4 #[.val (.ref a), .val (.ref kd)] [(.ref ca)])) (st21) ?_
    refine own_go (S' := T21.setTop (mkF m 5 #[.val (.ref a), .val (.ref kd)] [(.ref kd), (.ref ca)])) (fun tg kk => XS.aloadN X21.here hx rfl (hb hby d9_4) rfl rfl kk) ?_
    obtain ⟨cq22, kq22, qa22, qb22, qc22⟩ := isOf hZ e21 (Ek.ext O0.2)
    obtain ⟨v22, _, ⟨T22, L22, k22, n22⟩, -, X22, ⟨Lc22, hQ22, l22, y22, z22⟩, st22⟩ := X21.virtualBackUp hx (x := (⟨"spanwire/protocol/MessageKind", "ordinal", "()I"⟩ : MethodName)) (y := (⟨"java/lang/Enum", "ordinal", "()I"⟩ : MethodName)) (owner := "java/lang/Enum") hown (mvT hZ (hw _ (List.mem_of_getElem? (i := 48) rfl))) (mvT hZ (hw _ (List.mem_of_getElem? (i := 49) rfl))) (mvT hZ (hw _ (List.mem_of_getElem? (i := 50) rfl))) (by decide) (mvT hZ (hw _ (List.mem_of_getElem? (i := 52) rfl))) (mvT hZ (hw _ (List.mem_of_getElem? (i := 51) rfl))) (backOf (W := 1) (rm6 l Z a0 hw [] kd (5 : Int32) h0 n0 Z0 O0 Fo) hZ (hw _ (List.mem_of_getElem? (i := 54) rfl)) (hw _ (List.mem_of_getElem? (i := 53) rfl)) (by decide) (by decide)) qa22 qc22 (g := (mkF m 5 #[.val (.ref a), .val (.ref kd)] [(.ref kd), (.ref ca)])) rfl (by rw [hml]; rfl) (Steps.refl _) (argsL := []) (rest := [(.ref ca)]) (lenOf pd___I rfl) rfl (by show 2 * 0 + _ ≤ _; exact Nat.le_of_eq rfl) (hb hby d9_5) (fun _ _ => ⟨rfl, e21, (by decide : 0 + 0 ≤ _), (by decide : 0 + 0 ≤ _)⟩)
    dsimp only [Pt.U, Pt.locs, Pt.cells, Pt.slots] at X22 l22 y22 z22 st22 hQ22
    subst l22 y22 z22
    obtain ⟨rfl, M23, e22⟩ := hQ22
    have N23 := Fr.app N0 M23
    refine own_to (S' := T22.setTop (mkF m 8 #[.val (.ref a), .val (.ref kd)] [(.int (5 : Int32)), (.ref ca)])) st22 ?_
    obtain ⟨cl24, Ar24, q1_24, S24, q3_24, H24, G24⟩ := id Va
    have hj24 := inb_of (j := (5 : Int32)) S24 ⟨by decide, by decide⟩
    have hv24 : cl24.slots[((5 : Int32)).toNatClampNeg]? = some (.long (f 5)) := Has.at H24 hj24 (by rfl)
    refine own_go (S' := T22.setTop (mkF m 9 #[.val (.ref a), .val (.ref kd)] [(.long (f 5))])) (fun tg kk => X22.laload hx (by rw [e22]; exact Ar24.1) (State.isArrayOf_alike hZ.alike Ar24.2.1) Ar24.2.2 hj24 hv24 (g := (mkF m 8 #[.val (.ref a), .val (.ref kd)] [(.int (5 : Int32)), (.ref ca)])) rfl rfl (hb hby d9_8) tg kk) ?_
    obtain ⟨fs, hr, hrun, hended, hW, hsame⟩ := X22.leave (v := some (.long (f 5))) (fun h => by rw [Bd.returns] at h; cases h)
    refine ⟨_, _, retOut X22 hx (t := .long) (i := .lreturn) Bd.returns rfl (Or.inr (Or.inl ⟨rfl, rfl, _, rfl⟩)) (hb hby d9_9) hr, hrun, hended, _, _, rfl, ?_, ⟨_, rfl⟩, hW, hsame.mono (by decide) (by decide)⟩
    show Q9 Z a ca k kd (5 : Int32) f h0 n0 (some (.long (f 5))) T22.heap _
    rw [e22]
    exact ⟨rfl, N23, rfl⟩
  · refine own_go (S' := s₁.setTop (mkF m 1 #[.val (.ref a), .val (.ref kd)] [(.ref a)])) (fun tg kk => XS.aloadN X0.here hx rfl (hb hby d9_0) rfl rfl kk) ?_
    obtain ⟨T25, X25, e25, st25⟩ := getF X0 hx hZ hown (host := "") (Or.inl (hw _ (List.mem_of_getElem? (i := 41) rfl))) Via.refl e0 Fc (g := (mkF m 1 #[.val (.ref a), .val (.ref kd)] [(.ref a)])) rfl rfl (hb hby d9_1)
    refine own_go (S' := T25.setTop (mkF m 4 #[.val (.ref a), .val (.ref kd)] [(.ref ca)])) (st25) ?_
    refine own_go (S' := T25.setTop (mkF m 5 #[.val (.ref a), .val (.ref kd)] [(.ref kd), (.ref ca)])) (fun tg kk => XS.aloadN X25.here hx rfl (hb hby d9_4) rfl rfl kk) ?_
    obtain ⟨cq26, kq26, qa26, qb26, qc26⟩ := isOf hZ e25 (Ek.ext O0.2)
    obtain ⟨v26, _, ⟨T26, L26, k26, n26⟩, -, X26, ⟨Lc26, hQ26, l26, y26, z26⟩, st26⟩ := X25.virtualBackUp hx (x := (⟨"spanwire/protocol/MessageKind", "ordinal", "()I"⟩ : MethodName)) (y := (⟨"java/lang/Enum", "ordinal", "()I"⟩ : MethodName)) (owner := "java/lang/Enum") hown (mvT hZ (hw _ (List.mem_of_getElem? (i := 48) rfl))) (mvT hZ (hw _ (List.mem_of_getElem? (i := 49) rfl))) (mvT hZ (hw _ (List.mem_of_getElem? (i := 50) rfl))) (by decide) (mvT hZ (hw _ (List.mem_of_getElem? (i := 52) rfl))) (mvT hZ (hw _ (List.mem_of_getElem? (i := 51) rfl))) (backOf (W := 1) (rm6 l Z a0 hw [] kd (6 : Int32) h0 n0 Z0 O0 Fo) hZ (hw _ (List.mem_of_getElem? (i := 54) rfl)) (hw _ (List.mem_of_getElem? (i := 53) rfl)) (by decide) (by decide)) qa26 qc26 (g := (mkF m 5 #[.val (.ref a), .val (.ref kd)] [(.ref kd), (.ref ca)])) rfl (by rw [hml]; rfl) (Steps.refl _) (argsL := []) (rest := [(.ref ca)]) (lenOf pd___I rfl) rfl (by show 2 * 0 + _ ≤ _; exact Nat.le_of_eq rfl) (hb hby d9_5) (fun _ _ => ⟨rfl, e25, (by decide : 0 + 0 ≤ _), (by decide : 0 + 0 ≤ _)⟩)
    dsimp only [Pt.U, Pt.locs, Pt.cells, Pt.slots] at X26 l26 y26 z26 st26 hQ26
    subst l26 y26 z26
    obtain ⟨rfl, M27, e26⟩ := hQ26
    have N27 := Fr.app N0 M27
    refine own_to (S' := T26.setTop (mkF m 8 #[.val (.ref a), .val (.ref kd)] [(.int (6 : Int32)), (.ref ca)])) st26 ?_
    obtain ⟨cl28, Ar28, q1_28, S28, q3_28, H28, G28⟩ := id Va
    have hj28 := inb_of (j := (6 : Int32)) S28 ⟨by decide, by decide⟩
    have hv28 : cl28.slots[((6 : Int32)).toNatClampNeg]? = some (.long (f 6)) := Has.at H28 hj28 (by rfl)
    refine own_go (S' := T26.setTop (mkF m 9 #[.val (.ref a), .val (.ref kd)] [(.long (f 6))])) (fun tg kk => X26.laload hx (by rw [e26]; exact Ar28.1) (State.isArrayOf_alike hZ.alike Ar28.2.1) Ar28.2.2 hj28 hv28 (g := (mkF m 8 #[.val (.ref a), .val (.ref kd)] [(.int (6 : Int32)), (.ref ca)])) rfl rfl (hb hby d9_8) tg kk) ?_
    obtain ⟨fs, hr, hrun, hended, hW, hsame⟩ := X26.leave (v := some (.long (f 6))) (fun h => by rw [Bd.returns] at h; cases h)
    refine ⟨_, _, retOut X26 hx (t := .long) (i := .lreturn) Bd.returns rfl (Or.inr (Or.inl ⟨rfl, rfl, _, rfl⟩)) (hb hby d9_9) hr, hrun, hended, _, _, rfl, ?_, ⟨_, rfl⟩, hW, hsame.mono (by decide) (by decide)⟩
    show Q9 Z a ca k kd (6 : Int32) f h0 n0 (some (.long (f 6))) T26.heap _
    rw [e26]
    exact ⟨rfl, N27, rfl⟩
  · refine own_go (S' := s₁.setTop (mkF m 1 #[.val (.ref a), .val (.ref kd)] [(.ref a)])) (fun tg kk => XS.aloadN X0.here hx rfl (hb hby d9_0) rfl rfl kk) ?_
    obtain ⟨T29, X29, e29, st29⟩ := getF X0 hx hZ hown (host := "") (Or.inl (hw _ (List.mem_of_getElem? (i := 41) rfl))) Via.refl e0 Fc (g := (mkF m 1 #[.val (.ref a), .val (.ref kd)] [(.ref a)])) rfl rfl (hb hby d9_1)
    refine own_go (S' := T29.setTop (mkF m 4 #[.val (.ref a), .val (.ref kd)] [(.ref ca)])) (st29) ?_
    refine own_go (S' := T29.setTop (mkF m 5 #[.val (.ref a), .val (.ref kd)] [(.ref kd), (.ref ca)])) (fun tg kk => XS.aloadN X29.here hx rfl (hb hby d9_4) rfl rfl kk) ?_
    obtain ⟨cq30, kq30, qa30, qb30, qc30⟩ := isOf hZ e29 (Ek.ext O0.2)
    obtain ⟨v30, _, ⟨T30, L30, k30, n30⟩, -, X30, ⟨Lc30, hQ30, l30, y30, z30⟩, st30⟩ := X29.virtualBackUp hx (x := (⟨"spanwire/protocol/MessageKind", "ordinal", "()I"⟩ : MethodName)) (y := (⟨"java/lang/Enum", "ordinal", "()I"⟩ : MethodName)) (owner := "java/lang/Enum") hown (mvT hZ (hw _ (List.mem_of_getElem? (i := 48) rfl))) (mvT hZ (hw _ (List.mem_of_getElem? (i := 49) rfl))) (mvT hZ (hw _ (List.mem_of_getElem? (i := 50) rfl))) (by decide) (mvT hZ (hw _ (List.mem_of_getElem? (i := 52) rfl))) (mvT hZ (hw _ (List.mem_of_getElem? (i := 51) rfl))) (backOf (W := 1) (rm6 l Z a0 hw [] kd (7 : Int32) h0 n0 Z0 O0 Fo) hZ (hw _ (List.mem_of_getElem? (i := 54) rfl)) (hw _ (List.mem_of_getElem? (i := 53) rfl)) (by decide) (by decide)) qa30 qc30 (g := (mkF m 5 #[.val (.ref a), .val (.ref kd)] [(.ref kd), (.ref ca)])) rfl (by rw [hml]; rfl) (Steps.refl _) (argsL := []) (rest := [(.ref ca)]) (lenOf pd___I rfl) rfl (by show 2 * 0 + _ ≤ _; exact Nat.le_of_eq rfl) (hb hby d9_5) (fun _ _ => ⟨rfl, e29, (by decide : 0 + 0 ≤ _), (by decide : 0 + 0 ≤ _)⟩)
    dsimp only [Pt.U, Pt.locs, Pt.cells, Pt.slots] at X30 l30 y30 z30 st30 hQ30
    subst l30 y30 z30
    obtain ⟨rfl, M31, e30⟩ := hQ30
    have N31 := Fr.app N0 M31
    refine own_to (S' := T30.setTop (mkF m 8 #[.val (.ref a), .val (.ref kd)] [(.int (7 : Int32)), (.ref ca)])) st30 ?_
    obtain ⟨cl32, Ar32, q1_32, S32, q3_32, H32, G32⟩ := id Va
    have hj32 := inb_of (j := (7 : Int32)) S32 ⟨by decide, by decide⟩
    have hv32 : cl32.slots[((7 : Int32)).toNatClampNeg]? = some (.long (f 7)) := Has.at H32 hj32 (by rfl)
    refine own_go (S' := T30.setTop (mkF m 9 #[.val (.ref a), .val (.ref kd)] [(.long (f 7))])) (fun tg kk => X30.laload hx (by rw [e30]; exact Ar32.1) (State.isArrayOf_alike hZ.alike Ar32.2.1) Ar32.2.2 hj32 hv32 (g := (mkF m 8 #[.val (.ref a), .val (.ref kd)] [(.int (7 : Int32)), (.ref ca)])) rfl rfl (hb hby d9_8) tg kk) ?_
    obtain ⟨fs, hr, hrun, hended, hW, hsame⟩ := X30.leave (v := some (.long (f 7))) (fun h => by rw [Bd.returns] at h; cases h)
    refine ⟨_, _, retOut X30 hx (t := .long) (i := .lreturn) Bd.returns rfl (Or.inr (Or.inl ⟨rfl, rfl, _, rfl⟩)) (hb hby d9_9) hr, hrun, hended, _, _, rfl, ?_, ⟨_, rfl⟩, hW, hsame.mono (by decide) (by decide)⟩
    show Q9 Z a ca k kd (7 : Int32) f h0 n0 (some (.long (f 7))) T30.heap _
    rw [e30]
    exact ⟨rfl, N31, rfl⟩
theorem d10_0 : decode prog_73_method_6_code 0 = .ok (.aload_n 0, 1) := by decide +kernel
theorem d10_1 : decode prog_73_method_6_code 1 = .ok (.getfield 27, 3) := by decide +kernel
theorem d10_4 : decode prog_73_method_6_code 4 = .ok (.lreturn, 1) := by decide +kernel
theorem ef10 (m : MethodId) (x0 : Addr) : entryFrame m #[(.ref x0)] 1 = mkF m 0 #[.val (.ref x0)] [] := by first | (simp [entryFrame, mkF, argsToLocals, Value.category]; done) | rfl
def Q10 (Z : State) (a : Addr) (t : Int64) (h0 : Heap) (n0 : Nat) (v : Option Value) (h : Heap) (L : List Loc) : Prop := v = some (.long t) ∧ Fr n0 L ∧ h = h0
set_option maxRecDepth 65536 in
set_option maxHeartbeats 40000000 in
theorem rm10 (l : Launch) (Z : State) (a0 : Array Value) (hw : ∀ d ∈ tables_1, d.before a0 Z = true) (ws : List Jvm.Cond) (a : Addr) (t : Int64) (h0 : Heap) (n0 : Nat) (Z0 : n0 ≤ h0.size) (Ft : Fld Z h0 a "spanwire/protocol/MessageCounts" "total" "J" (.long t)) :
    MetFree l (⟨"spanwire/protocol/MessageCounts", "total", "()J"⟩ : MethodName) (head1 (Jvm.Cond.code (⟨"spanwire/protocol/MessageCounts", "total", "()J"⟩ : MethodName) prog_73_method_6_code 1 ((Option.some FieldType.long)) :: ws) ({ frames := 0, cells := 0, slots := 0, locals := 0 } : Room)) (fun aa U => aa = #[(.ref a)] ∧ Z.Warmed39 U.vm ∧ U.heap = h0) (fun _ _ _ _ _ => True) (fun _ U ou U' => ∃ v L, ou = .returned v ∧ Q10 Z a t h0 n0 v U'.heap L ∧ FrameEnd U ou U' L ({ frames := 0, cells := 0, slots := 0, locals := 0 } : Room).cells ({ frames := 0, cells := 0, slots := 0, locals := 0 } : Room).slots) := by
  refine MetFree.of_bodySF (plainFor_of_name pn_spanwire_protocol_MessageCounts) hisR ?_
  intro pg e s m args below meth c s₁ Bd hml0 hP hK
  obtain ⟨rfl, hZ, hh⟩ := hP
  have hx := Bd.exec
  have hby := Bd.bytes
  have hml : c.maxLocals = 1 := hml0
  have hown : s.vm.findClass "spanwire/protocol/MessageCounts" = some m.cls := findClass_of_methodNamed Bd.named
  have hnm := (name_of_methodNamed Bd.named Bd.method).1
  have X0 : Stand pg l e ({ frames := 0, cells := 0, slots := 0, locals := 0 } : Room) s m #[(.ref a)] below meth c s₁ [] 0 0 := Stand.of_body Bd
  have e0 : s₁.heap = h0 := by rw [← hh, Bd.state]; rfl
  have N0 := Fr.nil n0
  show own_Go pg.tables e below (fun ou U' => ∃ v L, ou = .returned v ∧ Q10 Z a t h0 n0 v U'.heap L ∧ FrameEnd s ou U' L ({ frames := 0, cells := 0, slots := 0, locals := 0 } : Room).cells ({ frames := 0, cells := 0, slots := 0, locals := 0 } : Room).slots) (s₁.setTop (entryFrame m #[(.ref a)] 1))
  refine own_go (S' := s₁.setTop (mkF m 0 #[.val (.ref a)] [])) (fun tg kk => castTop (ef10 m a) kk) ?_
  refine own_go (S' := s₁.setTop (mkF m 1 #[.val (.ref a)] [(.ref a)])) (fun tg kk => XS.aloadN X0.here hx rfl (hb hby d10_0) rfl rfl kk) ?_
  obtain ⟨T1, X1, e1, st1⟩ := getF X0 hx hZ hown (host := "") (Or.inl (hw _ (List.mem_of_getElem? (i := 63) rfl))) Via.refl e0 Ft (g := (mkF m 1 #[.val (.ref a)] [(.ref a)])) rfl rfl (hb hby d10_1)
  refine own_go (S' := T1.setTop (mkF m 4 #[.val (.ref a)] [(.long t)])) (st1) ?_
  obtain ⟨fs, hr, hrun, hended, hW, hsame⟩ := X1.leave (v := some (.long t)) (fun h => by rw [Bd.returns] at h; cases h)
  refine ⟨_, _, retOut X1 hx (t := .long) (i := .lreturn) Bd.returns rfl (Or.inr (Or.inl ⟨rfl, rfl, _, rfl⟩)) (hb hby d10_4) hr, hrun, hended, _, _, rfl, ?_, ⟨_, rfl⟩, hW, hsame.mono (by decide) (by decide)⟩
  show Q10 Z a t h0 n0 (some (.long t)) T1.heap _
  rw [e1]
  exact ⟨rfl, N0, rfl⟩
theorem d8_0 : decode prog_73_method_4_code 0 = .ok (.iconst 0, 1) := by decide +kernel
theorem d8_1 : decode prog_73_method_4_code 1 = .ok (.istore_n 2, 1) := by decide +kernel
theorem d8_2 : decode prog_73_method_4_code 2 = .ok (.iload_n 2, 1) := by decide +kernel
theorem d8_3 : decode prog_73_method_4_code 3 = .ok (.aload_n 0, 1) := by decide +kernel
theorem d8_4 : decode prog_73_method_4_code 4 = .ok (.getfield 13, 3) := by decide +kernel
theorem d8_7 : decode prog_73_method_4_code 7 = .ok (.arraylength, 1) := by decide +kernel
theorem d8_8 : decode prog_73_method_4_code 8 = .ok (.if_icmp .ge 24, 3) := by decide +kernel
theorem d8_11 : decode prog_73_method_4_code 11 = .ok (.aload_n 0, 1) := by decide +kernel
theorem d8_12 : decode prog_73_method_4_code 12 = .ok (.getfield 13, 3) := by decide +kernel
theorem d8_15 : decode prog_73_method_4_code 15 = .ok (.iload_n 2, 1) := by decide +kernel
theorem d8_16 : decode prog_73_method_4_code 16 = .ok (.dup2, 1) := by decide +kernel
theorem d8_17 : decode prog_73_method_4_code 17 = .ok (.laload, 1) := by decide +kernel
theorem d8_18 : decode prog_73_method_4_code 18 = .ok (.aload_n 1, 1) := by decide +kernel
theorem d8_19 : decode prog_73_method_4_code 19 = .ok (.getfield 13, 3) := by decide +kernel
theorem d8_22 : decode prog_73_method_4_code 22 = .ok (.iload_n 2, 1) := by decide +kernel
theorem d8_23 : decode prog_73_method_4_code 23 = .ok (.laload, 1) := by decide +kernel
theorem d8_24 : decode prog_73_method_4_code 24 = .ok (.ladd, 1) := by decide +kernel
theorem d8_25 : decode prog_73_method_4_code 25 = .ok (.lastore, 1) := by decide +kernel
theorem d8_26 : decode prog_73_method_4_code 26 = .ok (.iinc 2 1, 3) := by decide +kernel
theorem d8_29 : decode prog_73_method_4_code 29 = .ok (.goto (-27), 3) := by decide +kernel
theorem d8_32 : decode prog_73_method_4_code 32 = .ok (.aload_n 0, 1) := by decide +kernel
theorem d8_33 : decode prog_73_method_4_code 33 = .ok (.dup, 1) := by decide +kernel
theorem d8_34 : decode prog_73_method_4_code 34 = .ok (.getfield 27, 3) := by decide +kernel
theorem d8_37 : decode prog_73_method_4_code 37 = .ok (.aload_n 1, 1) := by decide +kernel
theorem d8_38 : decode prog_73_method_4_code 38 = .ok (.getfield 27, 3) := by decide +kernel
theorem d8_41 : decode prog_73_method_4_code 41 = .ok (.ladd, 1) := by decide +kernel
theorem d8_42 : decode prog_73_method_4_code 42 = .ok (.putfield 27, 3) := by decide +kernel
theorem d8_45 : decode prog_73_method_4_code 45 = .ok (.return_, 1) := by decide +kernel
theorem ef8 (m : MethodId) (x0 : Addr) (x1 : Addr) : entryFrame m #[(.ref x0), (.ref x1)] 3 = mkF m 0 #[.val (.ref x0), .val (.ref x1), .unset] [] := by first | (simp [entryFrame, mkF, argsToLocals, Value.category]; done) | rfl
def Q8 (Z : State) (a : Addr) (ca : Addr) (k : ClassId) (f : Nat → Int64) (t : Int64) (b : Addr) (cb : Addr) (kb : ClassId) (g : Nat → Int64) (u : Int64) (h0 : Heap) (n0 : Nat) (v : Option Value) (h : Heap) (L : List Loc) : Prop := v = none ∧ Fr n0 L ∧ Keep h0 h [a, ca] ∧ Fld Z h a "spanwire/protocol/MessageCounts" "counts" "[J" (.ref ca) ∧ Fld Z h a "spanwire/protocol/MessageCounts" "total" "J" (.long (t + u)) ∧ Arv Z h ca k .long (8 : Int32) (own_l8 (own_sum f g)) (.long (0 : Int64))
set_option maxRecDepth 65536 in
set_option maxHeartbeats 40000000 in
theorem rm8 (l : Launch) (Z : State) (a0 : Array Value) (hw : ∀ d ∈ tables_1, d.before a0 Z = true) (ws : List Jvm.Cond) (a : Addr) (ca : Addr) (k : ClassId) (f : Nat → Int64) (t : Int64) (b : Addr) (cb : Addr) (kb : ClassId) (g : Nat → Int64) (u : Int64) (h0 : Heap) (n0 : Nat) (Z0 : n0 ≤ h0.size) (Fc : Fld Z h0 a "spanwire/protocol/MessageCounts" "counts" "[J" (.ref ca)) (Ft : Fld Z h0 a "spanwire/protocol/MessageCounts" "total" "J" (.long t)) (Ea : Exa Z h0 a "spanwire/protocol/MessageCounts") (Va : Arv Z h0 ca k .long (8 : Int32) (own_l8 f) (.long (0 : Int64))) (Gc : Fld Z h0 b "spanwire/protocol/MessageCounts" "counts" "[J" (.ref cb)) (Gt : Fld Z h0 b "spanwire/protocol/MessageCounts" "total" "J" (.long u)) (Eb : Exa Z h0 b "spanwire/protocol/MessageCounts") (Vb : Arv Z h0 cb kb .long (8 : Int32) (own_l8 g) (.long (0 : Int64))) (ga : n0 ≤ a) (gc : n0 ≤ ca) (nac : a ≠ ca) (nbc : b ≠ ca) (ncc : cb ≠ ca) (nab : b ≠ a) :
    MetFree l (⟨"spanwire/protocol/MessageCounts", "addAll", "(Lspanwire/protocol/MessageCounts;)V"⟩ : MethodName) (head1 (Jvm.Cond.code (⟨"spanwire/protocol/MessageCounts", "addAll", "(Lspanwire/protocol/MessageCounts;)V"⟩ : MethodName) prog_73_method_4_code 3 ((Option.none : Option FieldType)) :: ws) ({ frames := 0, cells := 0, slots := 0, locals := 0 } : Room)) (fun aa U => aa = #[(.ref a), (.ref b)] ∧ Z.Warmed39 U.vm ∧ U.heap = h0) (fun _ _ _ _ _ => True) (fun _ U ou U' => ∃ v L, ou = .returned v ∧ Q8 Z a ca k f t b cb kb g u h0 n0 v U'.heap L ∧ FrameEnd U ou U' L ({ frames := 0, cells := 0, slots := 0, locals := 0 } : Room).cells ({ frames := 0, cells := 0, slots := 0, locals := 0 } : Room).slots) := by
  refine MetFree.of_bodySF (plainFor_of_name pn_spanwire_protocol_MessageCounts) hisR ?_
  intro pg e s m args below meth c s₁ Bd hml0 hP hK
  obtain ⟨rfl, hZ, hh⟩ := hP
  have hx := Bd.exec
  have hby := Bd.bytes
  have hml : c.maxLocals = 3 := hml0
  have hown : s.vm.findClass "spanwire/protocol/MessageCounts" = some m.cls := findClass_of_methodNamed Bd.named
  have hnm := (name_of_methodNamed Bd.named Bd.method).1
  have X0 : Stand pg l e ({ frames := 0, cells := 0, slots := 0, locals := 0 } : Room) s m #[(.ref a), (.ref b)] below meth c s₁ [] 0 0 := Stand.of_body Bd
  have e0 : s₁.heap = h0 := by rw [← hh, Bd.state]; rfl
  have N0 := Fr.nil n0
  have K0 : Keep h0 h0 [a, ca] := Keep.refl _ _
  show own_Go pg.tables e below (fun ou U' => ∃ v L, ou = .returned v ∧ Q8 Z a ca k f t b cb kb g u h0 n0 v U'.heap L ∧ FrameEnd s ou U' L ({ frames := 0, cells := 0, slots := 0, locals := 0 } : Room).cells ({ frames := 0, cells := 0, slots := 0, locals := 0 } : Room).slots) (s₁.setTop (entryFrame m #[(.ref a), (.ref b)] 3))
  refine own_go (S' := s₁.setTop (mkF m 0 #[.val (.ref a), .val (.ref b), .unset] [])) (fun tg kk => castTop (ef8 m a b) kk) ?_
  refine own_go (S' := s₁.setTop (mkF m 1 #[.val (.ref a), .val (.ref b), .unset] [(.int (0 : Int32))])) (fun tg kk => XT.iconstV X0.here hx rfl (0 : Int32) (hb hby d8_0) (by decide) kk) ?_
  refine own_go (S' := s₁.setTop (mkF m 2 #[.val (.ref a), .val (.ref b), .val (.int (0 : Int32))] [])) (fun tg kk => XS.istoreN X0.here hx rfl (hb hby d8_1) rfl (l' := #[.val (.ref a), .val (.ref b), .val (.int (0 : Int32))]) rfl kk) ?_
  refine own_go (S' := s₁.setTop (mkF m 3 #[.val (.ref a), .val (.ref b), .val (.int (0 : Int32))] [(.int (0 : Int32))])) (fun tg kk => XS.iloadN X0.here hx rfl (hb hby d8_2) rfl kk) ?_
  refine own_go (S' := s₁.setTop (mkF m 4 #[.val (.ref a), .val (.ref b), .val (.int (0 : Int32))] [(.ref a), (.int (0 : Int32))])) (fun tg kk => XS.aloadN X0.here hx rfl (hb hby d8_3) rfl rfl kk) ?_
  obtain ⟨T1, X1, e1, st1⟩ := getF X0 hx hZ hown (host := "") (Or.inl (hw _ (List.mem_of_getElem? (i := 41) rfl))) Via.refl e0 Fc (g := (mkF m 4 #[.val (.ref a), .val (.ref b), .val (.int (0 : Int32))] [(.ref a), (.int (0 : Int32))])) rfl rfl (hb hby d8_4)
  refine own_go (S' := T1.setTop (mkF m 7 #[.val (.ref a), .val (.ref b), .val (.int (0 : Int32))] [(.ref ca), (.int (0 : Int32))])) (st1) ?_
  obtain ⟨cl2, Ar2, q1_2, S2, q3_2, H2, G2⟩ := id Va
  refine own_go (S' := T1.setTop (mkF m 8 #[.val (.ref a), .val (.ref b), .val (.int (0 : Int32))] [(.int (8 : Int32)), (.int (0 : Int32))])) (fun tg kk => X1.arraylength hx (cell := cl2) (by rw [e1]; exact Ar2.1) (State.isArrayOf_alike hZ.alike Ar2.2.1) (g := (mkF m 7 #[.val (.ref a), .val (.ref b), .val (.int (0 : Int32))] [(.ref ca), (.int (0 : Int32))])) rfl rfl (hb hby d8_7) tg (by rw [len_of S2 q3_2]; exact kk)) ?_
  refine own_go (S' := T1.setTop (mkF m 11 #[.val (.ref a), .val (.ref b), .val (.int (0 : Int32))] [])) (fun tg kk => XS.icmpNo X1.here hx rfl (hb hby d8_8) rfl (XT.ii_ge_f (by decide)) kk) ?_
  refine own_go (S' := T1.setTop (mkF m 12 #[.val (.ref a), .val (.ref b), .val (.int (0 : Int32))] [(.ref a)])) (fun tg kk => XS.aloadN X1.here hx rfl (hb hby d8_11) rfl rfl kk) ?_
  obtain ⟨T3, X3, e3, st3⟩ := getF X1 hx hZ hown (host := "") (Or.inl (hw _ (List.mem_of_getElem? (i := 41) rfl))) Via.refl e1 Fc (g := (mkF m 12 #[.val (.ref a), .val (.ref b), .val (.int (0 : Int32))] [(.ref a)])) rfl rfl (hb hby d8_12)
  refine own_go (S' := T3.setTop (mkF m 15 #[.val (.ref a), .val (.ref b), .val (.int (0 : Int32))] [(.ref ca)])) (st3) ?_
  refine own_go (S' := T3.setTop (mkF m 16 #[.val (.ref a), .val (.ref b), .val (.int (0 : Int32))] [(.int (0 : Int32)), (.ref ca)])) (fun tg kk => XS.iloadN X3.here hx rfl (hb hby d8_15) rfl kk) ?_
  refine own_go (S' := T3.setTop (mkF m 17 #[.val (.ref a), .val (.ref b), .val (.int (0 : Int32))] [(.int (0 : Int32)), (.ref ca), (.int (0 : Int32)), (.ref ca)])) (fun tg kk => XT.dup2 X3.here hx rfl (hb hby d8_16) rfl rfl rfl kk) ?_
  obtain ⟨cl4, Ar4, q1_4, S4, q3_4, H4, G4⟩ := id Va
  have hj4 := inb_of (j := (0 : Int32)) S4 ⟨by decide, by decide⟩
  have hv4 : cl4.slots[((0 : Int32)).toNatClampNeg]? = some (.long (f 0)) := Has.at H4 hj4 (by rfl)
  refine own_go (S' := T3.setTop (mkF m 18 #[.val (.ref a), .val (.ref b), .val (.int (0 : Int32))] [(.long (f 0)), (.int (0 : Int32)), (.ref ca)])) (fun tg kk => X3.laload hx (by rw [e3]; exact Ar4.1) (State.isArrayOf_alike hZ.alike Ar4.2.1) Ar4.2.2 hj4 hv4 (g := (mkF m 17 #[.val (.ref a), .val (.ref b), .val (.int (0 : Int32))] [(.int (0 : Int32)), (.ref ca), (.int (0 : Int32)), (.ref ca)])) rfl rfl (hb hby d8_17) tg kk) ?_
  refine own_go (S' := T3.setTop (mkF m 19 #[.val (.ref a), .val (.ref b), .val (.int (0 : Int32))] [(.ref b), (.long (f 0)), (.int (0 : Int32)), (.ref ca)])) (fun tg kk => XS.aloadN X3.here hx rfl (hb hby d8_18) rfl rfl kk) ?_
  obtain ⟨T5, X5, e5, st5⟩ := getF X3 hx hZ hown (host := "") (Or.inl (hw _ (List.mem_of_getElem? (i := 41) rfl))) Via.refl e3 Gc (g := (mkF m 19 #[.val (.ref a), .val (.ref b), .val (.int (0 : Int32))] [(.ref b), (.long (f 0)), (.int (0 : Int32)), (.ref ca)])) rfl rfl (hb hby d8_19)
  refine own_go (S' := T5.setTop (mkF m 22 #[.val (.ref a), .val (.ref b), .val (.int (0 : Int32))] [(.ref cb), (.long (f 0)), (.int (0 : Int32)), (.ref ca)])) (st5) ?_
  refine own_go (S' := T5.setTop (mkF m 23 #[.val (.ref a), .val (.ref b), .val (.int (0 : Int32))] [(.int (0 : Int32)), (.ref cb), (.long (f 0)), (.int (0 : Int32)), (.ref ca)])) (fun tg kk => XS.iloadN X5.here hx rfl (hb hby d8_22) rfl kk) ?_
  obtain ⟨cl6, Ar6, q1_6, S6, q3_6, H6, G6⟩ := id Vb
  have hj6 := inb_of (j := (0 : Int32)) S6 ⟨by decide, by decide⟩
  have hv6 : cl6.slots[((0 : Int32)).toNatClampNeg]? = some (.long (g 0)) := Has.at H6 hj6 (by rfl)
  refine own_go (S' := T5.setTop (mkF m 24 #[.val (.ref a), .val (.ref b), .val (.int (0 : Int32))] [(.long (g 0)), (.long (f 0)), (.int (0 : Int32)), (.ref ca)])) (fun tg kk => X5.laload hx (by rw [e5]; exact Ar6.1) (State.isArrayOf_alike hZ.alike Ar6.2.1) Ar6.2.2 hj6 hv6 (g := (mkF m 23 #[.val (.ref a), .val (.ref b), .val (.int (0 : Int32))] [(.int (0 : Int32)), (.ref cb), (.long (f 0)), (.int (0 : Int32)), (.ref ca)])) rfl rfl (hb hby d8_23) tg kk) ?_
  refine own_go (S' := T5.setTop (mkF m 25 #[.val (.ref a), .val (.ref b), .val (.int (0 : Int32))] [(.long ((f 0) + (g 0))), (.int (0 : Int32)), (.ref ca)])) (fun tg kk => XT.ladd X5.here hx rfl (hb hby d8_24) rfl kk) ?_
  obtain ⟨cl7, Ar7, q1_7, S7, q3_7, H7, G7⟩ := id Va
  have hj7 := inb_of (j := (0 : Int32)) S7 ⟨by decide, by decide⟩
  obtain ⟨T7, h7, X7, e7, W7, st7⟩ := stJ X5 hx hZ e5 Ar7 hj7 (g := (mkF m 25 #[.val (.ref a), .val (.ref b), .val (.int (0 : Int32))] [(.long ((f 0) + (g 0))), (.int (0 : Int32)), (.ref ca)])) rfl rfl (hb hby d8_25)
  refine own_go (S' := T7.setTop (mkF m 26 #[.val (.ref a), .val (.ref b), .val (.int (0 : Int32))] [])) (st7) ?_
  have N7 := Fr.snoc X7 N0 gc
  have F8 := Fc.other W7 (Or.inl nac)
  have F9 := Ft.other W7 (Or.inl nac)
  have F10 := Gc.other W7 (Or.inl nbc)
  have F11 := Gt.other W7 (Or.inl nbc)
  have E12 : Exa Z h7 a "spanwire/protocol/MessageCounts" := Ea.wr W7
  have A14 := Vb.other W7 ncc
  have Z15 : n0 ≤ h7.size := by rw [W7.size]; exact Z0
  have K16 : Keep h0 h7 [a, ca] := K0.wr W7 (Or.inl (List.mem_of_getElem? (i := 1) rfl))
  have V7 : Arv Z h7 ca k .long (8 : Int32) [(.long ((f 0) + (g 0))), (.long (f 1)), (.long (f 2)), (.long (f 3)), (.long (f 4)), (.long (f 5)), (.long (f 6)), (.long (f 7))] (.long (0 : Int64)) := Arv.set Ar7 q1_7 S7 q3_7 H7 G7 rfl W7 0 (by decide) (by show 0 < 8; decide)
  refine own_go (S' := T7.setTop (mkF m 29 #[.val (.ref a), .val (.ref b), .val (.int (1 : Int32))] [])) (fun tg kk => XT.iincV X7.here hx rfl (1 : Int32) (hb hby d8_26) (by decide) rfl (l' := #[.val (.ref a), .val (.ref b), .val (.int (1 : Int32))]) rfl kk) ?_
  refine own_go (S' := T7.setTop (mkF m 2 #[.val (.ref a), .val (.ref b), .val (.int (1 : Int32))] [])) (fun tg kk => XS.goto X7.here hx rfl (pc0 := 29) (pc' := 2) rfl (hb hby d8_29) (by decide) (by decide) kk) ?_
  refine own_go (S' := T7.setTop (mkF m 3 #[.val (.ref a), .val (.ref b), .val (.int (1 : Int32))] [(.int (1 : Int32))])) (fun tg kk => XS.iloadN X7.here hx rfl (hb hby d8_2) rfl kk) ?_
  refine own_go (S' := T7.setTop (mkF m 4 #[.val (.ref a), .val (.ref b), .val (.int (1 : Int32))] [(.ref a), (.int (1 : Int32))])) (fun tg kk => XS.aloadN X7.here hx rfl (hb hby d8_3) rfl rfl kk) ?_
  obtain ⟨T17, X17, e17, st17⟩ := getF X7 hx hZ hown (host := "") (Or.inl (hw _ (List.mem_of_getElem? (i := 41) rfl))) Via.refl e7 F8 (g := (mkF m 4 #[.val (.ref a), .val (.ref b), .val (.int (1 : Int32))] [(.ref a), (.int (1 : Int32))])) rfl rfl (hb hby d8_4)
  refine own_go (S' := T17.setTop (mkF m 7 #[.val (.ref a), .val (.ref b), .val (.int (1 : Int32))] [(.ref ca), (.int (1 : Int32))])) (st17) ?_
  obtain ⟨cl18, Ar18, q1_18, S18, q3_18, H18, G18⟩ := id V7
  refine own_go (S' := T17.setTop (mkF m 8 #[.val (.ref a), .val (.ref b), .val (.int (1 : Int32))] [(.int (8 : Int32)), (.int (1 : Int32))])) (fun tg kk => X17.arraylength hx (cell := cl18) (by rw [e17]; exact Ar18.1) (State.isArrayOf_alike hZ.alike Ar18.2.1) (g := (mkF m 7 #[.val (.ref a), .val (.ref b), .val (.int (1 : Int32))] [(.ref ca), (.int (1 : Int32))])) rfl rfl (hb hby d8_7) tg (by rw [len_of S18 q3_18]; exact kk)) ?_
  refine own_go (S' := T17.setTop (mkF m 11 #[.val (.ref a), .val (.ref b), .val (.int (1 : Int32))] [])) (fun tg kk => XS.icmpNo X17.here hx rfl (hb hby d8_8) rfl (XT.ii_ge_f (by decide)) kk) ?_
  refine own_go (S' := T17.setTop (mkF m 12 #[.val (.ref a), .val (.ref b), .val (.int (1 : Int32))] [(.ref a)])) (fun tg kk => XS.aloadN X17.here hx rfl (hb hby d8_11) rfl rfl kk) ?_
  obtain ⟨T19, X19, e19, st19⟩ := getF X17 hx hZ hown (host := "") (Or.inl (hw _ (List.mem_of_getElem? (i := 41) rfl))) Via.refl e17 F8 (g := (mkF m 12 #[.val (.ref a), .val (.ref b), .val (.int (1 : Int32))] [(.ref a)])) rfl rfl (hb hby d8_12)
  refine own_go (S' := T19.setTop (mkF m 15 #[.val (.ref a), .val (.ref b), .val (.int (1 : Int32))] [(.ref ca)])) (st19) ?_
  refine own_go (S' := T19.setTop (mkF m 16 #[.val (.ref a), .val (.ref b), .val (.int (1 : Int32))] [(.int (1 : Int32)), (.ref ca)])) (fun tg kk => XS.iloadN X19.here hx rfl (hb hby d8_15) rfl kk) ?_
  refine own_go (S' := T19.setTop (mkF m 17 #[.val (.ref a), .val (.ref b), .val (.int (1 : Int32))] [(.int (1 : Int32)), (.ref ca), (.int (1 : Int32)), (.ref ca)])) (fun tg kk => XT.dup2 X19.here hx rfl (hb hby d8_16) rfl rfl rfl kk) ?_
  obtain ⟨cl20, Ar20, q1_20, S20, q3_20, H20, G20⟩ := id V7
  have hj20 := inb_of (j := (1 : Int32)) S20 ⟨by decide, by decide⟩
  have hv20 : cl20.slots[((1 : Int32)).toNatClampNeg]? = some (.long (f 1)) := Has.at H20 hj20 (by rfl)
  refine own_go (S' := T19.setTop (mkF m 18 #[.val (.ref a), .val (.ref b), .val (.int (1 : Int32))] [(.long (f 1)), (.int (1 : Int32)), (.ref ca)])) (fun tg kk => X19.laload hx (by rw [e19]; exact Ar20.1) (State.isArrayOf_alike hZ.alike Ar20.2.1) Ar20.2.2 hj20 hv20 (g := (mkF m 17 #[.val (.ref a), .val (.ref b), .val (.int (1 : Int32))] [(.int (1 : Int32)), (.ref ca), (.int (1 : Int32)), (.ref ca)])) rfl rfl (hb hby d8_17) tg kk) ?_
  refine own_go (S' := T19.setTop (mkF m 19 #[.val (.ref a), .val (.ref b), .val (.int (1 : Int32))] [(.ref b), (.long (f 1)), (.int (1 : Int32)), (.ref ca)])) (fun tg kk => XS.aloadN X19.here hx rfl (hb hby d8_18) rfl rfl kk) ?_
  obtain ⟨T21, X21, e21, st21⟩ := getF X19 hx hZ hown (host := "") (Or.inl (hw _ (List.mem_of_getElem? (i := 41) rfl))) Via.refl e19 F10 (g := (mkF m 19 #[.val (.ref a), .val (.ref b), .val (.int (1 : Int32))] [(.ref b), (.long (f 1)), (.int (1 : Int32)), (.ref ca)])) rfl rfl (hb hby d8_19)
  refine own_go (S' := T21.setTop (mkF m 22 #[.val (.ref a), .val (.ref b), .val (.int (1 : Int32))] [(.ref cb), (.long (f 1)), (.int (1 : Int32)), (.ref ca)])) (st21) ?_
  refine own_go (S' := T21.setTop (mkF m 23 #[.val (.ref a), .val (.ref b), .val (.int (1 : Int32))] [(.int (1 : Int32)), (.ref cb), (.long (f 1)), (.int (1 : Int32)), (.ref ca)])) (fun tg kk => XS.iloadN X21.here hx rfl (hb hby d8_22) rfl kk) ?_
  obtain ⟨cl22, Ar22, q1_22, S22, q3_22, H22, G22⟩ := id A14
  have hj22 := inb_of (j := (1 : Int32)) S22 ⟨by decide, by decide⟩
  have hv22 : cl22.slots[((1 : Int32)).toNatClampNeg]? = some (.long (g 1)) := Has.at H22 hj22 (by rfl)
  refine own_go (S' := T21.setTop (mkF m 24 #[.val (.ref a), .val (.ref b), .val (.int (1 : Int32))] [(.long (g 1)), (.long (f 1)), (.int (1 : Int32)), (.ref ca)])) (fun tg kk => X21.laload hx (by rw [e21]; exact Ar22.1) (State.isArrayOf_alike hZ.alike Ar22.2.1) Ar22.2.2 hj22 hv22 (g := (mkF m 23 #[.val (.ref a), .val (.ref b), .val (.int (1 : Int32))] [(.int (1 : Int32)), (.ref cb), (.long (f 1)), (.int (1 : Int32)), (.ref ca)])) rfl rfl (hb hby d8_23) tg kk) ?_
  refine own_go (S' := T21.setTop (mkF m 25 #[.val (.ref a), .val (.ref b), .val (.int (1 : Int32))] [(.long ((f 1) + (g 1))), (.int (1 : Int32)), (.ref ca)])) (fun tg kk => XT.ladd X21.here hx rfl (hb hby d8_24) rfl kk) ?_
  obtain ⟨cl23, Ar23, q1_23, S23, q3_23, H23, G23⟩ := id V7
  have hj23 := inb_of (j := (1 : Int32)) S23 ⟨by decide, by decide⟩
  obtain ⟨T23, h23, X23, e23, W23, st23⟩ := stJ X21 hx hZ e21 Ar23 hj23 (g := (mkF m 25 #[.val (.ref a), .val (.ref b), .val (.int (1 : Int32))] [(.long ((f 1) + (g 1))), (.int (1 : Int32)), (.ref ca)])) rfl rfl (hb hby d8_25)
  refine own_go (S' := T23.setTop (mkF m 26 #[.val (.ref a), .val (.ref b), .val (.int (1 : Int32))] [])) (st23) ?_
  have N23 := Fr.snoc X23 N7 gc
  have F24 := F8.other W23 (Or.inl nac)
  have F25 := F9.other W23 (Or.inl nac)
  have F26 := F10.other W23 (Or.inl nbc)
  have F27 := F11.other W23 (Or.inl nbc)
  have E28 : Exa Z h23 a "spanwire/protocol/MessageCounts" := E12.wr W23
  have A30 := A14.other W23 ncc
  have Z31 : n0 ≤ h23.size := by rw [W23.size]; exact Z15
  have K32 : Keep h0 h23 [a, ca] := K16.wr W23 (Or.inl (List.mem_of_getElem? (i := 1) rfl))
  have V23 : Arv Z h23 ca k .long (8 : Int32) [(.long ((f 0) + (g 0))), (.long ((f 1) + (g 1))), (.long (f 2)), (.long (f 3)), (.long (f 4)), (.long (f 5)), (.long (f 6)), (.long (f 7))] (.long (0 : Int64)) := Arv.set Ar23 q1_23 S23 q3_23 H23 G23 rfl W23 1 (by decide) (by show 1 < 8; decide)
  refine own_go (S' := T23.setTop (mkF m 29 #[.val (.ref a), .val (.ref b), .val (.int (2 : Int32))] [])) (fun tg kk => XT.iincV X23.here hx rfl (1 : Int32) (hb hby d8_26) (by decide) rfl (l' := #[.val (.ref a), .val (.ref b), .val (.int (2 : Int32))]) rfl kk) ?_
  refine own_go (S' := T23.setTop (mkF m 2 #[.val (.ref a), .val (.ref b), .val (.int (2 : Int32))] [])) (fun tg kk => XS.goto X23.here hx rfl (pc0 := 29) (pc' := 2) rfl (hb hby d8_29) (by decide) (by decide) kk) ?_
  refine own_go (S' := T23.setTop (mkF m 3 #[.val (.ref a), .val (.ref b), .val (.int (2 : Int32))] [(.int (2 : Int32))])) (fun tg kk => XS.iloadN X23.here hx rfl (hb hby d8_2) rfl kk) ?_
  refine own_go (S' := T23.setTop (mkF m 4 #[.val (.ref a), .val (.ref b), .val (.int (2 : Int32))] [(.ref a), (.int (2 : Int32))])) (fun tg kk => XS.aloadN X23.here hx rfl (hb hby d8_3) rfl rfl kk) ?_
  obtain ⟨T33, X33, e33, st33⟩ := getF X23 hx hZ hown (host := "") (Or.inl (hw _ (List.mem_of_getElem? (i := 41) rfl))) Via.refl e23 F24 (g := (mkF m 4 #[.val (.ref a), .val (.ref b), .val (.int (2 : Int32))] [(.ref a), (.int (2 : Int32))])) rfl rfl (hb hby d8_4)
  refine own_go (S' := T33.setTop (mkF m 7 #[.val (.ref a), .val (.ref b), .val (.int (2 : Int32))] [(.ref ca), (.int (2 : Int32))])) (st33) ?_
  obtain ⟨cl34, Ar34, q1_34, S34, q3_34, H34, G34⟩ := id V23
  refine own_go (S' := T33.setTop (mkF m 8 #[.val (.ref a), .val (.ref b), .val (.int (2 : Int32))] [(.int (8 : Int32)), (.int (2 : Int32))])) (fun tg kk => X33.arraylength hx (cell := cl34) (by rw [e33]; exact Ar34.1) (State.isArrayOf_alike hZ.alike Ar34.2.1) (g := (mkF m 7 #[.val (.ref a), .val (.ref b), .val (.int (2 : Int32))] [(.ref ca), (.int (2 : Int32))])) rfl rfl (hb hby d8_7) tg (by rw [len_of S34 q3_34]; exact kk)) ?_
  refine own_go (S' := T33.setTop (mkF m 11 #[.val (.ref a), .val (.ref b), .val (.int (2 : Int32))] [])) (fun tg kk => XS.icmpNo X33.here hx rfl (hb hby d8_8) rfl (XT.ii_ge_f (by decide)) kk) ?_
  refine own_go (S' := T33.setTop (mkF m 12 #[.val (.ref a), .val (.ref b), .val (.int (2 : Int32))] [(.ref a)])) (fun tg kk => XS.aloadN X33.here hx rfl (hb hby d8_11) rfl rfl kk) ?_
  obtain ⟨T35, X35, e35, st35⟩ := getF X33 hx hZ hown (host := "") (Or.inl (hw _ (List.mem_of_getElem? (i := 41) rfl))) Via.refl e33 F24 (g := (mkF m 12 #[.val (.ref a), .val (.ref b), .val (.int (2 : Int32))] [(.ref a)])) rfl rfl (hb hby d8_12)
  refine own_go (S' := T35.setTop (mkF m 15 #[.val (.ref a), .val (.ref b), .val (.int (2 : Int32))] [(.ref ca)])) (st35) ?_
  refine own_go (S' := T35.setTop (mkF m 16 #[.val (.ref a), .val (.ref b), .val (.int (2 : Int32))] [(.int (2 : Int32)), (.ref ca)])) (fun tg kk => XS.iloadN X35.here hx rfl (hb hby d8_15) rfl kk) ?_
  refine own_go (S' := T35.setTop (mkF m 17 #[.val (.ref a), .val (.ref b), .val (.int (2 : Int32))] [(.int (2 : Int32)), (.ref ca), (.int (2 : Int32)), (.ref ca)])) (fun tg kk => XT.dup2 X35.here hx rfl (hb hby d8_16) rfl rfl rfl kk) ?_
  obtain ⟨cl36, Ar36, q1_36, S36, q3_36, H36, G36⟩ := id V23
  have hj36 := inb_of (j := (2 : Int32)) S36 ⟨by decide, by decide⟩
  have hv36 : cl36.slots[((2 : Int32)).toNatClampNeg]? = some (.long (f 2)) := Has.at H36 hj36 (by rfl)
  refine own_go (S' := T35.setTop (mkF m 18 #[.val (.ref a), .val (.ref b), .val (.int (2 : Int32))] [(.long (f 2)), (.int (2 : Int32)), (.ref ca)])) (fun tg kk => X35.laload hx (by rw [e35]; exact Ar36.1) (State.isArrayOf_alike hZ.alike Ar36.2.1) Ar36.2.2 hj36 hv36 (g := (mkF m 17 #[.val (.ref a), .val (.ref b), .val (.int (2 : Int32))] [(.int (2 : Int32)), (.ref ca), (.int (2 : Int32)), (.ref ca)])) rfl rfl (hb hby d8_17) tg kk) ?_
  refine own_go (S' := T35.setTop (mkF m 19 #[.val (.ref a), .val (.ref b), .val (.int (2 : Int32))] [(.ref b), (.long (f 2)), (.int (2 : Int32)), (.ref ca)])) (fun tg kk => XS.aloadN X35.here hx rfl (hb hby d8_18) rfl rfl kk) ?_
  obtain ⟨T37, X37, e37, st37⟩ := getF X35 hx hZ hown (host := "") (Or.inl (hw _ (List.mem_of_getElem? (i := 41) rfl))) Via.refl e35 F26 (g := (mkF m 19 #[.val (.ref a), .val (.ref b), .val (.int (2 : Int32))] [(.ref b), (.long (f 2)), (.int (2 : Int32)), (.ref ca)])) rfl rfl (hb hby d8_19)
  refine own_go (S' := T37.setTop (mkF m 22 #[.val (.ref a), .val (.ref b), .val (.int (2 : Int32))] [(.ref cb), (.long (f 2)), (.int (2 : Int32)), (.ref ca)])) (st37) ?_
  refine own_go (S' := T37.setTop (mkF m 23 #[.val (.ref a), .val (.ref b), .val (.int (2 : Int32))] [(.int (2 : Int32)), (.ref cb), (.long (f 2)), (.int (2 : Int32)), (.ref ca)])) (fun tg kk => XS.iloadN X37.here hx rfl (hb hby d8_22) rfl kk) ?_
  obtain ⟨cl38, Ar38, q1_38, S38, q3_38, H38, G38⟩ := id A30
  have hj38 := inb_of (j := (2 : Int32)) S38 ⟨by decide, by decide⟩
  have hv38 : cl38.slots[((2 : Int32)).toNatClampNeg]? = some (.long (g 2)) := Has.at H38 hj38 (by rfl)
  refine own_go (S' := T37.setTop (mkF m 24 #[.val (.ref a), .val (.ref b), .val (.int (2 : Int32))] [(.long (g 2)), (.long (f 2)), (.int (2 : Int32)), (.ref ca)])) (fun tg kk => X37.laload hx (by rw [e37]; exact Ar38.1) (State.isArrayOf_alike hZ.alike Ar38.2.1) Ar38.2.2 hj38 hv38 (g := (mkF m 23 #[.val (.ref a), .val (.ref b), .val (.int (2 : Int32))] [(.int (2 : Int32)), (.ref cb), (.long (f 2)), (.int (2 : Int32)), (.ref ca)])) rfl rfl (hb hby d8_23) tg kk) ?_
  refine own_go (S' := T37.setTop (mkF m 25 #[.val (.ref a), .val (.ref b), .val (.int (2 : Int32))] [(.long ((f 2) + (g 2))), (.int (2 : Int32)), (.ref ca)])) (fun tg kk => XT.ladd X37.here hx rfl (hb hby d8_24) rfl kk) ?_
  obtain ⟨cl39, Ar39, q1_39, S39, q3_39, H39, G39⟩ := id V23
  have hj39 := inb_of (j := (2 : Int32)) S39 ⟨by decide, by decide⟩
  obtain ⟨T39, h39, X39, e39, W39, st39⟩ := stJ X37 hx hZ e37 Ar39 hj39 (g := (mkF m 25 #[.val (.ref a), .val (.ref b), .val (.int (2 : Int32))] [(.long ((f 2) + (g 2))), (.int (2 : Int32)), (.ref ca)])) rfl rfl (hb hby d8_25)
  refine own_go (S' := T39.setTop (mkF m 26 #[.val (.ref a), .val (.ref b), .val (.int (2 : Int32))] [])) (st39) ?_
  have N39 := Fr.snoc X39 N23 gc
  have F40 := F24.other W39 (Or.inl nac)
  have F41 := F25.other W39 (Or.inl nac)
  have F42 := F26.other W39 (Or.inl nbc)
  have F43 := F27.other W39 (Or.inl nbc)
  have E44 : Exa Z h39 a "spanwire/protocol/MessageCounts" := E28.wr W39
  have A46 := A30.other W39 ncc
  have Z47 : n0 ≤ h39.size := by rw [W39.size]; exact Z31
  have K48 : Keep h0 h39 [a, ca] := K32.wr W39 (Or.inl (List.mem_of_getElem? (i := 1) rfl))
  have V39 : Arv Z h39 ca k .long (8 : Int32) [(.long ((f 0) + (g 0))), (.long ((f 1) + (g 1))), (.long ((f 2) + (g 2))), (.long (f 3)), (.long (f 4)), (.long (f 5)), (.long (f 6)), (.long (f 7))] (.long (0 : Int64)) := Arv.set Ar39 q1_39 S39 q3_39 H39 G39 rfl W39 2 (by decide) (by show 2 < 8; decide)
  refine own_go (S' := T39.setTop (mkF m 29 #[.val (.ref a), .val (.ref b), .val (.int (3 : Int32))] [])) (fun tg kk => XT.iincV X39.here hx rfl (1 : Int32) (hb hby d8_26) (by decide) rfl (l' := #[.val (.ref a), .val (.ref b), .val (.int (3 : Int32))]) rfl kk) ?_
  refine own_go (S' := T39.setTop (mkF m 2 #[.val (.ref a), .val (.ref b), .val (.int (3 : Int32))] [])) (fun tg kk => XS.goto X39.here hx rfl (pc0 := 29) (pc' := 2) rfl (hb hby d8_29) (by decide) (by decide) kk) ?_
  refine own_go (S' := T39.setTop (mkF m 3 #[.val (.ref a), .val (.ref b), .val (.int (3 : Int32))] [(.int (3 : Int32))])) (fun tg kk => XS.iloadN X39.here hx rfl (hb hby d8_2) rfl kk) ?_
  refine own_go (S' := T39.setTop (mkF m 4 #[.val (.ref a), .val (.ref b), .val (.int (3 : Int32))] [(.ref a), (.int (3 : Int32))])) (fun tg kk => XS.aloadN X39.here hx rfl (hb hby d8_3) rfl rfl kk) ?_
  obtain ⟨T49, X49, e49, st49⟩ := getF X39 hx hZ hown (host := "") (Or.inl (hw _ (List.mem_of_getElem? (i := 41) rfl))) Via.refl e39 F40 (g := (mkF m 4 #[.val (.ref a), .val (.ref b), .val (.int (3 : Int32))] [(.ref a), (.int (3 : Int32))])) rfl rfl (hb hby d8_4)
  refine own_go (S' := T49.setTop (mkF m 7 #[.val (.ref a), .val (.ref b), .val (.int (3 : Int32))] [(.ref ca), (.int (3 : Int32))])) (st49) ?_
  obtain ⟨cl50, Ar50, q1_50, S50, q3_50, H50, G50⟩ := id V39
  refine own_go (S' := T49.setTop (mkF m 8 #[.val (.ref a), .val (.ref b), .val (.int (3 : Int32))] [(.int (8 : Int32)), (.int (3 : Int32))])) (fun tg kk => X49.arraylength hx (cell := cl50) (by rw [e49]; exact Ar50.1) (State.isArrayOf_alike hZ.alike Ar50.2.1) (g := (mkF m 7 #[.val (.ref a), .val (.ref b), .val (.int (3 : Int32))] [(.ref ca), (.int (3 : Int32))])) rfl rfl (hb hby d8_7) tg (by rw [len_of S50 q3_50]; exact kk)) ?_
  refine own_go (S' := T49.setTop (mkF m 11 #[.val (.ref a), .val (.ref b), .val (.int (3 : Int32))] [])) (fun tg kk => XS.icmpNo X49.here hx rfl (hb hby d8_8) rfl (XT.ii_ge_f (by decide)) kk) ?_
  refine own_go (S' := T49.setTop (mkF m 12 #[.val (.ref a), .val (.ref b), .val (.int (3 : Int32))] [(.ref a)])) (fun tg kk => XS.aloadN X49.here hx rfl (hb hby d8_11) rfl rfl kk) ?_
  obtain ⟨T51, X51, e51, st51⟩ := getF X49 hx hZ hown (host := "") (Or.inl (hw _ (List.mem_of_getElem? (i := 41) rfl))) Via.refl e49 F40 (g := (mkF m 12 #[.val (.ref a), .val (.ref b), .val (.int (3 : Int32))] [(.ref a)])) rfl rfl (hb hby d8_12)
  refine own_go (S' := T51.setTop (mkF m 15 #[.val (.ref a), .val (.ref b), .val (.int (3 : Int32))] [(.ref ca)])) (st51) ?_
  refine own_go (S' := T51.setTop (mkF m 16 #[.val (.ref a), .val (.ref b), .val (.int (3 : Int32))] [(.int (3 : Int32)), (.ref ca)])) (fun tg kk => XS.iloadN X51.here hx rfl (hb hby d8_15) rfl kk) ?_
  refine own_go (S' := T51.setTop (mkF m 17 #[.val (.ref a), .val (.ref b), .val (.int (3 : Int32))] [(.int (3 : Int32)), (.ref ca), (.int (3 : Int32)), (.ref ca)])) (fun tg kk => XT.dup2 X51.here hx rfl (hb hby d8_16) rfl rfl rfl kk) ?_
  obtain ⟨cl52, Ar52, q1_52, S52, q3_52, H52, G52⟩ := id V39
  have hj52 := inb_of (j := (3 : Int32)) S52 ⟨by decide, by decide⟩
  have hv52 : cl52.slots[((3 : Int32)).toNatClampNeg]? = some (.long (f 3)) := Has.at H52 hj52 (by rfl)
  refine own_go (S' := T51.setTop (mkF m 18 #[.val (.ref a), .val (.ref b), .val (.int (3 : Int32))] [(.long (f 3)), (.int (3 : Int32)), (.ref ca)])) (fun tg kk => X51.laload hx (by rw [e51]; exact Ar52.1) (State.isArrayOf_alike hZ.alike Ar52.2.1) Ar52.2.2 hj52 hv52 (g := (mkF m 17 #[.val (.ref a), .val (.ref b), .val (.int (3 : Int32))] [(.int (3 : Int32)), (.ref ca), (.int (3 : Int32)), (.ref ca)])) rfl rfl (hb hby d8_17) tg kk) ?_
  refine own_go (S' := T51.setTop (mkF m 19 #[.val (.ref a), .val (.ref b), .val (.int (3 : Int32))] [(.ref b), (.long (f 3)), (.int (3 : Int32)), (.ref ca)])) (fun tg kk => XS.aloadN X51.here hx rfl (hb hby d8_18) rfl rfl kk) ?_
  obtain ⟨T53, X53, e53, st53⟩ := getF X51 hx hZ hown (host := "") (Or.inl (hw _ (List.mem_of_getElem? (i := 41) rfl))) Via.refl e51 F42 (g := (mkF m 19 #[.val (.ref a), .val (.ref b), .val (.int (3 : Int32))] [(.ref b), (.long (f 3)), (.int (3 : Int32)), (.ref ca)])) rfl rfl (hb hby d8_19)
  refine own_go (S' := T53.setTop (mkF m 22 #[.val (.ref a), .val (.ref b), .val (.int (3 : Int32))] [(.ref cb), (.long (f 3)), (.int (3 : Int32)), (.ref ca)])) (st53) ?_
  refine own_go (S' := T53.setTop (mkF m 23 #[.val (.ref a), .val (.ref b), .val (.int (3 : Int32))] [(.int (3 : Int32)), (.ref cb), (.long (f 3)), (.int (3 : Int32)), (.ref ca)])) (fun tg kk => XS.iloadN X53.here hx rfl (hb hby d8_22) rfl kk) ?_
  obtain ⟨cl54, Ar54, q1_54, S54, q3_54, H54, G54⟩ := id A46
  have hj54 := inb_of (j := (3 : Int32)) S54 ⟨by decide, by decide⟩
  have hv54 : cl54.slots[((3 : Int32)).toNatClampNeg]? = some (.long (g 3)) := Has.at H54 hj54 (by rfl)
  refine own_go (S' := T53.setTop (mkF m 24 #[.val (.ref a), .val (.ref b), .val (.int (3 : Int32))] [(.long (g 3)), (.long (f 3)), (.int (3 : Int32)), (.ref ca)])) (fun tg kk => X53.laload hx (by rw [e53]; exact Ar54.1) (State.isArrayOf_alike hZ.alike Ar54.2.1) Ar54.2.2 hj54 hv54 (g := (mkF m 23 #[.val (.ref a), .val (.ref b), .val (.int (3 : Int32))] [(.int (3 : Int32)), (.ref cb), (.long (f 3)), (.int (3 : Int32)), (.ref ca)])) rfl rfl (hb hby d8_23) tg kk) ?_
  refine own_go (S' := T53.setTop (mkF m 25 #[.val (.ref a), .val (.ref b), .val (.int (3 : Int32))] [(.long ((f 3) + (g 3))), (.int (3 : Int32)), (.ref ca)])) (fun tg kk => XT.ladd X53.here hx rfl (hb hby d8_24) rfl kk) ?_
  obtain ⟨cl55, Ar55, q1_55, S55, q3_55, H55, G55⟩ := id V39
  have hj55 := inb_of (j := (3 : Int32)) S55 ⟨by decide, by decide⟩
  obtain ⟨T55, h55, X55, e55, W55, st55⟩ := stJ X53 hx hZ e53 Ar55 hj55 (g := (mkF m 25 #[.val (.ref a), .val (.ref b), .val (.int (3 : Int32))] [(.long ((f 3) + (g 3))), (.int (3 : Int32)), (.ref ca)])) rfl rfl (hb hby d8_25)
  refine own_go (S' := T55.setTop (mkF m 26 #[.val (.ref a), .val (.ref b), .val (.int (3 : Int32))] [])) (st55) ?_
  have N55 := Fr.snoc X55 N39 gc
  have F56 := F40.other W55 (Or.inl nac)
  have F57 := F41.other W55 (Or.inl nac)
  have F58 := F42.other W55 (Or.inl nbc)
  have F59 := F43.other W55 (Or.inl nbc)
  have E60 : Exa Z h55 a "spanwire/protocol/MessageCounts" := E44.wr W55
  have A62 := A46.other W55 ncc
  have Z63 : n0 ≤ h55.size := by rw [W55.size]; exact Z47
  have K64 : Keep h0 h55 [a, ca] := K48.wr W55 (Or.inl (List.mem_of_getElem? (i := 1) rfl))
  have V55 : Arv Z h55 ca k .long (8 : Int32) [(.long ((f 0) + (g 0))), (.long ((f 1) + (g 1))), (.long ((f 2) + (g 2))), (.long ((f 3) + (g 3))), (.long (f 4)), (.long (f 5)), (.long (f 6)), (.long (f 7))] (.long (0 : Int64)) := Arv.set Ar55 q1_55 S55 q3_55 H55 G55 rfl W55 3 (by decide) (by show 3 < 8; decide)
  refine own_go (S' := T55.setTop (mkF m 29 #[.val (.ref a), .val (.ref b), .val (.int (4 : Int32))] [])) (fun tg kk => XT.iincV X55.here hx rfl (1 : Int32) (hb hby d8_26) (by decide) rfl (l' := #[.val (.ref a), .val (.ref b), .val (.int (4 : Int32))]) rfl kk) ?_
  refine own_go (S' := T55.setTop (mkF m 2 #[.val (.ref a), .val (.ref b), .val (.int (4 : Int32))] [])) (fun tg kk => XS.goto X55.here hx rfl (pc0 := 29) (pc' := 2) rfl (hb hby d8_29) (by decide) (by decide) kk) ?_
  refine own_go (S' := T55.setTop (mkF m 3 #[.val (.ref a), .val (.ref b), .val (.int (4 : Int32))] [(.int (4 : Int32))])) (fun tg kk => XS.iloadN X55.here hx rfl (hb hby d8_2) rfl kk) ?_
  refine own_go (S' := T55.setTop (mkF m 4 #[.val (.ref a), .val (.ref b), .val (.int (4 : Int32))] [(.ref a), (.int (4 : Int32))])) (fun tg kk => XS.aloadN X55.here hx rfl (hb hby d8_3) rfl rfl kk) ?_
  obtain ⟨T65, X65, e65, st65⟩ := getF X55 hx hZ hown (host := "") (Or.inl (hw _ (List.mem_of_getElem? (i := 41) rfl))) Via.refl e55 F56 (g := (mkF m 4 #[.val (.ref a), .val (.ref b), .val (.int (4 : Int32))] [(.ref a), (.int (4 : Int32))])) rfl rfl (hb hby d8_4)
  refine own_go (S' := T65.setTop (mkF m 7 #[.val (.ref a), .val (.ref b), .val (.int (4 : Int32))] [(.ref ca), (.int (4 : Int32))])) (st65) ?_
  obtain ⟨cl66, Ar66, q1_66, S66, q3_66, H66, G66⟩ := id V55
  refine own_go (S' := T65.setTop (mkF m 8 #[.val (.ref a), .val (.ref b), .val (.int (4 : Int32))] [(.int (8 : Int32)), (.int (4 : Int32))])) (fun tg kk => X65.arraylength hx (cell := cl66) (by rw [e65]; exact Ar66.1) (State.isArrayOf_alike hZ.alike Ar66.2.1) (g := (mkF m 7 #[.val (.ref a), .val (.ref b), .val (.int (4 : Int32))] [(.ref ca), (.int (4 : Int32))])) rfl rfl (hb hby d8_7) tg (by rw [len_of S66 q3_66]; exact kk)) ?_
  refine own_go (S' := T65.setTop (mkF m 11 #[.val (.ref a), .val (.ref b), .val (.int (4 : Int32))] [])) (fun tg kk => XS.icmpNo X65.here hx rfl (hb hby d8_8) rfl (XT.ii_ge_f (by decide)) kk) ?_
  refine own_go (S' := T65.setTop (mkF m 12 #[.val (.ref a), .val (.ref b), .val (.int (4 : Int32))] [(.ref a)])) (fun tg kk => XS.aloadN X65.here hx rfl (hb hby d8_11) rfl rfl kk) ?_
  obtain ⟨T67, X67, e67, st67⟩ := getF X65 hx hZ hown (host := "") (Or.inl (hw _ (List.mem_of_getElem? (i := 41) rfl))) Via.refl e65 F56 (g := (mkF m 12 #[.val (.ref a), .val (.ref b), .val (.int (4 : Int32))] [(.ref a)])) rfl rfl (hb hby d8_12)
  refine own_go (S' := T67.setTop (mkF m 15 #[.val (.ref a), .val (.ref b), .val (.int (4 : Int32))] [(.ref ca)])) (st67) ?_
  refine own_go (S' := T67.setTop (mkF m 16 #[.val (.ref a), .val (.ref b), .val (.int (4 : Int32))] [(.int (4 : Int32)), (.ref ca)])) (fun tg kk => XS.iloadN X67.here hx rfl (hb hby d8_15) rfl kk) ?_
  refine own_go (S' := T67.setTop (mkF m 17 #[.val (.ref a), .val (.ref b), .val (.int (4 : Int32))] [(.int (4 : Int32)), (.ref ca), (.int (4 : Int32)), (.ref ca)])) (fun tg kk => XT.dup2 X67.here hx rfl (hb hby d8_16) rfl rfl rfl kk) ?_
  obtain ⟨cl68, Ar68, q1_68, S68, q3_68, H68, G68⟩ := id V55
  have hj68 := inb_of (j := (4 : Int32)) S68 ⟨by decide, by decide⟩
  have hv68 : cl68.slots[((4 : Int32)).toNatClampNeg]? = some (.long (f 4)) := Has.at H68 hj68 (by rfl)
  refine own_go (S' := T67.setTop (mkF m 18 #[.val (.ref a), .val (.ref b), .val (.int (4 : Int32))] [(.long (f 4)), (.int (4 : Int32)), (.ref ca)])) (fun tg kk => X67.laload hx (by rw [e67]; exact Ar68.1) (State.isArrayOf_alike hZ.alike Ar68.2.1) Ar68.2.2 hj68 hv68 (g := (mkF m 17 #[.val (.ref a), .val (.ref b), .val (.int (4 : Int32))] [(.int (4 : Int32)), (.ref ca), (.int (4 : Int32)), (.ref ca)])) rfl rfl (hb hby d8_17) tg kk) ?_
  refine own_go (S' := T67.setTop (mkF m 19 #[.val (.ref a), .val (.ref b), .val (.int (4 : Int32))] [(.ref b), (.long (f 4)), (.int (4 : Int32)), (.ref ca)])) (fun tg kk => XS.aloadN X67.here hx rfl (hb hby d8_18) rfl rfl kk) ?_
  obtain ⟨T69, X69, e69, st69⟩ := getF X67 hx hZ hown (host := "") (Or.inl (hw _ (List.mem_of_getElem? (i := 41) rfl))) Via.refl e67 F58 (g := (mkF m 19 #[.val (.ref a), .val (.ref b), .val (.int (4 : Int32))] [(.ref b), (.long (f 4)), (.int (4 : Int32)), (.ref ca)])) rfl rfl (hb hby d8_19)
  refine own_go (S' := T69.setTop (mkF m 22 #[.val (.ref a), .val (.ref b), .val (.int (4 : Int32))] [(.ref cb), (.long (f 4)), (.int (4 : Int32)), (.ref ca)])) (st69) ?_
  refine own_go (S' := T69.setTop (mkF m 23 #[.val (.ref a), .val (.ref b), .val (.int (4 : Int32))] [(.int (4 : Int32)), (.ref cb), (.long (f 4)), (.int (4 : Int32)), (.ref ca)])) (fun tg kk => XS.iloadN X69.here hx rfl (hb hby d8_22) rfl kk) ?_
  obtain ⟨cl70, Ar70, q1_70, S70, q3_70, H70, G70⟩ := id A62
  have hj70 := inb_of (j := (4 : Int32)) S70 ⟨by decide, by decide⟩
  have hv70 : cl70.slots[((4 : Int32)).toNatClampNeg]? = some (.long (g 4)) := Has.at H70 hj70 (by rfl)
  refine own_go (S' := T69.setTop (mkF m 24 #[.val (.ref a), .val (.ref b), .val (.int (4 : Int32))] [(.long (g 4)), (.long (f 4)), (.int (4 : Int32)), (.ref ca)])) (fun tg kk => X69.laload hx (by rw [e69]; exact Ar70.1) (State.isArrayOf_alike hZ.alike Ar70.2.1) Ar70.2.2 hj70 hv70 (g := (mkF m 23 #[.val (.ref a), .val (.ref b), .val (.int (4 : Int32))] [(.int (4 : Int32)), (.ref cb), (.long (f 4)), (.int (4 : Int32)), (.ref ca)])) rfl rfl (hb hby d8_23) tg kk) ?_
  refine own_go (S' := T69.setTop (mkF m 25 #[.val (.ref a), .val (.ref b), .val (.int (4 : Int32))] [(.long ((f 4) + (g 4))), (.int (4 : Int32)), (.ref ca)])) (fun tg kk => XT.ladd X69.here hx rfl (hb hby d8_24) rfl kk) ?_
  obtain ⟨cl71, Ar71, q1_71, S71, q3_71, H71, G71⟩ := id V55
  have hj71 := inb_of (j := (4 : Int32)) S71 ⟨by decide, by decide⟩
  obtain ⟨T71, h71, X71, e71, W71, st71⟩ := stJ X69 hx hZ e69 Ar71 hj71 (g := (mkF m 25 #[.val (.ref a), .val (.ref b), .val (.int (4 : Int32))] [(.long ((f 4) + (g 4))), (.int (4 : Int32)), (.ref ca)])) rfl rfl (hb hby d8_25)
  refine own_go (S' := T71.setTop (mkF m 26 #[.val (.ref a), .val (.ref b), .val (.int (4 : Int32))] [])) (st71) ?_
  have N71 := Fr.snoc X71 N55 gc
  have F72 := F56.other W71 (Or.inl nac)
  have F73 := F57.other W71 (Or.inl nac)
  have F74 := F58.other W71 (Or.inl nbc)
  have F75 := F59.other W71 (Or.inl nbc)
  have E76 : Exa Z h71 a "spanwire/protocol/MessageCounts" := E60.wr W71
  have A78 := A62.other W71 ncc
  have Z79 : n0 ≤ h71.size := by rw [W71.size]; exact Z63
  have K80 : Keep h0 h71 [a, ca] := K64.wr W71 (Or.inl (List.mem_of_getElem? (i := 1) rfl))
  have V71 : Arv Z h71 ca k .long (8 : Int32) [(.long ((f 0) + (g 0))), (.long ((f 1) + (g 1))), (.long ((f 2) + (g 2))), (.long ((f 3) + (g 3))), (.long ((f 4) + (g 4))), (.long (f 5)), (.long (f 6)), (.long (f 7))] (.long (0 : Int64)) := Arv.set Ar71 q1_71 S71 q3_71 H71 G71 rfl W71 4 (by decide) (by show 4 < 8; decide)
  refine own_go (S' := T71.setTop (mkF m 29 #[.val (.ref a), .val (.ref b), .val (.int (5 : Int32))] [])) (fun tg kk => XT.iincV X71.here hx rfl (1 : Int32) (hb hby d8_26) (by decide) rfl (l' := #[.val (.ref a), .val (.ref b), .val (.int (5 : Int32))]) rfl kk) ?_
  refine own_go (S' := T71.setTop (mkF m 2 #[.val (.ref a), .val (.ref b), .val (.int (5 : Int32))] [])) (fun tg kk => XS.goto X71.here hx rfl (pc0 := 29) (pc' := 2) rfl (hb hby d8_29) (by decide) (by decide) kk) ?_
  refine own_go (S' := T71.setTop (mkF m 3 #[.val (.ref a), .val (.ref b), .val (.int (5 : Int32))] [(.int (5 : Int32))])) (fun tg kk => XS.iloadN X71.here hx rfl (hb hby d8_2) rfl kk) ?_
  refine own_go (S' := T71.setTop (mkF m 4 #[.val (.ref a), .val (.ref b), .val (.int (5 : Int32))] [(.ref a), (.int (5 : Int32))])) (fun tg kk => XS.aloadN X71.here hx rfl (hb hby d8_3) rfl rfl kk) ?_
  obtain ⟨T81, X81, e81, st81⟩ := getF X71 hx hZ hown (host := "") (Or.inl (hw _ (List.mem_of_getElem? (i := 41) rfl))) Via.refl e71 F72 (g := (mkF m 4 #[.val (.ref a), .val (.ref b), .val (.int (5 : Int32))] [(.ref a), (.int (5 : Int32))])) rfl rfl (hb hby d8_4)
  refine own_go (S' := T81.setTop (mkF m 7 #[.val (.ref a), .val (.ref b), .val (.int (5 : Int32))] [(.ref ca), (.int (5 : Int32))])) (st81) ?_
  obtain ⟨cl82, Ar82, q1_82, S82, q3_82, H82, G82⟩ := id V71
  refine own_go (S' := T81.setTop (mkF m 8 #[.val (.ref a), .val (.ref b), .val (.int (5 : Int32))] [(.int (8 : Int32)), (.int (5 : Int32))])) (fun tg kk => X81.arraylength hx (cell := cl82) (by rw [e81]; exact Ar82.1) (State.isArrayOf_alike hZ.alike Ar82.2.1) (g := (mkF m 7 #[.val (.ref a), .val (.ref b), .val (.int (5 : Int32))] [(.ref ca), (.int (5 : Int32))])) rfl rfl (hb hby d8_7) tg (by rw [len_of S82 q3_82]; exact kk)) ?_
  refine own_go (S' := T81.setTop (mkF m 11 #[.val (.ref a), .val (.ref b), .val (.int (5 : Int32))] [])) (fun tg kk => XS.icmpNo X81.here hx rfl (hb hby d8_8) rfl (XT.ii_ge_f (by decide)) kk) ?_
  refine own_go (S' := T81.setTop (mkF m 12 #[.val (.ref a), .val (.ref b), .val (.int (5 : Int32))] [(.ref a)])) (fun tg kk => XS.aloadN X81.here hx rfl (hb hby d8_11) rfl rfl kk) ?_
  obtain ⟨T83, X83, e83, st83⟩ := getF X81 hx hZ hown (host := "") (Or.inl (hw _ (List.mem_of_getElem? (i := 41) rfl))) Via.refl e81 F72 (g := (mkF m 12 #[.val (.ref a), .val (.ref b), .val (.int (5 : Int32))] [(.ref a)])) rfl rfl (hb hby d8_12)
  refine own_go (S' := T83.setTop (mkF m 15 #[.val (.ref a), .val (.ref b), .val (.int (5 : Int32))] [(.ref ca)])) (st83) ?_
  refine own_go (S' := T83.setTop (mkF m 16 #[.val (.ref a), .val (.ref b), .val (.int (5 : Int32))] [(.int (5 : Int32)), (.ref ca)])) (fun tg kk => XS.iloadN X83.here hx rfl (hb hby d8_15) rfl kk) ?_
  refine own_go (S' := T83.setTop (mkF m 17 #[.val (.ref a), .val (.ref b), .val (.int (5 : Int32))] [(.int (5 : Int32)), (.ref ca), (.int (5 : Int32)), (.ref ca)])) (fun tg kk => XT.dup2 X83.here hx rfl (hb hby d8_16) rfl rfl rfl kk) ?_
  obtain ⟨cl84, Ar84, q1_84, S84, q3_84, H84, G84⟩ := id V71
  have hj84 := inb_of (j := (5 : Int32)) S84 ⟨by decide, by decide⟩
  have hv84 : cl84.slots[((5 : Int32)).toNatClampNeg]? = some (.long (f 5)) := Has.at H84 hj84 (by rfl)
  refine own_go (S' := T83.setTop (mkF m 18 #[.val (.ref a), .val (.ref b), .val (.int (5 : Int32))] [(.long (f 5)), (.int (5 : Int32)), (.ref ca)])) (fun tg kk => X83.laload hx (by rw [e83]; exact Ar84.1) (State.isArrayOf_alike hZ.alike Ar84.2.1) Ar84.2.2 hj84 hv84 (g := (mkF m 17 #[.val (.ref a), .val (.ref b), .val (.int (5 : Int32))] [(.int (5 : Int32)), (.ref ca), (.int (5 : Int32)), (.ref ca)])) rfl rfl (hb hby d8_17) tg kk) ?_
  refine own_go (S' := T83.setTop (mkF m 19 #[.val (.ref a), .val (.ref b), .val (.int (5 : Int32))] [(.ref b), (.long (f 5)), (.int (5 : Int32)), (.ref ca)])) (fun tg kk => XS.aloadN X83.here hx rfl (hb hby d8_18) rfl rfl kk) ?_
  obtain ⟨T85, X85, e85, st85⟩ := getF X83 hx hZ hown (host := "") (Or.inl (hw _ (List.mem_of_getElem? (i := 41) rfl))) Via.refl e83 F74 (g := (mkF m 19 #[.val (.ref a), .val (.ref b), .val (.int (5 : Int32))] [(.ref b), (.long (f 5)), (.int (5 : Int32)), (.ref ca)])) rfl rfl (hb hby d8_19)
  refine own_go (S' := T85.setTop (mkF m 22 #[.val (.ref a), .val (.ref b), .val (.int (5 : Int32))] [(.ref cb), (.long (f 5)), (.int (5 : Int32)), (.ref ca)])) (st85) ?_
  refine own_go (S' := T85.setTop (mkF m 23 #[.val (.ref a), .val (.ref b), .val (.int (5 : Int32))] [(.int (5 : Int32)), (.ref cb), (.long (f 5)), (.int (5 : Int32)), (.ref ca)])) (fun tg kk => XS.iloadN X85.here hx rfl (hb hby d8_22) rfl kk) ?_
  obtain ⟨cl86, Ar86, q1_86, S86, q3_86, H86, G86⟩ := id A78
  have hj86 := inb_of (j := (5 : Int32)) S86 ⟨by decide, by decide⟩
  have hv86 : cl86.slots[((5 : Int32)).toNatClampNeg]? = some (.long (g 5)) := Has.at H86 hj86 (by rfl)
  refine own_go (S' := T85.setTop (mkF m 24 #[.val (.ref a), .val (.ref b), .val (.int (5 : Int32))] [(.long (g 5)), (.long (f 5)), (.int (5 : Int32)), (.ref ca)])) (fun tg kk => X85.laload hx (by rw [e85]; exact Ar86.1) (State.isArrayOf_alike hZ.alike Ar86.2.1) Ar86.2.2 hj86 hv86 (g := (mkF m 23 #[.val (.ref a), .val (.ref b), .val (.int (5 : Int32))] [(.int (5 : Int32)), (.ref cb), (.long (f 5)), (.int (5 : Int32)), (.ref ca)])) rfl rfl (hb hby d8_23) tg kk) ?_
  refine own_go (S' := T85.setTop (mkF m 25 #[.val (.ref a), .val (.ref b), .val (.int (5 : Int32))] [(.long ((f 5) + (g 5))), (.int (5 : Int32)), (.ref ca)])) (fun tg kk => XT.ladd X85.here hx rfl (hb hby d8_24) rfl kk) ?_
  obtain ⟨cl87, Ar87, q1_87, S87, q3_87, H87, G87⟩ := id V71
  have hj87 := inb_of (j := (5 : Int32)) S87 ⟨by decide, by decide⟩
  obtain ⟨T87, h87, X87, e87, W87, st87⟩ := stJ X85 hx hZ e85 Ar87 hj87 (g := (mkF m 25 #[.val (.ref a), .val (.ref b), .val (.int (5 : Int32))] [(.long ((f 5) + (g 5))), (.int (5 : Int32)), (.ref ca)])) rfl rfl (hb hby d8_25)
  refine own_go (S' := T87.setTop (mkF m 26 #[.val (.ref a), .val (.ref b), .val (.int (5 : Int32))] [])) (st87) ?_
  have N87 := Fr.snoc X87 N71 gc
  have F88 := F72.other W87 (Or.inl nac)
  have F89 := F73.other W87 (Or.inl nac)
  have F90 := F74.other W87 (Or.inl nbc)
  have F91 := F75.other W87 (Or.inl nbc)
  have E92 : Exa Z h87 a "spanwire/protocol/MessageCounts" := E76.wr W87
  have A94 := A78.other W87 ncc
  have Z95 : n0 ≤ h87.size := by rw [W87.size]; exact Z79
  have K96 : Keep h0 h87 [a, ca] := K80.wr W87 (Or.inl (List.mem_of_getElem? (i := 1) rfl))
  have V87 : Arv Z h87 ca k .long (8 : Int32) [(.long ((f 0) + (g 0))), (.long ((f 1) + (g 1))), (.long ((f 2) + (g 2))), (.long ((f 3) + (g 3))), (.long ((f 4) + (g 4))), (.long ((f 5) + (g 5))), (.long (f 6)), (.long (f 7))] (.long (0 : Int64)) := Arv.set Ar87 q1_87 S87 q3_87 H87 G87 rfl W87 5 (by decide) (by show 5 < 8; decide)
  refine own_go (S' := T87.setTop (mkF m 29 #[.val (.ref a), .val (.ref b), .val (.int (6 : Int32))] [])) (fun tg kk => XT.iincV X87.here hx rfl (1 : Int32) (hb hby d8_26) (by decide) rfl (l' := #[.val (.ref a), .val (.ref b), .val (.int (6 : Int32))]) rfl kk) ?_
  refine own_go (S' := T87.setTop (mkF m 2 #[.val (.ref a), .val (.ref b), .val (.int (6 : Int32))] [])) (fun tg kk => XS.goto X87.here hx rfl (pc0 := 29) (pc' := 2) rfl (hb hby d8_29) (by decide) (by decide) kk) ?_
  refine own_go (S' := T87.setTop (mkF m 3 #[.val (.ref a), .val (.ref b), .val (.int (6 : Int32))] [(.int (6 : Int32))])) (fun tg kk => XS.iloadN X87.here hx rfl (hb hby d8_2) rfl kk) ?_
  refine own_go (S' := T87.setTop (mkF m 4 #[.val (.ref a), .val (.ref b), .val (.int (6 : Int32))] [(.ref a), (.int (6 : Int32))])) (fun tg kk => XS.aloadN X87.here hx rfl (hb hby d8_3) rfl rfl kk) ?_
  obtain ⟨T97, X97, e97, st97⟩ := getF X87 hx hZ hown (host := "") (Or.inl (hw _ (List.mem_of_getElem? (i := 41) rfl))) Via.refl e87 F88 (g := (mkF m 4 #[.val (.ref a), .val (.ref b), .val (.int (6 : Int32))] [(.ref a), (.int (6 : Int32))])) rfl rfl (hb hby d8_4)
  refine own_go (S' := T97.setTop (mkF m 7 #[.val (.ref a), .val (.ref b), .val (.int (6 : Int32))] [(.ref ca), (.int (6 : Int32))])) (st97) ?_
  obtain ⟨cl98, Ar98, q1_98, S98, q3_98, H98, G98⟩ := id V87
  refine own_go (S' := T97.setTop (mkF m 8 #[.val (.ref a), .val (.ref b), .val (.int (6 : Int32))] [(.int (8 : Int32)), (.int (6 : Int32))])) (fun tg kk => X97.arraylength hx (cell := cl98) (by rw [e97]; exact Ar98.1) (State.isArrayOf_alike hZ.alike Ar98.2.1) (g := (mkF m 7 #[.val (.ref a), .val (.ref b), .val (.int (6 : Int32))] [(.ref ca), (.int (6 : Int32))])) rfl rfl (hb hby d8_7) tg (by rw [len_of S98 q3_98]; exact kk)) ?_
  refine own_go (S' := T97.setTop (mkF m 11 #[.val (.ref a), .val (.ref b), .val (.int (6 : Int32))] [])) (fun tg kk => XS.icmpNo X97.here hx rfl (hb hby d8_8) rfl (XT.ii_ge_f (by decide)) kk) ?_
  refine own_go (S' := T97.setTop (mkF m 12 #[.val (.ref a), .val (.ref b), .val (.int (6 : Int32))] [(.ref a)])) (fun tg kk => XS.aloadN X97.here hx rfl (hb hby d8_11) rfl rfl kk) ?_
  obtain ⟨T99, X99, e99, st99⟩ := getF X97 hx hZ hown (host := "") (Or.inl (hw _ (List.mem_of_getElem? (i := 41) rfl))) Via.refl e97 F88 (g := (mkF m 12 #[.val (.ref a), .val (.ref b), .val (.int (6 : Int32))] [(.ref a)])) rfl rfl (hb hby d8_12)
  refine own_go (S' := T99.setTop (mkF m 15 #[.val (.ref a), .val (.ref b), .val (.int (6 : Int32))] [(.ref ca)])) (st99) ?_
  refine own_go (S' := T99.setTop (mkF m 16 #[.val (.ref a), .val (.ref b), .val (.int (6 : Int32))] [(.int (6 : Int32)), (.ref ca)])) (fun tg kk => XS.iloadN X99.here hx rfl (hb hby d8_15) rfl kk) ?_
  refine own_go (S' := T99.setTop (mkF m 17 #[.val (.ref a), .val (.ref b), .val (.int (6 : Int32))] [(.int (6 : Int32)), (.ref ca), (.int (6 : Int32)), (.ref ca)])) (fun tg kk => XT.dup2 X99.here hx rfl (hb hby d8_16) rfl rfl rfl kk) ?_
  obtain ⟨cl100, Ar100, q1_100, S100, q3_100, H100, G100⟩ := id V87
  have hj100 := inb_of (j := (6 : Int32)) S100 ⟨by decide, by decide⟩
  have hv100 : cl100.slots[((6 : Int32)).toNatClampNeg]? = some (.long (f 6)) := Has.at H100 hj100 (by rfl)
  refine own_go (S' := T99.setTop (mkF m 18 #[.val (.ref a), .val (.ref b), .val (.int (6 : Int32))] [(.long (f 6)), (.int (6 : Int32)), (.ref ca)])) (fun tg kk => X99.laload hx (by rw [e99]; exact Ar100.1) (State.isArrayOf_alike hZ.alike Ar100.2.1) Ar100.2.2 hj100 hv100 (g := (mkF m 17 #[.val (.ref a), .val (.ref b), .val (.int (6 : Int32))] [(.int (6 : Int32)), (.ref ca), (.int (6 : Int32)), (.ref ca)])) rfl rfl (hb hby d8_17) tg kk) ?_
  refine own_go (S' := T99.setTop (mkF m 19 #[.val (.ref a), .val (.ref b), .val (.int (6 : Int32))] [(.ref b), (.long (f 6)), (.int (6 : Int32)), (.ref ca)])) (fun tg kk => XS.aloadN X99.here hx rfl (hb hby d8_18) rfl rfl kk) ?_
  obtain ⟨T101, X101, e101, st101⟩ := getF X99 hx hZ hown (host := "") (Or.inl (hw _ (List.mem_of_getElem? (i := 41) rfl))) Via.refl e99 F90 (g := (mkF m 19 #[.val (.ref a), .val (.ref b), .val (.int (6 : Int32))] [(.ref b), (.long (f 6)), (.int (6 : Int32)), (.ref ca)])) rfl rfl (hb hby d8_19)
  refine own_go (S' := T101.setTop (mkF m 22 #[.val (.ref a), .val (.ref b), .val (.int (6 : Int32))] [(.ref cb), (.long (f 6)), (.int (6 : Int32)), (.ref ca)])) (st101) ?_
  refine own_go (S' := T101.setTop (mkF m 23 #[.val (.ref a), .val (.ref b), .val (.int (6 : Int32))] [(.int (6 : Int32)), (.ref cb), (.long (f 6)), (.int (6 : Int32)), (.ref ca)])) (fun tg kk => XS.iloadN X101.here hx rfl (hb hby d8_22) rfl kk) ?_
  obtain ⟨cl102, Ar102, q1_102, S102, q3_102, H102, G102⟩ := id A94
  have hj102 := inb_of (j := (6 : Int32)) S102 ⟨by decide, by decide⟩
  have hv102 : cl102.slots[((6 : Int32)).toNatClampNeg]? = some (.long (g 6)) := Has.at H102 hj102 (by rfl)
  refine own_go (S' := T101.setTop (mkF m 24 #[.val (.ref a), .val (.ref b), .val (.int (6 : Int32))] [(.long (g 6)), (.long (f 6)), (.int (6 : Int32)), (.ref ca)])) (fun tg kk => X101.laload hx (by rw [e101]; exact Ar102.1) (State.isArrayOf_alike hZ.alike Ar102.2.1) Ar102.2.2 hj102 hv102 (g := (mkF m 23 #[.val (.ref a), .val (.ref b), .val (.int (6 : Int32))] [(.int (6 : Int32)), (.ref cb), (.long (f 6)), (.int (6 : Int32)), (.ref ca)])) rfl rfl (hb hby d8_23) tg kk) ?_
  refine own_go (S' := T101.setTop (mkF m 25 #[.val (.ref a), .val (.ref b), .val (.int (6 : Int32))] [(.long ((f 6) + (g 6))), (.int (6 : Int32)), (.ref ca)])) (fun tg kk => XT.ladd X101.here hx rfl (hb hby d8_24) rfl kk) ?_
  obtain ⟨cl103, Ar103, q1_103, S103, q3_103, H103, G103⟩ := id V87
  have hj103 := inb_of (j := (6 : Int32)) S103 ⟨by decide, by decide⟩
  obtain ⟨T103, h103, X103, e103, W103, st103⟩ := stJ X101 hx hZ e101 Ar103 hj103 (g := (mkF m 25 #[.val (.ref a), .val (.ref b), .val (.int (6 : Int32))] [(.long ((f 6) + (g 6))), (.int (6 : Int32)), (.ref ca)])) rfl rfl (hb hby d8_25)
  refine own_go (S' := T103.setTop (mkF m 26 #[.val (.ref a), .val (.ref b), .val (.int (6 : Int32))] [])) (st103) ?_
  have N103 := Fr.snoc X103 N87 gc
  have F104 := F88.other W103 (Or.inl nac)
  have F105 := F89.other W103 (Or.inl nac)
  have F106 := F90.other W103 (Or.inl nbc)
  have F107 := F91.other W103 (Or.inl nbc)
  have E108 : Exa Z h103 a "spanwire/protocol/MessageCounts" := E92.wr W103
  have A110 := A94.other W103 ncc
  have Z111 : n0 ≤ h103.size := by rw [W103.size]; exact Z95
  have K112 : Keep h0 h103 [a, ca] := K96.wr W103 (Or.inl (List.mem_of_getElem? (i := 1) rfl))
  have V103 : Arv Z h103 ca k .long (8 : Int32) [(.long ((f 0) + (g 0))), (.long ((f 1) + (g 1))), (.long ((f 2) + (g 2))), (.long ((f 3) + (g 3))), (.long ((f 4) + (g 4))), (.long ((f 5) + (g 5))), (.long ((f 6) + (g 6))), (.long (f 7))] (.long (0 : Int64)) := Arv.set Ar103 q1_103 S103 q3_103 H103 G103 rfl W103 6 (by decide) (by show 6 < 8; decide)
  refine own_go (S' := T103.setTop (mkF m 29 #[.val (.ref a), .val (.ref b), .val (.int (7 : Int32))] [])) (fun tg kk => XT.iincV X103.here hx rfl (1 : Int32) (hb hby d8_26) (by decide) rfl (l' := #[.val (.ref a), .val (.ref b), .val (.int (7 : Int32))]) rfl kk) ?_
  refine own_go (S' := T103.setTop (mkF m 2 #[.val (.ref a), .val (.ref b), .val (.int (7 : Int32))] [])) (fun tg kk => XS.goto X103.here hx rfl (pc0 := 29) (pc' := 2) rfl (hb hby d8_29) (by decide) (by decide) kk) ?_
  refine own_go (S' := T103.setTop (mkF m 3 #[.val (.ref a), .val (.ref b), .val (.int (7 : Int32))] [(.int (7 : Int32))])) (fun tg kk => XS.iloadN X103.here hx rfl (hb hby d8_2) rfl kk) ?_
  refine own_go (S' := T103.setTop (mkF m 4 #[.val (.ref a), .val (.ref b), .val (.int (7 : Int32))] [(.ref a), (.int (7 : Int32))])) (fun tg kk => XS.aloadN X103.here hx rfl (hb hby d8_3) rfl rfl kk) ?_
  obtain ⟨T113, X113, e113, st113⟩ := getF X103 hx hZ hown (host := "") (Or.inl (hw _ (List.mem_of_getElem? (i := 41) rfl))) Via.refl e103 F104 (g := (mkF m 4 #[.val (.ref a), .val (.ref b), .val (.int (7 : Int32))] [(.ref a), (.int (7 : Int32))])) rfl rfl (hb hby d8_4)
  refine own_go (S' := T113.setTop (mkF m 7 #[.val (.ref a), .val (.ref b), .val (.int (7 : Int32))] [(.ref ca), (.int (7 : Int32))])) (st113) ?_
  obtain ⟨cl114, Ar114, q1_114, S114, q3_114, H114, G114⟩ := id V103
  refine own_go (S' := T113.setTop (mkF m 8 #[.val (.ref a), .val (.ref b), .val (.int (7 : Int32))] [(.int (8 : Int32)), (.int (7 : Int32))])) (fun tg kk => X113.arraylength hx (cell := cl114) (by rw [e113]; exact Ar114.1) (State.isArrayOf_alike hZ.alike Ar114.2.1) (g := (mkF m 7 #[.val (.ref a), .val (.ref b), .val (.int (7 : Int32))] [(.ref ca), (.int (7 : Int32))])) rfl rfl (hb hby d8_7) tg (by rw [len_of S114 q3_114]; exact kk)) ?_
  refine own_go (S' := T113.setTop (mkF m 11 #[.val (.ref a), .val (.ref b), .val (.int (7 : Int32))] [])) (fun tg kk => XS.icmpNo X113.here hx rfl (hb hby d8_8) rfl (XT.ii_ge_f (by decide)) kk) ?_
  refine own_go (S' := T113.setTop (mkF m 12 #[.val (.ref a), .val (.ref b), .val (.int (7 : Int32))] [(.ref a)])) (fun tg kk => XS.aloadN X113.here hx rfl (hb hby d8_11) rfl rfl kk) ?_
  obtain ⟨T115, X115, e115, st115⟩ := getF X113 hx hZ hown (host := "") (Or.inl (hw _ (List.mem_of_getElem? (i := 41) rfl))) Via.refl e113 F104 (g := (mkF m 12 #[.val (.ref a), .val (.ref b), .val (.int (7 : Int32))] [(.ref a)])) rfl rfl (hb hby d8_12)
  refine own_go (S' := T115.setTop (mkF m 15 #[.val (.ref a), .val (.ref b), .val (.int (7 : Int32))] [(.ref ca)])) (st115) ?_
  refine own_go (S' := T115.setTop (mkF m 16 #[.val (.ref a), .val (.ref b), .val (.int (7 : Int32))] [(.int (7 : Int32)), (.ref ca)])) (fun tg kk => XS.iloadN X115.here hx rfl (hb hby d8_15) rfl kk) ?_
  refine own_go (S' := T115.setTop (mkF m 17 #[.val (.ref a), .val (.ref b), .val (.int (7 : Int32))] [(.int (7 : Int32)), (.ref ca), (.int (7 : Int32)), (.ref ca)])) (fun tg kk => XT.dup2 X115.here hx rfl (hb hby d8_16) rfl rfl rfl kk) ?_
  obtain ⟨cl116, Ar116, q1_116, S116, q3_116, H116, G116⟩ := id V103
  have hj116 := inb_of (j := (7 : Int32)) S116 ⟨by decide, by decide⟩
  have hv116 : cl116.slots[((7 : Int32)).toNatClampNeg]? = some (.long (f 7)) := Has.at H116 hj116 (by rfl)
  refine own_go (S' := T115.setTop (mkF m 18 #[.val (.ref a), .val (.ref b), .val (.int (7 : Int32))] [(.long (f 7)), (.int (7 : Int32)), (.ref ca)])) (fun tg kk => X115.laload hx (by rw [e115]; exact Ar116.1) (State.isArrayOf_alike hZ.alike Ar116.2.1) Ar116.2.2 hj116 hv116 (g := (mkF m 17 #[.val (.ref a), .val (.ref b), .val (.int (7 : Int32))] [(.int (7 : Int32)), (.ref ca), (.int (7 : Int32)), (.ref ca)])) rfl rfl (hb hby d8_17) tg kk) ?_
  refine own_go (S' := T115.setTop (mkF m 19 #[.val (.ref a), .val (.ref b), .val (.int (7 : Int32))] [(.ref b), (.long (f 7)), (.int (7 : Int32)), (.ref ca)])) (fun tg kk => XS.aloadN X115.here hx rfl (hb hby d8_18) rfl rfl kk) ?_
  obtain ⟨T117, X117, e117, st117⟩ := getF X115 hx hZ hown (host := "") (Or.inl (hw _ (List.mem_of_getElem? (i := 41) rfl))) Via.refl e115 F106 (g := (mkF m 19 #[.val (.ref a), .val (.ref b), .val (.int (7 : Int32))] [(.ref b), (.long (f 7)), (.int (7 : Int32)), (.ref ca)])) rfl rfl (hb hby d8_19)
  refine own_go (S' := T117.setTop (mkF m 22 #[.val (.ref a), .val (.ref b), .val (.int (7 : Int32))] [(.ref cb), (.long (f 7)), (.int (7 : Int32)), (.ref ca)])) (st117) ?_
  refine own_go (S' := T117.setTop (mkF m 23 #[.val (.ref a), .val (.ref b), .val (.int (7 : Int32))] [(.int (7 : Int32)), (.ref cb), (.long (f 7)), (.int (7 : Int32)), (.ref ca)])) (fun tg kk => XS.iloadN X117.here hx rfl (hb hby d8_22) rfl kk) ?_
  obtain ⟨cl118, Ar118, q1_118, S118, q3_118, H118, G118⟩ := id A110
  have hj118 := inb_of (j := (7 : Int32)) S118 ⟨by decide, by decide⟩
  have hv118 : cl118.slots[((7 : Int32)).toNatClampNeg]? = some (.long (g 7)) := Has.at H118 hj118 (by rfl)
  refine own_go (S' := T117.setTop (mkF m 24 #[.val (.ref a), .val (.ref b), .val (.int (7 : Int32))] [(.long (g 7)), (.long (f 7)), (.int (7 : Int32)), (.ref ca)])) (fun tg kk => X117.laload hx (by rw [e117]; exact Ar118.1) (State.isArrayOf_alike hZ.alike Ar118.2.1) Ar118.2.2 hj118 hv118 (g := (mkF m 23 #[.val (.ref a), .val (.ref b), .val (.int (7 : Int32))] [(.int (7 : Int32)), (.ref cb), (.long (f 7)), (.int (7 : Int32)), (.ref ca)])) rfl rfl (hb hby d8_23) tg kk) ?_
  refine own_go (S' := T117.setTop (mkF m 25 #[.val (.ref a), .val (.ref b), .val (.int (7 : Int32))] [(.long ((f 7) + (g 7))), (.int (7 : Int32)), (.ref ca)])) (fun tg kk => XT.ladd X117.here hx rfl (hb hby d8_24) rfl kk) ?_
  obtain ⟨cl119, Ar119, q1_119, S119, q3_119, H119, G119⟩ := id V103
  have hj119 := inb_of (j := (7 : Int32)) S119 ⟨by decide, by decide⟩
  obtain ⟨T119, h119, X119, e119, W119, st119⟩ := stJ X117 hx hZ e117 Ar119 hj119 (g := (mkF m 25 #[.val (.ref a), .val (.ref b), .val (.int (7 : Int32))] [(.long ((f 7) + (g 7))), (.int (7 : Int32)), (.ref ca)])) rfl rfl (hb hby d8_25)
  refine own_go (S' := T119.setTop (mkF m 26 #[.val (.ref a), .val (.ref b), .val (.int (7 : Int32))] [])) (st119) ?_
  have N119 := Fr.snoc X119 N103 gc
  have F120 := F104.other W119 (Or.inl nac)
  have F121 := F105.other W119 (Or.inl nac)
  have F122 := F106.other W119 (Or.inl nbc)
  have F123 := F107.other W119 (Or.inl nbc)
  have E124 : Exa Z h119 a "spanwire/protocol/MessageCounts" := E108.wr W119
  have A126 := A110.other W119 ncc
  have Z127 : n0 ≤ h119.size := by rw [W119.size]; exact Z111
  have K128 : Keep h0 h119 [a, ca] := K112.wr W119 (Or.inl (List.mem_of_getElem? (i := 1) rfl))
  have V119 : Arv Z h119 ca k .long (8 : Int32) [(.long ((f 0) + (g 0))), (.long ((f 1) + (g 1))), (.long ((f 2) + (g 2))), (.long ((f 3) + (g 3))), (.long ((f 4) + (g 4))), (.long ((f 5) + (g 5))), (.long ((f 6) + (g 6))), (.long ((f 7) + (g 7)))] (.long (0 : Int64)) := Arv.set Ar119 q1_119 S119 q3_119 H119 G119 rfl W119 7 (by decide) (by show 7 < 8; decide)
  refine own_go (S' := T119.setTop (mkF m 29 #[.val (.ref a), .val (.ref b), .val (.int (8 : Int32))] [])) (fun tg kk => XT.iincV X119.here hx rfl (1 : Int32) (hb hby d8_26) (by decide) rfl (l' := #[.val (.ref a), .val (.ref b), .val (.int (8 : Int32))]) rfl kk) ?_
  refine own_go (S' := T119.setTop (mkF m 2 #[.val (.ref a), .val (.ref b), .val (.int (8 : Int32))] [])) (fun tg kk => XS.goto X119.here hx rfl (pc0 := 29) (pc' := 2) rfl (hb hby d8_29) (by decide) (by decide) kk) ?_
  refine own_go (S' := T119.setTop (mkF m 3 #[.val (.ref a), .val (.ref b), .val (.int (8 : Int32))] [(.int (8 : Int32))])) (fun tg kk => XS.iloadN X119.here hx rfl (hb hby d8_2) rfl kk) ?_
  refine own_go (S' := T119.setTop (mkF m 4 #[.val (.ref a), .val (.ref b), .val (.int (8 : Int32))] [(.ref a), (.int (8 : Int32))])) (fun tg kk => XS.aloadN X119.here hx rfl (hb hby d8_3) rfl rfl kk) ?_
  obtain ⟨T129, X129, e129, st129⟩ := getF X119 hx hZ hown (host := "") (Or.inl (hw _ (List.mem_of_getElem? (i := 41) rfl))) Via.refl e119 F120 (g := (mkF m 4 #[.val (.ref a), .val (.ref b), .val (.int (8 : Int32))] [(.ref a), (.int (8 : Int32))])) rfl rfl (hb hby d8_4)
  refine own_go (S' := T129.setTop (mkF m 7 #[.val (.ref a), .val (.ref b), .val (.int (8 : Int32))] [(.ref ca), (.int (8 : Int32))])) (st129) ?_
  obtain ⟨cl130, Ar130, q1_130, S130, q3_130, H130, G130⟩ := id V119
  refine own_go (S' := T129.setTop (mkF m 8 #[.val (.ref a), .val (.ref b), .val (.int (8 : Int32))] [(.int (8 : Int32)), (.int (8 : Int32))])) (fun tg kk => X129.arraylength hx (cell := cl130) (by rw [e129]; exact Ar130.1) (State.isArrayOf_alike hZ.alike Ar130.2.1) (g := (mkF m 7 #[.val (.ref a), .val (.ref b), .val (.int (8 : Int32))] [(.ref ca), (.int (8 : Int32))])) rfl rfl (hb hby d8_7) tg (by rw [len_of S130 q3_130]; exact kk)) ?_
  refine own_go (S' := T129.setTop (mkF m 32 #[.val (.ref a), .val (.ref b), .val (.int (8 : Int32))] [])) (fun tg kk => XS.icmpYes X129.here hx rfl (pc0 := 8) (pc' := 32) rfl (hb hby d8_8) rfl (XT.ii_ge_t (by decide)) (by decide) (by decide) kk) ?_
  refine own_go (S' := T129.setTop (mkF m 33 #[.val (.ref a), .val (.ref b), .val (.int (8 : Int32))] [(.ref a)])) (fun tg kk => XS.aloadN X129.here hx rfl (hb hby d8_32) rfl rfl kk) ?_
  refine own_go (S' := T129.setTop (mkF m 34 #[.val (.ref a), .val (.ref b), .val (.int (8 : Int32))] [(.ref a), (.ref a)])) (fun tg kk => XS.dup X129.here hx rfl (hb hby d8_33) rfl rfl kk) ?_
  obtain ⟨T131, X131, e131, st131⟩ := getF X129 hx hZ hown (host := "") (Or.inl (hw _ (List.mem_of_getElem? (i := 63) rfl))) Via.refl e129 F121 (g := (mkF m 34 #[.val (.ref a), .val (.ref b), .val (.int (8 : Int32))] [(.ref a), (.ref a)])) rfl rfl (hb hby d8_34)
  refine own_go (S' := T131.setTop (mkF m 37 #[.val (.ref a), .val (.ref b), .val (.int (8 : Int32))] [(.long t), (.ref a)])) (st131) ?_
  refine own_go (S' := T131.setTop (mkF m 38 #[.val (.ref a), .val (.ref b), .val (.int (8 : Int32))] [(.ref b), (.long t), (.ref a)])) (fun tg kk => XS.aloadN X131.here hx rfl (hb hby d8_37) rfl rfl kk) ?_
  obtain ⟨T132, X132, e132, st132⟩ := getF X131 hx hZ hown (host := "") (Or.inl (hw _ (List.mem_of_getElem? (i := 63) rfl))) Via.refl e131 F123 (g := (mkF m 38 #[.val (.ref a), .val (.ref b), .val (.int (8 : Int32))] [(.ref b), (.long t), (.ref a)])) rfl rfl (hb hby d8_38)
  refine own_go (S' := T132.setTop (mkF m 41 #[.val (.ref a), .val (.ref b), .val (.int (8 : Int32))] [(.long u), (.long t), (.ref a)])) (st132) ?_
  refine own_go (S' := T132.setTop (mkF m 42 #[.val (.ref a), .val (.ref b), .val (.int (8 : Int32))] [(.long (t + u)), (.ref a)])) (fun tg kk => XT.ladd X132.here hx rfl (hb hby d8_41) rfl kk) ?_
  obtain ⟨T133, h133, X133, e133, W133, st133⟩ := putF X132 hx hZ hown (host := "") (Or.inl (hw _ (List.mem_of_getElem? (i := 63) rfl))) Via.refl e132 F121 E124 (Or.inl (hw _ (List.mem_of_getElem? (i := 64) rfl))) (hw _ (List.mem_of_getElem? (i := 12) rfl)) (ty := .long) (by decide) rfl rfl (g := (mkF m 42 #[.val (.ref a), .val (.ref b), .val (.int (8 : Int32))] [(.long (t + u)), (.ref a)])) rfl rfl (hb hby d8_42)
  refine own_go (S' := T133.setTop (mkF m 45 #[.val (.ref a), .val (.ref b), .val (.int (8 : Int32))] [])) (st133) ?_
  have N133 := Fr.snoc X133 N119 ga
  have F134 := F120.other W133 (Or.inr (slot_ne (Or.inr (hw _ (List.mem_of_getElem? (i := 42) rfl))) (Or.inl (hw _ (List.mem_of_getElem? (i := 64) rfl))) (by decide) (t := .array .long) (t' := .long) (by decide) (by decide)))
  have F135 := F121.same W133
  have F136 := F122.other W133 (Or.inl nab)
  have F137 := F123.other W133 (Or.inl nab)
  have E138 : Exa Z h133 a "spanwire/protocol/MessageCounts" := E124.wr W133
  have A139 := V119.other W133 (Ne.symm nac)
  have Z140 : n0 ≤ h133.size := by rw [W133.size]; exact Z127
  have K141 : Keep h0 h133 [a, ca] := K128.wr W133 (Or.inl (List.mem_of_getElem? (i := 0) rfl))
  obtain ⟨fs, hr, hrun, hended, hW, hsame⟩ := X133.leave (v := none) (fun _ => rfl)
  refine ⟨_, _, X133.returnOut hx Bd.returns (hb hby d8_45) hr, hrun, hended, _, _, rfl, ?_, ⟨_, rfl⟩, hW, hsame.mono (by decide) (by decide)⟩
  show Q8 Z a ca k f t b cb kb g u h0 n0 none T133.heap _
  rw [e133]
  exact ⟨rfl, N133, K141, F134, F135, A139⟩
theorem own_nn {i : Int32} (h : i = (0 : Int32) ∨ i = (1 : Int32) ∨ i = (2 : Int32) ∨ i = (3 : Int32) ∨ i = (4 : Int32) ∨ i = (5 : Int32) ∨ i = (6 : Int32) ∨ i = (7 : Int32)) : ¬ i < 0 := by
  rcases h with rfl | rfl | rfl | rfl | rfl | rfl | rfl | rfl <;> decide
theorem own_inj {i j : Int32} (hi : ¬ i < 0) (hj : ¬ j < 0) : i.toNatClampNeg = j.toNatClampNeg ↔ i = j := by
  refine ⟨fun q => ?_, fun q => by rw [q]⟩
  rw [← Int32.toInt_inj, nat_of hi, nat_of hj, q]
theorem own_lawAQ {ia ib iq : Int32} (xa xb xq : Int64) (ha : ¬ ia < 0) (hb : ¬ ib < 0) (hq : ¬ iq < 0) : own_sum (own_upd (own_upd own_zero ia xa) iq xq) (own_upd own_zero ib xb) iq.toNatClampNeg = ((if iq = ia then xa else 0) + xq) + (if iq = ib then xb else 0) := by
  simp [own_sum, own_upd, own_zero, own_inj hq ha, own_inj hq hb]
theorem own_lawBQ {ib iq : Int32} (xb : Int64) (hb : ¬ ib < 0) (hq : ¬ iq < 0) : own_upd own_zero ib xb iq.toNatClampNeg = (if iq = ib then xb else 0) := by
  simp [own_upd, own_zero, own_inj hq hb]
theorem own_totE {k s : Addr} {i : Int32} (d : (Value.ref k) = (Value.ref s) ↔ i = (7 : Int32)) (t c : Int64) : own_tot k s t c = t + (if i = (7 : Int32) then 0 else c) := by
  unfold own_tot
  by_cases q : i = (7 : Int32)
  · rw [if_pos (d.mpr q), if_pos q, Int64.add_zero]
  · rw [if_neg (fun z => q (d.mp z)), if_neg q]
theorem own_kindF {Z : State} {i : Int32} {k s0 s1 s2 s3 s4 s5 s6 s7 : Addr} (hi : i = (0 : Int32) ∨ i = (1 : Int32) ∨ i = (2 : Int32) ∨ i = (3 : Int32) ∨ i = (4 : Int32) ∨ i = (5 : Int32) ∨ i = (6 : Int32) ∨ i = (7 : Int32)) (hk : own_kind i s0 s1 s2 s3 s4 s5 s6 s7 = k) (E0 : Exa Z Z.heap s0 "spanwire/protocol/MessageKind") (E1 : Exa Z Z.heap s1 "spanwire/protocol/MessageKind") (E2 : Exa Z Z.heap s2 "spanwire/protocol/MessageKind") (E3 : Exa Z Z.heap s3 "spanwire/protocol/MessageKind") (E4 : Exa Z Z.heap s4 "spanwire/protocol/MessageKind") (E5 : Exa Z Z.heap s5 "spanwire/protocol/MessageKind") (E6 : Exa Z Z.heap s6 "spanwire/protocol/MessageKind") (E7 : Exa Z Z.heap s7 "spanwire/protocol/MessageKind") (F0 : Fld Z Z.heap s0 "java/lang/Enum" "ordinal" "I" (.int (0 : Int32))) (F1 : Fld Z Z.heap s1 "java/lang/Enum" "ordinal" "I" (.int (1 : Int32))) (F2 : Fld Z Z.heap s2 "java/lang/Enum" "ordinal" "I" (.int (2 : Int32))) (F3 : Fld Z Z.heap s3 "java/lang/Enum" "ordinal" "I" (.int (3 : Int32))) (F4 : Fld Z Z.heap s4 "java/lang/Enum" "ordinal" "I" (.int (4 : Int32))) (F5 : Fld Z Z.heap s5 "java/lang/Enum" "ordinal" "I" (.int (5 : Int32))) (F6 : Fld Z Z.heap s6 "java/lang/Enum" "ordinal" "I" (.int (6 : Int32))) (F7 : Fld Z Z.heap s7 "java/lang/Enum" "ordinal" "I" (.int (7 : Int32))) (nq0 : s0 ≠ s7) (nq1 : s1 ≠ s7) (nq2 : s2 ≠ s7) (nq3 : s3 ≠ s7) (nq4 : s4 ≠ s7) (nq5 : s5 ≠ s7) (nq6 : s6 ≠ s7) :
    Exa Z Z.heap k "spanwire/protocol/MessageKind" ∧ Fld Z Z.heap k "java/lang/Enum" "ordinal" "I" (.int i) ∧ ((Value.ref k) = (Value.ref s7) ↔ i = (7 : Int32)) := by
  rcases hi with rfl | rfl | rfl | rfl | rfl | rfl | rfl | rfl
  · rw [own_kind, if_pos rfl] at hk
    subst hk
    exact ⟨E0, F0, ⟨fun q => absurd (Value.ref.inj q) nq0, fun q => absurd q (by decide)⟩⟩
  · rw [own_kind, if_neg (by decide), if_pos rfl] at hk
    subst hk
    exact ⟨E1, F1, ⟨fun q => absurd (Value.ref.inj q) nq1, fun q => absurd q (by decide)⟩⟩
  · rw [own_kind, if_neg (by decide), if_neg (by decide), if_pos rfl] at hk
    subst hk
    exact ⟨E2, F2, ⟨fun q => absurd (Value.ref.inj q) nq2, fun q => absurd q (by decide)⟩⟩
  · rw [own_kind, if_neg (by decide), if_neg (by decide), if_neg (by decide), if_pos rfl] at hk
    subst hk
    exact ⟨E3, F3, ⟨fun q => absurd (Value.ref.inj q) nq3, fun q => absurd q (by decide)⟩⟩
  · rw [own_kind, if_neg (by decide), if_neg (by decide), if_neg (by decide), if_neg (by decide), if_pos rfl] at hk
    subst hk
    exact ⟨E4, F4, ⟨fun q => absurd (Value.ref.inj q) nq4, fun q => absurd q (by decide)⟩⟩
  · rw [own_kind, if_neg (by decide), if_neg (by decide), if_neg (by decide), if_neg (by decide), if_neg (by decide), if_pos rfl] at hk
    subst hk
    exact ⟨E5, F5, ⟨fun q => absurd (Value.ref.inj q) nq5, fun q => absurd q (by decide)⟩⟩
  · rw [own_kind, if_neg (by decide), if_neg (by decide), if_neg (by decide), if_neg (by decide), if_neg (by decide), if_neg (by decide), if_pos rfl] at hk
    subst hk
    exact ⟨E6, F6, ⟨fun q => absurd (Value.ref.inj q) nq6, fun q => absurd q (by decide)⟩⟩
  · rw [own_kind, if_neg (by decide), if_neg (by decide), if_neg (by decide), if_neg (by decide), if_neg (by decide), if_neg (by decide), if_neg (by decide)] at hk
    subst hk
    exact ⟨E7, F7, ⟨fun _ => rfl, fun _ => rfl⟩⟩
theorem pd__I_Lspanwire_protocol_MessageKind_ : parseMethodDescriptor "(I)Lspanwire/protocol/MessageKind;" = some ⟨[.int], some (.object "spanwire/protocol/MessageKind")⟩ := by decide +kernel
theorem pd___V : parseMethodDescriptor "()V" = some ⟨[], none⟩ := by decide +kernel
theorem pd__Lspanwire_protocol_MessageKind_J_V : parseMethodDescriptor "(Lspanwire/protocol/MessageKind;J)V" = some ⟨[.object "spanwire/protocol/MessageKind", .long], none⟩ := by decide +kernel
theorem pd__Lspanwire_protocol_MessageCounts__V : parseMethodDescriptor "(Lspanwire/protocol/MessageCounts;)V" = some ⟨[.object "spanwire/protocol/MessageCounts"], none⟩ := by decide +kernel
theorem pd__Lspanwire_protocol_MessageKind__J : parseMethodDescriptor "(Lspanwire/protocol/MessageKind;)J" = some ⟨[.object "spanwire/protocol/MessageKind"], some .long⟩ := by decide +kernel
theorem pd___J : parseMethodDescriptor "()J" = some ⟨[], some .long⟩ := by decide +kernel
theorem ef0 (m : MethodId) (x0 : Int32) (x1 : Int64) (x2 : Int32) (x3 : Int64) (x4 : Int32) (x5 : Int64) : entryFrame m #[(.int x0), (.long x1), (.int x2), (.long x3), (.int x4), (.long x5)] maxLocals = mkF m 0 #[.val (.int x0), .val (.long x1), .second, .val (.int x2), .val (.long x3), .second, .val (.int x4), .val (.long x5), .second, .unset, .unset, .unset, .unset, .unset, .unset, .unset, .unset, .unset, .unset, .unset, .unset, .unset, .unset, .unset, .unset] [] := by first | (simp [entryFrame, mkF, argsToLocals, Value.category, maxLocals]; done) | rfl
def Q0 (Z : State) (ka : Int32) (xa : Int64) (kb : Int32) (xb : Int64) (kq : Int32) (xq : Int64) (s0 : Addr) (s1 : Addr) (s2 : Addr) (s3 : Addr) (s4 : Addr) (s5 : Addr) (s6 : Addr) (s7 : Addr) (va : Addr) (clv : Cell) (h0 : Heap) (n0 : Nat) (v : Option Value) (h : Heap) (L : List Loc) : Prop := v = some (.int 1) ∧ Fr n0 L
set_option maxRecDepth 65536 in
set_option maxHeartbeats 40000000 in
theorem rm0 (l : Launch) (Z : State) (a0 : Array Value) (hw : ∀ d ∈ tables_1, d.before a0 Z = true) (ws : List Jvm.Cond) (ka : Int32) (xa : Int64) (kb : Int32) (xb : Int64) (kq : Int32) (xq : Int64) (s0 : Addr) (s1 : Addr) (s2 : Addr) (s3 : Addr) (s4 : Addr) (s5 : Addr) (s6 : Addr) (s7 : Addr) (va : Addr) (clv : Cell) (h0 : Heap) (n0 : Nat) (Z0 : n0 ≤ h0.size) (O0 : Old Z n0 h0) (S_CONNECT : Sta Z Z.heap "spanwire/protocol/MessageKind" "CONNECT" "Lspanwire/protocol/MessageKind;" (.ref s0)) (S_INITIATE : Sta Z Z.heap "spanwire/protocol/MessageKind" "INITIATE" "Lspanwire/protocol/MessageKind;" (.ref s1)) (S_TEST : Sta Z Z.heap "spanwire/protocol/MessageKind" "TEST" "Lspanwire/protocol/MessageKind;" (.ref s2)) (S_ACCEPT : Sta Z Z.heap "spanwire/protocol/MessageKind" "ACCEPT" "Lspanwire/protocol/MessageKind;" (.ref s3)) (S_REJECT : Sta Z Z.heap "spanwire/protocol/MessageKind" "REJECT" "Lspanwire/protocol/MessageKind;" (.ref s4)) (S_REPORT : Sta Z Z.heap "spanwire/protocol/MessageKind" "REPORT" "Lspanwire/protocol/MessageKind;" (.ref s5)) (S_CHANGE_ROOT : Sta Z Z.heap "spanwire/protocol/MessageKind" "CHANGE_ROOT" "Lspanwire/protocol/MessageKind;" (.ref s6)) (S_DONE : Sta Z Z.heap "spanwire/protocol/MessageKind" "DONE" "Lspanwire/protocol/MessageKind;" (.ref s7)) (E_CONNECT : Exa Z Z.heap s0 "spanwire/protocol/MessageKind") (E_INITIATE : Exa Z Z.heap s1 "spanwire/protocol/MessageKind") (E_TEST : Exa Z Z.heap s2 "spanwire/protocol/MessageKind") (E_ACCEPT : Exa Z Z.heap s3 "spanwire/protocol/MessageKind") (E_REJECT : Exa Z Z.heap s4 "spanwire/protocol/MessageKind") (E_REPORT : Exa Z Z.heap s5 "spanwire/protocol/MessageKind") (E_CHANGE_ROOT : Exa Z Z.heap s6 "spanwire/protocol/MessageKind") (E_DONE : Exa Z Z.heap s7 "spanwire/protocol/MessageKind") (F_CONNECT_ordinal : Fld Z Z.heap s0 "java/lang/Enum" "ordinal" "I" (.int (0 : Int32))) (F_INITIATE_ordinal : Fld Z Z.heap s1 "java/lang/Enum" "ordinal" "I" (.int (1 : Int32))) (F_TEST_ordinal : Fld Z Z.heap s2 "java/lang/Enum" "ordinal" "I" (.int (2 : Int32))) (F_ACCEPT_ordinal : Fld Z Z.heap s3 "java/lang/Enum" "ordinal" "I" (.int (3 : Int32))) (F_REJECT_ordinal : Fld Z Z.heap s4 "java/lang/Enum" "ordinal" "I" (.int (4 : Int32))) (F_REPORT_ordinal : Fld Z Z.heap s5 "java/lang/Enum" "ordinal" "I" (.int (5 : Int32))) (F_CHANGE_ROOT_ordinal : Fld Z Z.heap s6 "java/lang/Enum" "ordinal" "I" (.int (6 : Int32))) (F_DONE_ordinal : Fld Z Z.heap s7 "java/lang/Enum" "ordinal" "I" (.int (7 : Int32))) (nq0 : s0 ≠ s7) (nq1 : s1 ≠ s7) (nq2 : s2 ≠ s7) (nq3 : s3 ≠ s7) (nq4 : s4 ≠ s7) (nq5 : s5 ≠ s7) (nq6 : s6 ≠ s7) (S_VAL : Sta Z Z.heap "spanwire/protocol/MessageKind" "$VALUES" "[Lspanwire/protocol/MessageKind;" (.ref va)) (A_VAL : Arr Z Z.heap va clv (.object "spanwire/protocol/MessageKind")) (E_VAL : Exa Z Z.heap va "[Lspanwire/protocol/MessageKind;") (C_VAL : FitC Z clv) (L_VAL : clv.slots.size = 8) :
    MetFree l x (head1 (Jvm.Cond.code x code maxLocals ret :: ws) room_1) (fun aa U => aa = #[(.int ka), (.long xa), (.int kb), (.long xb), (.int kq), (.long xq)] ∧ Z.Warmed39 U.vm ∧ U.heap = h0) (fun _ _ _ _ _ => True) (fun _ U ou U' => ∃ v L, ou = .returned v ∧ Q0 Z ka xa kb xb kq xq s0 s1 s2 s3 s4 s5 s6 s7 va clv h0 n0 v U'.heap L ∧ FrameEnd U ou U' L room_1.cells room_1.slots) := by
  refine MetFree.of_bodySF (plainFor_of_name pn_spanwire_protocol_MessageCountsAddAllPinLaw) hisR ?_
  intro pg e s m args below meth c s₁ Bd hml0 hP hK
  obtain ⟨rfl, hZ, hh⟩ := hP
  have hx := Bd.exec
  have hby := Bd.bytes
  have hml : c.maxLocals = 25 := hml0
  have hown : s.vm.findClass "spanwire/protocol/MessageCountsAddAllPinLaw" = some m.cls := findClass_of_methodNamed Bd.named
  have hnm := (name_of_methodNamed Bd.named Bd.method).1
  have X0 : Stand pg l e room_1 s m #[(.int ka), (.long xa), (.int kb), (.long xb), (.int kq), (.long xq)] below meth c s₁ [] 0 0 := Stand.of_body Bd
  have e0 : s₁.heap = h0 := by rw [← hh, Bd.state]; rfl
  have N0 := Fr.nil n0
  show own_Go pg.tables e below (fun ou U' => ∃ v L, ou = .returned v ∧ Q0 Z ka xa kb xb kq xq s0 s1 s2 s3 s4 s5 s6 s7 va clv h0 n0 v U'.heap L ∧ FrameEnd s ou U' L room_1.cells room_1.slots) (s₁.setTop (entryFrame m #[(.int ka), (.long xa), (.int kb), (.long xb), (.int kq), (.long xq)] maxLocals))
  refine own_go (S' := s₁.setTop (mkF m 0 #[.val (.int ka), .val (.long xa), .second, .val (.int kb), .val (.long xb), .second, .val (.int kq), .val (.long xq), .second, .unset, .unset, .unset, .unset, .unset, .unset, .unset, .unset, .unset, .unset, .unset, .unset, .unset, .unset, .unset, .unset] [])) (fun tg kk => castTop (ef0 m ka xa kb xb kq xq) kk) ?_
  refine own_go (S' := s₁.setTop (mkF m 1 #[.val (.int ka), .val (.long xa), .second, .val (.int kb), .val (.long xb), .second, .val (.int kq), .val (.long xq), .second, .unset, .unset, .unset, .unset, .unset, .unset, .unset, .unset, .unset, .unset, .unset, .unset, .unset, .unset, .unset, .unset] [(.int ka)])) (fun tg kk => XS.iloadN X0.here hx rfl (hb hby at_0) rfl kk) ?_
  refine own_go (S' := s₁.setTop (mkF m 3 #[.val (.int ka), .val (.long xa), .second, .val (.int kb), .val (.long xb), .second, .val (.int kq), .val (.long xq), .second, .unset, .unset, .unset, .unset, .unset, .unset, .unset, .unset, .unset, .unset, .unset, .unset, .unset, .unset, .unset, .unset] [(.int (7 : Int32)), (.int ka)])) (fun tg kk => XT.bipushV X0.here hx rfl (7 : Int32) (hb hby at_1) (by decide) kk) ?_
  refine own_go (S' := s₁.setTop (mkF m 4 #[.val (.int ka), .val (.long xa), .second, .val (.int kb), .val (.long xb), .second, .val (.int kq), .val (.long xq), .second, .unset, .unset, .unset, .unset, .unset, .unset, .unset, .unset, .unset, .unset, .unset, .unset, .unset, .unset, .unset, .unset] [(.int (ka &&& (7 : Int32)))])) (fun tg kk => XS.iand X0.here hx rfl (hb hby at_3) rfl kk) ?_
  refine own_go (S' := s₁.setTop (mkF m 6 #[.val (.int ka), .val (.long xa), .second, .val (.int kb), .val (.long xb), .second, .val (.int kq), .val (.long xq), .second, .val (.int (ka &&& (7 : Int32))), .unset, .unset, .unset, .unset, .unset, .unset, .unset, .unset, .unset, .unset, .unset, .unset, .unset, .unset, .unset] [])) (fun tg kk => XS.istore X0.here hx rfl (hb hby at_4) rfl (l' := #[.val (.int ka), .val (.long xa), .second, .val (.int kb), .val (.long xb), .second, .val (.int kq), .val (.long xq), .second, .val (.int (ka &&& (7 : Int32))), .unset, .unset, .unset, .unset, .unset, .unset, .unset, .unset, .unset, .unset, .unset, .unset, .unset, .unset, .unset]) rfl kk) ?_
  refine own_go (S' := s₁.setTop (mkF m 7 #[.val (.int ka), .val (.long xa), .second, .val (.int kb), .val (.long xb), .second, .val (.int kq), .val (.long xq), .second, .val (.int (ka &&& (7 : Int32))), .unset, .unset, .unset, .unset, .unset, .unset, .unset, .unset, .unset, .unset, .unset, .unset, .unset, .unset, .unset] [(.int kb)])) (fun tg kk => XS.iloadN X0.here hx rfl (hb hby at_6) rfl kk) ?_
  refine own_go (S' := s₁.setTop (mkF m 9 #[.val (.int ka), .val (.long xa), .second, .val (.int kb), .val (.long xb), .second, .val (.int kq), .val (.long xq), .second, .val (.int (ka &&& (7 : Int32))), .unset, .unset, .unset, .unset, .unset, .unset, .unset, .unset, .unset, .unset, .unset, .unset, .unset, .unset, .unset] [(.int (7 : Int32)), (.int kb)])) (fun tg kk => XT.bipushV X0.here hx rfl (7 : Int32) (hb hby at_7) (by decide) kk) ?_
  refine own_go (S' := s₁.setTop (mkF m 10 #[.val (.int ka), .val (.long xa), .second, .val (.int kb), .val (.long xb), .second, .val (.int kq), .val (.long xq), .second, .val (.int (ka &&& (7 : Int32))), .unset, .unset, .unset, .unset, .unset, .unset, .unset, .unset, .unset, .unset, .unset, .unset, .unset, .unset, .unset] [(.int (kb &&& (7 : Int32)))])) (fun tg kk => XS.iand X0.here hx rfl (hb hby at_9) rfl kk) ?_
  refine own_go (S' := s₁.setTop (mkF m 12 #[.val (.int ka), .val (.long xa), .second, .val (.int kb), .val (.long xb), .second, .val (.int kq), .val (.long xq), .second, .val (.int (ka &&& (7 : Int32))), .val (.int (kb &&& (7 : Int32))), .unset, .unset, .unset, .unset, .unset, .unset, .unset, .unset, .unset, .unset, .unset, .unset, .unset, .unset] [])) (fun tg kk => XS.istore X0.here hx rfl (hb hby at_10) rfl (l' := #[.val (.int ka), .val (.long xa), .second, .val (.int kb), .val (.long xb), .second, .val (.int kq), .val (.long xq), .second, .val (.int (ka &&& (7 : Int32))), .val (.int (kb &&& (7 : Int32))), .unset, .unset, .unset, .unset, .unset, .unset, .unset, .unset, .unset, .unset, .unset, .unset, .unset, .unset]) rfl kk) ?_
  refine own_go (S' := s₁.setTop (mkF m 14 #[.val (.int ka), .val (.long xa), .second, .val (.int kb), .val (.long xb), .second, .val (.int kq), .val (.long xq), .second, .val (.int (ka &&& (7 : Int32))), .val (.int (kb &&& (7 : Int32))), .unset, .unset, .unset, .unset, .unset, .unset, .unset, .unset, .unset, .unset, .unset, .unset, .unset, .unset] [(.int kq)])) (fun tg kk => XS.iload X0.here hx rfl (hb hby at_12) rfl kk) ?_
  refine own_go (S' := s₁.setTop (mkF m 16 #[.val (.int ka), .val (.long xa), .second, .val (.int kb), .val (.long xb), .second, .val (.int kq), .val (.long xq), .second, .val (.int (ka &&& (7 : Int32))), .val (.int (kb &&& (7 : Int32))), .unset, .unset, .unset, .unset, .unset, .unset, .unset, .unset, .unset, .unset, .unset, .unset, .unset, .unset] [(.int (7 : Int32)), (.int kq)])) (fun tg kk => XT.bipushV X0.here hx rfl (7 : Int32) (hb hby at_14) (by decide) kk) ?_
  refine own_go (S' := s₁.setTop (mkF m 17 #[.val (.int ka), .val (.long xa), .second, .val (.int kb), .val (.long xb), .second, .val (.int kq), .val (.long xq), .second, .val (.int (ka &&& (7 : Int32))), .val (.int (kb &&& (7 : Int32))), .unset, .unset, .unset, .unset, .unset, .unset, .unset, .unset, .unset, .unset, .unset, .unset, .unset, .unset] [(.int (kq &&& (7 : Int32)))])) (fun tg kk => XS.iand X0.here hx rfl (hb hby at_16) rfl kk) ?_
  refine own_go (S' := s₁.setTop (mkF m 19 #[.val (.int ka), .val (.long xa), .second, .val (.int kb), .val (.long xb), .second, .val (.int kq), .val (.long xq), .second, .val (.int (ka &&& (7 : Int32))), .val (.int (kb &&& (7 : Int32))), .val (.int (kq &&& (7 : Int32))), .unset, .unset, .unset, .unset, .unset, .unset, .unset, .unset, .unset, .unset, .unset, .unset, .unset] [])) (fun tg kk => XS.istore X0.here hx rfl (hb hby at_17) rfl (l' := #[.val (.int ka), .val (.long xa), .second, .val (.int kb), .val (.long xb), .second, .val (.int kq), .val (.long xq), .second, .val (.int (ka &&& (7 : Int32))), .val (.int (kb &&& (7 : Int32))), .val (.int (kq &&& (7 : Int32))), .unset, .unset, .unset, .unset, .unset, .unset, .unset, .unset, .unset, .unset, .unset, .unset, .unset]) rfl kk) ?_
  obtain ⟨ia, hia⟩ : ∃ z, (ka &&& (7 : Int32)) = z := ⟨_, rfl⟩
  rw [hia]
  have hoia := own_le7 ka
  rw [hia] at hoia
  obtain ⟨ib, hib⟩ : ∃ z, (kb &&& (7 : Int32)) = z := ⟨_, rfl⟩
  rw [hib]
  have hoib := own_le7 kb
  rw [hib] at hoib
  obtain ⟨iq, hiq⟩ : ∃ z, (kq &&& (7 : Int32)) = z := ⟨_, rfl⟩
  rw [hiq]
  have hoiq := own_le7 kq
  rw [hiq] at hoiq
  refine own_go (S' := s₁.setTop (mkF m 21 #[.val (.int ka), .val (.long xa), .second, .val (.int kb), .val (.long xb), .second, .val (.int kq), .val (.long xq), .second, .val (.int ia), .val (.int ib), .val (.int iq), .unset, .unset, .unset, .unset, .unset, .unset, .unset, .unset, .unset, .unset, .unset, .unset, .unset] [(.int ia)])) (fun tg kk => XS.iload X0.here hx rfl (hb hby at_19) rfl kk) ?_
  obtain ⟨v1, _, ⟨T1, L1, k1, n1⟩, -, X1, ⟨Lc1, hQ1, l1, y1, z1⟩, st1⟩ := Jvm.LawKit.callS X0 hx (y := (⟨"spanwire/protocol/MessageCountsAddAllPinLaw", "kind", "(I)Lspanwire/protocol/MessageKind;"⟩ : MethodName)) hown (mvT hZ (hw _ (List.mem_of_getElem? (i := 0) rfl))) (mvT hZ (hw _ (List.mem_of_getElem? (i := 1) rfl))) (mvT hZ (hw _ (List.mem_of_getElem? (i := 2) rfl))) (mvT hZ (hw _ (List.mem_of_getElem? (i := 3) rfl))) (by decide) (backOf (W := 0) (rm1 l Z a0 hw [] ia s0 s1 s2 s3 s4 s5 s6 s7 h0 n0 Z0 O0 S_CONNECT S_INITIATE S_TEST S_ACCEPT S_REJECT S_REPORT S_CHANGE_ROOT S_DONE) hZ (hw _ (List.mem_of_getElem? (i := 3) rfl)) (hw _ (List.mem_of_getElem? (i := 2) rfl)) (by decide) (by decide)) (g := (mkF m 21 #[.val (.int ka), .val (.long xa), .second, .val (.int kb), .val (.long xb), .second, .val (.int kq), .val (.long xq), .second, .val (.int ia), .val (.int ib), .val (.int iq), .unset, .unset, .unset, .unset, .unset, .unset, .unset, .unset, .unset, .unset, .unset, .unset, .unset] [(.int ia)])) rfl (by rw [hml]; rfl) (argsL := [(.int ia)]) (rest := []) (lenOf pd__I_Lspanwire_protocol_MessageKind_ rfl) rfl (by show 2 * 0 + _ ≤ _; exact Nat.le_of_eq rfl) (hb hby at_21) (fun _ _ => ⟨rfl, e0, (by decide : 0 + 0 ≤ _), (by decide : 0 + 0 ≤ _)⟩)
  dsimp only [Pt.U, Pt.locs, Pt.cells, Pt.slots] at X1 l1 y1 z1 st1 hQ1
  subst l1 y1 z1
  obtain ⟨hv1, M2, e1⟩ := hQ1
  obtain ⟨kia, hkia⟩ : ∃ z, own_kind ia s0 s1 s2 s3 s4 s5 s6 s7 = z := ⟨_, rfl⟩
  obtain rfl : v1 = some (.ref kia) := by rw [hv1, hkia]
  obtain ⟨Ekia, Fkia, Dkia⟩ := own_kindF hoia hkia E_CONNECT E_INITIATE E_TEST E_ACCEPT E_REJECT E_REPORT E_CHANGE_ROOT E_DONE F_CONNECT_ordinal F_INITIATE_ordinal F_TEST_ordinal F_ACCEPT_ordinal F_REJECT_ordinal F_REPORT_ordinal F_CHANGE_ROOT_ordinal F_DONE_ordinal nq0 nq1 nq2 nq3 nq4 nq5 nq6
  have N2 := Fr.app N0 M2
  refine own_go (S' := T1.setTop (mkF m 24 #[.val (.int ka), .val (.long xa), .second, .val (.int kb), .val (.long xb), .second, .val (.int kq), .val (.long xq), .second, .val (.int ia), .val (.int ib), .val (.int iq), .unset, .unset, .unset, .unset, .unset, .unset, .unset, .unset, .unset, .unset, .unset, .unset, .unset] [(.ref kia)])) st1 ?_
  refine own_go (S' := T1.setTop (mkF m 26 #[.val (.int ka), .val (.long xa), .second, .val (.int kb), .val (.long xb), .second, .val (.int kq), .val (.long xq), .second, .val (.int ia), .val (.int ib), .val (.int iq), .val (.ref kia), .unset, .unset, .unset, .unset, .unset, .unset, .unset, .unset, .unset, .unset, .unset, .unset] [])) (fun tg kk => XS.astore X1.here hx rfl (hb hby at_24) rfl rfl (l' := #[.val (.int ka), .val (.long xa), .second, .val (.int kb), .val (.long xb), .second, .val (.int kq), .val (.long xq), .second, .val (.int ia), .val (.int ib), .val (.int iq), .val (.ref kia), .unset, .unset, .unset, .unset, .unset, .unset, .unset, .unset, .unset, .unset, .unset, .unset]) rfl kk) ?_
  refine own_go (S' := T1.setTop (mkF m 28 #[.val (.int ka), .val (.long xa), .second, .val (.int kb), .val (.long xb), .second, .val (.int kq), .val (.long xq), .second, .val (.int ia), .val (.int ib), .val (.int iq), .val (.ref kia), .unset, .unset, .unset, .unset, .unset, .unset, .unset, .unset, .unset, .unset, .unset, .unset] [(.int ib)])) (fun tg kk => XS.iload X1.here hx rfl (hb hby at_26) rfl kk) ?_
  obtain ⟨v3, _, ⟨T3, L3, k3, n3⟩, -, X3, ⟨Lc3, hQ3, l3, y3, z3⟩, st3⟩ := Jvm.LawKit.callS X1 hx (y := (⟨"spanwire/protocol/MessageCountsAddAllPinLaw", "kind", "(I)Lspanwire/protocol/MessageKind;"⟩ : MethodName)) hown (mvT hZ (hw _ (List.mem_of_getElem? (i := 0) rfl))) (mvT hZ (hw _ (List.mem_of_getElem? (i := 1) rfl))) (mvT hZ (hw _ (List.mem_of_getElem? (i := 2) rfl))) (mvT hZ (hw _ (List.mem_of_getElem? (i := 3) rfl))) (by decide) (backOf (W := 0) (rm1 l Z a0 hw [] ib s0 s1 s2 s3 s4 s5 s6 s7 h0 n0 Z0 O0 S_CONNECT S_INITIATE S_TEST S_ACCEPT S_REJECT S_REPORT S_CHANGE_ROOT S_DONE) hZ (hw _ (List.mem_of_getElem? (i := 3) rfl)) (hw _ (List.mem_of_getElem? (i := 2) rfl)) (by decide) (by decide)) (g := (mkF m 28 #[.val (.int ka), .val (.long xa), .second, .val (.int kb), .val (.long xb), .second, .val (.int kq), .val (.long xq), .second, .val (.int ia), .val (.int ib), .val (.int iq), .val (.ref kia), .unset, .unset, .unset, .unset, .unset, .unset, .unset, .unset, .unset, .unset, .unset, .unset] [(.int ib)])) rfl (by rw [hml]; rfl) (argsL := [(.int ib)]) (rest := []) (lenOf pd__I_Lspanwire_protocol_MessageKind_ rfl) rfl (by show 2 * 0 + _ ≤ _; exact Nat.le_of_eq rfl) (hb hby at_28) (fun _ _ => ⟨rfl, e1, (by decide : 0 + 0 ≤ _), (by decide : 0 + 0 ≤ _)⟩)
  dsimp only [Pt.U, Pt.locs, Pt.cells, Pt.slots] at X3 l3 y3 z3 st3 hQ3
  subst l3 y3 z3
  obtain ⟨hv3, M4, e3⟩ := hQ3
  obtain ⟨kib, hkib⟩ : ∃ z, own_kind ib s0 s1 s2 s3 s4 s5 s6 s7 = z := ⟨_, rfl⟩
  obtain rfl : v3 = some (.ref kib) := by rw [hv3, hkib]
  obtain ⟨Ekib, Fkib, Dkib⟩ := own_kindF hoib hkib E_CONNECT E_INITIATE E_TEST E_ACCEPT E_REJECT E_REPORT E_CHANGE_ROOT E_DONE F_CONNECT_ordinal F_INITIATE_ordinal F_TEST_ordinal F_ACCEPT_ordinal F_REJECT_ordinal F_REPORT_ordinal F_CHANGE_ROOT_ordinal F_DONE_ordinal nq0 nq1 nq2 nq3 nq4 nq5 nq6
  have N4 := Fr.app N2 M4
  refine own_go (S' := T3.setTop (mkF m 31 #[.val (.int ka), .val (.long xa), .second, .val (.int kb), .val (.long xb), .second, .val (.int kq), .val (.long xq), .second, .val (.int ia), .val (.int ib), .val (.int iq), .val (.ref kia), .unset, .unset, .unset, .unset, .unset, .unset, .unset, .unset, .unset, .unset, .unset, .unset] [(.ref kib)])) st3 ?_
  refine own_go (S' := T3.setTop (mkF m 33 #[.val (.int ka), .val (.long xa), .second, .val (.int kb), .val (.long xb), .second, .val (.int kq), .val (.long xq), .second, .val (.int ia), .val (.int ib), .val (.int iq), .val (.ref kia), .val (.ref kib), .unset, .unset, .unset, .unset, .unset, .unset, .unset, .unset, .unset, .unset, .unset] [])) (fun tg kk => XS.astore X3.here hx rfl (hb hby at_31) rfl rfl (l' := #[.val (.int ka), .val (.long xa), .second, .val (.int kb), .val (.long xb), .second, .val (.int kq), .val (.long xq), .second, .val (.int ia), .val (.int ib), .val (.int iq), .val (.ref kia), .val (.ref kib), .unset, .unset, .unset, .unset, .unset, .unset, .unset, .unset, .unset, .unset, .unset]) rfl kk) ?_
  refine own_go (S' := T3.setTop (mkF m 35 #[.val (.int ka), .val (.long xa), .second, .val (.int kb), .val (.long xb), .second, .val (.int kq), .val (.long xq), .second, .val (.int ia), .val (.int ib), .val (.int iq), .val (.ref kia), .val (.ref kib), .unset, .unset, .unset, .unset, .unset, .unset, .unset, .unset, .unset, .unset, .unset] [(.int iq)])) (fun tg kk => XS.iload X3.here hx rfl (hb hby at_33) rfl kk) ?_
  obtain ⟨v5, _, ⟨T5, L5, k5, n5⟩, -, X5, ⟨Lc5, hQ5, l5, y5, z5⟩, st5⟩ := Jvm.LawKit.callS X3 hx (y := (⟨"spanwire/protocol/MessageCountsAddAllPinLaw", "kind", "(I)Lspanwire/protocol/MessageKind;"⟩ : MethodName)) hown (mvT hZ (hw _ (List.mem_of_getElem? (i := 0) rfl))) (mvT hZ (hw _ (List.mem_of_getElem? (i := 1) rfl))) (mvT hZ (hw _ (List.mem_of_getElem? (i := 2) rfl))) (mvT hZ (hw _ (List.mem_of_getElem? (i := 3) rfl))) (by decide) (backOf (W := 0) (rm1 l Z a0 hw [] iq s0 s1 s2 s3 s4 s5 s6 s7 h0 n0 Z0 O0 S_CONNECT S_INITIATE S_TEST S_ACCEPT S_REJECT S_REPORT S_CHANGE_ROOT S_DONE) hZ (hw _ (List.mem_of_getElem? (i := 3) rfl)) (hw _ (List.mem_of_getElem? (i := 2) rfl)) (by decide) (by decide)) (g := (mkF m 35 #[.val (.int ka), .val (.long xa), .second, .val (.int kb), .val (.long xb), .second, .val (.int kq), .val (.long xq), .second, .val (.int ia), .val (.int ib), .val (.int iq), .val (.ref kia), .val (.ref kib), .unset, .unset, .unset, .unset, .unset, .unset, .unset, .unset, .unset, .unset, .unset] [(.int iq)])) rfl (by rw [hml]; rfl) (argsL := [(.int iq)]) (rest := []) (lenOf pd__I_Lspanwire_protocol_MessageKind_ rfl) rfl (by show 2 * 0 + _ ≤ _; exact Nat.le_of_eq rfl) (hb hby at_35) (fun _ _ => ⟨rfl, e3, (by decide : 0 + 0 ≤ _), (by decide : 0 + 0 ≤ _)⟩)
  dsimp only [Pt.U, Pt.locs, Pt.cells, Pt.slots] at X5 l5 y5 z5 st5 hQ5
  subst l5 y5 z5
  obtain ⟨hv5, M6, e5⟩ := hQ5
  obtain ⟨kiq, hkiq⟩ : ∃ z, own_kind iq s0 s1 s2 s3 s4 s5 s6 s7 = z := ⟨_, rfl⟩
  obtain rfl : v5 = some (.ref kiq) := by rw [hv5, hkiq]
  obtain ⟨Ekiq, Fkiq, Dkiq⟩ := own_kindF hoiq hkiq E_CONNECT E_INITIATE E_TEST E_ACCEPT E_REJECT E_REPORT E_CHANGE_ROOT E_DONE F_CONNECT_ordinal F_INITIATE_ordinal F_TEST_ordinal F_ACCEPT_ordinal F_REJECT_ordinal F_REPORT_ordinal F_CHANGE_ROOT_ordinal F_DONE_ordinal nq0 nq1 nq2 nq3 nq4 nq5 nq6
  have N6 := Fr.app N4 M6
  refine own_go (S' := T5.setTop (mkF m 38 #[.val (.int ka), .val (.long xa), .second, .val (.int kb), .val (.long xb), .second, .val (.int kq), .val (.long xq), .second, .val (.int ia), .val (.int ib), .val (.int iq), .val (.ref kia), .val (.ref kib), .unset, .unset, .unset, .unset, .unset, .unset, .unset, .unset, .unset, .unset, .unset] [(.ref kiq)])) st5 ?_
  refine own_go (S' := T5.setTop (mkF m 40 #[.val (.int ka), .val (.long xa), .second, .val (.int kb), .val (.long xb), .second, .val (.int kq), .val (.long xq), .second, .val (.int ia), .val (.int ib), .val (.int iq), .val (.ref kia), .val (.ref kib), .val (.ref kiq), .unset, .unset, .unset, .unset, .unset, .unset, .unset, .unset, .unset, .unset] [])) (fun tg kk => XS.astore X5.here hx rfl (hb hby at_38) rfl rfl (l' := #[.val (.int ka), .val (.long xa), .second, .val (.int kb), .val (.long xb), .second, .val (.int kq), .val (.long xq), .second, .val (.int ia), .val (.int ib), .val (.int iq), .val (.ref kia), .val (.ref kib), .val (.ref kiq), .unset, .unset, .unset, .unset, .unset, .unset, .unset, .unset, .unset, .unset]) rfl kk) ?_
  obtain ⟨T7, h7, X7, e7, Ex7, A7, D7, -, st7⟩ := newO X5 hx hZ hown (hw _ (List.mem_of_getElem? (i := 11) rfl)) (hw _ (List.mem_of_getElem? (i := 12) rfl)) (hw _ (List.mem_of_getElem? (i := 13) rfl)) e5 (g := (mkF m 40 #[.val (.int ka), .val (.long xa), .second, .val (.int kb), .val (.long xb), .second, .val (.int kq), .val (.long xq), .second, .val (.int ia), .val (.int ib), .val (.int iq), .val (.ref kia), .val (.ref kib), .val (.ref kiq), .unset, .unset, .unset, .unset, .unset, .unset, .unset, .unset, .unset, .unset] [])) rfl (hb hby at_40) (by decide) (by decide)
  obtain ⟨a7, g7⟩ : ∃ z, z = h0.size := ⟨_, rfl⟩
  rw [← g7] at A7 D7 st7
  have q7 : n0 ≤ a7 := by rw [g7]; exact Z0
  have O8 : Old Z n0 h7 := O0.ext Ex7
  have Z9 : n0 ≤ h7.size := Nat.le_trans Z0 Ex7.1
  refine own_go (S' := T7.setTop (mkF m 43 #[.val (.int ka), .val (.long xa), .second, .val (.int kb), .val (.long xb), .second, .val (.int kq), .val (.long xq), .second, .val (.int ia), .val (.int ib), .val (.int iq), .val (.ref kia), .val (.ref kib), .val (.ref kiq), .unset, .unset, .unset, .unset, .unset, .unset, .unset, .unset, .unset, .unset] [(.ref a7)])) (st7) ?_
  have F7_counts : Fld Z h7 a7 "spanwire/protocol/MessageCounts" "counts" "[J" .null := D7 (Or.inr (hw _ (List.mem_of_getElem? (i := 42) rfl))) (ty := .array .long) (by decide)
  have F7_total : Fld Z h7 a7 "spanwire/protocol/MessageCounts" "total" "J" (.long (0 : Int64)) := D7 (Or.inl (hw _ (List.mem_of_getElem? (i := 64) rfl))) (ty := .long) (by decide)
  refine own_go (S' := T7.setTop (mkF m 44 #[.val (.int ka), .val (.long xa), .second, .val (.int kb), .val (.long xb), .second, .val (.int kq), .val (.long xq), .second, .val (.int ia), .val (.int ib), .val (.int iq), .val (.ref kia), .val (.ref kib), .val (.ref kiq), .unset, .unset, .unset, .unset, .unset, .unset, .unset, .unset, .unset, .unset] [(.ref a7), (.ref a7)])) (fun tg kk => XS.dup X7.here hx rfl (hb hby at_43) rfl rfl kk) ?_
  obtain ⟨v10, _, ⟨T10, L10, k10, n10⟩, -, X10, ⟨Lc10, hQ10, l10, y10, z10⟩, st10⟩ := X7.specialBack hx (y := (⟨"spanwire/protocol/MessageCounts", "<init>", "()V"⟩ : MethodName)) rfl hown (mvT hZ (hw _ (List.mem_of_getElem? (i := 14) rfl))) (mvT hZ (hw _ (List.mem_of_getElem? (i := 15) rfl))) (mvT hZ (hw _ (List.mem_of_getElem? (i := 16) rfl))) (by decide) (backOf (W := 1) (rm2 l Z a0 hw [] a7 va clv h7 n0 Z9 O8 S_VAL A_VAL E_VAL C_VAL L_VAL F7_counts F7_total A7 q7) hZ (hw _ (List.mem_of_getElem? (i := 16) rfl)) (hw _ (List.mem_of_getElem? (i := 13) rfl)) (by decide) (by decide)) (g := (mkF m 44 #[.val (.int ka), .val (.long xa), .second, .val (.int kb), .val (.long xb), .second, .val (.int kq), .val (.long xq), .second, .val (.int ia), .val (.int ib), .val (.int iq), .val (.ref kia), .val (.ref kib), .val (.ref kiq), .unset, .unset, .unset, .unset, .unset, .unset, .unset, .unset, .unset, .unset] [(.ref a7), (.ref a7)])) rfl (by rw [hml]; rfl) (Steps.refl _) (a := a7) (argsL := []) (rest := [(.ref a7)]) (lenOf pd___V rfl) rfl (by show 2 * 0 + _ ≤ _; exact Nat.le_of_eq rfl) (hb hby at_44) (fun _ _ => ⟨rfl, e7, (by decide : 1 + 2 ≤ _), (by decide : 2 + 16 ≤ _)⟩)
  dsimp only [Pt.U, Pt.locs, Pt.cells, Pt.slots] at X10 l10 y10 z10 st10 hQ10
  subst l10 y10 z10
  obtain ⟨ca10, kc10, rfl, M11, K10, G10_0, G10_1, G10_2, G10_3, G10_4⟩ := hQ10
  have N11 := Fr.app N6 M11
  have ne10_a7 : a7 ≠ ca10 := Nat.ne_of_lt (Nat.lt_of_lt_of_le A7.lt G10_4)
  obtain ⟨h10, e10⟩ : ∃ z, T10.heap = z := ⟨_, rfl⟩
  rw [e10] at K10 G10_0 G10_1 G10_2
  have E12 : Exa Z h10 a7 "spanwire/protocol/MessageCounts" := A7.keep K10
  have O13 : Old Z n0 h10 := O8.keep K10 (allS q7 all0)
  have Z14 : n0 ≤ h10.size := Nat.le_trans Z9 K10.1
  refine own_to (S' := T10.setTop (mkF m 47 #[.val (.int ka), .val (.long xa), .second, .val (.int kb), .val (.long xb), .second, .val (.int kq), .val (.long xq), .second, .val (.int ia), .val (.int ib), .val (.int iq), .val (.ref kia), .val (.ref kib), .val (.ref kiq), .unset, .unset, .unset, .unset, .unset, .unset, .unset, .unset, .unset, .unset] [(.ref a7)])) st10 ?_
  refine own_go (S' := T10.setTop (mkF m 49 #[.val (.int ka), .val (.long xa), .second, .val (.int kb), .val (.long xb), .second, .val (.int kq), .val (.long xq), .second, .val (.int ia), .val (.int ib), .val (.int iq), .val (.ref kia), .val (.ref kib), .val (.ref kiq), .val (.ref a7), .unset, .unset, .unset, .unset, .unset, .unset, .unset, .unset, .unset] [])) (fun tg kk => XS.astore X10.here hx rfl (hb hby at_47) rfl rfl (l' := #[.val (.int ka), .val (.long xa), .second, .val (.int kb), .val (.long xb), .second, .val (.int kq), .val (.long xq), .second, .val (.int ia), .val (.int ib), .val (.int iq), .val (.ref kia), .val (.ref kib), .val (.ref kiq), .val (.ref a7), .unset, .unset, .unset, .unset, .unset, .unset, .unset, .unset, .unset]) rfl kk) ?_
  obtain ⟨T15, h15, X15, e15, Ex15, A15, D15, -, st15⟩ := newO X10 hx hZ hown (hw _ (List.mem_of_getElem? (i := 11) rfl)) (hw _ (List.mem_of_getElem? (i := 12) rfl)) (hw _ (List.mem_of_getElem? (i := 13) rfl)) e10 (g := (mkF m 49 #[.val (.int ka), .val (.long xa), .second, .val (.int kb), .val (.long xb), .second, .val (.int kq), .val (.long xq), .second, .val (.int ia), .val (.int ib), .val (.int iq), .val (.ref kia), .val (.ref kib), .val (.ref kiq), .val (.ref a7), .unset, .unset, .unset, .unset, .unset, .unset, .unset, .unset, .unset] [])) rfl (hb hby at_49) (by decide) (by decide)
  obtain ⟨a15, g15⟩ : ∃ z, z = h10.size := ⟨_, rfl⟩
  rw [← g15] at A15 D15 st15
  have ne15_a7 : a7 ≠ a15 := by rw [g15]; exact Nat.ne_of_lt E12.lt
  have ne15_ca10 : ca10 ≠ a15 := by rw [g15]; exact Nat.ne_of_lt G10_2.lt
  have q15 : n0 ≤ a15 := by rw [g15]; exact Z14
  have F16 := G10_0.ext Ex15
  have F17 := G10_1.ext Ex15
  have E18 : Exa Z h15 a7 "spanwire/protocol/MessageCounts" := E12.ext Ex15
  have A19 := G10_2.ext Ex15
  have O20 : Old Z n0 h15 := O13.ext Ex15
  have Z21 : n0 ≤ h15.size := Nat.le_trans Z14 Ex15.1
  refine own_go (S' := T15.setTop (mkF m 52 #[.val (.int ka), .val (.long xa), .second, .val (.int kb), .val (.long xb), .second, .val (.int kq), .val (.long xq), .second, .val (.int ia), .val (.int ib), .val (.int iq), .val (.ref kia), .val (.ref kib), .val (.ref kiq), .val (.ref a7), .unset, .unset, .unset, .unset, .unset, .unset, .unset, .unset, .unset] [(.ref a15)])) (st15) ?_
  have F15_counts : Fld Z h15 a15 "spanwire/protocol/MessageCounts" "counts" "[J" .null := D15 (Or.inr (hw _ (List.mem_of_getElem? (i := 42) rfl))) (ty := .array .long) (by decide)
  have F15_total : Fld Z h15 a15 "spanwire/protocol/MessageCounts" "total" "J" (.long (0 : Int64)) := D15 (Or.inl (hw _ (List.mem_of_getElem? (i := 64) rfl))) (ty := .long) (by decide)
  refine own_go (S' := T15.setTop (mkF m 53 #[.val (.int ka), .val (.long xa), .second, .val (.int kb), .val (.long xb), .second, .val (.int kq), .val (.long xq), .second, .val (.int ia), .val (.int ib), .val (.int iq), .val (.ref kia), .val (.ref kib), .val (.ref kiq), .val (.ref a7), .unset, .unset, .unset, .unset, .unset, .unset, .unset, .unset, .unset] [(.ref a15), (.ref a15)])) (fun tg kk => XS.dup X15.here hx rfl (hb hby at_52) rfl rfl kk) ?_
  obtain ⟨v22, _, ⟨T22, L22, k22, n22⟩, -, X22, ⟨Lc22, hQ22, l22, y22, z22⟩, st22⟩ := X15.specialBack hx (y := (⟨"spanwire/protocol/MessageCounts", "<init>", "()V"⟩ : MethodName)) rfl hown (mvT hZ (hw _ (List.mem_of_getElem? (i := 14) rfl))) (mvT hZ (hw _ (List.mem_of_getElem? (i := 15) rfl))) (mvT hZ (hw _ (List.mem_of_getElem? (i := 16) rfl))) (by decide) (backOf (W := 1) (rm2 l Z a0 hw [] a15 va clv h15 n0 Z21 O20 S_VAL A_VAL E_VAL C_VAL L_VAL F15_counts F15_total A15 q15) hZ (hw _ (List.mem_of_getElem? (i := 16) rfl)) (hw _ (List.mem_of_getElem? (i := 13) rfl)) (by decide) (by decide)) (g := (mkF m 53 #[.val (.int ka), .val (.long xa), .second, .val (.int kb), .val (.long xb), .second, .val (.int kq), .val (.long xq), .second, .val (.int ia), .val (.int ib), .val (.int iq), .val (.ref kia), .val (.ref kib), .val (.ref kiq), .val (.ref a7), .unset, .unset, .unset, .unset, .unset, .unset, .unset, .unset, .unset] [(.ref a15), (.ref a15)])) rfl (by rw [hml]; rfl) (Steps.refl _) (a := a15) (argsL := []) (rest := [(.ref a15)]) (lenOf pd___V rfl) rfl (by show 2 * 0 + _ ≤ _; exact Nat.le_of_eq rfl) (hb hby at_53) (fun _ _ => ⟨rfl, e15, (by decide : 4 + 2 ≤ _), (by decide : 20 + 16 ≤ _)⟩)
  dsimp only [Pt.U, Pt.locs, Pt.cells, Pt.slots] at X22 l22 y22 z22 st22 hQ22
  subst l22 y22 z22
  obtain ⟨ca22, kc22, rfl, M23, K22, G22_0, G22_1, G22_2, G22_3, G22_4⟩ := hQ22
  have N23 := Fr.app N11 M23
  have ne22_a7 : a7 ≠ ca22 := Nat.ne_of_lt (Nat.lt_of_lt_of_le E18.lt G22_4)
  have ne22_a15 : a15 ≠ ca22 := Nat.ne_of_lt (Nat.lt_of_lt_of_le A15.lt G22_4)
  have ne22_ca10 : ca10 ≠ ca22 := Nat.ne_of_lt (Nat.lt_of_lt_of_le A19.lt G22_4)
  obtain ⟨h22, e22⟩ : ∃ z, T22.heap = z := ⟨_, rfl⟩
  rw [e22] at K22 G22_0 G22_1 G22_2
  have F24 := F16.keep K22 (ninS ne15_a7 nin0)
  have F25 := F17.keep K22 (ninS ne15_a7 nin0)
  have E26 : Exa Z h22 a7 "spanwire/protocol/MessageCounts" := E18.keep K22
  have E27 : Exa Z h22 a15 "spanwire/protocol/MessageCounts" := A15.keep K22
  have A28 := A19.keep K22 (ninS ne15_ca10 nin0)
  have O29 : Old Z n0 h22 := O20.keep K22 (allS q15 all0)
  have Z30 : n0 ≤ h22.size := Nat.le_trans Z21 K22.1
  refine own_to (S' := T22.setTop (mkF m 56 #[.val (.int ka), .val (.long xa), .second, .val (.int kb), .val (.long xb), .second, .val (.int kq), .val (.long xq), .second, .val (.int ia), .val (.int ib), .val (.int iq), .val (.ref kia), .val (.ref kib), .val (.ref kiq), .val (.ref a7), .unset, .unset, .unset, .unset, .unset, .unset, .unset, .unset, .unset] [(.ref a15)])) st22 ?_
  refine own_go (S' := T22.setTop (mkF m 58 #[.val (.int ka), .val (.long xa), .second, .val (.int kb), .val (.long xb), .second, .val (.int kq), .val (.long xq), .second, .val (.int ia), .val (.int ib), .val (.int iq), .val (.ref kia), .val (.ref kib), .val (.ref kiq), .val (.ref a7), .val (.ref a15), .unset, .unset, .unset, .unset, .unset, .unset, .unset, .unset] [])) (fun tg kk => XS.astore X22.here hx rfl (hb hby at_56) rfl rfl (l' := #[.val (.int ka), .val (.long xa), .second, .val (.int kb), .val (.long xb), .second, .val (.int kq), .val (.long xq), .second, .val (.int ia), .val (.int ib), .val (.int iq), .val (.ref kia), .val (.ref kib), .val (.ref kiq), .val (.ref a7), .val (.ref a15), .unset, .unset, .unset, .unset, .unset, .unset, .unset, .unset]) rfl kk) ?_
  refine own_go (S' := T22.setTop (mkF m 60 #[.val (.int ka), .val (.long xa), .second, .val (.int kb), .val (.long xb), .second, .val (.int kq), .val (.long xq), .second, .val (.int ia), .val (.int ib), .val (.int iq), .val (.ref kia), .val (.ref kib), .val (.ref kiq), .val (.ref a7), .val (.ref a15), .unset, .unset, .unset, .unset, .unset, .unset, .unset, .unset] [(.ref a7)])) (fun tg kk => XS.aload X22.here hx rfl (hb hby at_58) rfl rfl kk) ?_
  refine own_go (S' := T22.setTop (mkF m 62 #[.val (.int ka), .val (.long xa), .second, .val (.int kb), .val (.long xb), .second, .val (.int kq), .val (.long xq), .second, .val (.int ia), .val (.int ib), .val (.int iq), .val (.ref kia), .val (.ref kib), .val (.ref kiq), .val (.ref a7), .val (.ref a15), .unset, .unset, .unset, .unset, .unset, .unset, .unset, .unset] [(.ref kia), (.ref a7)])) (fun tg kk => XS.aload X22.here hx rfl (hb hby at_60) rfl rfl kk) ?_
  refine own_go (S' := T22.setTop (mkF m 63 #[.val (.int ka), .val (.long xa), .second, .val (.int kb), .val (.long xb), .second, .val (.int kq), .val (.long xq), .second, .val (.int ia), .val (.int ib), .val (.int iq), .val (.ref kia), .val (.ref kib), .val (.ref kiq), .val (.ref a7), .val (.ref a15), .unset, .unset, .unset, .unset, .unset, .unset, .unset, .unset] [(.long xa), (.ref kia), (.ref a7)])) (fun tg kk => XT.lloadN X22.here hx rfl (hb hby at_62) rfl kk) ?_
  obtain ⟨cq31, kq31, qa31, qb31, qc31⟩ := isOf hZ e22 E26
  obtain ⟨v31, _, ⟨T31, L31, k31, n31⟩, -, X31, ⟨Lc31, hQ31, l31, y31, z31⟩, st31⟩ := X22.virtualBack hx (y := (⟨"spanwire/protocol/MessageCounts", "add", "(Lspanwire/protocol/MessageKind;J)V"⟩ : MethodName)) (z := (⟨"spanwire/protocol/MessageCounts", "add", "(Lspanwire/protocol/MessageKind;J)V"⟩ : MethodName)) hown (mvT hZ (hw _ (List.mem_of_getElem? (i := 43) rfl))) (mvT hZ (hw _ (List.mem_of_getElem? (i := 44) rfl))) (notFace_of_selects (args := #[]) (mvT hZ (hw _ (List.mem_of_getElem? (i := 46) rfl)))) (mvT hZ (hw _ (List.mem_of_getElem? (i := 46) rfl))) (mvT hZ (hw _ (List.mem_of_getElem? (i := 45) rfl))) (by decide) (backOf (W := 0) (rm5 l Z a0 hw [] a7 ca10 kc10 kia ia xa own_zero (0 : Int64) s7 h22 n0 Z30 O29 F24 F25 E26 A28 Ekia Fkia hoia q7 G10_3 ne10_a7 S_DONE) hZ (hw _ (List.mem_of_getElem? (i := 47) rfl)) (hw _ (List.mem_of_getElem? (i := 13) rfl)) (by decide) (by decide)) qa31 qc31 (g := (mkF m 63 #[.val (.int ka), .val (.long xa), .second, .val (.int kb), .val (.long xb), .second, .val (.int kq), .val (.long xq), .second, .val (.int ia), .val (.int ib), .val (.int iq), .val (.ref kia), .val (.ref kib), .val (.ref kiq), .val (.ref a7), .val (.ref a15), .unset, .unset, .unset, .unset, .unset, .unset, .unset, .unset] [(.long xa), (.ref kia), (.ref a7)])) rfl (by rw [hml]; rfl) (Steps.refl _) (argsL := [(.ref kia), (.long xa)]) (rest := []) (lenOf pd__Lspanwire_protocol_MessageKind_J_V rfl) rfl (by show 2 * 0 + _ ≤ _; exact Nat.le_of_eq rfl) (hb hby at_63) (fun _ _ => ⟨rfl, e22, (by decide : 6 + 0 ≤ _), (by decide : 36 + 0 ≤ _)⟩)
  dsimp only [Pt.U, Pt.locs, Pt.cells, Pt.slots] at X31 l31 y31 z31 st31 hQ31
  subst l31 y31 z31
  obtain ⟨rfl, M32, K31, G31_0, G31_1, G31_2⟩ := hQ31
  have N32 := Fr.app N23 M32
  obtain ⟨h31, e31⟩ : ∃ z, T31.heap = z := ⟨_, rfl⟩
  rw [e31] at K31 G31_0 G31_1 G31_2
  have F33 := G22_0.keep K31 (ninS (Ne.symm ne15_a7) (ninS (Ne.symm ne15_ca10) nin0))
  have F34 := G22_1.keep K31 (ninS (Ne.symm ne15_a7) (ninS (Ne.symm ne15_ca10) nin0))
  have E35 : Exa Z h31 a7 "spanwire/protocol/MessageCounts" := E26.keep K31
  have E36 : Exa Z h31 a15 "spanwire/protocol/MessageCounts" := E27.keep K31
  have A38 := G22_2.keep K31 (ninS (Ne.symm ne22_a7) (ninS (Ne.symm ne22_ca10) nin0))
  have O39 : Old Z n0 h31 := O29.keep K31 (allS q7 (allS G10_3 all0))
  have Z40 : n0 ≤ h31.size := Nat.le_trans Z30 K31.1
  refine own_to (S' := T31.setTop (mkF m 66 #[.val (.int ka), .val (.long xa), .second, .val (.int kb), .val (.long xb), .second, .val (.int kq), .val (.long xq), .second, .val (.int ia), .val (.int ib), .val (.int iq), .val (.ref kia), .val (.ref kib), .val (.ref kiq), .val (.ref a7), .val (.ref a15), .unset, .unset, .unset, .unset, .unset, .unset, .unset, .unset] [])) st31 ?_
  refine own_go (S' := T31.setTop (mkF m 68 #[.val (.int ka), .val (.long xa), .second, .val (.int kb), .val (.long xb), .second, .val (.int kq), .val (.long xq), .second, .val (.int ia), .val (.int ib), .val (.int iq), .val (.ref kia), .val (.ref kib), .val (.ref kiq), .val (.ref a7), .val (.ref a15), .unset, .unset, .unset, .unset, .unset, .unset, .unset, .unset] [(.ref a7)])) (fun tg kk => XS.aload X31.here hx rfl (hb hby at_66) rfl rfl kk) ?_
  refine own_go (S' := T31.setTop (mkF m 70 #[.val (.int ka), .val (.long xa), .second, .val (.int kb), .val (.long xb), .second, .val (.int kq), .val (.long xq), .second, .val (.int ia), .val (.int ib), .val (.int iq), .val (.ref kia), .val (.ref kib), .val (.ref kiq), .val (.ref a7), .val (.ref a15), .unset, .unset, .unset, .unset, .unset, .unset, .unset, .unset] [(.ref kiq), (.ref a7)])) (fun tg kk => XS.aload X31.here hx rfl (hb hby at_68) rfl rfl kk) ?_
  refine own_go (S' := T31.setTop (mkF m 72 #[.val (.int ka), .val (.long xa), .second, .val (.int kb), .val (.long xb), .second, .val (.int kq), .val (.long xq), .second, .val (.int ia), .val (.int ib), .val (.int iq), .val (.ref kia), .val (.ref kib), .val (.ref kiq), .val (.ref a7), .val (.ref a15), .unset, .unset, .unset, .unset, .unset, .unset, .unset, .unset] [(.long xq), (.ref kiq), (.ref a7)])) (fun tg kk => XT.lload X31.here hx rfl (hb hby at_70) rfl kk) ?_
  obtain ⟨cq41, kq41, qa41, qb41, qc41⟩ := isOf hZ e31 E35
  obtain ⟨v41, _, ⟨T41, L41, k41, n41⟩, -, X41, ⟨Lc41, hQ41, l41, y41, z41⟩, st41⟩ := X31.virtualBack hx (y := (⟨"spanwire/protocol/MessageCounts", "add", "(Lspanwire/protocol/MessageKind;J)V"⟩ : MethodName)) (z := (⟨"spanwire/protocol/MessageCounts", "add", "(Lspanwire/protocol/MessageKind;J)V"⟩ : MethodName)) hown (mvT hZ (hw _ (List.mem_of_getElem? (i := 43) rfl))) (mvT hZ (hw _ (List.mem_of_getElem? (i := 44) rfl))) (notFace_of_selects (args := #[]) (mvT hZ (hw _ (List.mem_of_getElem? (i := 46) rfl)))) (mvT hZ (hw _ (List.mem_of_getElem? (i := 46) rfl))) (mvT hZ (hw _ (List.mem_of_getElem? (i := 45) rfl))) (by decide) (backOf (W := 0) (rm5 l Z a0 hw [] a7 ca10 kc10 kiq iq xq (own_upd own_zero ia xa) (own_tot kia s7 (0 : Int64) xa) s7 h31 n0 Z40 O39 G31_0 G31_1 E35 G31_2 Ekiq Fkiq hoiq q7 G10_3 ne10_a7 S_DONE) hZ (hw _ (List.mem_of_getElem? (i := 47) rfl)) (hw _ (List.mem_of_getElem? (i := 13) rfl)) (by decide) (by decide)) qa41 qc41 (g := (mkF m 72 #[.val (.int ka), .val (.long xa), .second, .val (.int kb), .val (.long xb), .second, .val (.int kq), .val (.long xq), .second, .val (.int ia), .val (.int ib), .val (.int iq), .val (.ref kia), .val (.ref kib), .val (.ref kiq), .val (.ref a7), .val (.ref a15), .unset, .unset, .unset, .unset, .unset, .unset, .unset, .unset] [(.long xq), (.ref kiq), (.ref a7)])) rfl (by rw [hml]; rfl) (Steps.refl _) (argsL := [(.ref kiq), (.long xq)]) (rest := []) (lenOf pd__Lspanwire_protocol_MessageKind_J_V rfl) rfl (by show 2 * 0 + _ ≤ _; exact Nat.le_of_eq rfl) (hb hby at_72) (fun _ _ => ⟨rfl, e31, (by decide : 6 + 0 ≤ _), (by decide : 36 + 0 ≤ _)⟩)
  dsimp only [Pt.U, Pt.locs, Pt.cells, Pt.slots] at X41 l41 y41 z41 st41 hQ41
  subst l41 y41 z41
  obtain ⟨rfl, M42, K41, G41_0, G41_1, G41_2⟩ := hQ41
  have N42 := Fr.app N32 M42
  obtain ⟨h41, e41⟩ : ∃ z, T41.heap = z := ⟨_, rfl⟩
  rw [e41] at K41 G41_0 G41_1 G41_2
  have F43 := F33.keep K41 (ninS (Ne.symm ne15_a7) (ninS (Ne.symm ne15_ca10) nin0))
  have F44 := F34.keep K41 (ninS (Ne.symm ne15_a7) (ninS (Ne.symm ne15_ca10) nin0))
  have E45 : Exa Z h41 a7 "spanwire/protocol/MessageCounts" := E35.keep K41
  have E46 : Exa Z h41 a15 "spanwire/protocol/MessageCounts" := E36.keep K41
  have A47 := A38.keep K41 (ninS (Ne.symm ne22_a7) (ninS (Ne.symm ne22_ca10) nin0))
  have O49 : Old Z n0 h41 := O39.keep K41 (allS q7 (allS G10_3 all0))
  have Z50 : n0 ≤ h41.size := Nat.le_trans Z40 K41.1
  refine own_to (S' := T41.setTop (mkF m 75 #[.val (.int ka), .val (.long xa), .second, .val (.int kb), .val (.long xb), .second, .val (.int kq), .val (.long xq), .second, .val (.int ia), .val (.int ib), .val (.int iq), .val (.ref kia), .val (.ref kib), .val (.ref kiq), .val (.ref a7), .val (.ref a15), .unset, .unset, .unset, .unset, .unset, .unset, .unset, .unset] [])) st41 ?_
  refine own_go (S' := T41.setTop (mkF m 77 #[.val (.int ka), .val (.long xa), .second, .val (.int kb), .val (.long xb), .second, .val (.int kq), .val (.long xq), .second, .val (.int ia), .val (.int ib), .val (.int iq), .val (.ref kia), .val (.ref kib), .val (.ref kiq), .val (.ref a7), .val (.ref a15), .unset, .unset, .unset, .unset, .unset, .unset, .unset, .unset] [(.ref a15)])) (fun tg kk => XS.aload X41.here hx rfl (hb hby at_75) rfl rfl kk) ?_
  refine own_go (S' := T41.setTop (mkF m 79 #[.val (.int ka), .val (.long xa), .second, .val (.int kb), .val (.long xb), .second, .val (.int kq), .val (.long xq), .second, .val (.int ia), .val (.int ib), .val (.int iq), .val (.ref kia), .val (.ref kib), .val (.ref kiq), .val (.ref a7), .val (.ref a15), .unset, .unset, .unset, .unset, .unset, .unset, .unset, .unset] [(.ref kib), (.ref a15)])) (fun tg kk => XS.aload X41.here hx rfl (hb hby at_77) rfl rfl kk) ?_
  refine own_go (S' := T41.setTop (mkF m 81 #[.val (.int ka), .val (.long xa), .second, .val (.int kb), .val (.long xb), .second, .val (.int kq), .val (.long xq), .second, .val (.int ia), .val (.int ib), .val (.int iq), .val (.ref kia), .val (.ref kib), .val (.ref kiq), .val (.ref a7), .val (.ref a15), .unset, .unset, .unset, .unset, .unset, .unset, .unset, .unset] [(.long xb), (.ref kib), (.ref a15)])) (fun tg kk => XT.lload X41.here hx rfl (hb hby at_79) rfl kk) ?_
  obtain ⟨cq51, kq51, qa51, qb51, qc51⟩ := isOf hZ e41 E46
  obtain ⟨v51, _, ⟨T51, L51, k51, n51⟩, -, X51, ⟨Lc51, hQ51, l51, y51, z51⟩, st51⟩ := X41.virtualBack hx (y := (⟨"spanwire/protocol/MessageCounts", "add", "(Lspanwire/protocol/MessageKind;J)V"⟩ : MethodName)) (z := (⟨"spanwire/protocol/MessageCounts", "add", "(Lspanwire/protocol/MessageKind;J)V"⟩ : MethodName)) hown (mvT hZ (hw _ (List.mem_of_getElem? (i := 43) rfl))) (mvT hZ (hw _ (List.mem_of_getElem? (i := 44) rfl))) (notFace_of_selects (args := #[]) (mvT hZ (hw _ (List.mem_of_getElem? (i := 46) rfl)))) (mvT hZ (hw _ (List.mem_of_getElem? (i := 46) rfl))) (mvT hZ (hw _ (List.mem_of_getElem? (i := 45) rfl))) (by decide) (backOf (W := 0) (rm5 l Z a0 hw [] a15 ca22 kc22 kib ib xb own_zero (0 : Int64) s7 h41 n0 Z50 O49 F43 F44 E46 A47 Ekib Fkib hoib q15 G22_3 ne22_a15 S_DONE) hZ (hw _ (List.mem_of_getElem? (i := 47) rfl)) (hw _ (List.mem_of_getElem? (i := 13) rfl)) (by decide) (by decide)) qa51 qc51 (g := (mkF m 81 #[.val (.int ka), .val (.long xa), .second, .val (.int kb), .val (.long xb), .second, .val (.int kq), .val (.long xq), .second, .val (.int ia), .val (.int ib), .val (.int iq), .val (.ref kia), .val (.ref kib), .val (.ref kiq), .val (.ref a7), .val (.ref a15), .unset, .unset, .unset, .unset, .unset, .unset, .unset, .unset] [(.long xb), (.ref kib), (.ref a15)])) rfl (by rw [hml]; rfl) (Steps.refl _) (argsL := [(.ref kib), (.long xb)]) (rest := []) (lenOf pd__Lspanwire_protocol_MessageKind_J_V rfl) rfl (by show 2 * 0 + _ ≤ _; exact Nat.le_of_eq rfl) (hb hby at_81) (fun _ _ => ⟨rfl, e41, (by decide : 6 + 0 ≤ _), (by decide : 36 + 0 ≤ _)⟩)
  dsimp only [Pt.U, Pt.locs, Pt.cells, Pt.slots] at X51 l51 y51 z51 st51 hQ51
  subst l51 y51 z51
  obtain ⟨rfl, M52, K51, G51_0, G51_1, G51_2⟩ := hQ51
  have N52 := Fr.app N42 M52
  obtain ⟨h51, e51⟩ : ∃ z, T51.heap = z := ⟨_, rfl⟩
  rw [e51] at K51 G51_0 G51_1 G51_2
  have F53 := G41_0.keep K51 (ninS ne15_a7 (ninS ne22_a7 nin0))
  have F54 := G41_1.keep K51 (ninS ne15_a7 (ninS ne22_a7 nin0))
  have E55 : Exa Z h51 a7 "spanwire/protocol/MessageCounts" := E45.keep K51
  have E56 : Exa Z h51 a15 "spanwire/protocol/MessageCounts" := E46.keep K51
  have A58 := G41_2.keep K51 (ninS ne15_ca10 (ninS ne22_ca10 nin0))
  have O59 : Old Z n0 h51 := O49.keep K51 (allS q15 (allS G22_3 all0))
  have Z60 : n0 ≤ h51.size := Nat.le_trans Z50 K51.1
  refine own_to (S' := T51.setTop (mkF m 84 #[.val (.int ka), .val (.long xa), .second, .val (.int kb), .val (.long xb), .second, .val (.int kq), .val (.long xq), .second, .val (.int ia), .val (.int ib), .val (.int iq), .val (.ref kia), .val (.ref kib), .val (.ref kiq), .val (.ref a7), .val (.ref a15), .unset, .unset, .unset, .unset, .unset, .unset, .unset, .unset] [])) st51 ?_
  refine own_go (S' := T51.setTop (mkF m 86 #[.val (.int ka), .val (.long xa), .second, .val (.int kb), .val (.long xb), .second, .val (.int kq), .val (.long xq), .second, .val (.int ia), .val (.int ib), .val (.int iq), .val (.ref kia), .val (.ref kib), .val (.ref kiq), .val (.ref a7), .val (.ref a15), .unset, .unset, .unset, .unset, .unset, .unset, .unset, .unset] [(.ref a7)])) (fun tg kk => XS.aload X51.here hx rfl (hb hby at_84) rfl rfl kk) ?_
  refine own_go (S' := T51.setTop (mkF m 88 #[.val (.int ka), .val (.long xa), .second, .val (.int kb), .val (.long xb), .second, .val (.int kq), .val (.long xq), .second, .val (.int ia), .val (.int ib), .val (.int iq), .val (.ref kia), .val (.ref kib), .val (.ref kiq), .val (.ref a7), .val (.ref a15), .unset, .unset, .unset, .unset, .unset, .unset, .unset, .unset] [(.ref a15), (.ref a7)])) (fun tg kk => XS.aload X51.here hx rfl (hb hby at_86) rfl rfl kk) ?_
  obtain ⟨cq61, kq61, qa61, qb61, qc61⟩ := isOf hZ e51 E55
  obtain ⟨v61, _, ⟨T61, L61, k61, n61⟩, -, X61, ⟨Lc61, hQ61, l61, y61, z61⟩, st61⟩ := X51.virtualBack hx (y := (⟨"spanwire/protocol/MessageCounts", "addAll", "(Lspanwire/protocol/MessageCounts;)V"⟩ : MethodName)) (z := (⟨"spanwire/protocol/MessageCounts", "addAll", "(Lspanwire/protocol/MessageCounts;)V"⟩ : MethodName)) hown (mvT hZ (hw _ (List.mem_of_getElem? (i := 65) rfl))) (mvT hZ (hw _ (List.mem_of_getElem? (i := 66) rfl))) (notFace_of_selects (args := #[]) (mvT hZ (hw _ (List.mem_of_getElem? (i := 68) rfl)))) (mvT hZ (hw _ (List.mem_of_getElem? (i := 68) rfl))) (mvT hZ (hw _ (List.mem_of_getElem? (i := 67) rfl))) (by decide) (backOf (W := 0) (rm8 l Z a0 hw [] a7 ca10 kc10 (own_upd (own_upd own_zero ia xa) iq xq) (own_tot kiq s7 (own_tot kia s7 (0 : Int64) xa) xq) a15 ca22 kc22 (own_upd own_zero ib xb) (own_tot kib s7 (0 : Int64) xb) h51 n0 Z60 F53 F54 E55 A58 G51_0 G51_1 E56 G51_2 q7 G10_3 ne10_a7 (Ne.symm ne15_ca10) (Ne.symm ne22_ca10) (Ne.symm ne15_a7)) hZ (hw _ (List.mem_of_getElem? (i := 69) rfl)) (hw _ (List.mem_of_getElem? (i := 13) rfl)) (by decide) (by decide)) qa61 qc61 (g := (mkF m 88 #[.val (.int ka), .val (.long xa), .second, .val (.int kb), .val (.long xb), .second, .val (.int kq), .val (.long xq), .second, .val (.int ia), .val (.int ib), .val (.int iq), .val (.ref kia), .val (.ref kib), .val (.ref kiq), .val (.ref a7), .val (.ref a15), .unset, .unset, .unset, .unset, .unset, .unset, .unset, .unset] [(.ref a15), (.ref a7)])) rfl (by rw [hml]; rfl) (Steps.refl _) (argsL := [(.ref a15)]) (rest := []) (lenOf pd__Lspanwire_protocol_MessageCounts__V rfl) rfl (by show 2 * 0 + _ ≤ _; exact Nat.le_of_eq rfl) (hb hby at_88) (fun _ _ => ⟨rfl, e51, (by decide : 6 + 0 ≤ _), (by decide : 36 + 0 ≤ _)⟩)
  dsimp only [Pt.U, Pt.locs, Pt.cells, Pt.slots] at X61 l61 y61 z61 st61 hQ61
  subst l61 y61 z61
  obtain ⟨rfl, M62, K61, G61_0, G61_1, G61_2⟩ := hQ61
  have N62 := Fr.app N52 M62
  obtain ⟨h61, e61⟩ : ∃ z, T61.heap = z := ⟨_, rfl⟩
  rw [e61] at K61 G61_0 G61_1 G61_2
  have F63 := G51_0.keep K61 (ninS (Ne.symm ne15_a7) (ninS (Ne.symm ne15_ca10) nin0))
  have F64 := G51_1.keep K61 (ninS (Ne.symm ne15_a7) (ninS (Ne.symm ne15_ca10) nin0))
  have E65 : Exa Z h61 a7 "spanwire/protocol/MessageCounts" := E55.keep K61
  have E66 : Exa Z h61 a15 "spanwire/protocol/MessageCounts" := E56.keep K61
  have A68 := G51_2.keep K61 (ninS (Ne.symm ne22_a7) (ninS (Ne.symm ne22_ca10) nin0))
  have O69 : Old Z n0 h61 := O59.keep K61 (allS q7 (allS G10_3 all0))
  have Z70 : n0 ≤ h61.size := Nat.le_trans Z60 K61.1
  refine own_to (S' := T61.setTop (mkF m 91 #[.val (.int ka), .val (.long xa), .second, .val (.int kb), .val (.long xb), .second, .val (.int kq), .val (.long xq), .second, .val (.int ia), .val (.int ib), .val (.int iq), .val (.ref kia), .val (.ref kib), .val (.ref kiq), .val (.ref a7), .val (.ref a15), .unset, .unset, .unset, .unset, .unset, .unset, .unset, .unset] [])) st61 ?_
  obtain ⟨V71, hV71⟩ : ∃ z : Int64, z = (if iq = ia then xa else 0) := ⟨_, rfl⟩
  refine own_go (S' := T61.setTop (mkF m 103 #[.val (.int ka), .val (.long xa), .second, .val (.int kb), .val (.long xb), .second, .val (.int kq), .val (.long xq), .second, .val (.int ia), .val (.int ib), .val (.int iq), .val (.ref kia), .val (.ref kib), .val (.ref kiq), .val (.ref a7), .val (.ref a15), .unset, .unset, .unset, .unset, .unset, .unset, .unset, .unset] [(.long V71)])) (fun tg kk => ?_) ?_
  · refine XS.iload X61.here hx rfl (hb hby at_91) rfl ?_
    show Steps pg.tables e below (T61.setTop (mkF m 93 #[.val (.int ka), .val (.long xa), .second, .val (.int kb), .val (.long xb), .second, .val (.int kq), .val (.long xq), .second, .val (.int ia), .val (.int ib), .val (.int iq), .val (.ref kia), .val (.ref kib), .val (.ref kiq), .val (.ref a7), .val (.ref a15), .unset, .unset, .unset, .unset, .unset, .unset, .unset, .unset] [(.int iq)])) tg
    refine XS.iload X61.here hx rfl (hb hby at_93) rfl ?_
    show Steps pg.tables e below (T61.setTop (mkF m 95 #[.val (.int ka), .val (.long xa), .second, .val (.int kb), .val (.long xb), .second, .val (.int kq), .val (.long xq), .second, .val (.int ia), .val (.int ib), .val (.int iq), .val (.ref kia), .val (.ref kib), .val (.ref kiq), .val (.ref a7), .val (.ref a15), .unset, .unset, .unset, .unset, .unset, .unset, .unset, .unset] [(.int ia), (.int iq)])) tg
    by_cases c72 : iq = ia
    · refine XS.icmpNo X61.here hx rfl (hb hby at_95) rfl (XT.ii_ne_f c72) ?_
      show Steps pg.tables e below (T61.setTop (mkF m 98 #[.val (.int ka), .val (.long xa), .second, .val (.int kb), .val (.long xb), .second, .val (.int kq), .val (.long xq), .second, .val (.int ia), .val (.int ib), .val (.int iq), .val (.ref kia), .val (.ref kib), .val (.ref kiq), .val (.ref a7), .val (.ref a15), .unset, .unset, .unset, .unset, .unset, .unset, .unset, .unset] [])) tg
      refine XT.lloadN X61.here hx rfl (hb hby at_98) rfl ?_
      show Steps pg.tables e below (T61.setTop (mkF m 99 #[.val (.int ka), .val (.long xa), .second, .val (.int kb), .val (.long xb), .second, .val (.int kq), .val (.long xq), .second, .val (.int ia), .val (.int ib), .val (.int iq), .val (.ref kia), .val (.ref kib), .val (.ref kiq), .val (.ref a7), .val (.ref a15), .unset, .unset, .unset, .unset, .unset, .unset, .unset, .unset] [(.long xa)])) tg
      refine XS.goto X61.here hx rfl (pc0 := 99) (pc' := 103) rfl (hb hby at_99) (by decide) (by decide) ?_
      show Steps pg.tables e below (T61.setTop (mkF m 103 #[.val (.int ka), .val (.long xa), .second, .val (.int kb), .val (.long xb), .second, .val (.int kq), .val (.long xq), .second, .val (.int ia), .val (.int ib), .val (.int iq), .val (.ref kia), .val (.ref kib), .val (.ref kiq), .val (.ref a7), .val (.ref a15), .unset, .unset, .unset, .unset, .unset, .unset, .unset, .unset] [(.long xa)])) tg
      rw [show V71 = xa from by rw [hV71, if_pos c72]] at kk
      exact kk
    · refine XS.icmpYes X61.here hx rfl (pc0 := 95) (pc' := 102) rfl (hb hby at_95) rfl (XT.ii_ne_t c72) (by decide) (by decide) ?_
      show Steps pg.tables e below (T61.setTop (mkF m 102 #[.val (.int ka), .val (.long xa), .second, .val (.int kb), .val (.long xb), .second, .val (.int kq), .val (.long xq), .second, .val (.int ia), .val (.int ib), .val (.int iq), .val (.ref kia), .val (.ref kib), .val (.ref kiq), .val (.ref a7), .val (.ref a15), .unset, .unset, .unset, .unset, .unset, .unset, .unset, .unset] [])) tg
      refine XT.lconstV X61.here hx rfl (0 : Int64) (hb hby at_102) (by decide) ?_
      show Steps pg.tables e below (T61.setTop (mkF m 103 #[.val (.int ka), .val (.long xa), .second, .val (.int kb), .val (.long xb), .second, .val (.int kq), .val (.long xq), .second, .val (.int ia), .val (.int ib), .val (.int iq), .val (.ref kia), .val (.ref kib), .val (.ref kiq), .val (.ref a7), .val (.ref a15), .unset, .unset, .unset, .unset, .unset, .unset, .unset, .unset] [(.long (0 : Int64))])) tg
      rw [show V71 = (0 : Int64) from by rw [hV71, if_neg c72]] at kk
      exact kk
  refine own_go (S' := T61.setTop (mkF m 105 #[.val (.int ka), .val (.long xa), .second, .val (.int kb), .val (.long xb), .second, .val (.int kq), .val (.long xq), .second, .val (.int ia), .val (.int ib), .val (.int iq), .val (.ref kia), .val (.ref kib), .val (.ref kiq), .val (.ref a7), .val (.ref a15), .unset, .unset, .unset, .unset, .unset, .unset, .unset, .unset] [(.long xq), (.long V71)])) (fun tg kk => XT.lload X61.here hx rfl (hb hby at_103) rfl kk) ?_
  refine own_go (S' := T61.setTop (mkF m 106 #[.val (.int ka), .val (.long xa), .second, .val (.int kb), .val (.long xb), .second, .val (.int kq), .val (.long xq), .second, .val (.int ia), .val (.int ib), .val (.int iq), .val (.ref kia), .val (.ref kib), .val (.ref kiq), .val (.ref a7), .val (.ref a15), .unset, .unset, .unset, .unset, .unset, .unset, .unset, .unset] [(.long (V71 + xq))])) (fun tg kk => XT.ladd X61.here hx rfl (hb hby at_105) rfl kk) ?_
  obtain ⟨V73, hV73⟩ : ∃ z : Int64, z = (if iq = ib then xb else 0) := ⟨_, rfl⟩
  refine own_go (S' := T61.setTop (mkF m 119 #[.val (.int ka), .val (.long xa), .second, .val (.int kb), .val (.long xb), .second, .val (.int kq), .val (.long xq), .second, .val (.int ia), .val (.int ib), .val (.int iq), .val (.ref kia), .val (.ref kib), .val (.ref kiq), .val (.ref a7), .val (.ref a15), .unset, .unset, .unset, .unset, .unset, .unset, .unset, .unset] [(.long V73), (.long (V71 + xq))])) (fun tg kk => ?_) ?_
  · refine XS.iload X61.here hx rfl (hb hby at_106) rfl ?_
    show Steps pg.tables e below (T61.setTop (mkF m 108 #[.val (.int ka), .val (.long xa), .second, .val (.int kb), .val (.long xb), .second, .val (.int kq), .val (.long xq), .second, .val (.int ia), .val (.int ib), .val (.int iq), .val (.ref kia), .val (.ref kib), .val (.ref kiq), .val (.ref a7), .val (.ref a15), .unset, .unset, .unset, .unset, .unset, .unset, .unset, .unset] [(.int iq), (.long (V71 + xq))])) tg
    refine XS.iload X61.here hx rfl (hb hby at_108) rfl ?_
    show Steps pg.tables e below (T61.setTop (mkF m 110 #[.val (.int ka), .val (.long xa), .second, .val (.int kb), .val (.long xb), .second, .val (.int kq), .val (.long xq), .second, .val (.int ia), .val (.int ib), .val (.int iq), .val (.ref kia), .val (.ref kib), .val (.ref kiq), .val (.ref a7), .val (.ref a15), .unset, .unset, .unset, .unset, .unset, .unset, .unset, .unset] [(.int ib), (.int iq), (.long (V71 + xq))])) tg
    by_cases c74 : iq = ib
    · refine XS.icmpNo X61.here hx rfl (hb hby at_110) rfl (XT.ii_ne_f c74) ?_
      show Steps pg.tables e below (T61.setTop (mkF m 113 #[.val (.int ka), .val (.long xa), .second, .val (.int kb), .val (.long xb), .second, .val (.int kq), .val (.long xq), .second, .val (.int ia), .val (.int ib), .val (.int iq), .val (.ref kia), .val (.ref kib), .val (.ref kiq), .val (.ref a7), .val (.ref a15), .unset, .unset, .unset, .unset, .unset, .unset, .unset, .unset] [(.long (V71 + xq))])) tg
      refine XT.lload X61.here hx rfl (hb hby at_113) rfl ?_
      show Steps pg.tables e below (T61.setTop (mkF m 115 #[.val (.int ka), .val (.long xa), .second, .val (.int kb), .val (.long xb), .second, .val (.int kq), .val (.long xq), .second, .val (.int ia), .val (.int ib), .val (.int iq), .val (.ref kia), .val (.ref kib), .val (.ref kiq), .val (.ref a7), .val (.ref a15), .unset, .unset, .unset, .unset, .unset, .unset, .unset, .unset] [(.long xb), (.long (V71 + xq))])) tg
      refine XS.goto X61.here hx rfl (pc0 := 115) (pc' := 119) rfl (hb hby at_115) (by decide) (by decide) ?_
      show Steps pg.tables e below (T61.setTop (mkF m 119 #[.val (.int ka), .val (.long xa), .second, .val (.int kb), .val (.long xb), .second, .val (.int kq), .val (.long xq), .second, .val (.int ia), .val (.int ib), .val (.int iq), .val (.ref kia), .val (.ref kib), .val (.ref kiq), .val (.ref a7), .val (.ref a15), .unset, .unset, .unset, .unset, .unset, .unset, .unset, .unset] [(.long xb), (.long (V71 + xq))])) tg
      rw [show V73 = xb from by rw [hV73, if_pos c74]] at kk
      exact kk
    · refine XS.icmpYes X61.here hx rfl (pc0 := 110) (pc' := 118) rfl (hb hby at_110) rfl (XT.ii_ne_t c74) (by decide) (by decide) ?_
      show Steps pg.tables e below (T61.setTop (mkF m 118 #[.val (.int ka), .val (.long xa), .second, .val (.int kb), .val (.long xb), .second, .val (.int kq), .val (.long xq), .second, .val (.int ia), .val (.int ib), .val (.int iq), .val (.ref kia), .val (.ref kib), .val (.ref kiq), .val (.ref a7), .val (.ref a15), .unset, .unset, .unset, .unset, .unset, .unset, .unset, .unset] [(.long (V71 + xq))])) tg
      refine XT.lconstV X61.here hx rfl (0 : Int64) (hb hby at_118) (by decide) ?_
      show Steps pg.tables e below (T61.setTop (mkF m 119 #[.val (.int ka), .val (.long xa), .second, .val (.int kb), .val (.long xb), .second, .val (.int kq), .val (.long xq), .second, .val (.int ia), .val (.int ib), .val (.int iq), .val (.ref kia), .val (.ref kib), .val (.ref kiq), .val (.ref a7), .val (.ref a15), .unset, .unset, .unset, .unset, .unset, .unset, .unset, .unset] [(.long (0 : Int64)), (.long (V71 + xq))])) tg
      rw [show V73 = (0 : Int64) from by rw [hV73, if_neg c74]] at kk
      exact kk
  refine own_go (S' := T61.setTop (mkF m 120 #[.val (.int ka), .val (.long xa), .second, .val (.int kb), .val (.long xb), .second, .val (.int kq), .val (.long xq), .second, .val (.int ia), .val (.int ib), .val (.int iq), .val (.ref kia), .val (.ref kib), .val (.ref kiq), .val (.ref a7), .val (.ref a15), .unset, .unset, .unset, .unset, .unset, .unset, .unset, .unset] [(.long ((V71 + xq) + V73))])) (fun tg kk => XT.ladd X61.here hx rfl (hb hby at_119) rfl kk) ?_
  refine own_go (S' := T61.setTop (mkF m 122 #[.val (.int ka), .val (.long xa), .second, .val (.int kb), .val (.long xb), .second, .val (.int kq), .val (.long xq), .second, .val (.int ia), .val (.int ib), .val (.int iq), .val (.ref kia), .val (.ref kib), .val (.ref kiq), .val (.ref a7), .val (.ref a15), .val (.long ((V71 + xq) + V73)), .second, .unset, .unset, .unset, .unset, .unset, .unset] [])) (fun tg kk => XT.lstore X61.here hx rfl (hb hby at_120) rfl (l' := #[.val (.int ka), .val (.long xa), .second, .val (.int kb), .val (.long xb), .second, .val (.int kq), .val (.long xq), .second, .val (.int ia), .val (.int ib), .val (.int iq), .val (.ref kia), .val (.ref kib), .val (.ref kiq), .val (.ref a7), .val (.ref a15), .val (.long ((V71 + xq) + V73)), .second, .unset, .unset, .unset, .unset, .unset, .unset]) rfl kk) ?_
  obtain ⟨V75, hV75⟩ : ∃ z : Int64, z = (if ia = (7 : Int32) then 0 else xa) := ⟨_, rfl⟩
  refine own_go (S' := T61.setTop (mkF m 134 #[.val (.int ka), .val (.long xa), .second, .val (.int kb), .val (.long xb), .second, .val (.int kq), .val (.long xq), .second, .val (.int ia), .val (.int ib), .val (.int iq), .val (.ref kia), .val (.ref kib), .val (.ref kiq), .val (.ref a7), .val (.ref a15), .val (.long ((V71 + xq) + V73)), .second, .unset, .unset, .unset, .unset, .unset, .unset] [(.long V75)])) (fun tg kk => ?_) ?_
  · refine XS.iload X61.here hx rfl (hb hby at_122) rfl ?_
    show Steps pg.tables e below (T61.setTop (mkF m 124 #[.val (.int ka), .val (.long xa), .second, .val (.int kb), .val (.long xb), .second, .val (.int kq), .val (.long xq), .second, .val (.int ia), .val (.int ib), .val (.int iq), .val (.ref kia), .val (.ref kib), .val (.ref kiq), .val (.ref a7), .val (.ref a15), .val (.long ((V71 + xq) + V73)), .second, .unset, .unset, .unset, .unset, .unset, .unset] [(.int ia)])) tg
    refine XT.bipushV X61.here hx rfl (7 : Int32) (hb hby at_124) (by decide) ?_
    show Steps pg.tables e below (T61.setTop (mkF m 126 #[.val (.int ka), .val (.long xa), .second, .val (.int kb), .val (.long xb), .second, .val (.int kq), .val (.long xq), .second, .val (.int ia), .val (.int ib), .val (.int iq), .val (.ref kia), .val (.ref kib), .val (.ref kiq), .val (.ref a7), .val (.ref a15), .val (.long ((V71 + xq) + V73)), .second, .unset, .unset, .unset, .unset, .unset, .unset] [(.int (7 : Int32)), (.int ia)])) tg
    by_cases c76 : ia = (7 : Int32)
    · refine XS.icmpYes X61.here hx rfl (pc0 := 126) (pc' := 133) rfl (hb hby at_126) rfl (XT.ii_eq_t c76) (by decide) (by decide) ?_
      show Steps pg.tables e below (T61.setTop (mkF m 133 #[.val (.int ka), .val (.long xa), .second, .val (.int kb), .val (.long xb), .second, .val (.int kq), .val (.long xq), .second, .val (.int ia), .val (.int ib), .val (.int iq), .val (.ref kia), .val (.ref kib), .val (.ref kiq), .val (.ref a7), .val (.ref a15), .val (.long ((V71 + xq) + V73)), .second, .unset, .unset, .unset, .unset, .unset, .unset] [])) tg
      refine XT.lconstV X61.here hx rfl (0 : Int64) (hb hby at_133) (by decide) ?_
      show Steps pg.tables e below (T61.setTop (mkF m 134 #[.val (.int ka), .val (.long xa), .second, .val (.int kb), .val (.long xb), .second, .val (.int kq), .val (.long xq), .second, .val (.int ia), .val (.int ib), .val (.int iq), .val (.ref kia), .val (.ref kib), .val (.ref kiq), .val (.ref a7), .val (.ref a15), .val (.long ((V71 + xq) + V73)), .second, .unset, .unset, .unset, .unset, .unset, .unset] [(.long (0 : Int64))])) tg
      rw [show V75 = (0 : Int64) from by rw [hV75, if_pos c76]] at kk
      exact kk
    · refine XS.icmpNo X61.here hx rfl (hb hby at_126) rfl (XT.ii_eq_f c76) ?_
      show Steps pg.tables e below (T61.setTop (mkF m 129 #[.val (.int ka), .val (.long xa), .second, .val (.int kb), .val (.long xb), .second, .val (.int kq), .val (.long xq), .second, .val (.int ia), .val (.int ib), .val (.int iq), .val (.ref kia), .val (.ref kib), .val (.ref kiq), .val (.ref a7), .val (.ref a15), .val (.long ((V71 + xq) + V73)), .second, .unset, .unset, .unset, .unset, .unset, .unset] [])) tg
      refine XT.lloadN X61.here hx rfl (hb hby at_129) rfl ?_
      show Steps pg.tables e below (T61.setTop (mkF m 130 #[.val (.int ka), .val (.long xa), .second, .val (.int kb), .val (.long xb), .second, .val (.int kq), .val (.long xq), .second, .val (.int ia), .val (.int ib), .val (.int iq), .val (.ref kia), .val (.ref kib), .val (.ref kiq), .val (.ref a7), .val (.ref a15), .val (.long ((V71 + xq) + V73)), .second, .unset, .unset, .unset, .unset, .unset, .unset] [(.long xa)])) tg
      refine XS.goto X61.here hx rfl (pc0 := 130) (pc' := 134) rfl (hb hby at_130) (by decide) (by decide) ?_
      show Steps pg.tables e below (T61.setTop (mkF m 134 #[.val (.int ka), .val (.long xa), .second, .val (.int kb), .val (.long xb), .second, .val (.int kq), .val (.long xq), .second, .val (.int ia), .val (.int ib), .val (.int iq), .val (.ref kia), .val (.ref kib), .val (.ref kiq), .val (.ref a7), .val (.ref a15), .val (.long ((V71 + xq) + V73)), .second, .unset, .unset, .unset, .unset, .unset, .unset] [(.long xa)])) tg
      rw [show V75 = xa from by rw [hV75, if_neg c76]] at kk
      exact kk
  obtain ⟨V77, hV77⟩ : ∃ z : Int64, z = (if iq = (7 : Int32) then 0 else xq) := ⟨_, rfl⟩
  refine own_go (S' := T61.setTop (mkF m 147 #[.val (.int ka), .val (.long xa), .second, .val (.int kb), .val (.long xb), .second, .val (.int kq), .val (.long xq), .second, .val (.int ia), .val (.int ib), .val (.int iq), .val (.ref kia), .val (.ref kib), .val (.ref kiq), .val (.ref a7), .val (.ref a15), .val (.long ((V71 + xq) + V73)), .second, .unset, .unset, .unset, .unset, .unset, .unset] [(.long V77), (.long V75)])) (fun tg kk => ?_) ?_
  · refine XS.iload X61.here hx rfl (hb hby at_134) rfl ?_
    show Steps pg.tables e below (T61.setTop (mkF m 136 #[.val (.int ka), .val (.long xa), .second, .val (.int kb), .val (.long xb), .second, .val (.int kq), .val (.long xq), .second, .val (.int ia), .val (.int ib), .val (.int iq), .val (.ref kia), .val (.ref kib), .val (.ref kiq), .val (.ref a7), .val (.ref a15), .val (.long ((V71 + xq) + V73)), .second, .unset, .unset, .unset, .unset, .unset, .unset] [(.int iq), (.long V75)])) tg
    refine XT.bipushV X61.here hx rfl (7 : Int32) (hb hby at_136) (by decide) ?_
    show Steps pg.tables e below (T61.setTop (mkF m 138 #[.val (.int ka), .val (.long xa), .second, .val (.int kb), .val (.long xb), .second, .val (.int kq), .val (.long xq), .second, .val (.int ia), .val (.int ib), .val (.int iq), .val (.ref kia), .val (.ref kib), .val (.ref kiq), .val (.ref a7), .val (.ref a15), .val (.long ((V71 + xq) + V73)), .second, .unset, .unset, .unset, .unset, .unset, .unset] [(.int (7 : Int32)), (.int iq), (.long V75)])) tg
    by_cases c78 : iq = (7 : Int32)
    · refine XS.icmpYes X61.here hx rfl (pc0 := 138) (pc' := 146) rfl (hb hby at_138) rfl (XT.ii_eq_t c78) (by decide) (by decide) ?_
      show Steps pg.tables e below (T61.setTop (mkF m 146 #[.val (.int ka), .val (.long xa), .second, .val (.int kb), .val (.long xb), .second, .val (.int kq), .val (.long xq), .second, .val (.int ia), .val (.int ib), .val (.int iq), .val (.ref kia), .val (.ref kib), .val (.ref kiq), .val (.ref a7), .val (.ref a15), .val (.long ((V71 + xq) + V73)), .second, .unset, .unset, .unset, .unset, .unset, .unset] [(.long V75)])) tg
      refine XT.lconstV X61.here hx rfl (0 : Int64) (hb hby at_146) (by decide) ?_
      show Steps pg.tables e below (T61.setTop (mkF m 147 #[.val (.int ka), .val (.long xa), .second, .val (.int kb), .val (.long xb), .second, .val (.int kq), .val (.long xq), .second, .val (.int ia), .val (.int ib), .val (.int iq), .val (.ref kia), .val (.ref kib), .val (.ref kiq), .val (.ref a7), .val (.ref a15), .val (.long ((V71 + xq) + V73)), .second, .unset, .unset, .unset, .unset, .unset, .unset] [(.long (0 : Int64)), (.long V75)])) tg
      rw [show V77 = (0 : Int64) from by rw [hV77, if_pos c78]] at kk
      exact kk
    · refine XS.icmpNo X61.here hx rfl (hb hby at_138) rfl (XT.ii_eq_f c78) ?_
      show Steps pg.tables e below (T61.setTop (mkF m 141 #[.val (.int ka), .val (.long xa), .second, .val (.int kb), .val (.long xb), .second, .val (.int kq), .val (.long xq), .second, .val (.int ia), .val (.int ib), .val (.int iq), .val (.ref kia), .val (.ref kib), .val (.ref kiq), .val (.ref a7), .val (.ref a15), .val (.long ((V71 + xq) + V73)), .second, .unset, .unset, .unset, .unset, .unset, .unset] [(.long V75)])) tg
      refine XT.lload X61.here hx rfl (hb hby at_141) rfl ?_
      show Steps pg.tables e below (T61.setTop (mkF m 143 #[.val (.int ka), .val (.long xa), .second, .val (.int kb), .val (.long xb), .second, .val (.int kq), .val (.long xq), .second, .val (.int ia), .val (.int ib), .val (.int iq), .val (.ref kia), .val (.ref kib), .val (.ref kiq), .val (.ref a7), .val (.ref a15), .val (.long ((V71 + xq) + V73)), .second, .unset, .unset, .unset, .unset, .unset, .unset] [(.long xq), (.long V75)])) tg
      refine XS.goto X61.here hx rfl (pc0 := 143) (pc' := 147) rfl (hb hby at_143) (by decide) (by decide) ?_
      show Steps pg.tables e below (T61.setTop (mkF m 147 #[.val (.int ka), .val (.long xa), .second, .val (.int kb), .val (.long xb), .second, .val (.int kq), .val (.long xq), .second, .val (.int ia), .val (.int ib), .val (.int iq), .val (.ref kia), .val (.ref kib), .val (.ref kiq), .val (.ref a7), .val (.ref a15), .val (.long ((V71 + xq) + V73)), .second, .unset, .unset, .unset, .unset, .unset, .unset] [(.long xq), (.long V75)])) tg
      rw [show V77 = xq from by rw [hV77, if_neg c78]] at kk
      exact kk
  refine own_go (S' := T61.setTop (mkF m 148 #[.val (.int ka), .val (.long xa), .second, .val (.int kb), .val (.long xb), .second, .val (.int kq), .val (.long xq), .second, .val (.int ia), .val (.int ib), .val (.int iq), .val (.ref kia), .val (.ref kib), .val (.ref kiq), .val (.ref a7), .val (.ref a15), .val (.long ((V71 + xq) + V73)), .second, .unset, .unset, .unset, .unset, .unset, .unset] [(.long (V75 + V77))])) (fun tg kk => XT.ladd X61.here hx rfl (hb hby at_147) rfl kk) ?_
  obtain ⟨V79, hV79⟩ : ∃ z : Int64, z = (if ib = (7 : Int32) then 0 else xb) := ⟨_, rfl⟩
  refine own_go (S' := T61.setTop (mkF m 161 #[.val (.int ka), .val (.long xa), .second, .val (.int kb), .val (.long xb), .second, .val (.int kq), .val (.long xq), .second, .val (.int ia), .val (.int ib), .val (.int iq), .val (.ref kia), .val (.ref kib), .val (.ref kiq), .val (.ref a7), .val (.ref a15), .val (.long ((V71 + xq) + V73)), .second, .unset, .unset, .unset, .unset, .unset, .unset] [(.long V79), (.long (V75 + V77))])) (fun tg kk => ?_) ?_
  · refine XS.iload X61.here hx rfl (hb hby at_148) rfl ?_
    show Steps pg.tables e below (T61.setTop (mkF m 150 #[.val (.int ka), .val (.long xa), .second, .val (.int kb), .val (.long xb), .second, .val (.int kq), .val (.long xq), .second, .val (.int ia), .val (.int ib), .val (.int iq), .val (.ref kia), .val (.ref kib), .val (.ref kiq), .val (.ref a7), .val (.ref a15), .val (.long ((V71 + xq) + V73)), .second, .unset, .unset, .unset, .unset, .unset, .unset] [(.int ib), (.long (V75 + V77))])) tg
    refine XT.bipushV X61.here hx rfl (7 : Int32) (hb hby at_150) (by decide) ?_
    show Steps pg.tables e below (T61.setTop (mkF m 152 #[.val (.int ka), .val (.long xa), .second, .val (.int kb), .val (.long xb), .second, .val (.int kq), .val (.long xq), .second, .val (.int ia), .val (.int ib), .val (.int iq), .val (.ref kia), .val (.ref kib), .val (.ref kiq), .val (.ref a7), .val (.ref a15), .val (.long ((V71 + xq) + V73)), .second, .unset, .unset, .unset, .unset, .unset, .unset] [(.int (7 : Int32)), (.int ib), (.long (V75 + V77))])) tg
    by_cases c80 : ib = (7 : Int32)
    · refine XS.icmpYes X61.here hx rfl (pc0 := 152) (pc' := 160) rfl (hb hby at_152) rfl (XT.ii_eq_t c80) (by decide) (by decide) ?_
      show Steps pg.tables e below (T61.setTop (mkF m 160 #[.val (.int ka), .val (.long xa), .second, .val (.int kb), .val (.long xb), .second, .val (.int kq), .val (.long xq), .second, .val (.int ia), .val (.int ib), .val (.int iq), .val (.ref kia), .val (.ref kib), .val (.ref kiq), .val (.ref a7), .val (.ref a15), .val (.long ((V71 + xq) + V73)), .second, .unset, .unset, .unset, .unset, .unset, .unset] [(.long (V75 + V77))])) tg
      refine XT.lconstV X61.here hx rfl (0 : Int64) (hb hby at_160) (by decide) ?_
      show Steps pg.tables e below (T61.setTop (mkF m 161 #[.val (.int ka), .val (.long xa), .second, .val (.int kb), .val (.long xb), .second, .val (.int kq), .val (.long xq), .second, .val (.int ia), .val (.int ib), .val (.int iq), .val (.ref kia), .val (.ref kib), .val (.ref kiq), .val (.ref a7), .val (.ref a15), .val (.long ((V71 + xq) + V73)), .second, .unset, .unset, .unset, .unset, .unset, .unset] [(.long (0 : Int64)), (.long (V75 + V77))])) tg
      rw [show V79 = (0 : Int64) from by rw [hV79, if_pos c80]] at kk
      exact kk
    · refine XS.icmpNo X61.here hx rfl (hb hby at_152) rfl (XT.ii_eq_f c80) ?_
      show Steps pg.tables e below (T61.setTop (mkF m 155 #[.val (.int ka), .val (.long xa), .second, .val (.int kb), .val (.long xb), .second, .val (.int kq), .val (.long xq), .second, .val (.int ia), .val (.int ib), .val (.int iq), .val (.ref kia), .val (.ref kib), .val (.ref kiq), .val (.ref a7), .val (.ref a15), .val (.long ((V71 + xq) + V73)), .second, .unset, .unset, .unset, .unset, .unset, .unset] [(.long (V75 + V77))])) tg
      refine XT.lload X61.here hx rfl (hb hby at_155) rfl ?_
      show Steps pg.tables e below (T61.setTop (mkF m 157 #[.val (.int ka), .val (.long xa), .second, .val (.int kb), .val (.long xb), .second, .val (.int kq), .val (.long xq), .second, .val (.int ia), .val (.int ib), .val (.int iq), .val (.ref kia), .val (.ref kib), .val (.ref kiq), .val (.ref a7), .val (.ref a15), .val (.long ((V71 + xq) + V73)), .second, .unset, .unset, .unset, .unset, .unset, .unset] [(.long xb), (.long (V75 + V77))])) tg
      refine XS.goto X61.here hx rfl (pc0 := 157) (pc' := 161) rfl (hb hby at_157) (by decide) (by decide) ?_
      show Steps pg.tables e below (T61.setTop (mkF m 161 #[.val (.int ka), .val (.long xa), .second, .val (.int kb), .val (.long xb), .second, .val (.int kq), .val (.long xq), .second, .val (.int ia), .val (.int ib), .val (.int iq), .val (.ref kia), .val (.ref kib), .val (.ref kiq), .val (.ref a7), .val (.ref a15), .val (.long ((V71 + xq) + V73)), .second, .unset, .unset, .unset, .unset, .unset, .unset] [(.long xb), (.long (V75 + V77))])) tg
      rw [show V79 = xb from by rw [hV79, if_neg c80]] at kk
      exact kk
  refine own_go (S' := T61.setTop (mkF m 162 #[.val (.int ka), .val (.long xa), .second, .val (.int kb), .val (.long xb), .second, .val (.int kq), .val (.long xq), .second, .val (.int ia), .val (.int ib), .val (.int iq), .val (.ref kia), .val (.ref kib), .val (.ref kiq), .val (.ref a7), .val (.ref a15), .val (.long ((V71 + xq) + V73)), .second, .unset, .unset, .unset, .unset, .unset, .unset] [(.long ((V75 + V77) + V79))])) (fun tg kk => XT.ladd X61.here hx rfl (hb hby at_161) rfl kk) ?_
  refine own_go (S' := T61.setTop (mkF m 164 #[.val (.int ka), .val (.long xa), .second, .val (.int kb), .val (.long xb), .second, .val (.int kq), .val (.long xq), .second, .val (.int ia), .val (.int ib), .val (.int iq), .val (.ref kia), .val (.ref kib), .val (.ref kiq), .val (.ref a7), .val (.ref a15), .val (.long ((V71 + xq) + V73)), .second, .val (.long ((V75 + V77) + V79)), .second, .unset, .unset, .unset, .unset] [])) (fun tg kk => XT.lstore X61.here hx rfl (hb hby at_162) rfl (l' := #[.val (.int ka), .val (.long xa), .second, .val (.int kb), .val (.long xb), .second, .val (.int kq), .val (.long xq), .second, .val (.int ia), .val (.int ib), .val (.int iq), .val (.ref kia), .val (.ref kib), .val (.ref kiq), .val (.ref a7), .val (.ref a15), .val (.long ((V71 + xq) + V73)), .second, .val (.long ((V75 + V77) + V79)), .second, .unset, .unset, .unset, .unset]) rfl kk) ?_
  obtain ⟨V81, hV81⟩ : ∃ z : Int64, z = (if iq = ib then xb else 0) := ⟨_, rfl⟩
  refine own_go (S' := T61.setTop (mkF m 177 #[.val (.int ka), .val (.long xa), .second, .val (.int kb), .val (.long xb), .second, .val (.int kq), .val (.long xq), .second, .val (.int ia), .val (.int ib), .val (.int iq), .val (.ref kia), .val (.ref kib), .val (.ref kiq), .val (.ref a7), .val (.ref a15), .val (.long ((V71 + xq) + V73)), .second, .val (.long ((V75 + V77) + V79)), .second, .unset, .unset, .unset, .unset] [(.long V81)])) (fun tg kk => ?_) ?_
  · refine XS.iload X61.here hx rfl (hb hby at_164) rfl ?_
    show Steps pg.tables e below (T61.setTop (mkF m 166 #[.val (.int ka), .val (.long xa), .second, .val (.int kb), .val (.long xb), .second, .val (.int kq), .val (.long xq), .second, .val (.int ia), .val (.int ib), .val (.int iq), .val (.ref kia), .val (.ref kib), .val (.ref kiq), .val (.ref a7), .val (.ref a15), .val (.long ((V71 + xq) + V73)), .second, .val (.long ((V75 + V77) + V79)), .second, .unset, .unset, .unset, .unset] [(.int iq)])) tg
    refine XS.iload X61.here hx rfl (hb hby at_166) rfl ?_
    show Steps pg.tables e below (T61.setTop (mkF m 168 #[.val (.int ka), .val (.long xa), .second, .val (.int kb), .val (.long xb), .second, .val (.int kq), .val (.long xq), .second, .val (.int ia), .val (.int ib), .val (.int iq), .val (.ref kia), .val (.ref kib), .val (.ref kiq), .val (.ref a7), .val (.ref a15), .val (.long ((V71 + xq) + V73)), .second, .val (.long ((V75 + V77) + V79)), .second, .unset, .unset, .unset, .unset] [(.int ib), (.int iq)])) tg
    by_cases c82 : iq = ib
    · refine XS.icmpNo X61.here hx rfl (hb hby at_168) rfl (XT.ii_ne_f c82) ?_
      show Steps pg.tables e below (T61.setTop (mkF m 171 #[.val (.int ka), .val (.long xa), .second, .val (.int kb), .val (.long xb), .second, .val (.int kq), .val (.long xq), .second, .val (.int ia), .val (.int ib), .val (.int iq), .val (.ref kia), .val (.ref kib), .val (.ref kiq), .val (.ref a7), .val (.ref a15), .val (.long ((V71 + xq) + V73)), .second, .val (.long ((V75 + V77) + V79)), .second, .unset, .unset, .unset, .unset] [])) tg
      refine XT.lload X61.here hx rfl (hb hby at_171) rfl ?_
      show Steps pg.tables e below (T61.setTop (mkF m 173 #[.val (.int ka), .val (.long xa), .second, .val (.int kb), .val (.long xb), .second, .val (.int kq), .val (.long xq), .second, .val (.int ia), .val (.int ib), .val (.int iq), .val (.ref kia), .val (.ref kib), .val (.ref kiq), .val (.ref a7), .val (.ref a15), .val (.long ((V71 + xq) + V73)), .second, .val (.long ((V75 + V77) + V79)), .second, .unset, .unset, .unset, .unset] [(.long xb)])) tg
      refine XS.goto X61.here hx rfl (pc0 := 173) (pc' := 177) rfl (hb hby at_173) (by decide) (by decide) ?_
      show Steps pg.tables e below (T61.setTop (mkF m 177 #[.val (.int ka), .val (.long xa), .second, .val (.int kb), .val (.long xb), .second, .val (.int kq), .val (.long xq), .second, .val (.int ia), .val (.int ib), .val (.int iq), .val (.ref kia), .val (.ref kib), .val (.ref kiq), .val (.ref a7), .val (.ref a15), .val (.long ((V71 + xq) + V73)), .second, .val (.long ((V75 + V77) + V79)), .second, .unset, .unset, .unset, .unset] [(.long xb)])) tg
      rw [show V81 = xb from by rw [hV81, if_pos c82]] at kk
      exact kk
    · refine XS.icmpYes X61.here hx rfl (pc0 := 168) (pc' := 176) rfl (hb hby at_168) rfl (XT.ii_ne_t c82) (by decide) (by decide) ?_
      show Steps pg.tables e below (T61.setTop (mkF m 176 #[.val (.int ka), .val (.long xa), .second, .val (.int kb), .val (.long xb), .second, .val (.int kq), .val (.long xq), .second, .val (.int ia), .val (.int ib), .val (.int iq), .val (.ref kia), .val (.ref kib), .val (.ref kiq), .val (.ref a7), .val (.ref a15), .val (.long ((V71 + xq) + V73)), .second, .val (.long ((V75 + V77) + V79)), .second, .unset, .unset, .unset, .unset] [])) tg
      refine XT.lconstV X61.here hx rfl (0 : Int64) (hb hby at_176) (by decide) ?_
      show Steps pg.tables e below (T61.setTop (mkF m 177 #[.val (.int ka), .val (.long xa), .second, .val (.int kb), .val (.long xb), .second, .val (.int kq), .val (.long xq), .second, .val (.int ia), .val (.int ib), .val (.int iq), .val (.ref kia), .val (.ref kib), .val (.ref kiq), .val (.ref a7), .val (.ref a15), .val (.long ((V71 + xq) + V73)), .second, .val (.long ((V75 + V77) + V79)), .second, .unset, .unset, .unset, .unset] [(.long (0 : Int64))])) tg
      rw [show V81 = (0 : Int64) from by rw [hV81, if_neg c82]] at kk
      exact kk
  refine own_go (S' := T61.setTop (mkF m 179 #[.val (.int ka), .val (.long xa), .second, .val (.int kb), .val (.long xb), .second, .val (.int kq), .val (.long xq), .second, .val (.int ia), .val (.int ib), .val (.int iq), .val (.ref kia), .val (.ref kib), .val (.ref kiq), .val (.ref a7), .val (.ref a15), .val (.long ((V71 + xq) + V73)), .second, .val (.long ((V75 + V77) + V79)), .second, .val (.long V81), .second, .unset, .unset] [])) (fun tg kk => XT.lstore X61.here hx rfl (hb hby at_177) rfl (l' := #[.val (.int ka), .val (.long xa), .second, .val (.int kb), .val (.long xb), .second, .val (.int kq), .val (.long xq), .second, .val (.int ia), .val (.int ib), .val (.int iq), .val (.ref kia), .val (.ref kib), .val (.ref kiq), .val (.ref a7), .val (.ref a15), .val (.long ((V71 + xq) + V73)), .second, .val (.long ((V75 + V77) + V79)), .second, .val (.long V81), .second, .unset, .unset]) rfl kk) ?_
  obtain ⟨V83, hV83⟩ : ∃ z : Int64, z = (if ib = (7 : Int32) then 0 else xb) := ⟨_, rfl⟩
  refine own_go (S' := T61.setTop (mkF m 192 #[.val (.int ka), .val (.long xa), .second, .val (.int kb), .val (.long xb), .second, .val (.int kq), .val (.long xq), .second, .val (.int ia), .val (.int ib), .val (.int iq), .val (.ref kia), .val (.ref kib), .val (.ref kiq), .val (.ref a7), .val (.ref a15), .val (.long ((V71 + xq) + V73)), .second, .val (.long ((V75 + V77) + V79)), .second, .val (.long V81), .second, .unset, .unset] [(.long V83)])) (fun tg kk => ?_) ?_
  · refine XS.iload X61.here hx rfl (hb hby at_179) rfl ?_
    show Steps pg.tables e below (T61.setTop (mkF m 181 #[.val (.int ka), .val (.long xa), .second, .val (.int kb), .val (.long xb), .second, .val (.int kq), .val (.long xq), .second, .val (.int ia), .val (.int ib), .val (.int iq), .val (.ref kia), .val (.ref kib), .val (.ref kiq), .val (.ref a7), .val (.ref a15), .val (.long ((V71 + xq) + V73)), .second, .val (.long ((V75 + V77) + V79)), .second, .val (.long V81), .second, .unset, .unset] [(.int ib)])) tg
    refine XT.bipushV X61.here hx rfl (7 : Int32) (hb hby at_181) (by decide) ?_
    show Steps pg.tables e below (T61.setTop (mkF m 183 #[.val (.int ka), .val (.long xa), .second, .val (.int kb), .val (.long xb), .second, .val (.int kq), .val (.long xq), .second, .val (.int ia), .val (.int ib), .val (.int iq), .val (.ref kia), .val (.ref kib), .val (.ref kiq), .val (.ref a7), .val (.ref a15), .val (.long ((V71 + xq) + V73)), .second, .val (.long ((V75 + V77) + V79)), .second, .val (.long V81), .second, .unset, .unset] [(.int (7 : Int32)), (.int ib)])) tg
    by_cases c84 : ib = (7 : Int32)
    · refine XS.icmpYes X61.here hx rfl (pc0 := 183) (pc' := 191) rfl (hb hby at_183) rfl (XT.ii_eq_t c84) (by decide) (by decide) ?_
      show Steps pg.tables e below (T61.setTop (mkF m 191 #[.val (.int ka), .val (.long xa), .second, .val (.int kb), .val (.long xb), .second, .val (.int kq), .val (.long xq), .second, .val (.int ia), .val (.int ib), .val (.int iq), .val (.ref kia), .val (.ref kib), .val (.ref kiq), .val (.ref a7), .val (.ref a15), .val (.long ((V71 + xq) + V73)), .second, .val (.long ((V75 + V77) + V79)), .second, .val (.long V81), .second, .unset, .unset] [])) tg
      refine XT.lconstV X61.here hx rfl (0 : Int64) (hb hby at_191) (by decide) ?_
      show Steps pg.tables e below (T61.setTop (mkF m 192 #[.val (.int ka), .val (.long xa), .second, .val (.int kb), .val (.long xb), .second, .val (.int kq), .val (.long xq), .second, .val (.int ia), .val (.int ib), .val (.int iq), .val (.ref kia), .val (.ref kib), .val (.ref kiq), .val (.ref a7), .val (.ref a15), .val (.long ((V71 + xq) + V73)), .second, .val (.long ((V75 + V77) + V79)), .second, .val (.long V81), .second, .unset, .unset] [(.long (0 : Int64))])) tg
      rw [show V83 = (0 : Int64) from by rw [hV83, if_pos c84]] at kk
      exact kk
    · refine XS.icmpNo X61.here hx rfl (hb hby at_183) rfl (XT.ii_eq_f c84) ?_
      show Steps pg.tables e below (T61.setTop (mkF m 186 #[.val (.int ka), .val (.long xa), .second, .val (.int kb), .val (.long xb), .second, .val (.int kq), .val (.long xq), .second, .val (.int ia), .val (.int ib), .val (.int iq), .val (.ref kia), .val (.ref kib), .val (.ref kiq), .val (.ref a7), .val (.ref a15), .val (.long ((V71 + xq) + V73)), .second, .val (.long ((V75 + V77) + V79)), .second, .val (.long V81), .second, .unset, .unset] [])) tg
      refine XT.lload X61.here hx rfl (hb hby at_186) rfl ?_
      show Steps pg.tables e below (T61.setTop (mkF m 188 #[.val (.int ka), .val (.long xa), .second, .val (.int kb), .val (.long xb), .second, .val (.int kq), .val (.long xq), .second, .val (.int ia), .val (.int ib), .val (.int iq), .val (.ref kia), .val (.ref kib), .val (.ref kiq), .val (.ref a7), .val (.ref a15), .val (.long ((V71 + xq) + V73)), .second, .val (.long ((V75 + V77) + V79)), .second, .val (.long V81), .second, .unset, .unset] [(.long xb)])) tg
      refine XS.goto X61.here hx rfl (pc0 := 188) (pc' := 192) rfl (hb hby at_188) (by decide) (by decide) ?_
      show Steps pg.tables e below (T61.setTop (mkF m 192 #[.val (.int ka), .val (.long xa), .second, .val (.int kb), .val (.long xb), .second, .val (.int kq), .val (.long xq), .second, .val (.int ia), .val (.int ib), .val (.int iq), .val (.ref kia), .val (.ref kib), .val (.ref kiq), .val (.ref a7), .val (.ref a15), .val (.long ((V71 + xq) + V73)), .second, .val (.long ((V75 + V77) + V79)), .second, .val (.long V81), .second, .unset, .unset] [(.long xb)])) tg
      rw [show V83 = xb from by rw [hV83, if_neg c84]] at kk
      exact kk
  refine own_go (S' := T61.setTop (mkF m 194 #[.val (.int ka), .val (.long xa), .second, .val (.int kb), .val (.long xb), .second, .val (.int kq), .val (.long xq), .second, .val (.int ia), .val (.int ib), .val (.int iq), .val (.ref kia), .val (.ref kib), .val (.ref kiq), .val (.ref a7), .val (.ref a15), .val (.long ((V71 + xq) + V73)), .second, .val (.long ((V75 + V77) + V79)), .second, .val (.long V81), .second, .val (.long V83), .second] [])) (fun tg kk => XT.lstore X61.here hx rfl (hb hby at_192) rfl (l' := #[.val (.int ka), .val (.long xa), .second, .val (.int kb), .val (.long xb), .second, .val (.int kq), .val (.long xq), .second, .val (.int ia), .val (.int ib), .val (.int iq), .val (.ref kia), .val (.ref kib), .val (.ref kiq), .val (.ref a7), .val (.ref a15), .val (.long ((V71 + xq) + V73)), .second, .val (.long ((V75 + V77) + V79)), .second, .val (.long V81), .second, .val (.long V83), .second]) rfl kk) ?_
  refine own_go (S' := T61.setTop (mkF m 196 #[.val (.int ka), .val (.long xa), .second, .val (.int kb), .val (.long xb), .second, .val (.int kq), .val (.long xq), .second, .val (.int ia), .val (.int ib), .val (.int iq), .val (.ref kia), .val (.ref kib), .val (.ref kiq), .val (.ref a7), .val (.ref a15), .val (.long ((V71 + xq) + V73)), .second, .val (.long ((V75 + V77) + V79)), .second, .val (.long V81), .second, .val (.long V83), .second] [(.ref a7)])) (fun tg kk => XS.aload X61.here hx rfl (hb hby at_194) rfl rfl kk) ?_
  refine own_go (S' := T61.setTop (mkF m 198 #[.val (.int ka), .val (.long xa), .second, .val (.int kb), .val (.long xb), .second, .val (.int kq), .val (.long xq), .second, .val (.int ia), .val (.int ib), .val (.int iq), .val (.ref kia), .val (.ref kib), .val (.ref kiq), .val (.ref a7), .val (.ref a15), .val (.long ((V71 + xq) + V73)), .second, .val (.long ((V75 + V77) + V79)), .second, .val (.long V81), .second, .val (.long V83), .second] [(.ref kiq), (.ref a7)])) (fun tg kk => XS.aload X61.here hx rfl (hb hby at_196) rfl rfl kk) ?_
  obtain ⟨cq85, kq85, qa85, qb85, qc85⟩ := isOf hZ e61 E65
  obtain ⟨v85, _, ⟨T85, L85, k85, n85⟩, -, X85, ⟨Lc85, hQ85, l85, y85, z85⟩, st85⟩ := X61.virtualBack hx (y := (⟨"spanwire/protocol/MessageCounts", "get", "(Lspanwire/protocol/MessageKind;)J"⟩ : MethodName)) (z := (⟨"spanwire/protocol/MessageCounts", "get", "(Lspanwire/protocol/MessageKind;)J"⟩ : MethodName)) hown (mvT hZ (hw _ (List.mem_of_getElem? (i := 70) rfl))) (mvT hZ (hw _ (List.mem_of_getElem? (i := 71) rfl))) (notFace_of_selects (args := #[]) (mvT hZ (hw _ (List.mem_of_getElem? (i := 73) rfl)))) (mvT hZ (hw _ (List.mem_of_getElem? (i := 73) rfl))) (mvT hZ (hw _ (List.mem_of_getElem? (i := 72) rfl))) (by decide) (backOf (W := 0) (rm9 l Z a0 hw [] a7 ca10 kc10 kiq iq (own_sum (own_upd (own_upd own_zero ia xa) iq xq) (own_upd own_zero ib xb)) h61 n0 Z70 O69 G61_0 G61_2 Ekiq Fkiq hoiq) hZ (hw _ (List.mem_of_getElem? (i := 74) rfl)) (hw _ (List.mem_of_getElem? (i := 13) rfl)) (by decide) (by decide)) qa85 qc85 (g := (mkF m 198 #[.val (.int ka), .val (.long xa), .second, .val (.int kb), .val (.long xb), .second, .val (.int kq), .val (.long xq), .second, .val (.int ia), .val (.int ib), .val (.int iq), .val (.ref kia), .val (.ref kib), .val (.ref kiq), .val (.ref a7), .val (.ref a15), .val (.long ((V71 + xq) + V73)), .second, .val (.long ((V75 + V77) + V79)), .second, .val (.long V81), .second, .val (.long V83), .second] [(.ref kiq), (.ref a7)])) rfl (by rw [hml]; rfl) (Steps.refl _) (argsL := [(.ref kiq)]) (rest := []) (lenOf pd__Lspanwire_protocol_MessageKind__J rfl) rfl (by show 2 * 0 + _ ≤ _; exact Nat.le_of_eq rfl) (hb hby at_198) (fun _ _ => ⟨rfl, e61, (by decide : 6 + 0 ≤ _), (by decide : 36 + 0 ≤ _)⟩)
  dsimp only [Pt.U, Pt.locs, Pt.cells, Pt.slots] at X85 l85 y85 z85 st85 hQ85
  subst l85 y85 z85
  obtain ⟨rfl, M86, e85⟩ := hQ85
  have N86 := Fr.app N62 M86
  refine own_to (S' := T85.setTop (mkF m 201 #[.val (.int ka), .val (.long xa), .second, .val (.int kb), .val (.long xb), .second, .val (.int kq), .val (.long xq), .second, .val (.int ia), .val (.int ib), .val (.int iq), .val (.ref kia), .val (.ref kib), .val (.ref kiq), .val (.ref a7), .val (.ref a15), .val (.long ((V71 + xq) + V73)), .second, .val (.long ((V75 + V77) + V79)), .second, .val (.long V81), .second, .val (.long V83), .second] [(.long ((own_sum (own_upd (own_upd own_zero ia xa) iq xq) (own_upd own_zero ib xb)) iq.toNatClampNeg))])) st85 ?_
  refine own_go (S' := T85.setTop (mkF m 203 #[.val (.int ka), .val (.long xa), .second, .val (.int kb), .val (.long xb), .second, .val (.int kq), .val (.long xq), .second, .val (.int ia), .val (.int ib), .val (.int iq), .val (.ref kia), .val (.ref kib), .val (.ref kiq), .val (.ref a7), .val (.ref a15), .val (.long ((V71 + xq) + V73)), .second, .val (.long ((V75 + V77) + V79)), .second, .val (.long V81), .second, .val (.long V83), .second] [(.long ((V71 + xq) + V73)), (.long ((own_sum (own_upd (own_upd own_zero ia xa) iq xq) (own_upd own_zero ib xb)) iq.toNatClampNeg))])) (fun tg kk => XT.lload X85.here hx rfl (hb hby at_201) rfl kk) ?_
  refine own_go (S' := T85.setTop (mkF m 204 #[.val (.int ka), .val (.long xa), .second, .val (.int kb), .val (.long xb), .second, .val (.int kq), .val (.long xq), .second, .val (.int ia), .val (.int ib), .val (.int iq), .val (.ref kia), .val (.ref kib), .val (.ref kiq), .val (.ref a7), .val (.ref a15), .val (.long ((V71 + xq) + V73)), .second, .val (.long ((V75 + V77) + V79)), .second, .val (.long V81), .second, .val (.long V83), .second] [(.int (XT.cmpL ((own_sum (own_upd (own_upd own_zero ia xa) iq xq) (own_upd own_zero ib xb)) iq.toNatClampNeg) ((V71 + xq) + V73)))])) (fun tg kk => XT.lcmp X85.here hx rfl (hb hby at_203) rfl kk) ?_
  refine own_go (S' := T85.setTop (mkF m 207 #[.val (.int ka), .val (.long xa), .second, .val (.int kb), .val (.long xb), .second, .val (.int kq), .val (.long xq), .second, .val (.int ia), .val (.int ib), .val (.int iq), .val (.ref kia), .val (.ref kib), .val (.ref kiq), .val (.ref a7), .val (.ref a15), .val (.long ((V71 + xq) + V73)), .second, .val (.long ((V75 + V77) + V79)), .second, .val (.long V81), .second, .val (.long V83), .second] [])) (fun tg kk => XS.ifNo X85.here hx rfl (hb hby at_204) rfl (XT.ll_ne_f (by rw [hV71, hV73]; exact own_lawAQ xa xb xq (own_nn hoia) (own_nn hoib) (own_nn hoiq))) kk) ?_
  refine own_go (S' := T85.setTop (mkF m 209 #[.val (.int ka), .val (.long xa), .second, .val (.int kb), .val (.long xb), .second, .val (.int kq), .val (.long xq), .second, .val (.int ia), .val (.int ib), .val (.int iq), .val (.ref kia), .val (.ref kib), .val (.ref kiq), .val (.ref a7), .val (.ref a15), .val (.long ((V71 + xq) + V73)), .second, .val (.long ((V75 + V77) + V79)), .second, .val (.long V81), .second, .val (.long V83), .second] [(.ref a7)])) (fun tg kk => XS.aload X85.here hx rfl (hb hby at_207) rfl rfl kk) ?_
  obtain ⟨cq87, kq87, qa87, qb87, qc87⟩ := isOf hZ e85 E65
  obtain ⟨v87, _, ⟨T87, L87, k87, n87⟩, -, X87, ⟨Lc87, hQ87, l87, y87, z87⟩, st87⟩ := X85.virtualBack hx (y := (⟨"spanwire/protocol/MessageCounts", "total", "()J"⟩ : MethodName)) (z := (⟨"spanwire/protocol/MessageCounts", "total", "()J"⟩ : MethodName)) hown (mvT hZ (hw _ (List.mem_of_getElem? (i := 75) rfl))) (mvT hZ (hw _ (List.mem_of_getElem? (i := 76) rfl))) (notFace_of_selects (args := #[]) (mvT hZ (hw _ (List.mem_of_getElem? (i := 78) rfl)))) (mvT hZ (hw _ (List.mem_of_getElem? (i := 78) rfl))) (mvT hZ (hw _ (List.mem_of_getElem? (i := 77) rfl))) (by decide) (backOf (W := 0) (rm10 l Z a0 hw [] a7 ((own_tot kiq s7 (own_tot kia s7 (0 : Int64) xa) xq) + (own_tot kib s7 (0 : Int64) xb)) h61 n0 Z70 G61_1) hZ (hw _ (List.mem_of_getElem? (i := 79) rfl)) (hw _ (List.mem_of_getElem? (i := 13) rfl)) (by decide) (by decide)) qa87 qc87 (g := (mkF m 209 #[.val (.int ka), .val (.long xa), .second, .val (.int kb), .val (.long xb), .second, .val (.int kq), .val (.long xq), .second, .val (.int ia), .val (.int ib), .val (.int iq), .val (.ref kia), .val (.ref kib), .val (.ref kiq), .val (.ref a7), .val (.ref a15), .val (.long ((V71 + xq) + V73)), .second, .val (.long ((V75 + V77) + V79)), .second, .val (.long V81), .second, .val (.long V83), .second] [(.ref a7)])) rfl (by rw [hml]; rfl) (Steps.refl _) (argsL := []) (rest := []) (lenOf pd___J rfl) rfl (by show 2 * 0 + _ ≤ _; exact Nat.le_of_eq rfl) (hb hby at_209) (fun _ _ => ⟨rfl, e85, (by decide : 6 + 0 ≤ _), (by decide : 36 + 0 ≤ _)⟩)
  dsimp only [Pt.U, Pt.locs, Pt.cells, Pt.slots] at X87 l87 y87 z87 st87 hQ87
  subst l87 y87 z87
  obtain ⟨rfl, M88, e87⟩ := hQ87
  have N88 := Fr.app N86 M88
  refine own_to (S' := T87.setTop (mkF m 212 #[.val (.int ka), .val (.long xa), .second, .val (.int kb), .val (.long xb), .second, .val (.int kq), .val (.long xq), .second, .val (.int ia), .val (.int ib), .val (.int iq), .val (.ref kia), .val (.ref kib), .val (.ref kiq), .val (.ref a7), .val (.ref a15), .val (.long ((V71 + xq) + V73)), .second, .val (.long ((V75 + V77) + V79)), .second, .val (.long V81), .second, .val (.long V83), .second] [(.long ((own_tot kiq s7 (own_tot kia s7 (0 : Int64) xa) xq) + (own_tot kib s7 (0 : Int64) xb)))])) st87 ?_
  refine own_go (S' := T87.setTop (mkF m 214 #[.val (.int ka), .val (.long xa), .second, .val (.int kb), .val (.long xb), .second, .val (.int kq), .val (.long xq), .second, .val (.int ia), .val (.int ib), .val (.int iq), .val (.ref kia), .val (.ref kib), .val (.ref kiq), .val (.ref a7), .val (.ref a15), .val (.long ((V71 + xq) + V73)), .second, .val (.long ((V75 + V77) + V79)), .second, .val (.long V81), .second, .val (.long V83), .second] [(.long ((V75 + V77) + V79)), (.long ((own_tot kiq s7 (own_tot kia s7 (0 : Int64) xa) xq) + (own_tot kib s7 (0 : Int64) xb)))])) (fun tg kk => XT.lload X87.here hx rfl (hb hby at_212) rfl kk) ?_
  refine own_go (S' := T87.setTop (mkF m 215 #[.val (.int ka), .val (.long xa), .second, .val (.int kb), .val (.long xb), .second, .val (.int kq), .val (.long xq), .second, .val (.int ia), .val (.int ib), .val (.int iq), .val (.ref kia), .val (.ref kib), .val (.ref kiq), .val (.ref a7), .val (.ref a15), .val (.long ((V71 + xq) + V73)), .second, .val (.long ((V75 + V77) + V79)), .second, .val (.long V81), .second, .val (.long V83), .second] [(.int (XT.cmpL ((own_tot kiq s7 (own_tot kia s7 (0 : Int64) xa) xq) + (own_tot kib s7 (0 : Int64) xb)) ((V75 + V77) + V79)))])) (fun tg kk => XT.lcmp X87.here hx rfl (hb hby at_214) rfl kk) ?_
  refine own_go (S' := T87.setTop (mkF m 218 #[.val (.int ka), .val (.long xa), .second, .val (.int kb), .val (.long xb), .second, .val (.int kq), .val (.long xq), .second, .val (.int ia), .val (.int ib), .val (.int iq), .val (.ref kia), .val (.ref kib), .val (.ref kiq), .val (.ref a7), .val (.ref a15), .val (.long ((V71 + xq) + V73)), .second, .val (.long ((V75 + V77) + V79)), .second, .val (.long V81), .second, .val (.long V83), .second] [])) (fun tg kk => XS.ifNo X87.here hx rfl (hb hby at_215) rfl (XT.ll_ne_f (by rw [hV75, hV77, hV79, own_totE Dkiq, own_totE Dkia, own_totE Dkib, Int64.zero_add, Int64.zero_add])) kk) ?_
  refine own_go (S' := T87.setTop (mkF m 220 #[.val (.int ka), .val (.long xa), .second, .val (.int kb), .val (.long xb), .second, .val (.int kq), .val (.long xq), .second, .val (.int ia), .val (.int ib), .val (.int iq), .val (.ref kia), .val (.ref kib), .val (.ref kiq), .val (.ref a7), .val (.ref a15), .val (.long ((V71 + xq) + V73)), .second, .val (.long ((V75 + V77) + V79)), .second, .val (.long V81), .second, .val (.long V83), .second] [(.ref a15)])) (fun tg kk => XS.aload X87.here hx rfl (hb hby at_218) rfl rfl kk) ?_
  refine own_go (S' := T87.setTop (mkF m 222 #[.val (.int ka), .val (.long xa), .second, .val (.int kb), .val (.long xb), .second, .val (.int kq), .val (.long xq), .second, .val (.int ia), .val (.int ib), .val (.int iq), .val (.ref kia), .val (.ref kib), .val (.ref kiq), .val (.ref a7), .val (.ref a15), .val (.long ((V71 + xq) + V73)), .second, .val (.long ((V75 + V77) + V79)), .second, .val (.long V81), .second, .val (.long V83), .second] [(.ref kiq), (.ref a15)])) (fun tg kk => XS.aload X87.here hx rfl (hb hby at_220) rfl rfl kk) ?_
  obtain ⟨cq89, kq89, qa89, qb89, qc89⟩ := isOf hZ e87 E66
  obtain ⟨v89, _, ⟨T89, L89, k89, n89⟩, -, X89, ⟨Lc89, hQ89, l89, y89, z89⟩, st89⟩ := X87.virtualBack hx (y := (⟨"spanwire/protocol/MessageCounts", "get", "(Lspanwire/protocol/MessageKind;)J"⟩ : MethodName)) (z := (⟨"spanwire/protocol/MessageCounts", "get", "(Lspanwire/protocol/MessageKind;)J"⟩ : MethodName)) hown (mvT hZ (hw _ (List.mem_of_getElem? (i := 70) rfl))) (mvT hZ (hw _ (List.mem_of_getElem? (i := 71) rfl))) (notFace_of_selects (args := #[]) (mvT hZ (hw _ (List.mem_of_getElem? (i := 73) rfl)))) (mvT hZ (hw _ (List.mem_of_getElem? (i := 73) rfl))) (mvT hZ (hw _ (List.mem_of_getElem? (i := 72) rfl))) (by decide) (backOf (W := 0) (rm9 l Z a0 hw [] a15 ca22 kc22 kiq iq (own_upd own_zero ib xb) h61 n0 Z70 O69 F63 A68 Ekiq Fkiq hoiq) hZ (hw _ (List.mem_of_getElem? (i := 74) rfl)) (hw _ (List.mem_of_getElem? (i := 13) rfl)) (by decide) (by decide)) qa89 qc89 (g := (mkF m 222 #[.val (.int ka), .val (.long xa), .second, .val (.int kb), .val (.long xb), .second, .val (.int kq), .val (.long xq), .second, .val (.int ia), .val (.int ib), .val (.int iq), .val (.ref kia), .val (.ref kib), .val (.ref kiq), .val (.ref a7), .val (.ref a15), .val (.long ((V71 + xq) + V73)), .second, .val (.long ((V75 + V77) + V79)), .second, .val (.long V81), .second, .val (.long V83), .second] [(.ref kiq), (.ref a15)])) rfl (by rw [hml]; rfl) (Steps.refl _) (argsL := [(.ref kiq)]) (rest := []) (lenOf pd__Lspanwire_protocol_MessageKind__J rfl) rfl (by show 2 * 0 + _ ≤ _; exact Nat.le_of_eq rfl) (hb hby at_222) (fun _ _ => ⟨rfl, e87, (by decide : 6 + 0 ≤ _), (by decide : 36 + 0 ≤ _)⟩)
  dsimp only [Pt.U, Pt.locs, Pt.cells, Pt.slots] at X89 l89 y89 z89 st89 hQ89
  subst l89 y89 z89
  obtain ⟨rfl, M90, e89⟩ := hQ89
  have N90 := Fr.app N88 M90
  refine own_to (S' := T89.setTop (mkF m 225 #[.val (.int ka), .val (.long xa), .second, .val (.int kb), .val (.long xb), .second, .val (.int kq), .val (.long xq), .second, .val (.int ia), .val (.int ib), .val (.int iq), .val (.ref kia), .val (.ref kib), .val (.ref kiq), .val (.ref a7), .val (.ref a15), .val (.long ((V71 + xq) + V73)), .second, .val (.long ((V75 + V77) + V79)), .second, .val (.long V81), .second, .val (.long V83), .second] [(.long ((own_upd own_zero ib xb) iq.toNatClampNeg))])) st89 ?_
  refine own_go (S' := T89.setTop (mkF m 227 #[.val (.int ka), .val (.long xa), .second, .val (.int kb), .val (.long xb), .second, .val (.int kq), .val (.long xq), .second, .val (.int ia), .val (.int ib), .val (.int iq), .val (.ref kia), .val (.ref kib), .val (.ref kiq), .val (.ref a7), .val (.ref a15), .val (.long ((V71 + xq) + V73)), .second, .val (.long ((V75 + V77) + V79)), .second, .val (.long V81), .second, .val (.long V83), .second] [(.long V81), (.long ((own_upd own_zero ib xb) iq.toNatClampNeg))])) (fun tg kk => XT.lload X89.here hx rfl (hb hby at_225) rfl kk) ?_
  refine own_go (S' := T89.setTop (mkF m 228 #[.val (.int ka), .val (.long xa), .second, .val (.int kb), .val (.long xb), .second, .val (.int kq), .val (.long xq), .second, .val (.int ia), .val (.int ib), .val (.int iq), .val (.ref kia), .val (.ref kib), .val (.ref kiq), .val (.ref a7), .val (.ref a15), .val (.long ((V71 + xq) + V73)), .second, .val (.long ((V75 + V77) + V79)), .second, .val (.long V81), .second, .val (.long V83), .second] [(.int (XT.cmpL ((own_upd own_zero ib xb) iq.toNatClampNeg) V81))])) (fun tg kk => XT.lcmp X89.here hx rfl (hb hby at_227) rfl kk) ?_
  refine own_go (S' := T89.setTop (mkF m 231 #[.val (.int ka), .val (.long xa), .second, .val (.int kb), .val (.long xb), .second, .val (.int kq), .val (.long xq), .second, .val (.int ia), .val (.int ib), .val (.int iq), .val (.ref kia), .val (.ref kib), .val (.ref kiq), .val (.ref a7), .val (.ref a15), .val (.long ((V71 + xq) + V73)), .second, .val (.long ((V75 + V77) + V79)), .second, .val (.long V81), .second, .val (.long V83), .second] [])) (fun tg kk => XS.ifNo X89.here hx rfl (hb hby at_228) rfl (XT.ll_ne_f (by rw [hV81]; exact own_lawBQ xb (own_nn hoib) (own_nn hoiq))) kk) ?_
  refine own_go (S' := T89.setTop (mkF m 233 #[.val (.int ka), .val (.long xa), .second, .val (.int kb), .val (.long xb), .second, .val (.int kq), .val (.long xq), .second, .val (.int ia), .val (.int ib), .val (.int iq), .val (.ref kia), .val (.ref kib), .val (.ref kiq), .val (.ref a7), .val (.ref a15), .val (.long ((V71 + xq) + V73)), .second, .val (.long ((V75 + V77) + V79)), .second, .val (.long V81), .second, .val (.long V83), .second] [(.ref a15)])) (fun tg kk => XS.aload X89.here hx rfl (hb hby at_231) rfl rfl kk) ?_
  obtain ⟨cq91, kq91, qa91, qb91, qc91⟩ := isOf hZ e89 E66
  obtain ⟨v91, _, ⟨T91, L91, k91, n91⟩, -, X91, ⟨Lc91, hQ91, l91, y91, z91⟩, st91⟩ := X89.virtualBack hx (y := (⟨"spanwire/protocol/MessageCounts", "total", "()J"⟩ : MethodName)) (z := (⟨"spanwire/protocol/MessageCounts", "total", "()J"⟩ : MethodName)) hown (mvT hZ (hw _ (List.mem_of_getElem? (i := 75) rfl))) (mvT hZ (hw _ (List.mem_of_getElem? (i := 76) rfl))) (notFace_of_selects (args := #[]) (mvT hZ (hw _ (List.mem_of_getElem? (i := 78) rfl)))) (mvT hZ (hw _ (List.mem_of_getElem? (i := 78) rfl))) (mvT hZ (hw _ (List.mem_of_getElem? (i := 77) rfl))) (by decide) (backOf (W := 0) (rm10 l Z a0 hw [] a15 (own_tot kib s7 (0 : Int64) xb) h61 n0 Z70 F64) hZ (hw _ (List.mem_of_getElem? (i := 79) rfl)) (hw _ (List.mem_of_getElem? (i := 13) rfl)) (by decide) (by decide)) qa91 qc91 (g := (mkF m 233 #[.val (.int ka), .val (.long xa), .second, .val (.int kb), .val (.long xb), .second, .val (.int kq), .val (.long xq), .second, .val (.int ia), .val (.int ib), .val (.int iq), .val (.ref kia), .val (.ref kib), .val (.ref kiq), .val (.ref a7), .val (.ref a15), .val (.long ((V71 + xq) + V73)), .second, .val (.long ((V75 + V77) + V79)), .second, .val (.long V81), .second, .val (.long V83), .second] [(.ref a15)])) rfl (by rw [hml]; rfl) (Steps.refl _) (argsL := []) (rest := []) (lenOf pd___J rfl) rfl (by show 2 * 0 + _ ≤ _; exact Nat.le_of_eq rfl) (hb hby at_233) (fun _ _ => ⟨rfl, e89, (by decide : 6 + 0 ≤ _), (by decide : 36 + 0 ≤ _)⟩)
  dsimp only [Pt.U, Pt.locs, Pt.cells, Pt.slots] at X91 l91 y91 z91 st91 hQ91
  subst l91 y91 z91
  obtain ⟨rfl, M92, e91⟩ := hQ91
  have N92 := Fr.app N90 M92
  refine own_to (S' := T91.setTop (mkF m 236 #[.val (.int ka), .val (.long xa), .second, .val (.int kb), .val (.long xb), .second, .val (.int kq), .val (.long xq), .second, .val (.int ia), .val (.int ib), .val (.int iq), .val (.ref kia), .val (.ref kib), .val (.ref kiq), .val (.ref a7), .val (.ref a15), .val (.long ((V71 + xq) + V73)), .second, .val (.long ((V75 + V77) + V79)), .second, .val (.long V81), .second, .val (.long V83), .second] [(.long (own_tot kib s7 (0 : Int64) xb))])) st91 ?_
  refine own_go (S' := T91.setTop (mkF m 238 #[.val (.int ka), .val (.long xa), .second, .val (.int kb), .val (.long xb), .second, .val (.int kq), .val (.long xq), .second, .val (.int ia), .val (.int ib), .val (.int iq), .val (.ref kia), .val (.ref kib), .val (.ref kiq), .val (.ref a7), .val (.ref a15), .val (.long ((V71 + xq) + V73)), .second, .val (.long ((V75 + V77) + V79)), .second, .val (.long V81), .second, .val (.long V83), .second] [(.long V83), (.long (own_tot kib s7 (0 : Int64) xb))])) (fun tg kk => XT.lload X91.here hx rfl (hb hby at_236) rfl kk) ?_
  refine own_go (S' := T91.setTop (mkF m 239 #[.val (.int ka), .val (.long xa), .second, .val (.int kb), .val (.long xb), .second, .val (.int kq), .val (.long xq), .second, .val (.int ia), .val (.int ib), .val (.int iq), .val (.ref kia), .val (.ref kib), .val (.ref kiq), .val (.ref a7), .val (.ref a15), .val (.long ((V71 + xq) + V73)), .second, .val (.long ((V75 + V77) + V79)), .second, .val (.long V81), .second, .val (.long V83), .second] [(.int (XT.cmpL (own_tot kib s7 (0 : Int64) xb) V83))])) (fun tg kk => XT.lcmp X91.here hx rfl (hb hby at_238) rfl kk) ?_
  refine own_go (S' := T91.setTop (mkF m 242 #[.val (.int ka), .val (.long xa), .second, .val (.int kb), .val (.long xb), .second, .val (.int kq), .val (.long xq), .second, .val (.int ia), .val (.int ib), .val (.int iq), .val (.ref kia), .val (.ref kib), .val (.ref kiq), .val (.ref a7), .val (.ref a15), .val (.long ((V71 + xq) + V73)), .second, .val (.long ((V75 + V77) + V79)), .second, .val (.long V81), .second, .val (.long V83), .second] [])) (fun tg kk => XS.ifNo X91.here hx rfl (hb hby at_239) rfl (XT.ll_ne_f (by rw [hV83, own_totE Dkib, Int64.zero_add])) kk) ?_
  refine own_go (S' := T91.setTop (mkF m 243 #[.val (.int ka), .val (.long xa), .second, .val (.int kb), .val (.long xb), .second, .val (.int kq), .val (.long xq), .second, .val (.int ia), .val (.int ib), .val (.int iq), .val (.ref kia), .val (.ref kib), .val (.ref kiq), .val (.ref a7), .val (.ref a15), .val (.long ((V71 + xq) + V73)), .second, .val (.long ((V75 + V77) + V79)), .second, .val (.long V81), .second, .val (.long V83), .second] [(.int (1 : Int32))])) (fun tg kk => XT.iconstV X91.here hx rfl (1 : Int32) (hb hby at_242) (by decide) kk) ?_
  refine own_go (S' := T91.setTop (mkF m 247 #[.val (.int ka), .val (.long xa), .second, .val (.int kb), .val (.long xb), .second, .val (.int kq), .val (.long xq), .second, .val (.int ia), .val (.int ib), .val (.int iq), .val (.ref kia), .val (.ref kib), .val (.ref kiq), .val (.ref a7), .val (.ref a15), .val (.long ((V71 + xq) + V73)), .second, .val (.long ((V75 + V77) + V79)), .second, .val (.long V81), .second, .val (.long V83), .second] [(.int (1 : Int32))])) (fun tg kk => XS.goto X91.here hx rfl (pc0 := 243) (pc' := 247) rfl (hb hby at_243) (by decide) (by decide) kk) ?_
  obtain ⟨fs, hr, hrun, hended, hW, hsame⟩ := X91.leave (v := some (.int (1 : Int32))) (fun h => by rw [Bd.returns] at h; cases h)
  refine ⟨_, _, retN X91 hx (t := .boolean) Bd.returns (by simp) (hb hby at_247) hr, hrun, hended, _, _, rfl, ?_, ⟨_, rfl⟩, hW, hsame.mono (by decide) (by decide)⟩
  show Q0 Z ka xa kb xb kq xq s0 s1 s2 s3 s4 s5 s6 s7 va clv h0 n0 (some (.int (1 : Int32))) T91.heap _
  rw [e91]
  exact ⟨rfl, N92⟩
set_option maxRecDepth 65536 in
set_option maxHeartbeats 40000000 in
theorem comes_1 {Post : Tables → Env → Array Value → State → Outcome → State → Prop} (hpost : ∀ tb e args s v u, (limb_1_1.after args s (.returned v) u = true ∧ limb_1_2.after args s (.returned v) u = true ∧ True) → FrameEnd s (.returned v) u (Jvm.fieldLocs frame_1_writes args s ++ Jvm.arrayLocs frame_1_arrays args s ++ Jvm.staticLocs frame_1_statics s) 24 192 → Post tb e args s (.returned v) u) :
    ArmFor flags0 classFile x code maxLocals ret World_1 tables_1 room_1 Calls_1 rest_1 Pre_1 Post := by
  intro l hfl _ _ p e ha hc hk s m args below hf hA hF happ hP
  obtain ⟨hcalls, hrest, hpre⟩ := hP
  obtain ⟨-, -, -, hnamed, -, -, -, hat⟩ := (Spec.applies_iff hf).mp happ
  obtain ⟨hg, hn⟩ := and_e (Cond.before_iff.mp (show (Jvm.Cond.and given_1 narrow_1).before args s = true from hpre))
  obtain ⟨hgl, hgr⟩ := and_e hg
  obtain ⟨hgrl, hgrr⟩ := and_e hgr
  obtain ⟨hgrrl, hgrrr⟩ := and_e hgrr
  obtain ⟨hgrrrl, hgrrrr⟩ := and_e hgrrr
  obtain ⟨hgrrrrl, hgrrrrr⟩ := and_e hgrrrr
  obtain ⟨hgrrrrrl, hgrrrrrr⟩ := and_e hgrrrrr
  obtain ⟨w0, w1, w2, w3, w4, w5, rfl⟩ : ∃ w0 w1 w2 w3 w4 w5 : Value, args = #[w0, w1, w2, w3, w4, w5] := by
    have hs : args.size = 6 := by simpa [Cond.value] using hgl
    obtain ⟨L⟩ := args
    match L, hs with
    | [w0, w1, w2, w3, w4, w5], _ => exact ⟨w0, w1, w2, w3, w4, w5, rfl⟩
  have hw := fun d (hd : d ∈ tables_1) => atoms_spec (ws := Jvm.Cond.code x code maxLocals ret :: tables_1) hat d (List.mem_cons_of_mem _ hd)
  have hfit : Fit s := fun {y c} hc i hi => by
    obtain ⟨ha, rfl⟩ := Array.getElem?_eq_some_iff.mp hc
    have q := List.all_eq_true.mp ((Array.all_eq_true_iff_forall_mem.mp hF) _ (Array.getElem_mem ha)) i (List.mem_range.mpr hi)
    simpa [Array.getElem?_eq_getElem hi] using q
  obtain ⟨ka, ew0⟩ := is_v hgrl
  obtain rfl : w0 = (.int ka) := Option.some.inj ew0
  obtain ⟨xa, ew1⟩ := isL_v hgrrl
  obtain rfl : w1 = (.long xa) := Option.some.inj ew1
  obtain ⟨kb, ew2⟩ := is_v hgrrrl
  obtain rfl : w2 = (.int kb) := Option.some.inj ew2
  obtain ⟨xb, ew3⟩ := isL_v hgrrrrl
  obtain rfl : w3 = (.long xb) := Option.some.inj ew3
  obtain ⟨kq, ew4⟩ := is_v hgrrrrrl
  obtain rfl : w4 = (.int kq) := Option.some.inj ew4
  obtain ⟨xq, ew5⟩ := isL_v hgrrrrrr
  obtain rfl : w5 = (.long xq) := Option.some.inj ew5
  obtain ⟨hnl, hnr⟩ := and_e hn
  obtain ⟨hnrl, hnrr⟩ := and_e hnr
  obtain ⟨hnrrl, hnrrr⟩ := and_e hnrr
  obtain ⟨hnrrrl, hnrrrr⟩ := and_e hnrrr
  obtain ⟨hnrrrrl, hnrrrrr⟩ := and_e hnrrrr
  obtain ⟨hnrrrrrl, hnrrrrrr⟩ := and_e hnrrrrr
  obtain ⟨hnrrrrrrl, hnrrrrrrr⟩ := and_e hnrrrrrr
  obtain ⟨hnrrrrrrrl, hnrrrrrrrr⟩ := and_e hnrrrrrrr
  obtain ⟨hnrrrrrrrrl, hnrrrrrrrrr⟩ := and_e hnrrrrrrrr
  obtain ⟨hnrrrrrrrrrl, hnrrrrrrrrrr⟩ := and_e hnrrrrrrrrr
  obtain ⟨hnrrrrrrrrrrl, hnrrrrrrrrrrr⟩ := and_e hnrrrrrrrrrr
  obtain ⟨hnrrrrrrrrrrrl, hnrrrrrrrrrrrr⟩ := and_e hnrrrrrrrrrrr
  obtain ⟨hnrrrrrrrrrrrrl, hnrrrrrrrrrrrrr⟩ := and_e hnrrrrrrrrrrrr
  obtain ⟨hnrrrrrrrrrrrrrl, hnrrrrrrrrrrrrrr⟩ := and_e hnrrrrrrrrrrrrr
  obtain ⟨hnrrrrrrrrrrrrrrl, hnrrrrrrrrrrrrrrr⟩ := and_e hnrrrrrrrrrrrrrr
  obtain ⟨hnrrrrrrrrrrrrrrrl, hnrrrrrrrrrrrrrrrr⟩ := and_e hnrrrrrrrrrrrrrrr
  obtain ⟨hnrrrrrrrrrrrrrrrrl, hnrrrrrrrrrrrrrrrrr⟩ := and_e hnrrrrrrrrrrrrrrrr
  obtain ⟨hnrrrrrrrrrrrrrrrrrl, hnrrrrrrrrrrrrrrrrrr⟩ := and_e hnrrrrrrrrrrrrrrrrr
  obtain ⟨hnrrrrrrrrrrrrrrrrrrl, hnrrrrrrrrrrrrrrrrrrr⟩ := and_e hnrrrrrrrrrrrrrrrrrr
  obtain ⟨hnrrrrrrrrrrrrrrrrrrrl, hnrrrrrrrrrrrrrrrrrrrr⟩ := and_e hnrrrrrrrrrrrrrrrrrrr
  obtain ⟨hnrrrrrrrrrrrrrrrrrrrrl, hnrrrrrrrrrrrrrrrrrrrrr⟩ := and_e hnrrrrrrrrrrrrrrrrrrrr
  obtain ⟨hnrrrrrrrrrrrrrrrrrrrrrl, hnrrrrrrrrrrrrrrrrrrrrrr⟩ := and_e hnrrrrrrrrrrrrrrrrrrrrr
  obtain ⟨hnrrrrrrrrrrrrrrrrrrrrrrl, hnrrrrrrrrrrrrrrrrrrrrrrr⟩ := and_e hnrrrrrrrrrrrrrrrrrrrrrr
  obtain ⟨hnrrrrrrrrrrrrrrrrrrrrrrrl, hnrrrrrrrrrrrrrrrrrrrrrrrr⟩ := and_e hnrrrrrrrrrrrrrrrrrrrrrrr
  obtain ⟨hnrrrrrrrrrrrrrrrrrrrrrrrrl, hnrrrrrrrrrrrrrrrrrrrrrrrrr⟩ := and_e hnrrrrrrrrrrrrrrrrrrrrrrrr
  obtain ⟨hnrrrrrrrrrrrrrrrrrrrrrrrrrl, hnrrrrrrrrrrrrrrrrrrrrrrrrrr⟩ := and_e hnrrrrrrrrrrrrrrrrrrrrrrrrr
  obtain ⟨s_CONNECT, ev_CONNECT⟩ := exa_v hnl
  have E_CONNECT := Exa.start ev_CONNECT hnl
  have S_CONNECT := Sta.start ev_CONNECT (Or.inr ⟨(hw _ (List.mem_of_getElem? (i := 5) rfl)), (hw _ (List.mem_of_getElem? (i := 6) rfl))⟩)
  obtain ⟨s_INITIATE, ev_INITIATE⟩ := exa_v hnrl
  have E_INITIATE := Exa.start ev_INITIATE hnrl
  have S_INITIATE := Sta.start ev_INITIATE (Or.inr ⟨(hw _ (List.mem_of_getElem? (i := 5) rfl)), (hw _ (List.mem_of_getElem? (i := 8) rfl))⟩)
  obtain ⟨s_TEST, ev_TEST⟩ := exa_v hnrrl
  have E_TEST := Exa.start ev_TEST hnrrl
  have S_TEST := Sta.start ev_TEST (Or.inr ⟨(hw _ (List.mem_of_getElem? (i := 5) rfl)), (hw _ (List.mem_of_getElem? (i := 10) rfl))⟩)
  obtain ⟨s__VALUES, ev__VALUES⟩ := exa_v hnrrrrl
  have E__VALUES := Exa.start ev__VALUES hnrrrrl
  have S__VALUES := Sta.start ev__VALUES (Or.inr ⟨(hw _ (List.mem_of_getElem? (i := 5) rfl)), (hw _ (List.mem_of_getElem? (i := 24) rfl))⟩)
  obtain ⟨s_ACCEPT, ev_ACCEPT⟩ := exa_v hnrrrrrrrrrl
  have E_ACCEPT := Exa.start ev_ACCEPT hnrrrrrrrrrl
  have S_ACCEPT := Sta.start ev_ACCEPT (Or.inr ⟨(hw _ (List.mem_of_getElem? (i := 5) rfl)), (hw _ (List.mem_of_getElem? (i := 32) rfl))⟩)
  obtain ⟨s_REJECT, ev_REJECT⟩ := exa_v hnrrrrrrrrrrrl
  have E_REJECT := Exa.start ev_REJECT hnrrrrrrrrrrrl
  have S_REJECT := Sta.start ev_REJECT (Or.inr ⟨(hw _ (List.mem_of_getElem? (i := 5) rfl)), (hw _ (List.mem_of_getElem? (i := 33) rfl))⟩)
  obtain ⟨s_REPORT, ev_REPORT⟩ := exa_v hnrrrrrrrrrrrrrl
  have E_REPORT := Exa.start ev_REPORT hnrrrrrrrrrrrrrl
  have S_REPORT := Sta.start ev_REPORT (Or.inr ⟨(hw _ (List.mem_of_getElem? (i := 5) rfl)), (hw _ (List.mem_of_getElem? (i := 34) rfl))⟩)
  obtain ⟨s_CHANGE_ROOT, ev_CHANGE_ROOT⟩ := exa_v hnrrrrrrrrrrrrrrrl
  have E_CHANGE_ROOT := Exa.start ev_CHANGE_ROOT hnrrrrrrrrrrrrrrrl
  have S_CHANGE_ROOT := Sta.start ev_CHANGE_ROOT (Or.inr ⟨(hw _ (List.mem_of_getElem? (i := 5) rfl)), (hw _ (List.mem_of_getElem? (i := 35) rfl))⟩)
  obtain ⟨s_DONE, ev_DONE⟩ := exa_v hnrrrrrrrrrrrrrrrrrl
  have E_DONE := Exa.start ev_DONE hnrrrrrrrrrrrrrrrrrl
  have S_DONE := Sta.start ev_DONE (Or.inr ⟨(hw _ (List.mem_of_getElem? (i := 5) rfl)), (hw _ (List.mem_of_getElem? (i := 36) rfl))⟩)
  have F_CONNECT_ordinal : Fld s s.heap s_CONNECT "java/lang/Enum" "ordinal" "I" (.int (0 : Int32)) := Fld.start ((fld_at ev_CONNECT).symm.trans (Cond.eq_int (Cond.before_iff.mpr hnrrrrrrrrrrrrrrrrrrrl) rfl))
  have F_DONE_ordinal : Fld s s.heap s_DONE "java/lang/Enum" "ordinal" "I" (.int (7 : Int32)) := Fld.start ((fld_at ev_DONE).symm.trans (Cond.eq_int (Cond.before_iff.mpr hnrrrrrrrrrrrrrrrrrrrrl) rfl))
  have F_TEST_ordinal : Fld s s.heap s_TEST "java/lang/Enum" "ordinal" "I" (.int (2 : Int32)) := Fld.start ((fld_at ev_TEST).symm.trans (Cond.eq_int (Cond.before_iff.mpr hnrrrrrrrrrrrrrrrrrrrrrl) rfl))
  have F_INITIATE_ordinal : Fld s s.heap s_INITIATE "java/lang/Enum" "ordinal" "I" (.int (1 : Int32)) := Fld.start ((fld_at ev_INITIATE).symm.trans (Cond.eq_int (Cond.before_iff.mpr hnrrrrrrrrrrrrrrrrrrrrrrl) rfl))
  have F_CHANGE_ROOT_ordinal : Fld s s.heap s_CHANGE_ROOT "java/lang/Enum" "ordinal" "I" (.int (6 : Int32)) := Fld.start ((fld_at ev_CHANGE_ROOT).symm.trans (Cond.eq_int (Cond.before_iff.mpr hnrrrrrrrrrrrrrrrrrrrrrrrl) rfl))
  have F_REPORT_ordinal : Fld s s.heap s_REPORT "java/lang/Enum" "ordinal" "I" (.int (5 : Int32)) := Fld.start ((fld_at ev_REPORT).symm.trans (Cond.eq_int (Cond.before_iff.mpr hnrrrrrrrrrrrrrrrrrrrrrrrrl) rfl))
  have F_ACCEPT_ordinal : Fld s s.heap s_ACCEPT "java/lang/Enum" "ordinal" "I" (.int (3 : Int32)) := Fld.start ((fld_at ev_ACCEPT).symm.trans (Cond.eq_int (Cond.before_iff.mpr hnrrrrrrrrrrrrrrrrrrrrrrrrrl) rfl))
  have F_REJECT_ordinal : Fld s s.heap s_REJECT "java/lang/Enum" "ordinal" "I" (.int (4 : Int32)) := Fld.start ((fld_at ev_REJECT).symm.trans (Cond.eq_int (Cond.before_iff.mpr hnrrrrrrrrrrrrrrrrrrrrrrrrrr) rfl))
  obtain ⟨clv, A_VAL⟩ := Arr.start ev__VALUES hnrrrl
  obtain ⟨hq1, hq2⟩ := Jvm.Free.IntBox.length_fwd (Cond.before_iff.mpr hnrrrrrl) ev__VALUES A_VAL.1 A_VAL.2.1 A_VAL.2.2
  have L_VAL : clv.slots.size = 8 := by have q := congrArg Int32.toInt hq2; rw [len_toInt hq1] at q; have e8 : (8 : Int32).toInt = 8 := (by decide); omega
  obtain ⟨n, o, h1, h2, h3, _, L, rfl, ⟨rfl, N⟩, hq⟩ := rm0 l s _ hw tables_1 ka xa kb xb kq xq s_CONNECT s_INITIATE s_TEST s_ACCEPT s_REJECT s_REPORT s_CHANGE_ROOT s_DONE s__VALUES clv s.heap s.heap.size (Nat.le_refl _) (Old.start s) S_CONNECT S_INITIATE S_TEST S_ACCEPT S_REJECT S_REPORT S_CHANGE_ROOT S_DONE E_CONNECT E_INITIATE E_TEST E_ACCEPT E_REJECT E_REPORT E_CHANGE_ROOT E_DONE F_CONNECT_ordinal F_INITIATE_ordinal F_TEST_ordinal F_ACCEPT_ordinal F_REJECT_ordinal F_REPORT_ordinal F_CHANGE_ROOT_ordinal F_DONE_ordinal (F_CONNECT_ordinal.ne F_DONE_ordinal (by decide)) (F_INITIATE_ordinal.ne F_DONE_ordinal (by decide)) (F_TEST_ordinal.ne F_DONE_ordinal (by decide)) (F_ACCEPT_ordinal.ne F_DONE_ordinal (by decide)) (F_REJECT_ordinal.ne F_DONE_ordinal (by decide)) (F_REPORT_ordinal.ne F_DONE_ordinal (by decide)) (F_CHANGE_ROOT_ordinal.ne F_DONE_ordinal (by decide)) S__VALUES A_VAL E__VALUES (FitC.start hfit A_VAL) L_VAL p e ha hc hk s m _ below hf ((Spec.applies_iff_loose hf).mp happ).1 ⟨rfl, State.Warmed39.refl s, rfl⟩ trivial
  refine ⟨n, _, h1, h2, h3, hpost _ _ _ _ _ _ ⟨Cond.after_iff.mpr rfl, Cond.after_iff.mpr (eq_i res_at (Term.int_eval (1)) rfl), trivial⟩ ⟨hq.1, hq.2.1, (hq.2.2.sift fun y hy => Or.inr (N y hy)).mono (by decide) (by decide)⟩⟩
theorem main_1_1 : Claimed_1_1 := comes_1 fun _ _ _ _ _ _ h hF => ⟨h.1, hF⟩
theorem main_1_2 : Claimed_1_2 := comes_1 fun _ _ _ _ _ _ h hF => ⟨h.2.1, hF⟩
end Jvm.Pilot.@@N@@
namespace Jvm.Pilot.@@N@@
open Jvm Jvm.ClassFile Sem Op Lib Jvm.Free Jvm.Stand Jvm.Pilot.@@N@@.Jvm.D
/-! MADE BY PROGRAM (witnessworld.py) out of the Statement's table words and the real class files: 16 classes; the members and pool entries that the words name. The judged class is class 1, her method 2. -/
namespace start1
open Jvm.ClassFile
def u (s : String) : CpInfo := .utf8 (stringToUtf16 s)
/-- a pool by its gaps: so many unusable entries, then the entry; so many at the end -/
def gap : Nat → List CpInfo → List CpInfo
  | 0, r => r
  | n + 1, r => .unusable :: gap n r
def poolList (es : List (Nat × CpInfo)) (last : Nat) : List CpInfo := es.foldr (fun e r => gap e.1 (e.2 :: r)) (gap last [])
def pool (es : List (Nat × CpInfo)) (last : Nat) : Array CpInfo := ⟨poolList es last⟩
def fileOf (pool : Array CpInfo) (this : Nat) (attrs : Array Attribute := #[]) (ms : Array MethodInfo := #[]) (fl : Nat := 33) (sup : Nat := 0) (ifs : Array Nat := #[]) (fds : Array FieldInfo := #[]) : ClassFile where
  minorVersion := 0
  majorVersion := 65
  constantPool := pool
  accessFlags := fl
  thisClass := this
  superClass := sup
  interfaces := ifs
  fields := fds
  methods := ms
  attributes := attrs
def plain (name : String) (sup : Option ClassId) : Class where
  name := name
  kind := .ordinary
  loader := none
  accessFlags := 33
  super := sup
  interfaces := #[]
  cf := none
  fields := #[]
  methods := #[]
  instanceTypes := #[]
  staticTypes := #[]
  resolved := #[]
  callSites := []
  init := .initialized
  statics := none
  mirror := none

def pool0 : Array CpInfo := pool [(5, u "<init>"), (0, u "()V"), (1, .class_ 10), (1, u "java/lang/Object"), (85, u "clone"), (0, u "()Ljava/lang/Object;")] 26

def k0c0 : Code := { maxStack := 0, maxLocals := 1, code := object_method_1_code, exceptionTable := #[], attributes := #[] }
def k0m0 : Method := { name := "<init>", desc := "()V", sig := { parameters := [], returnType := none }, accessFlags := 1, code := some k0c0 }
def k0m1 : Method := { name := "clone", desc := "()Ljava/lang/Object;", sig := { parameters := [], returnType := some (.object "java/lang/Object") }, accessFlags := 260, code := none }
/-- java/lang/Object -/
def k0 : Class := { plain "java/lang/Object" none with
  accessFlags := 33
  interfaces := #[]
  cf := some (fileOf pool0 8 #[] #[{ accessFlags := 1, nameIndex := 5, descriptorIndex := 6, attributes := #[] }, { accessFlags := 260, nameIndex := 96, descriptorIndex := 97, attributes := #[] }] 33 0 #[] #[])
  fields := #[]
  methods := #[k0m0, k0m1]
  instanceTypes := #[]
  staticTypes := #[]
  resolved := Array.replicate 124 none
  statics := none }

def pool1 : Array CpInfo := pool [(2, .class_ 4), (0, .nameAndType 5 6), (0, u "java/lang/Object"), (0, u "<init>"), (0, u "()V"), (0, .fieldref 8 9), (0, .class_ 10), (0, .nameAndType 11 12), (0, u "spanwire/protocol/MessageKind"), (0, u "CONNECT"), (0, u "Lspanwire/protocol/MessageKind;"), (0, .fieldref 8 14), (0, .nameAndType 15 12), (0, u "INITIATE"), (0, .fieldref 8 17), (0, .nameAndType 18 12), (0, u "TEST"), (0, .fieldref 8 20), (0, .nameAndType 21 12), (0, u "ACCEPT"), (0, .fieldref 8 23), (0, .nameAndType 24 12), (0, u "REJECT"), (0, .fieldref 8 26), (0, .nameAndType 27 12), (0, u "REPORT"), (0, .fieldref 8 29), (0, .nameAndType 30 12), (0, u "CHANGE_ROOT"), (0, .fieldref 8 32), (0, .nameAndType 33 12), (0, u "DONE"), (0, .methodref 35 36), (0, .class_ 37), (0, .nameAndType 38 39), (0, u "spanwire/protocol/MessageCountsAddAllPinLaw"), (0, u "kind"), (0, u "(I)Lspanwire/protocol/MessageKind;"), (0, .class_ 41), (0, u "spanwire/protocol/MessageCounts"), (0, .methodref 40 3), (0, .methodref 40 44), (0, .nameAndType 45 46), (0, u "add"), (0, u "(Lspanwire/protocol/MessageKind;J)V"), (0, .methodref 40 48), (0, .nameAndType 49 50), (0, u "addAll"), (0, u "(Lspanwire/protocol/MessageCounts;)V"), (0, .methodref 40 52), (0, .nameAndType 53 54), (0, u "get"), (0, u "(Lspanwire/protocol/MessageKind;)J"), (0, .methodref 40 56), (0, .nameAndType 57 58), (0, u "total"), (0, u "()J"), (3, u "law"), (0, u "(IJIJIJ)Z")] 2

def k1m0 : Method := { name := "<init>", desc := "()V", sig := { parameters := [], returnType := none }, accessFlags := 1, code := none }
def k1c1 : Code := { maxStack := 2, maxLocals := 1, code := method_2_code, exceptionTable := #[], attributes := #[] }
def k1m1 : Method := { name := "kind", desc := "(I)Lspanwire/protocol/MessageKind;", sig := { parameters := [.int], returnType := some (.object "spanwire/protocol/MessageKind") }, accessFlags := 10, code := some k1c1 }
def k1c2 : Code := { maxStack := 4, maxLocals := 25, code := code, exceptionTable := #[], attributes := #[] }
def k1m2 : Method := { name := "law", desc := "(IJIJIJ)Z", sig := { parameters := [.int, .long, .int, .long, .int, .long], returnType := some .boolean }, accessFlags := 9, code := some k1c2 }
/-- spanwire/protocol/MessageCountsAddAllPinLaw -/
def k1 : Class := { plain "spanwire/protocol/MessageCountsAddAllPinLaw" (some 0) with
  accessFlags := 49
  interfaces := #[]
  cf := some (fileOf pool1 35 #[] #[{ accessFlags := 1, nameIndex := 5, descriptorIndex := 6, attributes := #[] }, { accessFlags := 10, nameIndex := 38, descriptorIndex := 39, attributes := #[] }, { accessFlags := 9, nameIndex := 62, descriptorIndex := 63, attributes := #[] }] 49 2 #[] #[])
  fields := #[]
  methods := #[k1m0, k1m1, k1m2]
  instanceTypes := #[]
  staticTypes := #[]
  resolved := Array.replicate 66 none
  statics := none }

def pool2 : Array CpInfo := pool [(1, .class_ 2), (0, u "java/lang/constant/Constable"), (0, .class_ 4), (0, u "java/lang/Object")] 6

/-- java/lang/constant/Constable -/
def k2 : Class := { plain "java/lang/constant/Constable" (some 0) with
  accessFlags := 1537
  interfaces := #[]
  cf := some (fileOf pool2 1 #[] #[] 1537 3 #[] #[])
  fields := #[]
  methods := #[]
  instanceTypes := #[]
  staticTypes := #[]
  resolved := Array.replicate 11 none
  statics := none }

def pool3 : Array CpInfo := pool [(1, .class_ 2), (0, u "java/lang/Comparable"), (0, .class_ 4), (0, u "java/lang/Object")] 7

/-- java/lang/Comparable -/
def k3 : Class := { plain "java/lang/Comparable" (some 0) with
  accessFlags := 1537
  interfaces := #[]
  cf := some (fileOf pool3 1 #[] #[] 1537 3 #[] #[])
  fields := #[]
  methods := #[]
  instanceTypes := #[]
  staticTypes := #[]
  resolved := Array.replicate 12 none
  statics := none }

def pool4 : Array CpInfo := pool [(1, .class_ 2), (0, u "java/io/Serializable"), (0, .class_ 4), (0, u "java/lang/Object")] 2

/-- java/io/Serializable -/
def k4 : Class := { plain "java/io/Serializable" (some 0) with
  accessFlags := 1537
  interfaces := #[]
  cf := some (fileOf pool4 1 #[] #[] 1537 3 #[] #[])
  fields := #[]
  methods := #[]
  instanceTypes := #[]
  staticTypes := #[]
  resolved := Array.replicate 7 none
  statics := none }

def pool5 : Array CpInfo := pool [(2, .class_ 4), (1, u "java/lang/Enum"), (0, u "name"), (0, u "Ljava/lang/String;"), (0, .fieldref 2 8), (0, .nameAndType 9 10), (0, u "ordinal"), (0, u "I"), (1, .class_ 14), (1, u "java/lang/Object"), (4, u "hash"), (86, .class_ 108), (1, u "java/lang/Enum$EnumDesc"), (2, .class_ 112), (0, u "java/lang/constant/Constable"), (0, .class_ 114), (0, u "java/lang/Comparable"), (0, .class_ 116), (0, u "java/io/Serializable"), (9, u "()I")] 77

def k5c0 : Code := { maxStack := 1, maxLocals := 1, code := jdk_37_method_2_code, exceptionTable := #[], attributes := #[] }
def k5m0 : Method := { name := "ordinal", desc := "()I", sig := { parameters := [], returnType := some .int }, accessFlags := 17, code := some k5c0 }
/-- java/lang/Enum -/
def k5 : Class := { plain "java/lang/Enum" (some 0) with
  accessFlags := 1057
  interfaces := #[2, 3, 4]
  cf := some (fileOf pool5 2 #[.nestMembers #[106]] #[{ accessFlags := 17, nameIndex := 9, descriptorIndex := 126, attributes := #[] }] 1057 12 #[111, 113, 115] #[{ accessFlags := 18, nameIndex := 5, descriptorIndex := 6, attributes := #[] }, { accessFlags := 18, nameIndex := 9, descriptorIndex := 10, attributes := #[] }, { accessFlags := 2, nameIndex := 19, descriptorIndex := 10, attributes := #[] }])
  fields := #[{ name := "name", type := (.object "java/lang/String"), accessFlags := 18, slot := 0, constantValue := 0 }, { name := "ordinal", type := .int, accessFlags := 18, slot := 1, constantValue := 0 }, { name := "hash", type := .int, accessFlags := 2, slot := 2, constantValue := 0 }]
  methods := #[k5m0]
  instanceTypes := #[(.object "java/lang/String"), .int, .int]
  staticTypes := #[]
  resolved := Array.replicate 204 none
  statics := none }

def pool6 : Array CpInfo := pool [(1, .class_ 2), (0, u "spanwire/protocol/MessageKind"), (2, u "CONNECT"), (0, u "Lspanwire/protocol/MessageKind;"), (2, u "INITIATE"), (2, u "TEST"), (2, u "ACCEPT"), (2, u "REJECT"), (2, u "REPORT"), (2, u "CHANGE_ROOT"), (0, .fieldref 1 26), (0, .nameAndType 27 6), (0, u "DONE"), (0, .fieldref 1 29), (0, .nameAndType 30 31), (0, u "$VALUES"), (0, u "[Lspanwire/protocol/MessageKind;"), (0, .methodref 33 34), (0, .class_ 31), (0, .nameAndType 35 36), (0, u "clone"), (0, u "()Ljava/lang/Object;"), (1, .class_ 40), (1, u "java/lang/Enum"), (8, u "label"), (0, u "Ljava/lang/String;"), (30, u "()[Lspanwire/protocol/MessageKind;"), (0, u "values"), (7, u "isProtocol"), (0, u "()Z")] 6

def k6c0 : Code := { maxStack := 1, maxLocals := 0, code := prog_75_method_1_code, exceptionTable := #[], attributes := #[] }
def k6m0 : Method := { name := "values", desc := "()[Lspanwire/protocol/MessageKind;", sig := { parameters := [], returnType := some (.array (.object "spanwire/protocol/MessageKind")) }, accessFlags := 9, code := some k6c0 }
def k6c1 : Code := { maxStack := 2, maxLocals := 1, code := prog_75_method_5_code, exceptionTable := #[], attributes := #[] }
def k6m1 : Method := { name := "isProtocol", desc := "()Z", sig := { parameters := [], returnType := some .boolean }, accessFlags := 1, code := some k6c1 }
/-- spanwire/protocol/MessageKind -/
def k6 : Class := { plain "spanwire/protocol/MessageKind" (some 5) with
  accessFlags := 16433
  interfaces := #[]
  cf := some (fileOf pool6 1 #[] #[{ accessFlags := 9, nameIndex := 82, descriptorIndex := 81, attributes := #[] }, { accessFlags := 1, nameIndex := 90, descriptorIndex := 91, attributes := #[] }] 16433 38 #[] #[{ accessFlags := 16409, nameIndex := 5, descriptorIndex := 6, attributes := #[] }, { accessFlags := 16409, nameIndex := 9, descriptorIndex := 6, attributes := #[] }, { accessFlags := 16409, nameIndex := 12, descriptorIndex := 6, attributes := #[] }, { accessFlags := 16409, nameIndex := 15, descriptorIndex := 6, attributes := #[] }, { accessFlags := 16409, nameIndex := 18, descriptorIndex := 6, attributes := #[] }, { accessFlags := 16409, nameIndex := 21, descriptorIndex := 6, attributes := #[] }, { accessFlags := 16409, nameIndex := 24, descriptorIndex := 6, attributes := #[] }, { accessFlags := 16409, nameIndex := 27, descriptorIndex := 6, attributes := #[] }, { accessFlags := 18, nameIndex := 49, descriptorIndex := 50, attributes := #[] }, { accessFlags := 4122, nameIndex := 30, descriptorIndex := 31, attributes := #[] }])
  fields := #[{ name := "CONNECT", type := (.object "spanwire/protocol/MessageKind"), accessFlags := 16409, slot := 0, constantValue := 0 }, { name := "INITIATE", type := (.object "spanwire/protocol/MessageKind"), accessFlags := 16409, slot := 1, constantValue := 0 }, { name := "TEST", type := (.object "spanwire/protocol/MessageKind"), accessFlags := 16409, slot := 2, constantValue := 0 }, { name := "ACCEPT", type := (.object "spanwire/protocol/MessageKind"), accessFlags := 16409, slot := 3, constantValue := 0 }, { name := "REJECT", type := (.object "spanwire/protocol/MessageKind"), accessFlags := 16409, slot := 4, constantValue := 0 }, { name := "REPORT", type := (.object "spanwire/protocol/MessageKind"), accessFlags := 16409, slot := 5, constantValue := 0 }, { name := "CHANGE_ROOT", type := (.object "spanwire/protocol/MessageKind"), accessFlags := 16409, slot := 6, constantValue := 0 }, { name := "DONE", type := (.object "spanwire/protocol/MessageKind"), accessFlags := 16409, slot := 7, constantValue := 0 }, { name := "label", type := (.object "java/lang/String"), accessFlags := 18, slot := 3, constantValue := 0 }, { name := "$VALUES", type := (.array (.object "spanwire/protocol/MessageKind")), accessFlags := 4122, slot := 8, constantValue := 0 }]
  methods := #[k6m0, k6m1]
  instanceTypes := #[(.object "java/lang/String"), .int, .int, (.object "java/lang/String")]
  staticTypes := #[(.object "spanwire/protocol/MessageKind"), (.object "spanwire/protocol/MessageKind"), (.object "spanwire/protocol/MessageKind"), (.object "spanwire/protocol/MessageKind"), (.object "spanwire/protocol/MessageKind"), (.object "spanwire/protocol/MessageKind"), (.object "spanwire/protocol/MessageKind"), (.object "spanwire/protocol/MessageKind"), (.array (.object "spanwire/protocol/MessageKind"))]
  resolved := Array.replicate 98 none
  statics := some 0 }

def pool7 : Array CpInfo := pool [(1, .methodref 2 3), (0, .class_ 4), (0, .nameAndType 5 6), (0, u "java/lang/Object"), (0, u "<init>"), (0, u "()V"), (0, .methodref 8 9), (0, .class_ 10), (0, .nameAndType 11 12), (0, u "spanwire/protocol/MessageKind"), (0, u "values"), (0, u "()[Lspanwire/protocol/MessageKind;"), (0, .fieldref 14 15), (0, .class_ 16), (0, .nameAndType 17 18), (0, u "spanwire/protocol/MessageCounts"), (0, u "counts"), (0, u "[J"), (0, .methodref 8 20), (0, .nameAndType 21 22), (0, u "ordinal"), (0, u "()I"), (0, .methodref 8 24), (0, .nameAndType 25 26), (0, u "isProtocol"), (0, u "()Z"), (0, .fieldref 14 28), (0, .nameAndType 29 30), (0, u "total"), (0, u "J"), (2, u "add"), (2, u "(Lspanwire/protocol/MessageKind;J)V"), (0, u "addAll"), (0, u "(Lspanwire/protocol/MessageCounts;)V"), (0, u "get"), (0, u "(Lspanwire/protocol/MessageKind;)J"), (0, u "()J")] 2

def k7c0 : Code := { maxStack := 2, maxLocals := 1, code := prog_73_method_1_code, exceptionTable := #[], attributes := #[] }
def k7m0 : Method := { name := "<init>", desc := "()V", sig := { parameters := [], returnType := none }, accessFlags := 1, code := some k7c0 }
def k7c1 : Code := { maxStack := 6, maxLocals := 4, code := prog_73_method_3_code, exceptionTable := #[], attributes := #[] }
def k7m1 : Method := { name := "add", desc := "(Lspanwire/protocol/MessageKind;J)V", sig := { parameters := [(.object "spanwire/protocol/MessageKind"), .long], returnType := none }, accessFlags := 1, code := some k7c1 }
def k7c2 : Code := { maxStack := 6, maxLocals := 3, code := prog_73_method_4_code, exceptionTable := #[], attributes := #[] }
def k7m2 : Method := { name := "addAll", desc := "(Lspanwire/protocol/MessageCounts;)V", sig := { parameters := [(.object "spanwire/protocol/MessageCounts")], returnType := none }, accessFlags := 1, code := some k7c2 }
def k7c3 : Code := { maxStack := 2, maxLocals := 2, code := prog_73_method_5_code, exceptionTable := #[], attributes := #[] }
def k7m3 : Method := { name := "get", desc := "(Lspanwire/protocol/MessageKind;)J", sig := { parameters := [(.object "spanwire/protocol/MessageKind")], returnType := some .long }, accessFlags := 1, code := some k7c3 }
def k7c4 : Code := { maxStack := 2, maxLocals := 1, code := prog_73_method_6_code, exceptionTable := #[], attributes := #[] }
def k7m4 : Method := { name := "total", desc := "()J", sig := { parameters := [], returnType := some .long }, accessFlags := 1, code := some k7c4 }
/-- spanwire/protocol/MessageCounts -/
def k7 : Class := { plain "spanwire/protocol/MessageCounts" (some 0) with
  accessFlags := 49
  interfaces := #[]
  cf := some (fileOf pool7 14 #[] #[{ accessFlags := 1, nameIndex := 5, descriptorIndex := 6, attributes := #[] }, { accessFlags := 1, nameIndex := 33, descriptorIndex := 36, attributes := #[] }, { accessFlags := 1, nameIndex := 37, descriptorIndex := 38, attributes := #[] }, { accessFlags := 1, nameIndex := 39, descriptorIndex := 40, attributes := #[] }, { accessFlags := 1, nameIndex := 29, descriptorIndex := 41, attributes := #[] }] 49 2 #[] #[{ accessFlags := 18, nameIndex := 17, descriptorIndex := 18, attributes := #[] }, { accessFlags := 2, nameIndex := 29, descriptorIndex := 30, attributes := #[] }])
  fields := #[{ name := "counts", type := (.array .long), accessFlags := 18, slot := 0, constantValue := 0 }, { name := "total", type := .long, accessFlags := 2, slot := 1, constantValue := 0 }]
  methods := #[k7m0, k7m1, k7m2, k7m3, k7m4]
  instanceTypes := #[(.array .long), .long]
  staticTypes := #[]
  resolved := Array.replicate 44 none
  statics := none }

def pool8 : Array CpInfo := pool [(1, .class_ 2), (0, u "java/lang/Cloneable"), (0, .class_ 4), (0, u "java/lang/Object")] 2

/-- java/lang/Cloneable -/
def k8 : Class := { plain "java/lang/Cloneable" (some 0) with
  accessFlags := 1537
  interfaces := #[]
  cf := some (fileOf pool8 1 #[] #[] 1537 3 #[] #[])
  fields := #[]
  methods := #[]
  instanceTypes := #[]
  staticTypes := #[]
  resolved := Array.replicate 7 none
  statics := none }

/-- the primitive byte -/
def k9 : Class := { plain "byte" none with kind := .primitive 'B', accessFlags := 0x411 }
/-- [B -/
def k10 : Class := { plain "[B" (some 0) with kind := .array 9 .byte, interfaces := #[8, 4], accessFlags := 1041 }

/-- the primitive int -/
def k11 : Class := { plain "int" none with kind := .primitive 'I', accessFlags := 0x411 }
/-- [I -/
def k12 : Class := { plain "[I" (some 0) with kind := .array 11 .int, interfaces := #[8, 4], accessFlags := 1041 }

/-- the primitive long -/
def k13 : Class := { plain "long" none with kind := .primitive 'J', accessFlags := 0x411 }
/-- [J -/
def k14 : Class := { plain "[J" (some 0) with kind := .array 13 .long, interfaces := #[8, 4], accessFlags := 1041 }

/-- [Lspanwire/protocol/MessageKind; -/
def k15 : Class := { plain "[Lspanwire/protocol/MessageKind;" (some 0) with kind := .array 6 (.object "spanwire/protocol/MessageKind"), interfaces := #[8, 4], accessFlags := 1041 }

def heap : Heap := #[{ cls := 6, slots := #[.ref 2, .ref 3, .ref 4, .ref 5, .ref 6, .ref 7, .ref 8, .ref 9, .ref 1], vm := .statics 6 },
  { cls := 15, slots := #[.ref 2, .ref 3, .ref 4, .ref 5, .ref 6, .ref 7, .ref 8, .ref 9], vm := .none },
  { cls := 6, slots := #[.null, .int 0, .int 0, .null], vm := .none },
  { cls := 6, slots := #[.null, .int 1, .int 0, .null], vm := .none },
  { cls := 6, slots := #[.null, .int 2, .int 0, .null], vm := .none },
  { cls := 6, slots := #[.null, .int 3, .int 0, .null], vm := .none },
  { cls := 6, slots := #[.null, .int 4, .int 0, .null], vm := .none },
  { cls := 6, slots := #[.null, .int 5, .int 0, .null], vm := .none },
  { cls := 6, slots := #[.null, .int 6, .int 0, .null], vm := .none },
  { cls := 6, slots := #[.null, .int 7, .int 0, .null], vm := .none }]
def classes : Array Class := #[k0, k1, k2, k3, k4, k5, k6, k7, k8, k9, k10, k11, k12, k13, k14, k15]
def interned : List (Array UInt16 × Addr) := []
def slotsUsed : Nat := 49
def theMethod : MethodId := ⟨1, 2⟩
def args0 : Array Value := #[.int 5, .long 7, .int 3, .long 9, .int 2, .long 11]
def aboutOver (below : List Frame) : State where
  vm := { classes := classes, interned := interned.toArray }
  heap := heap
  slotsUsed := slotsUsed
  threads := #[{ frames := .invoking theMethod args0 :: below }]
def below0 : List Frame := [.native { method := ⟨0, 0⟩, args := #[] }]
def about1 : State := aboutOver below0
def p0 : Program := .bare "" "" ""
def e0 : Env := launch0.env 0 0 0
theorem w_frames : about1.frames = Frame.invoking theMethod args0 :: below0 := rfl
set_option maxRecDepth 65536 in
theorem w_args : argsFit about1.vm theMethod args0 = true := by decide +kernel
set_option maxRecDepth 65536 in
theorem w_heap : heapFits about1 = true := by decide +kernel
set_option maxRecDepth 65536 in
theorem w_runnable : about1.curStatus? = some .runnable := by decide +kernel
set_option maxRecDepth 65536 in
theorem w_alone : about1.alone = true := by decide +kernel
set_option maxRecDepth 65536 in
theorem w_named : about1.methodNamed? x = some theMethod := by decide +kernel
set_option maxRecDepth 65536 in
theorem w_hears : about1.hears theMethod below0 = true := by decide +kernel
set_option maxRecDepth 65536 in
theorem w_ripe : about1.ripe theMethod args0 below0 = true := by decide +kernel
theorem w_running : about1.status = .running := rfl
set_option maxRecDepth 65536 in
theorem w_room : about1.hasRoom e0.platform room_1 = true :=
  launch0.hasRoom_least _ room_1 (by decide +kernel) (by decide +kernel) (by decide +kernel) (by decide +kernel) (by decide +kernel) (by decide +kernel)
theorem allAtoms_all (ts : List Jvm.Cond) (a : Array Jvm.Value) (st : Jvm.State) : (allAtoms ts).before a st = ts.all (fun c => c.before a st) := by
  induction ts with
  | nil => rfl
  | cons c t ih =>
    show (Jvm.Cond.and c (allAtoms t)).before a st = _
    rw [Jvm.Cond.before_and, ih, List.all_cons]
def words1 : List Jvm.Cond := Jvm.Cond.code x code maxLocals ret :: tables_1
/-- a 'code' word, met by the world's own term for the bytes: nothing is compared byte by byte -/
theorem code_word {y : MethodName} {bytes : ByteArray} {mx : Nat} {rt : Option FieldType} {a : Array Value} {s : State} {m : MethodId} {meth : Method} {c : Code} (h1 : s.methodNamed? y = some m) (h2 : s.vm.method? m = some meth) (h3 : meth.code = some c) (h4 : c.code = bytes)
    (h5 : (c.maxLocals == mx && c.exceptionTable.isEmpty && decide (c.maxStack ≤ mostOperands) && decide (meth.sig.returnType = rt) && !meth.locks && decide (parseMethodDescriptor y.desc = some meth.sig)) = true) : (Jvm.Cond.code y bytes mx rt).before a s = true := by
  simp only [Bool.and_eq_true, beq_iff_eq, Bool.not_eq_true', decide_eq_true_eq] at h5
  obtain ⟨⟨⟨⟨⟨g1, g2⟩, g3⟩, g4⟩, g5⟩, g6⟩ := h5
  simp [Cond.before, Cond.holds, Cond.value, h1, h2, h3, h4, g1, g2, g3, g4, g5, g6]
def isCode : Jvm.Cond → Bool
  | .code _ _ _ _ => true
  | _ => false
theorem all_split {L : List Jvm.Cond} {P : Jvm.Cond → Bool} (h1 : L.all (fun c => isCode c || P c) = true) (h2 : ∀ c ∈ L.filter isCode, P c = true) : L.all P = true := by
  refine List.all_eq_true.mpr fun c hc => ?_
  have h := List.all_eq_true.mp h1 c hc
  rcases Bool.eq_false_or_eq_true (isCode c) with hi | hi
  · exact h2 c (List.mem_filter.mpr ⟨hc, hi⟩)
  · simpa [hi] using h
set_option maxRecDepth 65536 in
theorem w_c0 : (Jvm.Cond.code x code maxLocals ret).before args0 about1 = true := code_word (m := ⟨1, 2⟩) (meth := k1m2) (c := k1c2) (by decide +kernel) rfl rfl rfl (by decide +kernel)
set_option maxRecDepth 65536 in
theorem w_c1 : (Jvm.Cond.code ({ cls := "spanwire/protocol/MessageCountsAddAllPinLaw", name := "kind", desc := "(I)Lspanwire/protocol/MessageKind;" } : Jvm.MethodName) method_2_code (1 : Nat) (Option.some (Jvm.ClassFile.FieldType.object "spanwire/protocol/MessageKind"))).before args0 about1 = true := code_word (m := ⟨1, 1⟩) (meth := k1m1) (c := k1c1) (by decide +kernel) rfl rfl rfl (by decide +kernel)
set_option maxRecDepth 65536 in
theorem w_c2 : (Jvm.Cond.code ({ cls := "spanwire/protocol/MessageCounts", name := "<init>", desc := "()V" } : Jvm.MethodName) prog_73_method_1_code (1 : Nat) (Option.none : Option Jvm.ClassFile.FieldType)).before args0 about1 = true := code_word (m := ⟨7, 0⟩) (meth := k7m0) (c := k7c0) (by decide +kernel) rfl rfl rfl (by decide +kernel)
set_option maxRecDepth 65536 in
theorem w_c3 : (Jvm.Cond.code ({ cls := "java/lang/Object", name := "<init>", desc := "()V" } : Jvm.MethodName) object_method_1_code (1 : Nat) (Option.none : Option Jvm.ClassFile.FieldType)).before args0 about1 = true := code_word (m := ⟨0, 0⟩) (meth := k0m0) (c := k0c0) (by decide +kernel) rfl rfl rfl (by decide +kernel)
set_option maxRecDepth 65536 in
theorem w_c4 : (Jvm.Cond.code ({ cls := "spanwire/protocol/MessageKind", name := "values", desc := "()[Lspanwire/protocol/MessageKind;" } : Jvm.MethodName) prog_75_method_1_code (0 : Nat) (Option.some (Jvm.ClassFile.FieldType.array (Jvm.ClassFile.FieldType.object "spanwire/protocol/MessageKind")))).before args0 about1 = true := code_word (m := ⟨6, 0⟩) (meth := k6m0) (c := k6c0) (by decide +kernel) rfl rfl rfl (by decide +kernel)
set_option maxRecDepth 65536 in
theorem w_c5 : (Jvm.Cond.code ({ cls := "spanwire/protocol/MessageCounts", name := "add", desc := "(Lspanwire/protocol/MessageKind;J)V" } : Jvm.MethodName) prog_73_method_3_code (4 : Nat) (Option.none : Option Jvm.ClassFile.FieldType)).before args0 about1 = true := code_word (m := ⟨7, 1⟩) (meth := k7m1) (c := k7c1) (by decide +kernel) rfl rfl rfl (by decide +kernel)
set_option maxRecDepth 65536 in
theorem w_c6 : (Jvm.Cond.code ({ cls := "java/lang/Enum", name := "ordinal", desc := "()I" } : Jvm.MethodName) jdk_37_method_2_code (1 : Nat) (Option.some Jvm.ClassFile.FieldType.int)).before args0 about1 = true := code_word (m := ⟨5, 0⟩) (meth := k5m0) (c := k5c0) (by decide +kernel) rfl rfl rfl (by decide +kernel)
set_option maxRecDepth 65536 in
theorem w_c7 : (Jvm.Cond.code ({ cls := "spanwire/protocol/MessageKind", name := "isProtocol", desc := "()Z" } : Jvm.MethodName) prog_75_method_5_code (1 : Nat) (Option.some Jvm.ClassFile.FieldType.boolean)).before args0 about1 = true := code_word (m := ⟨6, 1⟩) (meth := k6m1) (c := k6c1) (by decide +kernel) rfl rfl rfl (by decide +kernel)
set_option maxRecDepth 65536 in
theorem w_c8 : (Jvm.Cond.code ({ cls := "spanwire/protocol/MessageCounts", name := "addAll", desc := "(Lspanwire/protocol/MessageCounts;)V" } : Jvm.MethodName) prog_73_method_4_code (3 : Nat) (Option.none : Option Jvm.ClassFile.FieldType)).before args0 about1 = true := code_word (m := ⟨7, 2⟩) (meth := k7m2) (c := k7c2) (by decide +kernel) rfl rfl rfl (by decide +kernel)
set_option maxRecDepth 65536 in
theorem w_c9 : (Jvm.Cond.code ({ cls := "spanwire/protocol/MessageCounts", name := "get", desc := "(Lspanwire/protocol/MessageKind;)J" } : Jvm.MethodName) prog_73_method_5_code (2 : Nat) (Option.some Jvm.ClassFile.FieldType.long)).before args0 about1 = true := code_word (m := ⟨7, 3⟩) (meth := k7m3) (c := k7c3) (by decide +kernel) rfl rfl rfl (by decide +kernel)
set_option maxRecDepth 65536 in
theorem w_c10 : (Jvm.Cond.code ({ cls := "spanwire/protocol/MessageCounts", name := "total", desc := "()J" } : Jvm.MethodName) prog_73_method_6_code (1 : Nat) (Option.some Jvm.ClassFile.FieldType.long)).before args0 about1 = true := code_word (m := ⟨7, 4⟩) (meth := k7m4) (c := k7c4) (by decide +kernel) rfl rfl rfl (by decide +kernel)
def codes1 : List Jvm.Cond := [Jvm.Cond.code x code maxLocals ret, Jvm.Cond.code ({ cls := "spanwire/protocol/MessageCountsAddAllPinLaw", name := "kind", desc := "(I)Lspanwire/protocol/MessageKind;" } : Jvm.MethodName) method_2_code (1 : Nat) (Option.some (Jvm.ClassFile.FieldType.object "spanwire/protocol/MessageKind")), Jvm.Cond.code ({ cls := "spanwire/protocol/MessageCounts", name := "<init>", desc := "()V" } : Jvm.MethodName) prog_73_method_1_code (1 : Nat) (Option.none : Option Jvm.ClassFile.FieldType), Jvm.Cond.code ({ cls := "java/lang/Object", name := "<init>", desc := "()V" } : Jvm.MethodName) object_method_1_code (1 : Nat) (Option.none : Option Jvm.ClassFile.FieldType), Jvm.Cond.code ({ cls := "spanwire/protocol/MessageKind", name := "values", desc := "()[Lspanwire/protocol/MessageKind;" } : Jvm.MethodName) prog_75_method_1_code (0 : Nat) (Option.some (Jvm.ClassFile.FieldType.array (Jvm.ClassFile.FieldType.object "spanwire/protocol/MessageKind"))), Jvm.Cond.code ({ cls := "spanwire/protocol/MessageCounts", name := "add", desc := "(Lspanwire/protocol/MessageKind;J)V" } : Jvm.MethodName) prog_73_method_3_code (4 : Nat) (Option.none : Option Jvm.ClassFile.FieldType), Jvm.Cond.code ({ cls := "java/lang/Enum", name := "ordinal", desc := "()I" } : Jvm.MethodName) jdk_37_method_2_code (1 : Nat) (Option.some Jvm.ClassFile.FieldType.int), Jvm.Cond.code ({ cls := "spanwire/protocol/MessageKind", name := "isProtocol", desc := "()Z" } : Jvm.MethodName) prog_75_method_5_code (1 : Nat) (Option.some Jvm.ClassFile.FieldType.boolean), Jvm.Cond.code ({ cls := "spanwire/protocol/MessageCounts", name := "addAll", desc := "(Lspanwire/protocol/MessageCounts;)V" } : Jvm.MethodName) prog_73_method_4_code (3 : Nat) (Option.none : Option Jvm.ClassFile.FieldType), Jvm.Cond.code ({ cls := "spanwire/protocol/MessageCounts", name := "get", desc := "(Lspanwire/protocol/MessageKind;)J" } : Jvm.MethodName) prog_73_method_5_code (2 : Nat) (Option.some Jvm.ClassFile.FieldType.long), Jvm.Cond.code ({ cls := "spanwire/protocol/MessageCounts", name := "total", desc := "()J" } : Jvm.MethodName) prog_73_method_6_code (1 : Nat) (Option.some Jvm.ClassFile.FieldType.long)]
set_option maxRecDepth 65536 in
theorem codes_eq : words1.filter isCode = codes1 := rfl
theorem w_codes : ∀ c ∈ words1.filter isCode, c.before args0 about1 = true := by
  rw [codes_eq]
  intro c hc
  simp only [codes1, List.mem_cons, List.not_mem_nil, or_false] at hc
  rcases hc with rfl | rfl | rfl | rfl | rfl | rfl | rfl | rfl | rfl | rfl | rfl
  · exact w_c0
  · exact w_c1
  · exact w_c2
  · exact w_c3
  · exact w_c4
  · exact w_c5
  · exact w_c6
  · exact w_c7
  · exact w_c8
  · exact w_c9
  · exact w_c10
set_option maxRecDepth 65536 in
theorem w_t1 : (words1.take 24).all (fun c => isCode c || c.before args0 about1) = true := by decide +kernel
set_option maxRecDepth 65536 in
theorem w_t2 : ((words1.drop 24).take 24).all (fun c => isCode c || c.before args0 about1) = true := by decide +kernel
set_option maxRecDepth 65536 in
theorem w_t3 : (((words1.drop 24).drop 24).take 24).all (fun c => isCode c || c.before args0 about1) = true := by decide +kernel
set_option maxRecDepth 65536 in
theorem w_t4 : (((words1.drop 24).drop 24).drop 24).all (fun c => isCode c || c.before args0 about1) = true := by decide +kernel
theorem w_tables : (allAtoms (Jvm.Cond.code x code maxLocals ret :: tables_1)).before args0 about1 = true := by
  rw [allAtoms_all]
  show words1.all (fun c => c.before args0 about1) = true
  refine all_split ?_ w_codes
  rw [← List.take_append_drop 24 words1, List.all_append, w_t1, ← List.take_append_drop 24 (words1.drop 24), List.all_append, w_t2, ← List.take_append_drop 24 ((words1.drop 24).drop 24), List.all_append, w_t3, w_t4]
  rfl
set_option maxRecDepth 65536 in
theorem w_case : (Jvm.Cond.and given_1 narrow_1).before args0 about1 = true := by decide +kernel
theorem w_applies : (headSpec (Jvm.Cond.code x code maxLocals ret :: tables_1) room_1).applies x e0.platform about1 = true :=
  (Spec.applies_iff w_frames).mpr ⟨w_running, w_runnable, w_alone, w_named, w_hears, w_ripe, w_room, w_tables⟩
theorem atStart : AtStart classFile x code maxLocals ret World_1 tables_1 room_1 Calls_1 rest_1 Pre_1 launch0 p0 e0 about1 theMethod args0 below0 :=
  ⟨lists_1, trivial, launch0.admits_env _ _ _, launch0.least_env, fairChoices_fair.cas, fairChoices_fair.clock, w_frames, w_args, w_heap, w_applies, trivial, trivial, w_case⟩
end start1
theorem witness_1 : WitnessClaimed_1 := ⟨start1.p0, start1.e0, start1.about1, start1.theMethod, start1.args0, start1.below0, start1.atStart⟩
end Jvm.Pilot.@@N@@
