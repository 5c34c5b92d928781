import JvmDerived
import JvmDerived.Pilot.@@N@@Statement
import JvmDerived.Pilot.@@N@@Code
set_option linter.unusedVariables false
set_option linter.unusedSimpArgs false
namespace Jvm.Pilot.@@N@@
open Jvm Jvm.ClassFile Sem Op Lib Jvm.Free Jvm.Stand Jvm.LawKit Jvm.RoadKit Bundle Jvm.Pilot.@@N@@.Jvm.D
def own_Go (tb : Tables) (e : Env) (below : List Frame) (R : Outcome → State → Prop) (S : State) : Prop := ∃ s₂ o, Steps tb e below S s₂ ∧ s₂.status = .running ∧ Ended s₂ below o ∧ R o s₂
theorem own_go {tb : Tables} {e : Env} {below : List Frame} {R : Outcome → State → Prop} {S S' : State} (k : ∀ t, Steps tb e below S' t → Steps tb e below S t) (h : own_Go tb e below R S') : own_Go tb e below R S := by
  obtain ⟨a, b, c, d⟩ := h
  exact ⟨a, b, k _ c, d⟩
theorem own_to {tb : Tables} {e : Env} {below : List Frame} {R : Outcome → State → Prop} {S S' : State} (k : Steps tb e below S S') (h : own_Go tb e below R S') : own_Go tb e below R S := by
  obtain ⟨a, b, c, d⟩ := h
  exact ⟨a, b, k.trans c, d⟩
theorem own_narR {t : FieldType} {v : Value} (ht : t.isReference = true) (hv : v.isRef = true) : narrow t v = v := by
  cases t <;> first | (cases ht; done) | (cases v <;> first | rfl | (cases hv; done))
theorem own_le7 (x : Int32) : x &&& (7 : Int32) = (0 : Int32) ∨ x &&& (7 : Int32) = (1 : Int32) ∨ x &&& (7 : Int32) = (2 : Int32) ∨ x &&& (7 : Int32) = (3 : Int32) ∨ x &&& (7 : Int32) = (4 : Int32) ∨ x &&& (7 : Int32) = (5 : Int32) ∨ x &&& (7 : Int32) = (6 : Int32) ∨ x &&& (7 : Int32) = (7 : Int32) := by
  have h := c_mask x 7 3 (by decide) (by decide)
  simp only [← Int32.toInt_inj]
  generalize (x &&& 7).toInt = y at h ⊢
  have e0 : (0 : Int32).toInt = 0 := by decide
  have e1 : (1 : Int32).toInt = 1 := by decide
  have e2 : (2 : Int32).toInt = 2 := by decide
  have e3 : (3 : Int32).toInt = 3 := by decide
  have e4 : (4 : Int32).toInt = 4 := by decide
  have e5 : (5 : Int32).toInt = 5 := by decide
  have e6 : (6 : Int32).toInt = 6 := by decide
  have e7 : (7 : Int32).toInt = 7 := by decide
  omega
def own_isp (r sD : Addr) : Int32 := if (Value.ref r) = (Value.ref sD) then 0 else 1
theorem d1_0 : decode prog_74_method_5_code 0 = .ok (.aload_n 0, 1) := by decide +kernel
theorem d1_1 : decode prog_74_method_5_code 1 = .ok (.getstatic 25, 3) := by decide +kernel
theorem d1_4 : decode prog_74_method_5_code 4 = .ok (.if_acmp .eq 7, 3) := by decide +kernel
theorem d1_11 : decode prog_74_method_5_code 11 = .ok (.iconst 0, 1) := by decide +kernel
theorem d1_12 : decode prog_74_method_5_code 12 = .ok (.ireturn, 1) := by decide +kernel
theorem d1_7 : decode prog_74_method_5_code 7 = .ok (.iconst 1, 1) := by decide +kernel
theorem d1_8 : decode prog_74_method_5_code 8 = .ok (.goto 4, 3) := by decide +kernel
theorem pn_spanwire_protocol_MessageKind : plainName "spanwire/protocol/MessageKind" = true := by first | (simp [plainName, overriddenIn]; done) | decide +kernel
theorem ef1 (m : MethodId) (x0 : Addr) : entryFrame m #[(.ref x0)] 1 = mkF m 0 #[.val (.ref x0)] [] := by first | (simp [entryFrame, mkF, argsToLocals, Value.category]; done) | rfl
def Q1 (Z : State) (r : Addr) (sD : Addr) (h0 : Heap) (n0 : Nat) (v : Option Value) (h : Heap) (L : List Loc) : Prop := v = some (.int (own_isp r sD)) ∧ Fr n0 L ∧ h = h0
set_option maxRecDepth 65536 in
set_option maxHeartbeats 40000000 in
theorem rm1 (l : Launch) (Z : State) (a0 : Array Value) (hw : ∀ d ∈ tables_1, d.before a0 Z = true) (ws : List Jvm.Cond) (r : Addr) (sD : Addr) (h0 : Heap) (n0 : Nat) (Z0 : n0 ≤ h0.size) (O0 : Old Z n0 h0) (S_DONE : Sta Z Z.heap "spanwire/protocol/MessageKind" "DONE" "Lspanwire/protocol/MessageKind;" (.ref sD)) :
    MetFree l (⟨"spanwire/protocol/MessageKind", "isProtocol", "()Z"⟩ : MethodName) (head1 (Jvm.Cond.code (⟨"spanwire/protocol/MessageKind", "isProtocol", "()Z"⟩ : MethodName) prog_74_method_5_code 1 ((Option.some FieldType.boolean)) :: ws) ({ frames := 0, cells := 0, slots := 0, locals := 0 } : Room)) (fun aa U => aa = #[(.ref r)] ∧ Z.Warmed39 U.vm ∧ U.heap = h0) (fun _ _ _ _ _ => True) (fun _ U ou U' => ∃ v L, ou = .returned v ∧ Q1 Z r sD h0 n0 v U'.heap L ∧ FrameEnd U ou U' L ({ frames := 0, cells := 0, slots := 0, locals := 0 } : Room).cells ({ frames := 0, cells := 0, slots := 0, locals := 0 } : Room).slots) := by
  refine MetFree.of_bodySF (plainFor_of_name pn_spanwire_protocol_MessageKind) hisR ?_
  intro pg e s m args below meth c s₁ Bd hml0 hP hK
  obtain ⟨rfl, hZ, hh⟩ := hP
  have hx := Bd.exec
  have hby := Bd.bytes
  have hml : c.maxLocals = 1 := hml0
  have hown : s.vm.findClass "spanwire/protocol/MessageKind" = some m.cls := findClass_of_methodNamed Bd.named
  have hnm := (name_of_methodNamed Bd.named Bd.method).1
  have X0 : Stand pg l e ({ frames := 0, cells := 0, slots := 0, locals := 0 } : Room) s m #[(.ref r)] below meth c s₁ [] 0 0 := Stand.of_body Bd
  have e0 : s₁.heap = h0 := by rw [← hh, Bd.state]; rfl
  have N0 := Fr.nil n0
  show own_Go pg.tables e below (fun ou U' => ∃ v L, ou = .returned v ∧ Q1 Z r sD h0 n0 v U'.heap L ∧ FrameEnd s ou U' L ({ frames := 0, cells := 0, slots := 0, locals := 0 } : Room).cells ({ frames := 0, cells := 0, slots := 0, locals := 0 } : Room).slots) (s₁.setTop (entryFrame m #[(.ref r)] 1))
  refine own_go (S' := s₁.setTop (mkF m 0 #[.val (.ref r)] [])) (fun tg kk => castTop (ef1 m r) kk) ?_
  refine own_go (S' := s₁.setTop (mkF m 1 #[.val (.ref r)] [(.ref r)])) (fun tg kk => XS.aloadN X0.here hx rfl (hb hby d1_0) rfl rfl kk) ?_
  obtain ⟨T1, X1, e1, st1⟩ := getS (host := "") X0 hx hZ hown (hw _ (List.mem_of_getElem? (i := 25) rfl)) Via.refl e0 (S_DONE.ext O0.2) (g := (mkF m 1 #[.val (.ref r)] [(.ref r)])) rfl (hb hby d1_1)
  refine own_go (S' := T1.setTop (mkF m 4 #[.val (.ref r)] [(.ref sD), (.ref r)])) (st1) ?_
  by_cases c2 : (Value.ref r) = (Value.ref sD)
  · refine own_go (S' := T1.setTop (mkF m 11 #[.val (.ref r)] [])) (fun tg kk => XT.acmpYes X1.here hx rfl (pc0 := 4) (pc' := 11) rfl (hb hby d1_4) rfl rfl rfl (XT.aa_eq_t c2) (by decide) (by decide) kk) ?_
    refine own_go (S' := T1.setTop (mkF m 12 #[.val (.ref r)] [(.int (0 : Int32))])) (fun tg kk => XT.iconstV X1.here hx rfl (0 : Int32) (hb hby d1_11) (by decide) kk) ?_
    obtain ⟨fs, hr, hrun, hended, hW, hsame⟩ := X1.leave (v := some (.int (0 : Int32))) (fun h => by rw [Bd.returns] at h; cases h)
    refine ⟨_, _, retN X1 hx (t := .boolean) Bd.returns (by simp) (hb hby d1_12) hr, hrun, hended, _, _, rfl, ?_, ⟨_, rfl⟩, hW, hsame.mono (by decide) (by decide)⟩
    show Q1 Z r sD h0 n0 (some (.int (0 : Int32))) T1.heap _
    rw [e1]
    exact ⟨by unfold own_isp; rw [if_pos c2], N0, rfl⟩
  · refine own_go (S' := T1.setTop (mkF m 7 #[.val (.ref r)] [])) (fun tg kk => XT.acmpNo X1.here hx rfl (hb hby d1_4) rfl rfl rfl (XT.aa_eq_f c2) kk) ?_
    refine own_go (S' := T1.setTop (mkF m 8 #[.val (.ref r)] [(.int (1 : Int32))])) (fun tg kk => XT.iconstV X1.here hx rfl (1 : Int32) (hb hby d1_7) (by decide) kk) ?_
    refine own_go (S' := T1.setTop (mkF m 12 #[.val (.ref r)] [(.int (1 : Int32))])) (fun tg kk => XS.goto X1.here hx rfl (pc0 := 8) (pc' := 12) rfl (hb hby d1_8) (by decide) (by decide) kk) ?_
    obtain ⟨fs, hr, hrun, hended, hW, hsame⟩ := X1.leave (v := some (.int (1 : Int32))) (fun h => by rw [Bd.returns] at h; cases h)
    refine ⟨_, _, retN X1 hx (t := .boolean) Bd.returns (by simp) (hb hby d1_12) hr, hrun, hended, _, _, rfl, ?_, ⟨_, rfl⟩, hW, hsame.mono (by decide) (by decide)⟩
    show Q1 Z r sD h0 n0 (some (.int (1 : Int32))) T1.heap _
    rw [e1]
    exact ⟨by unfold own_isp; rw [if_neg c2], N0, rfl⟩
theorem pd___Z : parseMethodDescriptor "()Z" = some ⟨[], some .boolean⟩ := by decide +kernel
theorem pn_spanwire_protocol_MessageKindIsProtocolPinLaw : plainName "spanwire/protocol/MessageKindIsProtocolPinLaw" = true := by first | (simp [plainName, overriddenIn]; done) | decide +kernel
theorem ef0 (m : MethodId) (x0 : Int32) : entryFrame m #[(.int x0)] maxLocals = mkF m 0 #[.val (.int x0), .unset, .unset, .unset] [] := by first | (simp [entryFrame, mkF, argsToLocals, Value.category, maxLocals]; done) | rfl
def Q0 (Z : State) (p1 : Int32) (s0 : Addr) (s1 : Addr) (s2 : Addr) (s3 : Addr) (s4 : Addr) (s5 : Addr) (s6 : Addr) (s7 : Addr) (h0 : Heap) (n0 : Nat) (v : Option Value) (h : Heap) (L : List Loc) : Prop := v = some (.int 1) ∧ Fr n0 L
set_option maxRecDepth 65536 in
set_option maxHeartbeats 40000000 in
theorem rm0 (l : Launch) (Z : State) (a0 : Array Value) (hw : ∀ d ∈ tables_1, d.before a0 Z = true) (ws : List Jvm.Cond) (p1 : Int32) (s0 : Addr) (s1 : Addr) (s2 : Addr) (s3 : Addr) (s4 : Addr) (s5 : Addr) (s6 : Addr) (s7 : Addr) (h0 : Heap) (n0 : Nat) (Z0 : n0 ≤ h0.size) (O0 : Old Z n0 h0) (S_CONNECT : Sta Z Z.heap "spanwire/protocol/MessageKind" "CONNECT" "Lspanwire/protocol/MessageKind;" (.ref s0)) (S_INITIATE : Sta Z Z.heap "spanwire/protocol/MessageKind" "INITIATE" "Lspanwire/protocol/MessageKind;" (.ref s1)) (S_TEST : Sta Z Z.heap "spanwire/protocol/MessageKind" "TEST" "Lspanwire/protocol/MessageKind;" (.ref s2)) (S_ACCEPT : Sta Z Z.heap "spanwire/protocol/MessageKind" "ACCEPT" "Lspanwire/protocol/MessageKind;" (.ref s3)) (S_REJECT : Sta Z Z.heap "spanwire/protocol/MessageKind" "REJECT" "Lspanwire/protocol/MessageKind;" (.ref s4)) (S_REPORT : Sta Z Z.heap "spanwire/protocol/MessageKind" "REPORT" "Lspanwire/protocol/MessageKind;" (.ref s5)) (S_CHANGE_ROOT : Sta Z Z.heap "spanwire/protocol/MessageKind" "CHANGE_ROOT" "Lspanwire/protocol/MessageKind;" (.ref s6)) (S_DONE : Sta Z Z.heap "spanwire/protocol/MessageKind" "DONE" "Lspanwire/protocol/MessageKind;" (.ref s7)) (E_CONNECT : Exa Z Z.heap s0 "spanwire/protocol/MessageKind") (E_INITIATE : Exa Z Z.heap s1 "spanwire/protocol/MessageKind") (E_TEST : Exa Z Z.heap s2 "spanwire/protocol/MessageKind") (E_ACCEPT : Exa Z Z.heap s3 "spanwire/protocol/MessageKind") (E_REJECT : Exa Z Z.heap s4 "spanwire/protocol/MessageKind") (E_REPORT : Exa Z Z.heap s5 "spanwire/protocol/MessageKind") (E_CHANGE_ROOT : Exa Z Z.heap s6 "spanwire/protocol/MessageKind") (E_DONE : Exa Z Z.heap s7 "spanwire/protocol/MessageKind") (nq0 : s0 ≠ s7) (nq1 : s1 ≠ s7) (nq2 : s2 ≠ s7) (nq3 : s3 ≠ s7) (nq4 : s4 ≠ s7) (nq5 : s5 ≠ s7) (nq6 : s6 ≠ s7) :
    MetFree l x (head1 (Jvm.Cond.code x code maxLocals ret :: ws) room_1) (fun aa U => aa = #[(.int p1)] ∧ Z.Warmed39 U.vm ∧ U.heap = h0) (fun _ _ _ _ _ => True) (fun _ U ou U' => ∃ v L, ou = .returned v ∧ Q0 Z p1 s0 s1 s2 s3 s4 s5 s6 s7 h0 n0 v U'.heap L ∧ FrameEnd U ou U' L room_1.cells room_1.slots) := by
  refine MetFree.of_bodySF (plainFor_of_name pn_spanwire_protocol_MessageKindIsProtocolPinLaw) hisR ?_
  intro pg e s m args below meth c s₁ Bd hml0 hP hK
  obtain ⟨rfl, hZ, hh⟩ := hP
  have hx := Bd.exec
  have hby := Bd.bytes
  have hml : c.maxLocals = 4 := hml0
  have hown : s.vm.findClass "spanwire/protocol/MessageKindIsProtocolPinLaw" = some m.cls := findClass_of_methodNamed Bd.named
  have hnm := (name_of_methodNamed Bd.named Bd.method).1
  have X0 : Stand pg l e room_1 s m #[(.int p1)] below meth c s₁ [] 0 0 := Stand.of_body Bd
  have e0 : s₁.heap = h0 := by rw [← hh, Bd.state]; rfl
  have N0 := Fr.nil n0
  show own_Go pg.tables e below (fun ou U' => ∃ v L, ou = .returned v ∧ Q0 Z p1 s0 s1 s2 s3 s4 s5 s6 s7 h0 n0 v U'.heap L ∧ FrameEnd s ou U' L room_1.cells room_1.slots) (s₁.setTop (entryFrame m #[(.int p1)] maxLocals))
  refine own_go (S' := s₁.setTop (mkF m 0 #[.val (.int p1), .unset, .unset, .unset] [])) (fun tg kk => castTop (ef0 m p1) kk) ?_
  refine own_go (S' := s₁.setTop (mkF m 2 #[.val (.int p1), .unset, .unset, .unset] [(.int (8 : Int32))])) (fun tg kk => XT.bipushV X0.here hx rfl (8 : Int32) (hb hby at_0) (by decide) kk) ?_
  obtain ⟨T1, h1, cA1, X1, e1, Ex1, A1, Ov1, st1⟩ := newR X0 hx hZ hown (hw _ (List.mem_of_getElem? (i := 0) rfl)) (hw _ (List.mem_of_getElem? (i := 1) rfl)) e0 (g := (mkF m 2 #[.val (.int p1), .unset, .unset, .unset] [(.int (8 : Int32))])) rfl (hb hby at_2) rfl (n := (8 : Int32)) (by decide) (cap := 8) (by decide) (by decide) (by decide) (by decide)
  obtain ⟨a1, g1⟩ : ∃ z, z = h0.size := ⟨_, rfl⟩
  rw [← g1] at A1 st1
  have q1 : n0 ≤ a1 := by rw [g1]; exact Z0
  have O2 : Old Z n0 h1 := O0.ext Ex1
  have Z3 : n0 ≤ h1.size := Nat.le_trans Z0 Ex1.1
  refine own_go (S' := T1.setTop (mkF m 5 #[.val (.int p1), .unset, .unset, .unset] [(.ref a1)])) (st1) ?_
  have V1 : Arv Z h1 a1 cA1 (.object "spanwire/protocol/MessageKind") (8 : Int32) [.null, .null, .null, .null, .null, .null, .null, .null] .null := (Arv.new A1 (by decide)).pad (pad_rep [] .null 8)
  refine own_go (S' := T1.setTop (mkF m 6 #[.val (.int p1), .unset, .unset, .unset] [(.ref a1), (.ref a1)])) (fun tg kk => XS.dup X1.here hx rfl (hb hby at_5) rfl rfl kk) ?_
  refine own_go (S' := T1.setTop (mkF m 7 #[.val (.int p1), .unset, .unset, .unset] [(.int (0 : Int32)), (.ref a1), (.ref a1)])) (fun tg kk => XT.iconstV X1.here hx rfl (0 : Int32) (hb hby at_6) (by decide) kk) ?_
  obtain ⟨T4, X4, e4, st4⟩ := getS (host := "") X1 hx hZ hown (hw _ (List.mem_of_getElem? (i := 2) rfl)) Via.refl e1 (S_CONNECT.ext O2.2) (g := (mkF m 7 #[.val (.int p1), .unset, .unset, .unset] [(.int (0 : Int32)), (.ref a1), (.ref a1)])) rfl (hb hby at_7)
  refine own_go (S' := T4.setTop (mkF m 10 #[.val (.int p1), .unset, .unset, .unset] [(.ref s0), (.int (0 : Int32)), (.ref a1), (.ref a1)])) (st4) ?_
  obtain ⟨cl5, Ar5, q1_5, S5, q3_5, H5, G5⟩ := id V1
  have hj5 := inb_of (j := (0 : Int32)) S5 ⟨by decide, by decide⟩
  obtain ⟨T5, h5, X5, e5, W5, st5⟩ := stR X4 hx hZ e4 Ar5 hj5 rfl (Sto.ofV Ar5 q1_5 Ov1 (Ins.self (E_CONNECT.ext O2.2))) (g := (mkF m 10 #[.val (.int p1), .unset, .unset, .unset] [(.ref s0), (.int (0 : Int32)), (.ref a1), (.ref a1)])) rfl rfl (hb hby at_10)
  refine own_go (S' := T5.setTop (mkF m 11 #[.val (.int p1), .unset, .unset, .unset] [(.ref a1)])) (st5) ?_
  have N5 := Fr.snoc X5 N0 q1
  have O7 : Old Z n0 h5 := O2.wr W5 q1
  have Z8 : n0 ≤ h5.size := by rw [W5.size]; exact Z3
  have V5 : Arv Z h5 a1 cA1 (.object "spanwire/protocol/MessageKind") (8 : Int32) [(.ref s0), .null, .null, .null, .null, .null, .null, .null] .null := Arv.set Ar5 q1_5 S5 q3_5 H5 G5 rfl W5 0 (by decide) (by simp)
  refine own_go (S' := T5.setTop (mkF m 12 #[.val (.int p1), .unset, .unset, .unset] [(.ref a1), (.ref a1)])) (fun tg kk => XS.dup X5.here hx rfl (hb hby at_11) rfl rfl kk) ?_
  refine own_go (S' := T5.setTop (mkF m 13 #[.val (.int p1), .unset, .unset, .unset] [(.int (1 : Int32)), (.ref a1), (.ref a1)])) (fun tg kk => XT.iconstV X5.here hx rfl (1 : Int32) (hb hby at_12) (by decide) kk) ?_
  obtain ⟨T9, X9, e9, st9⟩ := getS (host := "") X5 hx hZ hown (hw _ (List.mem_of_getElem? (i := 6) rfl)) Via.refl e5 (S_INITIATE.ext O7.2) (g := (mkF m 13 #[.val (.int p1), .unset, .unset, .unset] [(.int (1 : Int32)), (.ref a1), (.ref a1)])) rfl (hb hby at_13)
  refine own_go (S' := T9.setTop (mkF m 16 #[.val (.int p1), .unset, .unset, .unset] [(.ref s1), (.int (1 : Int32)), (.ref a1), (.ref a1)])) (st9) ?_
  obtain ⟨cl10, Ar10, q1_10, S10, q3_10, H10, G10⟩ := id V5
  have hj10 := inb_of (j := (1 : Int32)) S10 ⟨by decide, by decide⟩
  obtain ⟨T10, h10, X10, e10, W10, st10⟩ := stR X9 hx hZ e9 Ar10 hj10 rfl (Sto.ofV Ar10 q1_10 Ov1 (Ins.self (E_INITIATE.ext O7.2))) (g := (mkF m 16 #[.val (.int p1), .unset, .unset, .unset] [(.ref s1), (.int (1 : Int32)), (.ref a1), (.ref a1)])) rfl rfl (hb hby at_16)
  refine own_go (S' := T10.setTop (mkF m 17 #[.val (.int p1), .unset, .unset, .unset] [(.ref a1)])) (st10) ?_
  have N10 := Fr.snoc X10 N5 q1
  have O12 : Old Z n0 h10 := O7.wr W10 q1
  have Z13 : n0 ≤ h10.size := by rw [W10.size]; exact Z8
  have V10 : Arv Z h10 a1 cA1 (.object "spanwire/protocol/MessageKind") (8 : Int32) [(.ref s0), (.ref s1), .null, .null, .null, .null, .null, .null] .null := Arv.set Ar10 q1_10 S10 q3_10 H10 G10 rfl W10 1 (by decide) (by simp)
  refine own_go (S' := T10.setTop (mkF m 18 #[.val (.int p1), .unset, .unset, .unset] [(.ref a1), (.ref a1)])) (fun tg kk => XS.dup X10.here hx rfl (hb hby at_17) rfl rfl kk) ?_
  refine own_go (S' := T10.setTop (mkF m 19 #[.val (.int p1), .unset, .unset, .unset] [(.int (2 : Int32)), (.ref a1), (.ref a1)])) (fun tg kk => XT.iconstV X10.here hx rfl (2 : Int32) (hb hby at_18) (by decide) kk) ?_
  obtain ⟨T14, X14, e14, st14⟩ := getS (host := "") X10 hx hZ hown (hw _ (List.mem_of_getElem? (i := 8) rfl)) Via.refl e10 (S_TEST.ext O12.2) (g := (mkF m 19 #[.val (.int p1), .unset, .unset, .unset] [(.int (2 : Int32)), (.ref a1), (.ref a1)])) rfl (hb hby at_19)
  refine own_go (S' := T14.setTop (mkF m 22 #[.val (.int p1), .unset, .unset, .unset] [(.ref s2), (.int (2 : Int32)), (.ref a1), (.ref a1)])) (st14) ?_
  obtain ⟨cl15, Ar15, q1_15, S15, q3_15, H15, G15⟩ := id V10
  have hj15 := inb_of (j := (2 : Int32)) S15 ⟨by decide, by decide⟩
  obtain ⟨T15, h15, X15, e15, W15, st15⟩ := stR X14 hx hZ e14 Ar15 hj15 rfl (Sto.ofV Ar15 q1_15 Ov1 (Ins.self (E_TEST.ext O12.2))) (g := (mkF m 22 #[.val (.int p1), .unset, .unset, .unset] [(.ref s2), (.int (2 : Int32)), (.ref a1), (.ref a1)])) rfl rfl (hb hby at_22)
  refine own_go (S' := T15.setTop (mkF m 23 #[.val (.int p1), .unset, .unset, .unset] [(.ref a1)])) (st15) ?_
  have N15 := Fr.snoc X15 N10 q1
  have O17 : Old Z n0 h15 := O12.wr W15 q1
  have Z18 : n0 ≤ h15.size := by rw [W15.size]; exact Z13
  have V15 : Arv Z h15 a1 cA1 (.object "spanwire/protocol/MessageKind") (8 : Int32) [(.ref s0), (.ref s1), (.ref s2), .null, .null, .null, .null, .null] .null := Arv.set Ar15 q1_15 S15 q3_15 H15 G15 rfl W15 2 (by decide) (by simp)
  refine own_go (S' := T15.setTop (mkF m 24 #[.val (.int p1), .unset, .unset, .unset] [(.ref a1), (.ref a1)])) (fun tg kk => XS.dup X15.here hx rfl (hb hby at_23) rfl rfl kk) ?_
  refine own_go (S' := T15.setTop (mkF m 25 #[.val (.int p1), .unset, .unset, .unset] [(.int (3 : Int32)), (.ref a1), (.ref a1)])) (fun tg kk => XT.iconstV X15.here hx rfl (3 : Int32) (hb hby at_24) (by decide) kk) ?_
  obtain ⟨T19, X19, e19, st19⟩ := getS (host := "") X15 hx hZ hown (hw _ (List.mem_of_getElem? (i := 10) rfl)) Via.refl e15 (S_ACCEPT.ext O17.2) (g := (mkF m 25 #[.val (.int p1), .unset, .unset, .unset] [(.int (3 : Int32)), (.ref a1), (.ref a1)])) rfl (hb hby at_25)
  refine own_go (S' := T19.setTop (mkF m 28 #[.val (.int p1), .unset, .unset, .unset] [(.ref s3), (.int (3 : Int32)), (.ref a1), (.ref a1)])) (st19) ?_
  obtain ⟨cl20, Ar20, q1_20, S20, q3_20, H20, G20⟩ := id V15
  have hj20 := inb_of (j := (3 : Int32)) S20 ⟨by decide, by decide⟩
  obtain ⟨T20, h20, X20, e20, W20, st20⟩ := stR X19 hx hZ e19 Ar20 hj20 rfl (Sto.ofV Ar20 q1_20 Ov1 (Ins.self (E_ACCEPT.ext O17.2))) (g := (mkF m 28 #[.val (.int p1), .unset, .unset, .unset] [(.ref s3), (.int (3 : Int32)), (.ref a1), (.ref a1)])) rfl rfl (hb hby at_28)
  refine own_go (S' := T20.setTop (mkF m 29 #[.val (.int p1), .unset, .unset, .unset] [(.ref a1)])) (st20) ?_
  have N20 := Fr.snoc X20 N15 q1
  have O22 : Old Z n0 h20 := O17.wr W20 q1
  have Z23 : n0 ≤ h20.size := by rw [W20.size]; exact Z18
  have V20 : Arv Z h20 a1 cA1 (.object "spanwire/protocol/MessageKind") (8 : Int32) [(.ref s0), (.ref s1), (.ref s2), (.ref s3), .null, .null, .null, .null] .null := Arv.set Ar20 q1_20 S20 q3_20 H20 G20 rfl W20 3 (by decide) (by simp)
  refine own_go (S' := T20.setTop (mkF m 30 #[.val (.int p1), .unset, .unset, .unset] [(.ref a1), (.ref a1)])) (fun tg kk => XS.dup X20.here hx rfl (hb hby at_29) rfl rfl kk) ?_
  refine own_go (S' := T20.setTop (mkF m 31 #[.val (.int p1), .unset, .unset, .unset] [(.int (4 : Int32)), (.ref a1), (.ref a1)])) (fun tg kk => XT.iconstV X20.here hx rfl (4 : Int32) (hb hby at_30) (by decide) kk) ?_
  obtain ⟨T24, X24, e24, st24⟩ := getS (host := "") X20 hx hZ hown (hw _ (List.mem_of_getElem? (i := 12) rfl)) Via.refl e20 (S_REJECT.ext O22.2) (g := (mkF m 31 #[.val (.int p1), .unset, .unset, .unset] [(.int (4 : Int32)), (.ref a1), (.ref a1)])) rfl (hb hby at_31)
  refine own_go (S' := T24.setTop (mkF m 34 #[.val (.int p1), .unset, .unset, .unset] [(.ref s4), (.int (4 : Int32)), (.ref a1), (.ref a1)])) (st24) ?_
  obtain ⟨cl25, Ar25, q1_25, S25, q3_25, H25, G25⟩ := id V20
  have hj25 := inb_of (j := (4 : Int32)) S25 ⟨by decide, by decide⟩
  obtain ⟨T25, h25, X25, e25, W25, st25⟩ := stR X24 hx hZ e24 Ar25 hj25 rfl (Sto.ofV Ar25 q1_25 Ov1 (Ins.self (E_REJECT.ext O22.2))) (g := (mkF m 34 #[.val (.int p1), .unset, .unset, .unset] [(.ref s4), (.int (4 : Int32)), (.ref a1), (.ref a1)])) rfl rfl (hb hby at_34)
  refine own_go (S' := T25.setTop (mkF m 35 #[.val (.int p1), .unset, .unset, .unset] [(.ref a1)])) (st25) ?_
  have N25 := Fr.snoc X25 N20 q1
  have O27 : Old Z n0 h25 := O22.wr W25 q1
  have Z28 : n0 ≤ h25.size := by rw [W25.size]; exact Z23
  have V25 : Arv Z h25 a1 cA1 (.object "spanwire/protocol/MessageKind") (8 : Int32) [(.ref s0), (.ref s1), (.ref s2), (.ref s3), (.ref s4), .null, .null, .null] .null := Arv.set Ar25 q1_25 S25 q3_25 H25 G25 rfl W25 4 (by decide) (by simp)
  refine own_go (S' := T25.setTop (mkF m 36 #[.val (.int p1), .unset, .unset, .unset] [(.ref a1), (.ref a1)])) (fun tg kk => XS.dup X25.here hx rfl (hb hby at_35) rfl rfl kk) ?_
  refine own_go (S' := T25.setTop (mkF m 37 #[.val (.int p1), .unset, .unset, .unset] [(.int (5 : Int32)), (.ref a1), (.ref a1)])) (fun tg kk => XT.iconstV X25.here hx rfl (5 : Int32) (hb hby at_36) (by decide) kk) ?_
  obtain ⟨T29, X29, e29, st29⟩ := getS (host := "") X25 hx hZ hown (hw _ (List.mem_of_getElem? (i := 14) rfl)) Via.refl e25 (S_REPORT.ext O27.2) (g := (mkF m 37 #[.val (.int p1), .unset, .unset, .unset] [(.int (5 : Int32)), (.ref a1), (.ref a1)])) rfl (hb hby at_37)
  refine own_go (S' := T29.setTop (mkF m 40 #[.val (.int p1), .unset, .unset, .unset] [(.ref s5), (.int (5 : Int32)), (.ref a1), (.ref a1)])) (st29) ?_
  obtain ⟨cl30, Ar30, q1_30, S30, q3_30, H30, G30⟩ := id V25
  have hj30 := inb_of (j := (5 : Int32)) S30 ⟨by decide, by decide⟩
  obtain ⟨T30, h30, X30, e30, W30, st30⟩ := stR X29 hx hZ e29 Ar30 hj30 rfl (Sto.ofV Ar30 q1_30 Ov1 (Ins.self (E_REPORT.ext O27.2))) (g := (mkF m 40 #[.val (.int p1), .unset, .unset, .unset] [(.ref s5), (.int (5 : Int32)), (.ref a1), (.ref a1)])) rfl rfl (hb hby at_40)
  refine own_go (S' := T30.setTop (mkF m 41 #[.val (.int p1), .unset, .unset, .unset] [(.ref a1)])) (st30) ?_
  have N30 := Fr.snoc X30 N25 q1
  have O32 : Old Z n0 h30 := O27.wr W30 q1
  have Z33 : n0 ≤ h30.size := by rw [W30.size]; exact Z28
  have V30 : Arv Z h30 a1 cA1 (.object "spanwire/protocol/MessageKind") (8 : Int32) [(.ref s0), (.ref s1), (.ref s2), (.ref s3), (.ref s4), (.ref s5), .null, .null] .null := Arv.set Ar30 q1_30 S30 q3_30 H30 G30 rfl W30 5 (by decide) (by simp)
  refine own_go (S' := T30.setTop (mkF m 42 #[.val (.int p1), .unset, .unset, .unset] [(.ref a1), (.ref a1)])) (fun tg kk => XS.dup X30.here hx rfl (hb hby at_41) rfl rfl kk) ?_
  refine own_go (S' := T30.setTop (mkF m 44 #[.val (.int p1), .unset, .unset, .unset] [(.int (6 : Int32)), (.ref a1), (.ref a1)])) (fun tg kk => XT.bipushV X30.here hx rfl (6 : Int32) (hb hby at_42) (by decide) kk) ?_
  obtain ⟨T34, X34, e34, st34⟩ := getS (host := "") X30 hx hZ hown (hw _ (List.mem_of_getElem? (i := 16) rfl)) Via.refl e30 (S_CHANGE_ROOT.ext O32.2) (g := (mkF m 44 #[.val (.int p1), .unset, .unset, .unset] [(.int (6 : Int32)), (.ref a1), (.ref a1)])) rfl (hb hby at_44)
  refine own_go (S' := T34.setTop (mkF m 47 #[.val (.int p1), .unset, .unset, .unset] [(.ref s6), (.int (6 : Int32)), (.ref a1), (.ref a1)])) (st34) ?_
  obtain ⟨cl35, Ar35, q1_35, S35, q3_35, H35, G35⟩ := id V30
  have hj35 := inb_of (j := (6 : Int32)) S35 ⟨by decide, by decide⟩
  obtain ⟨T35, h35, X35, e35, W35, st35⟩ := stR X34 hx hZ e34 Ar35 hj35 rfl (Sto.ofV Ar35 q1_35 Ov1 (Ins.self (E_CHANGE_ROOT.ext O32.2))) (g := (mkF m 47 #[.val (.int p1), .unset, .unset, .unset] [(.ref s6), (.int (6 : Int32)), (.ref a1), (.ref a1)])) rfl rfl (hb hby at_47)
  refine own_go (S' := T35.setTop (mkF m 48 #[.val (.int p1), .unset, .unset, .unset] [(.ref a1)])) (st35) ?_
  have N35 := Fr.snoc X35 N30 q1
  have O37 : Old Z n0 h35 := O32.wr W35 q1
  have Z38 : n0 ≤ h35.size := by rw [W35.size]; exact Z33
  have V35 : Arv Z h35 a1 cA1 (.object "spanwire/protocol/MessageKind") (8 : Int32) [(.ref s0), (.ref s1), (.ref s2), (.ref s3), (.ref s4), (.ref s5), (.ref s6), .null] .null := Arv.set Ar35 q1_35 S35 q3_35 H35 G35 rfl W35 6 (by decide) (by simp)
  refine own_go (S' := T35.setTop (mkF m 49 #[.val (.int p1), .unset, .unset, .unset] [(.ref a1), (.ref a1)])) (fun tg kk => XS.dup X35.here hx rfl (hb hby at_48) rfl rfl kk) ?_
  refine own_go (S' := T35.setTop (mkF m 51 #[.val (.int p1), .unset, .unset, .unset] [(.int (7 : Int32)), (.ref a1), (.ref a1)])) (fun tg kk => XT.bipushV X35.here hx rfl (7 : Int32) (hb hby at_49) (by decide) kk) ?_
  obtain ⟨T39, X39, e39, st39⟩ := getS (host := "") X35 hx hZ hown (hw _ (List.mem_of_getElem? (i := 18) rfl)) Via.refl e35 (S_DONE.ext O37.2) (g := (mkF m 51 #[.val (.int p1), .unset, .unset, .unset] [(.int (7 : Int32)), (.ref a1), (.ref a1)])) rfl (hb hby at_51)
  refine own_go (S' := T39.setTop (mkF m 54 #[.val (.int p1), .unset, .unset, .unset] [(.ref s7), (.int (7 : Int32)), (.ref a1), (.ref a1)])) (st39) ?_
  obtain ⟨cl40, Ar40, q1_40, S40, q3_40, H40, G40⟩ := id V35
  have hj40 := inb_of (j := (7 : Int32)) S40 ⟨by decide, by decide⟩
  obtain ⟨T40, h40, X40, e40, W40, st40⟩ := stR X39 hx hZ e39 Ar40 hj40 rfl (Sto.ofV Ar40 q1_40 Ov1 (Ins.self (E_DONE.ext O37.2))) (g := (mkF m 54 #[.val (.int p1), .unset, .unset, .unset] [(.ref s7), (.int (7 : Int32)), (.ref a1), (.ref a1)])) rfl rfl (hb hby at_54)
  refine own_go (S' := T40.setTop (mkF m 55 #[.val (.int p1), .unset, .unset, .unset] [(.ref a1)])) (st40) ?_
  have N40 := Fr.snoc X40 N35 q1
  have O42 : Old Z n0 h40 := O37.wr W40 q1
  have Z43 : n0 ≤ h40.size := by rw [W40.size]; exact Z38
  have V40 : Arv Z h40 a1 cA1 (.object "spanwire/protocol/MessageKind") (8 : Int32) [(.ref s0), (.ref s1), (.ref s2), (.ref s3), (.ref s4), (.ref s5), (.ref s6), (.ref s7)] .null := Arv.set Ar40 q1_40 S40 q3_40 H40 G40 rfl W40 7 (by decide) (by simp)
  refine own_go (S' := T40.setTop (mkF m 56 #[.val (.int p1), .val (.ref a1), .unset, .unset] [])) (fun tg kk => XS.astoreN X40.here hx rfl (hb hby at_55) rfl rfl (l' := #[.val (.int p1), .val (.ref a1), .unset, .unset]) rfl kk) ?_
  refine own_go (S' := T40.setTop (mkF m 57 #[.val (.int p1), .val (.ref a1), .unset, .unset] [(.int p1)])) (fun tg kk => XS.iloadN X40.here hx rfl (hb hby at_56) rfl kk) ?_
  refine own_go (S' := T40.setTop (mkF m 59 #[.val (.int p1), .val (.ref a1), .unset, .unset] [(.int (7 : Int32)), (.int p1)])) (fun tg kk => XT.bipushV X40.here hx rfl (7 : Int32) (hb hby at_57) (by decide) kk) ?_
  refine own_go (S' := T40.setTop (mkF m 60 #[.val (.int p1), .val (.ref a1), .unset, .unset] [(.int (p1 &&& (7 : Int32)))])) (fun tg kk => XS.iand X40.here hx rfl (hb hby at_59) rfl kk) ?_
  rcases own_le7 p1 with u44 | u44 | u44 | u44 | u44 | u44 | u44 | u44
  · refine own_go (S' := T40.setTop (mkF m 61 #[.val (.int p1), .val (.ref a1), .val (.int (p1 &&& (7 : Int32))), .unset] [])) (fun tg kk => XS.istoreN X40.here hx rfl (hb hby at_60) rfl (l' := #[.val (.int p1), .val (.ref a1), .val (.int (p1 &&& (7 : Int32))), .unset]) rfl kk) ?_
    refine own_go (S' := T40.setTop (mkF m 62 #[.val (.int p1), .val (.ref a1), .val (.int (p1 &&& (7 : Int32))), .unset] [(.int (p1 &&& (7 : Int32)))])) (fun tg kk => XS.iloadN X40.here hx rfl (hb hby at_61) rfl kk) ?_
    refine own_go (S' := T40.setTop (mkF m 64 #[.val (.int p1), .val (.ref a1), .val (.int (p1 &&& (7 : Int32))), .unset] [(.int (7 : Int32)), (.int (p1 &&& (7 : Int32)))])) (fun tg kk => XT.bipushV X40.here hx rfl (7 : Int32) (hb hby at_62) (by decide) kk) ?_
    refine own_go (S' := T40.setTop (mkF m 67 #[.val (.int p1), .val (.ref a1), .val (.int (p1 &&& (7 : Int32))), .unset] [])) (fun tg kk => XS.icmpNo X40.here hx rfl (hb hby at_64) rfl (XT.ii_eq_f (by rw [u44] <;> decide)) kk) ?_
    refine own_go (S' := T40.setTop (mkF m 68 #[.val (.int p1), .val (.ref a1), .val (.int (p1 &&& (7 : Int32))), .unset] [(.int (1 : Int32))])) (fun tg kk => XT.iconstV X40.here hx rfl (1 : Int32) (hb hby at_67) (by decide) kk) ?_
    refine own_go (S' := T40.setTop (mkF m 72 #[.val (.int p1), .val (.ref a1), .val (.int (p1 &&& (7 : Int32))), .unset] [(.int (1 : Int32))])) (fun tg kk => XS.goto X40.here hx rfl (pc0 := 68) (pc' := 72) rfl (hb hby at_68) (by decide) (by decide) kk) ?_
    refine own_go (S' := T40.setTop (mkF m 73 #[.val (.int p1), .val (.ref a1), .val (.int (p1 &&& (7 : Int32))), .val (.int (1 : Int32))] [])) (fun tg kk => XS.istoreN X40.here hx rfl (hb hby at_72) rfl (l' := #[.val (.int p1), .val (.ref a1), .val (.int (p1 &&& (7 : Int32))), .val (.int (1 : Int32))]) rfl kk) ?_
    refine own_go (S' := T40.setTop (mkF m 74 #[.val (.int p1), .val (.ref a1), .val (.int (p1 &&& (7 : Int32))), .val (.int (1 : Int32))] [(.ref a1)])) (fun tg kk => XS.aloadN X40.here hx rfl (hb hby at_73) rfl rfl kk) ?_
    refine own_go (S' := T40.setTop (mkF m 75 #[.val (.int p1), .val (.ref a1), .val (.int (p1 &&& (7 : Int32))), .val (.int (1 : Int32))] [(.int (p1 &&& (7 : Int32))), (.ref a1)])) (fun tg kk => XS.iloadN X40.here hx rfl (hb hby at_74) rfl kk) ?_
    obtain ⟨cl45, Ar45, q1_45, S45, q3_45, H45, G45⟩ := id V40
    have hj45 := inb_of (j := (p1 &&& (7 : Int32))) S45 ⟨by rw [u44] <;> decide, by rw [u44] <;> decide⟩
    have hv45 : cl45.slots[((p1 &&& (7 : Int32))).toNatClampNeg]? = some (.ref s0) := Has.at H45 hj45 (by rw [u44] <;> rfl)
    refine own_go (S' := T40.setTop (mkF m 76 #[.val (.int p1), .val (.ref a1), .val (.int (p1 &&& (7 : Int32))), .val (.int (1 : Int32))] [(.ref s0)])) (fun tg kk => X40.aaload hx (by rw [e40]; exact Ar45.1) (State.isArrayOf_alike hZ.alike Ar45.2.1) rfl Ar45.2.2 hj45 hv45 (g := (mkF m 75 #[.val (.int p1), .val (.ref a1), .val (.int (p1 &&& (7 : Int32))), .val (.int (1 : Int32))] [(.int (p1 &&& (7 : Int32))), (.ref a1)])) rfl rfl (hb hby at_75) tg kk) ?_
    obtain ⟨cq46, kq46, qa46, qb46, qc46⟩ := isOf hZ e40 (E_CONNECT.ext O42.2)
    obtain ⟨v46, _, ⟨T46, L46, k46, n46⟩, -, X46, ⟨Lc46, hQ46, l46, y46, z46⟩, st46⟩ := X40.virtualBack hx (y := (⟨"spanwire/protocol/MessageKind", "isProtocol", "()Z"⟩ : MethodName)) (z := (⟨"spanwire/protocol/MessageKind", "isProtocol", "()Z"⟩ : MethodName)) hown (mvT hZ (hw _ (List.mem_of_getElem? (i := 20) rfl))) (mvT hZ (hw _ (List.mem_of_getElem? (i := 21) rfl))) (notFace_of_selects (args := #[]) (mvT hZ (hw _ (List.mem_of_getElem? (i := 23) rfl)))) (mvT hZ (hw _ (List.mem_of_getElem? (i := 23) rfl))) (mvT hZ (hw _ (List.mem_of_getElem? (i := 22) rfl))) (by decide) (backOf (W := 0) (rm1 l Z a0 hw [] s0 s7 h40 n0 Z43 O42 S_DONE) hZ (hw _ (List.mem_of_getElem? (i := 24) rfl)) (hw _ (List.mem_of_getElem? (i := 3) rfl)) (by decide) (by decide)) qa46 qc46 (g := (mkF m 76 #[.val (.int p1), .val (.ref a1), .val (.int (p1 &&& (7 : Int32))), .val (.int (1 : Int32))] [(.ref s0)])) rfl (by rw [hml]; rfl) (Steps.refl _) (argsL := []) (rest := []) (lenOf pd___Z rfl) rfl (by show 2 * 0 + _ ≤ _; exact Nat.le_of_eq rfl) (hb hby at_76) (fun _ _ => ⟨rfl, e40, (by decide : 1 + 0 ≤ _), (by decide : 8 + 0 ≤ _)⟩)
    dsimp only [Pt.U, Pt.locs, Pt.cells, Pt.slots] at X46 l46 y46 z46 st46 hQ46
    subst l46 y46 z46
    obtain ⟨hv46, M47, e46⟩ := hQ46
    obtain rfl : v46 = some (.int (1 : Int32)) := by rw [hv46]; rw [own_isp, if_neg (fun q => nq0 (Value.ref.inj q))]
    have N47 := Fr.app N40 M47
    refine own_to (S' := T46.setTop (mkF m 79 #[.val (.int p1), .val (.ref a1), .val (.int (p1 &&& (7 : Int32))), .val (.int (1 : Int32))] [(.int (1 : Int32))])) st46 ?_
    refine own_go (S' := T46.setTop (mkF m 80 #[.val (.int p1), .val (.ref a1), .val (.int (p1 &&& (7 : Int32))), .val (.int (1 : Int32))] [(.int (1 : Int32)), (.int (1 : Int32))])) (fun tg kk => XS.iloadN X46.here hx rfl (hb hby at_79) rfl kk) ?_
    refine own_go (S' := T46.setTop (mkF m 83 #[.val (.int p1), .val (.ref a1), .val (.int (p1 &&& (7 : Int32))), .val (.int (1 : Int32))] [])) (fun tg kk => XS.icmpNo X46.here hx rfl (hb hby at_80) rfl (XT.ii_ne_f (by decide)) kk) ?_
    refine own_go (S' := T46.setTop (mkF m 84 #[.val (.int p1), .val (.ref a1), .val (.int (p1 &&& (7 : Int32))), .val (.int (1 : Int32))] [(.int (1 : Int32))])) (fun tg kk => XT.iconstV X46.here hx rfl (1 : Int32) (hb hby at_83) (by decide) kk) ?_
    refine own_go (S' := T46.setTop (mkF m 88 #[.val (.int p1), .val (.ref a1), .val (.int (p1 &&& (7 : Int32))), .val (.int (1 : Int32))] [(.int (1 : Int32))])) (fun tg kk => XS.goto X46.here hx rfl (pc0 := 84) (pc' := 88) rfl (hb hby at_84) (by decide) (by decide) kk) ?_
    obtain ⟨fs, hr, hrun, hended, hW, hsame⟩ := X46.leave (v := some (.int (1 : Int32))) (fun h => by rw [Bd.returns] at h; cases h)
    refine ⟨_, _, retN X46 hx (t := .boolean) Bd.returns (by simp) (hb hby at_88) hr, hrun, hended, _, _, rfl, ?_, ⟨_, rfl⟩, hW, hsame.mono (by decide) (by decide)⟩
    show Q0 Z p1 s0 s1 s2 s3 s4 s5 s6 s7 h0 n0 (some (.int (1 : Int32))) T46.heap _
    rw [e46]
    exact ⟨rfl, N47⟩
  · refine own_go (S' := T40.setTop (mkF m 61 #[.val (.int p1), .val (.ref a1), .val (.int (p1 &&& (7 : Int32))), .unset] [])) (fun tg kk => XS.istoreN X40.here hx rfl (hb hby at_60) rfl (l' := #[.val (.int p1), .val (.ref a1), .val (.int (p1 &&& (7 : Int32))), .unset]) rfl kk) ?_
    refine own_go (S' := T40.setTop (mkF m 62 #[.val (.int p1), .val (.ref a1), .val (.int (p1 &&& (7 : Int32))), .unset] [(.int (p1 &&& (7 : Int32)))])) (fun tg kk => XS.iloadN X40.here hx rfl (hb hby at_61) rfl kk) ?_
    refine own_go (S' := T40.setTop (mkF m 64 #[.val (.int p1), .val (.ref a1), .val (.int (p1 &&& (7 : Int32))), .unset] [(.int (7 : Int32)), (.int (p1 &&& (7 : Int32)))])) (fun tg kk => XT.bipushV X40.here hx rfl (7 : Int32) (hb hby at_62) (by decide) kk) ?_
    refine own_go (S' := T40.setTop (mkF m 67 #[.val (.int p1), .val (.ref a1), .val (.int (p1 &&& (7 : Int32))), .unset] [])) (fun tg kk => XS.icmpNo X40.here hx rfl (hb hby at_64) rfl (XT.ii_eq_f (by rw [u44] <;> decide)) kk) ?_
    refine own_go (S' := T40.setTop (mkF m 68 #[.val (.int p1), .val (.ref a1), .val (.int (p1 &&& (7 : Int32))), .unset] [(.int (1 : Int32))])) (fun tg kk => XT.iconstV X40.here hx rfl (1 : Int32) (hb hby at_67) (by decide) kk) ?_
    refine own_go (S' := T40.setTop (mkF m 72 #[.val (.int p1), .val (.ref a1), .val (.int (p1 &&& (7 : Int32))), .unset] [(.int (1 : Int32))])) (fun tg kk => XS.goto X40.here hx rfl (pc0 := 68) (pc' := 72) rfl (hb hby at_68) (by decide) (by decide) kk) ?_
    refine own_go (S' := T40.setTop (mkF m 73 #[.val (.int p1), .val (.ref a1), .val (.int (p1 &&& (7 : Int32))), .val (.int (1 : Int32))] [])) (fun tg kk => XS.istoreN X40.here hx rfl (hb hby at_72) rfl (l' := #[.val (.int p1), .val (.ref a1), .val (.int (p1 &&& (7 : Int32))), .val (.int (1 : Int32))]) rfl kk) ?_
    refine own_go (S' := T40.setTop (mkF m 74 #[.val (.int p1), .val (.ref a1), .val (.int (p1 &&& (7 : Int32))), .val (.int (1 : Int32))] [(.ref a1)])) (fun tg kk => XS.aloadN X40.here hx rfl (hb hby at_73) rfl rfl kk) ?_
    refine own_go (S' := T40.setTop (mkF m 75 #[.val (.int p1), .val (.ref a1), .val (.int (p1 &&& (7 : Int32))), .val (.int (1 : Int32))] [(.int (p1 &&& (7 : Int32))), (.ref a1)])) (fun tg kk => XS.iloadN X40.here hx rfl (hb hby at_74) rfl kk) ?_
    obtain ⟨cl48, Ar48, q1_48, S48, q3_48, H48, G48⟩ := id V40
    have hj48 := inb_of (j := (p1 &&& (7 : Int32))) S48 ⟨by rw [u44] <;> decide, by rw [u44] <;> decide⟩
    have hv48 : cl48.slots[((p1 &&& (7 : Int32))).toNatClampNeg]? = some (.ref s1) := Has.at H48 hj48 (by rw [u44] <;> rfl)
    refine own_go (S' := T40.setTop (mkF m 76 #[.val (.int p1), .val (.ref a1), .val (.int (p1 &&& (7 : Int32))), .val (.int (1 : Int32))] [(.ref s1)])) (fun tg kk => X40.aaload hx (by rw [e40]; exact Ar48.1) (State.isArrayOf_alike hZ.alike Ar48.2.1) rfl Ar48.2.2 hj48 hv48 (g := (mkF m 75 #[.val (.int p1), .val (.ref a1), .val (.int (p1 &&& (7 : Int32))), .val (.int (1 : Int32))] [(.int (p1 &&& (7 : Int32))), (.ref a1)])) rfl rfl (hb hby at_75) tg kk) ?_
    obtain ⟨cq49, kq49, qa49, qb49, qc49⟩ := isOf hZ e40 (E_INITIATE.ext O42.2)
    obtain ⟨v49, _, ⟨T49, L49, k49, n49⟩, -, X49, ⟨Lc49, hQ49, l49, y49, z49⟩, st49⟩ := X40.virtualBack hx (y := (⟨"spanwire/protocol/MessageKind", "isProtocol", "()Z"⟩ : MethodName)) (z := (⟨"spanwire/protocol/MessageKind", "isProtocol", "()Z"⟩ : MethodName)) hown (mvT hZ (hw _ (List.mem_of_getElem? (i := 20) rfl))) (mvT hZ (hw _ (List.mem_of_getElem? (i := 21) rfl))) (notFace_of_selects (args := #[]) (mvT hZ (hw _ (List.mem_of_getElem? (i := 23) rfl)))) (mvT hZ (hw _ (List.mem_of_getElem? (i := 23) rfl))) (mvT hZ (hw _ (List.mem_of_getElem? (i := 22) rfl))) (by decide) (backOf (W := 0) (rm1 l Z a0 hw [] s1 s7 h40 n0 Z43 O42 S_DONE) hZ (hw _ (List.mem_of_getElem? (i := 24) rfl)) (hw _ (List.mem_of_getElem? (i := 3) rfl)) (by decide) (by decide)) qa49 qc49 (g := (mkF m 76 #[.val (.int p1), .val (.ref a1), .val (.int (p1 &&& (7 : Int32))), .val (.int (1 : Int32))] [(.ref s1)])) rfl (by rw [hml]; rfl) (Steps.refl _) (argsL := []) (rest := []) (lenOf pd___Z rfl) rfl (by show 2 * 0 + _ ≤ _; exact Nat.le_of_eq rfl) (hb hby at_76) (fun _ _ => ⟨rfl, e40, (by decide : 1 + 0 ≤ _), (by decide : 8 + 0 ≤ _)⟩)
    dsimp only [Pt.U, Pt.locs, Pt.cells, Pt.slots] at X49 l49 y49 z49 st49 hQ49
    subst l49 y49 z49
    obtain ⟨hv49, M50, e49⟩ := hQ49
    obtain rfl : v49 = some (.int (1 : Int32)) := by rw [hv49]; rw [own_isp, if_neg (fun q => nq1 (Value.ref.inj q))]
    have N50 := Fr.app N40 M50
    refine own_to (S' := T49.setTop (mkF m 79 #[.val (.int p1), .val (.ref a1), .val (.int (p1 &&& (7 : Int32))), .val (.int (1 : Int32))] [(.int (1 : Int32))])) st49 ?_
    refine own_go (S' := T49.setTop (mkF m 80 #[.val (.int p1), .val (.ref a1), .val (.int (p1 &&& (7 : Int32))), .val (.int (1 : Int32))] [(.int (1 : Int32)), (.int (1 : Int32))])) (fun tg kk => XS.iloadN X49.here hx rfl (hb hby at_79) rfl kk) ?_
    refine own_go (S' := T49.setTop (mkF m 83 #[.val (.int p1), .val (.ref a1), .val (.int (p1 &&& (7 : Int32))), .val (.int (1 : Int32))] [])) (fun tg kk => XS.icmpNo X49.here hx rfl (hb hby at_80) rfl (XT.ii_ne_f (by decide)) kk) ?_
    refine own_go (S' := T49.setTop (mkF m 84 #[.val (.int p1), .val (.ref a1), .val (.int (p1 &&& (7 : Int32))), .val (.int (1 : Int32))] [(.int (1 : Int32))])) (fun tg kk => XT.iconstV X49.here hx rfl (1 : Int32) (hb hby at_83) (by decide) kk) ?_
    refine own_go (S' := T49.setTop (mkF m 88 #[.val (.int p1), .val (.ref a1), .val (.int (p1 &&& (7 : Int32))), .val (.int (1 : Int32))] [(.int (1 : Int32))])) (fun tg kk => XS.goto X49.here hx rfl (pc0 := 84) (pc' := 88) rfl (hb hby at_84) (by decide) (by decide) kk) ?_
    obtain ⟨fs, hr, hrun, hended, hW, hsame⟩ := X49.leave (v := some (.int (1 : Int32))) (fun h => by rw [Bd.returns] at h; cases h)
    refine ⟨_, _, retN X49 hx (t := .boolean) Bd.returns (by simp) (hb hby at_88) hr, hrun, hended, _, _, rfl, ?_, ⟨_, rfl⟩, hW, hsame.mono (by decide) (by decide)⟩
    show Q0 Z p1 s0 s1 s2 s3 s4 s5 s6 s7 h0 n0 (some (.int (1 : Int32))) T49.heap _
    rw [e49]
    exact ⟨rfl, N50⟩
  · refine own_go (S' := T40.setTop (mkF m 61 #[.val (.int p1), .val (.ref a1), .val (.int (p1 &&& (7 : Int32))), .unset] [])) (fun tg kk => XS.istoreN X40.here hx rfl (hb hby at_60) rfl (l' := #[.val (.int p1), .val (.ref a1), .val (.int (p1 &&& (7 : Int32))), .unset]) rfl kk) ?_
    refine own_go (S' := T40.setTop (mkF m 62 #[.val (.int p1), .val (.ref a1), .val (.int (p1 &&& (7 : Int32))), .unset] [(.int (p1 &&& (7 : Int32)))])) (fun tg kk => XS.iloadN X40.here hx rfl (hb hby at_61) rfl kk) ?_
    refine own_go (S' := T40.setTop (mkF m 64 #[.val (.int p1), .val (.ref a1), .val (.int (p1 &&& (7 : Int32))), .unset] [(.int (7 : Int32)), (.int (p1 &&& (7 : Int32)))])) (fun tg kk => XT.bipushV X40.here hx rfl (7 : Int32) (hb hby at_62) (by decide) kk) ?_
    refine own_go (S' := T40.setTop (mkF m 67 #[.val (.int p1), .val (.ref a1), .val (.int (p1 &&& (7 : Int32))), .unset] [])) (fun tg kk => XS.icmpNo X40.here hx rfl (hb hby at_64) rfl (XT.ii_eq_f (by rw [u44] <;> decide)) kk) ?_
    refine own_go (S' := T40.setTop (mkF m 68 #[.val (.int p1), .val (.ref a1), .val (.int (p1 &&& (7 : Int32))), .unset] [(.int (1 : Int32))])) (fun tg kk => XT.iconstV X40.here hx rfl (1 : Int32) (hb hby at_67) (by decide) kk) ?_
    refine own_go (S' := T40.setTop (mkF m 72 #[.val (.int p1), .val (.ref a1), .val (.int (p1 &&& (7 : Int32))), .unset] [(.int (1 : Int32))])) (fun tg kk => XS.goto X40.here hx rfl (pc0 := 68) (pc' := 72) rfl (hb hby at_68) (by decide) (by decide) kk) ?_
    refine own_go (S' := T40.setTop (mkF m 73 #[.val (.int p1), .val (.ref a1), .val (.int (p1 &&& (7 : Int32))), .val (.int (1 : Int32))] [])) (fun tg kk => XS.istoreN X40.here hx rfl (hb hby at_72) rfl (l' := #[.val (.int p1), .val (.ref a1), .val (.int (p1 &&& (7 : Int32))), .val (.int (1 : Int32))]) rfl kk) ?_
    refine own_go (S' := T40.setTop (mkF m 74 #[.val (.int p1), .val (.ref a1), .val (.int (p1 &&& (7 : Int32))), .val (.int (1 : Int32))] [(.ref a1)])) (fun tg kk => XS.aloadN X40.here hx rfl (hb hby at_73) rfl rfl kk) ?_
    refine own_go (S' := T40.setTop (mkF m 75 #[.val (.int p1), .val (.ref a1), .val (.int (p1 &&& (7 : Int32))), .val (.int (1 : Int32))] [(.int (p1 &&& (7 : Int32))), (.ref a1)])) (fun tg kk => XS.iloadN X40.here hx rfl (hb hby at_74) rfl kk) ?_
    obtain ⟨cl51, Ar51, q1_51, S51, q3_51, H51, G51⟩ := id V40
    have hj51 := inb_of (j := (p1 &&& (7 : Int32))) S51 ⟨by rw [u44] <;> decide, by rw [u44] <;> decide⟩
    have hv51 : cl51.slots[((p1 &&& (7 : Int32))).toNatClampNeg]? = some (.ref s2) := Has.at H51 hj51 (by rw [u44] <;> rfl)
    refine own_go (S' := T40.setTop (mkF m 76 #[.val (.int p1), .val (.ref a1), .val (.int (p1 &&& (7 : Int32))), .val (.int (1 : Int32))] [(.ref s2)])) (fun tg kk => X40.aaload hx (by rw [e40]; exact Ar51.1) (State.isArrayOf_alike hZ.alike Ar51.2.1) rfl Ar51.2.2 hj51 hv51 (g := (mkF m 75 #[.val (.int p1), .val (.ref a1), .val (.int (p1 &&& (7 : Int32))), .val (.int (1 : Int32))] [(.int (p1 &&& (7 : Int32))), (.ref a1)])) rfl rfl (hb hby at_75) tg kk) ?_
    obtain ⟨cq52, kq52, qa52, qb52, qc52⟩ := isOf hZ e40 (E_TEST.ext O42.2)
    obtain ⟨v52, _, ⟨T52, L52, k52, n52⟩, -, X52, ⟨Lc52, hQ52, l52, y52, z52⟩, st52⟩ := X40.virtualBack hx (y := (⟨"spanwire/protocol/MessageKind", "isProtocol", "()Z"⟩ : MethodName)) (z := (⟨"spanwire/protocol/MessageKind", "isProtocol", "()Z"⟩ : MethodName)) hown (mvT hZ (hw _ (List.mem_of_getElem? (i := 20) rfl))) (mvT hZ (hw _ (List.mem_of_getElem? (i := 21) rfl))) (notFace_of_selects (args := #[]) (mvT hZ (hw _ (List.mem_of_getElem? (i := 23) rfl)))) (mvT hZ (hw _ (List.mem_of_getElem? (i := 23) rfl))) (mvT hZ (hw _ (List.mem_of_getElem? (i := 22) rfl))) (by decide) (backOf (W := 0) (rm1 l Z a0 hw [] s2 s7 h40 n0 Z43 O42 S_DONE) hZ (hw _ (List.mem_of_getElem? (i := 24) rfl)) (hw _ (List.mem_of_getElem? (i := 3) rfl)) (by decide) (by decide)) qa52 qc52 (g := (mkF m 76 #[.val (.int p1), .val (.ref a1), .val (.int (p1 &&& (7 : Int32))), .val (.int (1 : Int32))] [(.ref s2)])) rfl (by rw [hml]; rfl) (Steps.refl _) (argsL := []) (rest := []) (lenOf pd___Z rfl) rfl (by show 2 * 0 + _ ≤ _; exact Nat.le_of_eq rfl) (hb hby at_76) (fun _ _ => ⟨rfl, e40, (by decide : 1 + 0 ≤ _), (by decide : 8 + 0 ≤ _)⟩)
    dsimp only [Pt.U, Pt.locs, Pt.cells, Pt.slots] at X52 l52 y52 z52 st52 hQ52
    subst l52 y52 z52
    obtain ⟨hv52, M53, e52⟩ := hQ52
    obtain rfl : v52 = some (.int (1 : Int32)) := by rw [hv52]; rw [own_isp, if_neg (fun q => nq2 (Value.ref.inj q))]
    have N53 := Fr.app N40 M53
    refine own_to (S' := T52.setTop (mkF m 79 #[.val (.int p1), .val (.ref a1), .val (.int (p1 &&& (7 : Int32))), .val (.int (1 : Int32))] [(.int (1 : Int32))])) st52 ?_
    refine own_go (S' := T52.setTop (mkF m 80 #[.val (.int p1), .val (.ref a1), .val (.int (p1 &&& (7 : Int32))), .val (.int (1 : Int32))] [(.int (1 : Int32)), (.int (1 : Int32))])) (fun tg kk => XS.iloadN X52.here hx rfl (hb hby at_79) rfl kk) ?_
    refine own_go (S' := T52.setTop (mkF m 83 #[.val (.int p1), .val (.ref a1), .val (.int (p1 &&& (7 : Int32))), .val (.int (1 : Int32))] [])) (fun tg kk => XS.icmpNo X52.here hx rfl (hb hby at_80) rfl (XT.ii_ne_f (by decide)) kk) ?_
    refine own_go (S' := T52.setTop (mkF m 84 #[.val (.int p1), .val (.ref a1), .val (.int (p1 &&& (7 : Int32))), .val (.int (1 : Int32))] [(.int (1 : Int32))])) (fun tg kk => XT.iconstV X52.here hx rfl (1 : Int32) (hb hby at_83) (by decide) kk) ?_
    refine own_go (S' := T52.setTop (mkF m 88 #[.val (.int p1), .val (.ref a1), .val (.int (p1 &&& (7 : Int32))), .val (.int (1 : Int32))] [(.int (1 : Int32))])) (fun tg kk => XS.goto X52.here hx rfl (pc0 := 84) (pc' := 88) rfl (hb hby at_84) (by decide) (by decide) kk) ?_
    obtain ⟨fs, hr, hrun, hended, hW, hsame⟩ := X52.leave (v := some (.int (1 : Int32))) (fun h => by rw [Bd.returns] at h; cases h)
    refine ⟨_, _, retN X52 hx (t := .boolean) Bd.returns (by simp) (hb hby at_88) hr, hrun, hended, _, _, rfl, ?_, ⟨_, rfl⟩, hW, hsame.mono (by decide) (by decide)⟩
    show Q0 Z p1 s0 s1 s2 s3 s4 s5 s6 s7 h0 n0 (some (.int (1 : Int32))) T52.heap _
    rw [e52]
    exact ⟨rfl, N53⟩
  · refine own_go (S' := T40.setTop (mkF m 61 #[.val (.int p1), .val (.ref a1), .val (.int (p1 &&& (7 : Int32))), .unset] [])) (fun tg kk => XS.istoreN X40.here hx rfl (hb hby at_60) rfl (l' := #[.val (.int p1), .val (.ref a1), .val (.int (p1 &&& (7 : Int32))), .unset]) rfl kk) ?_
    refine own_go (S' := T40.setTop (mkF m 62 #[.val (.int p1), .val (.ref a1), .val (.int (p1 &&& (7 : Int32))), .unset] [(.int (p1 &&& (7 : Int32)))])) (fun tg kk => XS.iloadN X40.here hx rfl (hb hby at_61) rfl kk) ?_
    refine own_go (S' := T40.setTop (mkF m 64 #[.val (.int p1), .val (.ref a1), .val (.int (p1 &&& (7 : Int32))), .unset] [(.int (7 : Int32)), (.int (p1 &&& (7 : Int32)))])) (fun tg kk => XT.bipushV X40.here hx rfl (7 : Int32) (hb hby at_62) (by decide) kk) ?_
    refine own_go (S' := T40.setTop (mkF m 67 #[.val (.int p1), .val (.ref a1), .val (.int (p1 &&& (7 : Int32))), .unset] [])) (fun tg kk => XS.icmpNo X40.here hx rfl (hb hby at_64) rfl (XT.ii_eq_f (by rw [u44] <;> decide)) kk) ?_
    refine own_go (S' := T40.setTop (mkF m 68 #[.val (.int p1), .val (.ref a1), .val (.int (p1 &&& (7 : Int32))), .unset] [(.int (1 : Int32))])) (fun tg kk => XT.iconstV X40.here hx rfl (1 : Int32) (hb hby at_67) (by decide) kk) ?_
    refine own_go (S' := T40.setTop (mkF m 72 #[.val (.int p1), .val (.ref a1), .val (.int (p1 &&& (7 : Int32))), .unset] [(.int (1 : Int32))])) (fun tg kk => XS.goto X40.here hx rfl (pc0 := 68) (pc' := 72) rfl (hb hby at_68) (by decide) (by decide) kk) ?_
    refine own_go (S' := T40.setTop (mkF m 73 #[.val (.int p1), .val (.ref a1), .val (.int (p1 &&& (7 : Int32))), .val (.int (1 : Int32))] [])) (fun tg kk => XS.istoreN X40.here hx rfl (hb hby at_72) rfl (l' := #[.val (.int p1), .val (.ref a1), .val (.int (p1 &&& (7 : Int32))), .val (.int (1 : Int32))]) rfl kk) ?_
    refine own_go (S' := T40.setTop (mkF m 74 #[.val (.int p1), .val (.ref a1), .val (.int (p1 &&& (7 : Int32))), .val (.int (1 : Int32))] [(.ref a1)])) (fun tg kk => XS.aloadN X40.here hx rfl (hb hby at_73) rfl rfl kk) ?_
    refine own_go (S' := T40.setTop (mkF m 75 #[.val (.int p1), .val (.ref a1), .val (.int (p1 &&& (7 : Int32))), .val (.int (1 : Int32))] [(.int (p1 &&& (7 : Int32))), (.ref a1)])) (fun tg kk => XS.iloadN X40.here hx rfl (hb hby at_74) rfl kk) ?_
    obtain ⟨cl54, Ar54, q1_54, S54, q3_54, H54, G54⟩ := id V40
    have hj54 := inb_of (j := (p1 &&& (7 : Int32))) S54 ⟨by rw [u44] <;> decide, by rw [u44] <;> decide⟩
    have hv54 : cl54.slots[((p1 &&& (7 : Int32))).toNatClampNeg]? = some (.ref s3) := Has.at H54 hj54 (by rw [u44] <;> rfl)
    refine own_go (S' := T40.setTop (mkF m 76 #[.val (.int p1), .val (.ref a1), .val (.int (p1 &&& (7 : Int32))), .val (.int (1 : Int32))] [(.ref s3)])) (fun tg kk => X40.aaload hx (by rw [e40]; exact Ar54.1) (State.isArrayOf_alike hZ.alike Ar54.2.1) rfl Ar54.2.2 hj54 hv54 (g := (mkF m 75 #[.val (.int p1), .val (.ref a1), .val (.int (p1 &&& (7 : Int32))), .val (.int (1 : Int32))] [(.int (p1 &&& (7 : Int32))), (.ref a1)])) rfl rfl (hb hby at_75) tg kk) ?_
    obtain ⟨cq55, kq55, qa55, qb55, qc55⟩ := isOf hZ e40 (E_ACCEPT.ext O42.2)
    obtain ⟨v55, _, ⟨T55, L55, k55, n55⟩, -, X55, ⟨Lc55, hQ55, l55, y55, z55⟩, st55⟩ := X40.virtualBack hx (y := (⟨"spanwire/protocol/MessageKind", "isProtocol", "()Z"⟩ : MethodName)) (z := (⟨"spanwire/protocol/MessageKind", "isProtocol", "()Z"⟩ : MethodName)) hown (mvT hZ (hw _ (List.mem_of_getElem? (i := 20) rfl))) (mvT hZ (hw _ (List.mem_of_getElem? (i := 21) rfl))) (notFace_of_selects (args := #[]) (mvT hZ (hw _ (List.mem_of_getElem? (i := 23) rfl)))) (mvT hZ (hw _ (List.mem_of_getElem? (i := 23) rfl))) (mvT hZ (hw _ (List.mem_of_getElem? (i := 22) rfl))) (by decide) (backOf (W := 0) (rm1 l Z a0 hw [] s3 s7 h40 n0 Z43 O42 S_DONE) hZ (hw _ (List.mem_of_getElem? (i := 24) rfl)) (hw _ (List.mem_of_getElem? (i := 3) rfl)) (by decide) (by decide)) qa55 qc55 (g := (mkF m 76 #[.val (.int p1), .val (.ref a1), .val (.int (p1 &&& (7 : Int32))), .val (.int (1 : Int32))] [(.ref s3)])) rfl (by rw [hml]; rfl) (Steps.refl _) (argsL := []) (rest := []) (lenOf pd___Z rfl) rfl (by show 2 * 0 + _ ≤ _; exact Nat.le_of_eq rfl) (hb hby at_76) (fun _ _ => ⟨rfl, e40, (by decide : 1 + 0 ≤ _), (by decide : 8 + 0 ≤ _)⟩)
    dsimp only [Pt.U, Pt.locs, Pt.cells, Pt.slots] at X55 l55 y55 z55 st55 hQ55
    subst l55 y55 z55
    obtain ⟨hv55, M56, e55⟩ := hQ55
    obtain rfl : v55 = some (.int (1 : Int32)) := by rw [hv55]; rw [own_isp, if_neg (fun q => nq3 (Value.ref.inj q))]
    have N56 := Fr.app N40 M56
    refine own_to (S' := T55.setTop (mkF m 79 #[.val (.int p1), .val (.ref a1), .val (.int (p1 &&& (7 : Int32))), .val (.int (1 : Int32))] [(.int (1 : Int32))])) st55 ?_
    refine own_go (S' := T55.setTop (mkF m 80 #[.val (.int p1), .val (.ref a1), .val (.int (p1 &&& (7 : Int32))), .val (.int (1 : Int32))] [(.int (1 : Int32)), (.int (1 : Int32))])) (fun tg kk => XS.iloadN X55.here hx rfl (hb hby at_79) rfl kk) ?_
    refine own_go (S' := T55.setTop (mkF m 83 #[.val (.int p1), .val (.ref a1), .val (.int (p1 &&& (7 : Int32))), .val (.int (1 : Int32))] [])) (fun tg kk => XS.icmpNo X55.here hx rfl (hb hby at_80) rfl (XT.ii_ne_f (by decide)) kk) ?_
    refine own_go (S' := T55.setTop (mkF m 84 #[.val (.int p1), .val (.ref a1), .val (.int (p1 &&& (7 : Int32))), .val (.int (1 : Int32))] [(.int (1 : Int32))])) (fun tg kk => XT.iconstV X55.here hx rfl (1 : Int32) (hb hby at_83) (by decide) kk) ?_
    refine own_go (S' := T55.setTop (mkF m 88 #[.val (.int p1), .val (.ref a1), .val (.int (p1 &&& (7 : Int32))), .val (.int (1 : Int32))] [(.int (1 : Int32))])) (fun tg kk => XS.goto X55.here hx rfl (pc0 := 84) (pc' := 88) rfl (hb hby at_84) (by decide) (by decide) kk) ?_
    obtain ⟨fs, hr, hrun, hended, hW, hsame⟩ := X55.leave (v := some (.int (1 : Int32))) (fun h => by rw [Bd.returns] at h; cases h)
    refine ⟨_, _, retN X55 hx (t := .boolean) Bd.returns (by simp) (hb hby at_88) hr, hrun, hended, _, _, rfl, ?_, ⟨_, rfl⟩, hW, hsame.mono (by decide) (by decide)⟩
    show Q0 Z p1 s0 s1 s2 s3 s4 s5 s6 s7 h0 n0 (some (.int (1 : Int32))) T55.heap _
    rw [e55]
    exact ⟨rfl, N56⟩
  · refine own_go (S' := T40.setTop (mkF m 61 #[.val (.int p1), .val (.ref a1), .val (.int (p1 &&& (7 : Int32))), .unset] [])) (fun tg kk => XS.istoreN X40.here hx rfl (hb hby at_60) rfl (l' := #[.val (.int p1), .val (.ref a1), .val (.int (p1 &&& (7 : Int32))), .unset]) rfl kk) ?_
    refine own_go (S' := T40.setTop (mkF m 62 #[.val (.int p1), .val (.ref a1), .val (.int (p1 &&& (7 : Int32))), .unset] [(.int (p1 &&& (7 : Int32)))])) (fun tg kk => XS.iloadN X40.here hx rfl (hb hby at_61) rfl kk) ?_
    refine own_go (S' := T40.setTop (mkF m 64 #[.val (.int p1), .val (.ref a1), .val (.int (p1 &&& (7 : Int32))), .unset] [(.int (7 : Int32)), (.int (p1 &&& (7 : Int32)))])) (fun tg kk => XT.bipushV X40.here hx rfl (7 : Int32) (hb hby at_62) (by decide) kk) ?_
    refine own_go (S' := T40.setTop (mkF m 67 #[.val (.int p1), .val (.ref a1), .val (.int (p1 &&& (7 : Int32))), .unset] [])) (fun tg kk => XS.icmpNo X40.here hx rfl (hb hby at_64) rfl (XT.ii_eq_f (by rw [u44] <;> decide)) kk) ?_
    refine own_go (S' := T40.setTop (mkF m 68 #[.val (.int p1), .val (.ref a1), .val (.int (p1 &&& (7 : Int32))), .unset] [(.int (1 : Int32))])) (fun tg kk => XT.iconstV X40.here hx rfl (1 : Int32) (hb hby at_67) (by decide) kk) ?_
    refine own_go (S' := T40.setTop (mkF m 72 #[.val (.int p1), .val (.ref a1), .val (.int (p1 &&& (7 : Int32))), .unset] [(.int (1 : Int32))])) (fun tg kk => XS.goto X40.here hx rfl (pc0 := 68) (pc' := 72) rfl (hb hby at_68) (by decide) (by decide) kk) ?_
    refine own_go (S' := T40.setTop (mkF m 73 #[.val (.int p1), .val (.ref a1), .val (.int (p1 &&& (7 : Int32))), .val (.int (1 : Int32))] [])) (fun tg kk => XS.istoreN X40.here hx rfl (hb hby at_72) rfl (l' := #[.val (.int p1), .val (.ref a1), .val (.int (p1 &&& (7 : Int32))), .val (.int (1 : Int32))]) rfl kk) ?_
    refine own_go (S' := T40.setTop (mkF m 74 #[.val (.int p1), .val (.ref a1), .val (.int (p1 &&& (7 : Int32))), .val (.int (1 : Int32))] [(.ref a1)])) (fun tg kk => XS.aloadN X40.here hx rfl (hb hby at_73) rfl rfl kk) ?_
    refine own_go (S' := T40.setTop (mkF m 75 #[.val (.int p1), .val (.ref a1), .val (.int (p1 &&& (7 : Int32))), .val (.int (1 : Int32))] [(.int (p1 &&& (7 : Int32))), (.ref a1)])) (fun tg kk => XS.iloadN X40.here hx rfl (hb hby at_74) rfl kk) ?_
    obtain ⟨cl57, Ar57, q1_57, S57, q3_57, H57, G57⟩ := id V40
    have hj57 := inb_of (j := (p1 &&& (7 : Int32))) S57 ⟨by rw [u44] <;> decide, by rw [u44] <;> decide⟩
    have hv57 : cl57.slots[((p1 &&& (7 : Int32))).toNatClampNeg]? = some (.ref s4) := Has.at H57 hj57 (by rw [u44] <;> rfl)
    refine own_go (S' := T40.setTop (mkF m 76 #[.val (.int p1), .val (.ref a1), .val (.int (p1 &&& (7 : Int32))), .val (.int (1 : Int32))] [(.ref s4)])) (fun tg kk => X40.aaload hx (by rw [e40]; exact Ar57.1) (State.isArrayOf_alike hZ.alike Ar57.2.1) rfl Ar57.2.2 hj57 hv57 (g := (mkF m 75 #[.val (.int p1), .val (.ref a1), .val (.int (p1 &&& (7 : Int32))), .val (.int (1 : Int32))] [(.int (p1 &&& (7 : Int32))), (.ref a1)])) rfl rfl (hb hby at_75) tg kk) ?_
    obtain ⟨cq58, kq58, qa58, qb58, qc58⟩ := isOf hZ e40 (E_REJECT.ext O42.2)
    obtain ⟨v58, _, ⟨T58, L58, k58, n58⟩, -, X58, ⟨Lc58, hQ58, l58, y58, z58⟩, st58⟩ := X40.virtualBack hx (y := (⟨"spanwire/protocol/MessageKind", "isProtocol", "()Z"⟩ : MethodName)) (z := (⟨"spanwire/protocol/MessageKind", "isProtocol", "()Z"⟩ : MethodName)) hown (mvT hZ (hw _ (List.mem_of_getElem? (i := 20) rfl))) (mvT hZ (hw _ (List.mem_of_getElem? (i := 21) rfl))) (notFace_of_selects (args := #[]) (mvT hZ (hw _ (List.mem_of_getElem? (i := 23) rfl)))) (mvT hZ (hw _ (List.mem_of_getElem? (i := 23) rfl))) (mvT hZ (hw _ (List.mem_of_getElem? (i := 22) rfl))) (by decide) (backOf (W := 0) (rm1 l Z a0 hw [] s4 s7 h40 n0 Z43 O42 S_DONE) hZ (hw _ (List.mem_of_getElem? (i := 24) rfl)) (hw _ (List.mem_of_getElem? (i := 3) rfl)) (by decide) (by decide)) qa58 qc58 (g := (mkF m 76 #[.val (.int p1), .val (.ref a1), .val (.int (p1 &&& (7 : Int32))), .val (.int (1 : Int32))] [(.ref s4)])) rfl (by rw [hml]; rfl) (Steps.refl _) (argsL := []) (rest := []) (lenOf pd___Z rfl) rfl (by show 2 * 0 + _ ≤ _; exact Nat.le_of_eq rfl) (hb hby at_76) (fun _ _ => ⟨rfl, e40, (by decide : 1 + 0 ≤ _), (by decide : 8 + 0 ≤ _)⟩)
    dsimp only [Pt.U, Pt.locs, Pt.cells, Pt.slots] at X58 l58 y58 z58 st58 hQ58
    subst l58 y58 z58
    obtain ⟨hv58, M59, e58⟩ := hQ58
    obtain rfl : v58 = some (.int (1 : Int32)) := by rw [hv58]; rw [own_isp, if_neg (fun q => nq4 (Value.ref.inj q))]
    have N59 := Fr.app N40 M59
    refine own_to (S' := T58.setTop (mkF m 79 #[.val (.int p1), .val (.ref a1), .val (.int (p1 &&& (7 : Int32))), .val (.int (1 : Int32))] [(.int (1 : Int32))])) st58 ?_
    refine own_go (S' := T58.setTop (mkF m 80 #[.val (.int p1), .val (.ref a1), .val (.int (p1 &&& (7 : Int32))), .val (.int (1 : Int32))] [(.int (1 : Int32)), (.int (1 : Int32))])) (fun tg kk => XS.iloadN X58.here hx rfl (hb hby at_79) rfl kk) ?_
    refine own_go (S' := T58.setTop (mkF m 83 #[.val (.int p1), .val (.ref a1), .val (.int (p1 &&& (7 : Int32))), .val (.int (1 : Int32))] [])) (fun tg kk => XS.icmpNo X58.here hx rfl (hb hby at_80) rfl (XT.ii_ne_f (by decide)) kk) ?_
    refine own_go (S' := T58.setTop (mkF m 84 #[.val (.int p1), .val (.ref a1), .val (.int (p1 &&& (7 : Int32))), .val (.int (1 : Int32))] [(.int (1 : Int32))])) (fun tg kk => XT.iconstV X58.here hx rfl (1 : Int32) (hb hby at_83) (by decide) kk) ?_
    refine own_go (S' := T58.setTop (mkF m 88 #[.val (.int p1), .val (.ref a1), .val (.int (p1 &&& (7 : Int32))), .val (.int (1 : Int32))] [(.int (1 : Int32))])) (fun tg kk => XS.goto X58.here hx rfl (pc0 := 84) (pc' := 88) rfl (hb hby at_84) (by decide) (by decide) kk) ?_
    obtain ⟨fs, hr, hrun, hended, hW, hsame⟩ := X58.leave (v := some (.int (1 : Int32))) (fun h => by rw [Bd.returns] at h; cases h)
    refine ⟨_, _, retN X58 hx (t := .boolean) Bd.returns (by simp) (hb hby at_88) hr, hrun, hended, _, _, rfl, ?_, ⟨_, rfl⟩, hW, hsame.mono (by decide) (by decide)⟩
    show Q0 Z p1 s0 s1 s2 s3 s4 s5 s6 s7 h0 n0 (some (.int (1 : Int32))) T58.heap _
    rw [e58]
    exact ⟨rfl, N59⟩
  · refine own_go (S' := T40.setTop (mkF m 61 #[.val (.int p1), .val (.ref a1), .val (.int (p1 &&& (7 : Int32))), .unset] [])) (fun tg kk => XS.istoreN X40.here hx rfl (hb hby at_60) rfl (l' := #[.val (.int p1), .val (.ref a1), .val (.int (p1 &&& (7 : Int32))), .unset]) rfl kk) ?_
    refine own_go (S' := T40.setTop (mkF m 62 #[.val (.int p1), .val (.ref a1), .val (.int (p1 &&& (7 : Int32))), .unset] [(.int (p1 &&& (7 : Int32)))])) (fun tg kk => XS.iloadN X40.here hx rfl (hb hby at_61) rfl kk) ?_
    refine own_go (S' := T40.setTop (mkF m 64 #[.val (.int p1), .val (.ref a1), .val (.int (p1 &&& (7 : Int32))), .unset] [(.int (7 : Int32)), (.int (p1 &&& (7 : Int32)))])) (fun tg kk => XT.bipushV X40.here hx rfl (7 : Int32) (hb hby at_62) (by decide) kk) ?_
    refine own_go (S' := T40.setTop (mkF m 67 #[.val (.int p1), .val (.ref a1), .val (.int (p1 &&& (7 : Int32))), .unset] [])) (fun tg kk => XS.icmpNo X40.here hx rfl (hb hby at_64) rfl (XT.ii_eq_f (by rw [u44] <;> decide)) kk) ?_
    refine own_go (S' := T40.setTop (mkF m 68 #[.val (.int p1), .val (.ref a1), .val (.int (p1 &&& (7 : Int32))), .unset] [(.int (1 : Int32))])) (fun tg kk => XT.iconstV X40.here hx rfl (1 : Int32) (hb hby at_67) (by decide) kk) ?_
    refine own_go (S' := T40.setTop (mkF m 72 #[.val (.int p1), .val (.ref a1), .val (.int (p1 &&& (7 : Int32))), .unset] [(.int (1 : Int32))])) (fun tg kk => XS.goto X40.here hx rfl (pc0 := 68) (pc' := 72) rfl (hb hby at_68) (by decide) (by decide) kk) ?_
    refine own_go (S' := T40.setTop (mkF m 73 #[.val (.int p1), .val (.ref a1), .val (.int (p1 &&& (7 : Int32))), .val (.int (1 : Int32))] [])) (fun tg kk => XS.istoreN X40.here hx rfl (hb hby at_72) rfl (l' := #[.val (.int p1), .val (.ref a1), .val (.int (p1 &&& (7 : Int32))), .val (.int (1 : Int32))]) rfl kk) ?_
    refine own_go (S' := T40.setTop (mkF m 74 #[.val (.int p1), .val (.ref a1), .val (.int (p1 &&& (7 : Int32))), .val (.int (1 : Int32))] [(.ref a1)])) (fun tg kk => XS.aloadN X40.here hx rfl (hb hby at_73) rfl rfl kk) ?_
    refine own_go (S' := T40.setTop (mkF m 75 #[.val (.int p1), .val (.ref a1), .val (.int (p1 &&& (7 : Int32))), .val (.int (1 : Int32))] [(.int (p1 &&& (7 : Int32))), (.ref a1)])) (fun tg kk => XS.iloadN X40.here hx rfl (hb hby at_74) rfl kk) ?_
    obtain ⟨cl60, Ar60, q1_60, S60, q3_60, H60, G60⟩ := id V40
    have hj60 := inb_of (j := (p1 &&& (7 : Int32))) S60 ⟨by rw [u44] <;> decide, by rw [u44] <;> decide⟩
    have hv60 : cl60.slots[((p1 &&& (7 : Int32))).toNatClampNeg]? = some (.ref s5) := Has.at H60 hj60 (by rw [u44] <;> rfl)
    refine own_go (S' := T40.setTop (mkF m 76 #[.val (.int p1), .val (.ref a1), .val (.int (p1 &&& (7 : Int32))), .val (.int (1 : Int32))] [(.ref s5)])) (fun tg kk => X40.aaload hx (by rw [e40]; exact Ar60.1) (State.isArrayOf_alike hZ.alike Ar60.2.1) rfl Ar60.2.2 hj60 hv60 (g := (mkF m 75 #[.val (.int p1), .val (.ref a1), .val (.int (p1 &&& (7 : Int32))), .val (.int (1 : Int32))] [(.int (p1 &&& (7 : Int32))), (.ref a1)])) rfl rfl (hb hby at_75) tg kk) ?_
    obtain ⟨cq61, kq61, qa61, qb61, qc61⟩ := isOf hZ e40 (E_REPORT.ext O42.2)
    obtain ⟨v61, _, ⟨T61, L61, k61, n61⟩, -, X61, ⟨Lc61, hQ61, l61, y61, z61⟩, st61⟩ := X40.virtualBack hx (y := (⟨"spanwire/protocol/MessageKind", "isProtocol", "()Z"⟩ : MethodName)) (z := (⟨"spanwire/protocol/MessageKind", "isProtocol", "()Z"⟩ : MethodName)) hown (mvT hZ (hw _ (List.mem_of_getElem? (i := 20) rfl))) (mvT hZ (hw _ (List.mem_of_getElem? (i := 21) rfl))) (notFace_of_selects (args := #[]) (mvT hZ (hw _ (List.mem_of_getElem? (i := 23) rfl)))) (mvT hZ (hw _ (List.mem_of_getElem? (i := 23) rfl))) (mvT hZ (hw _ (List.mem_of_getElem? (i := 22) rfl))) (by decide) (backOf (W := 0) (rm1 l Z a0 hw [] s5 s7 h40 n0 Z43 O42 S_DONE) hZ (hw _ (List.mem_of_getElem? (i := 24) rfl)) (hw _ (List.mem_of_getElem? (i := 3) rfl)) (by decide) (by decide)) qa61 qc61 (g := (mkF m 76 #[.val (.int p1), .val (.ref a1), .val (.int (p1 &&& (7 : Int32))), .val (.int (1 : Int32))] [(.ref s5)])) rfl (by rw [hml]; rfl) (Steps.refl _) (argsL := []) (rest := []) (lenOf pd___Z rfl) rfl (by show 2 * 0 + _ ≤ _; exact Nat.le_of_eq rfl) (hb hby at_76) (fun _ _ => ⟨rfl, e40, (by decide : 1 + 0 ≤ _), (by decide : 8 + 0 ≤ _)⟩)
    dsimp only [Pt.U, Pt.locs, Pt.cells, Pt.slots] at X61 l61 y61 z61 st61 hQ61
    subst l61 y61 z61
    obtain ⟨hv61, M62, e61⟩ := hQ61
    obtain rfl : v61 = some (.int (1 : Int32)) := by rw [hv61]; rw [own_isp, if_neg (fun q => nq5 (Value.ref.inj q))]
    have N62 := Fr.app N40 M62
    refine own_to (S' := T61.setTop (mkF m 79 #[.val (.int p1), .val (.ref a1), .val (.int (p1 &&& (7 : Int32))), .val (.int (1 : Int32))] [(.int (1 : Int32))])) st61 ?_
    refine own_go (S' := T61.setTop (mkF m 80 #[.val (.int p1), .val (.ref a1), .val (.int (p1 &&& (7 : Int32))), .val (.int (1 : Int32))] [(.int (1 : Int32)), (.int (1 : Int32))])) (fun tg kk => XS.iloadN X61.here hx rfl (hb hby at_79) rfl kk) ?_
    refine own_go (S' := T61.setTop (mkF m 83 #[.val (.int p1), .val (.ref a1), .val (.int (p1 &&& (7 : Int32))), .val (.int (1 : Int32))] [])) (fun tg kk => XS.icmpNo X61.here hx rfl (hb hby at_80) rfl (XT.ii_ne_f (by decide)) kk) ?_
    refine own_go (S' := T61.setTop (mkF m 84 #[.val (.int p1), .val (.ref a1), .val (.int (p1 &&& (7 : Int32))), .val (.int (1 : Int32))] [(.int (1 : Int32))])) (fun tg kk => XT.iconstV X61.here hx rfl (1 : Int32) (hb hby at_83) (by decide) kk) ?_
    refine own_go (S' := T61.setTop (mkF m 88 #[.val (.int p1), .val (.ref a1), .val (.int (p1 &&& (7 : Int32))), .val (.int (1 : Int32))] [(.int (1 : Int32))])) (fun tg kk => XS.goto X61.here hx rfl (pc0 := 84) (pc' := 88) rfl (hb hby at_84) (by decide) (by decide) kk) ?_
    obtain ⟨fs, hr, hrun, hended, hW, hsame⟩ := X61.leave (v := some (.int (1 : Int32))) (fun h => by rw [Bd.returns] at h; cases h)
    refine ⟨_, _, retN X61 hx (t := .boolean) Bd.returns (by simp) (hb hby at_88) hr, hrun, hended, _, _, rfl, ?_, ⟨_, rfl⟩, hW, hsame.mono (by decide) (by decide)⟩
    show Q0 Z p1 s0 s1 s2 s3 s4 s5 s6 s7 h0 n0 (some (.int (1 : Int32))) T61.heap _
    rw [e61]
    exact ⟨rfl, N62⟩
  · refine own_go (S' := T40.setTop (mkF m 61 #[.val (.int p1), .val (.ref a1), .val (.int (p1 &&& (7 : Int32))), .unset] [])) (fun tg kk => XS.istoreN X40.here hx rfl (hb hby at_60) rfl (l' := #[.val (.int p1), .val (.ref a1), .val (.int (p1 &&& (7 : Int32))), .unset]) rfl kk) ?_
    refine own_go (S' := T40.setTop (mkF m 62 #[.val (.int p1), .val (.ref a1), .val (.int (p1 &&& (7 : Int32))), .unset] [(.int (p1 &&& (7 : Int32)))])) (fun tg kk => XS.iloadN X40.here hx rfl (hb hby at_61) rfl kk) ?_
    refine own_go (S' := T40.setTop (mkF m 64 #[.val (.int p1), .val (.ref a1), .val (.int (p1 &&& (7 : Int32))), .unset] [(.int (7 : Int32)), (.int (p1 &&& (7 : Int32)))])) (fun tg kk => XT.bipushV X40.here hx rfl (7 : Int32) (hb hby at_62) (by decide) kk) ?_
    refine own_go (S' := T40.setTop (mkF m 67 #[.val (.int p1), .val (.ref a1), .val (.int (p1 &&& (7 : Int32))), .unset] [])) (fun tg kk => XS.icmpNo X40.here hx rfl (hb hby at_64) rfl (XT.ii_eq_f (by rw [u44] <;> decide)) kk) ?_
    refine own_go (S' := T40.setTop (mkF m 68 #[.val (.int p1), .val (.ref a1), .val (.int (p1 &&& (7 : Int32))), .unset] [(.int (1 : Int32))])) (fun tg kk => XT.iconstV X40.here hx rfl (1 : Int32) (hb hby at_67) (by decide) kk) ?_
    refine own_go (S' := T40.setTop (mkF m 72 #[.val (.int p1), .val (.ref a1), .val (.int (p1 &&& (7 : Int32))), .unset] [(.int (1 : Int32))])) (fun tg kk => XS.goto X40.here hx rfl (pc0 := 68) (pc' := 72) rfl (hb hby at_68) (by decide) (by decide) kk) ?_
    refine own_go (S' := T40.setTop (mkF m 73 #[.val (.int p1), .val (.ref a1), .val (.int (p1 &&& (7 : Int32))), .val (.int (1 : Int32))] [])) (fun tg kk => XS.istoreN X40.here hx rfl (hb hby at_72) rfl (l' := #[.val (.int p1), .val (.ref a1), .val (.int (p1 &&& (7 : Int32))), .val (.int (1 : Int32))]) rfl kk) ?_
    refine own_go (S' := T40.setTop (mkF m 74 #[.val (.int p1), .val (.ref a1), .val (.int (p1 &&& (7 : Int32))), .val (.int (1 : Int32))] [(.ref a1)])) (fun tg kk => XS.aloadN X40.here hx rfl (hb hby at_73) rfl rfl kk) ?_
    refine own_go (S' := T40.setTop (mkF m 75 #[.val (.int p1), .val (.ref a1), .val (.int (p1 &&& (7 : Int32))), .val (.int (1 : Int32))] [(.int (p1 &&& (7 : Int32))), (.ref a1)])) (fun tg kk => XS.iloadN X40.here hx rfl (hb hby at_74) rfl kk) ?_
    obtain ⟨cl63, Ar63, q1_63, S63, q3_63, H63, G63⟩ := id V40
    have hj63 := inb_of (j := (p1 &&& (7 : Int32))) S63 ⟨by rw [u44] <;> decide, by rw [u44] <;> decide⟩
    have hv63 : cl63.slots[((p1 &&& (7 : Int32))).toNatClampNeg]? = some (.ref s6) := Has.at H63 hj63 (by rw [u44] <;> rfl)
    refine own_go (S' := T40.setTop (mkF m 76 #[.val (.int p1), .val (.ref a1), .val (.int (p1 &&& (7 : Int32))), .val (.int (1 : Int32))] [(.ref s6)])) (fun tg kk => X40.aaload hx (by rw [e40]; exact Ar63.1) (State.isArrayOf_alike hZ.alike Ar63.2.1) rfl Ar63.2.2 hj63 hv63 (g := (mkF m 75 #[.val (.int p1), .val (.ref a1), .val (.int (p1 &&& (7 : Int32))), .val (.int (1 : Int32))] [(.int (p1 &&& (7 : Int32))), (.ref a1)])) rfl rfl (hb hby at_75) tg kk) ?_
    obtain ⟨cq64, kq64, qa64, qb64, qc64⟩ := isOf hZ e40 (E_CHANGE_ROOT.ext O42.2)
    obtain ⟨v64, _, ⟨T64, L64, k64, n64⟩, -, X64, ⟨Lc64, hQ64, l64, y64, z64⟩, st64⟩ := X40.virtualBack hx (y := (⟨"spanwire/protocol/MessageKind", "isProtocol", "()Z"⟩ : MethodName)) (z := (⟨"spanwire/protocol/MessageKind", "isProtocol", "()Z"⟩ : MethodName)) hown (mvT hZ (hw _ (List.mem_of_getElem? (i := 20) rfl))) (mvT hZ (hw _ (List.mem_of_getElem? (i := 21) rfl))) (notFace_of_selects (args := #[]) (mvT hZ (hw _ (List.mem_of_getElem? (i := 23) rfl)))) (mvT hZ (hw _ (List.mem_of_getElem? (i := 23) rfl))) (mvT hZ (hw _ (List.mem_of_getElem? (i := 22) rfl))) (by decide) (backOf (W := 0) (rm1 l Z a0 hw [] s6 s7 h40 n0 Z43 O42 S_DONE) hZ (hw _ (List.mem_of_getElem? (i := 24) rfl)) (hw _ (List.mem_of_getElem? (i := 3) rfl)) (by decide) (by decide)) qa64 qc64 (g := (mkF m 76 #[.val (.int p1), .val (.ref a1), .val (.int (p1 &&& (7 : Int32))), .val (.int (1 : Int32))] [(.ref s6)])) rfl (by rw [hml]; rfl) (Steps.refl _) (argsL := []) (rest := []) (lenOf pd___Z rfl) rfl (by show 2 * 0 + _ ≤ _; exact Nat.le_of_eq rfl) (hb hby at_76) (fun _ _ => ⟨rfl, e40, (by decide : 1 + 0 ≤ _), (by decide : 8 + 0 ≤ _)⟩)
    dsimp only [Pt.U, Pt.locs, Pt.cells, Pt.slots] at X64 l64 y64 z64 st64 hQ64
    subst l64 y64 z64
    obtain ⟨hv64, M65, e64⟩ := hQ64
    obtain rfl : v64 = some (.int (1 : Int32)) := by rw [hv64]; rw [own_isp, if_neg (fun q => nq6 (Value.ref.inj q))]
    have N65 := Fr.app N40 M65
    refine own_to (S' := T64.setTop (mkF m 79 #[.val (.int p1), .val (.ref a1), .val (.int (p1 &&& (7 : Int32))), .val (.int (1 : Int32))] [(.int (1 : Int32))])) st64 ?_
    refine own_go (S' := T64.setTop (mkF m 80 #[.val (.int p1), .val (.ref a1), .val (.int (p1 &&& (7 : Int32))), .val (.int (1 : Int32))] [(.int (1 : Int32)), (.int (1 : Int32))])) (fun tg kk => XS.iloadN X64.here hx rfl (hb hby at_79) rfl kk) ?_
    refine own_go (S' := T64.setTop (mkF m 83 #[.val (.int p1), .val (.ref a1), .val (.int (p1 &&& (7 : Int32))), .val (.int (1 : Int32))] [])) (fun tg kk => XS.icmpNo X64.here hx rfl (hb hby at_80) rfl (XT.ii_ne_f (by decide)) kk) ?_
    refine own_go (S' := T64.setTop (mkF m 84 #[.val (.int p1), .val (.ref a1), .val (.int (p1 &&& (7 : Int32))), .val (.int (1 : Int32))] [(.int (1 : Int32))])) (fun tg kk => XT.iconstV X64.here hx rfl (1 : Int32) (hb hby at_83) (by decide) kk) ?_
    refine own_go (S' := T64.setTop (mkF m 88 #[.val (.int p1), .val (.ref a1), .val (.int (p1 &&& (7 : Int32))), .val (.int (1 : Int32))] [(.int (1 : Int32))])) (fun tg kk => XS.goto X64.here hx rfl (pc0 := 84) (pc' := 88) rfl (hb hby at_84) (by decide) (by decide) kk) ?_
    obtain ⟨fs, hr, hrun, hended, hW, hsame⟩ := X64.leave (v := some (.int (1 : Int32))) (fun h => by rw [Bd.returns] at h; cases h)
    refine ⟨_, _, retN X64 hx (t := .boolean) Bd.returns (by simp) (hb hby at_88) hr, hrun, hended, _, _, rfl, ?_, ⟨_, rfl⟩, hW, hsame.mono (by decide) (by decide)⟩
    show Q0 Z p1 s0 s1 s2 s3 s4 s5 s6 s7 h0 n0 (some (.int (1 : Int32))) T64.heap _
    rw [e64]
    exact ⟨rfl, N65⟩
  · refine own_go (S' := T40.setTop (mkF m 61 #[.val (.int p1), .val (.ref a1), .val (.int (p1 &&& (7 : Int32))), .unset] [])) (fun tg kk => XS.istoreN X40.here hx rfl (hb hby at_60) rfl (l' := #[.val (.int p1), .val (.ref a1), .val (.int (p1 &&& (7 : Int32))), .unset]) rfl kk) ?_
    refine own_go (S' := T40.setTop (mkF m 62 #[.val (.int p1), .val (.ref a1), .val (.int (p1 &&& (7 : Int32))), .unset] [(.int (p1 &&& (7 : Int32)))])) (fun tg kk => XS.iloadN X40.here hx rfl (hb hby at_61) rfl kk) ?_
    refine own_go (S' := T40.setTop (mkF m 64 #[.val (.int p1), .val (.ref a1), .val (.int (p1 &&& (7 : Int32))), .unset] [(.int (7 : Int32)), (.int (p1 &&& (7 : Int32)))])) (fun tg kk => XT.bipushV X40.here hx rfl (7 : Int32) (hb hby at_62) (by decide) kk) ?_
    refine own_go (S' := T40.setTop (mkF m 71 #[.val (.int p1), .val (.ref a1), .val (.int (p1 &&& (7 : Int32))), .unset] [])) (fun tg kk => XS.icmpYes X40.here hx rfl (pc0 := 64) (pc' := 71) rfl (hb hby at_64) rfl (XT.ii_eq_t (by rw [u44] <;> decide)) (by decide) (by decide) kk) ?_
    refine own_go (S' := T40.setTop (mkF m 72 #[.val (.int p1), .val (.ref a1), .val (.int (p1 &&& (7 : Int32))), .unset] [(.int (0 : Int32))])) (fun tg kk => XT.iconstV X40.here hx rfl (0 : Int32) (hb hby at_71) (by decide) kk) ?_
    refine own_go (S' := T40.setTop (mkF m 73 #[.val (.int p1), .val (.ref a1), .val (.int (p1 &&& (7 : Int32))), .val (.int (0 : Int32))] [])) (fun tg kk => XS.istoreN X40.here hx rfl (hb hby at_72) rfl (l' := #[.val (.int p1), .val (.ref a1), .val (.int (p1 &&& (7 : Int32))), .val (.int (0 : Int32))]) rfl kk) ?_
    refine own_go (S' := T40.setTop (mkF m 74 #[.val (.int p1), .val (.ref a1), .val (.int (p1 &&& (7 : Int32))), .val (.int (0 : Int32))] [(.ref a1)])) (fun tg kk => XS.aloadN X40.here hx rfl (hb hby at_73) rfl rfl kk) ?_
    refine own_go (S' := T40.setTop (mkF m 75 #[.val (.int p1), .val (.ref a1), .val (.int (p1 &&& (7 : Int32))), .val (.int (0 : Int32))] [(.int (p1 &&& (7 : Int32))), (.ref a1)])) (fun tg kk => XS.iloadN X40.here hx rfl (hb hby at_74) rfl kk) ?_
    obtain ⟨cl66, Ar66, q1_66, S66, q3_66, H66, G66⟩ := id V40
    have hj66 := inb_of (j := (p1 &&& (7 : Int32))) S66 ⟨by rw [u44] <;> decide, by rw [u44] <;> decide⟩
    have hv66 : cl66.slots[((p1 &&& (7 : Int32))).toNatClampNeg]? = some (.ref s7) := Has.at H66 hj66 (by rw [u44] <;> rfl)
    refine own_go (S' := T40.setTop (mkF m 76 #[.val (.int p1), .val (.ref a1), .val (.int (p1 &&& (7 : Int32))), .val (.int (0 : Int32))] [(.ref s7)])) (fun tg kk => X40.aaload hx (by rw [e40]; exact Ar66.1) (State.isArrayOf_alike hZ.alike Ar66.2.1) rfl Ar66.2.2 hj66 hv66 (g := (mkF m 75 #[.val (.int p1), .val (.ref a1), .val (.int (p1 &&& (7 : Int32))), .val (.int (0 : Int32))] [(.int (p1 &&& (7 : Int32))), (.ref a1)])) rfl rfl (hb hby at_75) tg kk) ?_
    obtain ⟨cq67, kq67, qa67, qb67, qc67⟩ := isOf hZ e40 (E_DONE.ext O42.2)
    obtain ⟨v67, _, ⟨T67, L67, k67, n67⟩, -, X67, ⟨Lc67, hQ67, l67, y67, z67⟩, st67⟩ := X40.virtualBack hx (y := (⟨"spanwire/protocol/MessageKind", "isProtocol", "()Z"⟩ : MethodName)) (z := (⟨"spanwire/protocol/MessageKind", "isProtocol", "()Z"⟩ : MethodName)) hown (mvT hZ (hw _ (List.mem_of_getElem? (i := 20) rfl))) (mvT hZ (hw _ (List.mem_of_getElem? (i := 21) rfl))) (notFace_of_selects (args := #[]) (mvT hZ (hw _ (List.mem_of_getElem? (i := 23) rfl)))) (mvT hZ (hw _ (List.mem_of_getElem? (i := 23) rfl))) (mvT hZ (hw _ (List.mem_of_getElem? (i := 22) rfl))) (by decide) (backOf (W := 0) (rm1 l Z a0 hw [] s7 s7 h40 n0 Z43 O42 S_DONE) hZ (hw _ (List.mem_of_getElem? (i := 24) rfl)) (hw _ (List.mem_of_getElem? (i := 3) rfl)) (by decide) (by decide)) qa67 qc67 (g := (mkF m 76 #[.val (.int p1), .val (.ref a1), .val (.int (p1 &&& (7 : Int32))), .val (.int (0 : Int32))] [(.ref s7)])) rfl (by rw [hml]; rfl) (Steps.refl _) (argsL := []) (rest := []) (lenOf pd___Z rfl) rfl (by show 2 * 0 + _ ≤ _; exact Nat.le_of_eq rfl) (hb hby at_76) (fun _ _ => ⟨rfl, e40, (by decide : 1 + 0 ≤ _), (by decide : 8 + 0 ≤ _)⟩)
    dsimp only [Pt.U, Pt.locs, Pt.cells, Pt.slots] at X67 l67 y67 z67 st67 hQ67
    subst l67 y67 z67
    obtain ⟨hv67, M68, e67⟩ := hQ67
    obtain rfl : v67 = some (.int (0 : Int32)) := by rw [hv67]; rw [own_isp, if_pos rfl]
    have N68 := Fr.app N40 M68
    refine own_to (S' := T67.setTop (mkF m 79 #[.val (.int p1), .val (.ref a1), .val (.int (p1 &&& (7 : Int32))), .val (.int (0 : Int32))] [(.int (0 : Int32))])) st67 ?_
    refine own_go (S' := T67.setTop (mkF m 80 #[.val (.int p1), .val (.ref a1), .val (.int (p1 &&& (7 : Int32))), .val (.int (0 : Int32))] [(.int (0 : Int32)), (.int (0 : Int32))])) (fun tg kk => XS.iloadN X67.here hx rfl (hb hby at_79) rfl kk) ?_
    refine own_go (S' := T67.setTop (mkF m 83 #[.val (.int p1), .val (.ref a1), .val (.int (p1 &&& (7 : Int32))), .val (.int (0 : Int32))] [])) (fun tg kk => XS.icmpNo X67.here hx rfl (hb hby at_80) rfl (XT.ii_ne_f (by decide)) kk) ?_
    refine own_go (S' := T67.setTop (mkF m 84 #[.val (.int p1), .val (.ref a1), .val (.int (p1 &&& (7 : Int32))), .val (.int (0 : Int32))] [(.int (1 : Int32))])) (fun tg kk => XT.iconstV X67.here hx rfl (1 : Int32) (hb hby at_83) (by decide) kk) ?_
    refine own_go (S' := T67.setTop (mkF m 88 #[.val (.int p1), .val (.ref a1), .val (.int (p1 &&& (7 : Int32))), .val (.int (0 : Int32))] [(.int (1 : Int32))])) (fun tg kk => XS.goto X67.here hx rfl (pc0 := 84) (pc' := 88) rfl (hb hby at_84) (by decide) (by decide) kk) ?_
    obtain ⟨fs, hr, hrun, hended, hW, hsame⟩ := X67.leave (v := some (.int (1 : Int32))) (fun h => by rw [Bd.returns] at h; cases h)
    refine ⟨_, _, retN X67 hx (t := .boolean) Bd.returns (by simp) (hb hby at_88) hr, hrun, hended, _, _, rfl, ?_, ⟨_, rfl⟩, hW, hsame.mono (by decide) (by decide)⟩
    show Q0 Z p1 s0 s1 s2 s3 s4 s5 s6 s7 h0 n0 (some (.int (1 : Int32))) T67.heap _
    rw [e67]
    exact ⟨rfl, N68⟩
set_option maxRecDepth 65536 in
set_option maxHeartbeats 40000000 in
theorem comes_1 {Post : Tables → Env → Array Value → State → Outcome → State → Prop} (hpost : ∀ tb e args s v u, (limb_1_1.after args s (.returned v) u = true ∧ limb_1_2.after args s (.returned v) u = true ∧ True) → FrameEnd s (.returned v) u (Jvm.fieldLocs frame_1_writes args s ++ Jvm.arrayLocs frame_1_arrays args s ++ Jvm.staticLocs frame_1_statics s) 16 128 → Post tb e args s (.returned v) u) :
    ArmFor flags0 classFile x code maxLocals ret World_1 tables_1 room_1 Calls_1 rest_1 Pre_1 Post := by
  intro l hfl _ _ p e ha hc hk s m args below hf hA hF happ hP
  obtain ⟨hcalls, hrest, hpre⟩ := hP
  obtain ⟨-, -, -, hnamed, -, -, -, hat⟩ := (Spec.applies_iff hf).mp happ
  obtain ⟨hg, hn⟩ := and_e (Cond.before_iff.mp (show (Jvm.Cond.and given_1 narrow_1).before args s = true from hpre))
  obtain ⟨hgl, hgr⟩ := and_e hg
  obtain ⟨w0, rfl⟩ : ∃ w0 : Value, args = #[w0] := by
    have hs : args.size = 1 := by simpa [Cond.value] using hgl
    obtain ⟨L⟩ := args
    match L, hs with
    | [w0], _ => exact ⟨w0, rfl⟩
  have hw := fun d (hd : d ∈ tables_1) => atoms_spec (ws := Jvm.Cond.code x code maxLocals ret :: tables_1) hat d (List.mem_cons_of_mem _ hd)
  have hfit : Fit s := fun {y c} hc i hi => by
    obtain ⟨ha, rfl⟩ := Array.getElem?_eq_some_iff.mp hc
    have q := List.all_eq_true.mp ((Array.all_eq_true_iff_forall_mem.mp hF) _ (Array.getElem_mem ha)) i (List.mem_range.mpr hi)
    simpa [Array.getElem?_eq_getElem hi] using q
  obtain ⟨p1, ew0⟩ := is_v hgr
  obtain rfl : w0 = (.int p1) := Option.some.inj ew0
  obtain ⟨hnl, hnr⟩ := and_e hn
  obtain ⟨hnrl, hnrr⟩ := and_e hnr
  obtain ⟨hnrrl, hnrrr⟩ := and_e hnrr
  obtain ⟨hnrrrl, hnrrrr⟩ := and_e hnrrr
  obtain ⟨hnrrrrl, hnrrrrr⟩ := and_e hnrrrr
  obtain ⟨hnrrrrrl, hnrrrrrr⟩ := and_e hnrrrrr
  obtain ⟨hnrrrrrrl, hnrrrrrrr⟩ := and_e hnrrrrrr
  obtain ⟨hnrrrrrrrl, hnrrrrrrrr⟩ := and_e hnrrrrrrr
  obtain ⟨hnrrrrrrrrl, hnrrrrrrrrr⟩ := and_e hnrrrrrrrr
  obtain ⟨hnrrrrrrrrrl, hnrrrrrrrrrr⟩ := and_e hnrrrrrrrrr
  obtain ⟨hnrrrrrrrrrrl, hnrrrrrrrrrrr⟩ := and_e hnrrrrrrrrrr
  obtain ⟨hnrrrrrrrrrrrl, hnrrrrrrrrrrrr⟩ := and_e hnrrrrrrrrrrr
  obtain ⟨hnrrrrrrrrrrrrl, hnrrrrrrrrrrrrr⟩ := and_e hnrrrrrrrrrrrr
  obtain ⟨hnrrrrrrrrrrrrrl, hnrrrrrrrrrrrrrr⟩ := and_e hnrrrrrrrrrrrrr
  obtain ⟨hnrrrrrrrrrrrrrrl, hnrrrrrrrrrrrrrrr⟩ := and_e hnrrrrrrrrrrrrrr
  obtain ⟨s_CONNECT, ev_CONNECT⟩ := exa_v hnl
  have E_CONNECT := Exa.start ev_CONNECT hnl
  have S_CONNECT := Sta.start ev_CONNECT (Or.inr ⟨(hw _ (List.mem_of_getElem? (i := 3) rfl)), (hw _ (List.mem_of_getElem? (i := 4) rfl))⟩)
  obtain ⟨s_INITIATE, ev_INITIATE⟩ := exa_v hnrl
  have E_INITIATE := Exa.start ev_INITIATE hnrl
  have S_INITIATE := Sta.start ev_INITIATE (Or.inr ⟨(hw _ (List.mem_of_getElem? (i := 3) rfl)), (hw _ (List.mem_of_getElem? (i := 7) rfl))⟩)
  obtain ⟨s_TEST, ev_TEST⟩ := exa_v hnrrl
  have E_TEST := Exa.start ev_TEST hnrrl
  have S_TEST := Sta.start ev_TEST (Or.inr ⟨(hw _ (List.mem_of_getElem? (i := 3) rfl)), (hw _ (List.mem_of_getElem? (i := 9) rfl))⟩)
  obtain ⟨s_ACCEPT, ev_ACCEPT⟩ := exa_v hnrrrl
  have E_ACCEPT := Exa.start ev_ACCEPT hnrrrl
  have S_ACCEPT := Sta.start ev_ACCEPT (Or.inr ⟨(hw _ (List.mem_of_getElem? (i := 3) rfl)), (hw _ (List.mem_of_getElem? (i := 11) rfl))⟩)
  obtain ⟨s_REJECT, ev_REJECT⟩ := exa_v hnrrrrl
  have E_REJECT := Exa.start ev_REJECT hnrrrrl
  have S_REJECT := Sta.start ev_REJECT (Or.inr ⟨(hw _ (List.mem_of_getElem? (i := 3) rfl)), (hw _ (List.mem_of_getElem? (i := 13) rfl))⟩)
  obtain ⟨s_REPORT, ev_REPORT⟩ := exa_v hnrrrrrl
  have E_REPORT := Exa.start ev_REPORT hnrrrrrl
  have S_REPORT := Sta.start ev_REPORT (Or.inr ⟨(hw _ (List.mem_of_getElem? (i := 3) rfl)), (hw _ (List.mem_of_getElem? (i := 15) rfl))⟩)
  obtain ⟨s_CHANGE_ROOT, ev_CHANGE_ROOT⟩ := exa_v hnrrrrrrl
  have E_CHANGE_ROOT := Exa.start ev_CHANGE_ROOT hnrrrrrrl
  have S_CHANGE_ROOT := Sta.start ev_CHANGE_ROOT (Or.inr ⟨(hw _ (List.mem_of_getElem? (i := 3) rfl)), (hw _ (List.mem_of_getElem? (i := 17) rfl))⟩)
  obtain ⟨s_DONE, ev_DONE⟩ := exa_v hnrrrrrrrl
  have E_DONE := Exa.start ev_DONE hnrrrrrrrl
  have S_DONE := Sta.start ev_DONE (Or.inr ⟨(hw _ (List.mem_of_getElem? (i := 3) rfl)), (hw _ (List.mem_of_getElem? (i := 19) rfl))⟩)
  have F_CONNECT_ordinal : Fld s s.heap s_CONNECT "java/lang/Enum" "ordinal" "I" (.int (0 : Int32)) := Fld.start ((fld_at ev_CONNECT).symm.trans (Cond.eq_int (Cond.before_iff.mpr hnrrrrrrrrl) rfl))
  have F_DONE_ordinal : Fld s s.heap s_DONE "java/lang/Enum" "ordinal" "I" (.int (7 : Int32)) := Fld.start ((fld_at ev_DONE).symm.trans (Cond.eq_int (Cond.before_iff.mpr hnrrrrrrrrrl) rfl))
  have F_ACCEPT_ordinal : Fld s s.heap s_ACCEPT "java/lang/Enum" "ordinal" "I" (.int (3 : Int32)) := Fld.start ((fld_at ev_ACCEPT).symm.trans (Cond.eq_int (Cond.before_iff.mpr hnrrrrrrrrrrl) rfl))
  have F_CHANGE_ROOT_ordinal : Fld s s.heap s_CHANGE_ROOT "java/lang/Enum" "ordinal" "I" (.int (6 : Int32)) := Fld.start ((fld_at ev_CHANGE_ROOT).symm.trans (Cond.eq_int (Cond.before_iff.mpr hnrrrrrrrrrrrl) rfl))
  have F_TEST_ordinal : Fld s s.heap s_TEST "java/lang/Enum" "ordinal" "I" (.int (2 : Int32)) := Fld.start ((fld_at ev_TEST).symm.trans (Cond.eq_int (Cond.before_iff.mpr hnrrrrrrrrrrrrl) rfl))
  have F_INITIATE_ordinal : Fld s s.heap s_INITIATE "java/lang/Enum" "ordinal" "I" (.int (1 : Int32)) := Fld.start ((fld_at ev_INITIATE).symm.trans (Cond.eq_int (Cond.before_iff.mpr hnrrrrrrrrrrrrrl) rfl))
  have F_REJECT_ordinal : Fld s s.heap s_REJECT "java/lang/Enum" "ordinal" "I" (.int (4 : Int32)) := Fld.start ((fld_at ev_REJECT).symm.trans (Cond.eq_int (Cond.before_iff.mpr hnrrrrrrrrrrrrrrl) rfl))
  have F_REPORT_ordinal : Fld s s.heap s_REPORT "java/lang/Enum" "ordinal" "I" (.int (5 : Int32)) := Fld.start ((fld_at ev_REPORT).symm.trans (Cond.eq_int (Cond.before_iff.mpr hnrrrrrrrrrrrrrrr) rfl))
  obtain ⟨n, o, h1, h2, h3, _, L, rfl, ⟨rfl, N⟩, hq⟩ := rm0 l s _ hw tables_1 p1 s_CONNECT s_INITIATE s_TEST s_ACCEPT s_REJECT s_REPORT s_CHANGE_ROOT s_DONE s.heap s.heap.size (Nat.le_refl _) (Old.start s) S_CONNECT S_INITIATE S_TEST S_ACCEPT S_REJECT S_REPORT S_CHANGE_ROOT S_DONE E_CONNECT E_INITIATE E_TEST E_ACCEPT E_REJECT E_REPORT E_CHANGE_ROOT E_DONE (F_CONNECT_ordinal.ne F_DONE_ordinal (by decide)) (F_INITIATE_ordinal.ne F_DONE_ordinal (by decide)) (F_TEST_ordinal.ne F_DONE_ordinal (by decide)) (F_ACCEPT_ordinal.ne F_DONE_ordinal (by decide)) (F_REJECT_ordinal.ne F_DONE_ordinal (by decide)) (F_REPORT_ordinal.ne F_DONE_ordinal (by decide)) (F_CHANGE_ROOT_ordinal.ne F_DONE_ordinal (by decide)) p e ha hc hk s m _ below hf ((Spec.applies_iff_loose hf).mp happ).1 ⟨rfl, State.Warmed39.refl s, rfl⟩ trivial
  refine ⟨n, _, h1, h2, h3, hpost _ _ _ _ _ _ ⟨Cond.after_iff.mpr rfl, Cond.after_iff.mpr (eq_i res_at (Term.int_eval (1)) rfl), trivial⟩ ⟨hq.1, hq.2.1, (hq.2.2.sift fun y hy => Or.inr (N y hy)).mono (by decide) (by decide)⟩⟩
theorem main_1_1 : Claimed_1_1 := comes_1 fun _ _ _ _ _ _ h hF => ⟨h.1, hF⟩
theorem main_1_2 : Claimed_1_2 := comes_1 fun _ _ _ _ _ _ h hF => ⟨h.2.1, hF⟩
end Jvm.Pilot.@@N@@
namespace Jvm.Pilot.@@N@@
open Jvm Jvm.ClassFile Sem Op Lib Jvm.Free Jvm.Stand Jvm.Pilot.@@N@@.Jvm.D
/-! MADE BY PROGRAM (witnessworld.py) out of the Statement's table words and the real class files: 13 classes; the members and pool entries that the words name. The judged class is class 1, her method 1. -/
namespace start1
open Jvm.ClassFile
def u (s : String) : CpInfo := .utf8 (stringToUtf16 s)
/-- a pool by its gaps: so many unusable entries, then the entry; so many at the end -/
def gap : Nat → List CpInfo → List CpInfo
  | 0, r => r
  | n + 1, r => .unusable :: gap n r
def poolList (es : List (Nat × CpInfo)) (last : Nat) : List CpInfo := es.foldr (fun e r => gap e.1 (e.2 :: r)) (gap last [])
def pool (es : List (Nat × CpInfo)) (last : Nat) : Array CpInfo := ⟨poolList es last⟩
def fileOf (pool : Array CpInfo) (this : Nat) (attrs : Array Attribute := #[]) (ms : Array MethodInfo := #[]) (fl : Nat := 33) (sup : Nat := 0) (ifs : Array Nat := #[]) (fds : Array FieldInfo := #[]) : ClassFile where
  minorVersion := 0
  majorVersion := 65
  constantPool := pool
  accessFlags := fl
  thisClass := this
  superClass := sup
  interfaces := ifs
  fields := fds
  methods := ms
  attributes := attrs
def plain (name : String) (sup : Option ClassId) : Class where
  name := name
  kind := .ordinary
  loader := none
  accessFlags := 33
  super := sup
  interfaces := #[]
  cf := none
  fields := #[]
  methods := #[]
  instanceTypes := #[]
  staticTypes := #[]
  resolved := #[]
  callSites := []
  init := .initialized
  statics := none
  mirror := none

def pool0 : Array CpInfo := pool [(5, u "<init>"), (0, u "()V"), (1, .class_ 10), (1, u "java/lang/Object")] 113

def k0m0 : Method := { name := "<init>", desc := "()V", sig := { parameters := [], returnType := none }, accessFlags := 1, code := none }
/-- java/lang/Object -/
def k0 : Class := { plain "java/lang/Object" none with
  accessFlags := 33
  interfaces := #[]
  cf := some (fileOf pool0 8 #[] #[{ accessFlags := 1, nameIndex := 5, descriptorIndex := 6, attributes := #[] }] 33 0 #[] #[])
  fields := #[]
  methods := #[k0m0]
  instanceTypes := #[]
  staticTypes := #[]
  resolved := Array.replicate 124 none
  statics := none }

def pool1 : Array CpInfo := pool [(2, .class_ 4), (1, u "java/lang/Object"), (0, u "<init>"), (0, u "()V"), (0, .class_ 8), (0, u "spanwire/protocol/MessageKind"), (0, .fieldref 7 10), (0, .nameAndType 11 12), (0, u "CONNECT"), (0, u "Lspanwire/protocol/MessageKind;"), (0, .fieldref 7 14), (0, .nameAndType 15 12), (0, u "INITIATE"), (0, .fieldref 7 17), (0, .nameAndType 18 12), (0, u "TEST"), (0, .fieldref 7 20), (0, .nameAndType 21 12), (0, u "ACCEPT"), (0, .fieldref 7 23), (0, .nameAndType 24 12), (0, u "REJECT"), (0, .fieldref 7 26), (0, .nameAndType 27 12), (0, u "REPORT"), (0, .fieldref 7 29), (0, .nameAndType 30 12), (0, u "CHANGE_ROOT"), (0, .fieldref 7 32), (0, .nameAndType 33 12), (0, u "DONE"), (0, .methodref 7 35), (0, .nameAndType 36 37), (0, u "isProtocol"), (0, u "()Z"), (0, .class_ 39), (0, u "spanwire/protocol/MessageKindIsProtocolPinLaw"), (2, u "law"), (0, u "(I)Z")] 5

def k1m0 : Method := { name := "<init>", desc := "()V", sig := { parameters := [], returnType := none }, accessFlags := 1, code := none }
def k1c1 : Code := { maxStack := 4, maxLocals := 4, code := code, exceptionTable := #[], attributes := #[] }
def k1m1 : Method := { name := "law", desc := "(I)Z", sig := { parameters := [.int], returnType := some .boolean }, accessFlags := 9, code := some k1c1 }
/-- spanwire/protocol/MessageKindIsProtocolPinLaw -/
def k1 : Class := { plain "spanwire/protocol/MessageKindIsProtocolPinLaw" (some 0) with
  accessFlags := 49
  interfaces := #[]
  cf := some (fileOf pool1 38 #[] #[{ accessFlags := 1, nameIndex := 5, descriptorIndex := 6, attributes := #[] }, { accessFlags := 9, nameIndex := 42, descriptorIndex := 43, attributes := #[] }] 49 2 #[] #[])
  fields := #[]
  methods := #[k1m0, k1m1]
  instanceTypes := #[]
  staticTypes := #[]
  resolved := Array.replicate 49 none
  statics := none }

def pool2 : Array CpInfo := pool [(1, .class_ 2), (0, u "java/lang/constant/Constable"), (0, .class_ 4), (0, u "java/lang/Object")] 6

/-- java/lang/constant/Constable -/
def k2 : Class := { plain "java/lang/constant/Constable" (some 0) with
  accessFlags := 1537
  interfaces := #[]
  cf := some (fileOf pool2 1 #[] #[] 1537 3 #[] #[])
  fields := #[]
  methods := #[]
  instanceTypes := #[]
  staticTypes := #[]
  resolved := Array.replicate 11 none
  statics := none }

def pool3 : Array CpInfo := pool [(1, .class_ 2), (0, u "java/lang/Comparable"), (0, .class_ 4), (0, u "java/lang/Object")] 7

/-- java/lang/Comparable -/
def k3 : Class := { plain "java/lang/Comparable" (some 0) with
  accessFlags := 1537
  interfaces := #[]
  cf := some (fileOf pool3 1 #[] #[] 1537 3 #[] #[])
  fields := #[]
  methods := #[]
  instanceTypes := #[]
  staticTypes := #[]
  resolved := Array.replicate 12 none
  statics := none }

def pool4 : Array CpInfo := pool [(1, .class_ 2), (0, u "java/io/Serializable"), (0, .class_ 4), (0, u "java/lang/Object")] 2

/-- java/io/Serializable -/
def k4 : Class := { plain "java/io/Serializable" (some 0) with
  accessFlags := 1537
  interfaces := #[]
  cf := some (fileOf pool4 1 #[] #[] 1537 3 #[] #[])
  fields := #[]
  methods := #[]
  instanceTypes := #[]
  staticTypes := #[]
  resolved := Array.replicate 7 none
  statics := none }

def pool5 : Array CpInfo := pool [(2, .class_ 4), (1, u "java/lang/Enum"), (0, u "name"), (0, u "Ljava/lang/String;"), (2, u "ordinal"), (0, u "I"), (1, .class_ 14), (1, u "java/lang/Object"), (4, u "hash"), (86, .class_ 108), (1, u "java/lang/Enum$EnumDesc"), (2, .class_ 112), (0, u "java/lang/constant/Constable"), (0, .class_ 114), (0, u "java/lang/Comparable"), (0, .class_ 116), (0, u "java/io/Serializable")] 87

/-- java/lang/Enum -/
def k5 : Class := { plain "java/lang/Enum" (some 0) with
  accessFlags := 1057
  interfaces := #[2, 3, 4]
  cf := some (fileOf pool5 2 #[.nestMembers #[106]] #[] 1057 12 #[111, 113, 115] #[{ accessFlags := 18, nameIndex := 5, descriptorIndex := 6, attributes := #[] }, { accessFlags := 18, nameIndex := 9, descriptorIndex := 10, attributes := #[] }, { accessFlags := 2, nameIndex := 19, descriptorIndex := 10, attributes := #[] }])
  fields := #[{ name := "name", type := (.object "java/lang/String"), accessFlags := 18, slot := 0, constantValue := 0 }, { name := "ordinal", type := .int, accessFlags := 18, slot := 1, constantValue := 0 }, { name := "hash", type := .int, accessFlags := 2, slot := 2, constantValue := 0 }]
  methods := #[]
  instanceTypes := #[(.object "java/lang/String"), .int, .int]
  staticTypes := #[]
  resolved := Array.replicate 204 none
  statics := none }

def pool6 : Array CpInfo := pool [(1, .class_ 2), (0, u "spanwire/protocol/MessageKind"), (2, u "CONNECT"), (0, u "Lspanwire/protocol/MessageKind;"), (2, u "INITIATE"), (2, u "TEST"), (2, u "ACCEPT"), (2, u "REJECT"), (2, u "REPORT"), (2, u "CHANGE_ROOT"), (0, .fieldref 1 26), (0, .nameAndType 27 6), (0, u "DONE"), (2, u "$VALUES"), (0, u "[Lspanwire/protocol/MessageKind;"), (6, .class_ 40), (1, u "java/lang/Enum"), (8, u "label"), (0, u "Ljava/lang/String;"), (39, u "isProtocol"), (0, u "()Z")] 6

def k6c0 : Code := { maxStack := 2, maxLocals := 1, code := prog_74_method_5_code, exceptionTable := #[], attributes := #[] }
def k6m0 : Method := { name := "isProtocol", desc := "()Z", sig := { parameters := [], returnType := some .boolean }, accessFlags := 1, code := some k6c0 }
/-- spanwire/protocol/MessageKind -/
def k6 : Class := { plain "spanwire/protocol/MessageKind" (some 5) with
  accessFlags := 16433
  interfaces := #[]
  cf := some (fileOf pool6 1 #[] #[{ accessFlags := 1, nameIndex := 90, descriptorIndex := 91, attributes := #[] }] 16433 38 #[] #[{ accessFlags := 16409, nameIndex := 5, descriptorIndex := 6, attributes := #[] }, { accessFlags := 16409, nameIndex := 9, descriptorIndex := 6, attributes := #[] }, { accessFlags := 16409, nameIndex := 12, descriptorIndex := 6, attributes := #[] }, { accessFlags := 16409, nameIndex := 15, descriptorIndex := 6, attributes := #[] }, { accessFlags := 16409, nameIndex := 18, descriptorIndex := 6, attributes := #[] }, { accessFlags := 16409, nameIndex := 21, descriptorIndex := 6, attributes := #[] }, { accessFlags := 16409, nameIndex := 24, descriptorIndex := 6, attributes := #[] }, { accessFlags := 16409, nameIndex := 27, descriptorIndex := 6, attributes := #[] }, { accessFlags := 18, nameIndex := 49, descriptorIndex := 50, attributes := #[] }, { accessFlags := 4122, nameIndex := 30, descriptorIndex := 31, attributes := #[] }])
  fields := #[{ name := "CONNECT", type := (.object "spanwire/protocol/MessageKind"), accessFlags := 16409, slot := 0, constantValue := 0 }, { name := "INITIATE", type := (.object "spanwire/protocol/MessageKind"), accessFlags := 16409, slot := 1, constantValue := 0 }, { name := "TEST", type := (.object "spanwire/protocol/MessageKind"), accessFlags := 16409, slot := 2, constantValue := 0 }, { name := "ACCEPT", type := (.object "spanwire/protocol/MessageKind"), accessFlags := 16409, slot := 3, constantValue := 0 }, { name := "REJECT", type := (.object "spanwire/protocol/MessageKind"), accessFlags := 16409, slot := 4, constantValue := 0 }, { name := "REPORT", type := (.object "spanwire/protocol/MessageKind"), accessFlags := 16409, slot := 5, constantValue := 0 }, { name := "CHANGE_ROOT", type := (.object "spanwire/protocol/MessageKind"), accessFlags := 16409, slot := 6, constantValue := 0 }, { name := "DONE", type := (.object "spanwire/protocol/MessageKind"), accessFlags := 16409, slot := 7, constantValue := 0 }, { name := "label", type := (.object "java/lang/String"), accessFlags := 18, slot := 3, constantValue := 0 }, { name := "$VALUES", type := (.array (.object "spanwire/protocol/MessageKind")), accessFlags := 4122, slot := 8, constantValue := 0 }]
  methods := #[k6m0]
  instanceTypes := #[(.object "java/lang/String"), .int, .int, (.object "java/lang/String")]
  staticTypes := #[(.object "spanwire/protocol/MessageKind"), (.object "spanwire/protocol/MessageKind"), (.object "spanwire/protocol/MessageKind"), (.object "spanwire/protocol/MessageKind"), (.object "spanwire/protocol/MessageKind"), (.object "spanwire/protocol/MessageKind"), (.object "spanwire/protocol/MessageKind"), (.object "spanwire/protocol/MessageKind"), (.array (.object "spanwire/protocol/MessageKind"))]
  resolved := Array.replicate 98 none
  statics := some 0 }

def pool7 : Array CpInfo := pool [(1, u "java/lang/Cloneable"), (0, .class_ 1), (0, u "java/lang/Object"), (0, .class_ 3)] 3

/-- java/lang/Cloneable -/
def k7 : Class := { plain "java/lang/Cloneable" (some 0) with
  accessFlags := 1537
  interfaces := #[]
  cf := some (fileOf pool7 2 #[] #[] 1537 4 #[] #[])
  fields := #[]
  methods := #[]
  instanceTypes := #[]
  staticTypes := #[]
  resolved := Array.replicate 8 none
  statics := none }

/-- the primitive byte -/
def k8 : Class := { plain "byte" none with kind := .primitive 'B', accessFlags := 0x411 }
/-- [B -/
def k9 : Class := { plain "[B" (some 0) with kind := .array 8 .byte, interfaces := #[7, 4], accessFlags := 1041 }

/-- the primitive int -/
def k10 : Class := { plain "int" none with kind := .primitive 'I', accessFlags := 0x411 }
/-- [I -/
def k11 : Class := { plain "[I" (some 0) with kind := .array 10 .int, interfaces := #[7, 4], accessFlags := 1041 }

/-- [Lspanwire/protocol/MessageKind; -/
def k12 : Class := { plain "[Lspanwire/protocol/MessageKind;" (some 0) with kind := .array 6 (.object "spanwire/protocol/MessageKind"), interfaces := #[7, 4], accessFlags := 1041 }

def heap : Heap := #[{ cls := 6, slots := #[.ref 1, .ref 2, .ref 3, .ref 4, .ref 5, .ref 6, .ref 7, .ref 8, .null], vm := .statics 6 },
  { cls := 6, slots := #[.null, .int 0, .int 0, .null], vm := .none },
  { cls := 6, slots := #[.null, .int 1, .int 0, .null], vm := .none },
  { cls := 6, slots := #[.null, .int 2, .int 0, .null], vm := .none },
  { cls := 6, slots := #[.null, .int 3, .int 0, .null], vm := .none },
  { cls := 6, slots := #[.null, .int 4, .int 0, .null], vm := .none },
  { cls := 6, slots := #[.null, .int 5, .int 0, .null], vm := .none },
  { cls := 6, slots := #[.null, .int 6, .int 0, .null], vm := .none },
  { cls := 6, slots := #[.null, .int 7, .int 0, .null], vm := .none }]
def classes : Array Class := #[k0, k1, k2, k3, k4, k5, k6, k7, k8, k9, k10, k11, k12]
def interned : List (Array UInt16 × Addr) := []
def slotsUsed : Nat := 41
def theMethod : MethodId := ⟨1, 1⟩
def args0 : Array Value := #[.int 5]
def aboutOver (below : List Frame) : State where
  vm := { classes := classes, interned := interned.toArray }
  heap := heap
  slotsUsed := slotsUsed
  threads := #[{ frames := .invoking theMethod args0 :: below }]
def below0 : List Frame := [.native { method := ⟨0, 0⟩, args := #[] }]
def about1 : State := aboutOver below0
def p0 : Program := .bare "" "" ""
def e0 : Env := launch0.env 0 0 0
theorem w_frames : about1.frames = Frame.invoking theMethod args0 :: below0 := rfl
set_option maxRecDepth 65536 in
theorem w_args : argsFit about1.vm theMethod args0 = true := by decide +kernel
set_option maxRecDepth 65536 in
theorem w_heap : heapFits about1 = true := by decide +kernel
set_option maxRecDepth 65536 in
theorem w_runnable : about1.curStatus? = some .runnable := by decide +kernel
set_option maxRecDepth 65536 in
theorem w_alone : about1.alone = true := by decide +kernel
set_option maxRecDepth 65536 in
theorem w_named : about1.methodNamed? x = some theMethod := by decide +kernel
set_option maxRecDepth 65536 in
theorem w_hears : about1.hears theMethod below0 = true := by decide +kernel
set_option maxRecDepth 65536 in
theorem w_ripe : about1.ripe theMethod args0 below0 = true := by decide +kernel
theorem w_running : about1.status = .running := rfl
set_option maxRecDepth 65536 in
theorem w_room : about1.hasRoom e0.platform room_1 = true :=
  launch0.hasRoom_least _ room_1 (by decide +kernel) (by decide +kernel) (by decide +kernel) (by decide +kernel) (by decide +kernel) (by decide +kernel)
theorem allAtoms_all (ts : List Jvm.Cond) (a : Array Jvm.Value) (st : Jvm.State) : (allAtoms ts).before a st = ts.all (fun c => c.before a st) := by
  induction ts with
  | nil => rfl
  | cons c t ih =>
    show (Jvm.Cond.and c (allAtoms t)).before a st = _
    rw [Jvm.Cond.before_and, ih, List.all_cons]
def words1 : List Jvm.Cond := Jvm.Cond.code x code maxLocals ret :: tables_1
/-- a 'code' word, met by the world's own term for the bytes: nothing is compared byte by byte -/
theorem code_word {y : MethodName} {bytes : ByteArray} {mx : Nat} {rt : Option FieldType} {a : Array Value} {s : State} {m : MethodId} {meth : Method} {c : Code} (h1 : s.methodNamed? y = some m) (h2 : s.vm.method? m = some meth) (h3 : meth.code = some c) (h4 : c.code = bytes)
    (h5 : (c.maxLocals == mx && c.exceptionTable.isEmpty && decide (c.maxStack ≤ mostOperands) && decide (meth.sig.returnType = rt) && !meth.locks && decide (parseMethodDescriptor y.desc = some meth.sig)) = true) : (Jvm.Cond.code y bytes mx rt).before a s = true := by
  simp only [Bool.and_eq_true, beq_iff_eq, Bool.not_eq_true', decide_eq_true_eq] at h5
  obtain ⟨⟨⟨⟨⟨g1, g2⟩, g3⟩, g4⟩, g5⟩, g6⟩ := h5
  simp [Cond.before, Cond.holds, Cond.value, h1, h2, h3, h4, g1, g2, g3, g4, g5, g6]
def isCode : Jvm.Cond → Bool
  | .code _ _ _ _ => true
  | _ => false
theorem all_split {L : List Jvm.Cond} {P : Jvm.Cond → Bool} (h1 : L.all (fun c => isCode c || P c) = true) (h2 : ∀ c ∈ L.filter isCode, P c = true) : L.all P = true := by
  refine List.all_eq_true.mpr fun c hc => ?_
  have h := List.all_eq_true.mp h1 c hc
  rcases Bool.eq_false_or_eq_true (isCode c) with hi | hi
  · exact h2 c (List.mem_filter.mpr ⟨hc, hi⟩)
  · simpa [hi] using h
set_option maxRecDepth 65536 in
theorem w_c0 : (Jvm.Cond.code x code maxLocals ret).before args0 about1 = true := code_word (m := ⟨1, 1⟩) (meth := k1m1) (c := k1c1) (by decide +kernel) rfl rfl rfl (by decide +kernel)
set_option maxRecDepth 65536 in
theorem w_c1 : (Jvm.Cond.code ({ cls := "spanwire/protocol/MessageKind", name := "isProtocol", desc := "()Z" } : Jvm.MethodName) prog_74_method_5_code (1 : Nat) (Option.some Jvm.ClassFile.FieldType.boolean)).before args0 about1 = true := code_word (m := ⟨6, 0⟩) (meth := k6m0) (c := k6c0) (by decide +kernel) rfl rfl rfl (by decide +kernel)
def codes1 : List Jvm.Cond := [Jvm.Cond.code x code maxLocals ret, Jvm.Cond.code ({ cls := "spanwire/protocol/MessageKind", name := "isProtocol", desc := "()Z" } : Jvm.MethodName) prog_74_method_5_code (1 : Nat) (Option.some Jvm.ClassFile.FieldType.boolean)]
set_option maxRecDepth 65536 in
theorem codes_eq : words1.filter isCode = codes1 := rfl
theorem w_codes : ∀ c ∈ words1.filter isCode, c.before args0 about1 = true := by
  rw [codes_eq]
  intro c hc
  simp only [codes1, List.mem_cons, List.not_mem_nil, or_false] at hc
  rcases hc with rfl | rfl
  · exact w_c0
  · exact w_c1
set_option maxRecDepth 65536 in
theorem w_t1 : (words1.take 24).all (fun c => isCode c || c.before args0 about1) = true := by decide +kernel
set_option maxRecDepth 65536 in
theorem w_t2 : (words1.drop 24).all (fun c => isCode c || c.before args0 about1) = true := by decide +kernel
theorem w_tables : (allAtoms (Jvm.Cond.code x code maxLocals ret :: tables_1)).before args0 about1 = true := by
  rw [allAtoms_all]
  show words1.all (fun c => c.before args0 about1) = true
  refine all_split ?_ w_codes
  rw [← List.take_append_drop 24 words1, List.all_append, w_t1, w_t2]
  rfl
set_option maxRecDepth 65536 in
theorem w_case : (Jvm.Cond.and given_1 narrow_1).before args0 about1 = true := by decide +kernel
theorem w_applies : (headSpec (Jvm.Cond.code x code maxLocals ret :: tables_1) room_1).applies x e0.platform about1 = true :=
  (Spec.applies_iff w_frames).mpr ⟨w_running, w_runnable, w_alone, w_named, w_hears, w_ripe, w_room, w_tables⟩
theorem atStart : AtStart classFile x code maxLocals ret World_1 tables_1 room_1 Calls_1 rest_1 Pre_1 launch0 p0 e0 about1 theMethod args0 below0 :=
  ⟨lists_1, trivial, launch0.admits_env _ _ _, launch0.least_env, fairChoices_fair.cas, fairChoices_fair.clock, w_frames, w_args, w_heap, w_applies, trivial, trivial, w_case⟩
end start1
theorem witness_1 : WitnessClaimed_1 := ⟨start1.p0, start1.e0, start1.about1, start1.theMethod, start1.args0, start1.below0, start1.atStart⟩
end Jvm.Pilot.@@N@@
