import JvmDerived
import JvmDerived.Pilot.@@N@@Statement
import JvmDerived.Pilot.@@N@@Code
set_option linter.unusedVariables false
set_option linter.unusedSimpArgs false
namespace Jvm.RoadKit
open Sem ClassFile Op Lib Jvm.Stand Jvm.Free Jvm.LawKit
section New
variable {p : Program} {l : Launch} {e : Env} {R : Room} {s : State} {m : MethodId} {args : Array Value} {below : List Frame} {meth : Method} {c : Code} {T : State} {locs : List Loc} {cells slots : Nat}
theorem retI (X : Stand p l e R s m args below meth c T locs cells slots) (hx : p.tables.exec = Jvm.exec) {pc : Nat} {Ls : Array Slot} {z : Int32} {rest : List Value} (hret : meth.sig.returnType = some .int) (hd : decode c.code pc = .ok (.ireturn, 1)) {fs : List Frame}
    (hl : ∀ (f : JFrame) (acts : List Action), f.method = m → f.locked = none → f.entered = [] → (doReturn e (T.setTop f) acts (some (.int z))).1 = T.setFrames fs) : Steps p.tables e below (T.setTop (mkF m pc Ls (.int z :: rest))) (T.setFrames fs) := retOut X hx hret rfl (Or.inl ⟨rfl, Or.inl rfl, z, rfl⟩) hd hl
end New
end Jvm.RoadKit
namespace Jvm.Pilot.@@N@@
open Jvm Jvm.ClassFile Sem Op Lib Jvm.Free Jvm.Stand Jvm.LawKit Jvm.RoadKit Bundle Jvm.Pilot.@@N@@.Jvm.D
def own_Go (tb : Tables) (e : Env) (below : List Frame) (R : Outcome → State → Prop) (S : State) : Prop := ∃ s₂ o, Steps tb e below S s₂ ∧ s₂.status = .running ∧ Ended s₂ below o ∧ R o s₂
theorem own_go {tb : Tables} {e : Env} {below : List Frame} {R : Outcome → State → Prop} {S S' : State} (k : ∀ t, Steps tb e below S' t → Steps tb e below S t) (h : own_Go tb e below R S') : own_Go tb e below R S := by
  obtain ⟨a, b, c, d⟩ := h
  exact ⟨a, b, k _ c, d⟩
theorem own_to {tb : Tables} {e : Env} {below : List Frame} {R : Outcome → State → Prop} {S S' : State} (k : Steps tb e below S S') (h : own_Go tb e below R S') : own_Go tb e below R S := by
  obtain ⟨a, b, c, d⟩ := h
  exact ⟨a, b, k.trans c, d⟩
theorem own_narR {t : FieldType} {v : Value} (ht : t.isReference = true) (hv : v.isRef = true) : narrow t v = v := by
  cases t <;> first | (cases ht; done) | (cases v <;> first | rfl | (cases hv; done))
abbrev own_EL : List (String × Nat) := [("com/example/periodic_jobs/periodicjobs/engine/DeliveryResult", 30), ("java/lang/String", 7)]
set_option maxRecDepth 65536 in
theorem own_wS {Z : State} {a0 : Array Value} (hw : ∀ d ∈ tables_1, d.before a0 Z = true) : ∀ a ∈ Bundle.stringAtoms, a.before a0 Z = true := by
  intro a ha
  simp only [Bundle.stringAtoms, List.mem_cons, List.not_mem_nil, or_false] at ha
  rcases ha with rfl | rfl | rfl | rfl | rfl | rfl | rfl
  · exact (hw _ (List.mem_of_getElem? (i := 6) rfl))
  · exact (hw _ (List.mem_of_getElem? (i := 5) rfl))
  · exact (hw _ (List.mem_of_getElem? (i := 19) rfl))
  · exact (hw _ (List.mem_of_getElem? (i := 20) rfl))
  · exact (hw _ (List.mem_of_getElem? (i := 21) rfl))
  · exact (hw _ (List.mem_of_getElem? (i := 22) rfl))
  · exact (hw _ (List.mem_of_getElem? (i := 23) rfl))
set_option maxRecDepth 65536 in
theorem own_hEL {Z : State} {a0 : Array Value} (hw : ∀ d ∈ tables_1, d.before a0 Z = true) : EW Z a0 own_EL := (EW.cons (hw _ (List.mem_of_getElem? (i := 32) rfl)) (by decide) (EW.cons (hw _ (List.mem_of_getElem? (i := 18) rfl)) (by decide) EW.nil))
theorem own_chr (x : Int32) : nar .char (x &&& (255 : Int32)) = x &&& (255 : Int32) := i2c_mask x
theorem own_chb (x : Int32) : ¬ (255 : Int32) < x &&& (255 : Int32) := by
  have h := c_and x (255 : Int32) (by decide)
  rw [Int32.lt_iff_toInt_lt]
  omega
theorem own_chf (x : Int32) : fits .char (.int (x &&& (255 : Int32))) = true := by
  rw [← own_chr]
  exact fits_nar_char _
theorem own_safeN {Z : State} {vm : Vm} {h : Heap} {EL : List (String × Nat)} {x : Addr} (hal : Z.vm.Alike vm) (E : Exa Z h x "java/lang/String") (F : Fld Z h x "java/lang/String" "value" "[B" .null) : Safe Z EL vm h x := fun B => by
  obtain ⟨p, -, u, a, -, q, -, G, rfl | rfl⟩ := B
  · obtain ⟨cell, cf, k, i, f, h1, h2, -, -, -, -, h7⟩ := F
    cases (show h[q.sa]? = some q.sC from G.ha).symm.trans h1
    obtain ⟨cS, ⟨⟨s1, s2, s3, ⟨cv, kv, iv, s4, s4'⟩, ⟨cc, kc, ic, s5, s5'⟩, s6, s7, s8, s9, r⟩, -, -⟩, -⟩ := G
    obtain ⟨k', e1, -⟩ := State.fieldFound?_setVm (s := Z) hal h2
    have e2 : (Wst Z vm h).fieldFound? "java/lang/String" "value" "[B" = some (cf, k', i, f) := e1
    cases e2.symm.trans s4
    rw [h7] at s8
    cases s8
  · obtain ⟨cell, k, e1, e2, e3, -, -⟩ := E
    cases (show h[q.sd]? = some q.SA from G.hd).symm.trans e1
    obtain ⟨cS, -, -, f, -⟩ := G
    have f' : vm.findClass "[B" = some q.SA.cls := f
    rw [hal.findClass] at f'
    obtain ⟨k1, q1, q2⟩ := Vm.findClass_spec f'
    obtain ⟨k2, q3, q4⟩ := Vm.findClass_spec e2
    cases q1.symm.trans q3
    exact absurd (q2.symm.trans q4) (by decide)
theorem own_arrOf {Z : State} {c c' : Cell} {ty : FieldType} (h1 : c'.cls = c.cls) (h2 : c'.vm = c.vm) (h : Z.isArrayOf c ty) : Z.isArrayOf c' ty := ⟨fun q => by rw [h2]; exact h.1 q, by rw [h1]; exact h.2⟩
theorem d22_0 : decode jdk_52_method_21_code 0 = .ok (.iconst 0, 1) := by decide +kernel
theorem d22_1 : decode jdk_52_method_21_code 1 = .ok (.istore 5, 2) := by decide +kernel
theorem d22_3 : decode jdk_52_method_21_code 3 = .ok (.iload 5, 2) := by decide +kernel
theorem d22_5 : decode jdk_52_method_21_code 5 = .ok (.iload 4, 2) := by decide +kernel
theorem d22_7 : decode jdk_52_method_21_code 7 = .ok (.if_icmp .ge 37, 3) := by decide +kernel
theorem d22_10 : decode jdk_52_method_21_code 10 = .ok (.aload_n 0, 1) := by decide +kernel
theorem d22_11 : decode jdk_52_method_21_code 11 = .ok (.iload_n 1, 1) := by decide +kernel
theorem d22_12 : decode jdk_52_method_21_code 12 = .ok (.caload, 1) := by decide +kernel
theorem d22_13 : decode jdk_52_method_21_code 13 = .ok (.istore 6, 2) := by decide +kernel
theorem d22_15 : decode jdk_52_method_21_code 15 = .ok (.iload 6, 2) := by decide +kernel
theorem d22_17 : decode jdk_52_method_21_code 17 = .ok (.sipush 255, 3) := by decide +kernel
theorem d22_20 : decode jdk_52_method_21_code 20 = .ok (.if_icmp .le 6, 3) := by decide +kernel
theorem d22_26 : decode jdk_52_method_21_code 26 = .ok (.aload_n 2, 1) := by decide +kernel
theorem d22_27 : decode jdk_52_method_21_code 27 = .ok (.iload_n 3, 1) := by decide +kernel
theorem d22_28 : decode jdk_52_method_21_code 28 = .ok (.iload 6, 2) := by decide +kernel
theorem d22_30 : decode jdk_52_method_21_code 30 = .ok (.i2b, 1) := by decide +kernel
theorem d22_31 : decode jdk_52_method_21_code 31 = .ok (.bastore, 1) := by decide +kernel
theorem d22_32 : decode jdk_52_method_21_code 32 = .ok (.iinc 1 1, 3) := by decide +kernel
theorem d22_35 : decode jdk_52_method_21_code 35 = .ok (.iinc 3 1, 3) := by decide +kernel
theorem d22_38 : decode jdk_52_method_21_code 38 = .ok (.iinc 5 1, 3) := by decide +kernel
theorem d22_41 : decode jdk_52_method_21_code 41 = .ok (.goto (-38), 3) := by decide +kernel
theorem d22_44 : decode jdk_52_method_21_code 44 = .ok (.iload 4, 2) := by decide +kernel
theorem d22_46 : decode jdk_52_method_21_code 46 = .ok (.ireturn, 1) := by decide +kernel
theorem pn_java_lang_StringUTF16 : plainName "java/lang/StringUTF16" = true := by first | (simp [plainName, overriddenIn]; done) | decide +kernel
theorem ef22_1 (m : MethodId) (x0 : Addr) (x1 : Int32) (x2 : Addr) (x3 : Int32) (x4 : Int32) : entryFrame m #[(.ref x0), (.int x1), (.ref x2), (.int x3), (.int x4)] 7 = mkF m 0 #[.val (.ref x0), .val (.int x1), .val (.ref x2), .val (.int x3), .val (.int x4), .unset, .unset] [] := by first | (simp [entryFrame, mkF, argsToLocals, Value.category]; done) | rfl
def Q22_1 (Z : State) (ca : Addr) (k : ClassId) (ba : Addr) (kb : ClassId) (x0 : Int32) (h0 : Heap) (n0 : Nat) (v : Option Value) (h : Heap) (L : List Loc) : Prop := v = some (.int (1 : Int32)) ∧ Fr n0 L ∧ Keep h0 h [ba]
set_option maxRecDepth 65536 in
set_option maxHeartbeats 40000000 in
theorem rm22_1 (l : Launch) (Z : State) (a0 : Array Value) (hw : ∀ d ∈ tables_1, d.before a0 Z = true) (ws : List Jvm.Cond) (ca : Addr) (k : ClassId) (ba : Addr) (kb : ClassId) (x0 : Int32) (h0 : Heap) (n0 : Nat) (Z0 : n0 ≤ h0.size) (Va : Arv Z h0 ca k .char (1 : Int32) [.int x0] (.int (0 : Int32))) (Vb : Arv Z h0 ba kb .byte (1 : Int32) [.int (0 : Int32)] (.int (0 : Int32))) (gb : n0 ≤ ba) (ncb : ca ≠ ba) (hb0 : ¬ (255 : Int32) < x0) :
    MetFree l (⟨"java/lang/StringUTF16", "compress", "([CI[BII)I"⟩ : MethodName) (head1 (Jvm.Cond.code (⟨"java/lang/StringUTF16", "compress", "([CI[BII)I"⟩ : MethodName) jdk_52_method_21_code 7 ((Option.some FieldType.int)) :: ws) ({ frames := 0, cells := 0, slots := 0, locals := 0 } : Room)) (fun aa U => aa = #[(.ref ca), (.int (0 : Int32)), (.ref ba), (.int (0 : Int32)), (.int (1 : Int32))] ∧ Z.Warmed39 U.vm ∧ U.heap = h0) (fun _ _ _ _ _ => True) (fun _ U ou U' => ∃ v L, ou = .returned v ∧ Q22_1 Z ca k ba kb x0 h0 n0 v U'.heap L ∧ FrameEnd U ou U' L ({ frames := 0, cells := 0, slots := 0, locals := 0 } : Room).cells ({ frames := 0, cells := 0, slots := 0, locals := 0 } : Room).slots) := by
  refine MetFree.of_bodySF (plainFor_of_name pn_java_lang_StringUTF16) hisR ?_
  intro pg e s m args below meth c s₁ Bd hml0 hP hK
  obtain ⟨rfl, hZ, hh⟩ := hP
  have hx := Bd.exec
  have hby := Bd.bytes
  have hml : c.maxLocals = 7 := hml0
  have hown : s.vm.findClass "java/lang/StringUTF16" = some m.cls := findClass_of_methodNamed Bd.named
  have hnm := (name_of_methodNamed Bd.named Bd.method).1
  have X0 : Stand pg l e ({ frames := 0, cells := 0, slots := 0, locals := 0 } : Room) s m #[(.ref ca), (.int (0 : Int32)), (.ref ba), (.int (0 : Int32)), (.int (1 : Int32))] below meth c s₁ [] 0 0 := Stand.of_body Bd
  have e0 : s₁.heap = h0 := by rw [← hh, Bd.state]; rfl
  have N0 := Fr.nil n0
  have K0 : Keep h0 h0 [ba] := Keep.refl _ _
  show own_Go pg.tables e below (fun ou U' => ∃ v L, ou = .returned v ∧ Q22_1 Z ca k ba kb x0 h0 n0 v U'.heap L ∧ FrameEnd s ou U' L ({ frames := 0, cells := 0, slots := 0, locals := 0 } : Room).cells ({ frames := 0, cells := 0, slots := 0, locals := 0 } : Room).slots) (s₁.setTop (entryFrame m #[(.ref ca), (.int (0 : Int32)), (.ref ba), (.int (0 : Int32)), (.int (1 : Int32))] 7))
  refine own_go (S' := s₁.setTop (mkF m 0 #[.val (.ref ca), .val (.int (0 : Int32)), .val (.ref ba), .val (.int (0 : Int32)), .val (.int (1 : Int32)), .unset, .unset] [])) (fun tg kk => castTop (ef22_1 m ca (0 : Int32) ba (0 : Int32) (1 : Int32)) kk) ?_
  refine own_go (S' := s₁.setTop (mkF m 1 #[.val (.ref ca), .val (.int (0 : Int32)), .val (.ref ba), .val (.int (0 : Int32)), .val (.int (1 : Int32)), .unset, .unset] [(.int (0 : Int32))])) (fun tg kk => XT.iconstV X0.here hx rfl (0 : Int32) (hb hby d22_0) (by decide) kk) ?_
  refine own_go (S' := s₁.setTop (mkF m 3 #[.val (.ref ca), .val (.int (0 : Int32)), .val (.ref ba), .val (.int (0 : Int32)), .val (.int (1 : Int32)), .val (.int (0 : Int32)), .unset] [])) (fun tg kk => XS.istore X0.here hx rfl (hb hby d22_1) rfl (l' := #[.val (.ref ca), .val (.int (0 : Int32)), .val (.ref ba), .val (.int (0 : Int32)), .val (.int (1 : Int32)), .val (.int (0 : Int32)), .unset]) rfl kk) ?_
  refine own_go (S' := s₁.setTop (mkF m 5 #[.val (.ref ca), .val (.int (0 : Int32)), .val (.ref ba), .val (.int (0 : Int32)), .val (.int (1 : Int32)), .val (.int (0 : Int32)), .unset] [(.int (0 : Int32))])) (fun tg kk => XS.iload X0.here hx rfl (hb hby d22_3) rfl kk) ?_
  refine own_go (S' := s₁.setTop (mkF m 7 #[.val (.ref ca), .val (.int (0 : Int32)), .val (.ref ba), .val (.int (0 : Int32)), .val (.int (1 : Int32)), .val (.int (0 : Int32)), .unset] [(.int (1 : Int32)), (.int (0 : Int32))])) (fun tg kk => XS.iload X0.here hx rfl (hb hby d22_5) rfl kk) ?_
  refine own_go (S' := s₁.setTop (mkF m 10 #[.val (.ref ca), .val (.int (0 : Int32)), .val (.ref ba), .val (.int (0 : Int32)), .val (.int (1 : Int32)), .val (.int (0 : Int32)), .unset] [])) (fun tg kk => XS.icmpNo X0.here hx rfl (hb hby d22_7) rfl (XT.ii_ge_f (by decide)) kk) ?_
  refine own_go (S' := s₁.setTop (mkF m 11 #[.val (.ref ca), .val (.int (0 : Int32)), .val (.ref ba), .val (.int (0 : Int32)), .val (.int (1 : Int32)), .val (.int (0 : Int32)), .unset] [(.ref ca)])) (fun tg kk => XS.aloadN X0.here hx rfl (hb hby d22_10) rfl rfl kk) ?_
  refine own_go (S' := s₁.setTop (mkF m 12 #[.val (.ref ca), .val (.int (0 : Int32)), .val (.ref ba), .val (.int (0 : Int32)), .val (.int (1 : Int32)), .val (.int (0 : Int32)), .unset] [(.int (0 : Int32)), (.ref ca)])) (fun tg kk => XS.iloadN X0.here hx rfl (hb hby d22_11) rfl kk) ?_
  obtain ⟨cl1, Ar1, q1_1, S1, q3_1, H1, G1⟩ := id Va
  have hj1 := inb_of (j := (0 : Int32)) S1 ⟨by decide, by decide⟩
  have hv1 : cl1.slots[((0 : Int32)).toNatClampNeg]? = some (.int x0) := Has.at H1 hj1 (by rfl)
  refine own_go (S' := s₁.setTop (mkF m 13 #[.val (.ref ca), .val (.int (0 : Int32)), .val (.ref ba), .val (.int (0 : Int32)), .val (.int (1 : Int32)), .val (.int (0 : Int32)), .unset] [(.int x0)])) (fun tg kk => X0.caload hx (by rw [e0]; exact Ar1.1) (State.isArrayOf_alike hZ.alike Ar1.2.1) Ar1.2.2 hj1 hv1 (g := (mkF m 12 #[.val (.ref ca), .val (.int (0 : Int32)), .val (.ref ba), .val (.int (0 : Int32)), .val (.int (1 : Int32)), .val (.int (0 : Int32)), .unset] [(.int (0 : Int32)), (.ref ca)])) rfl rfl (hb hby d22_12) tg kk) ?_
  refine own_go (S' := s₁.setTop (mkF m 15 #[.val (.ref ca), .val (.int (0 : Int32)), .val (.ref ba), .val (.int (0 : Int32)), .val (.int (1 : Int32)), .val (.int (0 : Int32)), .val (.int x0)] [])) (fun tg kk => XS.istore X0.here hx rfl (hb hby d22_13) rfl (l' := #[.val (.ref ca), .val (.int (0 : Int32)), .val (.ref ba), .val (.int (0 : Int32)), .val (.int (1 : Int32)), .val (.int (0 : Int32)), .val (.int x0)]) rfl kk) ?_
  refine own_go (S' := s₁.setTop (mkF m 17 #[.val (.ref ca), .val (.int (0 : Int32)), .val (.ref ba), .val (.int (0 : Int32)), .val (.int (1 : Int32)), .val (.int (0 : Int32)), .val (.int x0)] [(.int x0)])) (fun tg kk => XS.iload X0.here hx rfl (hb hby d22_15) rfl kk) ?_
  refine own_go (S' := s₁.setTop (mkF m 20 #[.val (.ref ca), .val (.int (0 : Int32)), .val (.ref ba), .val (.int (0 : Int32)), .val (.int (1 : Int32)), .val (.int (0 : Int32)), .val (.int x0)] [(.int (255 : Int32)), (.int x0)])) (fun tg kk => XT.sipushV X0.here hx rfl (255 : Int32) (hb hby d22_17) (by decide) kk) ?_
  refine own_go (S' := s₁.setTop (mkF m 26 #[.val (.ref ca), .val (.int (0 : Int32)), .val (.ref ba), .val (.int (0 : Int32)), .val (.int (1 : Int32)), .val (.int (0 : Int32)), .val (.int x0)] [])) (fun tg kk => XS.icmpYes X0.here hx rfl (pc0 := 20) (pc' := 26) rfl (hb hby d22_20) rfl (XT.ii_le_t hb0) (by decide) (by decide) kk) ?_
  refine own_go (S' := s₁.setTop (mkF m 27 #[.val (.ref ca), .val (.int (0 : Int32)), .val (.ref ba), .val (.int (0 : Int32)), .val (.int (1 : Int32)), .val (.int (0 : Int32)), .val (.int x0)] [(.ref ba)])) (fun tg kk => XS.aloadN X0.here hx rfl (hb hby d22_26) rfl rfl kk) ?_
  refine own_go (S' := s₁.setTop (mkF m 28 #[.val (.ref ca), .val (.int (0 : Int32)), .val (.ref ba), .val (.int (0 : Int32)), .val (.int (1 : Int32)), .val (.int (0 : Int32)), .val (.int x0)] [(.int (0 : Int32)), (.ref ba)])) (fun tg kk => XS.iloadN X0.here hx rfl (hb hby d22_27) rfl kk) ?_
  refine own_go (S' := s₁.setTop (mkF m 30 #[.val (.ref ca), .val (.int (0 : Int32)), .val (.ref ba), .val (.int (0 : Int32)), .val (.int (1 : Int32)), .val (.int (0 : Int32)), .val (.int x0)] [(.int x0), (.int (0 : Int32)), (.ref ba)])) (fun tg kk => XS.iload X0.here hx rfl (hb hby d22_28) rfl kk) ?_
  refine own_go (S' := s₁.setTop (mkF m 31 #[.val (.ref ca), .val (.int (0 : Int32)), .val (.ref ba), .val (.int (0 : Int32)), .val (.int (1 : Int32)), .val (.int (0 : Int32)), .val (.int x0)] [(.int x0.toInt8.toInt32), (.int (0 : Int32)), (.ref ba)])) (fun tg kk => XT.i2b X0.here hx rfl (hb hby d22_30) rfl kk) ?_
  obtain ⟨cl2, Ar2, q1_2, S2, q3_2, H2, G2⟩ := id Vb
  have hj2 := inb_of (j := (0 : Int32)) S2 ⟨by decide, by decide⟩
  obtain ⟨T2, h2, X2, e2, W2, st2⟩ := stB X0 hx hZ e0 Ar2 hj2 (g := (mkF m 31 #[.val (.ref ca), .val (.int (0 : Int32)), .val (.ref ba), .val (.int (0 : Int32)), .val (.int (1 : Int32)), .val (.int (0 : Int32)), .val (.int x0)] [(.int x0.toInt8.toInt32), (.int (0 : Int32)), (.ref ba)])) rfl rfl (hb hby d22_31)
  refine own_go (S' := T2.setTop (mkF m 32 #[.val (.ref ca), .val (.int (0 : Int32)), .val (.ref ba), .val (.int (0 : Int32)), .val (.int (1 : Int32)), .val (.int (0 : Int32)), .val (.int x0)] [])) (st2) ?_
  have N2 := Fr.snoc X2 N0 gb
  have A3 := Va.other W2 ncb
  have Z5 : n0 ≤ h2.size := by rw [W2.size]; exact Z0
  have K6 : Keep h0 h2 [ba] := K0.wr W2 (Or.inl (List.mem_of_getElem? (i := 0) rfl))
  have V2 : Arv Z h2 ba kb .byte (1 : Int32) [(.int (nar .byte x0.toInt8.toInt32))] (.int (0 : Int32)) := Arv.set Ar2 q1_2 S2 q3_2 H2 G2 (fits_nar_byte x0.toInt8.toInt32) W2 0 (by decide) (by show 0 < 1; decide)
  refine own_go (S' := T2.setTop (mkF m 35 #[.val (.ref ca), .val (.int (1 : Int32)), .val (.ref ba), .val (.int (0 : Int32)), .val (.int (1 : Int32)), .val (.int (0 : Int32)), .val (.int x0)] [])) (fun tg kk => XT.iincV X2.here hx rfl (1 : Int32) (hb hby d22_32) (by decide) rfl (l' := #[.val (.ref ca), .val (.int (1 : Int32)), .val (.ref ba), .val (.int (0 : Int32)), .val (.int (1 : Int32)), .val (.int (0 : Int32)), .val (.int x0)]) rfl kk) ?_
  refine own_go (S' := T2.setTop (mkF m 38 #[.val (.ref ca), .val (.int (1 : Int32)), .val (.ref ba), .val (.int (1 : Int32)), .val (.int (1 : Int32)), .val (.int (0 : Int32)), .val (.int x0)] [])) (fun tg kk => XT.iincV X2.here hx rfl (1 : Int32) (hb hby d22_35) (by decide) rfl (l' := #[.val (.ref ca), .val (.int (1 : Int32)), .val (.ref ba), .val (.int (1 : Int32)), .val (.int (1 : Int32)), .val (.int (0 : Int32)), .val (.int x0)]) rfl kk) ?_
  refine own_go (S' := T2.setTop (mkF m 41 #[.val (.ref ca), .val (.int (1 : Int32)), .val (.ref ba), .val (.int (1 : Int32)), .val (.int (1 : Int32)), .val (.int (1 : Int32)), .val (.int x0)] [])) (fun tg kk => XT.iincV X2.here hx rfl (1 : Int32) (hb hby d22_38) (by decide) rfl (l' := #[.val (.ref ca), .val (.int (1 : Int32)), .val (.ref ba), .val (.int (1 : Int32)), .val (.int (1 : Int32)), .val (.int (1 : Int32)), .val (.int x0)]) rfl kk) ?_
  refine own_go (S' := T2.setTop (mkF m 3 #[.val (.ref ca), .val (.int (1 : Int32)), .val (.ref ba), .val (.int (1 : Int32)), .val (.int (1 : Int32)), .val (.int (1 : Int32)), .val (.int x0)] [])) (fun tg kk => XS.goto X2.here hx rfl (pc0 := 41) (pc' := 3) rfl (hb hby d22_41) (by decide) (by decide) kk) ?_
  refine own_go (S' := T2.setTop (mkF m 5 #[.val (.ref ca), .val (.int (1 : Int32)), .val (.ref ba), .val (.int (1 : Int32)), .val (.int (1 : Int32)), .val (.int (1 : Int32)), .val (.int x0)] [(.int (1 : Int32))])) (fun tg kk => XS.iload X2.here hx rfl (hb hby d22_3) rfl kk) ?_
  refine own_go (S' := T2.setTop (mkF m 7 #[.val (.ref ca), .val (.int (1 : Int32)), .val (.ref ba), .val (.int (1 : Int32)), .val (.int (1 : Int32)), .val (.int (1 : Int32)), .val (.int x0)] [(.int (1 : Int32)), (.int (1 : Int32))])) (fun tg kk => XS.iload X2.here hx rfl (hb hby d22_5) rfl kk) ?_
  refine own_go (S' := T2.setTop (mkF m 44 #[.val (.ref ca), .val (.int (1 : Int32)), .val (.ref ba), .val (.int (1 : Int32)), .val (.int (1 : Int32)), .val (.int (1 : Int32)), .val (.int x0)] [])) (fun tg kk => XS.icmpYes X2.here hx rfl (pc0 := 7) (pc' := 44) rfl (hb hby d22_7) rfl (XT.ii_ge_t (by decide)) (by decide) (by decide) kk) ?_
  refine own_go (S' := T2.setTop (mkF m 46 #[.val (.ref ca), .val (.int (1 : Int32)), .val (.ref ba), .val (.int (1 : Int32)), .val (.int (1 : Int32)), .val (.int (1 : Int32)), .val (.int x0)] [(.int (1 : Int32))])) (fun tg kk => XS.iload X2.here hx rfl (hb hby d22_44) rfl kk) ?_
  obtain ⟨fs, hr, hrun, hended, hW, hsame⟩ := X2.leave (v := some (.int (1 : Int32))) (fun h => by rw [Bd.returns] at h; cases h)
  refine ⟨_, _, retI X2 hx Bd.returns (hb hby d22_46) hr, hrun, hended, _, _, rfl, ?_, ⟨_, rfl⟩, hW, hsame.mono (by decide) (by decide)⟩
  show Q22_1 Z ca k ba kb x0 h0 n0 (some (.int (1 : Int32))) T2.heap _
  rw [e2]
  exact ⟨rfl, N2, K6⟩
theorem d21_0 : decode jdk_52_method_16_code 0 = .ok (.iload_n 2, 1) := by decide +kernel
theorem d21_1 : decode jdk_52_method_16_code 1 = .ok (.newarray .byte, 2) := by decide +kernel
theorem d21_3 : decode jdk_52_method_16_code 3 = .ok (.astore_n 3, 1) := by decide +kernel
theorem d21_4 : decode jdk_52_method_16_code 4 = .ok (.aload_n 0, 1) := by decide +kernel
theorem d21_5 : decode jdk_52_method_16_code 5 = .ok (.iload_n 1, 1) := by decide +kernel
theorem d21_6 : decode jdk_52_method_16_code 6 = .ok (.aload_n 3, 1) := by decide +kernel
theorem d21_7 : decode jdk_52_method_16_code 7 = .ok (.iconst 0, 1) := by decide +kernel
theorem d21_8 : decode jdk_52_method_16_code 8 = .ok (.iload_n 2, 1) := by decide +kernel
theorem pd___CI_BII_I : parseMethodDescriptor "([CI[BII)I" = some ⟨[.array .char, .int, .array .byte, .int, .int], some .int⟩ := by decide +kernel
theorem d21_9 : decode jdk_52_method_16_code 9 = .ok (.invokestatic 115, 3) := by decide +kernel
theorem d21_12 : decode jdk_52_method_16_code 12 = .ok (.istore 4, 2) := by decide +kernel
theorem d21_14 : decode jdk_52_method_16_code 14 = .ok (.iload 4, 2) := by decide +kernel
theorem d21_16 : decode jdk_52_method_16_code 16 = .ok (.iload_n 2, 1) := by decide +kernel
theorem d21_17 : decode jdk_52_method_16_code 17 = .ok (.if_icmp .eq 40, 3) := by decide +kernel
theorem d21_57 : decode jdk_52_method_16_code 57 = .ok (.aload_n 3, 1) := by decide +kernel
theorem d21_58 : decode jdk_52_method_16_code 58 = .ok (.areturn, 1) := by decide +kernel
theorem ef21_1 (m : MethodId) (x0 : Addr) (x1 : Int32) (x2 : Int32) : entryFrame m #[(.ref x0), (.int x1), (.int x2)] 6 = mkF m 0 #[.val (.ref x0), .val (.int x1), .val (.int x2), .unset, .unset, .unset] [] := by first | (simp [entryFrame, mkF, argsToLocals, Value.category]; done) | rfl
def Q21_1 (Z : State) (ca : Addr) (k : ClassId) (x0 : Int32) (h0 : Heap) (n0 : Nat) (v : Option Value) (h : Heap) (L : List Loc) : Prop := ∃ (a : Addr) (cb : Cell), v = some (.ref a) ∧ Fr n0 L ∧ Keep h0 h [] ∧ Arr Z h a cb .byte ∧ cb.slots.size = 1
set_option maxRecDepth 65536 in
set_option maxHeartbeats 40000000 in
theorem rm21_1 (l : Launch) (Z : State) (a0 : Array Value) (hw : ∀ d ∈ tables_1, d.before a0 Z = true) (ws : List Jvm.Cond) (ca : Addr) (k : ClassId) (x0 : Int32) (h0 : Heap) (n0 : Nat) (Z0 : n0 ≤ h0.size) (Va : Arv Z h0 ca k .char (1 : Int32) [.int x0] (.int (0 : Int32))) (hb0 : ¬ (255 : Int32) < x0) :
    MetFree l (⟨"java/lang/StringUTF16", "compress", "([CII)[B"⟩ : MethodName) (head1 (Jvm.Cond.code (⟨"java/lang/StringUTF16", "compress", "([CII)[B"⟩ : MethodName) jdk_52_method_16_code 6 ((Option.some (FieldType.array FieldType.byte))) :: ws) ({ frames := 1, cells := 1, slots := 1, locals := 18 } : Room)) (fun aa U => aa = #[(.ref ca), (.int (0 : Int32)), (.int (1 : Int32))] ∧ Z.Warmed39 U.vm ∧ U.heap = h0) (fun _ _ _ _ _ => True) (fun _ U ou U' => ∃ v L, ou = .returned v ∧ Q21_1 Z ca k x0 h0 n0 v U'.heap L ∧ FrameEnd U ou U' L ({ frames := 1, cells := 1, slots := 1, locals := 18 } : Room).cells ({ frames := 1, cells := 1, slots := 1, locals := 18 } : Room).slots) := by
  refine MetFree.of_bodySF (plainFor_of_name pn_java_lang_StringUTF16) hisR ?_
  intro pg e s m args below meth c s₁ Bd hml0 hP hK
  obtain ⟨rfl, hZ, hh⟩ := hP
  have hx := Bd.exec
  have hby := Bd.bytes
  have hml : c.maxLocals = 6 := hml0
  have hown : s.vm.findClass "java/lang/StringUTF16" = some m.cls := findClass_of_methodNamed Bd.named
  have hnm := (name_of_methodNamed Bd.named Bd.method).1
  have X0 : Stand pg l e ({ frames := 1, cells := 1, slots := 1, locals := 18 } : Room) s m #[(.ref ca), (.int (0 : Int32)), (.int (1 : Int32))] below meth c s₁ [] 0 0 := Stand.of_body Bd
  have e0 : s₁.heap = h0 := by rw [← hh, Bd.state]; rfl
  have N0 := Fr.nil n0
  have K0 : Keep h0 h0 [] := Keep.refl _ _
  show own_Go pg.tables e below (fun ou U' => ∃ v L, ou = .returned v ∧ Q21_1 Z ca k x0 h0 n0 v U'.heap L ∧ FrameEnd s ou U' L ({ frames := 1, cells := 1, slots := 1, locals := 18 } : Room).cells ({ frames := 1, cells := 1, slots := 1, locals := 18 } : Room).slots) (s₁.setTop (entryFrame m #[(.ref ca), (.int (0 : Int32)), (.int (1 : Int32))] 6))
  refine own_go (S' := s₁.setTop (mkF m 0 #[.val (.ref ca), .val (.int (0 : Int32)), .val (.int (1 : Int32)), .unset, .unset, .unset] [])) (fun tg kk => castTop (ef21_1 m ca (0 : Int32) (1 : Int32)) kk) ?_
  refine own_go (S' := s₁.setTop (mkF m 1 #[.val (.ref ca), .val (.int (0 : Int32)), .val (.int (1 : Int32)), .unset, .unset, .unset] [(.int (1 : Int32))])) (fun tg kk => XS.iloadN X0.here hx rfl (hb hby d21_0) rfl kk) ?_
  obtain ⟨T1, h1, cA1, X1, e1, Ex1, A1, st1⟩ := newP X0 hx hZ (hw _ (List.mem_of_getElem? (i := 19) rfl)) e0 (g := (mkF m 1 #[.val (.ref ca), .val (.int (0 : Int32)), .val (.int (1 : Int32)), .unset, .unset, .unset] [(.int (1 : Int32))])) rfl (hb hby d21_1) rfl (n := (1 : Int32)) (by decide) (cap := 1) (by decide) (by decide) (by decide) (by decide)
  obtain ⟨a1, g1⟩ : ∃ z, z = h0.size := ⟨_, rfl⟩
  rw [← g1] at A1 st1
  have ne1_ca : ca ≠ a1 := by rw [g1]; exact Nat.ne_of_lt Va.lt
  have q1 : n0 ≤ a1 := by rw [g1]; exact Z0
  have r1 : h0.size ≤ a1 := by rw [g1]; exact K0.1
  have A2 := Va.ext Ex1
  have Z3 : n0 ≤ h1.size := Nat.le_trans Z0 Ex1.1
  have K4 : Keep h0 h1 [] := K0.ext Ex1
  refine own_go (S' := T1.setTop (mkF m 3 #[.val (.ref ca), .val (.int (0 : Int32)), .val (.int (1 : Int32)), .unset, .unset, .unset] [(.ref a1)])) (st1) ?_
  have V1 : Arv Z h1 a1 cA1 .byte (1 : Int32) [(.int (0 : Int32))] (.int (0 : Int32)) := (Arv.new A1 (by decide)).pad (pad_rep [] (.int (0 : Int32)) 1)
  refine own_go (S' := T1.setTop (mkF m 4 #[.val (.ref ca), .val (.int (0 : Int32)), .val (.int (1 : Int32)), .val (.ref a1), .unset, .unset] [])) (fun tg kk => XS.astoreN X1.here hx rfl (hb hby d21_3) rfl rfl (l' := #[.val (.ref ca), .val (.int (0 : Int32)), .val (.int (1 : Int32)), .val (.ref a1), .unset, .unset]) rfl kk) ?_
  refine own_go (S' := T1.setTop (mkF m 5 #[.val (.ref ca), .val (.int (0 : Int32)), .val (.int (1 : Int32)), .val (.ref a1), .unset, .unset] [(.ref ca)])) (fun tg kk => XS.aloadN X1.here hx rfl (hb hby d21_4) rfl rfl kk) ?_
  refine own_go (S' := T1.setTop (mkF m 6 #[.val (.ref ca), .val (.int (0 : Int32)), .val (.int (1 : Int32)), .val (.ref a1), .unset, .unset] [(.int (0 : Int32)), (.ref ca)])) (fun tg kk => XS.iloadN X1.here hx rfl (hb hby d21_5) rfl kk) ?_
  refine own_go (S' := T1.setTop (mkF m 7 #[.val (.ref ca), .val (.int (0 : Int32)), .val (.int (1 : Int32)), .val (.ref a1), .unset, .unset] [(.ref a1), (.int (0 : Int32)), (.ref ca)])) (fun tg kk => XS.aloadN X1.here hx rfl (hb hby d21_6) rfl rfl kk) ?_
  refine own_go (S' := T1.setTop (mkF m 8 #[.val (.ref ca), .val (.int (0 : Int32)), .val (.int (1 : Int32)), .val (.ref a1), .unset, .unset] [(.int (0 : Int32)), (.ref a1), (.int (0 : Int32)), (.ref ca)])) (fun tg kk => XT.iconstV X1.here hx rfl (0 : Int32) (hb hby d21_7) (by decide) kk) ?_
  refine own_go (S' := T1.setTop (mkF m 9 #[.val (.ref ca), .val (.int (0 : Int32)), .val (.int (1 : Int32)), .val (.ref a1), .unset, .unset] [(.int (1 : Int32)), (.int (0 : Int32)), (.ref a1), (.int (0 : Int32)), (.ref ca)])) (fun tg kk => XS.iloadN X1.here hx rfl (hb hby d21_8) rfl kk) ?_
  obtain ⟨v5, _, ⟨T5, L5, k5, n5⟩, -, X5, ⟨Lc5, hQ5, l5, y5, z5⟩, st5⟩ := Jvm.LawKit.callS X1 hx (y := (⟨"java/lang/StringUTF16", "compress", "([CI[BII)I"⟩ : MethodName)) hown (mvT hZ (hw _ (List.mem_of_getElem? (i := 123) rfl))) (mvT hZ (hw _ (List.mem_of_getElem? (i := 124) rfl))) (mvT hZ (hw _ (List.mem_of_getElem? (i := 121) rfl))) (mvT hZ (hw _ (List.mem_of_getElem? (i := 125) rfl))) (by decide) (backOf (W := 0) (rm22_1 l Z a0 hw [] ca k a1 cA1 x0 h1 n0 Z3 A2 V1 q1 ne1_ca hb0) hZ (hw _ (List.mem_of_getElem? (i := 125) rfl)) (hw _ (List.mem_of_getElem? (i := 121) rfl)) (by decide) (by decide)) (g := (mkF m 9 #[.val (.ref ca), .val (.int (0 : Int32)), .val (.int (1 : Int32)), .val (.ref a1), .unset, .unset] [(.int (1 : Int32)), (.int (0 : Int32)), (.ref a1), (.int (0 : Int32)), (.ref ca)])) rfl (by rw [hml]; rfl) (argsL := [(.ref ca), (.int (0 : Int32)), (.ref a1), (.int (0 : Int32)), (.int (1 : Int32))]) (rest := []) (lenOf pd___CI_BII_I rfl) rfl (by show 2 * 0 + _ ≤ _; exact Nat.le_of_eq rfl) (hb hby d21_9) (fun _ _ => ⟨rfl, e1, (by decide : 1 + 0 ≤ _), (by decide : 1 + 0 ≤ _)⟩)
  dsimp only [Pt.U, Pt.locs, Pt.cells, Pt.slots] at X5 l5 y5 z5 st5 hQ5
  subst l5 y5 z5
  obtain ⟨rfl, M6, K5⟩ := hQ5
  have N6 := Fr.app N0 M6
  obtain ⟨h5, e5⟩ : ∃ z, T5.heap = z := ⟨_, rfl⟩
  rw [e5] at K5 
  have A7 := A2.keep K5 (ninS ne1_ca nin0)
  have Z9 : n0 ≤ h5.size := Nat.le_trans Z3 K5.1
  have K10 : Keep h0 h5 [] := K4.trans K5 (allS (Or.inr r1) all0)
  obtain ⟨cb5, Ab5, Sb5⟩ : ∃ cb, Arr Z h5 a1 cb .byte ∧ cb.slots.size = 1 := by
    obtain ⟨cl, Ar, q1, S, q3, H, G⟩ := V1
    obtain ⟨c', r1, r2, r3, r4⟩ := K5.2.2 _ _ Ar.1
    exact ⟨c', ⟨r1, own_arrOf r2 r3 Ar.2.1, by rw [r3]; exact Ar.2.2⟩, r4.trans (S.trans (by decide))⟩
  refine own_go (S' := T5.setTop (mkF m 12 #[.val (.ref ca), .val (.int (0 : Int32)), .val (.int (1 : Int32)), .val (.ref a1), .unset, .unset] [(.int (1 : Int32))])) st5 ?_
  refine own_go (S' := T5.setTop (mkF m 14 #[.val (.ref ca), .val (.int (0 : Int32)), .val (.int (1 : Int32)), .val (.ref a1), .val (.int (1 : Int32)), .unset] [])) (fun tg kk => XS.istore X5.here hx rfl (hb hby d21_12) rfl (l' := #[.val (.ref ca), .val (.int (0 : Int32)), .val (.int (1 : Int32)), .val (.ref a1), .val (.int (1 : Int32)), .unset]) rfl kk) ?_
  refine own_go (S' := T5.setTop (mkF m 16 #[.val (.ref ca), .val (.int (0 : Int32)), .val (.int (1 : Int32)), .val (.ref a1), .val (.int (1 : Int32)), .unset] [(.int (1 : Int32))])) (fun tg kk => XS.iload X5.here hx rfl (hb hby d21_14) rfl kk) ?_
  refine own_go (S' := T5.setTop (mkF m 17 #[.val (.ref ca), .val (.int (0 : Int32)), .val (.int (1 : Int32)), .val (.ref a1), .val (.int (1 : Int32)), .unset] [(.int (1 : Int32)), (.int (1 : Int32))])) (fun tg kk => XS.iloadN X5.here hx rfl (hb hby d21_16) rfl kk) ?_
  refine own_go (S' := T5.setTop (mkF m 57 #[.val (.ref ca), .val (.int (0 : Int32)), .val (.int (1 : Int32)), .val (.ref a1), .val (.int (1 : Int32)), .unset] [])) (fun tg kk => XS.icmpYes X5.here hx rfl (pc0 := 17) (pc' := 57) rfl (hb hby d21_17) rfl (XT.ii_eq_t (by decide)) (by decide) (by decide) kk) ?_
  refine own_go (S' := T5.setTop (mkF m 58 #[.val (.ref ca), .val (.int (0 : Int32)), .val (.int (1 : Int32)), .val (.ref a1), .val (.int (1 : Int32)), .unset] [(.ref a1)])) (fun tg kk => XS.aloadN X5.here hx rfl (hb hby d21_57) rfl rfl kk) ?_
  obtain ⟨fs, hr, hrun, hended, hW, hsame⟩ := X5.leave (v := some (.ref a1)) (fun h => by rw [Bd.returns] at h; cases h)
  refine ⟨_, _, retOut X5 hx (i := .areturn) Bd.returns (own_narR rfl rfl) (Or.inr (Or.inr (Or.inr (Or.inr ⟨rfl, rfl, rfl⟩)))) (hb hby d21_58) hr, hrun, hended, _, _, rfl, ?_, ⟨_, rfl⟩, hW, hsame.mono (by decide) (by decide)⟩
  show Q21_1 Z ca k x0 h0 n0 (some (.ref a1)) T5.heap _
  rw [e5]
  exact ⟨a1, cb5, rfl, N6, K10, Ab5, Sb5⟩
theorem d23_0 : decode jdk_52_method_15_code 0 = .ok (.iload_n 1, 1) := by decide +kernel
theorem d23_1 : decode jdk_52_method_15_code 1 = .ok (.aload_n 0, 1) := by decide +kernel
theorem d23_2 : decode jdk_52_method_15_code 2 = .ok (.arraylength, 1) := by decide +kernel
theorem d23_3 : decode jdk_52_method_15_code 3 = .ok (.isub, 1) := by decide +kernel
theorem d23_4 : decode jdk_52_method_15_code 4 = .ok (.bipush 31, 2) := by decide +kernel
theorem d23_6 : decode jdk_52_method_15_code 6 = .ok (.iushr, 1) := by decide +kernel
theorem d23_7 : decode jdk_52_method_15_code 7 = .ok (.i2b, 1) := by decide +kernel
theorem d23_8 : decode jdk_52_method_15_code 8 = .ok (.ireturn, 1) := by decide +kernel
theorem ef23_1 (m : MethodId) (x0 : Addr) (x1 : Int32) : entryFrame m #[(.ref x0), (.int x1)] 2 = mkF m 0 #[.val (.ref x0), .val (.int x1)] [] := by first | (simp [entryFrame, mkF, argsToLocals, Value.category]; done) | rfl
def Q23_1 (Z : State) (ba : Addr) (cb : Cell) (h0 : Heap) (n0 : Nat) (v : Option Value) (h : Heap) (L : List Loc) : Prop := v = some (.int (0 : Int32)) ∧ Fr n0 L ∧ h = h0
set_option maxRecDepth 65536 in
set_option maxHeartbeats 40000000 in
theorem rm23_1 (l : Launch) (Z : State) (a0 : Array Value) (hw : ∀ d ∈ tables_1, d.before a0 Z = true) (ws : List Jvm.Cond) (ba : Addr) (cb : Cell) (h0 : Heap) (n0 : Nat) (Z0 : n0 ≤ h0.size) (Ab : Arr Z h0 ba cb .byte) (Sb : cb.slots.size = 1) :
    MetFree l (⟨"java/lang/StringUTF16", "coderFromArrayLen", "([BI)B"⟩ : MethodName) (head1 (Jvm.Cond.code (⟨"java/lang/StringUTF16", "coderFromArrayLen", "([BI)B"⟩ : MethodName) jdk_52_method_15_code 2 ((Option.some FieldType.byte)) :: ws) ({ frames := 0, cells := 0, slots := 0, locals := 0 } : Room)) (fun aa U => aa = #[(.ref ba), (.int (1 : Int32))] ∧ Z.Warmed39 U.vm ∧ U.heap = h0) (fun _ _ _ _ _ => True) (fun _ U ou U' => ∃ v L, ou = .returned v ∧ Q23_1 Z ba cb h0 n0 v U'.heap L ∧ FrameEnd U ou U' L ({ frames := 0, cells := 0, slots := 0, locals := 0 } : Room).cells ({ frames := 0, cells := 0, slots := 0, locals := 0 } : Room).slots) := by
  refine MetFree.of_bodySF (plainFor_of_name pn_java_lang_StringUTF16) hisR ?_
  intro pg e s m args below meth c s₁ Bd hml0 hP hK
  obtain ⟨rfl, hZ, hh⟩ := hP
  have hx := Bd.exec
  have hby := Bd.bytes
  have hml : c.maxLocals = 2 := hml0
  have hown : s.vm.findClass "java/lang/StringUTF16" = some m.cls := findClass_of_methodNamed Bd.named
  have hnm := (name_of_methodNamed Bd.named Bd.method).1
  have X0 : Stand pg l e ({ frames := 0, cells := 0, slots := 0, locals := 0 } : Room) s m #[(.ref ba), (.int (1 : Int32))] below meth c s₁ [] 0 0 := Stand.of_body Bd
  have e0 : s₁.heap = h0 := by rw [← hh, Bd.state]; rfl
  have N0 := Fr.nil n0
  show own_Go pg.tables e below (fun ou U' => ∃ v L, ou = .returned v ∧ Q23_1 Z ba cb h0 n0 v U'.heap L ∧ FrameEnd s ou U' L ({ frames := 0, cells := 0, slots := 0, locals := 0 } : Room).cells ({ frames := 0, cells := 0, slots := 0, locals := 0 } : Room).slots) (s₁.setTop (entryFrame m #[(.ref ba), (.int (1 : Int32))] 2))
  refine own_go (S' := s₁.setTop (mkF m 0 #[.val (.ref ba), .val (.int (1 : Int32))] [])) (fun tg kk => castTop (ef23_1 m ba (1 : Int32)) kk) ?_
  refine own_go (S' := s₁.setTop (mkF m 1 #[.val (.ref ba), .val (.int (1 : Int32))] [(.int (1 : Int32))])) (fun tg kk => XS.iloadN X0.here hx rfl (hb hby d23_0) rfl kk) ?_
  refine own_go (S' := s₁.setTop (mkF m 2 #[.val (.ref ba), .val (.int (1 : Int32))] [(.ref ba), (.int (1 : Int32))])) (fun tg kk => XS.aloadN X0.here hx rfl (hb hby d23_1) rfl rfl kk) ?_
  refine own_go (S' := s₁.setTop (mkF m 3 #[.val (.ref ba), .val (.int (1 : Int32))] [(.int (1 : Int32)), (.int (1 : Int32))])) (fun tg kk => X0.arraylength hx (cell := cb) (by rw [e0]; exact Ab.1) (State.isArrayOf_alike hZ.alike Ab.2.1) (g := (mkF m 2 #[.val (.ref ba), .val (.int (1 : Int32))] [(.ref ba), (.int (1 : Int32))])) rfl rfl (hb hby d23_2) tg (by rw [Sb]; exact kk)) ?_
  refine own_go (S' := s₁.setTop (mkF m 4 #[.val (.ref ba), .val (.int (1 : Int32))] [(.int (0 : Int32))])) (fun tg kk => XS.isub X0.here hx rfl (hb hby d23_3) rfl (by rw [show (1 : Int32) - (1 : Int32) = (0 : Int32) from by decide]; exact kk)) ?_
  refine own_go (S' := s₁.setTop (mkF m 6 #[.val (.ref ba), .val (.int (1 : Int32))] [(.int (31 : Int32)), (.int (0 : Int32))])) (fun tg kk => XT.bipushV X0.here hx rfl (31 : Int32) (hb hby d23_4) (by decide) kk) ?_
  refine own_go (S' := s₁.setTop (mkF m 7 #[.val (.ref ba), .val (.int (1 : Int32))] [(.int (0 : Int32))])) (fun tg kk => XT.iushr X0.here hx rfl (hb hby d23_6) rfl (by rw [show (XT.ushr (0 : Int32) (31 : Int32)) = (0 : Int32) from by decide]; exact kk)) ?_
  refine own_go (S' := s₁.setTop (mkF m 8 #[.val (.ref ba), .val (.int (1 : Int32))] [(.int (0 : Int32))])) (fun tg kk => XT.i2b X0.here hx rfl (hb hby d23_7) rfl (by rw [show (0 : Int32).toInt8.toInt32 = (0 : Int32) from by decide]; exact kk)) ?_
  obtain ⟨fs, hr, hrun, hended, hW, hsame⟩ := X0.leave (v := some (.int (0 : Int32))) (fun h => by rw [Bd.returns] at h; cases h)
  refine ⟨_, _, retN X0 hx (t := .byte) Bd.returns (by simp) (hb hby d23_8) hr, hrun, hended, _, _, rfl, ?_, ⟨_, rfl⟩, hW, hsame.mono (by decide) (by decide)⟩
  show Q23_1 Z ba cb h0 n0 (some (.int (0 : Int32))) s₁.heap _
  rw [e0]
  exact ⟨rfl, N0, rfl⟩
theorem d3_0 : decode jdk_42_method_149_code 0 = .ok (.aload_n 0, 1) := by decide +kernel
theorem d3_1 : decode jdk_42_method_149_code 1 = .ok (.invokespecial 1, 3) := by decide +kernel
theorem d3_4 : decode jdk_42_method_149_code 4 = .ok (.iload_n 3, 1) := by decide +kernel
theorem d3_5 : decode jdk_42_method_149_code 5 = .ok (.ifCond .ne 22, 3) := by decide +kernel
theorem d3_27 : decode jdk_42_method_149_code 27 = .ok (.getstatic 38, 3) := by decide +kernel
theorem d3_30 : decode jdk_42_method_149_code 30 = .ok (.ifCond .eq 28, 3) := by decide +kernel
theorem d3_33 : decode jdk_42_method_149_code 33 = .ok (.aload_n 1, 1) := by decide +kernel
theorem d3_34 : decode jdk_42_method_149_code 34 = .ok (.iload_n 2, 1) := by decide +kernel
theorem d3_35 : decode jdk_42_method_149_code 35 = .ok (.iload_n 3, 1) := by decide +kernel
theorem pd___CII__B : parseMethodDescriptor "([CII)[B" = some ⟨[.array .char, .int, .int], some (.array .byte)⟩ := by decide +kernel
theorem d3_36 : decode jdk_42_method_149_code 36 = .ok (.invokestatic 177, 3) := by decide +kernel
theorem d3_39 : decode jdk_42_method_149_code 39 = .ok (.astore 5, 2) := by decide +kernel
theorem d3_41 : decode jdk_42_method_149_code 41 = .ok (.aload_n 0, 1) := by decide +kernel
theorem d3_42 : decode jdk_42_method_149_code 42 = .ok (.aload 5, 2) := by decide +kernel
theorem d3_44 : decode jdk_42_method_149_code 44 = .ok (.iload_n 3, 1) := by decide +kernel
theorem pd___BI_B : parseMethodDescriptor "([BI)B" = some ⟨[.array .byte, .int], some .byte⟩ := by decide +kernel
theorem d3_45 : decode jdk_42_method_149_code 45 = .ok (.invokestatic 47, 3) := by decide +kernel
theorem d3_48 : decode jdk_42_method_149_code 48 = .ok (.putfield 15, 3) := by decide +kernel
theorem d3_51 : decode jdk_42_method_149_code 51 = .ok (.aload_n 0, 1) := by decide +kernel
theorem d3_52 : decode jdk_42_method_149_code 52 = .ok (.aload 5, 2) := by decide +kernel
theorem d3_54 : decode jdk_42_method_149_code 54 = .ok (.putfield 9, 3) := by decide +kernel
theorem d3_57 : decode jdk_42_method_149_code 57 = .ok (.return_, 1) := by decide +kernel
theorem pn_java_lang_String : plainName "java/lang/String" = true := by first | (simp [plainName, overriddenIn]; done) | decide +kernel
theorem ef3_1 (m : MethodId) (x0 : Addr) (x1 : Addr) (x2 : Int32) (x3 : Int32) : entryFrame m #[(.ref x0), (.ref x1), (.int x2), (.int x3), .null] 6 = mkF m 0 #[.val (.ref x0), .val (.ref x1), .val (.int x2), .val (.int x3), .val .null, .unset] [] := by first | (simp [entryFrame, mkF, argsToLocals, Value.category]; done) | rfl
def Q3_1 (Z : State) (a : Addr) (ca : Addr) (k : ClassId) (cs : Int32) (x0 : Int32) (h0 : Heap) (n0 : Nat) (v : Option Value) (h : Heap) (L : List Loc) : Prop := v = none ∧ Fr n0 L ∧ Keep h0 h [a]
set_option maxRecDepth 65536 in
set_option maxHeartbeats 40000000 in
theorem rm3_1 (l : Launch) (Z : State) (a0 : Array Value) (hw : ∀ d ∈ tables_1, d.before a0 Z = true) (ws : List Jvm.Cond) (a : Addr) (ca : Addr) (k : ClassId) (cs : Int32) (x0 : Int32) (h0 : Heap) (n0 : Nat) (Z0 : n0 ≤ h0.size) (O0 : Old Z n0 h0) (Fv : Fld Z h0 a "java/lang/String" "value" "[B" .null) (Fc : Fld Z h0 a "java/lang/String" "coder" "B" (.int (0 : Int32))) (Ea : Exa Z h0 a "java/lang/String") (ga : n0 ≤ a) (Va : Arv Z h0 ca k .char (1 : Int32) [.int x0] (.int (0 : Int32))) (nac : a ≠ ca) (S_CS : Sta Z Z.heap "java/lang/String" "COMPACT_STRINGS" "Z" (.int cs)) (hcs : ¬ cs = 0) (hb0 : ¬ (255 : Int32) < x0) :
    MetFree l (⟨"java/lang/String", "<init>", "([CIILjava/lang/Void;)V"⟩ : MethodName) (head1 (Jvm.Cond.code (⟨"java/lang/String", "<init>", "([CIILjava/lang/Void;)V"⟩ : MethodName) jdk_42_method_149_code 6 ((Option.none : Option FieldType)) :: ws) ({ frames := 2, cells := 1, slots := 1, locals := 35 } : Room)) (fun aa U => aa = #[(.ref a), (.ref ca), (.int (0 : Int32)), (.int (1 : Int32)), .null] ∧ Z.Warmed39 U.vm ∧ U.heap = h0) (fun _ _ _ _ _ => True) (fun _ U ou U' => ∃ v L, ou = .returned v ∧ Q3_1 Z a ca k cs x0 h0 n0 v U'.heap L ∧ FrameEnd U ou U' L ({ frames := 2, cells := 1, slots := 1, locals := 35 } : Room).cells ({ frames := 2, cells := 1, slots := 1, locals := 35 } : Room).slots) := by
  refine MetFree.of_bodySF (plainFor_of_name pn_java_lang_String) hisR ?_
  intro pg e s m args below meth c s₁ Bd hml0 hP hK
  obtain ⟨rfl, hZ, hh⟩ := hP
  have hx := Bd.exec
  have hby := Bd.bytes
  have hml : c.maxLocals = 6 := hml0
  have hown : s.vm.findClass "java/lang/String" = some m.cls := findClass_of_methodNamed Bd.named
  have hnm := (name_of_methodNamed Bd.named Bd.method).1
  have X0 : Stand pg l e ({ frames := 2, cells := 1, slots := 1, locals := 35 } : Room) s m #[(.ref a), (.ref ca), (.int (0 : Int32)), (.int (1 : Int32)), .null] below meth c s₁ [] 0 0 := Stand.of_body Bd
  have e0 : s₁.heap = h0 := by rw [← hh, Bd.state]; rfl
  have N0 := Fr.nil n0
  have K0 : Keep h0 h0 [a] := Keep.refl _ _
  show own_Go pg.tables e below (fun ou U' => ∃ v L, ou = .returned v ∧ Q3_1 Z a ca k cs x0 h0 n0 v U'.heap L ∧ FrameEnd s ou U' L ({ frames := 2, cells := 1, slots := 1, locals := 35 } : Room).cells ({ frames := 2, cells := 1, slots := 1, locals := 35 } : Room).slots) (s₁.setTop (entryFrame m #[(.ref a), (.ref ca), (.int (0 : Int32)), (.int (1 : Int32)), .null] 6))
  refine own_go (S' := s₁.setTop (mkF m 0 #[.val (.ref a), .val (.ref ca), .val (.int (0 : Int32)), .val (.int (1 : Int32)), .val .null, .unset] [])) (fun tg kk => castTop (ef3_1 m a ca (0 : Int32) (1 : Int32)) kk) ?_
  refine own_go (S' := s₁.setTop (mkF m 1 #[.val (.ref a), .val (.ref ca), .val (.int (0 : Int32)), .val (.int (1 : Int32)), .val .null, .unset] [(.ref a)])) (fun tg kk => XS.aloadN X0.here hx rfl (hb hby d3_0) rfl rfl kk) ?_
  obtain ⟨T1, X1, e1, st1⟩ := initO X0 hx hZ hown (hw _ (List.mem_of_getElem? (i := 15) rfl)) (hw _ (List.mem_of_getElem? (i := 16) rfl)) (hw _ (List.mem_of_getElem? (i := 17) rfl)) e0 (g := (mkF m 1 #[.val (.ref a), .val (.ref ca), .val (.int (0 : Int32)), .val (.int (1 : Int32)), .val .null, .unset] [(.ref a)])) rfl (by rw [hml]; rfl) rfl (hb hby d3_1) (by decide) (W := 0) (by show 2 * 0 + _ ≤ _; exact Nat.le_of_eq rfl) (by decide)
  refine own_go (S' := T1.setTop (mkF m 4 #[.val (.ref a), .val (.ref ca), .val (.int (0 : Int32)), .val (.int (1 : Int32)), .val .null, .unset] [])) (st1) ?_
  refine own_go (S' := T1.setTop (mkF m 5 #[.val (.ref a), .val (.ref ca), .val (.int (0 : Int32)), .val (.int (1 : Int32)), .val .null, .unset] [(.int (1 : Int32))])) (fun tg kk => XS.iloadN X1.here hx rfl (hb hby d3_4) rfl kk) ?_
  refine own_go (S' := T1.setTop (mkF m 27 #[.val (.ref a), .val (.ref ca), .val (.int (0 : Int32)), .val (.int (1 : Int32)), .val .null, .unset] [])) (fun tg kk => XS.ifYes X1.here hx rfl (pc0 := 5) (pc' := 27) rfl (hb hby d3_5) rfl (XT.i0_ne_t (by decide)) (by decide) (by decide) kk) ?_
  obtain ⟨T2, X2, e2, st2⟩ := getS (host := "") X1 hx hZ hown (hw _ (List.mem_of_getElem? (i := 118) rfl)) Via.refl e1 (S_CS.ext O0.2) (g := (mkF m 27 #[.val (.ref a), .val (.ref ca), .val (.int (0 : Int32)), .val (.int (1 : Int32)), .val .null, .unset] [])) rfl (hb hby d3_27)
  refine own_go (S' := T2.setTop (mkF m 30 #[.val (.ref a), .val (.ref ca), .val (.int (0 : Int32)), .val (.int (1 : Int32)), .val .null, .unset] [(.int cs)])) (st2) ?_
  refine own_go (S' := T2.setTop (mkF m 33 #[.val (.ref a), .val (.ref ca), .val (.int (0 : Int32)), .val (.int (1 : Int32)), .val .null, .unset] [])) (fun tg kk => XS.ifNo X2.here hx rfl (hb hby d3_30) rfl (XT.i0_eq_f hcs) kk) ?_
  refine own_go (S' := T2.setTop (mkF m 34 #[.val (.ref a), .val (.ref ca), .val (.int (0 : Int32)), .val (.int (1 : Int32)), .val .null, .unset] [(.ref ca)])) (fun tg kk => XS.aloadN X2.here hx rfl (hb hby d3_33) rfl rfl kk) ?_
  refine own_go (S' := T2.setTop (mkF m 35 #[.val (.ref a), .val (.ref ca), .val (.int (0 : Int32)), .val (.int (1 : Int32)), .val .null, .unset] [(.int (0 : Int32)), (.ref ca)])) (fun tg kk => XS.iloadN X2.here hx rfl (hb hby d3_34) rfl kk) ?_
  refine own_go (S' := T2.setTop (mkF m 36 #[.val (.ref a), .val (.ref ca), .val (.int (0 : Int32)), .val (.int (1 : Int32)), .val .null, .unset] [(.int (1 : Int32)), (.int (0 : Int32)), (.ref ca)])) (fun tg kk => XS.iloadN X2.here hx rfl (hb hby d3_35) rfl kk) ?_
  obtain ⟨v3, _, ⟨T3, L3, k3, n3⟩, -, X3, ⟨Lc3, hQ3, l3, y3, z3⟩, st3⟩ := Jvm.LawKit.callS X2 hx (y := (⟨"java/lang/StringUTF16", "compress", "([CII)[B"⟩ : MethodName)) hown (mvT hZ (hw _ (List.mem_of_getElem? (i := 119) rfl))) (mvT hZ (hw _ (List.mem_of_getElem? (i := 120) rfl))) (mvT hZ (hw _ (List.mem_of_getElem? (i := 121) rfl))) (mvT hZ (hw _ (List.mem_of_getElem? (i := 122) rfl))) (by decide) (backOf (W := 0) (rm21_1 l Z a0 hw [] ca k x0 h0 n0 Z0 Va hb0) hZ (hw _ (List.mem_of_getElem? (i := 122) rfl)) (hw _ (List.mem_of_getElem? (i := 121) rfl)) (by decide) (by decide)) (g := (mkF m 36 #[.val (.ref a), .val (.ref ca), .val (.int (0 : Int32)), .val (.int (1 : Int32)), .val .null, .unset] [(.int (1 : Int32)), (.int (0 : Int32)), (.ref ca)])) rfl (by rw [hml]; rfl) (argsL := [(.ref ca), (.int (0 : Int32)), (.int (1 : Int32))]) (rest := []) (lenOf pd___CII__B rfl) rfl (by show 2 * 0 + _ ≤ _; exact Nat.le_of_eq rfl) (hb hby d3_36) (fun _ _ => ⟨rfl, e2, (by decide : 0 + 1 ≤ _), (by decide : 0 + 1 ≤ _)⟩)
  dsimp only [Pt.U, Pt.locs, Pt.cells, Pt.slots] at X3 l3 y3 z3 st3 hQ3
  subst l3 y3 z3
  obtain ⟨ba3, cb3, rfl, M4, K3, Ab3, Sb3⟩ := hQ3
  have N4 := Fr.app N0 M4
  obtain ⟨h3, e3⟩ : ∃ z, T3.heap = z := ⟨_, rfl⟩
  rw [e3] at K3 Ab3
  have F5 := Fv.keep K3 nin0
  have F6 := Fc.keep K3 nin0
  have E7 : Exa Z h3 a "java/lang/String" := Ea.keep K3
  have A8 := Va.keep K3 nin0
  have O9 : Old Z n0 h3 := O0.keep K3 all0
  have Z10 : n0 ≤ h3.size := Nat.le_trans Z0 K3.1
  have K11 : Keep h0 h3 [a] := K0.trans K3 all0
  refine own_go (S' := T3.setTop (mkF m 39 #[.val (.ref a), .val (.ref ca), .val (.int (0 : Int32)), .val (.int (1 : Int32)), .val .null, .unset] [(.ref ba3)])) st3 ?_
  refine own_go (S' := T3.setTop (mkF m 41 #[.val (.ref a), .val (.ref ca), .val (.int (0 : Int32)), .val (.int (1 : Int32)), .val .null, .val (.ref ba3)] [])) (fun tg kk => XS.astore X3.here hx rfl (hb hby d3_39) rfl rfl (l' := #[.val (.ref a), .val (.ref ca), .val (.int (0 : Int32)), .val (.int (1 : Int32)), .val .null, .val (.ref ba3)]) rfl kk) ?_
  refine own_go (S' := T3.setTop (mkF m 42 #[.val (.ref a), .val (.ref ca), .val (.int (0 : Int32)), .val (.int (1 : Int32)), .val .null, .val (.ref ba3)] [(.ref a)])) (fun tg kk => XS.aloadN X3.here hx rfl (hb hby d3_41) rfl rfl kk) ?_
  refine own_go (S' := T3.setTop (mkF m 44 #[.val (.ref a), .val (.ref ca), .val (.int (0 : Int32)), .val (.int (1 : Int32)), .val .null, .val (.ref ba3)] [(.ref ba3), (.ref a)])) (fun tg kk => XS.aload X3.here hx rfl (hb hby d3_42) rfl rfl kk) ?_
  refine own_go (S' := T3.setTop (mkF m 45 #[.val (.ref a), .val (.ref ca), .val (.int (0 : Int32)), .val (.int (1 : Int32)), .val .null, .val (.ref ba3)] [(.int (1 : Int32)), (.ref ba3), (.ref a)])) (fun tg kk => XS.iloadN X3.here hx rfl (hb hby d3_44) rfl kk) ?_
  obtain ⟨v12, _, ⟨T12, L12, k12, n12⟩, -, X12, ⟨Lc12, hQ12, l12, y12, z12⟩, st12⟩ := Jvm.LawKit.callS X3 hx (y := (⟨"java/lang/StringUTF16", "coderFromArrayLen", "([BI)B"⟩ : MethodName)) hown (mvT hZ (hw _ (List.mem_of_getElem? (i := 126) rfl))) (mvT hZ (hw _ (List.mem_of_getElem? (i := 127) rfl))) (mvT hZ (hw _ (List.mem_of_getElem? (i := 121) rfl))) (mvT hZ (hw _ (List.mem_of_getElem? (i := 128) rfl))) (by decide) (backOf (W := 1) (rm23_1 l Z a0 hw [] ba3 cb3 h3 n0 Z10 Ab3 Sb3) hZ (hw _ (List.mem_of_getElem? (i := 128) rfl)) (hw _ (List.mem_of_getElem? (i := 121) rfl)) (by decide) (by decide)) (g := (mkF m 45 #[.val (.ref a), .val (.ref ca), .val (.int (0 : Int32)), .val (.int (1 : Int32)), .val .null, .val (.ref ba3)] [(.int (1 : Int32)), (.ref ba3), (.ref a)])) rfl (by rw [hml]; rfl) (argsL := [(.ref ba3), (.int (1 : Int32))]) (rest := [(.ref a)]) (lenOf pd___BI_B rfl) rfl (by show 2 * 0 + _ ≤ _; exact Nat.le_of_eq rfl) (hb hby d3_45) (fun _ _ => ⟨rfl, e3, (by decide : 1 + 0 ≤ _), (by decide : 1 + 0 ≤ _)⟩)
  dsimp only [Pt.U, Pt.locs, Pt.cells, Pt.slots] at X12 l12 y12 z12 st12 hQ12
  subst l12 y12 z12
  obtain ⟨rfl, M13, e12⟩ := hQ12
  have N13 := Fr.app N4 M13
  refine own_go (S' := T12.setTop (mkF m 48 #[.val (.ref a), .val (.ref ca), .val (.int (0 : Int32)), .val (.int (1 : Int32)), .val .null, .val (.ref ba3)] [(.int (0 : Int32)), (.ref a)])) st12 ?_
  obtain ⟨T14, h14, X14, e14, W14, st14⟩ := putF X12 hx hZ hown (host := "") (Or.inl (hw _ (List.mem_of_getElem? (i := 25) rfl))) Via.refl e12 F6 E7 (Or.inr ⟨(hw _ (List.mem_of_getElem? (i := 21) rfl)), rfl, hnm⟩) (hw _ (List.mem_of_getElem? (i := 5) rfl)) (ty := .byte) (by decide) rfl rfl (g := (mkF m 48 #[.val (.ref a), .val (.ref ca), .val (.int (0 : Int32)), .val (.int (1 : Int32)), .val .null, .val (.ref ba3)] [(.int (0 : Int32)), (.ref a)])) rfl rfl (hb hby d3_48)
  refine own_go (S' := T14.setTop (mkF m 51 #[.val (.ref a), .val (.ref ca), .val (.int (0 : Int32)), .val (.int (1 : Int32)), .val .null, .val (.ref ba3)] [])) (st14) ?_
  have N14 := Fr.snoc X14 N13 ga
  have F15 := F5.other W14 (Or.inr (slot_ne (Or.inr (hw _ (List.mem_of_getElem? (i := 20) rfl))) (Or.inr (hw _ (List.mem_of_getElem? (i := 21) rfl))) (by decide) (t := .array .byte) (t' := .byte) (by decide) (by decide)))
  have F16 := F6.same W14
  have E17 : Exa Z h14 a "java/lang/String" := E7.wr W14
  have A18 := A8.other W14 (Ne.symm nac)
  have O19 : Old Z n0 h14 := O9.wr W14 ga
  have Z20 : n0 ≤ h14.size := by rw [W14.size]; exact Z10
  have K21 : Keep h0 h14 [a] := K11.wr W14 (Or.inl (List.mem_of_getElem? (i := 0) rfl))
  refine own_go (S' := T14.setTop (mkF m 52 #[.val (.ref a), .val (.ref ca), .val (.int (0 : Int32)), .val (.int (1 : Int32)), .val .null, .val (.ref ba3)] [(.ref a)])) (fun tg kk => XS.aloadN X14.here hx rfl (hb hby d3_51) rfl rfl kk) ?_
  refine own_go (S' := T14.setTop (mkF m 54 #[.val (.ref a), .val (.ref ca), .val (.int (0 : Int32)), .val (.int (1 : Int32)), .val .null, .val (.ref ba3)] [(.ref ba3), (.ref a)])) (fun tg kk => XS.aload X14.here hx rfl (hb hby d3_52) rfl rfl kk) ?_
  obtain ⟨T22, h22, X22, e22, W22, st22⟩ := putF X14 hx hZ hown (host := "") (Or.inl (hw _ (List.mem_of_getElem? (i := 24) rfl))) Via.refl e14 F15 E17 (Or.inr ⟨(hw _ (List.mem_of_getElem? (i := 20) rfl)), rfl, hnm⟩) (hw _ (List.mem_of_getElem? (i := 5) rfl)) (ty := .array .byte) (by decide) rfl rfl (g := (mkF m 54 #[.val (.ref a), .val (.ref ca), .val (.int (0 : Int32)), .val (.int (1 : Int32)), .val .null, .val (.ref ba3)] [(.ref ba3), (.ref a)])) rfl rfl (hb hby d3_54)
  refine own_go (S' := T22.setTop (mkF m 57 #[.val (.ref a), .val (.ref ca), .val (.int (0 : Int32)), .val (.int (1 : Int32)), .val .null, .val (.ref ba3)] [])) (st22) ?_
  have N22 := Fr.snoc X22 N14 ga
  have F23 := F15.same W22
  have F24 := F16.other W22 (Or.inr (slot_ne (Or.inr (hw _ (List.mem_of_getElem? (i := 21) rfl))) (Or.inr (hw _ (List.mem_of_getElem? (i := 20) rfl))) (by decide) (t := .byte) (t' := .array .byte) (by decide) (by decide)))
  have E25 : Exa Z h22 a "java/lang/String" := E17.wr W22
  have A26 := A18.other W22 (Ne.symm nac)
  have O27 : Old Z n0 h22 := O19.wr W22 ga
  have Z28 : n0 ≤ h22.size := by rw [W22.size]; exact Z20
  have K29 : Keep h0 h22 [a] := K21.wr W22 (Or.inl (List.mem_of_getElem? (i := 0) rfl))
  obtain ⟨fs, hr, hrun, hended, hW, hsame⟩ := X22.leave (v := none) (fun _ => rfl)
  refine ⟨_, _, X22.returnOut hx Bd.returns (hb hby d3_57) hr, hrun, hended, _, _, rfl, ?_, ⟨_, rfl⟩, hW, hsame.mono (by decide) (by decide)⟩
  show Q3_1 Z a ca k cs x0 h0 n0 none T22.heap _
  rw [e22]
  exact ⟨rfl, N22, K29⟩
theorem d2_0 : decode jdk_42_method_3_code 0 = .ok (.aload_n 0, 1) := by decide +kernel
theorem d2_1 : decode jdk_42_method_3_code 1 = .ok (.aload_n 1, 1) := by decide +kernel
theorem d2_2 : decode jdk_42_method_3_code 2 = .ok (.iconst 0, 1) := by decide +kernel
theorem d2_3 : decode jdk_42_method_3_code 3 = .ok (.aload_n 1, 1) := by decide +kernel
theorem d2_4 : decode jdk_42_method_3_code 4 = .ok (.arraylength, 1) := by decide +kernel
theorem d2_5 : decode jdk_42_method_3_code 5 = .ok (.aconst_null, 1) := by decide +kernel
theorem pd___CIILjava_lang_Void__V : parseMethodDescriptor "([CIILjava/lang/Void;)V" = some ⟨[.array .char, .int, .int, .object "java/lang/Void"], none⟩ := by decide +kernel
theorem d2_6 : decode jdk_42_method_3_code 6 = .ok (.invokespecial 27, 3) := by decide +kernel
theorem d2_9 : decode jdk_42_method_3_code 9 = .ok (.return_, 1) := by decide +kernel
theorem ef2_1 (m : MethodId) (x0 : Addr) (x1 : Addr) : entryFrame m #[(.ref x0), (.ref x1)] 2 = mkF m 0 #[.val (.ref x0), .val (.ref x1)] [] := by first | (simp [entryFrame, mkF, argsToLocals, Value.category]; done) | rfl
def Q2_1 (Z : State) (a : Addr) (ca : Addr) (k : ClassId) (cs : Int32) (x0 : Int32) (h0 : Heap) (n0 : Nat) (v : Option Value) (h : Heap) (L : List Loc) : Prop := v = none ∧ Fr n0 L ∧ Keep h0 h [a]
set_option maxRecDepth 65536 in
set_option maxHeartbeats 40000000 in
theorem rm2_1 (l : Launch) (Z : State) (a0 : Array Value) (hw : ∀ d ∈ tables_1, d.before a0 Z = true) (ws : List Jvm.Cond) (a : Addr) (ca : Addr) (k : ClassId) (cs : Int32) (x0 : Int32) (h0 : Heap) (n0 : Nat) (Z0 : n0 ≤ h0.size) (O0 : Old Z n0 h0) (Fv : Fld Z h0 a "java/lang/String" "value" "[B" .null) (Fc : Fld Z h0 a "java/lang/String" "coder" "B" (.int (0 : Int32))) (Ea : Exa Z h0 a "java/lang/String") (ga : n0 ≤ a) (Va : Arv Z h0 ca k .char (1 : Int32) [.int x0] (.int (0 : Int32))) (nac : a ≠ ca) (S_CS : Sta Z Z.heap "java/lang/String" "COMPACT_STRINGS" "Z" (.int cs)) (hcs : ¬ cs = 0) (hb0 : ¬ (255 : Int32) < x0) :
    MetFree l (⟨"java/lang/String", "<init>", "([C)V"⟩ : MethodName) (head1 (Jvm.Cond.code (⟨"java/lang/String", "<init>", "([C)V"⟩ : MethodName) jdk_42_method_3_code 2 ((Option.none : Option FieldType)) :: ws) ({ frames := 3, cells := 1, slots := 1, locals := 52 } : Room)) (fun aa U => aa = #[(.ref a), (.ref ca)] ∧ Z.Warmed39 U.vm ∧ U.heap = h0) (fun _ _ _ _ _ => True) (fun _ U ou U' => ∃ v L, ou = .returned v ∧ Q2_1 Z a ca k cs x0 h0 n0 v U'.heap L ∧ FrameEnd U ou U' L ({ frames := 3, cells := 1, slots := 1, locals := 52 } : Room).cells ({ frames := 3, cells := 1, slots := 1, locals := 52 } : Room).slots) := by
  refine MetFree.of_bodySF (plainFor_of_name pn_java_lang_String) hisR ?_
  intro pg e s m args below meth c s₁ Bd hml0 hP hK
  obtain ⟨rfl, hZ, hh⟩ := hP
  have hx := Bd.exec
  have hby := Bd.bytes
  have hml : c.maxLocals = 2 := hml0
  have hown : s.vm.findClass "java/lang/String" = some m.cls := findClass_of_methodNamed Bd.named
  have hnm := (name_of_methodNamed Bd.named Bd.method).1
  have X0 : Stand pg l e ({ frames := 3, cells := 1, slots := 1, locals := 52 } : Room) s m #[(.ref a), (.ref ca)] below meth c s₁ [] 0 0 := Stand.of_body Bd
  have e0 : s₁.heap = h0 := by rw [← hh, Bd.state]; rfl
  have N0 := Fr.nil n0
  have K0 : Keep h0 h0 [a] := Keep.refl _ _
  show own_Go pg.tables e below (fun ou U' => ∃ v L, ou = .returned v ∧ Q2_1 Z a ca k cs x0 h0 n0 v U'.heap L ∧ FrameEnd s ou U' L ({ frames := 3, cells := 1, slots := 1, locals := 52 } : Room).cells ({ frames := 3, cells := 1, slots := 1, locals := 52 } : Room).slots) (s₁.setTop (entryFrame m #[(.ref a), (.ref ca)] 2))
  refine own_go (S' := s₁.setTop (mkF m 0 #[.val (.ref a), .val (.ref ca)] [])) (fun tg kk => castTop (ef2_1 m a ca) kk) ?_
  refine own_go (S' := s₁.setTop (mkF m 1 #[.val (.ref a), .val (.ref ca)] [(.ref a)])) (fun tg kk => XS.aloadN X0.here hx rfl (hb hby d2_0) rfl rfl kk) ?_
  refine own_go (S' := s₁.setTop (mkF m 2 #[.val (.ref a), .val (.ref ca)] [(.ref ca), (.ref a)])) (fun tg kk => XS.aloadN X0.here hx rfl (hb hby d2_1) rfl rfl kk) ?_
  refine own_go (S' := s₁.setTop (mkF m 3 #[.val (.ref a), .val (.ref ca)] [(.int (0 : Int32)), (.ref ca), (.ref a)])) (fun tg kk => XT.iconstV X0.here hx rfl (0 : Int32) (hb hby d2_2) (by decide) kk) ?_
  refine own_go (S' := s₁.setTop (mkF m 4 #[.val (.ref a), .val (.ref ca)] [(.ref ca), (.int (0 : Int32)), (.ref ca), (.ref a)])) (fun tg kk => XS.aloadN X0.here hx rfl (hb hby d2_3) rfl rfl kk) ?_
  obtain ⟨cl1, Ar1, q1_1, S1, q3_1, H1, G1⟩ := id Va
  refine own_go (S' := s₁.setTop (mkF m 5 #[.val (.ref a), .val (.ref ca)] [(.int (1 : Int32)), (.int (0 : Int32)), (.ref ca), (.ref a)])) (fun tg kk => X0.arraylength hx (cell := cl1) (by rw [e0]; exact Ar1.1) (State.isArrayOf_alike hZ.alike Ar1.2.1) (g := (mkF m 4 #[.val (.ref a), .val (.ref ca)] [(.ref ca), (.int (0 : Int32)), (.ref ca), (.ref a)])) rfl rfl (hb hby d2_4) tg (by rw [len_of S1 q3_1]; exact kk)) ?_
  refine own_go (S' := s₁.setTop (mkF m 6 #[.val (.ref a), .val (.ref ca)] [.null, (.int (1 : Int32)), (.int (0 : Int32)), (.ref ca), (.ref a)])) (fun tg kk => XS.aconstNull X0.here hx rfl (hb hby d2_5) kk) ?_
  obtain ⟨v2, _, ⟨T2, L2, k2, n2⟩, -, X2, ⟨Lc2, hQ2, l2, y2, z2⟩, st2⟩ := X0.specialBack hx (y := (⟨"java/lang/String", "<init>", "([CIILjava/lang/Void;)V"⟩ : MethodName)) rfl hown (mvT hZ (hw _ (List.mem_of_getElem? (i := 11) rfl))) (mvT hZ (hw _ (List.mem_of_getElem? (i := 12) rfl))) (mvT hZ (hw _ (List.mem_of_getElem? (i := 14) rfl))) (by decide) (backOf (W := 0) (rm3_1 l Z a0 hw [] a ca k cs x0 h0 n0 Z0 O0 Fv Fc Ea ga Va nac S_CS hcs hb0) hZ (hw _ (List.mem_of_getElem? (i := 14) rfl)) (hw _ (List.mem_of_getElem? (i := 6) rfl)) (by decide) (by decide)) (g := (mkF m 6 #[.val (.ref a), .val (.ref ca)] [.null, (.int (1 : Int32)), (.int (0 : Int32)), (.ref ca), (.ref a)])) rfl (by rw [hml]; rfl) (Steps.refl _) (a := a) (argsL := [(.ref ca), (.int (0 : Int32)), (.int (1 : Int32)), .null]) (rest := []) (lenOf pd___CIILjava_lang_Void__V rfl) rfl (by show 2 * 0 + _ ≤ _; exact Nat.le_of_eq rfl) (hb hby d2_6) (fun _ _ => ⟨rfl, e0, (by decide : 0 + 1 ≤ _), (by decide : 0 + 1 ≤ _)⟩)
  dsimp only [Pt.U, Pt.locs, Pt.cells, Pt.slots] at X2 l2 y2 z2 st2 hQ2
  subst l2 y2 z2
  obtain ⟨rfl, M3, K2⟩ := hQ2
  have N3 := Fr.app N0 M3
  obtain ⟨h2, e2⟩ : ∃ z, T2.heap = z := ⟨_, rfl⟩
  rw [e2] at K2 
  have E4 : Exa Z h2 a "java/lang/String" := Ea.keep K2
  have A5 := Va.keep K2 (ninS (Ne.symm nac) nin0)
  have O6 : Old Z n0 h2 := O0.keep K2 (allS ga all0)
  have Z7 : n0 ≤ h2.size := Nat.le_trans Z0 K2.1
  have K8 : Keep h0 h2 [a] := K0.trans K2 (allS (Or.inl (List.mem_of_getElem? (i := 0) rfl)) all0)
  refine own_to (S' := T2.setTop (mkF m 9 #[.val (.ref a), .val (.ref ca)] [])) st2 ?_
  obtain ⟨fs, hr, hrun, hended, hW, hsame⟩ := X2.leave (v := none) (fun _ => rfl)
  refine ⟨_, _, X2.returnOut hx Bd.returns (hb hby d2_9) hr, hrun, hended, _, _, rfl, ?_, ⟨_, rfl⟩, hW, hsame.mono (by decide) (by decide)⟩
  show Q2_1 Z a ca k cs x0 h0 n0 none T2.heap _
  rw [e2]
  exact ⟨rfl, N3, K8⟩
theorem ef22_2 (m : MethodId) (x0 : Addr) (x1 : Int32) (x2 : Addr) (x3 : Int32) (x4 : Int32) : entryFrame m #[(.ref x0), (.int x1), (.ref x2), (.int x3), (.int x4)] 7 = mkF m 0 #[.val (.ref x0), .val (.int x1), .val (.ref x2), .val (.int x3), .val (.int x4), .unset, .unset] [] := by first | (simp [entryFrame, mkF, argsToLocals, Value.category]; done) | rfl
def Q22_2 (Z : State) (ca : Addr) (k : ClassId) (ba : Addr) (kb : ClassId) (x0 : Int32) (x1 : Int32) (h0 : Heap) (n0 : Nat) (v : Option Value) (h : Heap) (L : List Loc) : Prop := v = some (.int (2 : Int32)) ∧ Fr n0 L ∧ Keep h0 h [ba]
set_option maxRecDepth 65536 in
set_option maxHeartbeats 40000000 in
theorem rm22_2 (l : Launch) (Z : State) (a0 : Array Value) (hw : ∀ d ∈ tables_1, d.before a0 Z = true) (ws : List Jvm.Cond) (ca : Addr) (k : ClassId) (ba : Addr) (kb : ClassId) (x0 : Int32) (x1 : Int32) (h0 : Heap) (n0 : Nat) (Z0 : n0 ≤ h0.size) (Va : Arv Z h0 ca k .char (2 : Int32) [.int x0, .int x1] (.int (0 : Int32))) (Vb : Arv Z h0 ba kb .byte (2 : Int32) [.int (0 : Int32), .int (0 : Int32)] (.int (0 : Int32))) (gb : n0 ≤ ba) (ncb : ca ≠ ba) (hb0 : ¬ (255 : Int32) < x0) (hb1 : ¬ (255 : Int32) < x1) :
    MetFree l (⟨"java/lang/StringUTF16", "compress", "([CI[BII)I"⟩ : MethodName) (head1 (Jvm.Cond.code (⟨"java/lang/StringUTF16", "compress", "([CI[BII)I"⟩ : MethodName) jdk_52_method_21_code 7 ((Option.some FieldType.int)) :: ws) ({ frames := 0, cells := 0, slots := 0, locals := 0 } : Room)) (fun aa U => aa = #[(.ref ca), (.int (0 : Int32)), (.ref ba), (.int (0 : Int32)), (.int (2 : Int32))] ∧ Z.Warmed39 U.vm ∧ U.heap = h0) (fun _ _ _ _ _ => True) (fun _ U ou U' => ∃ v L, ou = .returned v ∧ Q22_2 Z ca k ba kb x0 x1 h0 n0 v U'.heap L ∧ FrameEnd U ou U' L ({ frames := 0, cells := 0, slots := 0, locals := 0 } : Room).cells ({ frames := 0, cells := 0, slots := 0, locals := 0 } : Room).slots) := by
  refine MetFree.of_bodySF (plainFor_of_name pn_java_lang_StringUTF16) hisR ?_
  intro pg e s m args below meth c s₁ Bd hml0 hP hK
  obtain ⟨rfl, hZ, hh⟩ := hP
  have hx := Bd.exec
  have hby := Bd.bytes
  have hml : c.maxLocals = 7 := hml0
  have hown : s.vm.findClass "java/lang/StringUTF16" = some m.cls := findClass_of_methodNamed Bd.named
  have hnm := (name_of_methodNamed Bd.named Bd.method).1
  have X0 : Stand pg l e ({ frames := 0, cells := 0, slots := 0, locals := 0 } : Room) s m #[(.ref ca), (.int (0 : Int32)), (.ref ba), (.int (0 : Int32)), (.int (2 : Int32))] below meth c s₁ [] 0 0 := Stand.of_body Bd
  have e0 : s₁.heap = h0 := by rw [← hh, Bd.state]; rfl
  have N0 := Fr.nil n0
  have K0 : Keep h0 h0 [ba] := Keep.refl _ _
  show own_Go pg.tables e below (fun ou U' => ∃ v L, ou = .returned v ∧ Q22_2 Z ca k ba kb x0 x1 h0 n0 v U'.heap L ∧ FrameEnd s ou U' L ({ frames := 0, cells := 0, slots := 0, locals := 0 } : Room).cells ({ frames := 0, cells := 0, slots := 0, locals := 0 } : Room).slots) (s₁.setTop (entryFrame m #[(.ref ca), (.int (0 : Int32)), (.ref ba), (.int (0 : Int32)), (.int (2 : Int32))] 7))
  refine own_go (S' := s₁.setTop (mkF m 0 #[.val (.ref ca), .val (.int (0 : Int32)), .val (.ref ba), .val (.int (0 : Int32)), .val (.int (2 : Int32)), .unset, .unset] [])) (fun tg kk => castTop (ef22_2 m ca (0 : Int32) ba (0 : Int32) (2 : Int32)) kk) ?_
  refine own_go (S' := s₁.setTop (mkF m 1 #[.val (.ref ca), .val (.int (0 : Int32)), .val (.ref ba), .val (.int (0 : Int32)), .val (.int (2 : Int32)), .unset, .unset] [(.int (0 : Int32))])) (fun tg kk => XT.iconstV X0.here hx rfl (0 : Int32) (hb hby d22_0) (by decide) kk) ?_
  refine own_go (S' := s₁.setTop (mkF m 3 #[.val (.ref ca), .val (.int (0 : Int32)), .val (.ref ba), .val (.int (0 : Int32)), .val (.int (2 : Int32)), .val (.int (0 : Int32)), .unset] [])) (fun tg kk => XS.istore X0.here hx rfl (hb hby d22_1) rfl (l' := #[.val (.ref ca), .val (.int (0 : Int32)), .val (.ref ba), .val (.int (0 : Int32)), .val (.int (2 : Int32)), .val (.int (0 : Int32)), .unset]) rfl kk) ?_
  refine own_go (S' := s₁.setTop (mkF m 5 #[.val (.ref ca), .val (.int (0 : Int32)), .val (.ref ba), .val (.int (0 : Int32)), .val (.int (2 : Int32)), .val (.int (0 : Int32)), .unset] [(.int (0 : Int32))])) (fun tg kk => XS.iload X0.here hx rfl (hb hby d22_3) rfl kk) ?_
  refine own_go (S' := s₁.setTop (mkF m 7 #[.val (.ref ca), .val (.int (0 : Int32)), .val (.ref ba), .val (.int (0 : Int32)), .val (.int (2 : Int32)), .val (.int (0 : Int32)), .unset] [(.int (2 : Int32)), (.int (0 : Int32))])) (fun tg kk => XS.iload X0.here hx rfl (hb hby d22_5) rfl kk) ?_
  refine own_go (S' := s₁.setTop (mkF m 10 #[.val (.ref ca), .val (.int (0 : Int32)), .val (.ref ba), .val (.int (0 : Int32)), .val (.int (2 : Int32)), .val (.int (0 : Int32)), .unset] [])) (fun tg kk => XS.icmpNo X0.here hx rfl (hb hby d22_7) rfl (XT.ii_ge_f (by decide)) kk) ?_
  refine own_go (S' := s₁.setTop (mkF m 11 #[.val (.ref ca), .val (.int (0 : Int32)), .val (.ref ba), .val (.int (0 : Int32)), .val (.int (2 : Int32)), .val (.int (0 : Int32)), .unset] [(.ref ca)])) (fun tg kk => XS.aloadN X0.here hx rfl (hb hby d22_10) rfl rfl kk) ?_
  refine own_go (S' := s₁.setTop (mkF m 12 #[.val (.ref ca), .val (.int (0 : Int32)), .val (.ref ba), .val (.int (0 : Int32)), .val (.int (2 : Int32)), .val (.int (0 : Int32)), .unset] [(.int (0 : Int32)), (.ref ca)])) (fun tg kk => XS.iloadN X0.here hx rfl (hb hby d22_11) rfl kk) ?_
  obtain ⟨cl1, Ar1, q1_1, S1, q3_1, H1, G1⟩ := id Va
  have hj1 := inb_of (j := (0 : Int32)) S1 ⟨by decide, by decide⟩
  have hv1 : cl1.slots[((0 : Int32)).toNatClampNeg]? = some (.int x0) := Has.at H1 hj1 (by rfl)
  refine own_go (S' := s₁.setTop (mkF m 13 #[.val (.ref ca), .val (.int (0 : Int32)), .val (.ref ba), .val (.int (0 : Int32)), .val (.int (2 : Int32)), .val (.int (0 : Int32)), .unset] [(.int x0)])) (fun tg kk => X0.caload hx (by rw [e0]; exact Ar1.1) (State.isArrayOf_alike hZ.alike Ar1.2.1) Ar1.2.2 hj1 hv1 (g := (mkF m 12 #[.val (.ref ca), .val (.int (0 : Int32)), .val (.ref ba), .val (.int (0 : Int32)), .val (.int (2 : Int32)), .val (.int (0 : Int32)), .unset] [(.int (0 : Int32)), (.ref ca)])) rfl rfl (hb hby d22_12) tg kk) ?_
  refine own_go (S' := s₁.setTop (mkF m 15 #[.val (.ref ca), .val (.int (0 : Int32)), .val (.ref ba), .val (.int (0 : Int32)), .val (.int (2 : Int32)), .val (.int (0 : Int32)), .val (.int x0)] [])) (fun tg kk => XS.istore X0.here hx rfl (hb hby d22_13) rfl (l' := #[.val (.ref ca), .val (.int (0 : Int32)), .val (.ref ba), .val (.int (0 : Int32)), .val (.int (2 : Int32)), .val (.int (0 : Int32)), .val (.int x0)]) rfl kk) ?_
  refine own_go (S' := s₁.setTop (mkF m 17 #[.val (.ref ca), .val (.int (0 : Int32)), .val (.ref ba), .val (.int (0 : Int32)), .val (.int (2 : Int32)), .val (.int (0 : Int32)), .val (.int x0)] [(.int x0)])) (fun tg kk => XS.iload X0.here hx rfl (hb hby d22_15) rfl kk) ?_
  refine own_go (S' := s₁.setTop (mkF m 20 #[.val (.ref ca), .val (.int (0 : Int32)), .val (.ref ba), .val (.int (0 : Int32)), .val (.int (2 : Int32)), .val (.int (0 : Int32)), .val (.int x0)] [(.int (255 : Int32)), (.int x0)])) (fun tg kk => XT.sipushV X0.here hx rfl (255 : Int32) (hb hby d22_17) (by decide) kk) ?_
  refine own_go (S' := s₁.setTop (mkF m 26 #[.val (.ref ca), .val (.int (0 : Int32)), .val (.ref ba), .val (.int (0 : Int32)), .val (.int (2 : Int32)), .val (.int (0 : Int32)), .val (.int x0)] [])) (fun tg kk => XS.icmpYes X0.here hx rfl (pc0 := 20) (pc' := 26) rfl (hb hby d22_20) rfl (XT.ii_le_t hb0) (by decide) (by decide) kk) ?_
  refine own_go (S' := s₁.setTop (mkF m 27 #[.val (.ref ca), .val (.int (0 : Int32)), .val (.ref ba), .val (.int (0 : Int32)), .val (.int (2 : Int32)), .val (.int (0 : Int32)), .val (.int x0)] [(.ref ba)])) (fun tg kk => XS.aloadN X0.here hx rfl (hb hby d22_26) rfl rfl kk) ?_
  refine own_go (S' := s₁.setTop (mkF m 28 #[.val (.ref ca), .val (.int (0 : Int32)), .val (.ref ba), .val (.int (0 : Int32)), .val (.int (2 : Int32)), .val (.int (0 : Int32)), .val (.int x0)] [(.int (0 : Int32)), (.ref ba)])) (fun tg kk => XS.iloadN X0.here hx rfl (hb hby d22_27) rfl kk) ?_
  refine own_go (S' := s₁.setTop (mkF m 30 #[.val (.ref ca), .val (.int (0 : Int32)), .val (.ref ba), .val (.int (0 : Int32)), .val (.int (2 : Int32)), .val (.int (0 : Int32)), .val (.int x0)] [(.int x0), (.int (0 : Int32)), (.ref ba)])) (fun tg kk => XS.iload X0.here hx rfl (hb hby d22_28) rfl kk) ?_
  refine own_go (S' := s₁.setTop (mkF m 31 #[.val (.ref ca), .val (.int (0 : Int32)), .val (.ref ba), .val (.int (0 : Int32)), .val (.int (2 : Int32)), .val (.int (0 : Int32)), .val (.int x0)] [(.int x0.toInt8.toInt32), (.int (0 : Int32)), (.ref ba)])) (fun tg kk => XT.i2b X0.here hx rfl (hb hby d22_30) rfl kk) ?_
  obtain ⟨cl2, Ar2, q1_2, S2, q3_2, H2, G2⟩ := id Vb
  have hj2 := inb_of (j := (0 : Int32)) S2 ⟨by decide, by decide⟩
  obtain ⟨T2, h2, X2, e2, W2, st2⟩ := stB X0 hx hZ e0 Ar2 hj2 (g := (mkF m 31 #[.val (.ref ca), .val (.int (0 : Int32)), .val (.ref ba), .val (.int (0 : Int32)), .val (.int (2 : Int32)), .val (.int (0 : Int32)), .val (.int x0)] [(.int x0.toInt8.toInt32), (.int (0 : Int32)), (.ref ba)])) rfl rfl (hb hby d22_31)
  refine own_go (S' := T2.setTop (mkF m 32 #[.val (.ref ca), .val (.int (0 : Int32)), .val (.ref ba), .val (.int (0 : Int32)), .val (.int (2 : Int32)), .val (.int (0 : Int32)), .val (.int x0)] [])) (st2) ?_
  have N2 := Fr.snoc X2 N0 gb
  have A3 := Va.other W2 ncb
  have Z5 : n0 ≤ h2.size := by rw [W2.size]; exact Z0
  have K6 : Keep h0 h2 [ba] := K0.wr W2 (Or.inl (List.mem_of_getElem? (i := 0) rfl))
  have V2 : Arv Z h2 ba kb .byte (2 : Int32) [(.int (nar .byte x0.toInt8.toInt32)), (.int (0 : Int32))] (.int (0 : Int32)) := Arv.set Ar2 q1_2 S2 q3_2 H2 G2 (fits_nar_byte x0.toInt8.toInt32) W2 0 (by decide) (by show 0 < 2; decide)
  refine own_go (S' := T2.setTop (mkF m 35 #[.val (.ref ca), .val (.int (1 : Int32)), .val (.ref ba), .val (.int (0 : Int32)), .val (.int (2 : Int32)), .val (.int (0 : Int32)), .val (.int x0)] [])) (fun tg kk => XT.iincV X2.here hx rfl (1 : Int32) (hb hby d22_32) (by decide) rfl (l' := #[.val (.ref ca), .val (.int (1 : Int32)), .val (.ref ba), .val (.int (0 : Int32)), .val (.int (2 : Int32)), .val (.int (0 : Int32)), .val (.int x0)]) rfl kk) ?_
  refine own_go (S' := T2.setTop (mkF m 38 #[.val (.ref ca), .val (.int (1 : Int32)), .val (.ref ba), .val (.int (1 : Int32)), .val (.int (2 : Int32)), .val (.int (0 : Int32)), .val (.int x0)] [])) (fun tg kk => XT.iincV X2.here hx rfl (1 : Int32) (hb hby d22_35) (by decide) rfl (l' := #[.val (.ref ca), .val (.int (1 : Int32)), .val (.ref ba), .val (.int (1 : Int32)), .val (.int (2 : Int32)), .val (.int (0 : Int32)), .val (.int x0)]) rfl kk) ?_
  refine own_go (S' := T2.setTop (mkF m 41 #[.val (.ref ca), .val (.int (1 : Int32)), .val (.ref ba), .val (.int (1 : Int32)), .val (.int (2 : Int32)), .val (.int (1 : Int32)), .val (.int x0)] [])) (fun tg kk => XT.iincV X2.here hx rfl (1 : Int32) (hb hby d22_38) (by decide) rfl (l' := #[.val (.ref ca), .val (.int (1 : Int32)), .val (.ref ba), .val (.int (1 : Int32)), .val (.int (2 : Int32)), .val (.int (1 : Int32)), .val (.int x0)]) rfl kk) ?_
  refine own_go (S' := T2.setTop (mkF m 3 #[.val (.ref ca), .val (.int (1 : Int32)), .val (.ref ba), .val (.int (1 : Int32)), .val (.int (2 : Int32)), .val (.int (1 : Int32)), .val (.int x0)] [])) (fun tg kk => XS.goto X2.here hx rfl (pc0 := 41) (pc' := 3) rfl (hb hby d22_41) (by decide) (by decide) kk) ?_
  refine own_go (S' := T2.setTop (mkF m 5 #[.val (.ref ca), .val (.int (1 : Int32)), .val (.ref ba), .val (.int (1 : Int32)), .val (.int (2 : Int32)), .val (.int (1 : Int32)), .val (.int x0)] [(.int (1 : Int32))])) (fun tg kk => XS.iload X2.here hx rfl (hb hby d22_3) rfl kk) ?_
  refine own_go (S' := T2.setTop (mkF m 7 #[.val (.ref ca), .val (.int (1 : Int32)), .val (.ref ba), .val (.int (1 : Int32)), .val (.int (2 : Int32)), .val (.int (1 : Int32)), .val (.int x0)] [(.int (2 : Int32)), (.int (1 : Int32))])) (fun tg kk => XS.iload X2.here hx rfl (hb hby d22_5) rfl kk) ?_
  refine own_go (S' := T2.setTop (mkF m 10 #[.val (.ref ca), .val (.int (1 : Int32)), .val (.ref ba), .val (.int (1 : Int32)), .val (.int (2 : Int32)), .val (.int (1 : Int32)), .val (.int x0)] [])) (fun tg kk => XS.icmpNo X2.here hx rfl (hb hby d22_7) rfl (XT.ii_ge_f (by decide)) kk) ?_
  refine own_go (S' := T2.setTop (mkF m 11 #[.val (.ref ca), .val (.int (1 : Int32)), .val (.ref ba), .val (.int (1 : Int32)), .val (.int (2 : Int32)), .val (.int (1 : Int32)), .val (.int x0)] [(.ref ca)])) (fun tg kk => XS.aloadN X2.here hx rfl (hb hby d22_10) rfl rfl kk) ?_
  refine own_go (S' := T2.setTop (mkF m 12 #[.val (.ref ca), .val (.int (1 : Int32)), .val (.ref ba), .val (.int (1 : Int32)), .val (.int (2 : Int32)), .val (.int (1 : Int32)), .val (.int x0)] [(.int (1 : Int32)), (.ref ca)])) (fun tg kk => XS.iloadN X2.here hx rfl (hb hby d22_11) rfl kk) ?_
  obtain ⟨cl7, Ar7, q1_7, S7, q3_7, H7, G7⟩ := id A3
  have hj7 := inb_of (j := (1 : Int32)) S7 ⟨by decide, by decide⟩
  have hv7 : cl7.slots[((1 : Int32)).toNatClampNeg]? = some (.int x1) := Has.at H7 hj7 (by rfl)
  refine own_go (S' := T2.setTop (mkF m 13 #[.val (.ref ca), .val (.int (1 : Int32)), .val (.ref ba), .val (.int (1 : Int32)), .val (.int (2 : Int32)), .val (.int (1 : Int32)), .val (.int x0)] [(.int x1)])) (fun tg kk => X2.caload hx (by rw [e2]; exact Ar7.1) (State.isArrayOf_alike hZ.alike Ar7.2.1) Ar7.2.2 hj7 hv7 (g := (mkF m 12 #[.val (.ref ca), .val (.int (1 : Int32)), .val (.ref ba), .val (.int (1 : Int32)), .val (.int (2 : Int32)), .val (.int (1 : Int32)), .val (.int x0)] [(.int (1 : Int32)), (.ref ca)])) rfl rfl (hb hby d22_12) tg kk) ?_
  refine own_go (S' := T2.setTop (mkF m 15 #[.val (.ref ca), .val (.int (1 : Int32)), .val (.ref ba), .val (.int (1 : Int32)), .val (.int (2 : Int32)), .val (.int (1 : Int32)), .val (.int x1)] [])) (fun tg kk => XS.istore X2.here hx rfl (hb hby d22_13) rfl (l' := #[.val (.ref ca), .val (.int (1 : Int32)), .val (.ref ba), .val (.int (1 : Int32)), .val (.int (2 : Int32)), .val (.int (1 : Int32)), .val (.int x1)]) rfl kk) ?_
  refine own_go (S' := T2.setTop (mkF m 17 #[.val (.ref ca), .val (.int (1 : Int32)), .val (.ref ba), .val (.int (1 : Int32)), .val (.int (2 : Int32)), .val (.int (1 : Int32)), .val (.int x1)] [(.int x1)])) (fun tg kk => XS.iload X2.here hx rfl (hb hby d22_15) rfl kk) ?_
  refine own_go (S' := T2.setTop (mkF m 20 #[.val (.ref ca), .val (.int (1 : Int32)), .val (.ref ba), .val (.int (1 : Int32)), .val (.int (2 : Int32)), .val (.int (1 : Int32)), .val (.int x1)] [(.int (255 : Int32)), (.int x1)])) (fun tg kk => XT.sipushV X2.here hx rfl (255 : Int32) (hb hby d22_17) (by decide) kk) ?_
  refine own_go (S' := T2.setTop (mkF m 26 #[.val (.ref ca), .val (.int (1 : Int32)), .val (.ref ba), .val (.int (1 : Int32)), .val (.int (2 : Int32)), .val (.int (1 : Int32)), .val (.int x1)] [])) (fun tg kk => XS.icmpYes X2.here hx rfl (pc0 := 20) (pc' := 26) rfl (hb hby d22_20) rfl (XT.ii_le_t hb1) (by decide) (by decide) kk) ?_
  refine own_go (S' := T2.setTop (mkF m 27 #[.val (.ref ca), .val (.int (1 : Int32)), .val (.ref ba), .val (.int (1 : Int32)), .val (.int (2 : Int32)), .val (.int (1 : Int32)), .val (.int x1)] [(.ref ba)])) (fun tg kk => XS.aloadN X2.here hx rfl (hb hby d22_26) rfl rfl kk) ?_
  refine own_go (S' := T2.setTop (mkF m 28 #[.val (.ref ca), .val (.int (1 : Int32)), .val (.ref ba), .val (.int (1 : Int32)), .val (.int (2 : Int32)), .val (.int (1 : Int32)), .val (.int x1)] [(.int (1 : Int32)), (.ref ba)])) (fun tg kk => XS.iloadN X2.here hx rfl (hb hby d22_27) rfl kk) ?_
  refine own_go (S' := T2.setTop (mkF m 30 #[.val (.ref ca), .val (.int (1 : Int32)), .val (.ref ba), .val (.int (1 : Int32)), .val (.int (2 : Int32)), .val (.int (1 : Int32)), .val (.int x1)] [(.int x1), (.int (1 : Int32)), (.ref ba)])) (fun tg kk => XS.iload X2.here hx rfl (hb hby d22_28) rfl kk) ?_
  refine own_go (S' := T2.setTop (mkF m 31 #[.val (.ref ca), .val (.int (1 : Int32)), .val (.ref ba), .val (.int (1 : Int32)), .val (.int (2 : Int32)), .val (.int (1 : Int32)), .val (.int x1)] [(.int x1.toInt8.toInt32), (.int (1 : Int32)), (.ref ba)])) (fun tg kk => XT.i2b X2.here hx rfl (hb hby d22_30) rfl kk) ?_
  obtain ⟨cl8, Ar8, q1_8, S8, q3_8, H8, G8⟩ := id V2
  have hj8 := inb_of (j := (1 : Int32)) S8 ⟨by decide, by decide⟩
  obtain ⟨T8, h8, X8, e8, W8, st8⟩ := stB X2 hx hZ e2 Ar8 hj8 (g := (mkF m 31 #[.val (.ref ca), .val (.int (1 : Int32)), .val (.ref ba), .val (.int (1 : Int32)), .val (.int (2 : Int32)), .val (.int (1 : Int32)), .val (.int x1)] [(.int x1.toInt8.toInt32), (.int (1 : Int32)), (.ref ba)])) rfl rfl (hb hby d22_31)
  refine own_go (S' := T8.setTop (mkF m 32 #[.val (.ref ca), .val (.int (1 : Int32)), .val (.ref ba), .val (.int (1 : Int32)), .val (.int (2 : Int32)), .val (.int (1 : Int32)), .val (.int x1)] [])) (st8) ?_
  have N8 := Fr.snoc X8 N2 gb
  have A9 := A3.other W8 ncb
  have Z11 : n0 ≤ h8.size := by rw [W8.size]; exact Z5
  have K12 : Keep h0 h8 [ba] := K6.wr W8 (Or.inl (List.mem_of_getElem? (i := 0) rfl))
  have V8 : Arv Z h8 ba kb .byte (2 : Int32) [(.int (nar .byte x0.toInt8.toInt32)), (.int (nar .byte x1.toInt8.toInt32))] (.int (0 : Int32)) := Arv.set Ar8 q1_8 S8 q3_8 H8 G8 (fits_nar_byte x1.toInt8.toInt32) W8 1 (by decide) (by show 1 < 2; decide)
  refine own_go (S' := T8.setTop (mkF m 35 #[.val (.ref ca), .val (.int (2 : Int32)), .val (.ref ba), .val (.int (1 : Int32)), .val (.int (2 : Int32)), .val (.int (1 : Int32)), .val (.int x1)] [])) (fun tg kk => XT.iincV X8.here hx rfl (1 : Int32) (hb hby d22_32) (by decide) rfl (l' := #[.val (.ref ca), .val (.int (2 : Int32)), .val (.ref ba), .val (.int (1 : Int32)), .val (.int (2 : Int32)), .val (.int (1 : Int32)), .val (.int x1)]) rfl kk) ?_
  refine own_go (S' := T8.setTop (mkF m 38 #[.val (.ref ca), .val (.int (2 : Int32)), .val (.ref ba), .val (.int (2 : Int32)), .val (.int (2 : Int32)), .val (.int (1 : Int32)), .val (.int x1)] [])) (fun tg kk => XT.iincV X8.here hx rfl (1 : Int32) (hb hby d22_35) (by decide) rfl (l' := #[.val (.ref ca), .val (.int (2 : Int32)), .val (.ref ba), .val (.int (2 : Int32)), .val (.int (2 : Int32)), .val (.int (1 : Int32)), .val (.int x1)]) rfl kk) ?_
  refine own_go (S' := T8.setTop (mkF m 41 #[.val (.ref ca), .val (.int (2 : Int32)), .val (.ref ba), .val (.int (2 : Int32)), .val (.int (2 : Int32)), .val (.int (2 : Int32)), .val (.int x1)] [])) (fun tg kk => XT.iincV X8.here hx rfl (1 : Int32) (hb hby d22_38) (by decide) rfl (l' := #[.val (.ref ca), .val (.int (2 : Int32)), .val (.ref ba), .val (.int (2 : Int32)), .val (.int (2 : Int32)), .val (.int (2 : Int32)), .val (.int x1)]) rfl kk) ?_
  refine own_go (S' := T8.setTop (mkF m 3 #[.val (.ref ca), .val (.int (2 : Int32)), .val (.ref ba), .val (.int (2 : Int32)), .val (.int (2 : Int32)), .val (.int (2 : Int32)), .val (.int x1)] [])) (fun tg kk => XS.goto X8.here hx rfl (pc0 := 41) (pc' := 3) rfl (hb hby d22_41) (by decide) (by decide) kk) ?_
  refine own_go (S' := T8.setTop (mkF m 5 #[.val (.ref ca), .val (.int (2 : Int32)), .val (.ref ba), .val (.int (2 : Int32)), .val (.int (2 : Int32)), .val (.int (2 : Int32)), .val (.int x1)] [(.int (2 : Int32))])) (fun tg kk => XS.iload X8.here hx rfl (hb hby d22_3) rfl kk) ?_
  refine own_go (S' := T8.setTop (mkF m 7 #[.val (.ref ca), .val (.int (2 : Int32)), .val (.ref ba), .val (.int (2 : Int32)), .val (.int (2 : Int32)), .val (.int (2 : Int32)), .val (.int x1)] [(.int (2 : Int32)), (.int (2 : Int32))])) (fun tg kk => XS.iload X8.here hx rfl (hb hby d22_5) rfl kk) ?_
  refine own_go (S' := T8.setTop (mkF m 44 #[.val (.ref ca), .val (.int (2 : Int32)), .val (.ref ba), .val (.int (2 : Int32)), .val (.int (2 : Int32)), .val (.int (2 : Int32)), .val (.int x1)] [])) (fun tg kk => XS.icmpYes X8.here hx rfl (pc0 := 7) (pc' := 44) rfl (hb hby d22_7) rfl (XT.ii_ge_t (by decide)) (by decide) (by decide) kk) ?_
  refine own_go (S' := T8.setTop (mkF m 46 #[.val (.ref ca), .val (.int (2 : Int32)), .val (.ref ba), .val (.int (2 : Int32)), .val (.int (2 : Int32)), .val (.int (2 : Int32)), .val (.int x1)] [(.int (2 : Int32))])) (fun tg kk => XS.iload X8.here hx rfl (hb hby d22_44) rfl kk) ?_
  obtain ⟨fs, hr, hrun, hended, hW, hsame⟩ := X8.leave (v := some (.int (2 : Int32))) (fun h => by rw [Bd.returns] at h; cases h)
  refine ⟨_, _, retI X8 hx Bd.returns (hb hby d22_46) hr, hrun, hended, _, _, rfl, ?_, ⟨_, rfl⟩, hW, hsame.mono (by decide) (by decide)⟩
  show Q22_2 Z ca k ba kb x0 x1 h0 n0 (some (.int (2 : Int32))) T8.heap _
  rw [e8]
  exact ⟨rfl, N8, K12⟩
theorem ef21_2 (m : MethodId) (x0 : Addr) (x1 : Int32) (x2 : Int32) : entryFrame m #[(.ref x0), (.int x1), (.int x2)] 6 = mkF m 0 #[.val (.ref x0), .val (.int x1), .val (.int x2), .unset, .unset, .unset] [] := by first | (simp [entryFrame, mkF, argsToLocals, Value.category]; done) | rfl
def Q21_2 (Z : State) (ca : Addr) (k : ClassId) (x0 : Int32) (x1 : Int32) (h0 : Heap) (n0 : Nat) (v : Option Value) (h : Heap) (L : List Loc) : Prop := ∃ (a : Addr) (cb : Cell), v = some (.ref a) ∧ Fr n0 L ∧ Keep h0 h [] ∧ Arr Z h a cb .byte ∧ cb.slots.size = 2
set_option maxRecDepth 65536 in
set_option maxHeartbeats 40000000 in
theorem rm21_2 (l : Launch) (Z : State) (a0 : Array Value) (hw : ∀ d ∈ tables_1, d.before a0 Z = true) (ws : List Jvm.Cond) (ca : Addr) (k : ClassId) (x0 : Int32) (x1 : Int32) (h0 : Heap) (n0 : Nat) (Z0 : n0 ≤ h0.size) (Va : Arv Z h0 ca k .char (2 : Int32) [.int x0, .int x1] (.int (0 : Int32))) (hb0 : ¬ (255 : Int32) < x0) (hb1 : ¬ (255 : Int32) < x1) :
    MetFree l (⟨"java/lang/StringUTF16", "compress", "([CII)[B"⟩ : MethodName) (head1 (Jvm.Cond.code (⟨"java/lang/StringUTF16", "compress", "([CII)[B"⟩ : MethodName) jdk_52_method_16_code 6 ((Option.some (FieldType.array FieldType.byte))) :: ws) ({ frames := 1, cells := 1, slots := 2, locals := 18 } : Room)) (fun aa U => aa = #[(.ref ca), (.int (0 : Int32)), (.int (2 : Int32))] ∧ Z.Warmed39 U.vm ∧ U.heap = h0) (fun _ _ _ _ _ => True) (fun _ U ou U' => ∃ v L, ou = .returned v ∧ Q21_2 Z ca k x0 x1 h0 n0 v U'.heap L ∧ FrameEnd U ou U' L ({ frames := 1, cells := 1, slots := 2, locals := 18 } : Room).cells ({ frames := 1, cells := 1, slots := 2, locals := 18 } : Room).slots) := by
  refine MetFree.of_bodySF (plainFor_of_name pn_java_lang_StringUTF16) hisR ?_
  intro pg e s m args below meth c s₁ Bd hml0 hP hK
  obtain ⟨rfl, hZ, hh⟩ := hP
  have hx := Bd.exec
  have hby := Bd.bytes
  have hml : c.maxLocals = 6 := hml0
  have hown : s.vm.findClass "java/lang/StringUTF16" = some m.cls := findClass_of_methodNamed Bd.named
  have hnm := (name_of_methodNamed Bd.named Bd.method).1
  have X0 : Stand pg l e ({ frames := 1, cells := 1, slots := 2, locals := 18 } : Room) s m #[(.ref ca), (.int (0 : Int32)), (.int (2 : Int32))] below meth c s₁ [] 0 0 := Stand.of_body Bd
  have e0 : s₁.heap = h0 := by rw [← hh, Bd.state]; rfl
  have N0 := Fr.nil n0
  have K0 : Keep h0 h0 [] := Keep.refl _ _
  show own_Go pg.tables e below (fun ou U' => ∃ v L, ou = .returned v ∧ Q21_2 Z ca k x0 x1 h0 n0 v U'.heap L ∧ FrameEnd s ou U' L ({ frames := 1, cells := 1, slots := 2, locals := 18 } : Room).cells ({ frames := 1, cells := 1, slots := 2, locals := 18 } : Room).slots) (s₁.setTop (entryFrame m #[(.ref ca), (.int (0 : Int32)), (.int (2 : Int32))] 6))
  refine own_go (S' := s₁.setTop (mkF m 0 #[.val (.ref ca), .val (.int (0 : Int32)), .val (.int (2 : Int32)), .unset, .unset, .unset] [])) (fun tg kk => castTop (ef21_2 m ca (0 : Int32) (2 : Int32)) kk) ?_
  refine own_go (S' := s₁.setTop (mkF m 1 #[.val (.ref ca), .val (.int (0 : Int32)), .val (.int (2 : Int32)), .unset, .unset, .unset] [(.int (2 : Int32))])) (fun tg kk => XS.iloadN X0.here hx rfl (hb hby d21_0) rfl kk) ?_
  obtain ⟨T1, h1, cA1, X1, e1, Ex1, A1, st1⟩ := newP X0 hx hZ (hw _ (List.mem_of_getElem? (i := 19) rfl)) e0 (g := (mkF m 1 #[.val (.ref ca), .val (.int (0 : Int32)), .val (.int (2 : Int32)), .unset, .unset, .unset] [(.int (2 : Int32))])) rfl (hb hby d21_1) rfl (n := (2 : Int32)) (by decide) (cap := 2) (by decide) (by decide) (by decide) (by decide)
  obtain ⟨a1, g1⟩ : ∃ z, z = h0.size := ⟨_, rfl⟩
  rw [← g1] at A1 st1
  have ne1_ca : ca ≠ a1 := by rw [g1]; exact Nat.ne_of_lt Va.lt
  have q1 : n0 ≤ a1 := by rw [g1]; exact Z0
  have r1 : h0.size ≤ a1 := by rw [g1]; exact K0.1
  have A2 := Va.ext Ex1
  have Z3 : n0 ≤ h1.size := Nat.le_trans Z0 Ex1.1
  have K4 : Keep h0 h1 [] := K0.ext Ex1
  refine own_go (S' := T1.setTop (mkF m 3 #[.val (.ref ca), .val (.int (0 : Int32)), .val (.int (2 : Int32)), .unset, .unset, .unset] [(.ref a1)])) (st1) ?_
  have V1 : Arv Z h1 a1 cA1 .byte (2 : Int32) [(.int (0 : Int32)), (.int (0 : Int32))] (.int (0 : Int32)) := (Arv.new A1 (by decide)).pad (pad_rep [] (.int (0 : Int32)) 2)
  refine own_go (S' := T1.setTop (mkF m 4 #[.val (.ref ca), .val (.int (0 : Int32)), .val (.int (2 : Int32)), .val (.ref a1), .unset, .unset] [])) (fun tg kk => XS.astoreN X1.here hx rfl (hb hby d21_3) rfl rfl (l' := #[.val (.ref ca), .val (.int (0 : Int32)), .val (.int (2 : Int32)), .val (.ref a1), .unset, .unset]) rfl kk) ?_
  refine own_go (S' := T1.setTop (mkF m 5 #[.val (.ref ca), .val (.int (0 : Int32)), .val (.int (2 : Int32)), .val (.ref a1), .unset, .unset] [(.ref ca)])) (fun tg kk => XS.aloadN X1.here hx rfl (hb hby d21_4) rfl rfl kk) ?_
  refine own_go (S' := T1.setTop (mkF m 6 #[.val (.ref ca), .val (.int (0 : Int32)), .val (.int (2 : Int32)), .val (.ref a1), .unset, .unset] [(.int (0 : Int32)), (.ref ca)])) (fun tg kk => XS.iloadN X1.here hx rfl (hb hby d21_5) rfl kk) ?_
  refine own_go (S' := T1.setTop (mkF m 7 #[.val (.ref ca), .val (.int (0 : Int32)), .val (.int (2 : Int32)), .val (.ref a1), .unset, .unset] [(.ref a1), (.int (0 : Int32)), (.ref ca)])) (fun tg kk => XS.aloadN X1.here hx rfl (hb hby d21_6) rfl rfl kk) ?_
  refine own_go (S' := T1.setTop (mkF m 8 #[.val (.ref ca), .val (.int (0 : Int32)), .val (.int (2 : Int32)), .val (.ref a1), .unset, .unset] [(.int (0 : Int32)), (.ref a1), (.int (0 : Int32)), (.ref ca)])) (fun tg kk => XT.iconstV X1.here hx rfl (0 : Int32) (hb hby d21_7) (by decide) kk) ?_
  refine own_go (S' := T1.setTop (mkF m 9 #[.val (.ref ca), .val (.int (0 : Int32)), .val (.int (2 : Int32)), .val (.ref a1), .unset, .unset] [(.int (2 : Int32)), (.int (0 : Int32)), (.ref a1), (.int (0 : Int32)), (.ref ca)])) (fun tg kk => XS.iloadN X1.here hx rfl (hb hby d21_8) rfl kk) ?_
  obtain ⟨v5, _, ⟨T5, L5, k5, n5⟩, -, X5, ⟨Lc5, hQ5, l5, y5, z5⟩, st5⟩ := Jvm.LawKit.callS X1 hx (y := (⟨"java/lang/StringUTF16", "compress", "([CI[BII)I"⟩ : MethodName)) hown (mvT hZ (hw _ (List.mem_of_getElem? (i := 123) rfl))) (mvT hZ (hw _ (List.mem_of_getElem? (i := 124) rfl))) (mvT hZ (hw _ (List.mem_of_getElem? (i := 121) rfl))) (mvT hZ (hw _ (List.mem_of_getElem? (i := 125) rfl))) (by decide) (backOf (W := 0) (rm22_2 l Z a0 hw [] ca k a1 cA1 x0 x1 h1 n0 Z3 A2 V1 q1 ne1_ca hb0 hb1) hZ (hw _ (List.mem_of_getElem? (i := 125) rfl)) (hw _ (List.mem_of_getElem? (i := 121) rfl)) (by decide) (by decide)) (g := (mkF m 9 #[.val (.ref ca), .val (.int (0 : Int32)), .val (.int (2 : Int32)), .val (.ref a1), .unset, .unset] [(.int (2 : Int32)), (.int (0 : Int32)), (.ref a1), (.int (0 : Int32)), (.ref ca)])) rfl (by rw [hml]; rfl) (argsL := [(.ref ca), (.int (0 : Int32)), (.ref a1), (.int (0 : Int32)), (.int (2 : Int32))]) (rest := []) (lenOf pd___CI_BII_I rfl) rfl (by show 2 * 0 + _ ≤ _; exact Nat.le_of_eq rfl) (hb hby d21_9) (fun _ _ => ⟨rfl, e1, (by decide : 1 + 0 ≤ _), (by decide : 2 + 0 ≤ _)⟩)
  dsimp only [Pt.U, Pt.locs, Pt.cells, Pt.slots] at X5 l5 y5 z5 st5 hQ5
  subst l5 y5 z5
  obtain ⟨rfl, M6, K5⟩ := hQ5
  have N6 := Fr.app N0 M6
  obtain ⟨h5, e5⟩ : ∃ z, T5.heap = z := ⟨_, rfl⟩
  rw [e5] at K5 
  have A7 := A2.keep K5 (ninS ne1_ca nin0)
  have Z9 : n0 ≤ h5.size := Nat.le_trans Z3 K5.1
  have K10 : Keep h0 h5 [] := K4.trans K5 (allS (Or.inr r1) all0)
  obtain ⟨cb5, Ab5, Sb5⟩ : ∃ cb, Arr Z h5 a1 cb .byte ∧ cb.slots.size = 2 := by
    obtain ⟨cl, Ar, q1, S, q3, H, G⟩ := V1
    obtain ⟨c', r1, r2, r3, r4⟩ := K5.2.2 _ _ Ar.1
    exact ⟨c', ⟨r1, own_arrOf r2 r3 Ar.2.1, by rw [r3]; exact Ar.2.2⟩, r4.trans (S.trans (by decide))⟩
  refine own_go (S' := T5.setTop (mkF m 12 #[.val (.ref ca), .val (.int (0 : Int32)), .val (.int (2 : Int32)), .val (.ref a1), .unset, .unset] [(.int (2 : Int32))])) st5 ?_
  refine own_go (S' := T5.setTop (mkF m 14 #[.val (.ref ca), .val (.int (0 : Int32)), .val (.int (2 : Int32)), .val (.ref a1), .val (.int (2 : Int32)), .unset] [])) (fun tg kk => XS.istore X5.here hx rfl (hb hby d21_12) rfl (l' := #[.val (.ref ca), .val (.int (0 : Int32)), .val (.int (2 : Int32)), .val (.ref a1), .val (.int (2 : Int32)), .unset]) rfl kk) ?_
  refine own_go (S' := T5.setTop (mkF m 16 #[.val (.ref ca), .val (.int (0 : Int32)), .val (.int (2 : Int32)), .val (.ref a1), .val (.int (2 : Int32)), .unset] [(.int (2 : Int32))])) (fun tg kk => XS.iload X5.here hx rfl (hb hby d21_14) rfl kk) ?_
  refine own_go (S' := T5.setTop (mkF m 17 #[.val (.ref ca), .val (.int (0 : Int32)), .val (.int (2 : Int32)), .val (.ref a1), .val (.int (2 : Int32)), .unset] [(.int (2 : Int32)), (.int (2 : Int32))])) (fun tg kk => XS.iloadN X5.here hx rfl (hb hby d21_16) rfl kk) ?_
  refine own_go (S' := T5.setTop (mkF m 57 #[.val (.ref ca), .val (.int (0 : Int32)), .val (.int (2 : Int32)), .val (.ref a1), .val (.int (2 : Int32)), .unset] [])) (fun tg kk => XS.icmpYes X5.here hx rfl (pc0 := 17) (pc' := 57) rfl (hb hby d21_17) rfl (XT.ii_eq_t (by decide)) (by decide) (by decide) kk) ?_
  refine own_go (S' := T5.setTop (mkF m 58 #[.val (.ref ca), .val (.int (0 : Int32)), .val (.int (2 : Int32)), .val (.ref a1), .val (.int (2 : Int32)), .unset] [(.ref a1)])) (fun tg kk => XS.aloadN X5.here hx rfl (hb hby d21_57) rfl rfl kk) ?_
  obtain ⟨fs, hr, hrun, hended, hW, hsame⟩ := X5.leave (v := some (.ref a1)) (fun h => by rw [Bd.returns] at h; cases h)
  refine ⟨_, _, retOut X5 hx (i := .areturn) Bd.returns (own_narR rfl rfl) (Or.inr (Or.inr (Or.inr (Or.inr ⟨rfl, rfl, rfl⟩)))) (hb hby d21_58) hr, hrun, hended, _, _, rfl, ?_, ⟨_, rfl⟩, hW, hsame.mono (by decide) (by decide)⟩
  show Q21_2 Z ca k x0 x1 h0 n0 (some (.ref a1)) T5.heap _
  rw [e5]
  exact ⟨a1, cb5, rfl, N6, K10, Ab5, Sb5⟩
theorem ef23_2 (m : MethodId) (x0 : Addr) (x1 : Int32) : entryFrame m #[(.ref x0), (.int x1)] 2 = mkF m 0 #[.val (.ref x0), .val (.int x1)] [] := by first | (simp [entryFrame, mkF, argsToLocals, Value.category]; done) | rfl
def Q23_2 (Z : State) (ba : Addr) (cb : Cell) (h0 : Heap) (n0 : Nat) (v : Option Value) (h : Heap) (L : List Loc) : Prop := v = some (.int (0 : Int32)) ∧ Fr n0 L ∧ h = h0
set_option maxRecDepth 65536 in
set_option maxHeartbeats 40000000 in
theorem rm23_2 (l : Launch) (Z : State) (a0 : Array Value) (hw : ∀ d ∈ tables_1, d.before a0 Z = true) (ws : List Jvm.Cond) (ba : Addr) (cb : Cell) (h0 : Heap) (n0 : Nat) (Z0 : n0 ≤ h0.size) (Ab : Arr Z h0 ba cb .byte) (Sb : cb.slots.size = 2) :
    MetFree l (⟨"java/lang/StringUTF16", "coderFromArrayLen", "([BI)B"⟩ : MethodName) (head1 (Jvm.Cond.code (⟨"java/lang/StringUTF16", "coderFromArrayLen", "([BI)B"⟩ : MethodName) jdk_52_method_15_code 2 ((Option.some FieldType.byte)) :: ws) ({ frames := 0, cells := 0, slots := 0, locals := 0 } : Room)) (fun aa U => aa = #[(.ref ba), (.int (2 : Int32))] ∧ Z.Warmed39 U.vm ∧ U.heap = h0) (fun _ _ _ _ _ => True) (fun _ U ou U' => ∃ v L, ou = .returned v ∧ Q23_2 Z ba cb h0 n0 v U'.heap L ∧ FrameEnd U ou U' L ({ frames := 0, cells := 0, slots := 0, locals := 0 } : Room).cells ({ frames := 0, cells := 0, slots := 0, locals := 0 } : Room).slots) := by
  refine MetFree.of_bodySF (plainFor_of_name pn_java_lang_StringUTF16) hisR ?_
  intro pg e s m args below meth c s₁ Bd hml0 hP hK
  obtain ⟨rfl, hZ, hh⟩ := hP
  have hx := Bd.exec
  have hby := Bd.bytes
  have hml : c.maxLocals = 2 := hml0
  have hown : s.vm.findClass "java/lang/StringUTF16" = some m.cls := findClass_of_methodNamed Bd.named
  have hnm := (name_of_methodNamed Bd.named Bd.method).1
  have X0 : Stand pg l e ({ frames := 0, cells := 0, slots := 0, locals := 0 } : Room) s m #[(.ref ba), (.int (2 : Int32))] below meth c s₁ [] 0 0 := Stand.of_body Bd
  have e0 : s₁.heap = h0 := by rw [← hh, Bd.state]; rfl
  have N0 := Fr.nil n0
  show own_Go pg.tables e below (fun ou U' => ∃ v L, ou = .returned v ∧ Q23_2 Z ba cb h0 n0 v U'.heap L ∧ FrameEnd s ou U' L ({ frames := 0, cells := 0, slots := 0, locals := 0 } : Room).cells ({ frames := 0, cells := 0, slots := 0, locals := 0 } : Room).slots) (s₁.setTop (entryFrame m #[(.ref ba), (.int (2 : Int32))] 2))
  refine own_go (S' := s₁.setTop (mkF m 0 #[.val (.ref ba), .val (.int (2 : Int32))] [])) (fun tg kk => castTop (ef23_2 m ba (2 : Int32)) kk) ?_
  refine own_go (S' := s₁.setTop (mkF m 1 #[.val (.ref ba), .val (.int (2 : Int32))] [(.int (2 : Int32))])) (fun tg kk => XS.iloadN X0.here hx rfl (hb hby d23_0) rfl kk) ?_
  refine own_go (S' := s₁.setTop (mkF m 2 #[.val (.ref ba), .val (.int (2 : Int32))] [(.ref ba), (.int (2 : Int32))])) (fun tg kk => XS.aloadN X0.here hx rfl (hb hby d23_1) rfl rfl kk) ?_
  refine own_go (S' := s₁.setTop (mkF m 3 #[.val (.ref ba), .val (.int (2 : Int32))] [(.int (2 : Int32)), (.int (2 : Int32))])) (fun tg kk => X0.arraylength hx (cell := cb) (by rw [e0]; exact Ab.1) (State.isArrayOf_alike hZ.alike Ab.2.1) (g := (mkF m 2 #[.val (.ref ba), .val (.int (2 : Int32))] [(.ref ba), (.int (2 : Int32))])) rfl rfl (hb hby d23_2) tg (by rw [Sb]; exact kk)) ?_
  refine own_go (S' := s₁.setTop (mkF m 4 #[.val (.ref ba), .val (.int (2 : Int32))] [(.int (0 : Int32))])) (fun tg kk => XS.isub X0.here hx rfl (hb hby d23_3) rfl (by rw [show (2 : Int32) - (2 : Int32) = (0 : Int32) from by decide]; exact kk)) ?_
  refine own_go (S' := s₁.setTop (mkF m 6 #[.val (.ref ba), .val (.int (2 : Int32))] [(.int (31 : Int32)), (.int (0 : Int32))])) (fun tg kk => XT.bipushV X0.here hx rfl (31 : Int32) (hb hby d23_4) (by decide) kk) ?_
  refine own_go (S' := s₁.setTop (mkF m 7 #[.val (.ref ba), .val (.int (2 : Int32))] [(.int (0 : Int32))])) (fun tg kk => XT.iushr X0.here hx rfl (hb hby d23_6) rfl (by rw [show (XT.ushr (0 : Int32) (31 : Int32)) = (0 : Int32) from by decide]; exact kk)) ?_
  refine own_go (S' := s₁.setTop (mkF m 8 #[.val (.ref ba), .val (.int (2 : Int32))] [(.int (0 : Int32))])) (fun tg kk => XT.i2b X0.here hx rfl (hb hby d23_7) rfl (by rw [show (0 : Int32).toInt8.toInt32 = (0 : Int32) from by decide]; exact kk)) ?_
  obtain ⟨fs, hr, hrun, hended, hW, hsame⟩ := X0.leave (v := some (.int (0 : Int32))) (fun h => by rw [Bd.returns] at h; cases h)
  refine ⟨_, _, retN X0 hx (t := .byte) Bd.returns (by simp) (hb hby d23_8) hr, hrun, hended, _, _, rfl, ?_, ⟨_, rfl⟩, hW, hsame.mono (by decide) (by decide)⟩
  show Q23_2 Z ba cb h0 n0 (some (.int (0 : Int32))) s₁.heap _
  rw [e0]
  exact ⟨rfl, N0, rfl⟩
theorem ef3_2 (m : MethodId) (x0 : Addr) (x1 : Addr) (x2 : Int32) (x3 : Int32) : entryFrame m #[(.ref x0), (.ref x1), (.int x2), (.int x3), .null] 6 = mkF m 0 #[.val (.ref x0), .val (.ref x1), .val (.int x2), .val (.int x3), .val .null, .unset] [] := by first | (simp [entryFrame, mkF, argsToLocals, Value.category]; done) | rfl
def Q3_2 (Z : State) (a : Addr) (ca : Addr) (k : ClassId) (cs : Int32) (x0 : Int32) (x1 : Int32) (h0 : Heap) (n0 : Nat) (v : Option Value) (h : Heap) (L : List Loc) : Prop := v = none ∧ Fr n0 L ∧ Keep h0 h [a]
set_option maxRecDepth 65536 in
set_option maxHeartbeats 40000000 in
theorem rm3_2 (l : Launch) (Z : State) (a0 : Array Value) (hw : ∀ d ∈ tables_1, d.before a0 Z = true) (ws : List Jvm.Cond) (a : Addr) (ca : Addr) (k : ClassId) (cs : Int32) (x0 : Int32) (x1 : Int32) (h0 : Heap) (n0 : Nat) (Z0 : n0 ≤ h0.size) (O0 : Old Z n0 h0) (Fv : Fld Z h0 a "java/lang/String" "value" "[B" .null) (Fc : Fld Z h0 a "java/lang/String" "coder" "B" (.int (0 : Int32))) (Ea : Exa Z h0 a "java/lang/String") (ga : n0 ≤ a) (Va : Arv Z h0 ca k .char (2 : Int32) [.int x0, .int x1] (.int (0 : Int32))) (nac : a ≠ ca) (S_CS : Sta Z Z.heap "java/lang/String" "COMPACT_STRINGS" "Z" (.int cs)) (hcs : ¬ cs = 0) (hb0 : ¬ (255 : Int32) < x0) (hb1 : ¬ (255 : Int32) < x1) :
    MetFree l (⟨"java/lang/String", "<init>", "([CIILjava/lang/Void;)V"⟩ : MethodName) (head1 (Jvm.Cond.code (⟨"java/lang/String", "<init>", "([CIILjava/lang/Void;)V"⟩ : MethodName) jdk_42_method_149_code 6 ((Option.none : Option FieldType)) :: ws) ({ frames := 2, cells := 1, slots := 2, locals := 35 } : Room)) (fun aa U => aa = #[(.ref a), (.ref ca), (.int (0 : Int32)), (.int (2 : Int32)), .null] ∧ Z.Warmed39 U.vm ∧ U.heap = h0) (fun _ _ _ _ _ => True) (fun _ U ou U' => ∃ v L, ou = .returned v ∧ Q3_2 Z a ca k cs x0 x1 h0 n0 v U'.heap L ∧ FrameEnd U ou U' L ({ frames := 2, cells := 1, slots := 2, locals := 35 } : Room).cells ({ frames := 2, cells := 1, slots := 2, locals := 35 } : Room).slots) := by
  refine MetFree.of_bodySF (plainFor_of_name pn_java_lang_String) hisR ?_
  intro pg e s m args below meth c s₁ Bd hml0 hP hK
  obtain ⟨rfl, hZ, hh⟩ := hP
  have hx := Bd.exec
  have hby := Bd.bytes
  have hml : c.maxLocals = 6 := hml0
  have hown : s.vm.findClass "java/lang/String" = some m.cls := findClass_of_methodNamed Bd.named
  have hnm := (name_of_methodNamed Bd.named Bd.method).1
  have X0 : Stand pg l e ({ frames := 2, cells := 1, slots := 2, locals := 35 } : Room) s m #[(.ref a), (.ref ca), (.int (0 : Int32)), (.int (2 : Int32)), .null] below meth c s₁ [] 0 0 := Stand.of_body Bd
  have e0 : s₁.heap = h0 := by rw [← hh, Bd.state]; rfl
  have N0 := Fr.nil n0
  have K0 : Keep h0 h0 [a] := Keep.refl _ _
  show own_Go pg.tables e below (fun ou U' => ∃ v L, ou = .returned v ∧ Q3_2 Z a ca k cs x0 x1 h0 n0 v U'.heap L ∧ FrameEnd s ou U' L ({ frames := 2, cells := 1, slots := 2, locals := 35 } : Room).cells ({ frames := 2, cells := 1, slots := 2, locals := 35 } : Room).slots) (s₁.setTop (entryFrame m #[(.ref a), (.ref ca), (.int (0 : Int32)), (.int (2 : Int32)), .null] 6))
  refine own_go (S' := s₁.setTop (mkF m 0 #[.val (.ref a), .val (.ref ca), .val (.int (0 : Int32)), .val (.int (2 : Int32)), .val .null, .unset] [])) (fun tg kk => castTop (ef3_2 m a ca (0 : Int32) (2 : Int32)) kk) ?_
  refine own_go (S' := s₁.setTop (mkF m 1 #[.val (.ref a), .val (.ref ca), .val (.int (0 : Int32)), .val (.int (2 : Int32)), .val .null, .unset] [(.ref a)])) (fun tg kk => XS.aloadN X0.here hx rfl (hb hby d3_0) rfl rfl kk) ?_
  obtain ⟨T1, X1, e1, st1⟩ := initO X0 hx hZ hown (hw _ (List.mem_of_getElem? (i := 15) rfl)) (hw _ (List.mem_of_getElem? (i := 16) rfl)) (hw _ (List.mem_of_getElem? (i := 17) rfl)) e0 (g := (mkF m 1 #[.val (.ref a), .val (.ref ca), .val (.int (0 : Int32)), .val (.int (2 : Int32)), .val .null, .unset] [(.ref a)])) rfl (by rw [hml]; rfl) rfl (hb hby d3_1) (by decide) (W := 0) (by show 2 * 0 + _ ≤ _; exact Nat.le_of_eq rfl) (by decide)
  refine own_go (S' := T1.setTop (mkF m 4 #[.val (.ref a), .val (.ref ca), .val (.int (0 : Int32)), .val (.int (2 : Int32)), .val .null, .unset] [])) (st1) ?_
  refine own_go (S' := T1.setTop (mkF m 5 #[.val (.ref a), .val (.ref ca), .val (.int (0 : Int32)), .val (.int (2 : Int32)), .val .null, .unset] [(.int (2 : Int32))])) (fun tg kk => XS.iloadN X1.here hx rfl (hb hby d3_4) rfl kk) ?_
  refine own_go (S' := T1.setTop (mkF m 27 #[.val (.ref a), .val (.ref ca), .val (.int (0 : Int32)), .val (.int (2 : Int32)), .val .null, .unset] [])) (fun tg kk => XS.ifYes X1.here hx rfl (pc0 := 5) (pc' := 27) rfl (hb hby d3_5) rfl (XT.i0_ne_t (by decide)) (by decide) (by decide) kk) ?_
  obtain ⟨T2, X2, e2, st2⟩ := getS (host := "") X1 hx hZ hown (hw _ (List.mem_of_getElem? (i := 118) rfl)) Via.refl e1 (S_CS.ext O0.2) (g := (mkF m 27 #[.val (.ref a), .val (.ref ca), .val (.int (0 : Int32)), .val (.int (2 : Int32)), .val .null, .unset] [])) rfl (hb hby d3_27)
  refine own_go (S' := T2.setTop (mkF m 30 #[.val (.ref a), .val (.ref ca), .val (.int (0 : Int32)), .val (.int (2 : Int32)), .val .null, .unset] [(.int cs)])) (st2) ?_
  refine own_go (S' := T2.setTop (mkF m 33 #[.val (.ref a), .val (.ref ca), .val (.int (0 : Int32)), .val (.int (2 : Int32)), .val .null, .unset] [])) (fun tg kk => XS.ifNo X2.here hx rfl (hb hby d3_30) rfl (XT.i0_eq_f hcs) kk) ?_
  refine own_go (S' := T2.setTop (mkF m 34 #[.val (.ref a), .val (.ref ca), .val (.int (0 : Int32)), .val (.int (2 : Int32)), .val .null, .unset] [(.ref ca)])) (fun tg kk => XS.aloadN X2.here hx rfl (hb hby d3_33) rfl rfl kk) ?_
  refine own_go (S' := T2.setTop (mkF m 35 #[.val (.ref a), .val (.ref ca), .val (.int (0 : Int32)), .val (.int (2 : Int32)), .val .null, .unset] [(.int (0 : Int32)), (.ref ca)])) (fun tg kk => XS.iloadN X2.here hx rfl (hb hby d3_34) rfl kk) ?_
  refine own_go (S' := T2.setTop (mkF m 36 #[.val (.ref a), .val (.ref ca), .val (.int (0 : Int32)), .val (.int (2 : Int32)), .val .null, .unset] [(.int (2 : Int32)), (.int (0 : Int32)), (.ref ca)])) (fun tg kk => XS.iloadN X2.here hx rfl (hb hby d3_35) rfl kk) ?_
  obtain ⟨v3, _, ⟨T3, L3, k3, n3⟩, -, X3, ⟨Lc3, hQ3, l3, y3, z3⟩, st3⟩ := Jvm.LawKit.callS X2 hx (y := (⟨"java/lang/StringUTF16", "compress", "([CII)[B"⟩ : MethodName)) hown (mvT hZ (hw _ (List.mem_of_getElem? (i := 119) rfl))) (mvT hZ (hw _ (List.mem_of_getElem? (i := 120) rfl))) (mvT hZ (hw _ (List.mem_of_getElem? (i := 121) rfl))) (mvT hZ (hw _ (List.mem_of_getElem? (i := 122) rfl))) (by decide) (backOf (W := 0) (rm21_2 l Z a0 hw [] ca k x0 x1 h0 n0 Z0 Va hb0 hb1) hZ (hw _ (List.mem_of_getElem? (i := 122) rfl)) (hw _ (List.mem_of_getElem? (i := 121) rfl)) (by decide) (by decide)) (g := (mkF m 36 #[.val (.ref a), .val (.ref ca), .val (.int (0 : Int32)), .val (.int (2 : Int32)), .val .null, .unset] [(.int (2 : Int32)), (.int (0 : Int32)), (.ref ca)])) rfl (by rw [hml]; rfl) (argsL := [(.ref ca), (.int (0 : Int32)), (.int (2 : Int32))]) (rest := []) (lenOf pd___CII__B rfl) rfl (by show 2 * 0 + _ ≤ _; exact Nat.le_of_eq rfl) (hb hby d3_36) (fun _ _ => ⟨rfl, e2, (by decide : 0 + 1 ≤ _), (by decide : 0 + 2 ≤ _)⟩)
  dsimp only [Pt.U, Pt.locs, Pt.cells, Pt.slots] at X3 l3 y3 z3 st3 hQ3
  subst l3 y3 z3
  obtain ⟨ba3, cb3, rfl, M4, K3, Ab3, Sb3⟩ := hQ3
  have N4 := Fr.app N0 M4
  obtain ⟨h3, e3⟩ : ∃ z, T3.heap = z := ⟨_, rfl⟩
  rw [e3] at K3 Ab3
  have F5 := Fv.keep K3 nin0
  have F6 := Fc.keep K3 nin0
  have E7 : Exa Z h3 a "java/lang/String" := Ea.keep K3
  have A8 := Va.keep K3 nin0
  have O9 : Old Z n0 h3 := O0.keep K3 all0
  have Z10 : n0 ≤ h3.size := Nat.le_trans Z0 K3.1
  have K11 : Keep h0 h3 [a] := K0.trans K3 all0
  refine own_go (S' := T3.setTop (mkF m 39 #[.val (.ref a), .val (.ref ca), .val (.int (0 : Int32)), .val (.int (2 : Int32)), .val .null, .unset] [(.ref ba3)])) st3 ?_
  refine own_go (S' := T3.setTop (mkF m 41 #[.val (.ref a), .val (.ref ca), .val (.int (0 : Int32)), .val (.int (2 : Int32)), .val .null, .val (.ref ba3)] [])) (fun tg kk => XS.astore X3.here hx rfl (hb hby d3_39) rfl rfl (l' := #[.val (.ref a), .val (.ref ca), .val (.int (0 : Int32)), .val (.int (2 : Int32)), .val .null, .val (.ref ba3)]) rfl kk) ?_
  refine own_go (S' := T3.setTop (mkF m 42 #[.val (.ref a), .val (.ref ca), .val (.int (0 : Int32)), .val (.int (2 : Int32)), .val .null, .val (.ref ba3)] [(.ref a)])) (fun tg kk => XS.aloadN X3.here hx rfl (hb hby d3_41) rfl rfl kk) ?_
  refine own_go (S' := T3.setTop (mkF m 44 #[.val (.ref a), .val (.ref ca), .val (.int (0 : Int32)), .val (.int (2 : Int32)), .val .null, .val (.ref ba3)] [(.ref ba3), (.ref a)])) (fun tg kk => XS.aload X3.here hx rfl (hb hby d3_42) rfl rfl kk) ?_
  refine own_go (S' := T3.setTop (mkF m 45 #[.val (.ref a), .val (.ref ca), .val (.int (0 : Int32)), .val (.int (2 : Int32)), .val .null, .val (.ref ba3)] [(.int (2 : Int32)), (.ref ba3), (.ref a)])) (fun tg kk => XS.iloadN X3.here hx rfl (hb hby d3_44) rfl kk) ?_
  obtain ⟨v12, _, ⟨T12, L12, k12, n12⟩, -, X12, ⟨Lc12, hQ12, l12, y12, z12⟩, st12⟩ := Jvm.LawKit.callS X3 hx (y := (⟨"java/lang/StringUTF16", "coderFromArrayLen", "([BI)B"⟩ : MethodName)) hown (mvT hZ (hw _ (List.mem_of_getElem? (i := 126) rfl))) (mvT hZ (hw _ (List.mem_of_getElem? (i := 127) rfl))) (mvT hZ (hw _ (List.mem_of_getElem? (i := 121) rfl))) (mvT hZ (hw _ (List.mem_of_getElem? (i := 128) rfl))) (by decide) (backOf (W := 1) (rm23_2 l Z a0 hw [] ba3 cb3 h3 n0 Z10 Ab3 Sb3) hZ (hw _ (List.mem_of_getElem? (i := 128) rfl)) (hw _ (List.mem_of_getElem? (i := 121) rfl)) (by decide) (by decide)) (g := (mkF m 45 #[.val (.ref a), .val (.ref ca), .val (.int (0 : Int32)), .val (.int (2 : Int32)), .val .null, .val (.ref ba3)] [(.int (2 : Int32)), (.ref ba3), (.ref a)])) rfl (by rw [hml]; rfl) (argsL := [(.ref ba3), (.int (2 : Int32))]) (rest := [(.ref a)]) (lenOf pd___BI_B rfl) rfl (by show 2 * 0 + _ ≤ _; exact Nat.le_of_eq rfl) (hb hby d3_45) (fun _ _ => ⟨rfl, e3, (by decide : 1 + 0 ≤ _), (by decide : 2 + 0 ≤ _)⟩)
  dsimp only [Pt.U, Pt.locs, Pt.cells, Pt.slots] at X12 l12 y12 z12 st12 hQ12
  subst l12 y12 z12
  obtain ⟨rfl, M13, e12⟩ := hQ12
  have N13 := Fr.app N4 M13
  refine own_go (S' := T12.setTop (mkF m 48 #[.val (.ref a), .val (.ref ca), .val (.int (0 : Int32)), .val (.int (2 : Int32)), .val .null, .val (.ref ba3)] [(.int (0 : Int32)), (.ref a)])) st12 ?_
  obtain ⟨T14, h14, X14, e14, W14, st14⟩ := putF X12 hx hZ hown (host := "") (Or.inl (hw _ (List.mem_of_getElem? (i := 25) rfl))) Via.refl e12 F6 E7 (Or.inr ⟨(hw _ (List.mem_of_getElem? (i := 21) rfl)), rfl, hnm⟩) (hw _ (List.mem_of_getElem? (i := 5) rfl)) (ty := .byte) (by decide) rfl rfl (g := (mkF m 48 #[.val (.ref a), .val (.ref ca), .val (.int (0 : Int32)), .val (.int (2 : Int32)), .val .null, .val (.ref ba3)] [(.int (0 : Int32)), (.ref a)])) rfl rfl (hb hby d3_48)
  refine own_go (S' := T14.setTop (mkF m 51 #[.val (.ref a), .val (.ref ca), .val (.int (0 : Int32)), .val (.int (2 : Int32)), .val .null, .val (.ref ba3)] [])) (st14) ?_
  have N14 := Fr.snoc X14 N13 ga
  have F15 := F5.other W14 (Or.inr (slot_ne (Or.inr (hw _ (List.mem_of_getElem? (i := 20) rfl))) (Or.inr (hw _ (List.mem_of_getElem? (i := 21) rfl))) (by decide) (t := .array .byte) (t' := .byte) (by decide) (by decide)))
  have F16 := F6.same W14
  have E17 : Exa Z h14 a "java/lang/String" := E7.wr W14
  have A18 := A8.other W14 (Ne.symm nac)
  have O19 : Old Z n0 h14 := O9.wr W14 ga
  have Z20 : n0 ≤ h14.size := by rw [W14.size]; exact Z10
  have K21 : Keep h0 h14 [a] := K11.wr W14 (Or.inl (List.mem_of_getElem? (i := 0) rfl))
  refine own_go (S' := T14.setTop (mkF m 52 #[.val (.ref a), .val (.ref ca), .val (.int (0 : Int32)), .val (.int (2 : Int32)), .val .null, .val (.ref ba3)] [(.ref a)])) (fun tg kk => XS.aloadN X14.here hx rfl (hb hby d3_51) rfl rfl kk) ?_
  refine own_go (S' := T14.setTop (mkF m 54 #[.val (.ref a), .val (.ref ca), .val (.int (0 : Int32)), .val (.int (2 : Int32)), .val .null, .val (.ref ba3)] [(.ref ba3), (.ref a)])) (fun tg kk => XS.aload X14.here hx rfl (hb hby d3_52) rfl rfl kk) ?_
  obtain ⟨T22, h22, X22, e22, W22, st22⟩ := putF X14 hx hZ hown (host := "") (Or.inl (hw _ (List.mem_of_getElem? (i := 24) rfl))) Via.refl e14 F15 E17 (Or.inr ⟨(hw _ (List.mem_of_getElem? (i := 20) rfl)), rfl, hnm⟩) (hw _ (List.mem_of_getElem? (i := 5) rfl)) (ty := .array .byte) (by decide) rfl rfl (g := (mkF m 54 #[.val (.ref a), .val (.ref ca), .val (.int (0 : Int32)), .val (.int (2 : Int32)), .val .null, .val (.ref ba3)] [(.ref ba3), (.ref a)])) rfl rfl (hb hby d3_54)
  refine own_go (S' := T22.setTop (mkF m 57 #[.val (.ref a), .val (.ref ca), .val (.int (0 : Int32)), .val (.int (2 : Int32)), .val .null, .val (.ref ba3)] [])) (st22) ?_
  have N22 := Fr.snoc X22 N14 ga
  have F23 := F15.same W22
  have F24 := F16.other W22 (Or.inr (slot_ne (Or.inr (hw _ (List.mem_of_getElem? (i := 21) rfl))) (Or.inr (hw _ (List.mem_of_getElem? (i := 20) rfl))) (by decide) (t := .byte) (t' := .array .byte) (by decide) (by decide)))
  have E25 : Exa Z h22 a "java/lang/String" := E17.wr W22
  have A26 := A18.other W22 (Ne.symm nac)
  have O27 : Old Z n0 h22 := O19.wr W22 ga
  have Z28 : n0 ≤ h22.size := by rw [W22.size]; exact Z20
  have K29 : Keep h0 h22 [a] := K21.wr W22 (Or.inl (List.mem_of_getElem? (i := 0) rfl))
  obtain ⟨fs, hr, hrun, hended, hW, hsame⟩ := X22.leave (v := none) (fun _ => rfl)
  refine ⟨_, _, X22.returnOut hx Bd.returns (hb hby d3_57) hr, hrun, hended, _, _, rfl, ?_, ⟨_, rfl⟩, hW, hsame.mono (by decide) (by decide)⟩
  show Q3_2 Z a ca k cs x0 x1 h0 n0 none T22.heap _
  rw [e22]
  exact ⟨rfl, N22, K29⟩
theorem ef2_2 (m : MethodId) (x0 : Addr) (x1 : Addr) : entryFrame m #[(.ref x0), (.ref x1)] 2 = mkF m 0 #[.val (.ref x0), .val (.ref x1)] [] := by first | (simp [entryFrame, mkF, argsToLocals, Value.category]; done) | rfl
def Q2_2 (Z : State) (a : Addr) (ca : Addr) (k : ClassId) (cs : Int32) (x0 : Int32) (x1 : Int32) (h0 : Heap) (n0 : Nat) (v : Option Value) (h : Heap) (L : List Loc) : Prop := v = none ∧ Fr n0 L ∧ Keep h0 h [a]
set_option maxRecDepth 65536 in
set_option maxHeartbeats 40000000 in
theorem rm2_2 (l : Launch) (Z : State) (a0 : Array Value) (hw : ∀ d ∈ tables_1, d.before a0 Z = true) (ws : List Jvm.Cond) (a : Addr) (ca : Addr) (k : ClassId) (cs : Int32) (x0 : Int32) (x1 : Int32) (h0 : Heap) (n0 : Nat) (Z0 : n0 ≤ h0.size) (O0 : Old Z n0 h0) (Fv : Fld Z h0 a "java/lang/String" "value" "[B" .null) (Fc : Fld Z h0 a "java/lang/String" "coder" "B" (.int (0 : Int32))) (Ea : Exa Z h0 a "java/lang/String") (ga : n0 ≤ a) (Va : Arv Z h0 ca k .char (2 : Int32) [.int x0, .int x1] (.int (0 : Int32))) (nac : a ≠ ca) (S_CS : Sta Z Z.heap "java/lang/String" "COMPACT_STRINGS" "Z" (.int cs)) (hcs : ¬ cs = 0) (hb0 : ¬ (255 : Int32) < x0) (hb1 : ¬ (255 : Int32) < x1) :
    MetFree l (⟨"java/lang/String", "<init>", "([C)V"⟩ : MethodName) (head1 (Jvm.Cond.code (⟨"java/lang/String", "<init>", "([C)V"⟩ : MethodName) jdk_42_method_3_code 2 ((Option.none : Option FieldType)) :: ws) ({ frames := 3, cells := 1, slots := 2, locals := 52 } : Room)) (fun aa U => aa = #[(.ref a), (.ref ca)] ∧ Z.Warmed39 U.vm ∧ U.heap = h0) (fun _ _ _ _ _ => True) (fun _ U ou U' => ∃ v L, ou = .returned v ∧ Q2_2 Z a ca k cs x0 x1 h0 n0 v U'.heap L ∧ FrameEnd U ou U' L ({ frames := 3, cells := 1, slots := 2, locals := 52 } : Room).cells ({ frames := 3, cells := 1, slots := 2, locals := 52 } : Room).slots) := by
  refine MetFree.of_bodySF (plainFor_of_name pn_java_lang_String) hisR ?_
  intro pg e s m args below meth c s₁ Bd hml0 hP hK
  obtain ⟨rfl, hZ, hh⟩ := hP
  have hx := Bd.exec
  have hby := Bd.bytes
  have hml : c.maxLocals = 2 := hml0
  have hown : s.vm.findClass "java/lang/String" = some m.cls := findClass_of_methodNamed Bd.named
  have hnm := (name_of_methodNamed Bd.named Bd.method).1
  have X0 : Stand pg l e ({ frames := 3, cells := 1, slots := 2, locals := 52 } : Room) s m #[(.ref a), (.ref ca)] below meth c s₁ [] 0 0 := Stand.of_body Bd
  have e0 : s₁.heap = h0 := by rw [← hh, Bd.state]; rfl
  have N0 := Fr.nil n0
  have K0 : Keep h0 h0 [a] := Keep.refl _ _
  show own_Go pg.tables e below (fun ou U' => ∃ v L, ou = .returned v ∧ Q2_2 Z a ca k cs x0 x1 h0 n0 v U'.heap L ∧ FrameEnd s ou U' L ({ frames := 3, cells := 1, slots := 2, locals := 52 } : Room).cells ({ frames := 3, cells := 1, slots := 2, locals := 52 } : Room).slots) (s₁.setTop (entryFrame m #[(.ref a), (.ref ca)] 2))
  refine own_go (S' := s₁.setTop (mkF m 0 #[.val (.ref a), .val (.ref ca)] [])) (fun tg kk => castTop (ef2_2 m a ca) kk) ?_
  refine own_go (S' := s₁.setTop (mkF m 1 #[.val (.ref a), .val (.ref ca)] [(.ref a)])) (fun tg kk => XS.aloadN X0.here hx rfl (hb hby d2_0) rfl rfl kk) ?_
  refine own_go (S' := s₁.setTop (mkF m 2 #[.val (.ref a), .val (.ref ca)] [(.ref ca), (.ref a)])) (fun tg kk => XS.aloadN X0.here hx rfl (hb hby d2_1) rfl rfl kk) ?_
  refine own_go (S' := s₁.setTop (mkF m 3 #[.val (.ref a), .val (.ref ca)] [(.int (0 : Int32)), (.ref ca), (.ref a)])) (fun tg kk => XT.iconstV X0.here hx rfl (0 : Int32) (hb hby d2_2) (by decide) kk) ?_
  refine own_go (S' := s₁.setTop (mkF m 4 #[.val (.ref a), .val (.ref ca)] [(.ref ca), (.int (0 : Int32)), (.ref ca), (.ref a)])) (fun tg kk => XS.aloadN X0.here hx rfl (hb hby d2_3) rfl rfl kk) ?_
  obtain ⟨cl1, Ar1, q1_1, S1, q3_1, H1, G1⟩ := id Va
  refine own_go (S' := s₁.setTop (mkF m 5 #[.val (.ref a), .val (.ref ca)] [(.int (2 : Int32)), (.int (0 : Int32)), (.ref ca), (.ref a)])) (fun tg kk => X0.arraylength hx (cell := cl1) (by rw [e0]; exact Ar1.1) (State.isArrayOf_alike hZ.alike Ar1.2.1) (g := (mkF m 4 #[.val (.ref a), .val (.ref ca)] [(.ref ca), (.int (0 : Int32)), (.ref ca), (.ref a)])) rfl rfl (hb hby d2_4) tg (by rw [len_of S1 q3_1]; exact kk)) ?_
  refine own_go (S' := s₁.setTop (mkF m 6 #[.val (.ref a), .val (.ref ca)] [.null, (.int (2 : Int32)), (.int (0 : Int32)), (.ref ca), (.ref a)])) (fun tg kk => XS.aconstNull X0.here hx rfl (hb hby d2_5) kk) ?_
  obtain ⟨v2, _, ⟨T2, L2, k2, n2⟩, -, X2, ⟨Lc2, hQ2, l2, y2, z2⟩, st2⟩ := X0.specialBack hx (y := (⟨"java/lang/String", "<init>", "([CIILjava/lang/Void;)V"⟩ : MethodName)) rfl hown (mvT hZ (hw _ (List.mem_of_getElem? (i := 11) rfl))) (mvT hZ (hw _ (List.mem_of_getElem? (i := 12) rfl))) (mvT hZ (hw _ (List.mem_of_getElem? (i := 14) rfl))) (by decide) (backOf (W := 0) (rm3_2 l Z a0 hw [] a ca k cs x0 x1 h0 n0 Z0 O0 Fv Fc Ea ga Va nac S_CS hcs hb0 hb1) hZ (hw _ (List.mem_of_getElem? (i := 14) rfl)) (hw _ (List.mem_of_getElem? (i := 6) rfl)) (by decide) (by decide)) (g := (mkF m 6 #[.val (.ref a), .val (.ref ca)] [.null, (.int (2 : Int32)), (.int (0 : Int32)), (.ref ca), (.ref a)])) rfl (by rw [hml]; rfl) (Steps.refl _) (a := a) (argsL := [(.ref ca), (.int (0 : Int32)), (.int (2 : Int32)), .null]) (rest := []) (lenOf pd___CIILjava_lang_Void__V rfl) rfl (by show 2 * 0 + _ ≤ _; exact Nat.le_of_eq rfl) (hb hby d2_6) (fun _ _ => ⟨rfl, e0, (by decide : 0 + 1 ≤ _), (by decide : 0 + 2 ≤ _)⟩)
  dsimp only [Pt.U, Pt.locs, Pt.cells, Pt.slots] at X2 l2 y2 z2 st2 hQ2
  subst l2 y2 z2
  obtain ⟨rfl, M3, K2⟩ := hQ2
  have N3 := Fr.app N0 M3
  obtain ⟨h2, e2⟩ : ∃ z, T2.heap = z := ⟨_, rfl⟩
  rw [e2] at K2 
  have E4 : Exa Z h2 a "java/lang/String" := Ea.keep K2
  have A5 := Va.keep K2 (ninS (Ne.symm nac) nin0)
  have O6 : Old Z n0 h2 := O0.keep K2 (allS ga all0)
  have Z7 : n0 ≤ h2.size := Nat.le_trans Z0 K2.1
  have K8 : Keep h0 h2 [a] := K0.trans K2 (allS (Or.inl (List.mem_of_getElem? (i := 0) rfl)) all0)
  refine own_to (S' := T2.setTop (mkF m 9 #[.val (.ref a), .val (.ref ca)] [])) st2 ?_
  obtain ⟨fs, hr, hrun, hended, hW, hsame⟩ := X2.leave (v := none) (fun _ => rfl)
  refine ⟨_, _, X2.returnOut hx Bd.returns (hb hby d2_9) hr, hrun, hended, _, _, rfl, ?_, ⟨_, rfl⟩, hW, hsame.mono (by decide) (by decide)⟩
  show Q2_2 Z a ca k cs x0 x1 h0 n0 none T2.heap _
  rw [e2]
  exact ⟨rfl, N3, K8⟩
theorem ef22_3 (m : MethodId) (x0 : Addr) (x1 : Int32) (x2 : Addr) (x3 : Int32) (x4 : Int32) : entryFrame m #[(.ref x0), (.int x1), (.ref x2), (.int x3), (.int x4)] 7 = mkF m 0 #[.val (.ref x0), .val (.int x1), .val (.ref x2), .val (.int x3), .val (.int x4), .unset, .unset] [] := by first | (simp [entryFrame, mkF, argsToLocals, Value.category]; done) | rfl
def Q22_3 (Z : State) (ca : Addr) (k : ClassId) (ba : Addr) (kb : ClassId) (x0 : Int32) (x1 : Int32) (x2 : Int32) (h0 : Heap) (n0 : Nat) (v : Option Value) (h : Heap) (L : List Loc) : Prop := v = some (.int (3 : Int32)) ∧ Fr n0 L ∧ Keep h0 h [ba]
set_option maxRecDepth 65536 in
set_option maxHeartbeats 40000000 in
theorem rm22_3 (l : Launch) (Z : State) (a0 : Array Value) (hw : ∀ d ∈ tables_1, d.before a0 Z = true) (ws : List Jvm.Cond) (ca : Addr) (k : ClassId) (ba : Addr) (kb : ClassId) (x0 : Int32) (x1 : Int32) (x2 : Int32) (h0 : Heap) (n0 : Nat) (Z0 : n0 ≤ h0.size) (Va : Arv Z h0 ca k .char (3 : Int32) [.int x0, .int x1, .int x2] (.int (0 : Int32))) (Vb : Arv Z h0 ba kb .byte (3 : Int32) [.int (0 : Int32), .int (0 : Int32), .int (0 : Int32)] (.int (0 : Int32))) (gb : n0 ≤ ba) (ncb : ca ≠ ba) (hb0 : ¬ (255 : Int32) < x0) (hb1 : ¬ (255 : Int32) < x1) (hb2 : ¬ (255 : Int32) < x2) :
    MetFree l (⟨"java/lang/StringUTF16", "compress", "([CI[BII)I"⟩ : MethodName) (head1 (Jvm.Cond.code (⟨"java/lang/StringUTF16", "compress", "([CI[BII)I"⟩ : MethodName) jdk_52_method_21_code 7 ((Option.some FieldType.int)) :: ws) ({ frames := 0, cells := 0, slots := 0, locals := 0 } : Room)) (fun aa U => aa = #[(.ref ca), (.int (0 : Int32)), (.ref ba), (.int (0 : Int32)), (.int (3 : Int32))] ∧ Z.Warmed39 U.vm ∧ U.heap = h0) (fun _ _ _ _ _ => True) (fun _ U ou U' => ∃ v L, ou = .returned v ∧ Q22_3 Z ca k ba kb x0 x1 x2 h0 n0 v U'.heap L ∧ FrameEnd U ou U' L ({ frames := 0, cells := 0, slots := 0, locals := 0 } : Room).cells ({ frames := 0, cells := 0, slots := 0, locals := 0 } : Room).slots) := by
  refine MetFree.of_bodySF (plainFor_of_name pn_java_lang_StringUTF16) hisR ?_
  intro pg e s m args below meth c s₁ Bd hml0 hP hK
  obtain ⟨rfl, hZ, hh⟩ := hP
  have hx := Bd.exec
  have hby := Bd.bytes
  have hml : c.maxLocals = 7 := hml0
  have hown : s.vm.findClass "java/lang/StringUTF16" = some m.cls := findClass_of_methodNamed Bd.named
  have hnm := (name_of_methodNamed Bd.named Bd.method).1
  have X0 : Stand pg l e ({ frames := 0, cells := 0, slots := 0, locals := 0 } : Room) s m #[(.ref ca), (.int (0 : Int32)), (.ref ba), (.int (0 : Int32)), (.int (3 : Int32))] below meth c s₁ [] 0 0 := Stand.of_body Bd
  have e0 : s₁.heap = h0 := by rw [← hh, Bd.state]; rfl
  have N0 := Fr.nil n0
  have K0 : Keep h0 h0 [ba] := Keep.refl _ _
  show own_Go pg.tables e below (fun ou U' => ∃ v L, ou = .returned v ∧ Q22_3 Z ca k ba kb x0 x1 x2 h0 n0 v U'.heap L ∧ FrameEnd s ou U' L ({ frames := 0, cells := 0, slots := 0, locals := 0 } : Room).cells ({ frames := 0, cells := 0, slots := 0, locals := 0 } : Room).slots) (s₁.setTop (entryFrame m #[(.ref ca), (.int (0 : Int32)), (.ref ba), (.int (0 : Int32)), (.int (3 : Int32))] 7))
  refine own_go (S' := s₁.setTop (mkF m 0 #[.val (.ref ca), .val (.int (0 : Int32)), .val (.ref ba), .val (.int (0 : Int32)), .val (.int (3 : Int32)), .unset, .unset] [])) (fun tg kk => castTop (ef22_3 m ca (0 : Int32) ba (0 : Int32) (3 : Int32)) kk) ?_
  refine own_go (S' := s₁.setTop (mkF m 1 #[.val (.ref ca), .val (.int (0 : Int32)), .val (.ref ba), .val (.int (0 : Int32)), .val (.int (3 : Int32)), .unset, .unset] [(.int (0 : Int32))])) (fun tg kk => XT.iconstV X0.here hx rfl (0 : Int32) (hb hby d22_0) (by decide) kk) ?_
  refine own_go (S' := s₁.setTop (mkF m 3 #[.val (.ref ca), .val (.int (0 : Int32)), .val (.ref ba), .val (.int (0 : Int32)), .val (.int (3 : Int32)), .val (.int (0 : Int32)), .unset] [])) (fun tg kk => XS.istore X0.here hx rfl (hb hby d22_1) rfl (l' := #[.val (.ref ca), .val (.int (0 : Int32)), .val (.ref ba), .val (.int (0 : Int32)), .val (.int (3 : Int32)), .val (.int (0 : Int32)), .unset]) rfl kk) ?_
  refine own_go (S' := s₁.setTop (mkF m 5 #[.val (.ref ca), .val (.int (0 : Int32)), .val (.ref ba), .val (.int (0 : Int32)), .val (.int (3 : Int32)), .val (.int (0 : Int32)), .unset] [(.int (0 : Int32))])) (fun tg kk => XS.iload X0.here hx rfl (hb hby d22_3) rfl kk) ?_
  refine own_go (S' := s₁.setTop (mkF m 7 #[.val (.ref ca), .val (.int (0 : Int32)), .val (.ref ba), .val (.int (0 : Int32)), .val (.int (3 : Int32)), .val (.int (0 : Int32)), .unset] [(.int (3 : Int32)), (.int (0 : Int32))])) (fun tg kk => XS.iload X0.here hx rfl (hb hby d22_5) rfl kk) ?_
  refine own_go (S' := s₁.setTop (mkF m 10 #[.val (.ref ca), .val (.int (0 : Int32)), .val (.ref ba), .val (.int (0 : Int32)), .val (.int (3 : Int32)), .val (.int (0 : Int32)), .unset] [])) (fun tg kk => XS.icmpNo X0.here hx rfl (hb hby d22_7) rfl (XT.ii_ge_f (by decide)) kk) ?_
  refine own_go (S' := s₁.setTop (mkF m 11 #[.val (.ref ca), .val (.int (0 : Int32)), .val (.ref ba), .val (.int (0 : Int32)), .val (.int (3 : Int32)), .val (.int (0 : Int32)), .unset] [(.ref ca)])) (fun tg kk => XS.aloadN X0.here hx rfl (hb hby d22_10) rfl rfl kk) ?_
  refine own_go (S' := s₁.setTop (mkF m 12 #[.val (.ref ca), .val (.int (0 : Int32)), .val (.ref ba), .val (.int (0 : Int32)), .val (.int (3 : Int32)), .val (.int (0 : Int32)), .unset] [(.int (0 : Int32)), (.ref ca)])) (fun tg kk => XS.iloadN X0.here hx rfl (hb hby d22_11) rfl kk) ?_
  obtain ⟨cl1, Ar1, q1_1, S1, q3_1, H1, G1⟩ := id Va
  have hj1 := inb_of (j := (0 : Int32)) S1 ⟨by decide, by decide⟩
  have hv1 : cl1.slots[((0 : Int32)).toNatClampNeg]? = some (.int x0) := Has.at H1 hj1 (by rfl)
  refine own_go (S' := s₁.setTop (mkF m 13 #[.val (.ref ca), .val (.int (0 : Int32)), .val (.ref ba), .val (.int (0 : Int32)), .val (.int (3 : Int32)), .val (.int (0 : Int32)), .unset] [(.int x0)])) (fun tg kk => X0.caload hx (by rw [e0]; exact Ar1.1) (State.isArrayOf_alike hZ.alike Ar1.2.1) Ar1.2.2 hj1 hv1 (g := (mkF m 12 #[.val (.ref ca), .val (.int (0 : Int32)), .val (.ref ba), .val (.int (0 : Int32)), .val (.int (3 : Int32)), .val (.int (0 : Int32)), .unset] [(.int (0 : Int32)), (.ref ca)])) rfl rfl (hb hby d22_12) tg kk) ?_
  refine own_go (S' := s₁.setTop (mkF m 15 #[.val (.ref ca), .val (.int (0 : Int32)), .val (.ref ba), .val (.int (0 : Int32)), .val (.int (3 : Int32)), .val (.int (0 : Int32)), .val (.int x0)] [])) (fun tg kk => XS.istore X0.here hx rfl (hb hby d22_13) rfl (l' := #[.val (.ref ca), .val (.int (0 : Int32)), .val (.ref ba), .val (.int (0 : Int32)), .val (.int (3 : Int32)), .val (.int (0 : Int32)), .val (.int x0)]) rfl kk) ?_
  refine own_go (S' := s₁.setTop (mkF m 17 #[.val (.ref ca), .val (.int (0 : Int32)), .val (.ref ba), .val (.int (0 : Int32)), .val (.int (3 : Int32)), .val (.int (0 : Int32)), .val (.int x0)] [(.int x0)])) (fun tg kk => XS.iload X0.here hx rfl (hb hby d22_15) rfl kk) ?_
  refine own_go (S' := s₁.setTop (mkF m 20 #[.val (.ref ca), .val (.int (0 : Int32)), .val (.ref ba), .val (.int (0 : Int32)), .val (.int (3 : Int32)), .val (.int (0 : Int32)), .val (.int x0)] [(.int (255 : Int32)), (.int x0)])) (fun tg kk => XT.sipushV X0.here hx rfl (255 : Int32) (hb hby d22_17) (by decide) kk) ?_
  refine own_go (S' := s₁.setTop (mkF m 26 #[.val (.ref ca), .val (.int (0 : Int32)), .val (.ref ba), .val (.int (0 : Int32)), .val (.int (3 : Int32)), .val (.int (0 : Int32)), .val (.int x0)] [])) (fun tg kk => XS.icmpYes X0.here hx rfl (pc0 := 20) (pc' := 26) rfl (hb hby d22_20) rfl (XT.ii_le_t hb0) (by decide) (by decide) kk) ?_
  refine own_go (S' := s₁.setTop (mkF m 27 #[.val (.ref ca), .val (.int (0 : Int32)), .val (.ref ba), .val (.int (0 : Int32)), .val (.int (3 : Int32)), .val (.int (0 : Int32)), .val (.int x0)] [(.ref ba)])) (fun tg kk => XS.aloadN X0.here hx rfl (hb hby d22_26) rfl rfl kk) ?_
  refine own_go (S' := s₁.setTop (mkF m 28 #[.val (.ref ca), .val (.int (0 : Int32)), .val (.ref ba), .val (.int (0 : Int32)), .val (.int (3 : Int32)), .val (.int (0 : Int32)), .val (.int x0)] [(.int (0 : Int32)), (.ref ba)])) (fun tg kk => XS.iloadN X0.here hx rfl (hb hby d22_27) rfl kk) ?_
  refine own_go (S' := s₁.setTop (mkF m 30 #[.val (.ref ca), .val (.int (0 : Int32)), .val (.ref ba), .val (.int (0 : Int32)), .val (.int (3 : Int32)), .val (.int (0 : Int32)), .val (.int x0)] [(.int x0), (.int (0 : Int32)), (.ref ba)])) (fun tg kk => XS.iload X0.here hx rfl (hb hby d22_28) rfl kk) ?_
  refine own_go (S' := s₁.setTop (mkF m 31 #[.val (.ref ca), .val (.int (0 : Int32)), .val (.ref ba), .val (.int (0 : Int32)), .val (.int (3 : Int32)), .val (.int (0 : Int32)), .val (.int x0)] [(.int x0.toInt8.toInt32), (.int (0 : Int32)), (.ref ba)])) (fun tg kk => XT.i2b X0.here hx rfl (hb hby d22_30) rfl kk) ?_
  obtain ⟨cl2, Ar2, q1_2, S2, q3_2, H2, G2⟩ := id Vb
  have hj2 := inb_of (j := (0 : Int32)) S2 ⟨by decide, by decide⟩
  obtain ⟨T2, h2, X2, e2, W2, st2⟩ := stB X0 hx hZ e0 Ar2 hj2 (g := (mkF m 31 #[.val (.ref ca), .val (.int (0 : Int32)), .val (.ref ba), .val (.int (0 : Int32)), .val (.int (3 : Int32)), .val (.int (0 : Int32)), .val (.int x0)] [(.int x0.toInt8.toInt32), (.int (0 : Int32)), (.ref ba)])) rfl rfl (hb hby d22_31)
  refine own_go (S' := T2.setTop (mkF m 32 #[.val (.ref ca), .val (.int (0 : Int32)), .val (.ref ba), .val (.int (0 : Int32)), .val (.int (3 : Int32)), .val (.int (0 : Int32)), .val (.int x0)] [])) (st2) ?_
  have N2 := Fr.snoc X2 N0 gb
  have A3 := Va.other W2 ncb
  have Z5 : n0 ≤ h2.size := by rw [W2.size]; exact Z0
  have K6 : Keep h0 h2 [ba] := K0.wr W2 (Or.inl (List.mem_of_getElem? (i := 0) rfl))
  have V2 : Arv Z h2 ba kb .byte (3 : Int32) [(.int (nar .byte x0.toInt8.toInt32)), (.int (0 : Int32)), (.int (0 : Int32))] (.int (0 : Int32)) := Arv.set Ar2 q1_2 S2 q3_2 H2 G2 (fits_nar_byte x0.toInt8.toInt32) W2 0 (by decide) (by show 0 < 3; decide)
  refine own_go (S' := T2.setTop (mkF m 35 #[.val (.ref ca), .val (.int (1 : Int32)), .val (.ref ba), .val (.int (0 : Int32)), .val (.int (3 : Int32)), .val (.int (0 : Int32)), .val (.int x0)] [])) (fun tg kk => XT.iincV X2.here hx rfl (1 : Int32) (hb hby d22_32) (by decide) rfl (l' := #[.val (.ref ca), .val (.int (1 : Int32)), .val (.ref ba), .val (.int (0 : Int32)), .val (.int (3 : Int32)), .val (.int (0 : Int32)), .val (.int x0)]) rfl kk) ?_
  refine own_go (S' := T2.setTop (mkF m 38 #[.val (.ref ca), .val (.int (1 : Int32)), .val (.ref ba), .val (.int (1 : Int32)), .val (.int (3 : Int32)), .val (.int (0 : Int32)), .val (.int x0)] [])) (fun tg kk => XT.iincV X2.here hx rfl (1 : Int32) (hb hby d22_35) (by decide) rfl (l' := #[.val (.ref ca), .val (.int (1 : Int32)), .val (.ref ba), .val (.int (1 : Int32)), .val (.int (3 : Int32)), .val (.int (0 : Int32)), .val (.int x0)]) rfl kk) ?_
  refine own_go (S' := T2.setTop (mkF m 41 #[.val (.ref ca), .val (.int (1 : Int32)), .val (.ref ba), .val (.int (1 : Int32)), .val (.int (3 : Int32)), .val (.int (1 : Int32)), .val (.int x0)] [])) (fun tg kk => XT.iincV X2.here hx rfl (1 : Int32) (hb hby d22_38) (by decide) rfl (l' := #[.val (.ref ca), .val (.int (1 : Int32)), .val (.ref ba), .val (.int (1 : Int32)), .val (.int (3 : Int32)), .val (.int (1 : Int32)), .val (.int x0)]) rfl kk) ?_
  refine own_go (S' := T2.setTop (mkF m 3 #[.val (.ref ca), .val (.int (1 : Int32)), .val (.ref ba), .val (.int (1 : Int32)), .val (.int (3 : Int32)), .val (.int (1 : Int32)), .val (.int x0)] [])) (fun tg kk => XS.goto X2.here hx rfl (pc0 := 41) (pc' := 3) rfl (hb hby d22_41) (by decide) (by decide) kk) ?_
  refine own_go (S' := T2.setTop (mkF m 5 #[.val (.ref ca), .val (.int (1 : Int32)), .val (.ref ba), .val (.int (1 : Int32)), .val (.int (3 : Int32)), .val (.int (1 : Int32)), .val (.int x0)] [(.int (1 : Int32))])) (fun tg kk => XS.iload X2.here hx rfl (hb hby d22_3) rfl kk) ?_
  refine own_go (S' := T2.setTop (mkF m 7 #[.val (.ref ca), .val (.int (1 : Int32)), .val (.ref ba), .val (.int (1 : Int32)), .val (.int (3 : Int32)), .val (.int (1 : Int32)), .val (.int x0)] [(.int (3 : Int32)), (.int (1 : Int32))])) (fun tg kk => XS.iload X2.here hx rfl (hb hby d22_5) rfl kk) ?_
  refine own_go (S' := T2.setTop (mkF m 10 #[.val (.ref ca), .val (.int (1 : Int32)), .val (.ref ba), .val (.int (1 : Int32)), .val (.int (3 : Int32)), .val (.int (1 : Int32)), .val (.int x0)] [])) (fun tg kk => XS.icmpNo X2.here hx rfl (hb hby d22_7) rfl (XT.ii_ge_f (by decide)) kk) ?_
  refine own_go (S' := T2.setTop (mkF m 11 #[.val (.ref ca), .val (.int (1 : Int32)), .val (.ref ba), .val (.int (1 : Int32)), .val (.int (3 : Int32)), .val (.int (1 : Int32)), .val (.int x0)] [(.ref ca)])) (fun tg kk => XS.aloadN X2.here hx rfl (hb hby d22_10) rfl rfl kk) ?_
  refine own_go (S' := T2.setTop (mkF m 12 #[.val (.ref ca), .val (.int (1 : Int32)), .val (.ref ba), .val (.int (1 : Int32)), .val (.int (3 : Int32)), .val (.int (1 : Int32)), .val (.int x0)] [(.int (1 : Int32)), (.ref ca)])) (fun tg kk => XS.iloadN X2.here hx rfl (hb hby d22_11) rfl kk) ?_
  obtain ⟨cl7, Ar7, q1_7, S7, q3_7, H7, G7⟩ := id A3
  have hj7 := inb_of (j := (1 : Int32)) S7 ⟨by decide, by decide⟩
  have hv7 : cl7.slots[((1 : Int32)).toNatClampNeg]? = some (.int x1) := Has.at H7 hj7 (by rfl)
  refine own_go (S' := T2.setTop (mkF m 13 #[.val (.ref ca), .val (.int (1 : Int32)), .val (.ref ba), .val (.int (1 : Int32)), .val (.int (3 : Int32)), .val (.int (1 : Int32)), .val (.int x0)] [(.int x1)])) (fun tg kk => X2.caload hx (by rw [e2]; exact Ar7.1) (State.isArrayOf_alike hZ.alike Ar7.2.1) Ar7.2.2 hj7 hv7 (g := (mkF m 12 #[.val (.ref ca), .val (.int (1 : Int32)), .val (.ref ba), .val (.int (1 : Int32)), .val (.int (3 : Int32)), .val (.int (1 : Int32)), .val (.int x0)] [(.int (1 : Int32)), (.ref ca)])) rfl rfl (hb hby d22_12) tg kk) ?_
  refine own_go (S' := T2.setTop (mkF m 15 #[.val (.ref ca), .val (.int (1 : Int32)), .val (.ref ba), .val (.int (1 : Int32)), .val (.int (3 : Int32)), .val (.int (1 : Int32)), .val (.int x1)] [])) (fun tg kk => XS.istore X2.here hx rfl (hb hby d22_13) rfl (l' := #[.val (.ref ca), .val (.int (1 : Int32)), .val (.ref ba), .val (.int (1 : Int32)), .val (.int (3 : Int32)), .val (.int (1 : Int32)), .val (.int x1)]) rfl kk) ?_
  refine own_go (S' := T2.setTop (mkF m 17 #[.val (.ref ca), .val (.int (1 : Int32)), .val (.ref ba), .val (.int (1 : Int32)), .val (.int (3 : Int32)), .val (.int (1 : Int32)), .val (.int x1)] [(.int x1)])) (fun tg kk => XS.iload X2.here hx rfl (hb hby d22_15) rfl kk) ?_
  refine own_go (S' := T2.setTop (mkF m 20 #[.val (.ref ca), .val (.int (1 : Int32)), .val (.ref ba), .val (.int (1 : Int32)), .val (.int (3 : Int32)), .val (.int (1 : Int32)), .val (.int x1)] [(.int (255 : Int32)), (.int x1)])) (fun tg kk => XT.sipushV X2.here hx rfl (255 : Int32) (hb hby d22_17) (by decide) kk) ?_
  refine own_go (S' := T2.setTop (mkF m 26 #[.val (.ref ca), .val (.int (1 : Int32)), .val (.ref ba), .val (.int (1 : Int32)), .val (.int (3 : Int32)), .val (.int (1 : Int32)), .val (.int x1)] [])) (fun tg kk => XS.icmpYes X2.here hx rfl (pc0 := 20) (pc' := 26) rfl (hb hby d22_20) rfl (XT.ii_le_t hb1) (by decide) (by decide) kk) ?_
  refine own_go (S' := T2.setTop (mkF m 27 #[.val (.ref ca), .val (.int (1 : Int32)), .val (.ref ba), .val (.int (1 : Int32)), .val (.int (3 : Int32)), .val (.int (1 : Int32)), .val (.int x1)] [(.ref ba)])) (fun tg kk => XS.aloadN X2.here hx rfl (hb hby d22_26) rfl rfl kk) ?_
  refine own_go (S' := T2.setTop (mkF m 28 #[.val (.ref ca), .val (.int (1 : Int32)), .val (.ref ba), .val (.int (1 : Int32)), .val (.int (3 : Int32)), .val (.int (1 : Int32)), .val (.int x1)] [(.int (1 : Int32)), (.ref ba)])) (fun tg kk => XS.iloadN X2.here hx rfl (hb hby d22_27) rfl kk) ?_
  refine own_go (S' := T2.setTop (mkF m 30 #[.val (.ref ca), .val (.int (1 : Int32)), .val (.ref ba), .val (.int (1 : Int32)), .val (.int (3 : Int32)), .val (.int (1 : Int32)), .val (.int x1)] [(.int x1), (.int (1 : Int32)), (.ref ba)])) (fun tg kk => XS.iload X2.here hx rfl (hb hby d22_28) rfl kk) ?_
  refine own_go (S' := T2.setTop (mkF m 31 #[.val (.ref ca), .val (.int (1 : Int32)), .val (.ref ba), .val (.int (1 : Int32)), .val (.int (3 : Int32)), .val (.int (1 : Int32)), .val (.int x1)] [(.int x1.toInt8.toInt32), (.int (1 : Int32)), (.ref ba)])) (fun tg kk => XT.i2b X2.here hx rfl (hb hby d22_30) rfl kk) ?_
  obtain ⟨cl8, Ar8, q1_8, S8, q3_8, H8, G8⟩ := id V2
  have hj8 := inb_of (j := (1 : Int32)) S8 ⟨by decide, by decide⟩
  obtain ⟨T8, h8, X8, e8, W8, st8⟩ := stB X2 hx hZ e2 Ar8 hj8 (g := (mkF m 31 #[.val (.ref ca), .val (.int (1 : Int32)), .val (.ref ba), .val (.int (1 : Int32)), .val (.int (3 : Int32)), .val (.int (1 : Int32)), .val (.int x1)] [(.int x1.toInt8.toInt32), (.int (1 : Int32)), (.ref ba)])) rfl rfl (hb hby d22_31)
  refine own_go (S' := T8.setTop (mkF m 32 #[.val (.ref ca), .val (.int (1 : Int32)), .val (.ref ba), .val (.int (1 : Int32)), .val (.int (3 : Int32)), .val (.int (1 : Int32)), .val (.int x1)] [])) (st8) ?_
  have N8 := Fr.snoc X8 N2 gb
  have A9 := A3.other W8 ncb
  have Z11 : n0 ≤ h8.size := by rw [W8.size]; exact Z5
  have K12 : Keep h0 h8 [ba] := K6.wr W8 (Or.inl (List.mem_of_getElem? (i := 0) rfl))
  have V8 : Arv Z h8 ba kb .byte (3 : Int32) [(.int (nar .byte x0.toInt8.toInt32)), (.int (nar .byte x1.toInt8.toInt32)), (.int (0 : Int32))] (.int (0 : Int32)) := Arv.set Ar8 q1_8 S8 q3_8 H8 G8 (fits_nar_byte x1.toInt8.toInt32) W8 1 (by decide) (by show 1 < 3; decide)
  refine own_go (S' := T8.setTop (mkF m 35 #[.val (.ref ca), .val (.int (2 : Int32)), .val (.ref ba), .val (.int (1 : Int32)), .val (.int (3 : Int32)), .val (.int (1 : Int32)), .val (.int x1)] [])) (fun tg kk => XT.iincV X8.here hx rfl (1 : Int32) (hb hby d22_32) (by decide) rfl (l' := #[.val (.ref ca), .val (.int (2 : Int32)), .val (.ref ba), .val (.int (1 : Int32)), .val (.int (3 : Int32)), .val (.int (1 : Int32)), .val (.int x1)]) rfl kk) ?_
  refine own_go (S' := T8.setTop (mkF m 38 #[.val (.ref ca), .val (.int (2 : Int32)), .val (.ref ba), .val (.int (2 : Int32)), .val (.int (3 : Int32)), .val (.int (1 : Int32)), .val (.int x1)] [])) (fun tg kk => XT.iincV X8.here hx rfl (1 : Int32) (hb hby d22_35) (by decide) rfl (l' := #[.val (.ref ca), .val (.int (2 : Int32)), .val (.ref ba), .val (.int (2 : Int32)), .val (.int (3 : Int32)), .val (.int (1 : Int32)), .val (.int x1)]) rfl kk) ?_
  refine own_go (S' := T8.setTop (mkF m 41 #[.val (.ref ca), .val (.int (2 : Int32)), .val (.ref ba), .val (.int (2 : Int32)), .val (.int (3 : Int32)), .val (.int (2 : Int32)), .val (.int x1)] [])) (fun tg kk => XT.iincV X8.here hx rfl (1 : Int32) (hb hby d22_38) (by decide) rfl (l' := #[.val (.ref ca), .val (.int (2 : Int32)), .val (.ref ba), .val (.int (2 : Int32)), .val (.int (3 : Int32)), .val (.int (2 : Int32)), .val (.int x1)]) rfl kk) ?_
  refine own_go (S' := T8.setTop (mkF m 3 #[.val (.ref ca), .val (.int (2 : Int32)), .val (.ref ba), .val (.int (2 : Int32)), .val (.int (3 : Int32)), .val (.int (2 : Int32)), .val (.int x1)] [])) (fun tg kk => XS.goto X8.here hx rfl (pc0 := 41) (pc' := 3) rfl (hb hby d22_41) (by decide) (by decide) kk) ?_
  refine own_go (S' := T8.setTop (mkF m 5 #[.val (.ref ca), .val (.int (2 : Int32)), .val (.ref ba), .val (.int (2 : Int32)), .val (.int (3 : Int32)), .val (.int (2 : Int32)), .val (.int x1)] [(.int (2 : Int32))])) (fun tg kk => XS.iload X8.here hx rfl (hb hby d22_3) rfl kk) ?_
  refine own_go (S' := T8.setTop (mkF m 7 #[.val (.ref ca), .val (.int (2 : Int32)), .val (.ref ba), .val (.int (2 : Int32)), .val (.int (3 : Int32)), .val (.int (2 : Int32)), .val (.int x1)] [(.int (3 : Int32)), (.int (2 : Int32))])) (fun tg kk => XS.iload X8.here hx rfl (hb hby d22_5) rfl kk) ?_
  refine own_go (S' := T8.setTop (mkF m 10 #[.val (.ref ca), .val (.int (2 : Int32)), .val (.ref ba), .val (.int (2 : Int32)), .val (.int (3 : Int32)), .val (.int (2 : Int32)), .val (.int x1)] [])) (fun tg kk => XS.icmpNo X8.here hx rfl (hb hby d22_7) rfl (XT.ii_ge_f (by decide)) kk) ?_
  refine own_go (S' := T8.setTop (mkF m 11 #[.val (.ref ca), .val (.int (2 : Int32)), .val (.ref ba), .val (.int (2 : Int32)), .val (.int (3 : Int32)), .val (.int (2 : Int32)), .val (.int x1)] [(.ref ca)])) (fun tg kk => XS.aloadN X8.here hx rfl (hb hby d22_10) rfl rfl kk) ?_
  refine own_go (S' := T8.setTop (mkF m 12 #[.val (.ref ca), .val (.int (2 : Int32)), .val (.ref ba), .val (.int (2 : Int32)), .val (.int (3 : Int32)), .val (.int (2 : Int32)), .val (.int x1)] [(.int (2 : Int32)), (.ref ca)])) (fun tg kk => XS.iloadN X8.here hx rfl (hb hby d22_11) rfl kk) ?_
  obtain ⟨cl13, Ar13, q1_13, S13, q3_13, H13, G13⟩ := id A9
  have hj13 := inb_of (j := (2 : Int32)) S13 ⟨by decide, by decide⟩
  have hv13 : cl13.slots[((2 : Int32)).toNatClampNeg]? = some (.int x2) := Has.at H13 hj13 (by rfl)
  refine own_go (S' := T8.setTop (mkF m 13 #[.val (.ref ca), .val (.int (2 : Int32)), .val (.ref ba), .val (.int (2 : Int32)), .val (.int (3 : Int32)), .val (.int (2 : Int32)), .val (.int x1)] [(.int x2)])) (fun tg kk => X8.caload hx (by rw [e8]; exact Ar13.1) (State.isArrayOf_alike hZ.alike Ar13.2.1) Ar13.2.2 hj13 hv13 (g := (mkF m 12 #[.val (.ref ca), .val (.int (2 : Int32)), .val (.ref ba), .val (.int (2 : Int32)), .val (.int (3 : Int32)), .val (.int (2 : Int32)), .val (.int x1)] [(.int (2 : Int32)), (.ref ca)])) rfl rfl (hb hby d22_12) tg kk) ?_
  refine own_go (S' := T8.setTop (mkF m 15 #[.val (.ref ca), .val (.int (2 : Int32)), .val (.ref ba), .val (.int (2 : Int32)), .val (.int (3 : Int32)), .val (.int (2 : Int32)), .val (.int x2)] [])) (fun tg kk => XS.istore X8.here hx rfl (hb hby d22_13) rfl (l' := #[.val (.ref ca), .val (.int (2 : Int32)), .val (.ref ba), .val (.int (2 : Int32)), .val (.int (3 : Int32)), .val (.int (2 : Int32)), .val (.int x2)]) rfl kk) ?_
  refine own_go (S' := T8.setTop (mkF m 17 #[.val (.ref ca), .val (.int (2 : Int32)), .val (.ref ba), .val (.int (2 : Int32)), .val (.int (3 : Int32)), .val (.int (2 : Int32)), .val (.int x2)] [(.int x2)])) (fun tg kk => XS.iload X8.here hx rfl (hb hby d22_15) rfl kk) ?_
  refine own_go (S' := T8.setTop (mkF m 20 #[.val (.ref ca), .val (.int (2 : Int32)), .val (.ref ba), .val (.int (2 : Int32)), .val (.int (3 : Int32)), .val (.int (2 : Int32)), .val (.int x2)] [(.int (255 : Int32)), (.int x2)])) (fun tg kk => XT.sipushV X8.here hx rfl (255 : Int32) (hb hby d22_17) (by decide) kk) ?_
  refine own_go (S' := T8.setTop (mkF m 26 #[.val (.ref ca), .val (.int (2 : Int32)), .val (.ref ba), .val (.int (2 : Int32)), .val (.int (3 : Int32)), .val (.int (2 : Int32)), .val (.int x2)] [])) (fun tg kk => XS.icmpYes X8.here hx rfl (pc0 := 20) (pc' := 26) rfl (hb hby d22_20) rfl (XT.ii_le_t hb2) (by decide) (by decide) kk) ?_
  refine own_go (S' := T8.setTop (mkF m 27 #[.val (.ref ca), .val (.int (2 : Int32)), .val (.ref ba), .val (.int (2 : Int32)), .val (.int (3 : Int32)), .val (.int (2 : Int32)), .val (.int x2)] [(.ref ba)])) (fun tg kk => XS.aloadN X8.here hx rfl (hb hby d22_26) rfl rfl kk) ?_
  refine own_go (S' := T8.setTop (mkF m 28 #[.val (.ref ca), .val (.int (2 : Int32)), .val (.ref ba), .val (.int (2 : Int32)), .val (.int (3 : Int32)), .val (.int (2 : Int32)), .val (.int x2)] [(.int (2 : Int32)), (.ref ba)])) (fun tg kk => XS.iloadN X8.here hx rfl (hb hby d22_27) rfl kk) ?_
  refine own_go (S' := T8.setTop (mkF m 30 #[.val (.ref ca), .val (.int (2 : Int32)), .val (.ref ba), .val (.int (2 : Int32)), .val (.int (3 : Int32)), .val (.int (2 : Int32)), .val (.int x2)] [(.int x2), (.int (2 : Int32)), (.ref ba)])) (fun tg kk => XS.iload X8.here hx rfl (hb hby d22_28) rfl kk) ?_
  refine own_go (S' := T8.setTop (mkF m 31 #[.val (.ref ca), .val (.int (2 : Int32)), .val (.ref ba), .val (.int (2 : Int32)), .val (.int (3 : Int32)), .val (.int (2 : Int32)), .val (.int x2)] [(.int x2.toInt8.toInt32), (.int (2 : Int32)), (.ref ba)])) (fun tg kk => XT.i2b X8.here hx rfl (hb hby d22_30) rfl kk) ?_
  obtain ⟨cl14, Ar14, q1_14, S14, q3_14, H14, G14⟩ := id V8
  have hj14 := inb_of (j := (2 : Int32)) S14 ⟨by decide, by decide⟩
  obtain ⟨T14, h14, X14, e14, W14, st14⟩ := stB X8 hx hZ e8 Ar14 hj14 (g := (mkF m 31 #[.val (.ref ca), .val (.int (2 : Int32)), .val (.ref ba), .val (.int (2 : Int32)), .val (.int (3 : Int32)), .val (.int (2 : Int32)), .val (.int x2)] [(.int x2.toInt8.toInt32), (.int (2 : Int32)), (.ref ba)])) rfl rfl (hb hby d22_31)
  refine own_go (S' := T14.setTop (mkF m 32 #[.val (.ref ca), .val (.int (2 : Int32)), .val (.ref ba), .val (.int (2 : Int32)), .val (.int (3 : Int32)), .val (.int (2 : Int32)), .val (.int x2)] [])) (st14) ?_
  have N14 := Fr.snoc X14 N8 gb
  have A15 := A9.other W14 ncb
  have Z17 : n0 ≤ h14.size := by rw [W14.size]; exact Z11
  have K18 : Keep h0 h14 [ba] := K12.wr W14 (Or.inl (List.mem_of_getElem? (i := 0) rfl))
  have V14 : Arv Z h14 ba kb .byte (3 : Int32) [(.int (nar .byte x0.toInt8.toInt32)), (.int (nar .byte x1.toInt8.toInt32)), (.int (nar .byte x2.toInt8.toInt32))] (.int (0 : Int32)) := Arv.set Ar14 q1_14 S14 q3_14 H14 G14 (fits_nar_byte x2.toInt8.toInt32) W14 2 (by decide) (by show 2 < 3; decide)
  refine own_go (S' := T14.setTop (mkF m 35 #[.val (.ref ca), .val (.int (3 : Int32)), .val (.ref ba), .val (.int (2 : Int32)), .val (.int (3 : Int32)), .val (.int (2 : Int32)), .val (.int x2)] [])) (fun tg kk => XT.iincV X14.here hx rfl (1 : Int32) (hb hby d22_32) (by decide) rfl (l' := #[.val (.ref ca), .val (.int (3 : Int32)), .val (.ref ba), .val (.int (2 : Int32)), .val (.int (3 : Int32)), .val (.int (2 : Int32)), .val (.int x2)]) rfl kk) ?_
  refine own_go (S' := T14.setTop (mkF m 38 #[.val (.ref ca), .val (.int (3 : Int32)), .val (.ref ba), .val (.int (3 : Int32)), .val (.int (3 : Int32)), .val (.int (2 : Int32)), .val (.int x2)] [])) (fun tg kk => XT.iincV X14.here hx rfl (1 : Int32) (hb hby d22_35) (by decide) rfl (l' := #[.val (.ref ca), .val (.int (3 : Int32)), .val (.ref ba), .val (.int (3 : Int32)), .val (.int (3 : Int32)), .val (.int (2 : Int32)), .val (.int x2)]) rfl kk) ?_
  refine own_go (S' := T14.setTop (mkF m 41 #[.val (.ref ca), .val (.int (3 : Int32)), .val (.ref ba), .val (.int (3 : Int32)), .val (.int (3 : Int32)), .val (.int (3 : Int32)), .val (.int x2)] [])) (fun tg kk => XT.iincV X14.here hx rfl (1 : Int32) (hb hby d22_38) (by decide) rfl (l' := #[.val (.ref ca), .val (.int (3 : Int32)), .val (.ref ba), .val (.int (3 : Int32)), .val (.int (3 : Int32)), .val (.int (3 : Int32)), .val (.int x2)]) rfl kk) ?_
  refine own_go (S' := T14.setTop (mkF m 3 #[.val (.ref ca), .val (.int (3 : Int32)), .val (.ref ba), .val (.int (3 : Int32)), .val (.int (3 : Int32)), .val (.int (3 : Int32)), .val (.int x2)] [])) (fun tg kk => XS.goto X14.here hx rfl (pc0 := 41) (pc' := 3) rfl (hb hby d22_41) (by decide) (by decide) kk) ?_
  refine own_go (S' := T14.setTop (mkF m 5 #[.val (.ref ca), .val (.int (3 : Int32)), .val (.ref ba), .val (.int (3 : Int32)), .val (.int (3 : Int32)), .val (.int (3 : Int32)), .val (.int x2)] [(.int (3 : Int32))])) (fun tg kk => XS.iload X14.here hx rfl (hb hby d22_3) rfl kk) ?_
  refine own_go (S' := T14.setTop (mkF m 7 #[.val (.ref ca), .val (.int (3 : Int32)), .val (.ref ba), .val (.int (3 : Int32)), .val (.int (3 : Int32)), .val (.int (3 : Int32)), .val (.int x2)] [(.int (3 : Int32)), (.int (3 : Int32))])) (fun tg kk => XS.iload X14.here hx rfl (hb hby d22_5) rfl kk) ?_
  refine own_go (S' := T14.setTop (mkF m 44 #[.val (.ref ca), .val (.int (3 : Int32)), .val (.ref ba), .val (.int (3 : Int32)), .val (.int (3 : Int32)), .val (.int (3 : Int32)), .val (.int x2)] [])) (fun tg kk => XS.icmpYes X14.here hx rfl (pc0 := 7) (pc' := 44) rfl (hb hby d22_7) rfl (XT.ii_ge_t (by decide)) (by decide) (by decide) kk) ?_
  refine own_go (S' := T14.setTop (mkF m 46 #[.val (.ref ca), .val (.int (3 : Int32)), .val (.ref ba), .val (.int (3 : Int32)), .val (.int (3 : Int32)), .val (.int (3 : Int32)), .val (.int x2)] [(.int (3 : Int32))])) (fun tg kk => XS.iload X14.here hx rfl (hb hby d22_44) rfl kk) ?_
  obtain ⟨fs, hr, hrun, hended, hW, hsame⟩ := X14.leave (v := some (.int (3 : Int32))) (fun h => by rw [Bd.returns] at h; cases h)
  refine ⟨_, _, retI X14 hx Bd.returns (hb hby d22_46) hr, hrun, hended, _, _, rfl, ?_, ⟨_, rfl⟩, hW, hsame.mono (by decide) (by decide)⟩
  show Q22_3 Z ca k ba kb x0 x1 x2 h0 n0 (some (.int (3 : Int32))) T14.heap _
  rw [e14]
  exact ⟨rfl, N14, K18⟩
theorem ef21_3 (m : MethodId) (x0 : Addr) (x1 : Int32) (x2 : Int32) : entryFrame m #[(.ref x0), (.int x1), (.int x2)] 6 = mkF m 0 #[.val (.ref x0), .val (.int x1), .val (.int x2), .unset, .unset, .unset] [] := by first | (simp [entryFrame, mkF, argsToLocals, Value.category]; done) | rfl
def Q21_3 (Z : State) (ca : Addr) (k : ClassId) (x0 : Int32) (x1 : Int32) (x2 : Int32) (h0 : Heap) (n0 : Nat) (v : Option Value) (h : Heap) (L : List Loc) : Prop := ∃ (a : Addr) (cb : Cell), v = some (.ref a) ∧ Fr n0 L ∧ Keep h0 h [] ∧ Arr Z h a cb .byte ∧ cb.slots.size = 3
set_option maxRecDepth 65536 in
set_option maxHeartbeats 40000000 in
theorem rm21_3 (l : Launch) (Z : State) (a0 : Array Value) (hw : ∀ d ∈ tables_1, d.before a0 Z = true) (ws : List Jvm.Cond) (ca : Addr) (k : ClassId) (x0 : Int32) (x1 : Int32) (x2 : Int32) (h0 : Heap) (n0 : Nat) (Z0 : n0 ≤ h0.size) (Va : Arv Z h0 ca k .char (3 : Int32) [.int x0, .int x1, .int x2] (.int (0 : Int32))) (hb0 : ¬ (255 : Int32) < x0) (hb1 : ¬ (255 : Int32) < x1) (hb2 : ¬ (255 : Int32) < x2) :
    MetFree l (⟨"java/lang/StringUTF16", "compress", "([CII)[B"⟩ : MethodName) (head1 (Jvm.Cond.code (⟨"java/lang/StringUTF16", "compress", "([CII)[B"⟩ : MethodName) jdk_52_method_16_code 6 ((Option.some (FieldType.array FieldType.byte))) :: ws) ({ frames := 1, cells := 1, slots := 3, locals := 18 } : Room)) (fun aa U => aa = #[(.ref ca), (.int (0 : Int32)), (.int (3 : Int32))] ∧ Z.Warmed39 U.vm ∧ U.heap = h0) (fun _ _ _ _ _ => True) (fun _ U ou U' => ∃ v L, ou = .returned v ∧ Q21_3 Z ca k x0 x1 x2 h0 n0 v U'.heap L ∧ FrameEnd U ou U' L ({ frames := 1, cells := 1, slots := 3, locals := 18 } : Room).cells ({ frames := 1, cells := 1, slots := 3, locals := 18 } : Room).slots) := by
  refine MetFree.of_bodySF (plainFor_of_name pn_java_lang_StringUTF16) hisR ?_
  intro pg e s m args below meth c s₁ Bd hml0 hP hK
  obtain ⟨rfl, hZ, hh⟩ := hP
  have hx := Bd.exec
  have hby := Bd.bytes
  have hml : c.maxLocals = 6 := hml0
  have hown : s.vm.findClass "java/lang/StringUTF16" = some m.cls := findClass_of_methodNamed Bd.named
  have hnm := (name_of_methodNamed Bd.named Bd.method).1
  have X0 : Stand pg l e ({ frames := 1, cells := 1, slots := 3, locals := 18 } : Room) s m #[(.ref ca), (.int (0 : Int32)), (.int (3 : Int32))] below meth c s₁ [] 0 0 := Stand.of_body Bd
  have e0 : s₁.heap = h0 := by rw [← hh, Bd.state]; rfl
  have N0 := Fr.nil n0
  have K0 : Keep h0 h0 [] := Keep.refl _ _
  show own_Go pg.tables e below (fun ou U' => ∃ v L, ou = .returned v ∧ Q21_3 Z ca k x0 x1 x2 h0 n0 v U'.heap L ∧ FrameEnd s ou U' L ({ frames := 1, cells := 1, slots := 3, locals := 18 } : Room).cells ({ frames := 1, cells := 1, slots := 3, locals := 18 } : Room).slots) (s₁.setTop (entryFrame m #[(.ref ca), (.int (0 : Int32)), (.int (3 : Int32))] 6))
  refine own_go (S' := s₁.setTop (mkF m 0 #[.val (.ref ca), .val (.int (0 : Int32)), .val (.int (3 : Int32)), .unset, .unset, .unset] [])) (fun tg kk => castTop (ef21_3 m ca (0 : Int32) (3 : Int32)) kk) ?_
  refine own_go (S' := s₁.setTop (mkF m 1 #[.val (.ref ca), .val (.int (0 : Int32)), .val (.int (3 : Int32)), .unset, .unset, .unset] [(.int (3 : Int32))])) (fun tg kk => XS.iloadN X0.here hx rfl (hb hby d21_0) rfl kk) ?_
  obtain ⟨T1, h1, cA1, X1, e1, Ex1, A1, st1⟩ := newP X0 hx hZ (hw _ (List.mem_of_getElem? (i := 19) rfl)) e0 (g := (mkF m 1 #[.val (.ref ca), .val (.int (0 : Int32)), .val (.int (3 : Int32)), .unset, .unset, .unset] [(.int (3 : Int32))])) rfl (hb hby d21_1) rfl (n := (3 : Int32)) (by decide) (cap := 3) (by decide) (by decide) (by decide) (by decide)
  obtain ⟨a1, g1⟩ : ∃ z, z = h0.size := ⟨_, rfl⟩
  rw [← g1] at A1 st1
  have ne1_ca : ca ≠ a1 := by rw [g1]; exact Nat.ne_of_lt Va.lt
  have q1 : n0 ≤ a1 := by rw [g1]; exact Z0
  have r1 : h0.size ≤ a1 := by rw [g1]; exact K0.1
  have A2 := Va.ext Ex1
  have Z3 : n0 ≤ h1.size := Nat.le_trans Z0 Ex1.1
  have K4 : Keep h0 h1 [] := K0.ext Ex1
  refine own_go (S' := T1.setTop (mkF m 3 #[.val (.ref ca), .val (.int (0 : Int32)), .val (.int (3 : Int32)), .unset, .unset, .unset] [(.ref a1)])) (st1) ?_
  have V1 : Arv Z h1 a1 cA1 .byte (3 : Int32) [(.int (0 : Int32)), (.int (0 : Int32)), (.int (0 : Int32))] (.int (0 : Int32)) := (Arv.new A1 (by decide)).pad (pad_rep [] (.int (0 : Int32)) 3)
  refine own_go (S' := T1.setTop (mkF m 4 #[.val (.ref ca), .val (.int (0 : Int32)), .val (.int (3 : Int32)), .val (.ref a1), .unset, .unset] [])) (fun tg kk => XS.astoreN X1.here hx rfl (hb hby d21_3) rfl rfl (l' := #[.val (.ref ca), .val (.int (0 : Int32)), .val (.int (3 : Int32)), .val (.ref a1), .unset, .unset]) rfl kk) ?_
  refine own_go (S' := T1.setTop (mkF m 5 #[.val (.ref ca), .val (.int (0 : Int32)), .val (.int (3 : Int32)), .val (.ref a1), .unset, .unset] [(.ref ca)])) (fun tg kk => XS.aloadN X1.here hx rfl (hb hby d21_4) rfl rfl kk) ?_
  refine own_go (S' := T1.setTop (mkF m 6 #[.val (.ref ca), .val (.int (0 : Int32)), .val (.int (3 : Int32)), .val (.ref a1), .unset, .unset] [(.int (0 : Int32)), (.ref ca)])) (fun tg kk => XS.iloadN X1.here hx rfl (hb hby d21_5) rfl kk) ?_
  refine own_go (S' := T1.setTop (mkF m 7 #[.val (.ref ca), .val (.int (0 : Int32)), .val (.int (3 : Int32)), .val (.ref a1), .unset, .unset] [(.ref a1), (.int (0 : Int32)), (.ref ca)])) (fun tg kk => XS.aloadN X1.here hx rfl (hb hby d21_6) rfl rfl kk) ?_
  refine own_go (S' := T1.setTop (mkF m 8 #[.val (.ref ca), .val (.int (0 : Int32)), .val (.int (3 : Int32)), .val (.ref a1), .unset, .unset] [(.int (0 : Int32)), (.ref a1), (.int (0 : Int32)), (.ref ca)])) (fun tg kk => XT.iconstV X1.here hx rfl (0 : Int32) (hb hby d21_7) (by decide) kk) ?_
  refine own_go (S' := T1.setTop (mkF m 9 #[.val (.ref ca), .val (.int (0 : Int32)), .val (.int (3 : Int32)), .val (.ref a1), .unset, .unset] [(.int (3 : Int32)), (.int (0 : Int32)), (.ref a1), (.int (0 : Int32)), (.ref ca)])) (fun tg kk => XS.iloadN X1.here hx rfl (hb hby d21_8) rfl kk) ?_
  obtain ⟨v5, _, ⟨T5, L5, k5, n5⟩, -, X5, ⟨Lc5, hQ5, l5, y5, z5⟩, st5⟩ := Jvm.LawKit.callS X1 hx (y := (⟨"java/lang/StringUTF16", "compress", "([CI[BII)I"⟩ : MethodName)) hown (mvT hZ (hw _ (List.mem_of_getElem? (i := 123) rfl))) (mvT hZ (hw _ (List.mem_of_getElem? (i := 124) rfl))) (mvT hZ (hw _ (List.mem_of_getElem? (i := 121) rfl))) (mvT hZ (hw _ (List.mem_of_getElem? (i := 125) rfl))) (by decide) (backOf (W := 0) (rm22_3 l Z a0 hw [] ca k a1 cA1 x0 x1 x2 h1 n0 Z3 A2 V1 q1 ne1_ca hb0 hb1 hb2) hZ (hw _ (List.mem_of_getElem? (i := 125) rfl)) (hw _ (List.mem_of_getElem? (i := 121) rfl)) (by decide) (by decide)) (g := (mkF m 9 #[.val (.ref ca), .val (.int (0 : Int32)), .val (.int (3 : Int32)), .val (.ref a1), .unset, .unset] [(.int (3 : Int32)), (.int (0 : Int32)), (.ref a1), (.int (0 : Int32)), (.ref ca)])) rfl (by rw [hml]; rfl) (argsL := [(.ref ca), (.int (0 : Int32)), (.ref a1), (.int (0 : Int32)), (.int (3 : Int32))]) (rest := []) (lenOf pd___CI_BII_I rfl) rfl (by show 2 * 0 + _ ≤ _; exact Nat.le_of_eq rfl) (hb hby d21_9) (fun _ _ => ⟨rfl, e1, (by decide : 1 + 0 ≤ _), (by decide : 3 + 0 ≤ _)⟩)
  dsimp only [Pt.U, Pt.locs, Pt.cells, Pt.slots] at X5 l5 y5 z5 st5 hQ5
  subst l5 y5 z5
  obtain ⟨rfl, M6, K5⟩ := hQ5
  have N6 := Fr.app N0 M6
  obtain ⟨h5, e5⟩ : ∃ z, T5.heap = z := ⟨_, rfl⟩
  rw [e5] at K5 
  have A7 := A2.keep K5 (ninS ne1_ca nin0)
  have Z9 : n0 ≤ h5.size := Nat.le_trans Z3 K5.1
  have K10 : Keep h0 h5 [] := K4.trans K5 (allS (Or.inr r1) all0)
  obtain ⟨cb5, Ab5, Sb5⟩ : ∃ cb, Arr Z h5 a1 cb .byte ∧ cb.slots.size = 3 := by
    obtain ⟨cl, Ar, q1, S, q3, H, G⟩ := V1
    obtain ⟨c', r1, r2, r3, r4⟩ := K5.2.2 _ _ Ar.1
    exact ⟨c', ⟨r1, own_arrOf r2 r3 Ar.2.1, by rw [r3]; exact Ar.2.2⟩, r4.trans (S.trans (by decide))⟩
  refine own_go (S' := T5.setTop (mkF m 12 #[.val (.ref ca), .val (.int (0 : Int32)), .val (.int (3 : Int32)), .val (.ref a1), .unset, .unset] [(.int (3 : Int32))])) st5 ?_
  refine own_go (S' := T5.setTop (mkF m 14 #[.val (.ref ca), .val (.int (0 : Int32)), .val (.int (3 : Int32)), .val (.ref a1), .val (.int (3 : Int32)), .unset] [])) (fun tg kk => XS.istore X5.here hx rfl (hb hby d21_12) rfl (l' := #[.val (.ref ca), .val (.int (0 : Int32)), .val (.int (3 : Int32)), .val (.ref a1), .val (.int (3 : Int32)), .unset]) rfl kk) ?_
  refine own_go (S' := T5.setTop (mkF m 16 #[.val (.ref ca), .val (.int (0 : Int32)), .val (.int (3 : Int32)), .val (.ref a1), .val (.int (3 : Int32)), .unset] [(.int (3 : Int32))])) (fun tg kk => XS.iload X5.here hx rfl (hb hby d21_14) rfl kk) ?_
  refine own_go (S' := T5.setTop (mkF m 17 #[.val (.ref ca), .val (.int (0 : Int32)), .val (.int (3 : Int32)), .val (.ref a1), .val (.int (3 : Int32)), .unset] [(.int (3 : Int32)), (.int (3 : Int32))])) (fun tg kk => XS.iloadN X5.here hx rfl (hb hby d21_16) rfl kk) ?_
  refine own_go (S' := T5.setTop (mkF m 57 #[.val (.ref ca), .val (.int (0 : Int32)), .val (.int (3 : Int32)), .val (.ref a1), .val (.int (3 : Int32)), .unset] [])) (fun tg kk => XS.icmpYes X5.here hx rfl (pc0 := 17) (pc' := 57) rfl (hb hby d21_17) rfl (XT.ii_eq_t (by decide)) (by decide) (by decide) kk) ?_
  refine own_go (S' := T5.setTop (mkF m 58 #[.val (.ref ca), .val (.int (0 : Int32)), .val (.int (3 : Int32)), .val (.ref a1), .val (.int (3 : Int32)), .unset] [(.ref a1)])) (fun tg kk => XS.aloadN X5.here hx rfl (hb hby d21_57) rfl rfl kk) ?_
  obtain ⟨fs, hr, hrun, hended, hW, hsame⟩ := X5.leave (v := some (.ref a1)) (fun h => by rw [Bd.returns] at h; cases h)
  refine ⟨_, _, retOut X5 hx (i := .areturn) Bd.returns (own_narR rfl rfl) (Or.inr (Or.inr (Or.inr (Or.inr ⟨rfl, rfl, rfl⟩)))) (hb hby d21_58) hr, hrun, hended, _, _, rfl, ?_, ⟨_, rfl⟩, hW, hsame.mono (by decide) (by decide)⟩
  show Q21_3 Z ca k x0 x1 x2 h0 n0 (some (.ref a1)) T5.heap _
  rw [e5]
  exact ⟨a1, cb5, rfl, N6, K10, Ab5, Sb5⟩
theorem ef23_3 (m : MethodId) (x0 : Addr) (x1 : Int32) : entryFrame m #[(.ref x0), (.int x1)] 2 = mkF m 0 #[.val (.ref x0), .val (.int x1)] [] := by first | (simp [entryFrame, mkF, argsToLocals, Value.category]; done) | rfl
def Q23_3 (Z : State) (ba : Addr) (cb : Cell) (h0 : Heap) (n0 : Nat) (v : Option Value) (h : Heap) (L : List Loc) : Prop := v = some (.int (0 : Int32)) ∧ Fr n0 L ∧ h = h0
set_option maxRecDepth 65536 in
set_option maxHeartbeats 40000000 in
theorem rm23_3 (l : Launch) (Z : State) (a0 : Array Value) (hw : ∀ d ∈ tables_1, d.before a0 Z = true) (ws : List Jvm.Cond) (ba : Addr) (cb : Cell) (h0 : Heap) (n0 : Nat) (Z0 : n0 ≤ h0.size) (Ab : Arr Z h0 ba cb .byte) (Sb : cb.slots.size = 3) :
    MetFree l (⟨"java/lang/StringUTF16", "coderFromArrayLen", "([BI)B"⟩ : MethodName) (head1 (Jvm.Cond.code (⟨"java/lang/StringUTF16", "coderFromArrayLen", "([BI)B"⟩ : MethodName) jdk_52_method_15_code 2 ((Option.some FieldType.byte)) :: ws) ({ frames := 0, cells := 0, slots := 0, locals := 0 } : Room)) (fun aa U => aa = #[(.ref ba), (.int (3 : Int32))] ∧ Z.Warmed39 U.vm ∧ U.heap = h0) (fun _ _ _ _ _ => True) (fun _ U ou U' => ∃ v L, ou = .returned v ∧ Q23_3 Z ba cb h0 n0 v U'.heap L ∧ FrameEnd U ou U' L ({ frames := 0, cells := 0, slots := 0, locals := 0 } : Room).cells ({ frames := 0, cells := 0, slots := 0, locals := 0 } : Room).slots) := by
  refine MetFree.of_bodySF (plainFor_of_name pn_java_lang_StringUTF16) hisR ?_
  intro pg e s m args below meth c s₁ Bd hml0 hP hK
  obtain ⟨rfl, hZ, hh⟩ := hP
  have hx := Bd.exec
  have hby := Bd.bytes
  have hml : c.maxLocals = 2 := hml0
  have hown : s.vm.findClass "java/lang/StringUTF16" = some m.cls := findClass_of_methodNamed Bd.named
  have hnm := (name_of_methodNamed Bd.named Bd.method).1
  have X0 : Stand pg l e ({ frames := 0, cells := 0, slots := 0, locals := 0 } : Room) s m #[(.ref ba), (.int (3 : Int32))] below meth c s₁ [] 0 0 := Stand.of_body Bd
  have e0 : s₁.heap = h0 := by rw [← hh, Bd.state]; rfl
  have N0 := Fr.nil n0
  show own_Go pg.tables e below (fun ou U' => ∃ v L, ou = .returned v ∧ Q23_3 Z ba cb h0 n0 v U'.heap L ∧ FrameEnd s ou U' L ({ frames := 0, cells := 0, slots := 0, locals := 0 } : Room).cells ({ frames := 0, cells := 0, slots := 0, locals := 0 } : Room).slots) (s₁.setTop (entryFrame m #[(.ref ba), (.int (3 : Int32))] 2))
  refine own_go (S' := s₁.setTop (mkF m 0 #[.val (.ref ba), .val (.int (3 : Int32))] [])) (fun tg kk => castTop (ef23_3 m ba (3 : Int32)) kk) ?_
  refine own_go (S' := s₁.setTop (mkF m 1 #[.val (.ref ba), .val (.int (3 : Int32))] [(.int (3 : Int32))])) (fun tg kk => XS.iloadN X0.here hx rfl (hb hby d23_0) rfl kk) ?_
  refine own_go (S' := s₁.setTop (mkF m 2 #[.val (.ref ba), .val (.int (3 : Int32))] [(.ref ba), (.int (3 : Int32))])) (fun tg kk => XS.aloadN X0.here hx rfl (hb hby d23_1) rfl rfl kk) ?_
  refine own_go (S' := s₁.setTop (mkF m 3 #[.val (.ref ba), .val (.int (3 : Int32))] [(.int (3 : Int32)), (.int (3 : Int32))])) (fun tg kk => X0.arraylength hx (cell := cb) (by rw [e0]; exact Ab.1) (State.isArrayOf_alike hZ.alike Ab.2.1) (g := (mkF m 2 #[.val (.ref ba), .val (.int (3 : Int32))] [(.ref ba), (.int (3 : Int32))])) rfl rfl (hb hby d23_2) tg (by rw [Sb]; exact kk)) ?_
  refine own_go (S' := s₁.setTop (mkF m 4 #[.val (.ref ba), .val (.int (3 : Int32))] [(.int (0 : Int32))])) (fun tg kk => XS.isub X0.here hx rfl (hb hby d23_3) rfl (by rw [show (3 : Int32) - (3 : Int32) = (0 : Int32) from by decide]; exact kk)) ?_
  refine own_go (S' := s₁.setTop (mkF m 6 #[.val (.ref ba), .val (.int (3 : Int32))] [(.int (31 : Int32)), (.int (0 : Int32))])) (fun tg kk => XT.bipushV X0.here hx rfl (31 : Int32) (hb hby d23_4) (by decide) kk) ?_
  refine own_go (S' := s₁.setTop (mkF m 7 #[.val (.ref ba), .val (.int (3 : Int32))] [(.int (0 : Int32))])) (fun tg kk => XT.iushr X0.here hx rfl (hb hby d23_6) rfl (by rw [show (XT.ushr (0 : Int32) (31 : Int32)) = (0 : Int32) from by decide]; exact kk)) ?_
  refine own_go (S' := s₁.setTop (mkF m 8 #[.val (.ref ba), .val (.int (3 : Int32))] [(.int (0 : Int32))])) (fun tg kk => XT.i2b X0.here hx rfl (hb hby d23_7) rfl (by rw [show (0 : Int32).toInt8.toInt32 = (0 : Int32) from by decide]; exact kk)) ?_
  obtain ⟨fs, hr, hrun, hended, hW, hsame⟩ := X0.leave (v := some (.int (0 : Int32))) (fun h => by rw [Bd.returns] at h; cases h)
  refine ⟨_, _, retN X0 hx (t := .byte) Bd.returns (by simp) (hb hby d23_8) hr, hrun, hended, _, _, rfl, ?_, ⟨_, rfl⟩, hW, hsame.mono (by decide) (by decide)⟩
  show Q23_3 Z ba cb h0 n0 (some (.int (0 : Int32))) s₁.heap _
  rw [e0]
  exact ⟨rfl, N0, rfl⟩
theorem ef3_3 (m : MethodId) (x0 : Addr) (x1 : Addr) (x2 : Int32) (x3 : Int32) : entryFrame m #[(.ref x0), (.ref x1), (.int x2), (.int x3), .null] 6 = mkF m 0 #[.val (.ref x0), .val (.ref x1), .val (.int x2), .val (.int x3), .val .null, .unset] [] := by first | (simp [entryFrame, mkF, argsToLocals, Value.category]; done) | rfl
def Q3_3 (Z : State) (a : Addr) (ca : Addr) (k : ClassId) (cs : Int32) (x0 : Int32) (x1 : Int32) (x2 : Int32) (h0 : Heap) (n0 : Nat) (v : Option Value) (h : Heap) (L : List Loc) : Prop := v = none ∧ Fr n0 L ∧ Keep h0 h [a]
set_option maxRecDepth 65536 in
set_option maxHeartbeats 40000000 in
theorem rm3_3 (l : Launch) (Z : State) (a0 : Array Value) (hw : ∀ d ∈ tables_1, d.before a0 Z = true) (ws : List Jvm.Cond) (a : Addr) (ca : Addr) (k : ClassId) (cs : Int32) (x0 : Int32) (x1 : Int32) (x2 : Int32) (h0 : Heap) (n0 : Nat) (Z0 : n0 ≤ h0.size) (O0 : Old Z n0 h0) (Fv : Fld Z h0 a "java/lang/String" "value" "[B" .null) (Fc : Fld Z h0 a "java/lang/String" "coder" "B" (.int (0 : Int32))) (Ea : Exa Z h0 a "java/lang/String") (ga : n0 ≤ a) (Va : Arv Z h0 ca k .char (3 : Int32) [.int x0, .int x1, .int x2] (.int (0 : Int32))) (nac : a ≠ ca) (S_CS : Sta Z Z.heap "java/lang/String" "COMPACT_STRINGS" "Z" (.int cs)) (hcs : ¬ cs = 0) (hb0 : ¬ (255 : Int32) < x0) (hb1 : ¬ (255 : Int32) < x1) (hb2 : ¬ (255 : Int32) < x2) :
    MetFree l (⟨"java/lang/String", "<init>", "([CIILjava/lang/Void;)V"⟩ : MethodName) (head1 (Jvm.Cond.code (⟨"java/lang/String", "<init>", "([CIILjava/lang/Void;)V"⟩ : MethodName) jdk_42_method_149_code 6 ((Option.none : Option FieldType)) :: ws) ({ frames := 2, cells := 1, slots := 3, locals := 35 } : Room)) (fun aa U => aa = #[(.ref a), (.ref ca), (.int (0 : Int32)), (.int (3 : Int32)), .null] ∧ Z.Warmed39 U.vm ∧ U.heap = h0) (fun _ _ _ _ _ => True) (fun _ U ou U' => ∃ v L, ou = .returned v ∧ Q3_3 Z a ca k cs x0 x1 x2 h0 n0 v U'.heap L ∧ FrameEnd U ou U' L ({ frames := 2, cells := 1, slots := 3, locals := 35 } : Room).cells ({ frames := 2, cells := 1, slots := 3, locals := 35 } : Room).slots) := by
  refine MetFree.of_bodySF (plainFor_of_name pn_java_lang_String) hisR ?_
  intro pg e s m args below meth c s₁ Bd hml0 hP hK
  obtain ⟨rfl, hZ, hh⟩ := hP
  have hx := Bd.exec
  have hby := Bd.bytes
  have hml : c.maxLocals = 6 := hml0
  have hown : s.vm.findClass "java/lang/String" = some m.cls := findClass_of_methodNamed Bd.named
  have hnm := (name_of_methodNamed Bd.named Bd.method).1
  have X0 : Stand pg l e ({ frames := 2, cells := 1, slots := 3, locals := 35 } : Room) s m #[(.ref a), (.ref ca), (.int (0 : Int32)), (.int (3 : Int32)), .null] below meth c s₁ [] 0 0 := Stand.of_body Bd
  have e0 : s₁.heap = h0 := by rw [← hh, Bd.state]; rfl
  have N0 := Fr.nil n0
  have K0 : Keep h0 h0 [a] := Keep.refl _ _
  show own_Go pg.tables e below (fun ou U' => ∃ v L, ou = .returned v ∧ Q3_3 Z a ca k cs x0 x1 x2 h0 n0 v U'.heap L ∧ FrameEnd s ou U' L ({ frames := 2, cells := 1, slots := 3, locals := 35 } : Room).cells ({ frames := 2, cells := 1, slots := 3, locals := 35 } : Room).slots) (s₁.setTop (entryFrame m #[(.ref a), (.ref ca), (.int (0 : Int32)), (.int (3 : Int32)), .null] 6))
  refine own_go (S' := s₁.setTop (mkF m 0 #[.val (.ref a), .val (.ref ca), .val (.int (0 : Int32)), .val (.int (3 : Int32)), .val .null, .unset] [])) (fun tg kk => castTop (ef3_3 m a ca (0 : Int32) (3 : Int32)) kk) ?_
  refine own_go (S' := s₁.setTop (mkF m 1 #[.val (.ref a), .val (.ref ca), .val (.int (0 : Int32)), .val (.int (3 : Int32)), .val .null, .unset] [(.ref a)])) (fun tg kk => XS.aloadN X0.here hx rfl (hb hby d3_0) rfl rfl kk) ?_
  obtain ⟨T1, X1, e1, st1⟩ := initO X0 hx hZ hown (hw _ (List.mem_of_getElem? (i := 15) rfl)) (hw _ (List.mem_of_getElem? (i := 16) rfl)) (hw _ (List.mem_of_getElem? (i := 17) rfl)) e0 (g := (mkF m 1 #[.val (.ref a), .val (.ref ca), .val (.int (0 : Int32)), .val (.int (3 : Int32)), .val .null, .unset] [(.ref a)])) rfl (by rw [hml]; rfl) rfl (hb hby d3_1) (by decide) (W := 0) (by show 2 * 0 + _ ≤ _; exact Nat.le_of_eq rfl) (by decide)
  refine own_go (S' := T1.setTop (mkF m 4 #[.val (.ref a), .val (.ref ca), .val (.int (0 : Int32)), .val (.int (3 : Int32)), .val .null, .unset] [])) (st1) ?_
  refine own_go (S' := T1.setTop (mkF m 5 #[.val (.ref a), .val (.ref ca), .val (.int (0 : Int32)), .val (.int (3 : Int32)), .val .null, .unset] [(.int (3 : Int32))])) (fun tg kk => XS.iloadN X1.here hx rfl (hb hby d3_4) rfl kk) ?_
  refine own_go (S' := T1.setTop (mkF m 27 #[.val (.ref a), .val (.ref ca), .val (.int (0 : Int32)), .val (.int (3 : Int32)), .val .null, .unset] [])) (fun tg kk => XS.ifYes X1.here hx rfl (pc0 := 5) (pc' := 27) rfl (hb hby d3_5) rfl (XT.i0_ne_t (by decide)) (by decide) (by decide) kk) ?_
  obtain ⟨T2, X2, e2, st2⟩ := getS (host := "") X1 hx hZ hown (hw _ (List.mem_of_getElem? (i := 118) rfl)) Via.refl e1 (S_CS.ext O0.2) (g := (mkF m 27 #[.val (.ref a), .val (.ref ca), .val (.int (0 : Int32)), .val (.int (3 : Int32)), .val .null, .unset] [])) rfl (hb hby d3_27)
  refine own_go (S' := T2.setTop (mkF m 30 #[.val (.ref a), .val (.ref ca), .val (.int (0 : Int32)), .val (.int (3 : Int32)), .val .null, .unset] [(.int cs)])) (st2) ?_
  refine own_go (S' := T2.setTop (mkF m 33 #[.val (.ref a), .val (.ref ca), .val (.int (0 : Int32)), .val (.int (3 : Int32)), .val .null, .unset] [])) (fun tg kk => XS.ifNo X2.here hx rfl (hb hby d3_30) rfl (XT.i0_eq_f hcs) kk) ?_
  refine own_go (S' := T2.setTop (mkF m 34 #[.val (.ref a), .val (.ref ca), .val (.int (0 : Int32)), .val (.int (3 : Int32)), .val .null, .unset] [(.ref ca)])) (fun tg kk => XS.aloadN X2.here hx rfl (hb hby d3_33) rfl rfl kk) ?_
  refine own_go (S' := T2.setTop (mkF m 35 #[.val (.ref a), .val (.ref ca), .val (.int (0 : Int32)), .val (.int (3 : Int32)), .val .null, .unset] [(.int (0 : Int32)), (.ref ca)])) (fun tg kk => XS.iloadN X2.here hx rfl (hb hby d3_34) rfl kk) ?_
  refine own_go (S' := T2.setTop (mkF m 36 #[.val (.ref a), .val (.ref ca), .val (.int (0 : Int32)), .val (.int (3 : Int32)), .val .null, .unset] [(.int (3 : Int32)), (.int (0 : Int32)), (.ref ca)])) (fun tg kk => XS.iloadN X2.here hx rfl (hb hby d3_35) rfl kk) ?_
  obtain ⟨v3, _, ⟨T3, L3, k3, n3⟩, -, X3, ⟨Lc3, hQ3, l3, y3, z3⟩, st3⟩ := Jvm.LawKit.callS X2 hx (y := (⟨"java/lang/StringUTF16", "compress", "([CII)[B"⟩ : MethodName)) hown (mvT hZ (hw _ (List.mem_of_getElem? (i := 119) rfl))) (mvT hZ (hw _ (List.mem_of_getElem? (i := 120) rfl))) (mvT hZ (hw _ (List.mem_of_getElem? (i := 121) rfl))) (mvT hZ (hw _ (List.mem_of_getElem? (i := 122) rfl))) (by decide) (backOf (W := 0) (rm21_3 l Z a0 hw [] ca k x0 x1 x2 h0 n0 Z0 Va hb0 hb1 hb2) hZ (hw _ (List.mem_of_getElem? (i := 122) rfl)) (hw _ (List.mem_of_getElem? (i := 121) rfl)) (by decide) (by decide)) (g := (mkF m 36 #[.val (.ref a), .val (.ref ca), .val (.int (0 : Int32)), .val (.int (3 : Int32)), .val .null, .unset] [(.int (3 : Int32)), (.int (0 : Int32)), (.ref ca)])) rfl (by rw [hml]; rfl) (argsL := [(.ref ca), (.int (0 : Int32)), (.int (3 : Int32))]) (rest := []) (lenOf pd___CII__B rfl) rfl (by show 2 * 0 + _ ≤ _; exact Nat.le_of_eq rfl) (hb hby d3_36) (fun _ _ => ⟨rfl, e2, (by decide : 0 + 1 ≤ _), (by decide : 0 + 3 ≤ _)⟩)
  dsimp only [Pt.U, Pt.locs, Pt.cells, Pt.slots] at X3 l3 y3 z3 st3 hQ3
  subst l3 y3 z3
  obtain ⟨ba3, cb3, rfl, M4, K3, Ab3, Sb3⟩ := hQ3
  have N4 := Fr.app N0 M4
  obtain ⟨h3, e3⟩ : ∃ z, T3.heap = z := ⟨_, rfl⟩
  rw [e3] at K3 Ab3
  have F5 := Fv.keep K3 nin0
  have F6 := Fc.keep K3 nin0
  have E7 : Exa Z h3 a "java/lang/String" := Ea.keep K3
  have A8 := Va.keep K3 nin0
  have O9 : Old Z n0 h3 := O0.keep K3 all0
  have Z10 : n0 ≤ h3.size := Nat.le_trans Z0 K3.1
  have K11 : Keep h0 h3 [a] := K0.trans K3 all0
  refine own_go (S' := T3.setTop (mkF m 39 #[.val (.ref a), .val (.ref ca), .val (.int (0 : Int32)), .val (.int (3 : Int32)), .val .null, .unset] [(.ref ba3)])) st3 ?_
  refine own_go (S' := T3.setTop (mkF m 41 #[.val (.ref a), .val (.ref ca), .val (.int (0 : Int32)), .val (.int (3 : Int32)), .val .null, .val (.ref ba3)] [])) (fun tg kk => XS.astore X3.here hx rfl (hb hby d3_39) rfl rfl (l' := #[.val (.ref a), .val (.ref ca), .val (.int (0 : Int32)), .val (.int (3 : Int32)), .val .null, .val (.ref ba3)]) rfl kk) ?_
  refine own_go (S' := T3.setTop (mkF m 42 #[.val (.ref a), .val (.ref ca), .val (.int (0 : Int32)), .val (.int (3 : Int32)), .val .null, .val (.ref ba3)] [(.ref a)])) (fun tg kk => XS.aloadN X3.here hx rfl (hb hby d3_41) rfl rfl kk) ?_
  refine own_go (S' := T3.setTop (mkF m 44 #[.val (.ref a), .val (.ref ca), .val (.int (0 : Int32)), .val (.int (3 : Int32)), .val .null, .val (.ref ba3)] [(.ref ba3), (.ref a)])) (fun tg kk => XS.aload X3.here hx rfl (hb hby d3_42) rfl rfl kk) ?_
  refine own_go (S' := T3.setTop (mkF m 45 #[.val (.ref a), .val (.ref ca), .val (.int (0 : Int32)), .val (.int (3 : Int32)), .val .null, .val (.ref ba3)] [(.int (3 : Int32)), (.ref ba3), (.ref a)])) (fun tg kk => XS.iloadN X3.here hx rfl (hb hby d3_44) rfl kk) ?_
  obtain ⟨v12, _, ⟨T12, L12, k12, n12⟩, -, X12, ⟨Lc12, hQ12, l12, y12, z12⟩, st12⟩ := Jvm.LawKit.callS X3 hx (y := (⟨"java/lang/StringUTF16", "coderFromArrayLen", "([BI)B"⟩ : MethodName)) hown (mvT hZ (hw _ (List.mem_of_getElem? (i := 126) rfl))) (mvT hZ (hw _ (List.mem_of_getElem? (i := 127) rfl))) (mvT hZ (hw _ (List.mem_of_getElem? (i := 121) rfl))) (mvT hZ (hw _ (List.mem_of_getElem? (i := 128) rfl))) (by decide) (backOf (W := 1) (rm23_3 l Z a0 hw [] ba3 cb3 h3 n0 Z10 Ab3 Sb3) hZ (hw _ (List.mem_of_getElem? (i := 128) rfl)) (hw _ (List.mem_of_getElem? (i := 121) rfl)) (by decide) (by decide)) (g := (mkF m 45 #[.val (.ref a), .val (.ref ca), .val (.int (0 : Int32)), .val (.int (3 : Int32)), .val .null, .val (.ref ba3)] [(.int (3 : Int32)), (.ref ba3), (.ref a)])) rfl (by rw [hml]; rfl) (argsL := [(.ref ba3), (.int (3 : Int32))]) (rest := [(.ref a)]) (lenOf pd___BI_B rfl) rfl (by show 2 * 0 + _ ≤ _; exact Nat.le_of_eq rfl) (hb hby d3_45) (fun _ _ => ⟨rfl, e3, (by decide : 1 + 0 ≤ _), (by decide : 3 + 0 ≤ _)⟩)
  dsimp only [Pt.U, Pt.locs, Pt.cells, Pt.slots] at X12 l12 y12 z12 st12 hQ12
  subst l12 y12 z12
  obtain ⟨rfl, M13, e12⟩ := hQ12
  have N13 := Fr.app N4 M13
  refine own_go (S' := T12.setTop (mkF m 48 #[.val (.ref a), .val (.ref ca), .val (.int (0 : Int32)), .val (.int (3 : Int32)), .val .null, .val (.ref ba3)] [(.int (0 : Int32)), (.ref a)])) st12 ?_
  obtain ⟨T14, h14, X14, e14, W14, st14⟩ := putF X12 hx hZ hown (host := "") (Or.inl (hw _ (List.mem_of_getElem? (i := 25) rfl))) Via.refl e12 F6 E7 (Or.inr ⟨(hw _ (List.mem_of_getElem? (i := 21) rfl)), rfl, hnm⟩) (hw _ (List.mem_of_getElem? (i := 5) rfl)) (ty := .byte) (by decide) rfl rfl (g := (mkF m 48 #[.val (.ref a), .val (.ref ca), .val (.int (0 : Int32)), .val (.int (3 : Int32)), .val .null, .val (.ref ba3)] [(.int (0 : Int32)), (.ref a)])) rfl rfl (hb hby d3_48)
  refine own_go (S' := T14.setTop (mkF m 51 #[.val (.ref a), .val (.ref ca), .val (.int (0 : Int32)), .val (.int (3 : Int32)), .val .null, .val (.ref ba3)] [])) (st14) ?_
  have N14 := Fr.snoc X14 N13 ga
  have F15 := F5.other W14 (Or.inr (slot_ne (Or.inr (hw _ (List.mem_of_getElem? (i := 20) rfl))) (Or.inr (hw _ (List.mem_of_getElem? (i := 21) rfl))) (by decide) (t := .array .byte) (t' := .byte) (by decide) (by decide)))
  have F16 := F6.same W14
  have E17 : Exa Z h14 a "java/lang/String" := E7.wr W14
  have A18 := A8.other W14 (Ne.symm nac)
  have O19 : Old Z n0 h14 := O9.wr W14 ga
  have Z20 : n0 ≤ h14.size := by rw [W14.size]; exact Z10
  have K21 : Keep h0 h14 [a] := K11.wr W14 (Or.inl (List.mem_of_getElem? (i := 0) rfl))
  refine own_go (S' := T14.setTop (mkF m 52 #[.val (.ref a), .val (.ref ca), .val (.int (0 : Int32)), .val (.int (3 : Int32)), .val .null, .val (.ref ba3)] [(.ref a)])) (fun tg kk => XS.aloadN X14.here hx rfl (hb hby d3_51) rfl rfl kk) ?_
  refine own_go (S' := T14.setTop (mkF m 54 #[.val (.ref a), .val (.ref ca), .val (.int (0 : Int32)), .val (.int (3 : Int32)), .val .null, .val (.ref ba3)] [(.ref ba3), (.ref a)])) (fun tg kk => XS.aload X14.here hx rfl (hb hby d3_52) rfl rfl kk) ?_
  obtain ⟨T22, h22, X22, e22, W22, st22⟩ := putF X14 hx hZ hown (host := "") (Or.inl (hw _ (List.mem_of_getElem? (i := 24) rfl))) Via.refl e14 F15 E17 (Or.inr ⟨(hw _ (List.mem_of_getElem? (i := 20) rfl)), rfl, hnm⟩) (hw _ (List.mem_of_getElem? (i := 5) rfl)) (ty := .array .byte) (by decide) rfl rfl (g := (mkF m 54 #[.val (.ref a), .val (.ref ca), .val (.int (0 : Int32)), .val (.int (3 : Int32)), .val .null, .val (.ref ba3)] [(.ref ba3), (.ref a)])) rfl rfl (hb hby d3_54)
  refine own_go (S' := T22.setTop (mkF m 57 #[.val (.ref a), .val (.ref ca), .val (.int (0 : Int32)), .val (.int (3 : Int32)), .val .null, .val (.ref ba3)] [])) (st22) ?_
  have N22 := Fr.snoc X22 N14 ga
  have F23 := F15.same W22
  have F24 := F16.other W22 (Or.inr (slot_ne (Or.inr (hw _ (List.mem_of_getElem? (i := 21) rfl))) (Or.inr (hw _ (List.mem_of_getElem? (i := 20) rfl))) (by decide) (t := .byte) (t' := .array .byte) (by decide) (by decide)))
  have E25 : Exa Z h22 a "java/lang/String" := E17.wr W22
  have A26 := A18.other W22 (Ne.symm nac)
  have O27 : Old Z n0 h22 := O19.wr W22 ga
  have Z28 : n0 ≤ h22.size := by rw [W22.size]; exact Z20
  have K29 : Keep h0 h22 [a] := K21.wr W22 (Or.inl (List.mem_of_getElem? (i := 0) rfl))
  obtain ⟨fs, hr, hrun, hended, hW, hsame⟩ := X22.leave (v := none) (fun _ => rfl)
  refine ⟨_, _, X22.returnOut hx Bd.returns (hb hby d3_57) hr, hrun, hended, _, _, rfl, ?_, ⟨_, rfl⟩, hW, hsame.mono (by decide) (by decide)⟩
  show Q3_3 Z a ca k cs x0 x1 x2 h0 n0 none T22.heap _
  rw [e22]
  exact ⟨rfl, N22, K29⟩
theorem ef2_3 (m : MethodId) (x0 : Addr) (x1 : Addr) : entryFrame m #[(.ref x0), (.ref x1)] 2 = mkF m 0 #[.val (.ref x0), .val (.ref x1)] [] := by first | (simp [entryFrame, mkF, argsToLocals, Value.category]; done) | rfl
def Q2_3 (Z : State) (a : Addr) (ca : Addr) (k : ClassId) (cs : Int32) (x0 : Int32) (x1 : Int32) (x2 : Int32) (h0 : Heap) (n0 : Nat) (v : Option Value) (h : Heap) (L : List Loc) : Prop := v = none ∧ Fr n0 L ∧ Keep h0 h [a]
set_option maxRecDepth 65536 in
set_option maxHeartbeats 40000000 in
theorem rm2_3 (l : Launch) (Z : State) (a0 : Array Value) (hw : ∀ d ∈ tables_1, d.before a0 Z = true) (ws : List Jvm.Cond) (a : Addr) (ca : Addr) (k : ClassId) (cs : Int32) (x0 : Int32) (x1 : Int32) (x2 : Int32) (h0 : Heap) (n0 : Nat) (Z0 : n0 ≤ h0.size) (O0 : Old Z n0 h0) (Fv : Fld Z h0 a "java/lang/String" "value" "[B" .null) (Fc : Fld Z h0 a "java/lang/String" "coder" "B" (.int (0 : Int32))) (Ea : Exa Z h0 a "java/lang/String") (ga : n0 ≤ a) (Va : Arv Z h0 ca k .char (3 : Int32) [.int x0, .int x1, .int x2] (.int (0 : Int32))) (nac : a ≠ ca) (S_CS : Sta Z Z.heap "java/lang/String" "COMPACT_STRINGS" "Z" (.int cs)) (hcs : ¬ cs = 0) (hb0 : ¬ (255 : Int32) < x0) (hb1 : ¬ (255 : Int32) < x1) (hb2 : ¬ (255 : Int32) < x2) :
    MetFree l (⟨"java/lang/String", "<init>", "([C)V"⟩ : MethodName) (head1 (Jvm.Cond.code (⟨"java/lang/String", "<init>", "([C)V"⟩ : MethodName) jdk_42_method_3_code 2 ((Option.none : Option FieldType)) :: ws) ({ frames := 3, cells := 1, slots := 3, locals := 52 } : Room)) (fun aa U => aa = #[(.ref a), (.ref ca)] ∧ Z.Warmed39 U.vm ∧ U.heap = h0) (fun _ _ _ _ _ => True) (fun _ U ou U' => ∃ v L, ou = .returned v ∧ Q2_3 Z a ca k cs x0 x1 x2 h0 n0 v U'.heap L ∧ FrameEnd U ou U' L ({ frames := 3, cells := 1, slots := 3, locals := 52 } : Room).cells ({ frames := 3, cells := 1, slots := 3, locals := 52 } : Room).slots) := by
  refine MetFree.of_bodySF (plainFor_of_name pn_java_lang_String) hisR ?_
  intro pg e s m args below meth c s₁ Bd hml0 hP hK
  obtain ⟨rfl, hZ, hh⟩ := hP
  have hx := Bd.exec
  have hby := Bd.bytes
  have hml : c.maxLocals = 2 := hml0
  have hown : s.vm.findClass "java/lang/String" = some m.cls := findClass_of_methodNamed Bd.named
  have hnm := (name_of_methodNamed Bd.named Bd.method).1
  have X0 : Stand pg l e ({ frames := 3, cells := 1, slots := 3, locals := 52 } : Room) s m #[(.ref a), (.ref ca)] below meth c s₁ [] 0 0 := Stand.of_body Bd
  have e0 : s₁.heap = h0 := by rw [← hh, Bd.state]; rfl
  have N0 := Fr.nil n0
  have K0 : Keep h0 h0 [a] := Keep.refl _ _
  show own_Go pg.tables e below (fun ou U' => ∃ v L, ou = .returned v ∧ Q2_3 Z a ca k cs x0 x1 x2 h0 n0 v U'.heap L ∧ FrameEnd s ou U' L ({ frames := 3, cells := 1, slots := 3, locals := 52 } : Room).cells ({ frames := 3, cells := 1, slots := 3, locals := 52 } : Room).slots) (s₁.setTop (entryFrame m #[(.ref a), (.ref ca)] 2))
  refine own_go (S' := s₁.setTop (mkF m 0 #[.val (.ref a), .val (.ref ca)] [])) (fun tg kk => castTop (ef2_3 m a ca) kk) ?_
  refine own_go (S' := s₁.setTop (mkF m 1 #[.val (.ref a), .val (.ref ca)] [(.ref a)])) (fun tg kk => XS.aloadN X0.here hx rfl (hb hby d2_0) rfl rfl kk) ?_
  refine own_go (S' := s₁.setTop (mkF m 2 #[.val (.ref a), .val (.ref ca)] [(.ref ca), (.ref a)])) (fun tg kk => XS.aloadN X0.here hx rfl (hb hby d2_1) rfl rfl kk) ?_
  refine own_go (S' := s₁.setTop (mkF m 3 #[.val (.ref a), .val (.ref ca)] [(.int (0 : Int32)), (.ref ca), (.ref a)])) (fun tg kk => XT.iconstV X0.here hx rfl (0 : Int32) (hb hby d2_2) (by decide) kk) ?_
  refine own_go (S' := s₁.setTop (mkF m 4 #[.val (.ref a), .val (.ref ca)] [(.ref ca), (.int (0 : Int32)), (.ref ca), (.ref a)])) (fun tg kk => XS.aloadN X0.here hx rfl (hb hby d2_3) rfl rfl kk) ?_
  obtain ⟨cl1, Ar1, q1_1, S1, q3_1, H1, G1⟩ := id Va
  refine own_go (S' := s₁.setTop (mkF m 5 #[.val (.ref a), .val (.ref ca)] [(.int (3 : Int32)), (.int (0 : Int32)), (.ref ca), (.ref a)])) (fun tg kk => X0.arraylength hx (cell := cl1) (by rw [e0]; exact Ar1.1) (State.isArrayOf_alike hZ.alike Ar1.2.1) (g := (mkF m 4 #[.val (.ref a), .val (.ref ca)] [(.ref ca), (.int (0 : Int32)), (.ref ca), (.ref a)])) rfl rfl (hb hby d2_4) tg (by rw [len_of S1 q3_1]; exact kk)) ?_
  refine own_go (S' := s₁.setTop (mkF m 6 #[.val (.ref a), .val (.ref ca)] [.null, (.int (3 : Int32)), (.int (0 : Int32)), (.ref ca), (.ref a)])) (fun tg kk => XS.aconstNull X0.here hx rfl (hb hby d2_5) kk) ?_
  obtain ⟨v2, _, ⟨T2, L2, k2, n2⟩, -, X2, ⟨Lc2, hQ2, l2, y2, z2⟩, st2⟩ := X0.specialBack hx (y := (⟨"java/lang/String", "<init>", "([CIILjava/lang/Void;)V"⟩ : MethodName)) rfl hown (mvT hZ (hw _ (List.mem_of_getElem? (i := 11) rfl))) (mvT hZ (hw _ (List.mem_of_getElem? (i := 12) rfl))) (mvT hZ (hw _ (List.mem_of_getElem? (i := 14) rfl))) (by decide) (backOf (W := 0) (rm3_3 l Z a0 hw [] a ca k cs x0 x1 x2 h0 n0 Z0 O0 Fv Fc Ea ga Va nac S_CS hcs hb0 hb1 hb2) hZ (hw _ (List.mem_of_getElem? (i := 14) rfl)) (hw _ (List.mem_of_getElem? (i := 6) rfl)) (by decide) (by decide)) (g := (mkF m 6 #[.val (.ref a), .val (.ref ca)] [.null, (.int (3 : Int32)), (.int (0 : Int32)), (.ref ca), (.ref a)])) rfl (by rw [hml]; rfl) (Steps.refl _) (a := a) (argsL := [(.ref ca), (.int (0 : Int32)), (.int (3 : Int32)), .null]) (rest := []) (lenOf pd___CIILjava_lang_Void__V rfl) rfl (by show 2 * 0 + _ ≤ _; exact Nat.le_of_eq rfl) (hb hby d2_6) (fun _ _ => ⟨rfl, e0, (by decide : 0 + 1 ≤ _), (by decide : 0 + 3 ≤ _)⟩)
  dsimp only [Pt.U, Pt.locs, Pt.cells, Pt.slots] at X2 l2 y2 z2 st2 hQ2
  subst l2 y2 z2
  obtain ⟨rfl, M3, K2⟩ := hQ2
  have N3 := Fr.app N0 M3
  obtain ⟨h2, e2⟩ : ∃ z, T2.heap = z := ⟨_, rfl⟩
  rw [e2] at K2 
  have E4 : Exa Z h2 a "java/lang/String" := Ea.keep K2
  have A5 := Va.keep K2 (ninS (Ne.symm nac) nin0)
  have O6 : Old Z n0 h2 := O0.keep K2 (allS ga all0)
  have Z7 : n0 ≤ h2.size := Nat.le_trans Z0 K2.1
  have K8 : Keep h0 h2 [a] := K0.trans K2 (allS (Or.inl (List.mem_of_getElem? (i := 0) rfl)) all0)
  refine own_to (S' := T2.setTop (mkF m 9 #[.val (.ref a), .val (.ref ca)] [])) st2 ?_
  obtain ⟨fs, hr, hrun, hended, hW, hsame⟩ := X2.leave (v := none) (fun _ => rfl)
  refine ⟨_, _, X2.returnOut hx Bd.returns (hb hby d2_9) hr, hrun, hended, _, _, rfl, ?_, ⟨_, rfl⟩, hW, hsame.mono (by decide) (by decide)⟩
  show Q2_3 Z a ca k cs x0 x1 x2 h0 n0 none T2.heap _
  rw [e2]
  exact ⟨rfl, N3, K8⟩
theorem d3_8 : decode jdk_42_method_149_code 8 = .ok (.aload_n 0, 1) := by decide +kernel
theorem d3_9 : decode jdk_42_method_149_code 9 = .ok (.ldc 7, 2) := by decide +kernel
theorem d3_11 : decode jdk_42_method_149_code 11 = .ok (.getfield 9, 3) := by decide +kernel
theorem d3_14 : decode jdk_42_method_149_code 14 = .ok (.putfield 9, 3) := by decide +kernel
theorem d3_17 : decode jdk_42_method_149_code 17 = .ok (.aload_n 0, 1) := by decide +kernel
theorem d3_18 : decode jdk_42_method_149_code 18 = .ok (.ldc 7, 2) := by decide +kernel
theorem d3_20 : decode jdk_42_method_149_code 20 = .ok (.getfield 15, 3) := by decide +kernel
theorem d3_23 : decode jdk_42_method_149_code 23 = .ok (.putfield 15, 3) := by decide +kernel
theorem d3_26 : decode jdk_42_method_149_code 26 = .ok (.return_, 1) := by decide +kernel
theorem ef3_0 (m : MethodId) (x0 : Addr) (x1 : Addr) (x2 : Int32) (x3 : Int32) : entryFrame m #[(.ref x0), (.ref x1), (.int x2), (.int x3), .null] 6 = mkF m 0 #[.val (.ref x0), .val (.ref x1), .val (.int x2), .val (.int x3), .val .null, .unset] [] := by first | (simp [entryFrame, mkF, argsToLocals, Value.category]; done) | rfl
def Q3_0 (Z : State) (a : Addr) (ca : Addr) (h0 : Heap) (n0 : Nat) (v : Option Value) (h : Heap) (L : List Loc) : Prop := v = none ∧ Fr n0 L ∧ Keep h0 h [a]
set_option maxRecDepth 65536 in
set_option maxHeartbeats 40000000 in
theorem rm3_0 (l : Launch) (Z : State) (a0 : Array Value) (hw : ∀ d ∈ tables_1, d.before a0 Z = true) (ws : List Jvm.Cond) (a : Addr) (ca : Addr) (h0 : Heap) (n0 : Nat) (Z0 : n0 ≤ h0.size) (Fv : Fld Z h0 a "java/lang/String" "value" "[B" .null) (Fc : Fld Z h0 a "java/lang/String" "coder" "B" (.int (0 : Int32))) (Ea : Exa Z h0 a "java/lang/String") (ga : n0 ≤ a) :
    MetFree l (⟨"java/lang/String", "<init>", "([CIILjava/lang/Void;)V"⟩ : MethodName) (head1 (Jvm.Cond.code (⟨"java/lang/String", "<init>", "([CIILjava/lang/Void;)V"⟩ : MethodName) jdk_42_method_149_code 6 ((Option.none : Option FieldType)) :: ws) ({ frames := 1, cells := 4, slots := 8, locals := 12 } : Room)) (fun aa U => aa = #[(.ref a), (.ref ca), (.int (0 : Int32)), (.int (0 : Int32)), .null] ∧ Z.Warmed39 U.vm ∧ U.heap = h0 ∧ CHv Z own_EL U.vm h0) (fun _ _ _ _ _ => True) (fun _ U ou U' => ∃ v L, ou = .returned v ∧ Q3_0 Z a ca h0 n0 v U'.heap L ∧ CHr Z own_EL U.vm U.heap U'.vm U'.heap ∧ ReturnedEndW U ou U' L ({ frames := 1, cells := 4, slots := 8, locals := 12 } : Room).cells ({ frames := 1, cells := 4, slots := 8, locals := 12 } : Room).slots) := by
  refine MetFree.of_bodySF (plainFor_of_name pn_java_lang_String) hisR ?_
  intro pg e s m args below meth c s₁ Bd hml0 hP hK
  obtain ⟨rfl, hZ, hh, hCH⟩ := hP
  have wS := own_wS hw
  have hEL := own_hEL hw
  have hx := Bd.exec
  have hby := Bd.bytes
  have hml : c.maxLocals = 6 := hml0
  have hown : s.vm.findClass "java/lang/String" = some m.cls := findClass_of_methodNamed Bd.named
  have hnm := (name_of_methodNamed Bd.named Bd.method).1
  have X0 : Stand pg l e ({ frames := 1, cells := 4, slots := 8, locals := 12 } : Room) (s.setVm s.vm) m #[(.ref a), (.ref ca), (.int (0 : Int32)), (.int (0 : Int32)), .null] below meth c s₁ [] 0 0 := Stand.of_body Bd
  have e0 : s₁.heap = h0 := by rw [← hh, Bd.state]; rfl
  have N0 := Fr.nil n0
  have hS0 : s.Since s.vm h0.size := (State.WarmedH.refl s).since _
  have hk0 : h0.size ≤ h0.size := Nat.le_refl _
  have CR0 : CHr Z own_EL s.vm h0 s.vm h0 := CHr.refl hCH
  have K0 : Keep h0 h0 [a] := Keep.refl _ _
  show own_Go pg.tables e below (fun ou U' => ∃ v L, ou = .returned v ∧ Q3_0 Z a ca h0 n0 v U'.heap L ∧ CHr Z own_EL s.vm s.heap U'.vm U'.heap ∧ ReturnedEndW s ou U' L ({ frames := 1, cells := 4, slots := 8, locals := 12 } : Room).cells ({ frames := 1, cells := 4, slots := 8, locals := 12 } : Room).slots) (s₁.setTop (entryFrame m #[(.ref a), (.ref ca), (.int (0 : Int32)), (.int (0 : Int32)), .null] 6))
  refine own_go (S' := s₁.setTop (mkF m 0 #[.val (.ref a), .val (.ref ca), .val (.int (0 : Int32)), .val (.int (0 : Int32)), .val .null, .unset] [])) (fun tg kk => castTop (ef3_0 m a ca (0 : Int32) (0 : Int32)) kk) ?_
  refine own_go (S' := s₁.setTop (mkF m 1 #[.val (.ref a), .val (.ref ca), .val (.int (0 : Int32)), .val (.int (0 : Int32)), .val .null, .unset] [(.ref a)])) (fun tg kk => XS.aloadN X0.here hx rfl (hb hby d3_0) rfl rfl kk) ?_
  obtain ⟨T1, X1, e1, st1⟩ := initO X0 hx hZ hown (hw _ (List.mem_of_getElem? (i := 15) rfl)) (hw _ (List.mem_of_getElem? (i := 16) rfl)) (hw _ (List.mem_of_getElem? (i := 17) rfl)) e0 (g := (mkF m 1 #[.val (.ref a), .val (.ref ca), .val (.int (0 : Int32)), .val (.int (0 : Int32)), .val .null, .unset] [(.ref a)])) rfl (by rw [hml]; rfl) rfl (hb hby d3_1) (by decide) (W := 0) (by show 2 * 0 + _ ≤ _; exact Nat.le_of_eq rfl) (by decide)
  refine own_go (S' := T1.setTop (mkF m 4 #[.val (.ref a), .val (.ref ca), .val (.int (0 : Int32)), .val (.int (0 : Int32)), .val .null, .unset] [])) (st1) ?_
  refine own_go (S' := T1.setTop (mkF m 5 #[.val (.ref a), .val (.ref ca), .val (.int (0 : Int32)), .val (.int (0 : Int32)), .val .null, .unset] [(.int (0 : Int32))])) (fun tg kk => XS.iloadN X1.here hx rfl (hb hby d3_4) rfl kk) ?_
  refine own_go (S' := T1.setTop (mkF m 8 #[.val (.ref a), .val (.ref ca), .val (.int (0 : Int32)), .val (.int (0 : Int32)), .val .null, .unset] [])) (fun tg kk => XS.ifNo X1.here hx rfl (hb hby d3_5) rfl (XT.i0_ne_f (by decide)) kk) ?_
  refine own_go (S' := T1.setTop (mkF m 9 #[.val (.ref a), .val (.ref ca), .val (.int (0 : Int32)), .val (.int (0 : Int32)), .val .null, .unset] [(.ref a)])) (fun tg kk => XS.aloadN X1.here hx rfl (hb hby d3_8) rfl rfl kk) ?_
  obtain ⟨a2, T2, h2, k1_2, b2, kb2, X2, e2, Ex2, hS2, hk2, hZ2, ho2, E2, Fc2, Fv2, V2, la2, lb2, CH2, L2, sf2, st2⟩ := ldcCH X1 hx hZ hown (hw _ (List.mem_of_getElem? (i := 18) rfl)) wS e1 hS0 hk0 hEL (List.mem_of_getElem? (i := 1) rfl) CR0.1 (vs := []) (z := (0 : Int32)) ⟨by decide, rfl⟩ (by decide) (by decide) (g := (mkF m 9 #[.val (.ref a), .val (.ref ca), .val (.int (0 : Int32)), .val (.int (0 : Int32)), .val .null, .unset] [(.ref a)])) rfl (hb hby d3_9) (n := 0) (by decide) (by decide) (by decide) (by decide)
  have sf3_a := CH2.safe Ea.lt (own_safeN hZ.alike Ea Fv)
  have CR3 := CR0.trans CH2
  have F4 := Fv.ext Ex2
  have F5 := Fc.ext Ex2
  have E6 : Exa Z h2 a "java/lang/String" := Ea.ext Ex2
  have Z7 : n0 ≤ h2.size := Nat.le_trans Z0 Ex2.1
  have K8 : Keep h0 h2 [a] := K0.ext Ex2
  refine own_go (S' := T2.setTop (mkF m 11 #[.val (.ref a), .val (.ref ca), .val (.int (0 : Int32)), .val (.int (0 : Int32)), .val .null, .unset] [(.ref a2), (.ref a)])) (st2) ?_
  obtain ⟨T9, X9, e9, st9⟩ := getF X2 hx hZ2 ho2 (host := "") (Or.inl (hw _ (List.mem_of_getElem? (i := 24) rfl))) Via.refl e2 Fv2 (g := (mkF m 11 #[.val (.ref a), .val (.ref ca), .val (.int (0 : Int32)), .val (.int (0 : Int32)), .val .null, .unset] [(.ref a2), (.ref a)])) rfl rfl (hb hby d3_11)
  refine own_go (S' := T9.setTop (mkF m 14 #[.val (.ref a), .val (.ref ca), .val (.int (0 : Int32)), .val (.int (0 : Int32)), .val .null, .unset] [(.ref b2), (.ref a)])) (st9) ?_
  obtain ⟨T10, h10, X10, e10, W10, st10⟩ := putF X9 hx hZ2 ho2 (host := "") (Or.inl (hw _ (List.mem_of_getElem? (i := 24) rfl))) Via.refl e9 F4 E6 (Or.inr ⟨(hw _ (List.mem_of_getElem? (i := 20) rfl)), rfl, hnm⟩) (hw _ (List.mem_of_getElem? (i := 5) rfl)) (ty := .array .byte) (by decide) rfl rfl (g := (mkF m 14 #[.val (.ref a), .val (.ref ca), .val (.int (0 : Int32)), .val (.int (0 : Int32)), .val .null, .unset] [(.ref b2), (.ref a)])) rfl rfl (hb hby d3_14)
  refine own_go (S' := T10.setTop (mkF m 17 #[.val (.ref a), .val (.ref ca), .val (.int (0 : Int32)), .val (.int (0 : Int32)), .val .null, .unset] [])) (st10) ?_
  have N10 := Fr.snoc X10 N0 ga
  have sf11_a := Safe.wr W10 sf3_a CR3.1 sf3_a
  have CR11 := CR3.trans (CHr.wr W10 sf3_a CR3.1)
  have hk11 := Nat.le_trans hk2 (Nat.le_of_eq W10.size.symm)
  have F12 := F4.same W10
  have F13 := F5.other W10 (Or.inr (slot_ne (Or.inr (hw _ (List.mem_of_getElem? (i := 21) rfl))) (Or.inr (hw _ (List.mem_of_getElem? (i := 20) rfl))) (by decide) (t := .byte) (t' := .array .byte) (by decide) (by decide)))
  have F14 := Fc2.other W10 (Or.inl (Ne.symm (sf2 a sf3_a).1))
  have F15 := Fv2.other W10 (Or.inl (Ne.symm (sf2 a sf3_a).1))
  have E16 : Exa Z h10 a "java/lang/String" := E6.wr W10
  have E17 : Exa Z h10 a2 "java/lang/String" := E2.wr W10
  have A18 := V2.other W10 (Ne.symm (sf2 a sf3_a).2)
  have Z19 : n0 ≤ h10.size := by rw [W10.size]; exact Z7
  have K20 : Keep h0 h10 [a] := K8.wr W10 (Or.inl (List.mem_of_getElem? (i := 0) rfl))
  refine own_go (S' := T10.setTop (mkF m 18 #[.val (.ref a), .val (.ref ca), .val (.int (0 : Int32)), .val (.int (0 : Int32)), .val .null, .unset] [(.ref a)])) (fun tg kk => XS.aloadN X10.here hx rfl (hb hby d3_17) rfl rfl kk) ?_
  obtain ⟨a21, T21, h21, k1_21, b21, kb21, X21, e21, Ex21, hS21, hk21, hZ21, ho21, E21, Fc21, Fv21, V21, la21, lb21, CH21, L21, sf21, st21⟩ := ldcCH X10 hx hZ2 ho2 (hw _ (List.mem_of_getElem? (i := 18) rfl)) wS e10 hS2 hk11 hEL (List.mem_of_getElem? (i := 1) rfl) CR11.1 (vs := []) (z := (0 : Int32)) ⟨by decide, rfl⟩ (by decide) (by decide) (g := (mkF m 18 #[.val (.ref a), .val (.ref ca), .val (.int (0 : Int32)), .val (.int (0 : Int32)), .val .null, .unset] [(.ref a)])) rfl (hb hby d3_18) (n := 0) (by decide) (by decide) (by decide) (by decide)
  have sf22_a := CH21.safe E16.lt sf11_a
  have CR22 := CR11.trans CH21
  have F23 := F12.ext Ex21
  have F24 := F13.ext Ex21
  have F25 := F14.ext Ex21
  have F26 := F15.ext Ex21
  have E27 : Exa Z h21 a "java/lang/String" := E16.ext Ex21
  have E28 : Exa Z h21 a2 "java/lang/String" := E17.ext Ex21
  have A29 := A18.ext Ex21
  have Z30 : n0 ≤ h21.size := Nat.le_trans Z19 Ex21.1
  have K31 : Keep h0 h21 [a] := K20.ext Ex21
  refine own_go (S' := T21.setTop (mkF m 20 #[.val (.ref a), .val (.ref ca), .val (.int (0 : Int32)), .val (.int (0 : Int32)), .val .null, .unset] [(.ref a21), (.ref a)])) (st21) ?_
  obtain ⟨T32, X32, e32, st32⟩ := getF X21 hx hZ21 ho21 (host := "") (Or.inl (hw _ (List.mem_of_getElem? (i := 25) rfl))) Via.refl e21 Fc21 (g := (mkF m 20 #[.val (.ref a), .val (.ref ca), .val (.int (0 : Int32)), .val (.int (0 : Int32)), .val .null, .unset] [(.ref a21), (.ref a)])) rfl rfl (hb hby d3_20)
  refine own_go (S' := T32.setTop (mkF m 23 #[.val (.ref a), .val (.ref ca), .val (.int (0 : Int32)), .val (.int (0 : Int32)), .val .null, .unset] [(.int (0 : Int32)), (.ref a)])) (st32) ?_
  obtain ⟨T33, h33, X33, e33, W33, st33⟩ := putF X32 hx hZ21 ho21 (host := "") (Or.inl (hw _ (List.mem_of_getElem? (i := 25) rfl))) Via.refl e32 F24 E27 (Or.inr ⟨(hw _ (List.mem_of_getElem? (i := 21) rfl)), rfl, hnm⟩) (hw _ (List.mem_of_getElem? (i := 5) rfl)) (ty := .byte) (by decide) rfl rfl (g := (mkF m 23 #[.val (.ref a), .val (.ref ca), .val (.int (0 : Int32)), .val (.int (0 : Int32)), .val .null, .unset] [(.int (0 : Int32)), (.ref a)])) rfl rfl (hb hby d3_23)
  refine own_go (S' := T33.setTop (mkF m 26 #[.val (.ref a), .val (.ref ca), .val (.int (0 : Int32)), .val (.int (0 : Int32)), .val .null, .unset] [])) (st33) ?_
  have N33 := Fr.snoc X33 N10 ga
  have sf34_a := Safe.wr W33 sf22_a CR22.1 sf22_a
  have CR34 := CR22.trans (CHr.wr W33 sf22_a CR22.1)
  have hk34 := Nat.le_trans hk21 (Nat.le_of_eq W33.size.symm)
  have F35 := F23.other W33 (Or.inr (slot_ne (Or.inr (hw _ (List.mem_of_getElem? (i := 20) rfl))) (Or.inr (hw _ (List.mem_of_getElem? (i := 21) rfl))) (by decide) (t := .array .byte) (t' := .byte) (by decide) (by decide)))
  have F36 := F24.same W33
  have F37 := F25.other W33 (Or.inl (Ne.symm (sf2 a sf3_a).1))
  have F38 := F26.other W33 (Or.inl (Ne.symm (sf2 a sf3_a).1))
  have F39 := Fc21.other W33 (Or.inl (Ne.symm (sf21 a sf22_a).1))
  have F40 := Fv21.other W33 (Or.inl (Ne.symm (sf21 a sf22_a).1))
  have E41 : Exa Z h33 a "java/lang/String" := E27.wr W33
  have E42 : Exa Z h33 a2 "java/lang/String" := E28.wr W33
  have E43 : Exa Z h33 a21 "java/lang/String" := E21.wr W33
  have A44 := A29.other W33 (Ne.symm (sf2 a sf3_a).2)
  have A45 := V21.other W33 (Ne.symm (sf21 a sf22_a).2)
  have Z46 : n0 ≤ h33.size := by rw [W33.size]; exact Z30
  have K47 : Keep h0 h33 [a] := K31.wr W33 (Or.inl (List.mem_of_getElem? (i := 0) rfl))
  obtain ⟨fs, hr, hrun, hended, hEnd⟩ := X33.leaveW hS21 (Nat.le_trans hk34 (Nat.le_of_eq (congrArg Array.size e33.symm))) (v := none) (fun _ => rfl)
  refine ⟨_, _, X33.returnOut hx Bd.returns (hb hby d3_26) hr, hrun, hended, _, _, rfl, ?_, ?_, hEnd.1, hEnd.2.1, hEnd.2.2.1, hEnd.2.2.2.mono (by decide) (by decide)⟩
  · show Q3_0 Z a ca h0 n0 none T33.heap _
    rw [e33]
    exact ⟨rfl, N33, K47⟩
  · show CHr Z own_EL s.vm s.heap T33.vm T33.heap
    rw [hh, e33]
    exact CR34.trans (CHv.at X33 hZ21 hEL CR34.1)
theorem ef2_0 (m : MethodId) (x0 : Addr) (x1 : Addr) : entryFrame m #[(.ref x0), (.ref x1)] 2 = mkF m 0 #[.val (.ref x0), .val (.ref x1)] [] := by first | (simp [entryFrame, mkF, argsToLocals, Value.category]; done) | rfl
def Q2_0 (Z : State) (a : Addr) (ca : Addr) (k : ClassId) (h0 : Heap) (n0 : Nat) (v : Option Value) (h : Heap) (L : List Loc) : Prop := v = none ∧ Fr n0 L ∧ Keep h0 h [a]
set_option maxRecDepth 65536 in
set_option maxHeartbeats 40000000 in
theorem rm2_0 (l : Launch) (Z : State) (a0 : Array Value) (hw : ∀ d ∈ tables_1, d.before a0 Z = true) (ws : List Jvm.Cond) (a : Addr) (ca : Addr) (k : ClassId) (h0 : Heap) (n0 : Nat) (Z0 : n0 ≤ h0.size) (Fv : Fld Z h0 a "java/lang/String" "value" "[B" .null) (Fc : Fld Z h0 a "java/lang/String" "coder" "B" (.int (0 : Int32))) (Ea : Exa Z h0 a "java/lang/String") (ga : n0 ≤ a) (Va : Arv Z h0 ca k .char (0 : Int32) [] (.int (0 : Int32))) (nac : a ≠ ca) :
    MetFree l (⟨"java/lang/String", "<init>", "([C)V"⟩ : MethodName) (head1 (Jvm.Cond.code (⟨"java/lang/String", "<init>", "([C)V"⟩ : MethodName) jdk_42_method_3_code 2 ((Option.none : Option FieldType)) :: ws) ({ frames := 2, cells := 4, slots := 8, locals := 29 } : Room)) (fun aa U => aa = #[(.ref a), (.ref ca)] ∧ Z.Warmed39 U.vm ∧ U.heap = h0 ∧ CHv Z own_EL U.vm h0) (fun _ _ _ _ _ => True) (fun _ U ou U' => ∃ v L, ou = .returned v ∧ Q2_0 Z a ca k h0 n0 v U'.heap L ∧ CHr Z own_EL U.vm U.heap U'.vm U'.heap ∧ ReturnedEndW U ou U' L ({ frames := 2, cells := 4, slots := 8, locals := 29 } : Room).cells ({ frames := 2, cells := 4, slots := 8, locals := 29 } : Room).slots) := by
  refine MetFree.of_bodySF (plainFor_of_name pn_java_lang_String) hisR ?_
  intro pg e s m args below meth c s₁ Bd hml0 hP hK
  obtain ⟨rfl, hZ, hh, hCH⟩ := hP
  have wS := own_wS hw
  have hEL := own_hEL hw
  have hx := Bd.exec
  have hby := Bd.bytes
  have hml : c.maxLocals = 2 := hml0
  have hown : s.vm.findClass "java/lang/String" = some m.cls := findClass_of_methodNamed Bd.named
  have hnm := (name_of_methodNamed Bd.named Bd.method).1
  have X0 : Stand pg l e ({ frames := 2, cells := 4, slots := 8, locals := 29 } : Room) (s.setVm s.vm) m #[(.ref a), (.ref ca)] below meth c s₁ [] 0 0 := Stand.of_body Bd
  have e0 : s₁.heap = h0 := by rw [← hh, Bd.state]; rfl
  have N0 := Fr.nil n0
  have hS0 : s.Since s.vm h0.size := (State.WarmedH.refl s).since _
  have hk0 : h0.size ≤ h0.size := Nat.le_refl _
  have CR0 : CHr Z own_EL s.vm h0 s.vm h0 := CHr.refl hCH
  have K0 : Keep h0 h0 [a] := Keep.refl _ _
  show own_Go pg.tables e below (fun ou U' => ∃ v L, ou = .returned v ∧ Q2_0 Z a ca k h0 n0 v U'.heap L ∧ CHr Z own_EL s.vm s.heap U'.vm U'.heap ∧ ReturnedEndW s ou U' L ({ frames := 2, cells := 4, slots := 8, locals := 29 } : Room).cells ({ frames := 2, cells := 4, slots := 8, locals := 29 } : Room).slots) (s₁.setTop (entryFrame m #[(.ref a), (.ref ca)] 2))
  refine own_go (S' := s₁.setTop (mkF m 0 #[.val (.ref a), .val (.ref ca)] [])) (fun tg kk => castTop (ef2_0 m a ca) kk) ?_
  refine own_go (S' := s₁.setTop (mkF m 1 #[.val (.ref a), .val (.ref ca)] [(.ref a)])) (fun tg kk => XS.aloadN X0.here hx rfl (hb hby d2_0) rfl rfl kk) ?_
  refine own_go (S' := s₁.setTop (mkF m 2 #[.val (.ref a), .val (.ref ca)] [(.ref ca), (.ref a)])) (fun tg kk => XS.aloadN X0.here hx rfl (hb hby d2_1) rfl rfl kk) ?_
  refine own_go (S' := s₁.setTop (mkF m 3 #[.val (.ref a), .val (.ref ca)] [(.int (0 : Int32)), (.ref ca), (.ref a)])) (fun tg kk => XT.iconstV X0.here hx rfl (0 : Int32) (hb hby d2_2) (by decide) kk) ?_
  refine own_go (S' := s₁.setTop (mkF m 4 #[.val (.ref a), .val (.ref ca)] [(.ref ca), (.int (0 : Int32)), (.ref ca), (.ref a)])) (fun tg kk => XS.aloadN X0.here hx rfl (hb hby d2_3) rfl rfl kk) ?_
  obtain ⟨cl1, Ar1, q1_1, S1, q3_1, H1, G1⟩ := id Va
  refine own_go (S' := s₁.setTop (mkF m 5 #[.val (.ref a), .val (.ref ca)] [(.int (0 : Int32)), (.int (0 : Int32)), (.ref ca), (.ref a)])) (fun tg kk => X0.arraylength hx (cell := cl1) (by rw [e0]; exact Ar1.1) (State.isArrayOf_alike hZ.alike Ar1.2.1) (g := (mkF m 4 #[.val (.ref a), .val (.ref ca)] [(.ref ca), (.int (0 : Int32)), (.ref ca), (.ref a)])) rfl rfl (hb hby d2_4) tg (by rw [len_of S1 q3_1]; exact kk)) ?_
  refine own_go (S' := s₁.setTop (mkF m 6 #[.val (.ref a), .val (.ref ca)] [.null, (.int (0 : Int32)), (.int (0 : Int32)), (.ref ca), (.ref a)])) (fun tg kk => XS.aconstNull X0.here hx rfl (hb hby d2_5) kk) ?_
  obtain ⟨v2, _, ⟨T2, L2, k2, n2⟩, -, Y2, hT2, gr2, ⟨Lc2, hQ2, l2, y2, z2, CH2⟩, st2⟩ := X0.specialBackS hx (y := (⟨"java/lang/String", "<init>", "([CIILjava/lang/Void;)V"⟩ : MethodName)) rfl hown (mvT hZ (hw _ (List.mem_of_getElem? (i := 11) rfl))) (mvT hZ (hw _ (List.mem_of_getElem? (i := 12) rfl))) (mvT hZ (hw _ (List.mem_of_getElem? (i := 14) rfl))) (by decide) (backOfSH (W := 0) (rm3_0 l Z a0 hw [] a ca h0 n0 Z0 Fv Fc Ea ga) hZ (hw _ (List.mem_of_getElem? (i := 14) rfl)) (hw _ (List.mem_of_getElem? (i := 6) rfl)) (by decide) (by decide) hEL CR0.1) (g := (mkF m 6 #[.val (.ref a), .val (.ref ca)] [.null, (.int (0 : Int32)), (.int (0 : Int32)), (.ref ca), (.ref a)])) rfl (by rw [hml]; rfl) (Steps.refl _) (a := a) (argsL := [(.ref ca), (.int (0 : Int32)), (.int (0 : Int32)), .null]) (rest := []) (lenOf pd___CIILjava_lang_Void__V rfl) rfl (by show 2 * 0 + _ ≤ _; exact Nat.le_of_eq rfl) (hb hby d2_6) (fun _ _ => ⟨rfl, e0, (by decide : 0 + 4 ≤ _), (by decide : 0 + 8 ≤ _)⟩)
  dsimp only [Pt.U, Pt.locs, Pt.cells, Pt.slots] at Y2 l2 y2 z2 st2 hQ2 hT2 gr2 CH2
  subst l2 y2 z2
  obtain ⟨X2, hS2, hZ2, ho2⟩ := rebS hS0 (Nat.le_trans hk0 (Nat.le_of_eq (congrArg Array.size e0.symm))) Y2 hT2 gr2 hZ hown
  obtain ⟨rfl, M3, K2⟩ := hQ2
  have N3 := Fr.app N0 M3
  obtain ⟨h2, e2⟩ : ∃ z, T2.heap = z := ⟨_, rfl⟩
  rw [e2] at K2 CH2 
  have hk2 : T2.heap.size ≤ h2.size := by rw [e2]; exact Nat.le_refl _
  have sf4_a := CH2.safe Ea.lt (own_safeN hZ.alike Ea Fv)
  have CR4 := CR0.trans CH2
  have E5 : Exa Z h2 a "java/lang/String" := Ea.keep K2
  have A6 := Va.keep K2 (ninS (Ne.symm nac) nin0)
  have Z7 : n0 ≤ h2.size := Nat.le_trans Z0 K2.1
  have K8 : Keep h0 h2 [a] := K0.trans K2 (allS (Or.inl (List.mem_of_getElem? (i := 0) rfl)) all0)
  refine own_to (S' := T2.setTop (mkF m 9 #[.val (.ref a), .val (.ref ca)] [])) st2 ?_
  obtain ⟨fs, hr, hrun, hended, hEnd⟩ := X2.leaveW hS2 (Nat.le_trans hk2 (Nat.le_of_eq (congrArg Array.size e2.symm))) (v := none) (fun _ => rfl)
  refine ⟨_, _, X2.returnOut hx Bd.returns (hb hby d2_9) hr, hrun, hended, _, _, rfl, ?_, ?_, hEnd.1, hEnd.2.1, hEnd.2.2.1, hEnd.2.2.2.mono (by decide) (by decide)⟩
  · show Q2_0 Z a ca k h0 n0 none T2.heap _
    rw [e2]
    exact ⟨rfl, N3, K8⟩
  · show CHr Z own_EL s.vm s.heap T2.vm T2.heap
    rw [hh, e2]
    exact CR4.trans (CHv.at X2 hZ2 hEL CR4.1)
theorem d1_0 : decode method_3_code 0 = .ok (.iload_n 0, 1) := by decide +kernel
theorem d1_1 : decode method_3_code 1 = .ok (.iconst 3, 1) := by decide +kernel
theorem d1_2 : decode method_3_code 2 = .ok (.iand, 1) := by decide +kernel
theorem d1_3 : decode method_3_code 3 = .ok (.istore 4, 2) := by decide +kernel
theorem d1_5 : decode method_3_code 5 = .ok (.iload_n 1, 1) := by decide +kernel
theorem d1_6 : decode method_3_code 6 = .ok (.sipush 255, 3) := by decide +kernel
theorem d1_9 : decode method_3_code 9 = .ok (.iand, 1) := by decide +kernel
theorem d1_10 : decode method_3_code 10 = .ok (.i2c, 1) := by decide +kernel
theorem d1_11 : decode method_3_code 11 = .ok (.istore 5, 2) := by decide +kernel
theorem d1_13 : decode method_3_code 13 = .ok (.iload_n 2, 1) := by decide +kernel
theorem d1_14 : decode method_3_code 14 = .ok (.sipush 255, 3) := by decide +kernel
theorem d1_17 : decode method_3_code 17 = .ok (.iand, 1) := by decide +kernel
theorem d1_18 : decode method_3_code 18 = .ok (.i2c, 1) := by decide +kernel
theorem d1_19 : decode method_3_code 19 = .ok (.istore 6, 2) := by decide +kernel
theorem d1_21 : decode method_3_code 21 = .ok (.iload_n 3, 1) := by decide +kernel
theorem d1_22 : decode method_3_code 22 = .ok (.sipush 255, 3) := by decide +kernel
theorem d1_25 : decode method_3_code 25 = .ok (.iand, 1) := by decide +kernel
theorem d1_26 : decode method_3_code 26 = .ok (.i2c, 1) := by decide +kernel
theorem d1_27 : decode method_3_code 27 = .ok (.istore 7, 2) := by decide +kernel
theorem d1_29 : decode method_3_code 29 = .ok (.iload 4, 2) := by decide +kernel
theorem d1_31 : decode method_3_code 31 = .ok (.ifCond .ne 14, 3) := by decide +kernel
theorem d1_34 : decode method_3_code 34 = .ok (.new 33, 3) := by decide +kernel
theorem d1_37 : decode method_3_code 37 = .ok (.dup, 1) := by decide +kernel
theorem d1_38 : decode method_3_code 38 = .ok (.iconst 0, 1) := by decide +kernel
theorem d1_39 : decode method_3_code 39 = .ok (.newarray .char, 2) := by decide +kernel
theorem pd___C_V : parseMethodDescriptor "([C)V" = some ⟨[.array .char], none⟩ := by decide +kernel
theorem d1_41 : decode method_3_code 41 = .ok (.invokespecial 58, 3) := by decide +kernel
theorem d1_44 : decode method_3_code 44 = .ok (.areturn, 1) := by decide +kernel
theorem d1_45 : decode method_3_code 45 = .ok (.iload 4, 2) := by decide +kernel
theorem d1_47 : decode method_3_code 47 = .ok (.iconst 1, 1) := by decide +kernel
theorem d1_48 : decode method_3_code 48 = .ok (.if_icmp .ne 19, 3) := by decide +kernel
theorem d1_51 : decode method_3_code 51 = .ok (.new 33, 3) := by decide +kernel
theorem d1_54 : decode method_3_code 54 = .ok (.dup, 1) := by decide +kernel
theorem d1_55 : decode method_3_code 55 = .ok (.iconst 1, 1) := by decide +kernel
theorem d1_56 : decode method_3_code 56 = .ok (.newarray .char, 2) := by decide +kernel
theorem d1_58 : decode method_3_code 58 = .ok (.dup, 1) := by decide +kernel
theorem d1_59 : decode method_3_code 59 = .ok (.iconst 0, 1) := by decide +kernel
theorem d1_60 : decode method_3_code 60 = .ok (.iload 5, 2) := by decide +kernel
theorem d1_62 : decode method_3_code 62 = .ok (.castore, 1) := by decide +kernel
theorem d1_63 : decode method_3_code 63 = .ok (.invokespecial 58, 3) := by decide +kernel
theorem d1_66 : decode method_3_code 66 = .ok (.areturn, 1) := by decide +kernel
theorem d1_67 : decode method_3_code 67 = .ok (.iload 4, 2) := by decide +kernel
theorem d1_69 : decode method_3_code 69 = .ok (.iconst 2, 1) := by decide +kernel
theorem d1_70 : decode method_3_code 70 = .ok (.if_icmp .ne 24, 3) := by decide +kernel
theorem d1_73 : decode method_3_code 73 = .ok (.new 33, 3) := by decide +kernel
theorem d1_76 : decode method_3_code 76 = .ok (.dup, 1) := by decide +kernel
theorem d1_77 : decode method_3_code 77 = .ok (.iconst 2, 1) := by decide +kernel
theorem d1_78 : decode method_3_code 78 = .ok (.newarray .char, 2) := by decide +kernel
theorem d1_80 : decode method_3_code 80 = .ok (.dup, 1) := by decide +kernel
theorem d1_81 : decode method_3_code 81 = .ok (.iconst 0, 1) := by decide +kernel
theorem d1_82 : decode method_3_code 82 = .ok (.iload 5, 2) := by decide +kernel
theorem d1_84 : decode method_3_code 84 = .ok (.castore, 1) := by decide +kernel
theorem d1_85 : decode method_3_code 85 = .ok (.dup, 1) := by decide +kernel
theorem d1_86 : decode method_3_code 86 = .ok (.iconst 1, 1) := by decide +kernel
theorem d1_87 : decode method_3_code 87 = .ok (.iload 6, 2) := by decide +kernel
theorem d1_89 : decode method_3_code 89 = .ok (.castore, 1) := by decide +kernel
theorem d1_90 : decode method_3_code 90 = .ok (.invokespecial 58, 3) := by decide +kernel
theorem d1_93 : decode method_3_code 93 = .ok (.areturn, 1) := by decide +kernel
theorem d1_94 : decode method_3_code 94 = .ok (.new 33, 3) := by decide +kernel
theorem d1_97 : decode method_3_code 97 = .ok (.dup, 1) := by decide +kernel
theorem d1_98 : decode method_3_code 98 = .ok (.iconst 3, 1) := by decide +kernel
theorem d1_99 : decode method_3_code 99 = .ok (.newarray .char, 2) := by decide +kernel
theorem d1_101 : decode method_3_code 101 = .ok (.dup, 1) := by decide +kernel
theorem d1_102 : decode method_3_code 102 = .ok (.iconst 0, 1) := by decide +kernel
theorem d1_103 : decode method_3_code 103 = .ok (.iload 5, 2) := by decide +kernel
theorem d1_105 : decode method_3_code 105 = .ok (.castore, 1) := by decide +kernel
theorem d1_106 : decode method_3_code 106 = .ok (.dup, 1) := by decide +kernel
theorem d1_107 : decode method_3_code 107 = .ok (.iconst 1, 1) := by decide +kernel
theorem d1_108 : decode method_3_code 108 = .ok (.iload 6, 2) := by decide +kernel
theorem d1_110 : decode method_3_code 110 = .ok (.castore, 1) := by decide +kernel
theorem d1_111 : decode method_3_code 111 = .ok (.dup, 1) := by decide +kernel
theorem d1_112 : decode method_3_code 112 = .ok (.iconst 2, 1) := by decide +kernel
theorem d1_113 : decode method_3_code 113 = .ok (.iload 7, 2) := by decide +kernel
theorem d1_115 : decode method_3_code 115 = .ok (.castore, 1) := by decide +kernel
theorem d1_116 : decode method_3_code 116 = .ok (.invokespecial 58, 3) := by decide +kernel
theorem d1_119 : decode method_3_code 119 = .ok (.areturn, 1) := by decide +kernel
theorem pn_com_example_periodic_jobs_periodicjobs_engine_DeliveryResultFailedPinLaw : plainName "com/example/periodic_jobs/periodicjobs/engine/DeliveryResultFailedPinLaw" = true := by first | (simp [plainName, overriddenIn]; done) | decide +kernel
theorem ef1 (m : MethodId) (x0 : Int32) (x1 : Int32) (x2 : Int32) (x3 : Int32) : entryFrame m #[(.int x0), (.int x1), (.int x2), (.int x3)] 8 = mkF m 0 #[.val (.int x0), .val (.int x1), .val (.int x2), .val (.int x3), .unset, .unset, .unset, .unset] [] := by first | (simp [entryFrame, mkF, argsToLocals, Value.category]; done) | rfl
def Q1 (Z : State) (ln : Int32) (c0 : Int32) (c1 : Int32) (c2 : Int32) (cs : Int32) (h0 : Heap) (n0 : Nat) (v : Option Value) (h : Heap) (L : List Loc) : Prop := ∃ a, v = some (.ref a) ∧ Fr n0 L ∧ Keep h0 h [] ∧ Exa Z h a "java/lang/String"
set_option maxRecDepth 65536 in
set_option maxHeartbeats 40000000 in
theorem rm1 (l : Launch) (Z : State) (a0 : Array Value) (hw : ∀ d ∈ tables_1, d.before a0 Z = true) (ws : List Jvm.Cond) (ln : Int32) (c0 : Int32) (c1 : Int32) (c2 : Int32) (cs : Int32) (h0 : Heap) (n0 : Nat) (Z0 : n0 ≤ h0.size) (O0 : Old Z n0 h0) (S_CS : Sta Z Z.heap "java/lang/String" "COMPACT_STRINGS" "Z" (.int cs)) (hcs : ¬ cs = 0) :
    MetFree l (⟨"com/example/periodic_jobs/periodicjobs/engine/DeliveryResultFailedPinLaw", "draw", "(IIII)Ljava/lang/String;"⟩ : MethodName) (head1 (Jvm.Cond.code (⟨"com/example/periodic_jobs/periodicjobs/engine/DeliveryResultFailedPinLaw", "draw", "(IIII)Ljava/lang/String;"⟩ : MethodName) method_3_code 8 ((Option.some (FieldType.object "java/lang/String"))) :: ws) ({ frames := 4, cells := 6, slots := 12, locals := 66 } : Room)) (fun aa U => aa = #[(.int ln), (.int c0), (.int c1), (.int c2)] ∧ Z.Warmed39 U.vm ∧ U.heap = h0 ∧ CHv Z own_EL U.vm h0) (fun _ _ _ _ _ => True) (fun _ U ou U' => ∃ v L, ou = .returned v ∧ Q1 Z ln c0 c1 c2 cs h0 n0 v U'.heap L ∧ CHr Z own_EL U.vm U.heap U'.vm U'.heap ∧ ReturnedEndW U ou U' L ({ frames := 4, cells := 6, slots := 12, locals := 66 } : Room).cells ({ frames := 4, cells := 6, slots := 12, locals := 66 } : Room).slots) := by
  refine MetFree.of_bodySF (plainFor_of_name pn_com_example_periodic_jobs_periodicjobs_engine_DeliveryResultFailedPinLaw) hisR ?_
  intro pg e s m args below meth c s₁ Bd hml0 hP hK
  obtain ⟨rfl, hZ, hh, hCH⟩ := hP
  have wS := own_wS hw
  have hEL := own_hEL hw
  have hx := Bd.exec
  have hby := Bd.bytes
  have hml : c.maxLocals = 8 := hml0
  have hown : s.vm.findClass "com/example/periodic_jobs/periodicjobs/engine/DeliveryResultFailedPinLaw" = some m.cls := findClass_of_methodNamed Bd.named
  have hnm := (name_of_methodNamed Bd.named Bd.method).1
  have X0 : Stand pg l e ({ frames := 4, cells := 6, slots := 12, locals := 66 } : Room) (s.setVm s.vm) m #[(.int ln), (.int c0), (.int c1), (.int c2)] below meth c s₁ [] 0 0 := Stand.of_body Bd
  have e0 : s₁.heap = h0 := by rw [← hh, Bd.state]; rfl
  have N0 := Fr.nil n0
  have hS0 : s.Since s.vm h0.size := (State.WarmedH.refl s).since _
  have hk0 : h0.size ≤ h0.size := Nat.le_refl _
  have CR0 : CHr Z own_EL s.vm h0 s.vm h0 := CHr.refl hCH
  have K0 : Keep h0 h0 [] := Keep.refl _ _
  show own_Go pg.tables e below (fun ou U' => ∃ v L, ou = .returned v ∧ Q1 Z ln c0 c1 c2 cs h0 n0 v U'.heap L ∧ CHr Z own_EL s.vm s.heap U'.vm U'.heap ∧ ReturnedEndW s ou U' L ({ frames := 4, cells := 6, slots := 12, locals := 66 } : Room).cells ({ frames := 4, cells := 6, slots := 12, locals := 66 } : Room).slots) (s₁.setTop (entryFrame m #[(.int ln), (.int c0), (.int c1), (.int c2)] 8))
  refine own_go (S' := s₁.setTop (mkF m 0 #[.val (.int ln), .val (.int c0), .val (.int c1), .val (.int c2), .unset, .unset, .unset, .unset] [])) (fun tg kk => castTop (ef1 m ln c0 c1 c2) kk) ?_
  refine own_go (S' := s₁.setTop (mkF m 1 #[.val (.int ln), .val (.int c0), .val (.int c1), .val (.int c2), .unset, .unset, .unset, .unset] [(.int ln)])) (fun tg kk => XS.iloadN X0.here hx rfl (hb hby d1_0) rfl kk) ?_
  refine own_go (S' := s₁.setTop (mkF m 2 #[.val (.int ln), .val (.int c0), .val (.int c1), .val (.int c2), .unset, .unset, .unset, .unset] [(.int (3 : Int32)), (.int ln)])) (fun tg kk => XT.iconstV X0.here hx rfl (3 : Int32) (hb hby d1_1) (by decide) kk) ?_
  refine own_go (S' := s₁.setTop (mkF m 3 #[.val (.int ln), .val (.int c0), .val (.int c1), .val (.int c2), .unset, .unset, .unset, .unset] [(.int (ln &&& (3 : Int32)))])) (fun tg kk => XS.iand X0.here hx rfl (hb hby d1_2) rfl kk) ?_
  refine own_go (S' := s₁.setTop (mkF m 5 #[.val (.int ln), .val (.int c0), .val (.int c1), .val (.int c2), .val (.int (ln &&& (3 : Int32))), .unset, .unset, .unset] [])) (fun tg kk => XS.istore X0.here hx rfl (hb hby d1_3) rfl (l' := #[.val (.int ln), .val (.int c0), .val (.int c1), .val (.int c2), .val (.int (ln &&& (3 : Int32))), .unset, .unset, .unset]) rfl kk) ?_
  refine own_go (S' := s₁.setTop (mkF m 6 #[.val (.int ln), .val (.int c0), .val (.int c1), .val (.int c2), .val (.int (ln &&& (3 : Int32))), .unset, .unset, .unset] [(.int c0)])) (fun tg kk => XS.iloadN X0.here hx rfl (hb hby d1_5) rfl kk) ?_
  refine own_go (S' := s₁.setTop (mkF m 9 #[.val (.int ln), .val (.int c0), .val (.int c1), .val (.int c2), .val (.int (ln &&& (3 : Int32))), .unset, .unset, .unset] [(.int (255 : Int32)), (.int c0)])) (fun tg kk => XT.sipushV X0.here hx rfl (255 : Int32) (hb hby d1_6) (by decide) kk) ?_
  refine own_go (S' := s₁.setTop (mkF m 10 #[.val (.int ln), .val (.int c0), .val (.int c1), .val (.int c2), .val (.int (ln &&& (3 : Int32))), .unset, .unset, .unset] [(.int (c0 &&& (255 : Int32)))])) (fun tg kk => XS.iand X0.here hx rfl (hb hby d1_9) rfl kk) ?_
  refine own_go (S' := s₁.setTop (mkF m 11 #[.val (.int ln), .val (.int c0), .val (.int c1), .val (.int c2), .val (.int (ln &&& (3 : Int32))), .unset, .unset, .unset] [(.int (c0 &&& (255 : Int32)).toUInt32.toUInt16.toUInt32.toInt32)])) (fun tg kk => XT.i2c X0.here hx rfl (hb hby d1_10) rfl kk) ?_
  refine own_go (S' := s₁.setTop (mkF m 13 #[.val (.int ln), .val (.int c0), .val (.int c1), .val (.int c2), .val (.int (ln &&& (3 : Int32))), .val (.int (c0 &&& (255 : Int32)).toUInt32.toUInt16.toUInt32.toInt32), .unset, .unset] [])) (fun tg kk => XS.istore X0.here hx rfl (hb hby d1_11) rfl (l' := #[.val (.int ln), .val (.int c0), .val (.int c1), .val (.int c2), .val (.int (ln &&& (3 : Int32))), .val (.int (c0 &&& (255 : Int32)).toUInt32.toUInt16.toUInt32.toInt32), .unset, .unset]) rfl kk) ?_
  refine own_go (S' := s₁.setTop (mkF m 14 #[.val (.int ln), .val (.int c0), .val (.int c1), .val (.int c2), .val (.int (ln &&& (3 : Int32))), .val (.int (c0 &&& (255 : Int32)).toUInt32.toUInt16.toUInt32.toInt32), .unset, .unset] [(.int c1)])) (fun tg kk => XS.iloadN X0.here hx rfl (hb hby d1_13) rfl kk) ?_
  refine own_go (S' := s₁.setTop (mkF m 17 #[.val (.int ln), .val (.int c0), .val (.int c1), .val (.int c2), .val (.int (ln &&& (3 : Int32))), .val (.int (c0 &&& (255 : Int32)).toUInt32.toUInt16.toUInt32.toInt32), .unset, .unset] [(.int (255 : Int32)), (.int c1)])) (fun tg kk => XT.sipushV X0.here hx rfl (255 : Int32) (hb hby d1_14) (by decide) kk) ?_
  refine own_go (S' := s₁.setTop (mkF m 18 #[.val (.int ln), .val (.int c0), .val (.int c1), .val (.int c2), .val (.int (ln &&& (3 : Int32))), .val (.int (c0 &&& (255 : Int32)).toUInt32.toUInt16.toUInt32.toInt32), .unset, .unset] [(.int (c1 &&& (255 : Int32)))])) (fun tg kk => XS.iand X0.here hx rfl (hb hby d1_17) rfl kk) ?_
  refine own_go (S' := s₁.setTop (mkF m 19 #[.val (.int ln), .val (.int c0), .val (.int c1), .val (.int c2), .val (.int (ln &&& (3 : Int32))), .val (.int (c0 &&& (255 : Int32)).toUInt32.toUInt16.toUInt32.toInt32), .unset, .unset] [(.int (c1 &&& (255 : Int32)).toUInt32.toUInt16.toUInt32.toInt32)])) (fun tg kk => XT.i2c X0.here hx rfl (hb hby d1_18) rfl kk) ?_
  refine own_go (S' := s₁.setTop (mkF m 21 #[.val (.int ln), .val (.int c0), .val (.int c1), .val (.int c2), .val (.int (ln &&& (3 : Int32))), .val (.int (c0 &&& (255 : Int32)).toUInt32.toUInt16.toUInt32.toInt32), .val (.int (c1 &&& (255 : Int32)).toUInt32.toUInt16.toUInt32.toInt32), .unset] [])) (fun tg kk => XS.istore X0.here hx rfl (hb hby d1_19) rfl (l' := #[.val (.int ln), .val (.int c0), .val (.int c1), .val (.int c2), .val (.int (ln &&& (3 : Int32))), .val (.int (c0 &&& (255 : Int32)).toUInt32.toUInt16.toUInt32.toInt32), .val (.int (c1 &&& (255 : Int32)).toUInt32.toUInt16.toUInt32.toInt32), .unset]) rfl kk) ?_
  refine own_go (S' := s₁.setTop (mkF m 22 #[.val (.int ln), .val (.int c0), .val (.int c1), .val (.int c2), .val (.int (ln &&& (3 : Int32))), .val (.int (c0 &&& (255 : Int32)).toUInt32.toUInt16.toUInt32.toInt32), .val (.int (c1 &&& (255 : Int32)).toUInt32.toUInt16.toUInt32.toInt32), .unset] [(.int c2)])) (fun tg kk => XS.iloadN X0.here hx rfl (hb hby d1_21) rfl kk) ?_
  refine own_go (S' := s₁.setTop (mkF m 25 #[.val (.int ln), .val (.int c0), .val (.int c1), .val (.int c2), .val (.int (ln &&& (3 : Int32))), .val (.int (c0 &&& (255 : Int32)).toUInt32.toUInt16.toUInt32.toInt32), .val (.int (c1 &&& (255 : Int32)).toUInt32.toUInt16.toUInt32.toInt32), .unset] [(.int (255 : Int32)), (.int c2)])) (fun tg kk => XT.sipushV X0.here hx rfl (255 : Int32) (hb hby d1_22) (by decide) kk) ?_
  refine own_go (S' := s₁.setTop (mkF m 26 #[.val (.int ln), .val (.int c0), .val (.int c1), .val (.int c2), .val (.int (ln &&& (3 : Int32))), .val (.int (c0 &&& (255 : Int32)).toUInt32.toUInt16.toUInt32.toInt32), .val (.int (c1 &&& (255 : Int32)).toUInt32.toUInt16.toUInt32.toInt32), .unset] [(.int (c2 &&& (255 : Int32)))])) (fun tg kk => XS.iand X0.here hx rfl (hb hby d1_25) rfl kk) ?_
  refine own_go (S' := s₁.setTop (mkF m 27 #[.val (.int ln), .val (.int c0), .val (.int c1), .val (.int c2), .val (.int (ln &&& (3 : Int32))), .val (.int (c0 &&& (255 : Int32)).toUInt32.toUInt16.toUInt32.toInt32), .val (.int (c1 &&& (255 : Int32)).toUInt32.toUInt16.toUInt32.toInt32), .unset] [(.int (c2 &&& (255 : Int32)).toUInt32.toUInt16.toUInt32.toInt32)])) (fun tg kk => XT.i2c X0.here hx rfl (hb hby d1_26) rfl kk) ?_
  refine own_go (S' := s₁.setTop (mkF m 29 #[.val (.int ln), .val (.int c0), .val (.int c1), .val (.int c2), .val (.int (ln &&& (3 : Int32))), .val (.int (c0 &&& (255 : Int32)).toUInt32.toUInt16.toUInt32.toInt32), .val (.int (c1 &&& (255 : Int32)).toUInt32.toUInt16.toUInt32.toInt32), .val (.int (c2 &&& (255 : Int32)).toUInt32.toUInt16.toUInt32.toInt32)] [])) (fun tg kk => XS.istore X0.here hx rfl (hb hby d1_27) rfl (l' := #[.val (.int ln), .val (.int c0), .val (.int c1), .val (.int c2), .val (.int (ln &&& (3 : Int32))), .val (.int (c0 &&& (255 : Int32)).toUInt32.toUInt16.toUInt32.toInt32), .val (.int (c1 &&& (255 : Int32)).toUInt32.toUInt16.toUInt32.toInt32), .val (.int (c2 &&& (255 : Int32)).toUInt32.toUInt16.toUInt32.toInt32)]) rfl kk) ?_
  obtain ⟨y0, hy0⟩ : ∃ z, (c0 &&& (255 : Int32)).toUInt32.toUInt16.toUInt32.toInt32 = z := ⟨_, rfl⟩
  rw [hy0]
  have ey0 : y0 = c0 &&& (255 : Int32) := by rw [← hy0]; exact own_chr _
  have hby0 : ¬ (255 : Int32) < y0 := by rw [ey0]; exact own_chb _
  have hny0 : nar .char y0 = y0 := by rw [ey0]; exact own_chr _
  have hfy0 : fits .char (.int y0) = true := by rw [ey0]; exact own_chf _
  obtain ⟨y1, hy1⟩ : ∃ z, (c1 &&& (255 : Int32)).toUInt32.toUInt16.toUInt32.toInt32 = z := ⟨_, rfl⟩
  rw [hy1]
  have ey1 : y1 = c1 &&& (255 : Int32) := by rw [← hy1]; exact own_chr _
  have hby1 : ¬ (255 : Int32) < y1 := by rw [ey1]; exact own_chb _
  have hny1 : nar .char y1 = y1 := by rw [ey1]; exact own_chr _
  have hfy1 : fits .char (.int y1) = true := by rw [ey1]; exact own_chf _
  obtain ⟨y2, hy2⟩ : ∃ z, (c2 &&& (255 : Int32)).toUInt32.toUInt16.toUInt32.toInt32 = z := ⟨_, rfl⟩
  rw [hy2]
  have ey2 : y2 = c2 &&& (255 : Int32) := by rw [← hy2]; exact own_chr _
  have hby2 : ¬ (255 : Int32) < y2 := by rw [ey2]; exact own_chb _
  have hny2 : nar .char y2 = y2 := by rw [ey2]; exact own_chr _
  have hfy2 : fits .char (.int y2) = true := by rw [ey2]; exact own_chf _
  refine own_go (S' := s₁.setTop (mkF m 31 #[.val (.int ln), .val (.int c0), .val (.int c1), .val (.int c2), .val (.int (ln &&& (3 : Int32))), .val (.int y0), .val (.int y1), .val (.int y2)] [(.int (ln &&& (3 : Int32)))])) (fun tg kk => XS.iload X0.here hx rfl (hb hby d1_29) rfl kk) ?_
  by_cases cd1 : (ln &&& (3 : Int32)) = 0
  · refine own_go (S' := s₁.setTop (mkF m 34 #[.val (.int ln), .val (.int c0), .val (.int c1), .val (.int c2), .val (.int (ln &&& (3 : Int32))), .val (.int y0), .val (.int y1), .val (.int y2)] [])) (fun tg kk => XS.ifNo X0.here hx rfl (hb hby d1_31) rfl (XT.i0_ne_f cd1) kk) ?_
    obtain ⟨T2, h2, X2, e2, Ex2, A2, D2, -, st2⟩ := newO X0 hx hZ hown (hw _ (List.mem_of_getElem? (i := 4) rfl)) (hw _ (List.mem_of_getElem? (i := 5) rfl)) (hw _ (List.mem_of_getElem? (i := 6) rfl)) e0 (g := (mkF m 34 #[.val (.int ln), .val (.int c0), .val (.int c1), .val (.int c2), .val (.int (ln &&& (3 : Int32))), .val (.int y0), .val (.int y1), .val (.int y2)] [])) rfl (hb hby d1_34) (by decide) (by decide)
    obtain ⟨a2, g2⟩ : ∃ z, z = h0.size := ⟨_, rfl⟩
    rw [← g2] at A2 D2 st2
    have sn2 : Safe Z own_EL s.vm h0 a2 := Safe.new (Nat.le_of_eq g2.symm)
    have q2 : n0 ≤ a2 := by rw [g2]; exact Z0
    have r2 : h0.size ≤ a2 := by rw [g2]; exact K0.1
    have sf3_a2 := Safe.ext Ex2 CR0.1 sn2
    have CR3 := CR0.trans (CHr.ext Ex2 CR0.1)
    have hk3 := Nat.le_trans hk0 Ex2.1
    have O4 : Old Z n0 h2 := O0.ext Ex2
    have Z5 : n0 ≤ h2.size := Nat.le_trans Z0 Ex2.1
    have K6 : Keep h0 h2 [] := K0.ext Ex2
    refine own_go (S' := T2.setTop (mkF m 37 #[.val (.int ln), .val (.int c0), .val (.int c1), .val (.int c2), .val (.int (ln &&& (3 : Int32))), .val (.int y0), .val (.int y1), .val (.int y2)] [(.ref a2)])) (st2) ?_
    have F2_value : Fld Z h2 a2 "java/lang/String" "value" "[B" .null := D2 (Or.inr (hw _ (List.mem_of_getElem? (i := 20) rfl))) (ty := .array .byte) (by decide)
    have F2_coder : Fld Z h2 a2 "java/lang/String" "coder" "B" (.int (0 : Int32)) := D2 (Or.inr (hw _ (List.mem_of_getElem? (i := 21) rfl))) (ty := .byte) (by decide)
    refine own_go (S' := T2.setTop (mkF m 38 #[.val (.int ln), .val (.int c0), .val (.int c1), .val (.int c2), .val (.int (ln &&& (3 : Int32))), .val (.int y0), .val (.int y1), .val (.int y2)] [(.ref a2), (.ref a2)])) (fun tg kk => XS.dup X2.here hx rfl (hb hby d1_37) rfl rfl kk) ?_
    refine own_go (S' := T2.setTop (mkF m 39 #[.val (.int ln), .val (.int c0), .val (.int c1), .val (.int c2), .val (.int (ln &&& (3 : Int32))), .val (.int y0), .val (.int y1), .val (.int y2)] [(.int (0 : Int32)), (.ref a2), (.ref a2)])) (fun tg kk => XT.iconstV X2.here hx rfl (0 : Int32) (hb hby d1_38) (by decide) kk) ?_
    obtain ⟨T7, h7, cA7, X7, e7, Ex7, A7, st7⟩ := newP X2 hx hZ (hw _ (List.mem_of_getElem? (i := 7) rfl)) e2 (g := (mkF m 39 #[.val (.int ln), .val (.int c0), .val (.int c1), .val (.int c2), .val (.int (ln &&& (3 : Int32))), .val (.int y0), .val (.int y1), .val (.int y2)] [(.int (0 : Int32)), (.ref a2), (.ref a2)])) rfl (hb hby d1_39) rfl (n := (0 : Int32)) (by decide) (cap := 0) (by decide) (by decide) (by decide) (by decide)
    obtain ⟨a7, g7⟩ : ∃ z, z = h2.size := ⟨_, rfl⟩
    rw [← g7] at A7 st7
    have sn7 : Safe Z own_EL s.vm h2 a7 := Safe.new (Nat.le_of_eq g7.symm)
    have ne7_a2 : a2 ≠ a7 := by rw [g7]; exact Nat.ne_of_lt A2.lt
    have q7 : n0 ≤ a7 := by rw [g7]; exact Z5
    have r7 : h0.size ≤ a7 := by rw [g7]; exact K6.1
    have sf8_a2 := Safe.ext Ex7 CR3.1 sf3_a2
    have sf8_a7 := Safe.ext Ex7 CR3.1 sn7
    have CR8 := CR3.trans (CHr.ext Ex7 CR3.1)
    have hk8 := Nat.le_trans hk3 Ex7.1
    have F9 := F2_value.ext Ex7
    have F10 := F2_coder.ext Ex7
    have E11 : Exa Z h7 a2 "java/lang/String" := A2.ext Ex7
    have O12 : Old Z n0 h7 := O4.ext Ex7
    have Z13 : n0 ≤ h7.size := Nat.le_trans Z5 Ex7.1
    have K14 : Keep h0 h7 [] := K6.ext Ex7
    refine own_go (S' := T7.setTop (mkF m 41 #[.val (.int ln), .val (.int c0), .val (.int c1), .val (.int c2), .val (.int (ln &&& (3 : Int32))), .val (.int y0), .val (.int y1), .val (.int y2)] [(.ref a7), (.ref a2), (.ref a2)])) (st7) ?_
    have V7 : Arv Z h7 a7 cA7 .char (0 : Int32) [] (.int (0 : Int32)) := (Arv.new A7 (by decide)).pad (pad_rep [] (.int (0 : Int32)) 0)
    obtain ⟨v15, _, ⟨T15, L15, k15, n15⟩, -, Y15, hT15, gr15, ⟨Lc15, hQ15, l15, y15, z15, CH15⟩, st15⟩ := X7.specialBackS hx (y := (⟨"java/lang/String", "<init>", "([C)V"⟩ : MethodName)) rfl hown (mvT hZ (hw _ (List.mem_of_getElem? (i := 8) rfl))) (mvT hZ (hw _ (List.mem_of_getElem? (i := 9) rfl))) (mvT hZ (hw _ (List.mem_of_getElem? (i := 10) rfl))) (by decide) (backOfSH (W := 1) (rm2_0 l Z a0 hw [] a2 a7 cA7 h7 n0 Z13 F9 F10 E11 q2 V7 ne7_a2) hZ (hw _ (List.mem_of_getElem? (i := 10) rfl)) (hw _ (List.mem_of_getElem? (i := 6) rfl)) (by decide) (by decide) hEL CR8.1) (g := (mkF m 41 #[.val (.int ln), .val (.int c0), .val (.int c1), .val (.int c2), .val (.int (ln &&& (3 : Int32))), .val (.int y0), .val (.int y1), .val (.int y2)] [(.ref a7), (.ref a2), (.ref a2)])) rfl (by rw [hml]; rfl) (Steps.refl _) (a := a2) (argsL := [(.ref a7)]) (rest := [(.ref a2)]) (lenOf pd___C_V rfl) rfl (by show 2 * 0 + _ ≤ _; exact Nat.le_of_eq rfl) (hb hby d1_41) (fun _ _ => ⟨rfl, e7, (by decide : 2 + 4 ≤ _), (by decide : 4 + 8 ≤ _)⟩)
    dsimp only [Pt.U, Pt.locs, Pt.cells, Pt.slots] at Y15 l15 y15 z15 st15 hQ15 hT15 gr15 CH15
    subst l15 y15 z15
    obtain ⟨X15, hS15, hZ15, ho15⟩ := rebS hS0 (Nat.le_trans hk8 (Nat.le_of_eq (congrArg Array.size e7.symm))) Y15 hT15 gr15 hZ hown
    obtain ⟨rfl, M16, K15⟩ := hQ15
    have N16 := Fr.app N0 M16
    obtain ⟨h15, e15⟩ : ∃ z, T15.heap = z := ⟨_, rfl⟩
    rw [e15] at K15 CH15 
    have hk15 : T15.heap.size ≤ h15.size := by rw [e15]; exact Nat.le_refl _
    have sf17_a2 := CH15.safe E11.lt sf8_a2
    have sf17_a7 := CH15.safe V7.lt sf8_a7
    have CR17 := CR8.trans CH15
    have E18 : Exa Z h15 a2 "java/lang/String" := E11.keep K15
    have A19 := V7.keep K15 (ninS (Ne.symm ne7_a2) nin0)
    have O20 : Old Z n0 h15 := O12.keep K15 (allS q2 all0)
    have Z21 : n0 ≤ h15.size := Nat.le_trans Z13 K15.1
    have K22 : Keep h0 h15 [] := K14.trans K15 (allS (Or.inr r2) all0)
    refine own_to (S' := T15.setTop (mkF m 44 #[.val (.int ln), .val (.int c0), .val (.int c1), .val (.int c2), .val (.int (ln &&& (3 : Int32))), .val (.int y0), .val (.int y1), .val (.int y2)] [(.ref a2)])) st15 ?_
    obtain ⟨fs, hr, hrun, hended, hEnd⟩ := X15.leaveW hS15 (Nat.le_trans hk15 (Nat.le_of_eq (congrArg Array.size e15.symm))) (v := some (.ref a2)) (fun h => by rw [Bd.returns] at h; cases h)
    refine ⟨_, _, retOut X15 hx (i := .areturn) Bd.returns (own_narR rfl rfl) (Or.inr (Or.inr (Or.inr (Or.inr ⟨rfl, rfl, rfl⟩)))) (hb hby d1_44) hr, hrun, hended, _, _, rfl, ?_, ?_, hEnd.1, hEnd.2.1, hEnd.2.2.1, hEnd.2.2.2.mono (by decide) (by decide)⟩
    · show Q1 Z ln c0 c1 c2 cs h0 n0 (some (.ref a2)) T15.heap _
      rw [e15]
      exact ⟨a2, rfl, N16, K22, E18⟩
    · show CHr Z own_EL s.vm s.heap T15.vm T15.heap
      rw [hh, e15]
      exact CR17.trans (CHv.at X15 hZ15 hEL CR17.1)
  · refine own_go (S' := s₁.setTop (mkF m 45 #[.val (.int ln), .val (.int c0), .val (.int c1), .val (.int c2), .val (.int (ln &&& (3 : Int32))), .val (.int y0), .val (.int y1), .val (.int y2)] [])) (fun tg kk => XS.ifYes X0.here hx rfl (pc0 := 31) (pc' := 45) rfl (hb hby d1_31) rfl (XT.i0_ne_t cd1) (by decide) (by decide) kk) ?_
    refine own_go (S' := s₁.setTop (mkF m 47 #[.val (.int ln), .val (.int c0), .val (.int c1), .val (.int c2), .val (.int (ln &&& (3 : Int32))), .val (.int y0), .val (.int y1), .val (.int y2)] [(.int (ln &&& (3 : Int32)))])) (fun tg kk => XS.iload X0.here hx rfl (hb hby d1_45) rfl kk) ?_
    refine own_go (S' := s₁.setTop (mkF m 48 #[.val (.int ln), .val (.int c0), .val (.int c1), .val (.int c2), .val (.int (ln &&& (3 : Int32))), .val (.int y0), .val (.int y1), .val (.int y2)] [(.int (1 : Int32)), (.int (ln &&& (3 : Int32)))])) (fun tg kk => XT.iconstV X0.here hx rfl (1 : Int32) (hb hby d1_47) (by decide) kk) ?_
    by_cases cd23 : (ln &&& (3 : Int32)) = (1 : Int32)
    · refine own_go (S' := s₁.setTop (mkF m 51 #[.val (.int ln), .val (.int c0), .val (.int c1), .val (.int c2), .val (.int (ln &&& (3 : Int32))), .val (.int y0), .val (.int y1), .val (.int y2)] [])) (fun tg kk => XS.icmpNo X0.here hx rfl (hb hby d1_48) rfl (XT.ii_ne_f cd23) kk) ?_
      obtain ⟨T24, h24, X24, e24, Ex24, A24, D24, -, st24⟩ := newO X0 hx hZ hown (hw _ (List.mem_of_getElem? (i := 4) rfl)) (hw _ (List.mem_of_getElem? (i := 5) rfl)) (hw _ (List.mem_of_getElem? (i := 6) rfl)) e0 (g := (mkF m 51 #[.val (.int ln), .val (.int c0), .val (.int c1), .val (.int c2), .val (.int (ln &&& (3 : Int32))), .val (.int y0), .val (.int y1), .val (.int y2)] [])) rfl (hb hby d1_51) (by decide) (by decide)
      obtain ⟨a24, g24⟩ : ∃ z, z = h0.size := ⟨_, rfl⟩
      rw [← g24] at A24 D24 st24
      have sn24 : Safe Z own_EL s.vm h0 a24 := Safe.new (Nat.le_of_eq g24.symm)
      have q24 : n0 ≤ a24 := by rw [g24]; exact Z0
      have r24 : h0.size ≤ a24 := by rw [g24]; exact K0.1
      have sf25_a24 := Safe.ext Ex24 CR0.1 sn24
      have CR25 := CR0.trans (CHr.ext Ex24 CR0.1)
      have hk25 := Nat.le_trans hk0 Ex24.1
      have O26 : Old Z n0 h24 := O0.ext Ex24
      have Z27 : n0 ≤ h24.size := Nat.le_trans Z0 Ex24.1
      have K28 : Keep h0 h24 [] := K0.ext Ex24
      refine own_go (S' := T24.setTop (mkF m 54 #[.val (.int ln), .val (.int c0), .val (.int c1), .val (.int c2), .val (.int (ln &&& (3 : Int32))), .val (.int y0), .val (.int y1), .val (.int y2)] [(.ref a24)])) (st24) ?_
      have F24_value : Fld Z h24 a24 "java/lang/String" "value" "[B" .null := D24 (Or.inr (hw _ (List.mem_of_getElem? (i := 20) rfl))) (ty := .array .byte) (by decide)
      have F24_coder : Fld Z h24 a24 "java/lang/String" "coder" "B" (.int (0 : Int32)) := D24 (Or.inr (hw _ (List.mem_of_getElem? (i := 21) rfl))) (ty := .byte) (by decide)
      refine own_go (S' := T24.setTop (mkF m 55 #[.val (.int ln), .val (.int c0), .val (.int c1), .val (.int c2), .val (.int (ln &&& (3 : Int32))), .val (.int y0), .val (.int y1), .val (.int y2)] [(.ref a24), (.ref a24)])) (fun tg kk => XS.dup X24.here hx rfl (hb hby d1_54) rfl rfl kk) ?_
      refine own_go (S' := T24.setTop (mkF m 56 #[.val (.int ln), .val (.int c0), .val (.int c1), .val (.int c2), .val (.int (ln &&& (3 : Int32))), .val (.int y0), .val (.int y1), .val (.int y2)] [(.int (1 : Int32)), (.ref a24), (.ref a24)])) (fun tg kk => XT.iconstV X24.here hx rfl (1 : Int32) (hb hby d1_55) (by decide) kk) ?_
      obtain ⟨T29, h29, cA29, X29, e29, Ex29, A29, st29⟩ := newP X24 hx hZ (hw _ (List.mem_of_getElem? (i := 7) rfl)) e24 (g := (mkF m 56 #[.val (.int ln), .val (.int c0), .val (.int c1), .val (.int c2), .val (.int (ln &&& (3 : Int32))), .val (.int y0), .val (.int y1), .val (.int y2)] [(.int (1 : Int32)), (.ref a24), (.ref a24)])) rfl (hb hby d1_56) rfl (n := (1 : Int32)) (by decide) (cap := 1) (by decide) (by decide) (by decide) (by decide)
      obtain ⟨a29, g29⟩ : ∃ z, z = h24.size := ⟨_, rfl⟩
      rw [← g29] at A29 st29
      have sn29 : Safe Z own_EL s.vm h24 a29 := Safe.new (Nat.le_of_eq g29.symm)
      have ne29_a24 : a24 ≠ a29 := by rw [g29]; exact Nat.ne_of_lt A24.lt
      have q29 : n0 ≤ a29 := by rw [g29]; exact Z27
      have r29 : h0.size ≤ a29 := by rw [g29]; exact K28.1
      have sf30_a24 := Safe.ext Ex29 CR25.1 sf25_a24
      have sf30_a29 := Safe.ext Ex29 CR25.1 sn29
      have CR30 := CR25.trans (CHr.ext Ex29 CR25.1)
      have hk30 := Nat.le_trans hk25 Ex29.1
      have F31 := F24_value.ext Ex29
      have F32 := F24_coder.ext Ex29
      have E33 : Exa Z h29 a24 "java/lang/String" := A24.ext Ex29
      have O34 : Old Z n0 h29 := O26.ext Ex29
      have Z35 : n0 ≤ h29.size := Nat.le_trans Z27 Ex29.1
      have K36 : Keep h0 h29 [] := K28.ext Ex29
      refine own_go (S' := T29.setTop (mkF m 58 #[.val (.int ln), .val (.int c0), .val (.int c1), .val (.int c2), .val (.int (ln &&& (3 : Int32))), .val (.int y0), .val (.int y1), .val (.int y2)] [(.ref a29), (.ref a24), (.ref a24)])) (st29) ?_
      have V29 : Arv Z h29 a29 cA29 .char (1 : Int32) [(.int (0 : Int32))] (.int (0 : Int32)) := (Arv.new A29 (by decide)).pad (pad_rep [] (.int (0 : Int32)) 1)
      refine own_go (S' := T29.setTop (mkF m 59 #[.val (.int ln), .val (.int c0), .val (.int c1), .val (.int c2), .val (.int (ln &&& (3 : Int32))), .val (.int y0), .val (.int y1), .val (.int y2)] [(.ref a29), (.ref a29), (.ref a24), (.ref a24)])) (fun tg kk => XS.dup X29.here hx rfl (hb hby d1_58) rfl rfl kk) ?_
      refine own_go (S' := T29.setTop (mkF m 60 #[.val (.int ln), .val (.int c0), .val (.int c1), .val (.int c2), .val (.int (ln &&& (3 : Int32))), .val (.int y0), .val (.int y1), .val (.int y2)] [(.int (0 : Int32)), (.ref a29), (.ref a29), (.ref a24), (.ref a24)])) (fun tg kk => XT.iconstV X29.here hx rfl (0 : Int32) (hb hby d1_59) (by decide) kk) ?_
      refine own_go (S' := T29.setTop (mkF m 62 #[.val (.int ln), .val (.int c0), .val (.int c1), .val (.int c2), .val (.int (ln &&& (3 : Int32))), .val (.int y0), .val (.int y1), .val (.int y2)] [(.int y0), (.int (0 : Int32)), (.ref a29), (.ref a29), (.ref a24), (.ref a24)])) (fun tg kk => XS.iload X29.here hx rfl (hb hby d1_60) rfl kk) ?_
      obtain ⟨cl37, Ar37, q1_37, S37, q3_37, H37, G37⟩ := id V29
      have hj37 := inb_of (j := (0 : Int32)) S37 ⟨by decide, by decide⟩
      obtain ⟨T37, h37, X37, e37, W37, st37⟩ := stC X29 hx hZ e29 Ar37 hj37 (g := (mkF m 62 #[.val (.int ln), .val (.int c0), .val (.int c1), .val (.int c2), .val (.int (ln &&& (3 : Int32))), .val (.int y0), .val (.int y1), .val (.int y2)] [(.int y0), (.int (0 : Int32)), (.ref a29), (.ref a29), (.ref a24), (.ref a24)])) rfl rfl (hb hby d1_62)
      rw [hny0] at W37
      refine own_go (S' := T37.setTop (mkF m 63 #[.val (.int ln), .val (.int c0), .val (.int c1), .val (.int c2), .val (.int (ln &&& (3 : Int32))), .val (.int y0), .val (.int y1), .val (.int y2)] [(.ref a29), (.ref a24), (.ref a24)])) (st37) ?_
      have N37 := Fr.snoc X37 N0 q29
      have sf38_a24 := Safe.wr W37 sf30_a29 CR30.1 sf30_a24
      have sf38_a29 := Safe.wr W37 sf30_a29 CR30.1 sf30_a29
      have CR38 := CR30.trans (CHr.wr W37 sf30_a29 CR30.1)
      have hk38 := Nat.le_trans hk30 (Nat.le_of_eq W37.size.symm)
      have F39 := F31.other W37 (Or.inl ne29_a24)
      have F40 := F32.other W37 (Or.inl ne29_a24)
      have E41 : Exa Z h37 a24 "java/lang/String" := E33.wr W37
      have O43 : Old Z n0 h37 := O34.wr W37 q29
      have Z44 : n0 ≤ h37.size := by rw [W37.size]; exact Z35
      have K45 : Keep h0 h37 [] := K36.wr W37 (Or.inr r29)
      have V37 : Arv Z h37 a29 cA29 .char (1 : Int32) [(.int y0)] (.int (0 : Int32)) := Arv.set Ar37 q1_37 S37 q3_37 H37 G37 hfy0 W37 0 (by decide) (by show 0 < 1; decide)
      obtain ⟨v46, _, ⟨T46, L46, k46, n46⟩, -, X46, ⟨Lc46, hQ46, l46, y46, z46⟩, st46⟩ := X37.specialBack hx (y := (⟨"java/lang/String", "<init>", "([C)V"⟩ : MethodName)) rfl hown (mvT hZ (hw _ (List.mem_of_getElem? (i := 8) rfl))) (mvT hZ (hw _ (List.mem_of_getElem? (i := 9) rfl))) (mvT hZ (hw _ (List.mem_of_getElem? (i := 10) rfl))) (by decide) (backOf (W := 1) (rm2_1 l Z a0 hw [] a24 a29 cA29 cs y0 h37 n0 Z44 O43 F39 F40 E41 q24 V37 ne29_a24 S_CS hcs hby0) hZ (hw _ (List.mem_of_getElem? (i := 10) rfl)) (hw _ (List.mem_of_getElem? (i := 6) rfl)) (by decide) (by decide)) (g := (mkF m 63 #[.val (.int ln), .val (.int c0), .val (.int c1), .val (.int c2), .val (.int (ln &&& (3 : Int32))), .val (.int y0), .val (.int y1), .val (.int y2)] [(.ref a29), (.ref a24), (.ref a24)])) rfl (by rw [hml]; rfl) (Steps.refl _) (a := a24) (argsL := [(.ref a29)]) (rest := [(.ref a24)]) (lenOf pd___C_V rfl) rfl (by show 2 * 0 + _ ≤ _; exact Nat.le_of_eq rfl) (hb hby d1_63) (fun _ _ => ⟨rfl, e37, (by decide : 2 + 1 ≤ _), (by decide : 5 + 1 ≤ _)⟩)
      dsimp only [Pt.U, Pt.locs, Pt.cells, Pt.slots] at X46 l46 y46 z46 st46 hQ46
      subst l46 y46 z46
      obtain ⟨rfl, M47, K46⟩ := hQ46
      have N47 := Fr.app N37 M47
      obtain ⟨h46, e46⟩ : ∃ z, T46.heap = z := ⟨_, rfl⟩
      rw [e46] at K46 
      have sf48_a24 := Safe.keep K46 (sfS sf38_a24 sf0) CR38.1 sf38_a24
      have sf48_a29 := Safe.keep K46 (sfS sf38_a24 sf0) CR38.1 sf38_a29
      have CR48 := CR38.trans (CHr.keep K46 (sfS sf38_a24 sf0) CR38.1)
      have hk48 := Nat.le_trans hk38 K46.1
      have E49 : Exa Z h46 a24 "java/lang/String" := E41.keep K46
      have A50 := V37.keep K46 (ninS (Ne.symm ne29_a24) nin0)
      have O51 : Old Z n0 h46 := O43.keep K46 (allS q24 all0)
      have Z52 : n0 ≤ h46.size := Nat.le_trans Z44 K46.1
      have K53 : Keep h0 h46 [] := K45.trans K46 (allS (Or.inr r24) all0)
      refine own_to (S' := T46.setTop (mkF m 66 #[.val (.int ln), .val (.int c0), .val (.int c1), .val (.int c2), .val (.int (ln &&& (3 : Int32))), .val (.int y0), .val (.int y1), .val (.int y2)] [(.ref a24)])) st46 ?_
      obtain ⟨fs, hr, hrun, hended, hEnd⟩ := X46.leaveW hS0 (Nat.le_trans hk48 (Nat.le_of_eq (congrArg Array.size e46.symm))) (v := some (.ref a24)) (fun h => by rw [Bd.returns] at h; cases h)
      refine ⟨_, _, retOut X46 hx (i := .areturn) Bd.returns (own_narR rfl rfl) (Or.inr (Or.inr (Or.inr (Or.inr ⟨rfl, rfl, rfl⟩)))) (hb hby d1_66) hr, hrun, hended, _, _, rfl, ?_, ?_, hEnd.1, hEnd.2.1, hEnd.2.2.1, hEnd.2.2.2.mono (by decide) (by decide)⟩
      · show Q1 Z ln c0 c1 c2 cs h0 n0 (some (.ref a24)) T46.heap _
        rw [e46]
        exact ⟨a24, rfl, N47, K53, E49⟩
      · show CHr Z own_EL s.vm s.heap T46.vm T46.heap
        rw [hh, e46]
        exact CR48.trans (CHv.at X46 hZ hEL CR48.1)
    · refine own_go (S' := s₁.setTop (mkF m 67 #[.val (.int ln), .val (.int c0), .val (.int c1), .val (.int c2), .val (.int (ln &&& (3 : Int32))), .val (.int y0), .val (.int y1), .val (.int y2)] [])) (fun tg kk => XS.icmpYes X0.here hx rfl (pc0 := 48) (pc' := 67) rfl (hb hby d1_48) rfl (XT.ii_ne_t cd23) (by decide) (by decide) kk) ?_
      refine own_go (S' := s₁.setTop (mkF m 69 #[.val (.int ln), .val (.int c0), .val (.int c1), .val (.int c2), .val (.int (ln &&& (3 : Int32))), .val (.int y0), .val (.int y1), .val (.int y2)] [(.int (ln &&& (3 : Int32)))])) (fun tg kk => XS.iload X0.here hx rfl (hb hby d1_67) rfl kk) ?_
      refine own_go (S' := s₁.setTop (mkF m 70 #[.val (.int ln), .val (.int c0), .val (.int c1), .val (.int c2), .val (.int (ln &&& (3 : Int32))), .val (.int y0), .val (.int y1), .val (.int y2)] [(.int (2 : Int32)), (.int (ln &&& (3 : Int32)))])) (fun tg kk => XT.iconstV X0.here hx rfl (2 : Int32) (hb hby d1_69) (by decide) kk) ?_
      by_cases cd54 : (ln &&& (3 : Int32)) = (2 : Int32)
      · refine own_go (S' := s₁.setTop (mkF m 73 #[.val (.int ln), .val (.int c0), .val (.int c1), .val (.int c2), .val (.int (ln &&& (3 : Int32))), .val (.int y0), .val (.int y1), .val (.int y2)] [])) (fun tg kk => XS.icmpNo X0.here hx rfl (hb hby d1_70) rfl (XT.ii_ne_f cd54) kk) ?_
        obtain ⟨T55, h55, X55, e55, Ex55, A55, D55, -, st55⟩ := newO X0 hx hZ hown (hw _ (List.mem_of_getElem? (i := 4) rfl)) (hw _ (List.mem_of_getElem? (i := 5) rfl)) (hw _ (List.mem_of_getElem? (i := 6) rfl)) e0 (g := (mkF m 73 #[.val (.int ln), .val (.int c0), .val (.int c1), .val (.int c2), .val (.int (ln &&& (3 : Int32))), .val (.int y0), .val (.int y1), .val (.int y2)] [])) rfl (hb hby d1_73) (by decide) (by decide)
        obtain ⟨a55, g55⟩ : ∃ z, z = h0.size := ⟨_, rfl⟩
        rw [← g55] at A55 D55 st55
        have sn55 : Safe Z own_EL s.vm h0 a55 := Safe.new (Nat.le_of_eq g55.symm)
        have q55 : n0 ≤ a55 := by rw [g55]; exact Z0
        have r55 : h0.size ≤ a55 := by rw [g55]; exact K0.1
        have sf56_a55 := Safe.ext Ex55 CR0.1 sn55
        have CR56 := CR0.trans (CHr.ext Ex55 CR0.1)
        have hk56 := Nat.le_trans hk0 Ex55.1
        have O57 : Old Z n0 h55 := O0.ext Ex55
        have Z58 : n0 ≤ h55.size := Nat.le_trans Z0 Ex55.1
        have K59 : Keep h0 h55 [] := K0.ext Ex55
        refine own_go (S' := T55.setTop (mkF m 76 #[.val (.int ln), .val (.int c0), .val (.int c1), .val (.int c2), .val (.int (ln &&& (3 : Int32))), .val (.int y0), .val (.int y1), .val (.int y2)] [(.ref a55)])) (st55) ?_
        have F55_value : Fld Z h55 a55 "java/lang/String" "value" "[B" .null := D55 (Or.inr (hw _ (List.mem_of_getElem? (i := 20) rfl))) (ty := .array .byte) (by decide)
        have F55_coder : Fld Z h55 a55 "java/lang/String" "coder" "B" (.int (0 : Int32)) := D55 (Or.inr (hw _ (List.mem_of_getElem? (i := 21) rfl))) (ty := .byte) (by decide)
        refine own_go (S' := T55.setTop (mkF m 77 #[.val (.int ln), .val (.int c0), .val (.int c1), .val (.int c2), .val (.int (ln &&& (3 : Int32))), .val (.int y0), .val (.int y1), .val (.int y2)] [(.ref a55), (.ref a55)])) (fun tg kk => XS.dup X55.here hx rfl (hb hby d1_76) rfl rfl kk) ?_
        refine own_go (S' := T55.setTop (mkF m 78 #[.val (.int ln), .val (.int c0), .val (.int c1), .val (.int c2), .val (.int (ln &&& (3 : Int32))), .val (.int y0), .val (.int y1), .val (.int y2)] [(.int (2 : Int32)), (.ref a55), (.ref a55)])) (fun tg kk => XT.iconstV X55.here hx rfl (2 : Int32) (hb hby d1_77) (by decide) kk) ?_
        obtain ⟨T60, h60, cA60, X60, e60, Ex60, A60, st60⟩ := newP X55 hx hZ (hw _ (List.mem_of_getElem? (i := 7) rfl)) e55 (g := (mkF m 78 #[.val (.int ln), .val (.int c0), .val (.int c1), .val (.int c2), .val (.int (ln &&& (3 : Int32))), .val (.int y0), .val (.int y1), .val (.int y2)] [(.int (2 : Int32)), (.ref a55), (.ref a55)])) rfl (hb hby d1_78) rfl (n := (2 : Int32)) (by decide) (cap := 2) (by decide) (by decide) (by decide) (by decide)
        obtain ⟨a60, g60⟩ : ∃ z, z = h55.size := ⟨_, rfl⟩
        rw [← g60] at A60 st60
        have sn60 : Safe Z own_EL s.vm h55 a60 := Safe.new (Nat.le_of_eq g60.symm)
        have ne60_a55 : a55 ≠ a60 := by rw [g60]; exact Nat.ne_of_lt A55.lt
        have q60 : n0 ≤ a60 := by rw [g60]; exact Z58
        have r60 : h0.size ≤ a60 := by rw [g60]; exact K59.1
        have sf61_a55 := Safe.ext Ex60 CR56.1 sf56_a55
        have sf61_a60 := Safe.ext Ex60 CR56.1 sn60
        have CR61 := CR56.trans (CHr.ext Ex60 CR56.1)
        have hk61 := Nat.le_trans hk56 Ex60.1
        have F62 := F55_value.ext Ex60
        have F63 := F55_coder.ext Ex60
        have E64 : Exa Z h60 a55 "java/lang/String" := A55.ext Ex60
        have O65 : Old Z n0 h60 := O57.ext Ex60
        have Z66 : n0 ≤ h60.size := Nat.le_trans Z58 Ex60.1
        have K67 : Keep h0 h60 [] := K59.ext Ex60
        refine own_go (S' := T60.setTop (mkF m 80 #[.val (.int ln), .val (.int c0), .val (.int c1), .val (.int c2), .val (.int (ln &&& (3 : Int32))), .val (.int y0), .val (.int y1), .val (.int y2)] [(.ref a60), (.ref a55), (.ref a55)])) (st60) ?_
        have V60 : Arv Z h60 a60 cA60 .char (2 : Int32) [(.int (0 : Int32)), (.int (0 : Int32))] (.int (0 : Int32)) := (Arv.new A60 (by decide)).pad (pad_rep [] (.int (0 : Int32)) 2)
        refine own_go (S' := T60.setTop (mkF m 81 #[.val (.int ln), .val (.int c0), .val (.int c1), .val (.int c2), .val (.int (ln &&& (3 : Int32))), .val (.int y0), .val (.int y1), .val (.int y2)] [(.ref a60), (.ref a60), (.ref a55), (.ref a55)])) (fun tg kk => XS.dup X60.here hx rfl (hb hby d1_80) rfl rfl kk) ?_
        refine own_go (S' := T60.setTop (mkF m 82 #[.val (.int ln), .val (.int c0), .val (.int c1), .val (.int c2), .val (.int (ln &&& (3 : Int32))), .val (.int y0), .val (.int y1), .val (.int y2)] [(.int (0 : Int32)), (.ref a60), (.ref a60), (.ref a55), (.ref a55)])) (fun tg kk => XT.iconstV X60.here hx rfl (0 : Int32) (hb hby d1_81) (by decide) kk) ?_
        refine own_go (S' := T60.setTop (mkF m 84 #[.val (.int ln), .val (.int c0), .val (.int c1), .val (.int c2), .val (.int (ln &&& (3 : Int32))), .val (.int y0), .val (.int y1), .val (.int y2)] [(.int y0), (.int (0 : Int32)), (.ref a60), (.ref a60), (.ref a55), (.ref a55)])) (fun tg kk => XS.iload X60.here hx rfl (hb hby d1_82) rfl kk) ?_
        obtain ⟨cl68, Ar68, q1_68, S68, q3_68, H68, G68⟩ := id V60
        have hj68 := inb_of (j := (0 : Int32)) S68 ⟨by decide, by decide⟩
        obtain ⟨T68, h68, X68, e68, W68, st68⟩ := stC X60 hx hZ e60 Ar68 hj68 (g := (mkF m 84 #[.val (.int ln), .val (.int c0), .val (.int c1), .val (.int c2), .val (.int (ln &&& (3 : Int32))), .val (.int y0), .val (.int y1), .val (.int y2)] [(.int y0), (.int (0 : Int32)), (.ref a60), (.ref a60), (.ref a55), (.ref a55)])) rfl rfl (hb hby d1_84)
        rw [hny0] at W68
        refine own_go (S' := T68.setTop (mkF m 85 #[.val (.int ln), .val (.int c0), .val (.int c1), .val (.int c2), .val (.int (ln &&& (3 : Int32))), .val (.int y0), .val (.int y1), .val (.int y2)] [(.ref a60), (.ref a55), (.ref a55)])) (st68) ?_
        have N68 := Fr.snoc X68 N0 q60
        have sf69_a55 := Safe.wr W68 sf61_a60 CR61.1 sf61_a55
        have sf69_a60 := Safe.wr W68 sf61_a60 CR61.1 sf61_a60
        have CR69 := CR61.trans (CHr.wr W68 sf61_a60 CR61.1)
        have hk69 := Nat.le_trans hk61 (Nat.le_of_eq W68.size.symm)
        have F70 := F62.other W68 (Or.inl ne60_a55)
        have F71 := F63.other W68 (Or.inl ne60_a55)
        have E72 : Exa Z h68 a55 "java/lang/String" := E64.wr W68
        have O74 : Old Z n0 h68 := O65.wr W68 q60
        have Z75 : n0 ≤ h68.size := by rw [W68.size]; exact Z66
        have K76 : Keep h0 h68 [] := K67.wr W68 (Or.inr r60)
        have V68 : Arv Z h68 a60 cA60 .char (2 : Int32) [(.int y0), (.int (0 : Int32))] (.int (0 : Int32)) := Arv.set Ar68 q1_68 S68 q3_68 H68 G68 hfy0 W68 0 (by decide) (by show 0 < 2; decide)
        refine own_go (S' := T68.setTop (mkF m 86 #[.val (.int ln), .val (.int c0), .val (.int c1), .val (.int c2), .val (.int (ln &&& (3 : Int32))), .val (.int y0), .val (.int y1), .val (.int y2)] [(.ref a60), (.ref a60), (.ref a55), (.ref a55)])) (fun tg kk => XS.dup X68.here hx rfl (hb hby d1_85) rfl rfl kk) ?_
        refine own_go (S' := T68.setTop (mkF m 87 #[.val (.int ln), .val (.int c0), .val (.int c1), .val (.int c2), .val (.int (ln &&& (3 : Int32))), .val (.int y0), .val (.int y1), .val (.int y2)] [(.int (1 : Int32)), (.ref a60), (.ref a60), (.ref a55), (.ref a55)])) (fun tg kk => XT.iconstV X68.here hx rfl (1 : Int32) (hb hby d1_86) (by decide) kk) ?_
        refine own_go (S' := T68.setTop (mkF m 89 #[.val (.int ln), .val (.int c0), .val (.int c1), .val (.int c2), .val (.int (ln &&& (3 : Int32))), .val (.int y0), .val (.int y1), .val (.int y2)] [(.int y1), (.int (1 : Int32)), (.ref a60), (.ref a60), (.ref a55), (.ref a55)])) (fun tg kk => XS.iload X68.here hx rfl (hb hby d1_87) rfl kk) ?_
        obtain ⟨cl77, Ar77, q1_77, S77, q3_77, H77, G77⟩ := id V68
        have hj77 := inb_of (j := (1 : Int32)) S77 ⟨by decide, by decide⟩
        obtain ⟨T77, h77, X77, e77, W77, st77⟩ := stC X68 hx hZ e68 Ar77 hj77 (g := (mkF m 89 #[.val (.int ln), .val (.int c0), .val (.int c1), .val (.int c2), .val (.int (ln &&& (3 : Int32))), .val (.int y0), .val (.int y1), .val (.int y2)] [(.int y1), (.int (1 : Int32)), (.ref a60), (.ref a60), (.ref a55), (.ref a55)])) rfl rfl (hb hby d1_89)
        rw [hny1] at W77
        refine own_go (S' := T77.setTop (mkF m 90 #[.val (.int ln), .val (.int c0), .val (.int c1), .val (.int c2), .val (.int (ln &&& (3 : Int32))), .val (.int y0), .val (.int y1), .val (.int y2)] [(.ref a60), (.ref a55), (.ref a55)])) (st77) ?_
        have N77 := Fr.snoc X77 N68 q60
        have sf78_a55 := Safe.wr W77 sf69_a60 CR69.1 sf69_a55
        have sf78_a60 := Safe.wr W77 sf69_a60 CR69.1 sf69_a60
        have CR78 := CR69.trans (CHr.wr W77 sf69_a60 CR69.1)
        have hk78 := Nat.le_trans hk69 (Nat.le_of_eq W77.size.symm)
        have F79 := F70.other W77 (Or.inl ne60_a55)
        have F80 := F71.other W77 (Or.inl ne60_a55)
        have E81 : Exa Z h77 a55 "java/lang/String" := E72.wr W77
        have O83 : Old Z n0 h77 := O74.wr W77 q60
        have Z84 : n0 ≤ h77.size := by rw [W77.size]; exact Z75
        have K85 : Keep h0 h77 [] := K76.wr W77 (Or.inr r60)
        have V77 : Arv Z h77 a60 cA60 .char (2 : Int32) [(.int y0), (.int y1)] (.int (0 : Int32)) := Arv.set Ar77 q1_77 S77 q3_77 H77 G77 hfy1 W77 1 (by decide) (by show 1 < 2; decide)
        obtain ⟨v86, _, ⟨T86, L86, k86, n86⟩, -, X86, ⟨Lc86, hQ86, l86, y86, z86⟩, st86⟩ := X77.specialBack hx (y := (⟨"java/lang/String", "<init>", "([C)V"⟩ : MethodName)) rfl hown (mvT hZ (hw _ (List.mem_of_getElem? (i := 8) rfl))) (mvT hZ (hw _ (List.mem_of_getElem? (i := 9) rfl))) (mvT hZ (hw _ (List.mem_of_getElem? (i := 10) rfl))) (by decide) (backOf (W := 1) (rm2_2 l Z a0 hw [] a55 a60 cA60 cs y0 y1 h77 n0 Z84 O83 F79 F80 E81 q55 V77 ne60_a55 S_CS hcs hby0 hby1) hZ (hw _ (List.mem_of_getElem? (i := 10) rfl)) (hw _ (List.mem_of_getElem? (i := 6) rfl)) (by decide) (by decide)) (g := (mkF m 90 #[.val (.int ln), .val (.int c0), .val (.int c1), .val (.int c2), .val (.int (ln &&& (3 : Int32))), .val (.int y0), .val (.int y1), .val (.int y2)] [(.ref a60), (.ref a55), (.ref a55)])) rfl (by rw [hml]; rfl) (Steps.refl _) (a := a55) (argsL := [(.ref a60)]) (rest := [(.ref a55)]) (lenOf pd___C_V rfl) rfl (by show 2 * 0 + _ ≤ _; exact Nat.le_of_eq rfl) (hb hby d1_90) (fun _ _ => ⟨rfl, e77, (by decide : 2 + 1 ≤ _), (by decide : 6 + 2 ≤ _)⟩)
        dsimp only [Pt.U, Pt.locs, Pt.cells, Pt.slots] at X86 l86 y86 z86 st86 hQ86
        subst l86 y86 z86
        obtain ⟨rfl, M87, K86⟩ := hQ86
        have N87 := Fr.app N77 M87
        obtain ⟨h86, e86⟩ : ∃ z, T86.heap = z := ⟨_, rfl⟩
        rw [e86] at K86 
        have sf88_a55 := Safe.keep K86 (sfS sf78_a55 sf0) CR78.1 sf78_a55
        have sf88_a60 := Safe.keep K86 (sfS sf78_a55 sf0) CR78.1 sf78_a60
        have CR88 := CR78.trans (CHr.keep K86 (sfS sf78_a55 sf0) CR78.1)
        have hk88 := Nat.le_trans hk78 K86.1
        have E89 : Exa Z h86 a55 "java/lang/String" := E81.keep K86
        have A90 := V77.keep K86 (ninS (Ne.symm ne60_a55) nin0)
        have O91 : Old Z n0 h86 := O83.keep K86 (allS q55 all0)
        have Z92 : n0 ≤ h86.size := Nat.le_trans Z84 K86.1
        have K93 : Keep h0 h86 [] := K85.trans K86 (allS (Or.inr r55) all0)
        refine own_to (S' := T86.setTop (mkF m 93 #[.val (.int ln), .val (.int c0), .val (.int c1), .val (.int c2), .val (.int (ln &&& (3 : Int32))), .val (.int y0), .val (.int y1), .val (.int y2)] [(.ref a55)])) st86 ?_
        obtain ⟨fs, hr, hrun, hended, hEnd⟩ := X86.leaveW hS0 (Nat.le_trans hk88 (Nat.le_of_eq (congrArg Array.size e86.symm))) (v := some (.ref a55)) (fun h => by rw [Bd.returns] at h; cases h)
        refine ⟨_, _, retOut X86 hx (i := .areturn) Bd.returns (own_narR rfl rfl) (Or.inr (Or.inr (Or.inr (Or.inr ⟨rfl, rfl, rfl⟩)))) (hb hby d1_93) hr, hrun, hended, _, _, rfl, ?_, ?_, hEnd.1, hEnd.2.1, hEnd.2.2.1, hEnd.2.2.2.mono (by decide) (by decide)⟩
        · show Q1 Z ln c0 c1 c2 cs h0 n0 (some (.ref a55)) T86.heap _
          rw [e86]
          exact ⟨a55, rfl, N87, K93, E89⟩
        · show CHr Z own_EL s.vm s.heap T86.vm T86.heap
          rw [hh, e86]
          exact CR88.trans (CHv.at X86 hZ hEL CR88.1)
      · refine own_go (S' := s₁.setTop (mkF m 94 #[.val (.int ln), .val (.int c0), .val (.int c1), .val (.int c2), .val (.int (ln &&& (3 : Int32))), .val (.int y0), .val (.int y1), .val (.int y2)] [])) (fun tg kk => XS.icmpYes X0.here hx rfl (pc0 := 70) (pc' := 94) rfl (hb hby d1_70) rfl (XT.ii_ne_t cd54) (by decide) (by decide) kk) ?_
        obtain ⟨T94, h94, X94, e94, Ex94, A94, D94, -, st94⟩ := newO X0 hx hZ hown (hw _ (List.mem_of_getElem? (i := 4) rfl)) (hw _ (List.mem_of_getElem? (i := 5) rfl)) (hw _ (List.mem_of_getElem? (i := 6) rfl)) e0 (g := (mkF m 94 #[.val (.int ln), .val (.int c0), .val (.int c1), .val (.int c2), .val (.int (ln &&& (3 : Int32))), .val (.int y0), .val (.int y1), .val (.int y2)] [])) rfl (hb hby d1_94) (by decide) (by decide)
        obtain ⟨a94, g94⟩ : ∃ z, z = h0.size := ⟨_, rfl⟩
        rw [← g94] at A94 D94 st94
        have sn94 : Safe Z own_EL s.vm h0 a94 := Safe.new (Nat.le_of_eq g94.symm)
        have q94 : n0 ≤ a94 := by rw [g94]; exact Z0
        have r94 : h0.size ≤ a94 := by rw [g94]; exact K0.1
        have sf95_a94 := Safe.ext Ex94 CR0.1 sn94
        have CR95 := CR0.trans (CHr.ext Ex94 CR0.1)
        have hk95 := Nat.le_trans hk0 Ex94.1
        have O96 : Old Z n0 h94 := O0.ext Ex94
        have Z97 : n0 ≤ h94.size := Nat.le_trans Z0 Ex94.1
        have K98 : Keep h0 h94 [] := K0.ext Ex94
        refine own_go (S' := T94.setTop (mkF m 97 #[.val (.int ln), .val (.int c0), .val (.int c1), .val (.int c2), .val (.int (ln &&& (3 : Int32))), .val (.int y0), .val (.int y1), .val (.int y2)] [(.ref a94)])) (st94) ?_
        have F94_value : Fld Z h94 a94 "java/lang/String" "value" "[B" .null := D94 (Or.inr (hw _ (List.mem_of_getElem? (i := 20) rfl))) (ty := .array .byte) (by decide)
        have F94_coder : Fld Z h94 a94 "java/lang/String" "coder" "B" (.int (0 : Int32)) := D94 (Or.inr (hw _ (List.mem_of_getElem? (i := 21) rfl))) (ty := .byte) (by decide)
        refine own_go (S' := T94.setTop (mkF m 98 #[.val (.int ln), .val (.int c0), .val (.int c1), .val (.int c2), .val (.int (ln &&& (3 : Int32))), .val (.int y0), .val (.int y1), .val (.int y2)] [(.ref a94), (.ref a94)])) (fun tg kk => XS.dup X94.here hx rfl (hb hby d1_97) rfl rfl kk) ?_
        refine own_go (S' := T94.setTop (mkF m 99 #[.val (.int ln), .val (.int c0), .val (.int c1), .val (.int c2), .val (.int (ln &&& (3 : Int32))), .val (.int y0), .val (.int y1), .val (.int y2)] [(.int (3 : Int32)), (.ref a94), (.ref a94)])) (fun tg kk => XT.iconstV X94.here hx rfl (3 : Int32) (hb hby d1_98) (by decide) kk) ?_
        obtain ⟨T99, h99, cA99, X99, e99, Ex99, A99, st99⟩ := newP X94 hx hZ (hw _ (List.mem_of_getElem? (i := 7) rfl)) e94 (g := (mkF m 99 #[.val (.int ln), .val (.int c0), .val (.int c1), .val (.int c2), .val (.int (ln &&& (3 : Int32))), .val (.int y0), .val (.int y1), .val (.int y2)] [(.int (3 : Int32)), (.ref a94), (.ref a94)])) rfl (hb hby d1_99) rfl (n := (3 : Int32)) (by decide) (cap := 3) (by decide) (by decide) (by decide) (by decide)
        obtain ⟨a99, g99⟩ : ∃ z, z = h94.size := ⟨_, rfl⟩
        rw [← g99] at A99 st99
        have sn99 : Safe Z own_EL s.vm h94 a99 := Safe.new (Nat.le_of_eq g99.symm)
        have ne99_a94 : a94 ≠ a99 := by rw [g99]; exact Nat.ne_of_lt A94.lt
        have q99 : n0 ≤ a99 := by rw [g99]; exact Z97
        have r99 : h0.size ≤ a99 := by rw [g99]; exact K98.1
        have sf100_a94 := Safe.ext Ex99 CR95.1 sf95_a94
        have sf100_a99 := Safe.ext Ex99 CR95.1 sn99
        have CR100 := CR95.trans (CHr.ext Ex99 CR95.1)
        have hk100 := Nat.le_trans hk95 Ex99.1
        have F101 := F94_value.ext Ex99
        have F102 := F94_coder.ext Ex99
        have E103 : Exa Z h99 a94 "java/lang/String" := A94.ext Ex99
        have O104 : Old Z n0 h99 := O96.ext Ex99
        have Z105 : n0 ≤ h99.size := Nat.le_trans Z97 Ex99.1
        have K106 : Keep h0 h99 [] := K98.ext Ex99
        refine own_go (S' := T99.setTop (mkF m 101 #[.val (.int ln), .val (.int c0), .val (.int c1), .val (.int c2), .val (.int (ln &&& (3 : Int32))), .val (.int y0), .val (.int y1), .val (.int y2)] [(.ref a99), (.ref a94), (.ref a94)])) (st99) ?_
        have V99 : Arv Z h99 a99 cA99 .char (3 : Int32) [(.int (0 : Int32)), (.int (0 : Int32)), (.int (0 : Int32))] (.int (0 : Int32)) := (Arv.new A99 (by decide)).pad (pad_rep [] (.int (0 : Int32)) 3)
        refine own_go (S' := T99.setTop (mkF m 102 #[.val (.int ln), .val (.int c0), .val (.int c1), .val (.int c2), .val (.int (ln &&& (3 : Int32))), .val (.int y0), .val (.int y1), .val (.int y2)] [(.ref a99), (.ref a99), (.ref a94), (.ref a94)])) (fun tg kk => XS.dup X99.here hx rfl (hb hby d1_101) rfl rfl kk) ?_
        refine own_go (S' := T99.setTop (mkF m 103 #[.val (.int ln), .val (.int c0), .val (.int c1), .val (.int c2), .val (.int (ln &&& (3 : Int32))), .val (.int y0), .val (.int y1), .val (.int y2)] [(.int (0 : Int32)), (.ref a99), (.ref a99), (.ref a94), (.ref a94)])) (fun tg kk => XT.iconstV X99.here hx rfl (0 : Int32) (hb hby d1_102) (by decide) kk) ?_
        refine own_go (S' := T99.setTop (mkF m 105 #[.val (.int ln), .val (.int c0), .val (.int c1), .val (.int c2), .val (.int (ln &&& (3 : Int32))), .val (.int y0), .val (.int y1), .val (.int y2)] [(.int y0), (.int (0 : Int32)), (.ref a99), (.ref a99), (.ref a94), (.ref a94)])) (fun tg kk => XS.iload X99.here hx rfl (hb hby d1_103) rfl kk) ?_
        obtain ⟨cl107, Ar107, q1_107, S107, q3_107, H107, G107⟩ := id V99
        have hj107 := inb_of (j := (0 : Int32)) S107 ⟨by decide, by decide⟩
        obtain ⟨T107, h107, X107, e107, W107, st107⟩ := stC X99 hx hZ e99 Ar107 hj107 (g := (mkF m 105 #[.val (.int ln), .val (.int c0), .val (.int c1), .val (.int c2), .val (.int (ln &&& (3 : Int32))), .val (.int y0), .val (.int y1), .val (.int y2)] [(.int y0), (.int (0 : Int32)), (.ref a99), (.ref a99), (.ref a94), (.ref a94)])) rfl rfl (hb hby d1_105)
        rw [hny0] at W107
        refine own_go (S' := T107.setTop (mkF m 106 #[.val (.int ln), .val (.int c0), .val (.int c1), .val (.int c2), .val (.int (ln &&& (3 : Int32))), .val (.int y0), .val (.int y1), .val (.int y2)] [(.ref a99), (.ref a94), (.ref a94)])) (st107) ?_
        have N107 := Fr.snoc X107 N0 q99
        have sf108_a94 := Safe.wr W107 sf100_a99 CR100.1 sf100_a94
        have sf108_a99 := Safe.wr W107 sf100_a99 CR100.1 sf100_a99
        have CR108 := CR100.trans (CHr.wr W107 sf100_a99 CR100.1)
        have hk108 := Nat.le_trans hk100 (Nat.le_of_eq W107.size.symm)
        have F109 := F101.other W107 (Or.inl ne99_a94)
        have F110 := F102.other W107 (Or.inl ne99_a94)
        have E111 : Exa Z h107 a94 "java/lang/String" := E103.wr W107
        have O113 : Old Z n0 h107 := O104.wr W107 q99
        have Z114 : n0 ≤ h107.size := by rw [W107.size]; exact Z105
        have K115 : Keep h0 h107 [] := K106.wr W107 (Or.inr r99)
        have V107 : Arv Z h107 a99 cA99 .char (3 : Int32) [(.int y0), (.int (0 : Int32)), (.int (0 : Int32))] (.int (0 : Int32)) := Arv.set Ar107 q1_107 S107 q3_107 H107 G107 hfy0 W107 0 (by decide) (by show 0 < 3; decide)
        refine own_go (S' := T107.setTop (mkF m 107 #[.val (.int ln), .val (.int c0), .val (.int c1), .val (.int c2), .val (.int (ln &&& (3 : Int32))), .val (.int y0), .val (.int y1), .val (.int y2)] [(.ref a99), (.ref a99), (.ref a94), (.ref a94)])) (fun tg kk => XS.dup X107.here hx rfl (hb hby d1_106) rfl rfl kk) ?_
        refine own_go (S' := T107.setTop (mkF m 108 #[.val (.int ln), .val (.int c0), .val (.int c1), .val (.int c2), .val (.int (ln &&& (3 : Int32))), .val (.int y0), .val (.int y1), .val (.int y2)] [(.int (1 : Int32)), (.ref a99), (.ref a99), (.ref a94), (.ref a94)])) (fun tg kk => XT.iconstV X107.here hx rfl (1 : Int32) (hb hby d1_107) (by decide) kk) ?_
        refine own_go (S' := T107.setTop (mkF m 110 #[.val (.int ln), .val (.int c0), .val (.int c1), .val (.int c2), .val (.int (ln &&& (3 : Int32))), .val (.int y0), .val (.int y1), .val (.int y2)] [(.int y1), (.int (1 : Int32)), (.ref a99), (.ref a99), (.ref a94), (.ref a94)])) (fun tg kk => XS.iload X107.here hx rfl (hb hby d1_108) rfl kk) ?_
        obtain ⟨cl116, Ar116, q1_116, S116, q3_116, H116, G116⟩ := id V107
        have hj116 := inb_of (j := (1 : Int32)) S116 ⟨by decide, by decide⟩
        obtain ⟨T116, h116, X116, e116, W116, st116⟩ := stC X107 hx hZ e107 Ar116 hj116 (g := (mkF m 110 #[.val (.int ln), .val (.int c0), .val (.int c1), .val (.int c2), .val (.int (ln &&& (3 : Int32))), .val (.int y0), .val (.int y1), .val (.int y2)] [(.int y1), (.int (1 : Int32)), (.ref a99), (.ref a99), (.ref a94), (.ref a94)])) rfl rfl (hb hby d1_110)
        rw [hny1] at W116
        refine own_go (S' := T116.setTop (mkF m 111 #[.val (.int ln), .val (.int c0), .val (.int c1), .val (.int c2), .val (.int (ln &&& (3 : Int32))), .val (.int y0), .val (.int y1), .val (.int y2)] [(.ref a99), (.ref a94), (.ref a94)])) (st116) ?_
        have N116 := Fr.snoc X116 N107 q99
        have sf117_a94 := Safe.wr W116 sf108_a99 CR108.1 sf108_a94
        have sf117_a99 := Safe.wr W116 sf108_a99 CR108.1 sf108_a99
        have CR117 := CR108.trans (CHr.wr W116 sf108_a99 CR108.1)
        have hk117 := Nat.le_trans hk108 (Nat.le_of_eq W116.size.symm)
        have F118 := F109.other W116 (Or.inl ne99_a94)
        have F119 := F110.other W116 (Or.inl ne99_a94)
        have E120 : Exa Z h116 a94 "java/lang/String" := E111.wr W116
        have O122 : Old Z n0 h116 := O113.wr W116 q99
        have Z123 : n0 ≤ h116.size := by rw [W116.size]; exact Z114
        have K124 : Keep h0 h116 [] := K115.wr W116 (Or.inr r99)
        have V116 : Arv Z h116 a99 cA99 .char (3 : Int32) [(.int y0), (.int y1), (.int (0 : Int32))] (.int (0 : Int32)) := Arv.set Ar116 q1_116 S116 q3_116 H116 G116 hfy1 W116 1 (by decide) (by show 1 < 3; decide)
        refine own_go (S' := T116.setTop (mkF m 112 #[.val (.int ln), .val (.int c0), .val (.int c1), .val (.int c2), .val (.int (ln &&& (3 : Int32))), .val (.int y0), .val (.int y1), .val (.int y2)] [(.ref a99), (.ref a99), (.ref a94), (.ref a94)])) (fun tg kk => XS.dup X116.here hx rfl (hb hby d1_111) rfl rfl kk) ?_
        refine own_go (S' := T116.setTop (mkF m 113 #[.val (.int ln), .val (.int c0), .val (.int c1), .val (.int c2), .val (.int (ln &&& (3 : Int32))), .val (.int y0), .val (.int y1), .val (.int y2)] [(.int (2 : Int32)), (.ref a99), (.ref a99), (.ref a94), (.ref a94)])) (fun tg kk => XT.iconstV X116.here hx rfl (2 : Int32) (hb hby d1_112) (by decide) kk) ?_
        refine own_go (S' := T116.setTop (mkF m 115 #[.val (.int ln), .val (.int c0), .val (.int c1), .val (.int c2), .val (.int (ln &&& (3 : Int32))), .val (.int y0), .val (.int y1), .val (.int y2)] [(.int y2), (.int (2 : Int32)), (.ref a99), (.ref a99), (.ref a94), (.ref a94)])) (fun tg kk => XS.iload X116.here hx rfl (hb hby d1_113) rfl kk) ?_
        obtain ⟨cl125, Ar125, q1_125, S125, q3_125, H125, G125⟩ := id V116
        have hj125 := inb_of (j := (2 : Int32)) S125 ⟨by decide, by decide⟩
        obtain ⟨T125, h125, X125, e125, W125, st125⟩ := stC X116 hx hZ e116 Ar125 hj125 (g := (mkF m 115 #[.val (.int ln), .val (.int c0), .val (.int c1), .val (.int c2), .val (.int (ln &&& (3 : Int32))), .val (.int y0), .val (.int y1), .val (.int y2)] [(.int y2), (.int (2 : Int32)), (.ref a99), (.ref a99), (.ref a94), (.ref a94)])) rfl rfl (hb hby d1_115)
        rw [hny2] at W125
        refine own_go (S' := T125.setTop (mkF m 116 #[.val (.int ln), .val (.int c0), .val (.int c1), .val (.int c2), .val (.int (ln &&& (3 : Int32))), .val (.int y0), .val (.int y1), .val (.int y2)] [(.ref a99), (.ref a94), (.ref a94)])) (st125) ?_
        have N125 := Fr.snoc X125 N116 q99
        have sf126_a94 := Safe.wr W125 sf117_a99 CR117.1 sf117_a94
        have sf126_a99 := Safe.wr W125 sf117_a99 CR117.1 sf117_a99
        have CR126 := CR117.trans (CHr.wr W125 sf117_a99 CR117.1)
        have hk126 := Nat.le_trans hk117 (Nat.le_of_eq W125.size.symm)
        have F127 := F118.other W125 (Or.inl ne99_a94)
        have F128 := F119.other W125 (Or.inl ne99_a94)
        have E129 : Exa Z h125 a94 "java/lang/String" := E120.wr W125
        have O131 : Old Z n0 h125 := O122.wr W125 q99
        have Z132 : n0 ≤ h125.size := by rw [W125.size]; exact Z123
        have K133 : Keep h0 h125 [] := K124.wr W125 (Or.inr r99)
        have V125 : Arv Z h125 a99 cA99 .char (3 : Int32) [(.int y0), (.int y1), (.int y2)] (.int (0 : Int32)) := Arv.set Ar125 q1_125 S125 q3_125 H125 G125 hfy2 W125 2 (by decide) (by show 2 < 3; decide)
        obtain ⟨v134, _, ⟨T134, L134, k134, n134⟩, -, X134, ⟨Lc134, hQ134, l134, y134, z134⟩, st134⟩ := X125.specialBack hx (y := (⟨"java/lang/String", "<init>", "([C)V"⟩ : MethodName)) rfl hown (mvT hZ (hw _ (List.mem_of_getElem? (i := 8) rfl))) (mvT hZ (hw _ (List.mem_of_getElem? (i := 9) rfl))) (mvT hZ (hw _ (List.mem_of_getElem? (i := 10) rfl))) (by decide) (backOf (W := 1) (rm2_3 l Z a0 hw [] a94 a99 cA99 cs y0 y1 y2 h125 n0 Z132 O131 F127 F128 E129 q94 V125 ne99_a94 S_CS hcs hby0 hby1 hby2) hZ (hw _ (List.mem_of_getElem? (i := 10) rfl)) (hw _ (List.mem_of_getElem? (i := 6) rfl)) (by decide) (by decide)) (g := (mkF m 116 #[.val (.int ln), .val (.int c0), .val (.int c1), .val (.int c2), .val (.int (ln &&& (3 : Int32))), .val (.int y0), .val (.int y1), .val (.int y2)] [(.ref a99), (.ref a94), (.ref a94)])) rfl (by rw [hml]; rfl) (Steps.refl _) (a := a94) (argsL := [(.ref a99)]) (rest := [(.ref a94)]) (lenOf pd___C_V rfl) rfl (by show 2 * 0 + _ ≤ _; exact Nat.le_of_eq rfl) (hb hby d1_116) (fun _ _ => ⟨rfl, e125, (by decide : 2 + 1 ≤ _), (by decide : 7 + 3 ≤ _)⟩)
        dsimp only [Pt.U, Pt.locs, Pt.cells, Pt.slots] at X134 l134 y134 z134 st134 hQ134
        subst l134 y134 z134
        obtain ⟨rfl, M135, K134⟩ := hQ134
        have N135 := Fr.app N125 M135
        obtain ⟨h134, e134⟩ : ∃ z, T134.heap = z := ⟨_, rfl⟩
        rw [e134] at K134 
        have sf136_a94 := Safe.keep K134 (sfS sf126_a94 sf0) CR126.1 sf126_a94
        have sf136_a99 := Safe.keep K134 (sfS sf126_a94 sf0) CR126.1 sf126_a99
        have CR136 := CR126.trans (CHr.keep K134 (sfS sf126_a94 sf0) CR126.1)
        have hk136 := Nat.le_trans hk126 K134.1
        have E137 : Exa Z h134 a94 "java/lang/String" := E129.keep K134
        have A138 := V125.keep K134 (ninS (Ne.symm ne99_a94) nin0)
        have O139 : Old Z n0 h134 := O131.keep K134 (allS q94 all0)
        have Z140 : n0 ≤ h134.size := Nat.le_trans Z132 K134.1
        have K141 : Keep h0 h134 [] := K133.trans K134 (allS (Or.inr r94) all0)
        refine own_to (S' := T134.setTop (mkF m 119 #[.val (.int ln), .val (.int c0), .val (.int c1), .val (.int c2), .val (.int (ln &&& (3 : Int32))), .val (.int y0), .val (.int y1), .val (.int y2)] [(.ref a94)])) st134 ?_
        obtain ⟨fs, hr, hrun, hended, hEnd⟩ := X134.leaveW hS0 (Nat.le_trans hk136 (Nat.le_of_eq (congrArg Array.size e134.symm))) (v := some (.ref a94)) (fun h => by rw [Bd.returns] at h; cases h)
        refine ⟨_, _, retOut X134 hx (i := .areturn) Bd.returns (own_narR rfl rfl) (Or.inr (Or.inr (Or.inr (Or.inr ⟨rfl, rfl, rfl⟩)))) (hb hby d1_119) hr, hrun, hended, _, _, rfl, ?_, ?_, hEnd.1, hEnd.2.1, hEnd.2.2.1, hEnd.2.2.2.mono (by decide) (by decide)⟩
        · show Q1 Z ln c0 c1 c2 cs h0 n0 (some (.ref a94)) T134.heap _
          rw [e134]
          exact ⟨a94, rfl, N135, K141, E137⟩
        · show CHr Z own_EL s.vm s.heap T134.vm T134.heap
          rw [hh, e134]
          exact CR136.trans (CHv.at X134 hZ hEL CR136.1)
theorem d6_0 : decode jdk_31_method_11_code 0 = .ok (.aload_n 0, 1) := by decide +kernel
theorem d6_1 : decode jdk_31_method_11_code 1 = .ok (.ifnonnull 12, 3) := by decide +kernel
theorem d6_13 : decode jdk_31_method_11_code 13 = .ok (.aload_n 0, 1) := by decide +kernel
theorem d6_14 : decode jdk_31_method_11_code 14 = .ok (.areturn, 1) := by decide +kernel
theorem pn_java_util_Objects : plainName "java/util/Objects" = true := by first | (simp [plainName, overriddenIn]; done) | decide +kernel
theorem ef6 (m : MethodId) (x0 : Addr) (x1 : Addr) : entryFrame m #[(.ref x0), (.ref x1)] 2 = mkF m 0 #[.val (.ref x0), .val (.ref x1)] [] := by first | (simp [entryFrame, mkF, argsToLocals, Value.category]; done) | rfl
def Q6 (Z : State) (a : Addr) (b : Addr) (h0 : Heap) (n0 : Nat) (v : Option Value) (h : Heap) (L : List Loc) : Prop := v = some (.ref a) ∧ Fr n0 L ∧ h = h0
set_option maxRecDepth 65536 in
set_option maxHeartbeats 40000000 in
theorem rm6 (l : Launch) (Z : State) (a0 : Array Value) (hw : ∀ d ∈ tables_1, d.before a0 Z = true) (ws : List Jvm.Cond) (a : Addr) (b : Addr) (h0 : Heap) (n0 : Nat) (Z0 : n0 ≤ h0.size)  :
    MetFree l (⟨"java/util/Objects", "requireNonNull", "(Ljava/lang/Object;Ljava/lang/String;)Ljava/lang/Object;"⟩ : MethodName) (head1 (Jvm.Cond.code (⟨"java/util/Objects", "requireNonNull", "(Ljava/lang/Object;Ljava/lang/String;)Ljava/lang/Object;"⟩ : MethodName) jdk_31_method_11_code 2 ((Option.some (FieldType.object "java/lang/Object"))) :: ws) ({ frames := 0, cells := 0, slots := 0, locals := 0 } : Room)) (fun aa U => aa = #[(.ref a), (.ref b)] ∧ Z.Warmed39 U.vm ∧ U.heap = h0) (fun _ _ _ _ _ => True) (fun _ U ou U' => ∃ v L, ou = .returned v ∧ Q6 Z a b h0 n0 v U'.heap L ∧ FrameEnd U ou U' L ({ frames := 0, cells := 0, slots := 0, locals := 0 } : Room).cells ({ frames := 0, cells := 0, slots := 0, locals := 0 } : Room).slots) := by
  refine MetFree.of_bodySF (plainFor_of_name pn_java_util_Objects) hisR ?_
  intro pg e s m args below meth c s₁ Bd hml0 hP hK
  obtain ⟨rfl, hZ, hh⟩ := hP
  have hx := Bd.exec
  have hby := Bd.bytes
  have hml : c.maxLocals = 2 := hml0
  have hown : s.vm.findClass "java/util/Objects" = some m.cls := findClass_of_methodNamed Bd.named
  have hnm := (name_of_methodNamed Bd.named Bd.method).1
  have X0 : Stand pg l e ({ frames := 0, cells := 0, slots := 0, locals := 0 } : Room) s m #[(.ref a), (.ref b)] below meth c s₁ [] 0 0 := Stand.of_body Bd
  have e0 : s₁.heap = h0 := by rw [← hh, Bd.state]; rfl
  have N0 := Fr.nil n0
  show own_Go pg.tables e below (fun ou U' => ∃ v L, ou = .returned v ∧ Q6 Z a b h0 n0 v U'.heap L ∧ FrameEnd s ou U' L ({ frames := 0, cells := 0, slots := 0, locals := 0 } : Room).cells ({ frames := 0, cells := 0, slots := 0, locals := 0 } : Room).slots) (s₁.setTop (entryFrame m #[(.ref a), (.ref b)] 2))
  refine own_go (S' := s₁.setTop (mkF m 0 #[.val (.ref a), .val (.ref b)] [])) (fun tg kk => castTop (ef6 m a b) kk) ?_
  refine own_go (S' := s₁.setTop (mkF m 1 #[.val (.ref a), .val (.ref b)] [(.ref a)])) (fun tg kk => XS.aloadN X0.here hx rfl (hb hby d6_0) rfl rfl kk) ?_
  refine own_go (S' := s₁.setTop (mkF m 13 #[.val (.ref a), .val (.ref b)] [])) (fun tg kk => XT.ifnonnullYes X0.here hx rfl (pc0 := 1) (pc' := 13) rfl (hb hby d6_1) rfl (by decide) (by decide) kk) ?_
  refine own_go (S' := s₁.setTop (mkF m 14 #[.val (.ref a), .val (.ref b)] [(.ref a)])) (fun tg kk => XS.aloadN X0.here hx rfl (hb hby d6_13) rfl rfl kk) ?_
  obtain ⟨fs, hr, hrun, hended, hW, hsame⟩ := X0.leave (v := some (.ref a)) (fun h => by rw [Bd.returns] at h; cases h)
  refine ⟨_, _, retOut X0 hx (i := .areturn) Bd.returns (own_narR rfl rfl) (Or.inr (Or.inr (Or.inr (Or.inr ⟨rfl, rfl, rfl⟩)))) (hb hby d6_14) hr, hrun, hended, _, _, rfl, ?_, ⟨_, rfl⟩, hW, hsame.mono (by decide) (by decide)⟩
  show Q6 Z a b h0 n0 (some (.ref a)) s₁.heap _
  rw [e0]
  exact ⟨rfl, N0, rfl⟩
theorem d7_0 : decode prog_9_method_1_code 0 = .ok (.aload_n 0, 1) := by decide +kernel
theorem d7_1 : decode prog_9_method_1_code 1 = .ok (.invokespecial 1, 3) := by decide +kernel
theorem d7_4 : decode prog_9_method_1_code 4 = .ok (.aload_n 0, 1) := by decide +kernel
theorem d7_5 : decode prog_9_method_1_code 5 = .ok (.aload_n 1, 1) := by decide +kernel
theorem d7_6 : decode prog_9_method_1_code 6 = .ok (.putfield 7, 3) := by decide +kernel
theorem d7_9 : decode prog_9_method_1_code 9 = .ok (.aload_n 0, 1) := by decide +kernel
theorem d7_10 : decode prog_9_method_1_code 10 = .ok (.iload_n 2, 1) := by decide +kernel
theorem d7_11 : decode prog_9_method_1_code 11 = .ok (.putfield 13, 3) := by decide +kernel
theorem d7_14 : decode prog_9_method_1_code 14 = .ok (.aload_n 0, 1) := by decide +kernel
theorem d7_15 : decode prog_9_method_1_code 15 = .ok (.aload_n 3, 1) := by decide +kernel
theorem d7_16 : decode prog_9_method_1_code 16 = .ok (.putfield 17, 3) := by decide +kernel
theorem d7_19 : decode prog_9_method_1_code 19 = .ok (.return_, 1) := by decide +kernel
theorem pn_com_example_periodic_jobs_periodicjobs_engine_DeliveryResult : plainName "com/example/periodic_jobs/periodicjobs/engine/DeliveryResult" = true := by first | (simp [plainName, overriddenIn]; done) | decide +kernel
theorem ef7 (m : MethodId) (x0 : Addr) (x2 : Int32) (x3 : Addr) : entryFrame m #[(.ref x0), .null, (.int x2), (.ref x3)] 4 = mkF m 0 #[.val (.ref x0), .val .null, .val (.int x2), .val (.ref x3)] [] := by first | (simp [entryFrame, mkF, argsToLocals, Value.category]; done) | rfl
def Q7 (Z : State) (a : Addr) (b : Addr) (h0 : Heap) (n0 : Nat) (v : Option Value) (h : Heap) (L : List Loc) : Prop := v = none ∧ Fr n0 L ∧ Keep h0 h [a] ∧ Fld Z h a "com/example/periodic_jobs/periodicjobs/engine/DeliveryResult" "httpStatus" "Ljava/lang/Integer;" .null ∧ Fld Z h a "com/example/periodic_jobs/periodicjobs/engine/DeliveryResult" "confirmed" "Z" (.int (0 : Int32)) ∧ Fld Z h a "com/example/periodic_jobs/periodicjobs/engine/DeliveryResult" "error" "Ljava/lang/String;" (.ref b)
set_option maxRecDepth 65536 in
set_option maxHeartbeats 40000000 in
theorem rm7 (l : Launch) (Z : State) (a0 : Array Value) (hw : ∀ d ∈ tables_1, d.before a0 Z = true) (ws : List Jvm.Cond) (a : Addr) (b : Addr) (h0 : Heap) (n0 : Nat) (Z0 : n0 ≤ h0.size) (F_httpStatus : Fld Z h0 a "com/example/periodic_jobs/periodicjobs/engine/DeliveryResult" "httpStatus" "Ljava/lang/Integer;" .null) (F_confirmed : Fld Z h0 a "com/example/periodic_jobs/periodicjobs/engine/DeliveryResult" "confirmed" "Z" (.int (0 : Int32))) (F_error : Fld Z h0 a "com/example/periodic_jobs/periodicjobs/engine/DeliveryResult" "error" "Ljava/lang/String;" .null) (E1 : Exa Z h0 a "com/example/periodic_jobs/periodicjobs/engine/DeliveryResult") (g1 : n0 ≤ a) :
    MetFree l (⟨"com/example/periodic_jobs/periodicjobs/engine/DeliveryResult", "<init>", "(Ljava/lang/Integer;ZLjava/lang/String;)V"⟩ : MethodName) (head1 (Jvm.Cond.code (⟨"com/example/periodic_jobs/periodicjobs/engine/DeliveryResult", "<init>", "(Ljava/lang/Integer;ZLjava/lang/String;)V"⟩ : MethodName) prog_9_method_1_code 4 ((Option.none : Option FieldType)) :: ws) ({ frames := 1, cells := 0, slots := 0, locals := 12 } : Room)) (fun aa U => aa = #[(.ref a), .null, (.int (0 : Int32)), (.ref b)] ∧ Z.Warmed39 U.vm ∧ U.heap = h0) (fun _ _ _ _ _ => True) (fun _ U ou U' => ∃ v L, ou = .returned v ∧ Q7 Z a b h0 n0 v U'.heap L ∧ FrameEnd U ou U' L ({ frames := 1, cells := 0, slots := 0, locals := 12 } : Room).cells ({ frames := 1, cells := 0, slots := 0, locals := 12 } : Room).slots) := by
  refine MetFree.of_bodySF (plainFor_of_name pn_com_example_periodic_jobs_periodicjobs_engine_DeliveryResult) hisR ?_
  intro pg e s m args below meth c s₁ Bd hml0 hP hK
  obtain ⟨rfl, hZ, hh⟩ := hP
  have hx := Bd.exec
  have hby := Bd.bytes
  have hml : c.maxLocals = 4 := hml0
  have hown : s.vm.findClass "com/example/periodic_jobs/periodicjobs/engine/DeliveryResult" = some m.cls := findClass_of_methodNamed Bd.named
  have hnm := (name_of_methodNamed Bd.named Bd.method).1
  have X0 : Stand pg l e ({ frames := 1, cells := 0, slots := 0, locals := 12 } : Room) s m #[(.ref a), .null, (.int (0 : Int32)), (.ref b)] below meth c s₁ [] 0 0 := Stand.of_body Bd
  have e0 : s₁.heap = h0 := by rw [← hh, Bd.state]; rfl
  have N0 := Fr.nil n0
  have K0 : Keep h0 h0 [a] := Keep.refl _ _
  show own_Go pg.tables e below (fun ou U' => ∃ v L, ou = .returned v ∧ Q7 Z a b h0 n0 v U'.heap L ∧ FrameEnd s ou U' L ({ frames := 1, cells := 0, slots := 0, locals := 12 } : Room).cells ({ frames := 1, cells := 0, slots := 0, locals := 12 } : Room).slots) (s₁.setTop (entryFrame m #[(.ref a), .null, (.int (0 : Int32)), (.ref b)] 4))
  refine own_go (S' := s₁.setTop (mkF m 0 #[.val (.ref a), .val .null, .val (.int (0 : Int32)), .val (.ref b)] [])) (fun tg kk => castTop (ef7 m a (0 : Int32) b) kk) ?_
  refine own_go (S' := s₁.setTop (mkF m 1 #[.val (.ref a), .val .null, .val (.int (0 : Int32)), .val (.ref b)] [(.ref a)])) (fun tg kk => XS.aloadN X0.here hx rfl (hb hby d7_0) rfl rfl kk) ?_
  obtain ⟨T1, X1, e1, st1⟩ := initO X0 hx hZ hown (hw _ (List.mem_of_getElem? (i := 41) rfl)) (hw _ (List.mem_of_getElem? (i := 16) rfl)) (hw _ (List.mem_of_getElem? (i := 17) rfl)) e0 (g := (mkF m 1 #[.val (.ref a), .val .null, .val (.int (0 : Int32)), .val (.ref b)] [(.ref a)])) rfl (by rw [hml]; rfl) rfl (hb hby d7_1) (by decide) (W := 0) (by show 2 * 0 + _ ≤ _; exact Nat.le_of_eq rfl) (by decide)
  refine own_go (S' := T1.setTop (mkF m 4 #[.val (.ref a), .val .null, .val (.int (0 : Int32)), .val (.ref b)] [])) (st1) ?_
  refine own_go (S' := T1.setTop (mkF m 5 #[.val (.ref a), .val .null, .val (.int (0 : Int32)), .val (.ref b)] [(.ref a)])) (fun tg kk => XS.aloadN X1.here hx rfl (hb hby d7_4) rfl rfl kk) ?_
  refine own_go (S' := T1.setTop (mkF m 6 #[.val (.ref a), .val .null, .val (.int (0 : Int32)), .val (.ref b)] [.null, (.ref a)])) (fun tg kk => XS.aloadN X1.here hx rfl (hb hby d7_5) rfl rfl kk) ?_
  obtain ⟨T2, h2, X2, e2, W2, st2⟩ := putF X1 hx hZ hown (host := "") (Or.inl (hw _ (List.mem_of_getElem? (i := 42) rfl))) Via.refl e1 F_httpStatus E1 (Or.inr ⟨(hw _ (List.mem_of_getElem? (i := 43) rfl)), rfl, hnm⟩) (hw _ (List.mem_of_getElem? (i := 31) rfl)) (ty := .object "java/lang/Integer") (by decide) rfl rfl (g := (mkF m 6 #[.val (.ref a), .val .null, .val (.int (0 : Int32)), .val (.ref b)] [.null, (.ref a)])) rfl rfl (hb hby d7_6)
  refine own_go (S' := T2.setTop (mkF m 9 #[.val (.ref a), .val .null, .val (.int (0 : Int32)), .val (.ref b)] [])) (st2) ?_
  have N2 := Fr.snoc X2 N0 g1
  have F3 := F_httpStatus.same W2
  have F4 := F_confirmed.other W2 (Or.inr (slot_ne (Or.inr (hw _ (List.mem_of_getElem? (i := 45) rfl))) (Or.inr (hw _ (List.mem_of_getElem? (i := 43) rfl))) (by decide) (t := .boolean) (t' := .object "java/lang/Integer") (by decide) (by decide)))
  have F5 := F_error.other W2 (Or.inr (slot_ne (Or.inr (hw _ (List.mem_of_getElem? (i := 47) rfl))) (Or.inr (hw _ (List.mem_of_getElem? (i := 43) rfl))) (by decide) (t := .object "java/lang/String") (t' := .object "java/lang/Integer") (by decide) (by decide)))
  have E6 : Exa Z h2 a "com/example/periodic_jobs/periodicjobs/engine/DeliveryResult" := E1.wr W2
  have Z7 : n0 ≤ h2.size := by rw [W2.size]; exact Z0
  have K8 : Keep h0 h2 [a] := K0.wr W2 (Or.inl (List.mem_of_getElem? (i := 0) rfl))
  refine own_go (S' := T2.setTop (mkF m 10 #[.val (.ref a), .val .null, .val (.int (0 : Int32)), .val (.ref b)] [(.ref a)])) (fun tg kk => XS.aloadN X2.here hx rfl (hb hby d7_9) rfl rfl kk) ?_
  refine own_go (S' := T2.setTop (mkF m 11 #[.val (.ref a), .val .null, .val (.int (0 : Int32)), .val (.ref b)] [(.int (0 : Int32)), (.ref a)])) (fun tg kk => XS.iloadN X2.here hx rfl (hb hby d7_10) rfl kk) ?_
  obtain ⟨T9, h9, X9, e9, W9, st9⟩ := putF X2 hx hZ hown (host := "") (Or.inl (hw _ (List.mem_of_getElem? (i := 44) rfl))) Via.refl e2 F4 E6 (Or.inr ⟨(hw _ (List.mem_of_getElem? (i := 45) rfl)), rfl, hnm⟩) (hw _ (List.mem_of_getElem? (i := 31) rfl)) (ty := .boolean) (by decide) rfl rfl (g := (mkF m 11 #[.val (.ref a), .val .null, .val (.int (0 : Int32)), .val (.ref b)] [(.int (0 : Int32)), (.ref a)])) rfl rfl (hb hby d7_11)
  refine own_go (S' := T9.setTop (mkF m 14 #[.val (.ref a), .val .null, .val (.int (0 : Int32)), .val (.ref b)] [])) (st9) ?_
  have N9 := Fr.snoc X9 N2 g1
  have F10 := F3.other W9 (Or.inr (slot_ne (Or.inr (hw _ (List.mem_of_getElem? (i := 43) rfl))) (Or.inr (hw _ (List.mem_of_getElem? (i := 45) rfl))) (by decide) (t := .object "java/lang/Integer") (t' := .boolean) (by decide) (by decide)))
  have F11 := F4.same W9
  have F12 := F5.other W9 (Or.inr (slot_ne (Or.inr (hw _ (List.mem_of_getElem? (i := 47) rfl))) (Or.inr (hw _ (List.mem_of_getElem? (i := 45) rfl))) (by decide) (t := .object "java/lang/String") (t' := .boolean) (by decide) (by decide)))
  have E13 : Exa Z h9 a "com/example/periodic_jobs/periodicjobs/engine/DeliveryResult" := E6.wr W9
  have Z14 : n0 ≤ h9.size := by rw [W9.size]; exact Z7
  have K15 : Keep h0 h9 [a] := K8.wr W9 (Or.inl (List.mem_of_getElem? (i := 0) rfl))
  refine own_go (S' := T9.setTop (mkF m 15 #[.val (.ref a), .val .null, .val (.int (0 : Int32)), .val (.ref b)] [(.ref a)])) (fun tg kk => XS.aloadN X9.here hx rfl (hb hby d7_14) rfl rfl kk) ?_
  refine own_go (S' := T9.setTop (mkF m 16 #[.val (.ref a), .val .null, .val (.int (0 : Int32)), .val (.ref b)] [(.ref b), (.ref a)])) (fun tg kk => XS.aloadN X9.here hx rfl (hb hby d7_15) rfl rfl kk) ?_
  obtain ⟨T16, h16, X16, e16, W16, st16⟩ := putF X9 hx hZ hown (host := "") (Or.inl (hw _ (List.mem_of_getElem? (i := 46) rfl))) Via.refl e9 F12 E13 (Or.inr ⟨(hw _ (List.mem_of_getElem? (i := 47) rfl)), rfl, hnm⟩) (hw _ (List.mem_of_getElem? (i := 31) rfl)) (ty := .object "java/lang/String") (by decide) rfl rfl (g := (mkF m 16 #[.val (.ref a), .val .null, .val (.int (0 : Int32)), .val (.ref b)] [(.ref b), (.ref a)])) rfl rfl (hb hby d7_16)
  refine own_go (S' := T16.setTop (mkF m 19 #[.val (.ref a), .val .null, .val (.int (0 : Int32)), .val (.ref b)] [])) (st16) ?_
  have N16 := Fr.snoc X16 N9 g1
  have F17 := F10.other W16 (Or.inr (slot_ne (Or.inr (hw _ (List.mem_of_getElem? (i := 43) rfl))) (Or.inr (hw _ (List.mem_of_getElem? (i := 47) rfl))) (by decide) (t := .object "java/lang/Integer") (t' := .object "java/lang/String") (by decide) (by decide)))
  have F18 := F11.other W16 (Or.inr (slot_ne (Or.inr (hw _ (List.mem_of_getElem? (i := 45) rfl))) (Or.inr (hw _ (List.mem_of_getElem? (i := 47) rfl))) (by decide) (t := .boolean) (t' := .object "java/lang/String") (by decide) (by decide)))
  have F19 := F12.same W16
  have E20 : Exa Z h16 a "com/example/periodic_jobs/periodicjobs/engine/DeliveryResult" := E13.wr W16
  have Z21 : n0 ≤ h16.size := by rw [W16.size]; exact Z14
  have K22 : Keep h0 h16 [a] := K15.wr W16 (Or.inl (List.mem_of_getElem? (i := 0) rfl))
  obtain ⟨fs, hr, hrun, hended, hW, hsame⟩ := X16.leave (v := none) (fun _ => rfl)
  refine ⟨_, _, X16.returnOut hx Bd.returns (hb hby d7_19) hr, hrun, hended, _, _, rfl, ?_, ⟨_, rfl⟩, hW, hsame.mono (by decide) (by decide)⟩
  show Q7 Z a b h0 n0 none T16.heap _
  rw [e16]
  exact ⟨rfl, N16, K22, F17, F18, F19⟩
theorem d5_0 : decode prog_9_method_4_code 0 = .ok (.new 8, 3) := by decide +kernel
theorem d5_3 : decode prog_9_method_4_code 3 = .ok (.dup, 1) := by decide +kernel
theorem d5_4 : decode prog_9_method_4_code 4 = .ok (.aconst_null, 1) := by decide +kernel
theorem d5_5 : decode prog_9_method_4_code 5 = .ok (.iconst 0, 1) := by decide +kernel
theorem d5_6 : decode prog_9_method_4_code 6 = .ok (.aload_n 0, 1) := by decide +kernel
theorem d5_7 : decode prog_9_method_4_code 7 = .ok (.ldc 30, 2) := by decide +kernel
theorem pd__Ljava_lang_Object_Ljava_lang_String__Ljava_lang_Object_ : parseMethodDescriptor "(Ljava/lang/Object;Ljava/lang/String;)Ljava/lang/Object;" = some ⟨[.object "java/lang/Object", .object "java/lang/String"], some (.object "java/lang/Object")⟩ := by decide +kernel
theorem d5_9 : decode prog_9_method_4_code 9 = .ok (.invokestatic 31, 3) := by decide +kernel
theorem d5_12 : decode prog_9_method_4_code 12 = .ok (.checkcast 37, 3) := by decide +kernel
theorem pd__Ljava_lang_Integer_ZLjava_lang_String__V : parseMethodDescriptor "(Ljava/lang/Integer;ZLjava/lang/String;)V" = some ⟨[.object "java/lang/Integer", .boolean, .object "java/lang/String"], none⟩ := by decide +kernel
theorem d5_15 : decode prog_9_method_4_code 15 = .ok (.invokespecial 27, 3) := by decide +kernel
theorem d5_18 : decode prog_9_method_4_code 18 = .ok (.areturn, 1) := by decide +kernel
theorem ef5 (m : MethodId) (x0 : Addr) : entryFrame m #[(.ref x0)] 1 = mkF m 0 #[.val (.ref x0)] [] := by first | (simp [entryFrame, mkF, argsToLocals, Value.category]; done) | rfl
def Q5 (Z : State) (b : Addr) (h0 : Heap) (n0 : Nat) (v : Option Value) (h : Heap) (L : List Loc) : Prop := ∃ a, v = some (.ref a) ∧ Fr n0 L ∧ Keep h0 h [] ∧ Exa Z h a "com/example/periodic_jobs/periodicjobs/engine/DeliveryResult" ∧ Fld Z h a "com/example/periodic_jobs/periodicjobs/engine/DeliveryResult" "httpStatus" "Ljava/lang/Integer;" .null ∧ Fld Z h a "com/example/periodic_jobs/periodicjobs/engine/DeliveryResult" "confirmed" "Z" (.int (0 : Int32)) ∧ Fld Z h a "com/example/periodic_jobs/periodicjobs/engine/DeliveryResult" "error" "Ljava/lang/String;" (.ref b)
set_option maxRecDepth 65536 in
set_option maxHeartbeats 40000000 in
theorem rm5 (l : Launch) (Z : State) (a0 : Array Value) (hw : ∀ d ∈ tables_1, d.before a0 Z = true) (ws : List Jvm.Cond) (b : Addr) (h0 : Heap) (n0 : Nat) (Z0 : n0 ≤ h0.size) (Eb : Exa Z h0 b "java/lang/String") :
    MetFree l (⟨"com/example/periodic_jobs/periodicjobs/engine/DeliveryResult", "failed", "(Ljava/lang/String;)Lcom/example/periodic_jobs/periodicjobs/engine/DeliveryResult;"⟩ : MethodName) (head1 (Jvm.Cond.code (⟨"com/example/periodic_jobs/periodicjobs/engine/DeliveryResult", "failed", "(Ljava/lang/String;)Lcom/example/periodic_jobs/periodicjobs/engine/DeliveryResult;"⟩ : MethodName) prog_9_method_4_code 1 ((Option.some (FieldType.object "com/example/periodic_jobs/periodicjobs/engine/DeliveryResult"))) :: ws) ({ frames := 2, cells := 3, slots := 27, locals := 28 } : Room)) (fun aa U => aa = #[(.ref b)] ∧ Z.Warmed39 U.vm ∧ U.heap = h0 ∧ CHv Z own_EL U.vm h0) (fun _ _ _ _ _ => True) (fun _ U ou U' => ∃ v L, ou = .returned v ∧ Q5 Z b h0 n0 v U'.heap L ∧ CHr Z own_EL U.vm U.heap U'.vm U'.heap ∧ ReturnedEndW U ou U' L ({ frames := 2, cells := 3, slots := 27, locals := 28 } : Room).cells ({ frames := 2, cells := 3, slots := 27, locals := 28 } : Room).slots) := by
  refine MetFree.of_bodySF (plainFor_of_name pn_com_example_periodic_jobs_periodicjobs_engine_DeliveryResult) hisR ?_
  intro pg e s m args below meth c s₁ Bd hml0 hP hK
  obtain ⟨rfl, hZ, hh, hCH⟩ := hP
  have wS := own_wS hw
  have hEL := own_hEL hw
  have hx := Bd.exec
  have hby := Bd.bytes
  have hml : c.maxLocals = 1 := hml0
  have hown : s.vm.findClass "com/example/periodic_jobs/periodicjobs/engine/DeliveryResult" = some m.cls := findClass_of_methodNamed Bd.named
  have hnm := (name_of_methodNamed Bd.named Bd.method).1
  have X0 : Stand pg l e ({ frames := 2, cells := 3, slots := 27, locals := 28 } : Room) (s.setVm s.vm) m #[(.ref b)] below meth c s₁ [] 0 0 := Stand.of_body Bd
  have e0 : s₁.heap = h0 := by rw [← hh, Bd.state]; rfl
  have N0 := Fr.nil n0
  have hS0 : s.Since s.vm h0.size := (State.WarmedH.refl s).since _
  have hk0 : h0.size ≤ h0.size := Nat.le_refl _
  have CR0 : CHr Z own_EL s.vm h0 s.vm h0 := CHr.refl hCH
  have K0 : Keep h0 h0 [] := Keep.refl _ _
  show own_Go pg.tables e below (fun ou U' => ∃ v L, ou = .returned v ∧ Q5 Z b h0 n0 v U'.heap L ∧ CHr Z own_EL s.vm s.heap U'.vm U'.heap ∧ ReturnedEndW s ou U' L ({ frames := 2, cells := 3, slots := 27, locals := 28 } : Room).cells ({ frames := 2, cells := 3, slots := 27, locals := 28 } : Room).slots) (s₁.setTop (entryFrame m #[(.ref b)] 1))
  refine own_go (S' := s₁.setTop (mkF m 0 #[.val (.ref b)] [])) (fun tg kk => castTop (ef5 m b) kk) ?_
  obtain ⟨T1, h1, X1, e1, Ex1, A1, D1, -, st1⟩ := newO X0 hx hZ hown (hw _ (List.mem_of_getElem? (i := 30) rfl)) (hw _ (List.mem_of_getElem? (i := 31) rfl)) (hw _ (List.mem_of_getElem? (i := 28) rfl)) e0 (g := (mkF m 0 #[.val (.ref b)] [])) rfl (hb hby d5_0) (by decide) (by decide)
  obtain ⟨a1, g1⟩ : ∃ z, z = h0.size := ⟨_, rfl⟩
  rw [← g1] at A1 D1 st1
  have sn1 : Safe Z own_EL s.vm h0 a1 := Safe.new (Nat.le_of_eq g1.symm)
  have ne1_b : b ≠ a1 := by rw [g1]; exact Nat.ne_of_lt Eb.lt
  have q1 : n0 ≤ a1 := by rw [g1]; exact Z0
  have r1 : h0.size ≤ a1 := by rw [g1]; exact K0.1
  have sf2_a1 := Safe.ext Ex1 CR0.1 sn1
  have CR2 := CR0.trans (CHr.ext Ex1 CR0.1)
  have hk2 := Nat.le_trans hk0 Ex1.1
  have E3 : Exa Z h1 b "java/lang/String" := Eb.ext Ex1
  have Z4 : n0 ≤ h1.size := Nat.le_trans Z0 Ex1.1
  have K5 : Keep h0 h1 [] := K0.ext Ex1
  refine own_go (S' := T1.setTop (mkF m 3 #[.val (.ref b)] [(.ref a1)])) (st1) ?_
  have F1_httpStatus : Fld Z h1 a1 "com/example/periodic_jobs/periodicjobs/engine/DeliveryResult" "httpStatus" "Ljava/lang/Integer;" .null := D1 (Or.inr (hw _ (List.mem_of_getElem? (i := 43) rfl))) (ty := .object "java/lang/Integer") (by decide)
  have F1_confirmed : Fld Z h1 a1 "com/example/periodic_jobs/periodicjobs/engine/DeliveryResult" "confirmed" "Z" (.int (0 : Int32)) := D1 (Or.inr (hw _ (List.mem_of_getElem? (i := 45) rfl))) (ty := .boolean) (by decide)
  have F1_error : Fld Z h1 a1 "com/example/periodic_jobs/periodicjobs/engine/DeliveryResult" "error" "Ljava/lang/String;" .null := D1 (Or.inr (hw _ (List.mem_of_getElem? (i := 47) rfl))) (ty := .object "java/lang/String") (by decide)
  refine own_go (S' := T1.setTop (mkF m 4 #[.val (.ref b)] [(.ref a1), (.ref a1)])) (fun tg kk => XS.dup X1.here hx rfl (hb hby d5_3) rfl rfl kk) ?_
  refine own_go (S' := T1.setTop (mkF m 5 #[.val (.ref b)] [.null, (.ref a1), (.ref a1)])) (fun tg kk => XS.aconstNull X1.here hx rfl (hb hby d5_4) kk) ?_
  refine own_go (S' := T1.setTop (mkF m 6 #[.val (.ref b)] [(.int (0 : Int32)), .null, (.ref a1), (.ref a1)])) (fun tg kk => XT.iconstV X1.here hx rfl (0 : Int32) (hb hby d5_5) (by decide) kk) ?_
  refine own_go (S' := T1.setTop (mkF m 7 #[.val (.ref b)] [(.ref b), (.int (0 : Int32)), .null, (.ref a1), (.ref a1)])) (fun tg kk => XS.aloadN X1.here hx rfl (hb hby d5_6) rfl rfl kk) ?_
  obtain ⟨a6, T6, h6, k1_6, X6, e6, Ex6, hS6, hk6, hZ6, ho6, CH6, L6, st6⟩ := ldcOH X1 hx hZ hown (hw _ (List.mem_of_getElem? (i := 32) rfl)) wS e1 hS0 hk2 hEL CR2.1 (g := (mkF m 7 #[.val (.ref b)] [(.ref b), (.int (0 : Int32)), .null, (.ref a1), (.ref a1)])) rfl (hb hby d5_7) (n := 20) (by decide) (by decide) (by decide) (by decide)
  have sf7_a1 := CH6.safe A1.lt sf2_a1
  have CR7 := CR2.trans CH6
  have F8 := F1_httpStatus.ext Ex6
  have F9 := F1_confirmed.ext Ex6
  have F10 := F1_error.ext Ex6
  have E11 : Exa Z h6 b "java/lang/String" := E3.ext Ex6
  have E12 : Exa Z h6 a1 "com/example/periodic_jobs/periodicjobs/engine/DeliveryResult" := A1.ext Ex6
  have Z13 : n0 ≤ h6.size := Nat.le_trans Z4 Ex6.1
  have K14 : Keep h0 h6 [] := K5.ext Ex6
  refine own_go (S' := T6.setTop (mkF m 9 #[.val (.ref b)] [(.ref a6), (.ref b), (.int (0 : Int32)), .null, (.ref a1), (.ref a1)])) (st6) ?_
  obtain ⟨v15, _, ⟨T15, L15, k15, n15⟩, -, X15, ⟨Lc15, hQ15, l15, y15, z15⟩, st15⟩ := Jvm.LawKit.callS X6 hx (y := (⟨"java/util/Objects", "requireNonNull", "(Ljava/lang/Object;Ljava/lang/String;)Ljava/lang/Object;"⟩ : MethodName)) ho6 (mvT hZ6 (hw _ (List.mem_of_getElem? (i := 33) rfl))) (mvT hZ6 (hw _ (List.mem_of_getElem? (i := 34) rfl))) (mvT hZ6 (hw _ (List.mem_of_getElem? (i := 35) rfl))) (mvT hZ6 (hw _ (List.mem_of_getElem? (i := 36) rfl))) (by decide) (backOf (W := 4) (rm6 l Z a0 hw [] b a6 h6 n0 Z13) hZ6 (hw _ (List.mem_of_getElem? (i := 36) rfl)) (hw _ (List.mem_of_getElem? (i := 35) rfl)) (by decide) (by decide)) (g := (mkF m 9 #[.val (.ref b)] [(.ref a6), (.ref b), (.int (0 : Int32)), .null, (.ref a1), (.ref a1)])) rfl (by rw [hml]; rfl) (argsL := [(.ref b), (.ref a6)]) (rest := [(.int (0 : Int32)), .null, (.ref a1), (.ref a1)]) (lenOf pd__Ljava_lang_Object_Ljava_lang_String__Ljava_lang_Object_ rfl) rfl (by show 2 * 0 + _ ≤ _; exact Nat.le_of_eq rfl) (hb hby d5_9) (fun _ _ => ⟨rfl, e6, (by decide : 3 + 0 ≤ _), (by decide : 27 + 0 ≤ _)⟩)
  dsimp only [Pt.U, Pt.locs, Pt.cells, Pt.slots] at X15 l15 y15 z15 st15 hQ15
  subst l15 y15 z15
  obtain ⟨rfl, M16, e15⟩ := hQ15
  have N16 := Fr.app N0 M16
  refine own_go (S' := T15.setTop (mkF m 12 #[.val (.ref b)] [(.ref b), (.int (0 : Int32)), .null, (.ref a1), (.ref a1)])) st15 ?_
  obtain ⟨T17, X17, e17, st17⟩ := castY X15 hx hZ6 ho6 (hw _ (List.mem_of_getElem? (i := 37) rfl)) e15 (Ins.self E11) (g := (mkF m 12 #[.val (.ref b)] [(.ref b), (.int (0 : Int32)), .null, (.ref a1), (.ref a1)])) rfl rfl (hb hby d5_12)
  refine own_go (S' := T17.setTop (mkF m 15 #[.val (.ref b)] [(.ref b), (.int (0 : Int32)), .null, (.ref a1), (.ref a1)])) (st17) ?_
  obtain ⟨v18, _, ⟨T18, L18, k18, n18⟩, -, X18, ⟨Lc18, hQ18, l18, y18, z18⟩, st18⟩ := X17.specialBack hx (y := (⟨"com/example/periodic_jobs/periodicjobs/engine/DeliveryResult", "<init>", "(Ljava/lang/Integer;ZLjava/lang/String;)V"⟩ : MethodName)) rfl ho6 (mvT hZ6 (hw _ (List.mem_of_getElem? (i := 38) rfl))) (mvT hZ6 (hw _ (List.mem_of_getElem? (i := 39) rfl))) (mvT hZ6 (hw _ (List.mem_of_getElem? (i := 40) rfl))) (by decide) (backOf (W := 1) (rm7 l Z a0 hw [] a1 b h6 n0 Z13 F8 F9 F10 E12 q1) hZ6 (hw _ (List.mem_of_getElem? (i := 40) rfl)) (hw _ (List.mem_of_getElem? (i := 28) rfl)) (by decide) (by decide)) (g := (mkF m 15 #[.val (.ref b)] [(.ref b), (.int (0 : Int32)), .null, (.ref a1), (.ref a1)])) rfl (by rw [hml]; rfl) (Steps.refl _) (a := a1) (argsL := [.null, (.int (0 : Int32)), (.ref b)]) (rest := [(.ref a1)]) (lenOf pd__Ljava_lang_Integer_ZLjava_lang_String__V rfl) rfl (by show 2 * 0 + _ ≤ _; exact Nat.le_of_eq rfl) (hb hby d5_15) (fun _ _ => ⟨rfl, e17, (by decide : 3 + 0 ≤ _), (by decide : 27 + 0 ≤ _)⟩)
  dsimp only [Pt.U, Pt.locs, Pt.cells, Pt.slots] at X18 l18 y18 z18 st18 hQ18
  subst l18 y18 z18
  obtain ⟨rfl, M19, K18, G18_0, G18_1, G18_2⟩ := hQ18
  have N19 := Fr.app N16 M19
  obtain ⟨h18, e18⟩ : ∃ z, T18.heap = z := ⟨_, rfl⟩
  rw [e18] at K18 G18_0 G18_1 G18_2
  have sf20_a1 := Safe.keep K18 (sfS sf7_a1 sf0) CR7.1 sf7_a1
  have CR20 := CR7.trans (CHr.keep K18 (sfS sf7_a1 sf0) CR7.1)
  have hk20 := Nat.le_trans hk6 K18.1
  have E21 : Exa Z h18 b "java/lang/String" := E11.keep K18
  have E22 : Exa Z h18 a1 "com/example/periodic_jobs/periodicjobs/engine/DeliveryResult" := E12.keep K18
  have Z23 : n0 ≤ h18.size := Nat.le_trans Z13 K18.1
  have K24 : Keep h0 h18 [] := K14.trans K18 (allS (Or.inr r1) all0)
  refine own_to (S' := T18.setTop (mkF m 18 #[.val (.ref b)] [(.ref a1)])) st18 ?_
  obtain ⟨fs, hr, hrun, hended, hEnd⟩ := X18.leaveW hS6 (Nat.le_trans hk20 (Nat.le_of_eq (congrArg Array.size e18.symm))) (v := some (.ref a1)) (fun h => by rw [Bd.returns] at h; cases h)
  refine ⟨_, _, retOut X18 hx (i := .areturn) Bd.returns (own_narR rfl rfl) (Or.inr (Or.inr (Or.inr (Or.inr ⟨rfl, rfl, rfl⟩)))) (hb hby d5_18) hr, hrun, hended, _, _, rfl, ?_, ?_, hEnd.1, hEnd.2.1, hEnd.2.2.1, hEnd.2.2.2.mono (by decide) (by decide)⟩
  · show Q5 Z b h0 n0 (some (.ref a1)) T18.heap _
    rw [e18]
    exact ⟨a1, rfl, N19, K24, E22, G18_0, G18_1, G18_2⟩
  · show CHr Z own_EL s.vm s.heap T18.vm T18.heap
    rw [hh, e18]
    exact CR20.trans (CHv.at X18 hZ6 hEL CR20.1)
theorem d10_0 : decode jdk_32_method_2_code 0 = .ok (.aload_n 0, 1) := by decide +kernel
theorem d10_1 : decode jdk_32_method_2_code 1 = .ok (.invokespecial 7, 3) := by decide +kernel
theorem d10_4 : decode jdk_32_method_2_code 4 = .ok (.aload_n 0, 1) := by decide +kernel
theorem d10_5 : decode jdk_32_method_2_code 5 = .ok (.aload_n 1, 1) := by decide +kernel
theorem d10_6 : decode jdk_32_method_2_code 6 = .ok (.putfield 13, 3) := by decide +kernel
theorem d10_9 : decode jdk_32_method_2_code 9 = .ok (.return_, 1) := by decide +kernel
theorem pn_java_util_Optional : plainName "java/util/Optional" = true := by first | (simp [plainName, overriddenIn]; done) | decide +kernel
theorem ef10 (m : MethodId) (x0 : Addr) (x1 : Addr) : entryFrame m #[(.ref x0), (.ref x1)] 2 = mkF m 0 #[.val (.ref x0), .val (.ref x1)] [] := by first | (simp [entryFrame, mkF, argsToLocals, Value.category]; done) | rfl
def Q10 (Z : State) (a : Addr) (b : Addr) (h0 : Heap) (n0 : Nat) (v : Option Value) (h : Heap) (L : List Loc) : Prop := v = none ∧ Fr n0 L ∧ Keep h0 h [a] ∧ Fld Z h a "java/util/Optional" "value" "Ljava/lang/Object;" (.ref b)
set_option maxRecDepth 65536 in
set_option maxHeartbeats 40000000 in
theorem rm10 (l : Launch) (Z : State) (a0 : Array Value) (hw : ∀ d ∈ tables_1, d.before a0 Z = true) (ws : List Jvm.Cond) (a : Addr) (b : Addr) (h0 : Heap) (n0 : Nat) (Z0 : n0 ≤ h0.size) (F1 : Fld Z h0 a "java/util/Optional" "value" "Ljava/lang/Object;" .null) (E1 : Exa Z h0 a "java/util/Optional") (g1 : n0 ≤ a) :
    MetFree l (⟨"java/util/Optional", "<init>", "(Ljava/lang/Object;)V"⟩ : MethodName) (head1 (Jvm.Cond.code (⟨"java/util/Optional", "<init>", "(Ljava/lang/Object;)V"⟩ : MethodName) jdk_32_method_2_code 2 ((Option.none : Option FieldType)) :: ws) ({ frames := 1, cells := 0, slots := 0, locals := 12 } : Room)) (fun aa U => aa = #[(.ref a), (.ref b)] ∧ Z.Warmed39 U.vm ∧ U.heap = h0) (fun _ _ _ _ _ => True) (fun _ U ou U' => ∃ v L, ou = .returned v ∧ Q10 Z a b h0 n0 v U'.heap L ∧ FrameEnd U ou U' L ({ frames := 1, cells := 0, slots := 0, locals := 12 } : Room).cells ({ frames := 1, cells := 0, slots := 0, locals := 12 } : Room).slots) := by
  refine MetFree.of_bodySF (plainFor_of_name pn_java_util_Optional) hisR ?_
  intro pg e s m args below meth c s₁ Bd hml0 hP hK
  obtain ⟨rfl, hZ, hh⟩ := hP
  have hx := Bd.exec
  have hby := Bd.bytes
  have hml : c.maxLocals = 2 := hml0
  have hown : s.vm.findClass "java/util/Optional" = some m.cls := findClass_of_methodNamed Bd.named
  have hnm := (name_of_methodNamed Bd.named Bd.method).1
  have X0 : Stand pg l e ({ frames := 1, cells := 0, slots := 0, locals := 12 } : Room) s m #[(.ref a), (.ref b)] below meth c s₁ [] 0 0 := Stand.of_body Bd
  have e0 : s₁.heap = h0 := by rw [← hh, Bd.state]; rfl
  have N0 := Fr.nil n0
  have K0 : Keep h0 h0 [a] := Keep.refl _ _
  show own_Go pg.tables e below (fun ou U' => ∃ v L, ou = .returned v ∧ Q10 Z a b h0 n0 v U'.heap L ∧ FrameEnd s ou U' L ({ frames := 1, cells := 0, slots := 0, locals := 12 } : Room).cells ({ frames := 1, cells := 0, slots := 0, locals := 12 } : Room).slots) (s₁.setTop (entryFrame m #[(.ref a), (.ref b)] 2))
  refine own_go (S' := s₁.setTop (mkF m 0 #[.val (.ref a), .val (.ref b)] [])) (fun tg kk => castTop (ef10 m a b) kk) ?_
  refine own_go (S' := s₁.setTop (mkF m 1 #[.val (.ref a), .val (.ref b)] [(.ref a)])) (fun tg kk => XS.aloadN X0.here hx rfl (hb hby d10_0) rfl rfl kk) ?_
  obtain ⟨T1, X1, e1, st1⟩ := initO X0 hx hZ hown (hw _ (List.mem_of_getElem? (i := 63) rfl)) (hw _ (List.mem_of_getElem? (i := 16) rfl)) (hw _ (List.mem_of_getElem? (i := 17) rfl)) e0 (g := (mkF m 1 #[.val (.ref a), .val (.ref b)] [(.ref a)])) rfl (by rw [hml]; rfl) rfl (hb hby d10_1) (by decide) (W := 0) (by show 2 * 0 + _ ≤ _; exact Nat.le_of_eq rfl) (by decide)
  refine own_go (S' := T1.setTop (mkF m 4 #[.val (.ref a), .val (.ref b)] [])) (st1) ?_
  refine own_go (S' := T1.setTop (mkF m 5 #[.val (.ref a), .val (.ref b)] [(.ref a)])) (fun tg kk => XS.aloadN X1.here hx rfl (hb hby d10_4) rfl rfl kk) ?_
  refine own_go (S' := T1.setTop (mkF m 6 #[.val (.ref a), .val (.ref b)] [(.ref b), (.ref a)])) (fun tg kk => XS.aloadN X1.here hx rfl (hb hby d10_5) rfl rfl kk) ?_
  obtain ⟨T2, h2, X2, e2, W2, st2⟩ := putF X1 hx hZ hown (host := "") (Or.inl (hw _ (List.mem_of_getElem? (i := 64) rfl))) Via.refl e1 F1 E1 (Or.inr ⟨(hw _ (List.mem_of_getElem? (i := 65) rfl)), rfl, hnm⟩) (hw _ (List.mem_of_getElem? (i := 58) rfl)) (ty := .object "java/lang/Object") (by decide) rfl rfl (g := (mkF m 6 #[.val (.ref a), .val (.ref b)] [(.ref b), (.ref a)])) rfl rfl (hb hby d10_6)
  refine own_go (S' := T2.setTop (mkF m 9 #[.val (.ref a), .val (.ref b)] [])) (st2) ?_
  have N2 := Fr.snoc X2 N0 g1
  have F3 := F1.same W2
  have E4 : Exa Z h2 a "java/util/Optional" := E1.wr W2
  have Z5 : n0 ≤ h2.size := by rw [W2.size]; exact Z0
  have K6 : Keep h0 h2 [a] := K0.wr W2 (Or.inl (List.mem_of_getElem? (i := 0) rfl))
  obtain ⟨fs, hr, hrun, hended, hW, hsame⟩ := X2.leave (v := none) (fun _ => rfl)
  refine ⟨_, _, X2.returnOut hx Bd.returns (hb hby d10_9) hr, hrun, hended, _, _, rfl, ?_, ⟨_, rfl⟩, hW, hsame.mono (by decide) (by decide)⟩
  show Q10 Z a b h0 n0 none T2.heap _
  rw [e2]
  exact ⟨rfl, N2, K6, F3⟩
theorem d9_0 : decode jdk_32_method_4_code 0 = .ok (.aload_n 0, 1) := by decide +kernel
theorem d9_1 : decode jdk_32_method_4_code 1 = .ok (.ifnonnull 9, 3) := by decide +kernel
theorem d9_10 : decode jdk_32_method_4_code 10 = .ok (.new 2, 3) := by decide +kernel
theorem d9_13 : decode jdk_32_method_4_code 13 = .ok (.dup, 1) := by decide +kernel
theorem d9_14 : decode jdk_32_method_4_code 14 = .ok (.aload_n 0, 1) := by decide +kernel
theorem pd__Ljava_lang_Object__V : parseMethodDescriptor "(Ljava/lang/Object;)V" = some ⟨[.object "java/lang/Object"], none⟩ := by decide +kernel
theorem d9_15 : decode jdk_32_method_4_code 15 = .ok (.invokespecial 23, 3) := by decide +kernel
theorem d9_18 : decode jdk_32_method_4_code 18 = .ok (.areturn, 1) := by decide +kernel
theorem ef9 (m : MethodId) (x0 : Addr) : entryFrame m #[(.ref x0)] 1 = mkF m 0 #[.val (.ref x0)] [] := by first | (simp [entryFrame, mkF, argsToLocals, Value.category]; done) | rfl
def Q9 (Z : State) (b : Addr) (h0 : Heap) (n0 : Nat) (v : Option Value) (h : Heap) (L : List Loc) : Prop := ∃ a, v = some (.ref a) ∧ Fr n0 L ∧ Keep h0 h [] ∧ Exa Z h a "java/util/Optional" ∧ Fld Z h a "java/util/Optional" "value" "Ljava/lang/Object;" (.ref b)
set_option maxRecDepth 65536 in
set_option maxHeartbeats 40000000 in
theorem rm9 (l : Launch) (Z : State) (a0 : Array Value) (hw : ∀ d ∈ tables_1, d.before a0 Z = true) (ws : List Jvm.Cond) (b : Addr) (h0 : Heap) (n0 : Nat) (Z0 : n0 ≤ h0.size)  :
    MetFree l (⟨"java/util/Optional", "ofNullable", "(Ljava/lang/Object;)Ljava/util/Optional;"⟩ : MethodName) (head1 (Jvm.Cond.code (⟨"java/util/Optional", "ofNullable", "(Ljava/lang/Object;)Ljava/util/Optional;"⟩ : MethodName) jdk_32_method_4_code 1 ((Option.some (FieldType.object "java/util/Optional"))) :: ws) ({ frames := 2, cells := 1, slots := 1, locals := 26 } : Room)) (fun aa U => aa = #[(.ref b)] ∧ Z.Warmed39 U.vm ∧ U.heap = h0) (fun _ _ _ _ _ => True) (fun _ U ou U' => ∃ v L, ou = .returned v ∧ Q9 Z b h0 n0 v U'.heap L ∧ FrameEnd U ou U' L ({ frames := 2, cells := 1, slots := 1, locals := 26 } : Room).cells ({ frames := 2, cells := 1, slots := 1, locals := 26 } : Room).slots) := by
  refine MetFree.of_bodySF (plainFor_of_name pn_java_util_Optional) hisR ?_
  intro pg e s m args below meth c s₁ Bd hml0 hP hK
  obtain ⟨rfl, hZ, hh⟩ := hP
  have hx := Bd.exec
  have hby := Bd.bytes
  have hml : c.maxLocals = 1 := hml0
  have hown : s.vm.findClass "java/util/Optional" = some m.cls := findClass_of_methodNamed Bd.named
  have hnm := (name_of_methodNamed Bd.named Bd.method).1
  have X0 : Stand pg l e ({ frames := 2, cells := 1, slots := 1, locals := 26 } : Room) s m #[(.ref b)] below meth c s₁ [] 0 0 := Stand.of_body Bd
  have e0 : s₁.heap = h0 := by rw [← hh, Bd.state]; rfl
  have N0 := Fr.nil n0
  have K0 : Keep h0 h0 [] := Keep.refl _ _
  show own_Go pg.tables e below (fun ou U' => ∃ v L, ou = .returned v ∧ Q9 Z b h0 n0 v U'.heap L ∧ FrameEnd s ou U' L ({ frames := 2, cells := 1, slots := 1, locals := 26 } : Room).cells ({ frames := 2, cells := 1, slots := 1, locals := 26 } : Room).slots) (s₁.setTop (entryFrame m #[(.ref b)] 1))
  refine own_go (S' := s₁.setTop (mkF m 0 #[.val (.ref b)] [])) (fun tg kk => castTop (ef9 m b) kk) ?_
  refine own_go (S' := s₁.setTop (mkF m 1 #[.val (.ref b)] [(.ref b)])) (fun tg kk => XS.aloadN X0.here hx rfl (hb hby d9_0) rfl rfl kk) ?_
  refine own_go (S' := s₁.setTop (mkF m 10 #[.val (.ref b)] [])) (fun tg kk => XT.ifnonnullYes X0.here hx rfl (pc0 := 1) (pc' := 10) rfl (hb hby d9_1) rfl (by decide) (by decide) kk) ?_
  obtain ⟨T1, h1, X1, e1, Ex1, A1, D1, -, st1⟩ := newO X0 hx hZ hown (hw _ (List.mem_of_getElem? (i := 57) rfl)) (hw _ (List.mem_of_getElem? (i := 58) rfl)) (hw _ (List.mem_of_getElem? (i := 55) rfl)) e0 (g := (mkF m 10 #[.val (.ref b)] [])) rfl (hb hby d9_10) (by decide) (by decide)
  obtain ⟨a1, g1⟩ : ∃ z, z = h0.size := ⟨_, rfl⟩
  rw [← g1] at A1 D1 st1
  have q1 : n0 ≤ a1 := by rw [g1]; exact Z0
  have r1 : h0.size ≤ a1 := by rw [g1]; exact K0.1
  have Z2 : n0 ≤ h1.size := Nat.le_trans Z0 Ex1.1
  have K3 : Keep h0 h1 [] := K0.ext Ex1
  refine own_go (S' := T1.setTop (mkF m 13 #[.val (.ref b)] [(.ref a1)])) (st1) ?_
  have F1_value : Fld Z h1 a1 "java/util/Optional" "value" "Ljava/lang/Object;" .null := D1 (Or.inr (hw _ (List.mem_of_getElem? (i := 65) rfl))) (ty := .object "java/lang/Object") (by decide)
  refine own_go (S' := T1.setTop (mkF m 14 #[.val (.ref b)] [(.ref a1), (.ref a1)])) (fun tg kk => XS.dup X1.here hx rfl (hb hby d9_13) rfl rfl kk) ?_
  refine own_go (S' := T1.setTop (mkF m 15 #[.val (.ref b)] [(.ref b), (.ref a1), (.ref a1)])) (fun tg kk => XS.aloadN X1.here hx rfl (hb hby d9_14) rfl rfl kk) ?_
  obtain ⟨v4, _, ⟨T4, L4, k4, n4⟩, -, X4, ⟨Lc4, hQ4, l4, y4, z4⟩, st4⟩ := X1.specialBack hx (y := (⟨"java/util/Optional", "<init>", "(Ljava/lang/Object;)V"⟩ : MethodName)) rfl hown (mvT hZ (hw _ (List.mem_of_getElem? (i := 59) rfl))) (mvT hZ (hw _ (List.mem_of_getElem? (i := 60) rfl))) (mvT hZ (hw _ (List.mem_of_getElem? (i := 62) rfl))) (by decide) (backOf (W := 1) (rm10 l Z a0 hw [] a1 b h1 n0 Z2 F1_value A1 q1) hZ (hw _ (List.mem_of_getElem? (i := 62) rfl)) (hw _ (List.mem_of_getElem? (i := 55) rfl)) (by decide) (by decide)) (g := (mkF m 15 #[.val (.ref b)] [(.ref b), (.ref a1), (.ref a1)])) rfl (by rw [hml]; rfl) (Steps.refl _) (a := a1) (argsL := [(.ref b)]) (rest := [(.ref a1)]) (lenOf pd__Ljava_lang_Object__V rfl) rfl (by show 2 * 0 + _ ≤ _; exact Nat.le_of_eq rfl) (hb hby d9_15) (fun _ _ => ⟨rfl, e1, (by decide : 1 + 0 ≤ _), (by decide : 1 + 0 ≤ _)⟩)
  dsimp only [Pt.U, Pt.locs, Pt.cells, Pt.slots] at X4 l4 y4 z4 st4 hQ4
  subst l4 y4 z4
  obtain ⟨rfl, M5, K4, G4_0⟩ := hQ4
  have N5 := Fr.app N0 M5
  obtain ⟨h4, e4⟩ : ∃ z, T4.heap = z := ⟨_, rfl⟩
  rw [e4] at K4 G4_0
  have E6 : Exa Z h4 a1 "java/util/Optional" := A1.keep K4
  have Z7 : n0 ≤ h4.size := Nat.le_trans Z2 K4.1
  have K8 : Keep h0 h4 [] := K3.trans K4 (allS (Or.inr r1) all0)
  refine own_to (S' := T4.setTop (mkF m 18 #[.val (.ref b)] [(.ref a1)])) st4 ?_
  obtain ⟨fs, hr, hrun, hended, hW, hsame⟩ := X4.leave (v := some (.ref a1)) (fun h => by rw [Bd.returns] at h; cases h)
  refine ⟨_, _, retOut X4 hx (i := .areturn) Bd.returns (own_narR rfl rfl) (Or.inr (Or.inr (Or.inr (Or.inr ⟨rfl, rfl, rfl⟩)))) (hb hby d9_18) hr, hrun, hended, _, _, rfl, ?_, ⟨_, rfl⟩, hW, hsame.mono (by decide) (by decide)⟩
  show Q9 Z b h0 n0 (some (.ref a1)) T4.heap _
  rw [e4]
  exact ⟨a1, rfl, N5, K8, E6, G4_0⟩
theorem d11_0 : decode jdk_32_method_6_code 0 = .ok (.aload_n 0, 1) := by decide +kernel
theorem d11_1 : decode jdk_32_method_6_code 1 = .ok (.getfield 13, 3) := by decide +kernel
theorem d11_4 : decode jdk_32_method_6_code 4 = .ok (.ifnull 7, 3) := by decide +kernel
theorem d11_7 : decode jdk_32_method_6_code 7 = .ok (.iconst 1, 1) := by decide +kernel
theorem d11_8 : decode jdk_32_method_6_code 8 = .ok (.goto 4, 3) := by decide +kernel
theorem d11_12 : decode jdk_32_method_6_code 12 = .ok (.ireturn, 1) := by decide +kernel
theorem ef11 (m : MethodId) (x0 : Addr) : entryFrame m #[(.ref x0)] 1 = mkF m 0 #[.val (.ref x0)] [] := by first | (simp [entryFrame, mkF, argsToLocals, Value.category]; done) | rfl
def Q11 (Z : State) (a : Addr) (b : Addr) (h0 : Heap) (n0 : Nat) (v : Option Value) (h : Heap) (L : List Loc) : Prop := v = some (.int (1 : Int32)) ∧ Fr n0 L ∧ h = h0
set_option maxRecDepth 65536 in
set_option maxHeartbeats 40000000 in
theorem rm11 (l : Launch) (Z : State) (a0 : Array Value) (hw : ∀ d ∈ tables_1, d.before a0 Z = true) (ws : List Jvm.Cond) (a : Addr) (b : Addr) (h0 : Heap) (n0 : Nat) (Z0 : n0 ≤ h0.size) (F1 : Fld Z h0 a "java/util/Optional" "value" "Ljava/lang/Object;" (.ref b)) :
    MetFree l (⟨"java/util/Optional", "isPresent", "()Z"⟩ : MethodName) (head1 (Jvm.Cond.code (⟨"java/util/Optional", "isPresent", "()Z"⟩ : MethodName) jdk_32_method_6_code 1 ((Option.some FieldType.boolean)) :: ws) ({ frames := 0, cells := 0, slots := 0, locals := 0 } : Room)) (fun aa U => aa = #[(.ref a)] ∧ Z.Warmed39 U.vm ∧ U.heap = h0) (fun _ _ _ _ _ => True) (fun _ U ou U' => ∃ v L, ou = .returned v ∧ Q11 Z a b h0 n0 v U'.heap L ∧ FrameEnd U ou U' L ({ frames := 0, cells := 0, slots := 0, locals := 0 } : Room).cells ({ frames := 0, cells := 0, slots := 0, locals := 0 } : Room).slots) := by
  refine MetFree.of_bodySF (plainFor_of_name pn_java_util_Optional) hisR ?_
  intro pg e s m args below meth c s₁ Bd hml0 hP hK
  obtain ⟨rfl, hZ, hh⟩ := hP
  have hx := Bd.exec
  have hby := Bd.bytes
  have hml : c.maxLocals = 1 := hml0
  have hown : s.vm.findClass "java/util/Optional" = some m.cls := findClass_of_methodNamed Bd.named
  have hnm := (name_of_methodNamed Bd.named Bd.method).1
  have X0 : Stand pg l e ({ frames := 0, cells := 0, slots := 0, locals := 0 } : Room) s m #[(.ref a)] below meth c s₁ [] 0 0 := Stand.of_body Bd
  have e0 : s₁.heap = h0 := by rw [← hh, Bd.state]; rfl
  have N0 := Fr.nil n0
  show own_Go pg.tables e below (fun ou U' => ∃ v L, ou = .returned v ∧ Q11 Z a b h0 n0 v U'.heap L ∧ FrameEnd s ou U' L ({ frames := 0, cells := 0, slots := 0, locals := 0 } : Room).cells ({ frames := 0, cells := 0, slots := 0, locals := 0 } : Room).slots) (s₁.setTop (entryFrame m #[(.ref a)] 1))
  refine own_go (S' := s₁.setTop (mkF m 0 #[.val (.ref a)] [])) (fun tg kk => castTop (ef11 m a) kk) ?_
  refine own_go (S' := s₁.setTop (mkF m 1 #[.val (.ref a)] [(.ref a)])) (fun tg kk => XS.aloadN X0.here hx rfl (hb hby d11_0) rfl rfl kk) ?_
  obtain ⟨T1, X1, e1, st1⟩ := getF X0 hx hZ hown (host := "") (Or.inl (hw _ (List.mem_of_getElem? (i := 64) rfl))) Via.refl e0 F1 (g := (mkF m 1 #[.val (.ref a)] [(.ref a)])) rfl rfl (hb hby d11_1)
  refine own_go (S' := T1.setTop (mkF m 4 #[.val (.ref a)] [(.ref b)])) (st1) ?_
  refine own_go (S' := T1.setTop (mkF m 7 #[.val (.ref a)] [])) (fun tg kk => XS.ifnullNo X1.here hx rfl (hb hby d11_4) rfl kk) ?_
  refine own_go (S' := T1.setTop (mkF m 8 #[.val (.ref a)] [(.int (1 : Int32))])) (fun tg kk => XT.iconstV X1.here hx rfl (1 : Int32) (hb hby d11_7) (by decide) kk) ?_
  refine own_go (S' := T1.setTop (mkF m 12 #[.val (.ref a)] [(.int (1 : Int32))])) (fun tg kk => XS.goto X1.here hx rfl (pc0 := 8) (pc' := 12) rfl (hb hby d11_8) (by decide) (by decide) kk) ?_
  obtain ⟨fs, hr, hrun, hended, hW, hsame⟩ := X1.leave (v := some (.int (1 : Int32))) (fun h => by rw [Bd.returns] at h; cases h)
  refine ⟨_, _, retN X1 hx (t := .boolean) Bd.returns (by simp) (hb hby d11_12) hr, hrun, hended, _, _, rfl, ?_, ⟨_, rfl⟩, hW, hsame.mono (by decide) (by decide)⟩
  show Q11 Z a b h0 n0 (some (.int (1 : Int32))) T1.heap _
  rw [e1]
  exact ⟨rfl, N0, rfl⟩
theorem d12_0 : decode jdk_32_method_5_code 0 = .ok (.aload_n 0, 1) := by decide +kernel
theorem d12_1 : decode jdk_32_method_5_code 1 = .ok (.getfield 13, 3) := by decide +kernel
theorem d12_4 : decode jdk_32_method_5_code 4 = .ok (.ifnonnull 13, 3) := by decide +kernel
theorem d12_17 : decode jdk_32_method_5_code 17 = .ok (.aload_n 0, 1) := by decide +kernel
theorem d12_18 : decode jdk_32_method_5_code 18 = .ok (.getfield 13, 3) := by decide +kernel
theorem d12_21 : decode jdk_32_method_5_code 21 = .ok (.areturn, 1) := by decide +kernel
theorem ef12 (m : MethodId) (x0 : Addr) : entryFrame m #[(.ref x0)] 1 = mkF m 0 #[.val (.ref x0)] [] := by first | (simp [entryFrame, mkF, argsToLocals, Value.category]; done) | rfl
def Q12 (Z : State) (a : Addr) (b : Addr) (h0 : Heap) (n0 : Nat) (v : Option Value) (h : Heap) (L : List Loc) : Prop := v = some (.ref b) ∧ Fr n0 L ∧ h = h0
set_option maxRecDepth 65536 in
set_option maxHeartbeats 40000000 in
theorem rm12 (l : Launch) (Z : State) (a0 : Array Value) (hw : ∀ d ∈ tables_1, d.before a0 Z = true) (ws : List Jvm.Cond) (a : Addr) (b : Addr) (h0 : Heap) (n0 : Nat) (Z0 : n0 ≤ h0.size) (F1 : Fld Z h0 a "java/util/Optional" "value" "Ljava/lang/Object;" (.ref b)) :
    MetFree l (⟨"java/util/Optional", "get", "()Ljava/lang/Object;"⟩ : MethodName) (head1 (Jvm.Cond.code (⟨"java/util/Optional", "get", "()Ljava/lang/Object;"⟩ : MethodName) jdk_32_method_5_code 1 ((Option.some (FieldType.object "java/lang/Object"))) :: ws) ({ frames := 0, cells := 0, slots := 0, locals := 0 } : Room)) (fun aa U => aa = #[(.ref a)] ∧ Z.Warmed39 U.vm ∧ U.heap = h0) (fun _ _ _ _ _ => True) (fun _ U ou U' => ∃ v L, ou = .returned v ∧ Q12 Z a b h0 n0 v U'.heap L ∧ FrameEnd U ou U' L ({ frames := 0, cells := 0, slots := 0, locals := 0 } : Room).cells ({ frames := 0, cells := 0, slots := 0, locals := 0 } : Room).slots) := by
  refine MetFree.of_bodySF (plainFor_of_name pn_java_util_Optional) hisR ?_
  intro pg e s m args below meth c s₁ Bd hml0 hP hK
  obtain ⟨rfl, hZ, hh⟩ := hP
  have hx := Bd.exec
  have hby := Bd.bytes
  have hml : c.maxLocals = 1 := hml0
  have hown : s.vm.findClass "java/util/Optional" = some m.cls := findClass_of_methodNamed Bd.named
  have hnm := (name_of_methodNamed Bd.named Bd.method).1
  have X0 : Stand pg l e ({ frames := 0, cells := 0, slots := 0, locals := 0 } : Room) s m #[(.ref a)] below meth c s₁ [] 0 0 := Stand.of_body Bd
  have e0 : s₁.heap = h0 := by rw [← hh, Bd.state]; rfl
  have N0 := Fr.nil n0
  show own_Go pg.tables e below (fun ou U' => ∃ v L, ou = .returned v ∧ Q12 Z a b h0 n0 v U'.heap L ∧ FrameEnd s ou U' L ({ frames := 0, cells := 0, slots := 0, locals := 0 } : Room).cells ({ frames := 0, cells := 0, slots := 0, locals := 0 } : Room).slots) (s₁.setTop (entryFrame m #[(.ref a)] 1))
  refine own_go (S' := s₁.setTop (mkF m 0 #[.val (.ref a)] [])) (fun tg kk => castTop (ef12 m a) kk) ?_
  refine own_go (S' := s₁.setTop (mkF m 1 #[.val (.ref a)] [(.ref a)])) (fun tg kk => XS.aloadN X0.here hx rfl (hb hby d12_0) rfl rfl kk) ?_
  obtain ⟨T1, X1, e1, st1⟩ := getF X0 hx hZ hown (host := "") (Or.inl (hw _ (List.mem_of_getElem? (i := 64) rfl))) Via.refl e0 F1 (g := (mkF m 1 #[.val (.ref a)] [(.ref a)])) rfl rfl (hb hby d12_1)
  refine own_go (S' := T1.setTop (mkF m 4 #[.val (.ref a)] [(.ref b)])) (st1) ?_
  refine own_go (S' := T1.setTop (mkF m 17 #[.val (.ref a)] [])) (fun tg kk => XT.ifnonnullYes X1.here hx rfl (pc0 := 4) (pc' := 17) rfl (hb hby d12_4) rfl (by decide) (by decide) kk) ?_
  refine own_go (S' := T1.setTop (mkF m 18 #[.val (.ref a)] [(.ref a)])) (fun tg kk => XS.aloadN X1.here hx rfl (hb hby d12_17) rfl rfl kk) ?_
  obtain ⟨T2, X2, e2, st2⟩ := getF X1 hx hZ hown (host := "") (Or.inl (hw _ (List.mem_of_getElem? (i := 64) rfl))) Via.refl e1 F1 (g := (mkF m 18 #[.val (.ref a)] [(.ref a)])) rfl rfl (hb hby d12_18)
  refine own_go (S' := T2.setTop (mkF m 21 #[.val (.ref a)] [(.ref b)])) (st2) ?_
  obtain ⟨fs, hr, hrun, hended, hW, hsame⟩ := X2.leave (v := some (.ref b)) (fun h => by rw [Bd.returns] at h; cases h)
  refine ⟨_, _, retOut X2 hx (i := .areturn) Bd.returns (own_narR rfl rfl) (Or.inr (Or.inr (Or.inr (Or.inr ⟨rfl, rfl, rfl⟩)))) (hb hby d12_21) hr, hrun, hended, _, _, rfl, ?_, ⟨_, rfl⟩, hW, hsame.mono (by decide) (by decide)⟩
  show Q12 Z a b h0 n0 (some (.ref b)) T2.heap _
  rw [e2]
  exact ⟨rfl, N0, rfl⟩
theorem d8_0 : decode prog_9_method_7_code 0 = .ok (.aload_n 0, 1) := by decide +kernel
theorem d8_1 : decode prog_9_method_7_code 1 = .ok (.getfield 17, 3) := by decide +kernel
theorem pd__Ljava_lang_Object__Ljava_util_Optional_ : parseMethodDescriptor "(Ljava/lang/Object;)Ljava/util/Optional;" = some ⟨[.object "java/lang/Object"], some (.object "java/util/Optional")⟩ := by decide +kernel
theorem d8_4 : decode prog_9_method_7_code 4 = .ok (.invokestatic 53, 3) := by decide +kernel
theorem d8_7 : decode prog_9_method_7_code 7 = .ok (.areturn, 1) := by decide +kernel
theorem ef8 (m : MethodId) (x0 : Addr) : entryFrame m #[(.ref x0)] 1 = mkF m 0 #[.val (.ref x0)] [] := by first | (simp [entryFrame, mkF, argsToLocals, Value.category]; done) | rfl
def Q8 (Z : State) (a : Addr) (b : Addr) (h0 : Heap) (n0 : Nat) (v : Option Value) (h : Heap) (L : List Loc) : Prop := ∃ a, v = some (.ref a) ∧ Fr n0 L ∧ Keep h0 h [] ∧ Exa Z h a "java/util/Optional" ∧ Fld Z h a "java/util/Optional" "value" "Ljava/lang/Object;" (.ref b)
set_option maxRecDepth 65536 in
set_option maxHeartbeats 40000000 in
theorem rm8 (l : Launch) (Z : State) (a0 : Array Value) (hw : ∀ d ∈ tables_1, d.before a0 Z = true) (ws : List Jvm.Cond) (a : Addr) (b : Addr) (h0 : Heap) (n0 : Nat) (Z0 : n0 ≤ h0.size) (F1 : Fld Z h0 a "com/example/periodic_jobs/periodicjobs/engine/DeliveryResult" "error" "Ljava/lang/String;" (.ref b)) :
    MetFree l (⟨"com/example/periodic_jobs/periodicjobs/engine/DeliveryResult", "getError", "()Ljava/util/Optional;"⟩ : MethodName) (head1 (Jvm.Cond.code (⟨"com/example/periodic_jobs/periodicjobs/engine/DeliveryResult", "getError", "()Ljava/util/Optional;"⟩ : MethodName) prog_9_method_7_code 1 ((Option.some (FieldType.object "java/util/Optional"))) :: ws) ({ frames := 3, cells := 1, slots := 1, locals := 38 } : Room)) (fun aa U => aa = #[(.ref a)] ∧ Z.Warmed39 U.vm ∧ U.heap = h0) (fun _ _ _ _ _ => True) (fun _ U ou U' => ∃ v L, ou = .returned v ∧ Q8 Z a b h0 n0 v U'.heap L ∧ FrameEnd U ou U' L ({ frames := 3, cells := 1, slots := 1, locals := 38 } : Room).cells ({ frames := 3, cells := 1, slots := 1, locals := 38 } : Room).slots) := by
  refine MetFree.of_bodySF (plainFor_of_name pn_com_example_periodic_jobs_periodicjobs_engine_DeliveryResult) hisR ?_
  intro pg e s m args below meth c s₁ Bd hml0 hP hK
  obtain ⟨rfl, hZ, hh⟩ := hP
  have hx := Bd.exec
  have hby := Bd.bytes
  have hml : c.maxLocals = 1 := hml0
  have hown : s.vm.findClass "com/example/periodic_jobs/periodicjobs/engine/DeliveryResult" = some m.cls := findClass_of_methodNamed Bd.named
  have hnm := (name_of_methodNamed Bd.named Bd.method).1
  have X0 : Stand pg l e ({ frames := 3, cells := 1, slots := 1, locals := 38 } : Room) s m #[(.ref a)] below meth c s₁ [] 0 0 := Stand.of_body Bd
  have e0 : s₁.heap = h0 := by rw [← hh, Bd.state]; rfl
  have N0 := Fr.nil n0
  have K0 : Keep h0 h0 [] := Keep.refl _ _
  show own_Go pg.tables e below (fun ou U' => ∃ v L, ou = .returned v ∧ Q8 Z a b h0 n0 v U'.heap L ∧ FrameEnd s ou U' L ({ frames := 3, cells := 1, slots := 1, locals := 38 } : Room).cells ({ frames := 3, cells := 1, slots := 1, locals := 38 } : Room).slots) (s₁.setTop (entryFrame m #[(.ref a)] 1))
  refine own_go (S' := s₁.setTop (mkF m 0 #[.val (.ref a)] [])) (fun tg kk => castTop (ef8 m a) kk) ?_
  refine own_go (S' := s₁.setTop (mkF m 1 #[.val (.ref a)] [(.ref a)])) (fun tg kk => XS.aloadN X0.here hx rfl (hb hby d8_0) rfl rfl kk) ?_
  obtain ⟨T1, X1, e1, st1⟩ := getF X0 hx hZ hown (host := "") (Or.inl (hw _ (List.mem_of_getElem? (i := 46) rfl))) Via.refl e0 F1 (g := (mkF m 1 #[.val (.ref a)] [(.ref a)])) rfl rfl (hb hby d8_1)
  refine own_go (S' := T1.setTop (mkF m 4 #[.val (.ref a)] [(.ref b)])) (st1) ?_
  obtain ⟨v2, _, ⟨T2, L2, k2, n2⟩, -, X2, ⟨Lc2, hQ2, l2, y2, z2⟩, st2⟩ := Jvm.LawKit.callS X1 hx (y := (⟨"java/util/Optional", "ofNullable", "(Ljava/lang/Object;)Ljava/util/Optional;"⟩ : MethodName)) hown (mvT hZ (hw _ (List.mem_of_getElem? (i := 53) rfl))) (mvT hZ (hw _ (List.mem_of_getElem? (i := 54) rfl))) (mvT hZ (hw _ (List.mem_of_getElem? (i := 55) rfl))) (mvT hZ (hw _ (List.mem_of_getElem? (i := 56) rfl))) (by decide) (backOf (W := 0) (rm9 l Z a0 hw [] b h0 n0 Z0) hZ (hw _ (List.mem_of_getElem? (i := 56) rfl)) (hw _ (List.mem_of_getElem? (i := 55) rfl)) (by decide) (by decide)) (g := (mkF m 4 #[.val (.ref a)] [(.ref b)])) rfl (by rw [hml]; rfl) (argsL := [(.ref b)]) (rest := []) (lenOf pd__Ljava_lang_Object__Ljava_util_Optional_ rfl) rfl (by show 2 * 0 + _ ≤ _; exact Nat.le_of_eq rfl) (hb hby d8_4) (fun _ _ => ⟨rfl, e1, (by decide : 0 + 1 ≤ _), (by decide : 0 + 1 ≤ _)⟩)
  dsimp only [Pt.U, Pt.locs, Pt.cells, Pt.slots] at X2 l2 y2 z2 st2 hQ2
  subst l2 y2 z2
  obtain ⟨b2, rfl, M3, K2, G2_0, G2_1⟩ := hQ2
  have N3 := Fr.app N0 M3
  obtain ⟨h2, e2⟩ : ∃ z, T2.heap = z := ⟨_, rfl⟩
  rw [e2] at K2 G2_0 G2_1
  have F4 := F1.keep K2 nin0
  have Z5 : n0 ≤ h2.size := Nat.le_trans Z0 K2.1
  have K6 : Keep h0 h2 [] := K0.trans K2 all0
  refine own_go (S' := T2.setTop (mkF m 7 #[.val (.ref a)] [(.ref b2)])) st2 ?_
  obtain ⟨fs, hr, hrun, hended, hW, hsame⟩ := X2.leave (v := some (.ref b2)) (fun h => by rw [Bd.returns] at h; cases h)
  refine ⟨_, _, retOut X2 hx (i := .areturn) Bd.returns (own_narR rfl rfl) (Or.inr (Or.inr (Or.inr (Or.inr ⟨rfl, rfl, rfl⟩)))) (hb hby d8_7) hr, hrun, hended, _, _, rfl, ?_, ⟨_, rfl⟩, hW, hsame.mono (by decide) (by decide)⟩
  show Q8 Z a b h0 n0 (some (.ref b2)) T2.heap _
  rw [e2]
  exact ⟨b2, rfl, N3, K6, G2_0, G2_1⟩
theorem d13_0 : decode jdk_42_method_66_code 0 = .ok (.aload_n 0, 1) := by decide +kernel
theorem d13_1 : decode jdk_42_method_66_code 1 = .ok (.aload_n 1, 1) := by decide +kernel
theorem d13_2 : decode jdk_42_method_66_code 2 = .ok (.if_acmp .ne 5, 3) := by decide +kernel
theorem d13_5 : decode jdk_42_method_66_code 5 = .ok (.iconst 1, 1) := by decide +kernel
theorem d13_6 : decode jdk_42_method_66_code 6 = .ok (.ireturn, 1) := by decide +kernel
theorem ef13 (m : MethodId) (x0 : Addr) (x1 : Addr) : entryFrame m #[(.ref x0), (.ref x1)] 3 = mkF m 0 #[.val (.ref x0), .val (.ref x1), .unset] [] := by first | (simp [entryFrame, mkF, argsToLocals, Value.category]; done) | rfl
def Q13 (Z : State) (a : Addr) (h0 : Heap) (n0 : Nat) (v : Option Value) (h : Heap) (L : List Loc) : Prop := v = some (.int (1 : Int32)) ∧ Fr n0 L ∧ h = h0
set_option maxRecDepth 65536 in
set_option maxHeartbeats 40000000 in
theorem rm13 (l : Launch) (Z : State) (a0 : Array Value) (hw : ∀ d ∈ tables_1, d.before a0 Z = true) (ws : List Jvm.Cond) (a : Addr) (h0 : Heap) (n0 : Nat) (Z0 : n0 ≤ h0.size)  :
    MetFree l (⟨"java/lang/String", "equals", "(Ljava/lang/Object;)Z"⟩ : MethodName) (head1 (Jvm.Cond.code (⟨"java/lang/String", "equals", "(Ljava/lang/Object;)Z"⟩ : MethodName) jdk_42_method_66_code 3 ((Option.some FieldType.boolean)) :: ws) ({ frames := 0, cells := 0, slots := 0, locals := 0 } : Room)) (fun aa U => aa = #[(.ref a), (.ref a)] ∧ Z.Warmed39 U.vm ∧ U.heap = h0) (fun _ _ _ _ _ => True) (fun _ U ou U' => ∃ v L, ou = .returned v ∧ Q13 Z a h0 n0 v U'.heap L ∧ FrameEnd U ou U' L ({ frames := 0, cells := 0, slots := 0, locals := 0 } : Room).cells ({ frames := 0, cells := 0, slots := 0, locals := 0 } : Room).slots) := by
  refine MetFree.of_bodySF (plainFor_of_name pn_java_lang_String) hisR ?_
  intro pg e s m args below meth c s₁ Bd hml0 hP hK
  obtain ⟨rfl, hZ, hh⟩ := hP
  have hx := Bd.exec
  have hby := Bd.bytes
  have hml : c.maxLocals = 3 := hml0
  have hown : s.vm.findClass "java/lang/String" = some m.cls := findClass_of_methodNamed Bd.named
  have hnm := (name_of_methodNamed Bd.named Bd.method).1
  have X0 : Stand pg l e ({ frames := 0, cells := 0, slots := 0, locals := 0 } : Room) s m #[(.ref a), (.ref a)] below meth c s₁ [] 0 0 := Stand.of_body Bd
  have e0 : s₁.heap = h0 := by rw [← hh, Bd.state]; rfl
  have N0 := Fr.nil n0
  show own_Go pg.tables e below (fun ou U' => ∃ v L, ou = .returned v ∧ Q13 Z a h0 n0 v U'.heap L ∧ FrameEnd s ou U' L ({ frames := 0, cells := 0, slots := 0, locals := 0 } : Room).cells ({ frames := 0, cells := 0, slots := 0, locals := 0 } : Room).slots) (s₁.setTop (entryFrame m #[(.ref a), (.ref a)] 3))
  refine own_go (S' := s₁.setTop (mkF m 0 #[.val (.ref a), .val (.ref a), .unset] [])) (fun tg kk => castTop (ef13 m a a) kk) ?_
  refine own_go (S' := s₁.setTop (mkF m 1 #[.val (.ref a), .val (.ref a), .unset] [(.ref a)])) (fun tg kk => XS.aloadN X0.here hx rfl (hb hby d13_0) rfl rfl kk) ?_
  refine own_go (S' := s₁.setTop (mkF m 2 #[.val (.ref a), .val (.ref a), .unset] [(.ref a), (.ref a)])) (fun tg kk => XS.aloadN X0.here hx rfl (hb hby d13_1) rfl rfl kk) ?_
  refine own_go (S' := s₁.setTop (mkF m 5 #[.val (.ref a), .val (.ref a), .unset] [])) (fun tg kk => XT.acmpNo X0.here hx rfl (hb hby d13_2) rfl rfl rfl (XT.aa_ne_f rfl) kk) ?_
  refine own_go (S' := s₁.setTop (mkF m 6 #[.val (.ref a), .val (.ref a), .unset] [(.int (1 : Int32))])) (fun tg kk => XT.iconstV X0.here hx rfl (1 : Int32) (hb hby d13_5) (by decide) kk) ?_
  obtain ⟨fs, hr, hrun, hended, hW, hsame⟩ := X0.leave (v := some (.int (1 : Int32))) (fun h => by rw [Bd.returns] at h; cases h)
  refine ⟨_, _, retN X0 hx (t := .boolean) Bd.returns (by simp) (hb hby d13_6) hr, hrun, hended, _, _, rfl, ?_, ⟨_, rfl⟩, hW, hsame.mono (by decide) (by decide)⟩
  show Q13 Z a h0 n0 (some (.int (1 : Int32))) s₁.heap _
  rw [e0]
  exact ⟨rfl, N0, rfl⟩
theorem d15_0 : decode jdk_2649_method_2_code 0 = .ok (.getstatic 17, 3) := by decide +kernel
theorem d15_3 : decode jdk_2649_method_2_code 3 = .ok (.areturn, 1) := by decide +kernel
theorem pn_java_util_OptionalInt : plainName "java/util/OptionalInt" = true := by first | (simp [plainName, overriddenIn]; done) | decide +kernel
theorem ef15 (m : MethodId)  : entryFrame m #[] 0 = mkF m 0 #[] [] := by first | (simp [entryFrame, mkF, argsToLocals, Value.category]; done) | rfl
def Q15 (Z : State) (em : Addr) (h0 : Heap) (n0 : Nat) (v : Option Value) (h : Heap) (L : List Loc) : Prop := v = some (.ref em) ∧ Fr n0 L ∧ h = h0
set_option maxRecDepth 65536 in
set_option maxHeartbeats 40000000 in
theorem rm15 (l : Launch) (Z : State) (a0 : Array Value) (hw : ∀ d ∈ tables_1, d.before a0 Z = true) (ws : List Jvm.Cond) (em : Addr) (h0 : Heap) (n0 : Nat) (Z0 : n0 ≤ h0.size) (O0 : Old Z n0 h0) (S_EM : Sta Z Z.heap "java/util/OptionalInt" "EMPTY" "Ljava/util/OptionalInt;" (.ref em)) :
    MetFree l (⟨"java/util/OptionalInt", "empty", "()Ljava/util/OptionalInt;"⟩ : MethodName) (head1 (Jvm.Cond.code (⟨"java/util/OptionalInt", "empty", "()Ljava/util/OptionalInt;"⟩ : MethodName) jdk_2649_method_2_code 0 ((Option.some (FieldType.object "java/util/OptionalInt"))) :: ws) ({ frames := 0, cells := 0, slots := 0, locals := 0 } : Room)) (fun aa U => aa = #[] ∧ Z.Warmed39 U.vm ∧ U.heap = h0) (fun _ _ _ _ _ => True) (fun _ U ou U' => ∃ v L, ou = .returned v ∧ Q15 Z em h0 n0 v U'.heap L ∧ FrameEnd U ou U' L ({ frames := 0, cells := 0, slots := 0, locals := 0 } : Room).cells ({ frames := 0, cells := 0, slots := 0, locals := 0 } : Room).slots) := by
  refine MetFree.of_bodySF (plainFor_of_name pn_java_util_OptionalInt) hisR ?_
  intro pg e s m args below meth c s₁ Bd hml0 hP hK
  obtain ⟨rfl, hZ, hh⟩ := hP
  have hx := Bd.exec
  have hby := Bd.bytes
  have hml : c.maxLocals = 0 := hml0
  have hown : s.vm.findClass "java/util/OptionalInt" = some m.cls := findClass_of_methodNamed Bd.named
  have hnm := (name_of_methodNamed Bd.named Bd.method).1
  have X0 : Stand pg l e ({ frames := 0, cells := 0, slots := 0, locals := 0 } : Room) s m #[] below meth c s₁ [] 0 0 := Stand.of_body Bd
  have e0 : s₁.heap = h0 := by rw [← hh, Bd.state]; rfl
  have N0 := Fr.nil n0
  show own_Go pg.tables e below (fun ou U' => ∃ v L, ou = .returned v ∧ Q15 Z em h0 n0 v U'.heap L ∧ FrameEnd s ou U' L ({ frames := 0, cells := 0, slots := 0, locals := 0 } : Room).cells ({ frames := 0, cells := 0, slots := 0, locals := 0 } : Room).slots) (s₁.setTop (entryFrame m #[] 0))
  refine own_go (S' := s₁.setTop (mkF m 0 #[] [])) (fun tg kk => castTop (ef15 m ) kk) ?_
  obtain ⟨T1, X1, e1, st1⟩ := getS (host := "") X0 hx hZ hown (hw _ (List.mem_of_getElem? (i := 90) rfl)) Via.refl e0 (S_EM.ext O0.2) (g := (mkF m 0 #[] [])) rfl (hb hby d15_0)
  refine own_go (S' := T1.setTop (mkF m 3 #[] [(.ref em)])) (st1) ?_
  obtain ⟨fs, hr, hrun, hended, hW, hsame⟩ := X1.leave (v := some (.ref em)) (fun h => by rw [Bd.returns] at h; cases h)
  refine ⟨_, _, retOut X1 hx (i := .areturn) Bd.returns (own_narR rfl rfl) (Or.inr (Or.inr (Or.inr (Or.inr ⟨rfl, rfl, rfl⟩)))) (hb hby d15_3) hr, hrun, hended, _, _, rfl, ?_, ⟨_, rfl⟩, hW, hsame.mono (by decide) (by decide)⟩
  show Q15 Z em h0 n0 (some (.ref em)) T1.heap _
  rw [e1]
  exact ⟨rfl, N0, rfl⟩
theorem d16_0 : decode jdk_2649_method_6_code 0 = .ok (.aload_n 0, 1) := by decide +kernel
theorem d16_1 : decode jdk_2649_method_6_code 1 = .ok (.getfield 7, 3) := by decide +kernel
theorem d16_4 : decode jdk_2649_method_6_code 4 = .ok (.ireturn, 1) := by decide +kernel
theorem ef16 (m : MethodId) (x0 : Addr) : entryFrame m #[(.ref x0)] 1 = mkF m 0 #[.val (.ref x0)] [] := by first | (simp [entryFrame, mkF, argsToLocals, Value.category]; done) | rfl
def Q16 (Z : State) (em : Addr) (h0 : Heap) (n0 : Nat) (v : Option Value) (h : Heap) (L : List Loc) : Prop := v = some (.int (0 : Int32)) ∧ Fr n0 L ∧ h = h0
set_option maxRecDepth 65536 in
set_option maxHeartbeats 40000000 in
theorem rm16 (l : Launch) (Z : State) (a0 : Array Value) (hw : ∀ d ∈ tables_1, d.before a0 Z = true) (ws : List Jvm.Cond) (em : Addr) (h0 : Heap) (n0 : Nat) (Z0 : n0 ≤ h0.size) (O0 : Old Z n0 h0) (F_EM : Fld Z Z.heap em "java/util/OptionalInt" "isPresent" "Z" (.int (0 : Int32))) :
    MetFree l (⟨"java/util/OptionalInt", "isPresent", "()Z"⟩ : MethodName) (head1 (Jvm.Cond.code (⟨"java/util/OptionalInt", "isPresent", "()Z"⟩ : MethodName) jdk_2649_method_6_code 1 ((Option.some FieldType.boolean)) :: ws) ({ frames := 0, cells := 0, slots := 0, locals := 0 } : Room)) (fun aa U => aa = #[(.ref em)] ∧ Z.Warmed39 U.vm ∧ U.heap = h0) (fun _ _ _ _ _ => True) (fun _ U ou U' => ∃ v L, ou = .returned v ∧ Q16 Z em h0 n0 v U'.heap L ∧ FrameEnd U ou U' L ({ frames := 0, cells := 0, slots := 0, locals := 0 } : Room).cells ({ frames := 0, cells := 0, slots := 0, locals := 0 } : Room).slots) := by
  refine MetFree.of_bodySF (plainFor_of_name pn_java_util_OptionalInt) hisR ?_
  intro pg e s m args below meth c s₁ Bd hml0 hP hK
  obtain ⟨rfl, hZ, hh⟩ := hP
  have hx := Bd.exec
  have hby := Bd.bytes
  have hml : c.maxLocals = 1 := hml0
  have hown : s.vm.findClass "java/util/OptionalInt" = some m.cls := findClass_of_methodNamed Bd.named
  have hnm := (name_of_methodNamed Bd.named Bd.method).1
  have X0 : Stand pg l e ({ frames := 0, cells := 0, slots := 0, locals := 0 } : Room) s m #[(.ref em)] below meth c s₁ [] 0 0 := Stand.of_body Bd
  have e0 : s₁.heap = h0 := by rw [← hh, Bd.state]; rfl
  have N0 := Fr.nil n0
  show own_Go pg.tables e below (fun ou U' => ∃ v L, ou = .returned v ∧ Q16 Z em h0 n0 v U'.heap L ∧ FrameEnd s ou U' L ({ frames := 0, cells := 0, slots := 0, locals := 0 } : Room).cells ({ frames := 0, cells := 0, slots := 0, locals := 0 } : Room).slots) (s₁.setTop (entryFrame m #[(.ref em)] 1))
  refine own_go (S' := s₁.setTop (mkF m 0 #[.val (.ref em)] [])) (fun tg kk => castTop (ef16 m em) kk) ?_
  refine own_go (S' := s₁.setTop (mkF m 1 #[.val (.ref em)] [(.ref em)])) (fun tg kk => XS.aloadN X0.here hx rfl (hb hby d16_0) rfl rfl kk) ?_
  obtain ⟨T1, X1, e1, st1⟩ := getF X0 hx hZ hown (host := "") (Or.inl (hw _ (List.mem_of_getElem? (i := 96) rfl))) Via.refl e0 (F_EM.ext O0.2) (g := (mkF m 1 #[.val (.ref em)] [(.ref em)])) rfl rfl (hb hby d16_1)
  refine own_go (S' := T1.setTop (mkF m 4 #[.val (.ref em)] [(.int (0 : Int32))])) (st1) ?_
  obtain ⟨fs, hr, hrun, hended, hW, hsame⟩ := X1.leave (v := some (.int (0 : Int32))) (fun h => by rw [Bd.returns] at h; cases h)
  refine ⟨_, _, retN X1 hx (t := .boolean) Bd.returns (by simp) (hb hby d16_4) hr, hrun, hended, _, _, rfl, ?_, ⟨_, rfl⟩, hW, hsame.mono (by decide) (by decide)⟩
  show Q16 Z em h0 n0 (some (.int (0 : Int32))) T1.heap _
  rw [e1]
  exact ⟨rfl, N0, rfl⟩
theorem d14_0 : decode prog_9_method_5_code 0 = .ok (.aload_n 0, 1) := by decide +kernel
theorem d14_1 : decode prog_9_method_5_code 1 = .ok (.getfield 7, 3) := by decide +kernel
theorem d14_4 : decode prog_9_method_5_code 4 = .ok (.ifnonnull 9, 3) := by decide +kernel
theorem pd___Ljava_util_OptionalInt_ : parseMethodDescriptor "()Ljava/util/OptionalInt;" = some ⟨[], some (.object "java/util/OptionalInt")⟩ := by decide +kernel
theorem d14_7 : decode prog_9_method_5_code 7 = .ok (.invokestatic 39, 3) := by decide +kernel
theorem d14_10 : decode prog_9_method_5_code 10 = .ok (.goto 13, 3) := by decide +kernel
theorem d14_23 : decode prog_9_method_5_code 23 = .ok (.areturn, 1) := by decide +kernel
theorem ef14 (m : MethodId) (x0 : Addr) : entryFrame m #[(.ref x0)] 1 = mkF m 0 #[.val (.ref x0)] [] := by first | (simp [entryFrame, mkF, argsToLocals, Value.category]; done) | rfl
def Q14 (Z : State) (a : Addr) (em : Addr) (h0 : Heap) (n0 : Nat) (v : Option Value) (h : Heap) (L : List Loc) : Prop := v = some (.ref em) ∧ Fr n0 L ∧ h = h0
set_option maxRecDepth 65536 in
set_option maxHeartbeats 40000000 in
theorem rm14 (l : Launch) (Z : State) (a0 : Array Value) (hw : ∀ d ∈ tables_1, d.before a0 Z = true) (ws : List Jvm.Cond) (a : Addr) (em : Addr) (h0 : Heap) (n0 : Nat) (Z0 : n0 ≤ h0.size) (O0 : Old Z n0 h0) (F1 : Fld Z h0 a "com/example/periodic_jobs/periodicjobs/engine/DeliveryResult" "httpStatus" "Ljava/lang/Integer;" .null) (S_EM : Sta Z Z.heap "java/util/OptionalInt" "EMPTY" "Ljava/util/OptionalInt;" (.ref em)) :
    MetFree l (⟨"com/example/periodic_jobs/periodicjobs/engine/DeliveryResult", "getHttpStatus", "()Ljava/util/OptionalInt;"⟩ : MethodName) (head1 (Jvm.Cond.code (⟨"com/example/periodic_jobs/periodicjobs/engine/DeliveryResult", "getHttpStatus", "()Ljava/util/OptionalInt;"⟩ : MethodName) prog_9_method_5_code 1 ((Option.some (FieldType.object "java/util/OptionalInt"))) :: ws) ({ frames := 1, cells := 0, slots := 0, locals := 11 } : Room)) (fun aa U => aa = #[(.ref a)] ∧ Z.Warmed39 U.vm ∧ U.heap = h0) (fun _ _ _ _ _ => True) (fun _ U ou U' => ∃ v L, ou = .returned v ∧ Q14 Z a em h0 n0 v U'.heap L ∧ FrameEnd U ou U' L ({ frames := 1, cells := 0, slots := 0, locals := 11 } : Room).cells ({ frames := 1, cells := 0, slots := 0, locals := 11 } : Room).slots) := by
  refine MetFree.of_bodySF (plainFor_of_name pn_com_example_periodic_jobs_periodicjobs_engine_DeliveryResult) hisR ?_
  intro pg e s m args below meth c s₁ Bd hml0 hP hK
  obtain ⟨rfl, hZ, hh⟩ := hP
  have hx := Bd.exec
  have hby := Bd.bytes
  have hml : c.maxLocals = 1 := hml0
  have hown : s.vm.findClass "com/example/periodic_jobs/periodicjobs/engine/DeliveryResult" = some m.cls := findClass_of_methodNamed Bd.named
  have hnm := (name_of_methodNamed Bd.named Bd.method).1
  have X0 : Stand pg l e ({ frames := 1, cells := 0, slots := 0, locals := 11 } : Room) s m #[(.ref a)] below meth c s₁ [] 0 0 := Stand.of_body Bd
  have e0 : s₁.heap = h0 := by rw [← hh, Bd.state]; rfl
  have N0 := Fr.nil n0
  show own_Go pg.tables e below (fun ou U' => ∃ v L, ou = .returned v ∧ Q14 Z a em h0 n0 v U'.heap L ∧ FrameEnd s ou U' L ({ frames := 1, cells := 0, slots := 0, locals := 11 } : Room).cells ({ frames := 1, cells := 0, slots := 0, locals := 11 } : Room).slots) (s₁.setTop (entryFrame m #[(.ref a)] 1))
  refine own_go (S' := s₁.setTop (mkF m 0 #[.val (.ref a)] [])) (fun tg kk => castTop (ef14 m a) kk) ?_
  refine own_go (S' := s₁.setTop (mkF m 1 #[.val (.ref a)] [(.ref a)])) (fun tg kk => XS.aloadN X0.here hx rfl (hb hby d14_0) rfl rfl kk) ?_
  obtain ⟨T1, X1, e1, st1⟩ := getF X0 hx hZ hown (host := "") (Or.inl (hw _ (List.mem_of_getElem? (i := 42) rfl))) Via.refl e0 F1 (g := (mkF m 1 #[.val (.ref a)] [(.ref a)])) rfl rfl (hb hby d14_1)
  refine own_go (S' := T1.setTop (mkF m 4 #[.val (.ref a)] [.null])) (st1) ?_
  refine own_go (S' := T1.setTop (mkF m 7 #[.val (.ref a)] [])) (fun tg kk => XT.ifnonnullNo X1.here hx rfl (hb hby d14_4) rfl kk) ?_
  obtain ⟨v2, _, ⟨T2, L2, k2, n2⟩, -, X2, ⟨Lc2, hQ2, l2, y2, z2⟩, st2⟩ := Jvm.LawKit.callS X1 hx (y := (⟨"java/util/OptionalInt", "empty", "()Ljava/util/OptionalInt;"⟩ : MethodName)) hown (mvT hZ (hw _ (List.mem_of_getElem? (i := 86) rfl))) (mvT hZ (hw _ (List.mem_of_getElem? (i := 87) rfl))) (mvT hZ (hw _ (List.mem_of_getElem? (i := 88) rfl))) (mvT hZ (hw _ (List.mem_of_getElem? (i := 89) rfl))) (by decide) (backOf (W := 0) (rm15 l Z a0 hw [] em h0 n0 Z0 O0 S_EM) hZ (hw _ (List.mem_of_getElem? (i := 89) rfl)) (hw _ (List.mem_of_getElem? (i := 88) rfl)) (by decide) (by decide)) (g := (mkF m 7 #[.val (.ref a)] [])) rfl (by rw [hml]; rfl) (argsL := []) (rest := []) (lenOf pd___Ljava_util_OptionalInt_ rfl) rfl (by show 2 * 0 + _ ≤ _; exact Nat.le_of_eq rfl) (hb hby d14_7) (fun _ _ => ⟨rfl, e1, (by decide : 0 + 0 ≤ _), (by decide : 0 + 0 ≤ _)⟩)
  dsimp only [Pt.U, Pt.locs, Pt.cells, Pt.slots] at X2 l2 y2 z2 st2 hQ2
  subst l2 y2 z2
  obtain ⟨rfl, M3, e2⟩ := hQ2
  have N3 := Fr.app N0 M3
  refine own_go (S' := T2.setTop (mkF m 10 #[.val (.ref a)] [(.ref em)])) st2 ?_
  refine own_go (S' := T2.setTop (mkF m 23 #[.val (.ref a)] [(.ref em)])) (fun tg kk => XS.goto X2.here hx rfl (pc0 := 10) (pc' := 23) rfl (hb hby d14_10) (by decide) (by decide) kk) ?_
  obtain ⟨fs, hr, hrun, hended, hW, hsame⟩ := X2.leave (v := some (.ref em)) (fun h => by rw [Bd.returns] at h; cases h)
  refine ⟨_, _, retOut X2 hx (i := .areturn) Bd.returns (own_narR rfl rfl) (Or.inr (Or.inr (Or.inr (Or.inr ⟨rfl, rfl, rfl⟩)))) (hb hby d14_23) hr, hrun, hended, _, _, rfl, ?_, ⟨_, rfl⟩, hW, hsame.mono (by decide) (by decide)⟩
  show Q14 Z a em h0 n0 (some (.ref em)) T2.heap _
  rw [e2]
  exact ⟨rfl, N3, rfl⟩
theorem d17_0 : decode prog_9_method_6_code 0 = .ok (.aload_n 0, 1) := by decide +kernel
theorem d17_1 : decode prog_9_method_6_code 1 = .ok (.getfield 13, 3) := by decide +kernel
theorem d17_4 : decode prog_9_method_6_code 4 = .ok (.ireturn, 1) := by decide +kernel
theorem ef17 (m : MethodId) (x0 : Addr) : entryFrame m #[(.ref x0)] 1 = mkF m 0 #[.val (.ref x0)] [] := by first | (simp [entryFrame, mkF, argsToLocals, Value.category]; done) | rfl
def Q17 (Z : State) (a : Addr) (h0 : Heap) (n0 : Nat) (v : Option Value) (h : Heap) (L : List Loc) : Prop := v = some (.int (0 : Int32)) ∧ Fr n0 L ∧ h = h0
set_option maxRecDepth 65536 in
set_option maxHeartbeats 40000000 in
theorem rm17 (l : Launch) (Z : State) (a0 : Array Value) (hw : ∀ d ∈ tables_1, d.before a0 Z = true) (ws : List Jvm.Cond) (a : Addr) (h0 : Heap) (n0 : Nat) (Z0 : n0 ≤ h0.size) (F_confirmed : Fld Z h0 a "com/example/periodic_jobs/periodicjobs/engine/DeliveryResult" "confirmed" "Z" (.int (0 : Int32))) :
    MetFree l (⟨"com/example/periodic_jobs/periodicjobs/engine/DeliveryResult", "isConfirmed", "()Z"⟩ : MethodName) (head1 (Jvm.Cond.code (⟨"com/example/periodic_jobs/periodicjobs/engine/DeliveryResult", "isConfirmed", "()Z"⟩ : MethodName) prog_9_method_6_code 1 ((Option.some FieldType.boolean)) :: ws) ({ frames := 0, cells := 0, slots := 0, locals := 0 } : Room)) (fun aa U => aa = #[(.ref a)] ∧ Z.Warmed39 U.vm ∧ U.heap = h0) (fun _ _ _ _ _ => True) (fun _ U ou U' => ∃ v L, ou = .returned v ∧ Q17 Z a h0 n0 v U'.heap L ∧ FrameEnd U ou U' L ({ frames := 0, cells := 0, slots := 0, locals := 0 } : Room).cells ({ frames := 0, cells := 0, slots := 0, locals := 0 } : Room).slots) := by
  refine MetFree.of_bodySF (plainFor_of_name pn_com_example_periodic_jobs_periodicjobs_engine_DeliveryResult) hisR ?_
  intro pg e s m args below meth c s₁ Bd hml0 hP hK
  obtain ⟨rfl, hZ, hh⟩ := hP
  have hx := Bd.exec
  have hby := Bd.bytes
  have hml : c.maxLocals = 1 := hml0
  have hown : s.vm.findClass "com/example/periodic_jobs/periodicjobs/engine/DeliveryResult" = some m.cls := findClass_of_methodNamed Bd.named
  have hnm := (name_of_methodNamed Bd.named Bd.method).1
  have X0 : Stand pg l e ({ frames := 0, cells := 0, slots := 0, locals := 0 } : Room) s m #[(.ref a)] below meth c s₁ [] 0 0 := Stand.of_body Bd
  have e0 : s₁.heap = h0 := by rw [← hh, Bd.state]; rfl
  have N0 := Fr.nil n0
  show own_Go pg.tables e below (fun ou U' => ∃ v L, ou = .returned v ∧ Q17 Z a h0 n0 v U'.heap L ∧ FrameEnd s ou U' L ({ frames := 0, cells := 0, slots := 0, locals := 0 } : Room).cells ({ frames := 0, cells := 0, slots := 0, locals := 0 } : Room).slots) (s₁.setTop (entryFrame m #[(.ref a)] 1))
  refine own_go (S' := s₁.setTop (mkF m 0 #[.val (.ref a)] [])) (fun tg kk => castTop (ef17 m a) kk) ?_
  refine own_go (S' := s₁.setTop (mkF m 1 #[.val (.ref a)] [(.ref a)])) (fun tg kk => XS.aloadN X0.here hx rfl (hb hby d17_0) rfl rfl kk) ?_
  obtain ⟨T1, X1, e1, st1⟩ := getF X0 hx hZ hown (host := "") (Or.inl (hw _ (List.mem_of_getElem? (i := 44) rfl))) Via.refl e0 F_confirmed (g := (mkF m 1 #[.val (.ref a)] [(.ref a)])) rfl rfl (hb hby d17_1)
  refine own_go (S' := T1.setTop (mkF m 4 #[.val (.ref a)] [(.int (0 : Int32))])) (st1) ?_
  obtain ⟨fs, hr, hrun, hended, hW, hsame⟩ := X1.leave (v := some (.int (0 : Int32))) (fun h => by rw [Bd.returns] at h; cases h)
  refine ⟨_, _, retN X1 hx (t := .boolean) Bd.returns (by simp) (hb hby d17_4) hr, hrun, hended, _, _, rfl, ?_, ⟨_, rfl⟩, hW, hsame.mono (by decide) (by decide)⟩
  show Q17 Z a h0 n0 (some (.int (0 : Int32))) T1.heap _
  rw [e1]
  exact ⟨rfl, N0, rfl⟩
theorem d18_0 : decode prog_9_method_8_code 0 = .ok (.aload_n 0, 1) := by decide +kernel
theorem d18_1 : decode prog_9_method_8_code 1 = .ok (.getfield 13, 3) := by decide +kernel
theorem d18_4 : decode prog_9_method_8_code 4 = .ok (.ifCond .ne 24, 3) := by decide +kernel
theorem d18_7 : decode prog_9_method_8_code 7 = .ok (.aload_n 0, 1) := by decide +kernel
theorem d18_8 : decode prog_9_method_8_code 8 = .ok (.getfield 7, 3) := by decide +kernel
theorem d18_11 : decode prog_9_method_8_code 11 = .ok (.ifnull 21, 3) := by decide +kernel
theorem d18_32 : decode prog_9_method_8_code 32 = .ok (.iconst 0, 1) := by decide +kernel
theorem d18_33 : decode prog_9_method_8_code 33 = .ok (.ireturn, 1) := by decide +kernel
theorem ef18 (m : MethodId) (x0 : Addr) : entryFrame m #[(.ref x0)] 1 = mkF m 0 #[.val (.ref x0)] [] := by first | (simp [entryFrame, mkF, argsToLocals, Value.category]; done) | rfl
def Q18 (Z : State) (a : Addr) (h0 : Heap) (n0 : Nat) (v : Option Value) (h : Heap) (L : List Loc) : Prop := v = some (.int (0 : Int32)) ∧ Fr n0 L ∧ h = h0
set_option maxRecDepth 65536 in
set_option maxHeartbeats 40000000 in
theorem rm18 (l : Launch) (Z : State) (a0 : Array Value) (hw : ∀ d ∈ tables_1, d.before a0 Z = true) (ws : List Jvm.Cond) (a : Addr) (h0 : Heap) (n0 : Nat) (Z0 : n0 ≤ h0.size) (F_confirmed : Fld Z h0 a "com/example/periodic_jobs/periodicjobs/engine/DeliveryResult" "confirmed" "Z" (.int (0 : Int32))) (F_httpStatus : Fld Z h0 a "com/example/periodic_jobs/periodicjobs/engine/DeliveryResult" "httpStatus" "Ljava/lang/Integer;" .null) :
    MetFree l (⟨"com/example/periodic_jobs/periodicjobs/engine/DeliveryResult", "isSuccess", "()Z"⟩ : MethodName) (head1 (Jvm.Cond.code (⟨"com/example/periodic_jobs/periodicjobs/engine/DeliveryResult", "isSuccess", "()Z"⟩ : MethodName) prog_9_method_8_code 1 ((Option.some FieldType.boolean)) :: ws) ({ frames := 0, cells := 0, slots := 0, locals := 0 } : Room)) (fun aa U => aa = #[(.ref a)] ∧ Z.Warmed39 U.vm ∧ U.heap = h0) (fun _ _ _ _ _ => True) (fun _ U ou U' => ∃ v L, ou = .returned v ∧ Q18 Z a h0 n0 v U'.heap L ∧ FrameEnd U ou U' L ({ frames := 0, cells := 0, slots := 0, locals := 0 } : Room).cells ({ frames := 0, cells := 0, slots := 0, locals := 0 } : Room).slots) := by
  refine MetFree.of_bodySF (plainFor_of_name pn_com_example_periodic_jobs_periodicjobs_engine_DeliveryResult) hisR ?_
  intro pg e s m args below meth c s₁ Bd hml0 hP hK
  obtain ⟨rfl, hZ, hh⟩ := hP
  have hx := Bd.exec
  have hby := Bd.bytes
  have hml : c.maxLocals = 1 := hml0
  have hown : s.vm.findClass "com/example/periodic_jobs/periodicjobs/engine/DeliveryResult" = some m.cls := findClass_of_methodNamed Bd.named
  have hnm := (name_of_methodNamed Bd.named Bd.method).1
  have X0 : Stand pg l e ({ frames := 0, cells := 0, slots := 0, locals := 0 } : Room) s m #[(.ref a)] below meth c s₁ [] 0 0 := Stand.of_body Bd
  have e0 : s₁.heap = h0 := by rw [← hh, Bd.state]; rfl
  have N0 := Fr.nil n0
  show own_Go pg.tables e below (fun ou U' => ∃ v L, ou = .returned v ∧ Q18 Z a h0 n0 v U'.heap L ∧ FrameEnd s ou U' L ({ frames := 0, cells := 0, slots := 0, locals := 0 } : Room).cells ({ frames := 0, cells := 0, slots := 0, locals := 0 } : Room).slots) (s₁.setTop (entryFrame m #[(.ref a)] 1))
  refine own_go (S' := s₁.setTop (mkF m 0 #[.val (.ref a)] [])) (fun tg kk => castTop (ef18 m a) kk) ?_
  refine own_go (S' := s₁.setTop (mkF m 1 #[.val (.ref a)] [(.ref a)])) (fun tg kk => XS.aloadN X0.here hx rfl (hb hby d18_0) rfl rfl kk) ?_
  obtain ⟨T1, X1, e1, st1⟩ := getF X0 hx hZ hown (host := "") (Or.inl (hw _ (List.mem_of_getElem? (i := 44) rfl))) Via.refl e0 F_confirmed (g := (mkF m 1 #[.val (.ref a)] [(.ref a)])) rfl rfl (hb hby d18_1)
  refine own_go (S' := T1.setTop (mkF m 4 #[.val (.ref a)] [(.int (0 : Int32))])) (st1) ?_
  refine own_go (S' := T1.setTop (mkF m 7 #[.val (.ref a)] [])) (fun tg kk => XS.ifNo X1.here hx rfl (hb hby d18_4) rfl (XT.i0_ne_f (by decide)) kk) ?_
  refine own_go (S' := T1.setTop (mkF m 8 #[.val (.ref a)] [(.ref a)])) (fun tg kk => XS.aloadN X1.here hx rfl (hb hby d18_7) rfl rfl kk) ?_
  obtain ⟨T2, X2, e2, st2⟩ := getF X1 hx hZ hown (host := "") (Or.inl (hw _ (List.mem_of_getElem? (i := 42) rfl))) Via.refl e1 F_httpStatus (g := (mkF m 8 #[.val (.ref a)] [(.ref a)])) rfl rfl (hb hby d18_8)
  refine own_go (S' := T2.setTop (mkF m 11 #[.val (.ref a)] [.null])) (st2) ?_
  refine own_go (S' := T2.setTop (mkF m 32 #[.val (.ref a)] [])) (fun tg kk => XS.ifnullYes X2.here hx rfl (pc0 := 11) (pc' := 32) rfl (hb hby d18_11) rfl (by decide) (by decide) kk) ?_
  refine own_go (S' := T2.setTop (mkF m 33 #[.val (.ref a)] [(.int (0 : Int32))])) (fun tg kk => XT.iconstV X2.here hx rfl (0 : Int32) (hb hby d18_32) (by decide) kk) ?_
  obtain ⟨fs, hr, hrun, hended, hW, hsame⟩ := X2.leave (v := some (.int (0 : Int32))) (fun h => by rw [Bd.returns] at h; cases h)
  refine ⟨_, _, retN X2 hx (t := .boolean) Bd.returns (by simp) (hb hby d18_33) hr, hrun, hended, _, _, rfl, ?_, ⟨_, rfl⟩, hW, hsame.mono (by decide) (by decide)⟩
  show Q18 Z a h0 n0 (some (.int (0 : Int32))) T2.heap _
  rw [e2]
  exact ⟨rfl, N0, rfl⟩
theorem d19_0 : decode prog_9_method_9_code 0 = .ok (.aload_n 0, 1) := by decide +kernel
theorem d19_1 : decode prog_9_method_9_code 1 = .ok (.getfield 7, 3) := by decide +kernel
theorem d19_4 : decode prog_9_method_9_code 4 = .ok (.ifnull 20, 3) := by decide +kernel
theorem d19_24 : decode prog_9_method_9_code 24 = .ok (.iconst 0, 1) := by decide +kernel
theorem d19_25 : decode prog_9_method_9_code 25 = .ok (.ireturn, 1) := by decide +kernel
theorem ef19 (m : MethodId) (x0 : Addr) : entryFrame m #[(.ref x0)] 1 = mkF m 0 #[.val (.ref x0)] [] := by first | (simp [entryFrame, mkF, argsToLocals, Value.category]; done) | rfl
def Q19 (Z : State) (a : Addr) (h0 : Heap) (n0 : Nat) (v : Option Value) (h : Heap) (L : List Loc) : Prop := v = some (.int (0 : Int32)) ∧ Fr n0 L ∧ h = h0
set_option maxRecDepth 65536 in
set_option maxHeartbeats 40000000 in
theorem rm19 (l : Launch) (Z : State) (a0 : Array Value) (hw : ∀ d ∈ tables_1, d.before a0 Z = true) (ws : List Jvm.Cond) (a : Addr) (h0 : Heap) (n0 : Nat) (Z0 : n0 ≤ h0.size) (F_httpStatus : Fld Z h0 a "com/example/periodic_jobs/periodicjobs/engine/DeliveryResult" "httpStatus" "Ljava/lang/Integer;" .null) :
    MetFree l (⟨"com/example/periodic_jobs/periodicjobs/engine/DeliveryResult", "isAccepted", "()Z"⟩ : MethodName) (head1 (Jvm.Cond.code (⟨"com/example/periodic_jobs/periodicjobs/engine/DeliveryResult", "isAccepted", "()Z"⟩ : MethodName) prog_9_method_9_code 1 ((Option.some FieldType.boolean)) :: ws) ({ frames := 0, cells := 0, slots := 0, locals := 0 } : Room)) (fun aa U => aa = #[(.ref a)] ∧ Z.Warmed39 U.vm ∧ U.heap = h0) (fun _ _ _ _ _ => True) (fun _ U ou U' => ∃ v L, ou = .returned v ∧ Q19 Z a h0 n0 v U'.heap L ∧ FrameEnd U ou U' L ({ frames := 0, cells := 0, slots := 0, locals := 0 } : Room).cells ({ frames := 0, cells := 0, slots := 0, locals := 0 } : Room).slots) := by
  refine MetFree.of_bodySF (plainFor_of_name pn_com_example_periodic_jobs_periodicjobs_engine_DeliveryResult) hisR ?_
  intro pg e s m args below meth c s₁ Bd hml0 hP hK
  obtain ⟨rfl, hZ, hh⟩ := hP
  have hx := Bd.exec
  have hby := Bd.bytes
  have hml : c.maxLocals = 1 := hml0
  have hown : s.vm.findClass "com/example/periodic_jobs/periodicjobs/engine/DeliveryResult" = some m.cls := findClass_of_methodNamed Bd.named
  have hnm := (name_of_methodNamed Bd.named Bd.method).1
  have X0 : Stand pg l e ({ frames := 0, cells := 0, slots := 0, locals := 0 } : Room) s m #[(.ref a)] below meth c s₁ [] 0 0 := Stand.of_body Bd
  have e0 : s₁.heap = h0 := by rw [← hh, Bd.state]; rfl
  have N0 := Fr.nil n0
  show own_Go pg.tables e below (fun ou U' => ∃ v L, ou = .returned v ∧ Q19 Z a h0 n0 v U'.heap L ∧ FrameEnd s ou U' L ({ frames := 0, cells := 0, slots := 0, locals := 0 } : Room).cells ({ frames := 0, cells := 0, slots := 0, locals := 0 } : Room).slots) (s₁.setTop (entryFrame m #[(.ref a)] 1))
  refine own_go (S' := s₁.setTop (mkF m 0 #[.val (.ref a)] [])) (fun tg kk => castTop (ef19 m a) kk) ?_
  refine own_go (S' := s₁.setTop (mkF m 1 #[.val (.ref a)] [(.ref a)])) (fun tg kk => XS.aloadN X0.here hx rfl (hb hby d19_0) rfl rfl kk) ?_
  obtain ⟨T1, X1, e1, st1⟩ := getF X0 hx hZ hown (host := "") (Or.inl (hw _ (List.mem_of_getElem? (i := 42) rfl))) Via.refl e0 F_httpStatus (g := (mkF m 1 #[.val (.ref a)] [(.ref a)])) rfl rfl (hb hby d19_1)
  refine own_go (S' := T1.setTop (mkF m 4 #[.val (.ref a)] [.null])) (st1) ?_
  refine own_go (S' := T1.setTop (mkF m 24 #[.val (.ref a)] [])) (fun tg kk => XS.ifnullYes X1.here hx rfl (pc0 := 4) (pc' := 24) rfl (hb hby d19_4) rfl (by decide) (by decide) kk) ?_
  refine own_go (S' := T1.setTop (mkF m 25 #[.val (.ref a)] [(.int (0 : Int32))])) (fun tg kk => XT.iconstV X1.here hx rfl (0 : Int32) (hb hby d19_24) (by decide) kk) ?_
  obtain ⟨fs, hr, hrun, hended, hW, hsame⟩ := X1.leave (v := some (.int (0 : Int32))) (fun h => by rw [Bd.returns] at h; cases h)
  refine ⟨_, _, retN X1 hx (t := .boolean) Bd.returns (by simp) (hb hby d19_25) hr, hrun, hended, _, _, rfl, ?_, ⟨_, rfl⟩, hW, hsame.mono (by decide) (by decide)⟩
  show Q19 Z a h0 n0 (some (.int (0 : Int32))) T1.heap _
  rw [e1]
  exact ⟨rfl, N0, rfl⟩
theorem d20_0 : decode prog_9_method_10_code 0 = .ok (.aload_n 0, 1) := by decide +kernel
theorem d20_1 : decode prog_9_method_10_code 1 = .ok (.getfield 7, 3) := by decide +kernel
theorem d20_4 : decode prog_9_method_10_code 4 = .ok (.ifnull 43, 3) := by decide +kernel
theorem d20_47 : decode prog_9_method_10_code 47 = .ok (.iconst 1, 1) := by decide +kernel
theorem d20_48 : decode prog_9_method_10_code 48 = .ok (.goto 4, 3) := by decide +kernel
theorem d20_52 : decode prog_9_method_10_code 52 = .ok (.ireturn, 1) := by decide +kernel
theorem ef20 (m : MethodId) (x0 : Addr) : entryFrame m #[(.ref x0)] 1 = mkF m 0 #[.val (.ref x0)] [] := by first | (simp [entryFrame, mkF, argsToLocals, Value.category]; done) | rfl
def Q20 (Z : State) (a : Addr) (h0 : Heap) (n0 : Nat) (v : Option Value) (h : Heap) (L : List Loc) : Prop := v = some (.int (1 : Int32)) ∧ Fr n0 L ∧ h = h0
set_option maxRecDepth 65536 in
set_option maxHeartbeats 40000000 in
theorem rm20 (l : Launch) (Z : State) (a0 : Array Value) (hw : ∀ d ∈ tables_1, d.before a0 Z = true) (ws : List Jvm.Cond) (a : Addr) (h0 : Heap) (n0 : Nat) (Z0 : n0 ≤ h0.size) (F_httpStatus : Fld Z h0 a "com/example/periodic_jobs/periodicjobs/engine/DeliveryResult" "httpStatus" "Ljava/lang/Integer;" .null) :
    MetFree l (⟨"com/example/periodic_jobs/periodicjobs/engine/DeliveryResult", "isWorthRetrying", "()Z"⟩ : MethodName) (head1 (Jvm.Cond.code (⟨"com/example/periodic_jobs/periodicjobs/engine/DeliveryResult", "isWorthRetrying", "()Z"⟩ : MethodName) prog_9_method_10_code 1 ((Option.some FieldType.boolean)) :: ws) ({ frames := 0, cells := 0, slots := 0, locals := 0 } : Room)) (fun aa U => aa = #[(.ref a)] ∧ Z.Warmed39 U.vm ∧ U.heap = h0) (fun _ _ _ _ _ => True) (fun _ U ou U' => ∃ v L, ou = .returned v ∧ Q20 Z a h0 n0 v U'.heap L ∧ FrameEnd U ou U' L ({ frames := 0, cells := 0, slots := 0, locals := 0 } : Room).cells ({ frames := 0, cells := 0, slots := 0, locals := 0 } : Room).slots) := by
  refine MetFree.of_bodySF (plainFor_of_name pn_com_example_periodic_jobs_periodicjobs_engine_DeliveryResult) hisR ?_
  intro pg e s m args below meth c s₁ Bd hml0 hP hK
  obtain ⟨rfl, hZ, hh⟩ := hP
  have hx := Bd.exec
  have hby := Bd.bytes
  have hml : c.maxLocals = 1 := hml0
  have hown : s.vm.findClass "com/example/periodic_jobs/periodicjobs/engine/DeliveryResult" = some m.cls := findClass_of_methodNamed Bd.named
  have hnm := (name_of_methodNamed Bd.named Bd.method).1
  have X0 : Stand pg l e ({ frames := 0, cells := 0, slots := 0, locals := 0 } : Room) s m #[(.ref a)] below meth c s₁ [] 0 0 := Stand.of_body Bd
  have e0 : s₁.heap = h0 := by rw [← hh, Bd.state]; rfl
  have N0 := Fr.nil n0
  show own_Go pg.tables e below (fun ou U' => ∃ v L, ou = .returned v ∧ Q20 Z a h0 n0 v U'.heap L ∧ FrameEnd s ou U' L ({ frames := 0, cells := 0, slots := 0, locals := 0 } : Room).cells ({ frames := 0, cells := 0, slots := 0, locals := 0 } : Room).slots) (s₁.setTop (entryFrame m #[(.ref a)] 1))
  refine own_go (S' := s₁.setTop (mkF m 0 #[.val (.ref a)] [])) (fun tg kk => castTop (ef20 m a) kk) ?_
  refine own_go (S' := s₁.setTop (mkF m 1 #[.val (.ref a)] [(.ref a)])) (fun tg kk => XS.aloadN X0.here hx rfl (hb hby d20_0) rfl rfl kk) ?_
  obtain ⟨T1, X1, e1, st1⟩ := getF X0 hx hZ hown (host := "") (Or.inl (hw _ (List.mem_of_getElem? (i := 42) rfl))) Via.refl e0 F_httpStatus (g := (mkF m 1 #[.val (.ref a)] [(.ref a)])) rfl rfl (hb hby d20_1)
  refine own_go (S' := T1.setTop (mkF m 4 #[.val (.ref a)] [.null])) (st1) ?_
  refine own_go (S' := T1.setTop (mkF m 47 #[.val (.ref a)] [])) (fun tg kk => XS.ifnullYes X1.here hx rfl (pc0 := 4) (pc' := 47) rfl (hb hby d20_4) rfl (by decide) (by decide) kk) ?_
  refine own_go (S' := T1.setTop (mkF m 48 #[.val (.ref a)] [(.int (1 : Int32))])) (fun tg kk => XT.iconstV X1.here hx rfl (1 : Int32) (hb hby d20_47) (by decide) kk) ?_
  refine own_go (S' := T1.setTop (mkF m 52 #[.val (.ref a)] [(.int (1 : Int32))])) (fun tg kk => XS.goto X1.here hx rfl (pc0 := 48) (pc' := 52) rfl (hb hby d20_48) (by decide) (by decide) kk) ?_
  obtain ⟨fs, hr, hrun, hended, hW, hsame⟩ := X1.leave (v := some (.int (1 : Int32))) (fun h => by rw [Bd.returns] at h; cases h)
  refine ⟨_, _, retN X1 hx (t := .boolean) Bd.returns (by simp) (hb hby d20_52) hr, hrun, hended, _, _, rfl, ?_, ⟨_, rfl⟩, hW, hsame.mono (by decide) (by decide)⟩
  show Q20 Z a h0 n0 (some (.int (1 : Int32))) T1.heap _
  rw [e1]
  exact ⟨rfl, N0, rfl⟩
theorem pd__IIII_Ljava_lang_String_ : parseMethodDescriptor "(IIII)Ljava/lang/String;" = some ⟨[.int, .int, .int, .int], some (.object "java/lang/String")⟩ := by decide +kernel
theorem pd__Ljava_lang_String__Lcom_example_periodic_jobs_periodicjobs_engine_DeliveryResult_ : parseMethodDescriptor "(Ljava/lang/String;)Lcom/example/periodic_jobs/periodicjobs/engine/DeliveryResult;" = some ⟨[.object "java/lang/String"], some (.object "com/example/periodic_jobs/periodicjobs/engine/DeliveryResult")⟩ := by decide +kernel
theorem pd___Ljava_util_Optional_ : parseMethodDescriptor "()Ljava/util/Optional;" = some ⟨[], some (.object "java/util/Optional")⟩ := by decide +kernel
theorem pd___Z : parseMethodDescriptor "()Z" = some ⟨[], some .boolean⟩ := by decide +kernel
theorem pd___Ljava_lang_Object_ : parseMethodDescriptor "()Ljava/lang/Object;" = some ⟨[], some (.object "java/lang/Object")⟩ := by decide +kernel
theorem pd__Ljava_lang_Object__Z : parseMethodDescriptor "(Ljava/lang/Object;)Z" = some ⟨[.object "java/lang/Object"], some .boolean⟩ := by decide +kernel
theorem ef0 (m : MethodId) (x0 : Int32) (x1 : Int32) (x2 : Int32) (x3 : Int32) : entryFrame m #[(.int x0), (.int x1), (.int x2), (.int x3)] maxLocals = mkF m 0 #[.val (.int x0), .val (.int x1), .val (.int x2), .val (.int x3), .unset, .unset, .unset, .unset, .unset, .unset] [] := by first | (simp [entryFrame, mkF, argsToLocals, Value.category, maxLocals]; done) | rfl
def Q0 (Z : State) (ln : Int32) (c0 : Int32) (c1 : Int32) (c2 : Int32) (cs : Int32) (em : Addr) (h0 : Heap) (n0 : Nat) (v : Option Value) (h : Heap) (L : List Loc) : Prop := v = some (.int 1) ∧ Fr n0 L
set_option maxRecDepth 65536 in
set_option maxHeartbeats 40000000 in
theorem rm0 (l : Launch) (Z : State) (a0 : Array Value) (hw : ∀ d ∈ tables_1, d.before a0 Z = true) (ws : List Jvm.Cond) (ln : Int32) (c0 : Int32) (c1 : Int32) (c2 : Int32) (cs : Int32) (em : Addr) (h0 : Heap) (n0 : Nat) (Z0 : n0 ≤ h0.size) (O0 : Old Z n0 h0) (S_CS : Sta Z Z.heap "java/lang/String" "COMPACT_STRINGS" "Z" (.int cs)) (hcs : ¬ cs = 0) (S_EM : Sta Z Z.heap "java/util/OptionalInt" "EMPTY" "Ljava/util/OptionalInt;" (.ref em)) (E_EM : Exa Z Z.heap em "java/util/OptionalInt") (F_EM : Fld Z Z.heap em "java/util/OptionalInt" "isPresent" "Z" (.int (0 : Int32))) :
    MetFree l x (head1 (Jvm.Cond.code x code maxLocals ret :: ws) room_1) (fun aa U => aa = #[(.int ln), (.int c0), (.int c1), (.int c2)] ∧ Z.Warmed39 U.vm ∧ U.heap = h0 ∧ CHv Z own_EL U.vm h0) (fun _ _ _ _ _ => True) (fun _ U ou U' => ∃ v L, ou = .returned v ∧ Q0 Z ln c0 c1 c2 cs em h0 n0 v U'.heap L ∧ CHr Z own_EL U.vm U.heap U'.vm U'.heap ∧ ReturnedEndW U ou U' L room_1.cells room_1.slots) := by
  refine MetFree.of_bodySF (plainFor_of_name pn_com_example_periodic_jobs_periodicjobs_engine_DeliveryResultFailedPinLaw) hisR ?_
  intro pg e s m args below meth c s₁ Bd hml0 hP hK
  obtain ⟨rfl, hZ, hh, hCH⟩ := hP
  have wS := own_wS hw
  have hEL := own_hEL hw
  have hx := Bd.exec
  have hby := Bd.bytes
  have hml : c.maxLocals = 10 := hml0
  have hown : s.vm.findClass "com/example/periodic_jobs/periodicjobs/engine/DeliveryResultFailedPinLaw" = some m.cls := findClass_of_methodNamed Bd.named
  have hnm := (name_of_methodNamed Bd.named Bd.method).1
  have X0 : Stand pg l e room_1 (s.setVm s.vm) m #[(.int ln), (.int c0), (.int c1), (.int c2)] below meth c s₁ [] 0 0 := Stand.of_body Bd
  have e0 : s₁.heap = h0 := by rw [← hh, Bd.state]; rfl
  have N0 := Fr.nil n0
  have hS0 : s.Since s.vm h0.size := (State.WarmedH.refl s).since _
  have hk0 : h0.size ≤ h0.size := Nat.le_refl _
  have CR0 : CHr Z own_EL s.vm h0 s.vm h0 := CHr.refl hCH
  show own_Go pg.tables e below (fun ou U' => ∃ v L, ou = .returned v ∧ Q0 Z ln c0 c1 c2 cs em h0 n0 v U'.heap L ∧ CHr Z own_EL s.vm s.heap U'.vm U'.heap ∧ ReturnedEndW s ou U' L room_1.cells room_1.slots) (s₁.setTop (entryFrame m #[(.int ln), (.int c0), (.int c1), (.int c2)] maxLocals))
  refine own_go (S' := s₁.setTop (mkF m 0 #[.val (.int ln), .val (.int c0), .val (.int c1), .val (.int c2), .unset, .unset, .unset, .unset, .unset, .unset] [])) (fun tg kk => castTop (ef0 m ln c0 c1 c2) kk) ?_
  refine own_go (S' := s₁.setTop (mkF m 1 #[.val (.int ln), .val (.int c0), .val (.int c1), .val (.int c2), .unset, .unset, .unset, .unset, .unset, .unset] [(.int ln)])) (fun tg kk => XS.iloadN X0.here hx rfl (hb hby at_0) rfl kk) ?_
  refine own_go (S' := s₁.setTop (mkF m 2 #[.val (.int ln), .val (.int c0), .val (.int c1), .val (.int c2), .unset, .unset, .unset, .unset, .unset, .unset] [(.int c0), (.int ln)])) (fun tg kk => XS.iloadN X0.here hx rfl (hb hby at_1) rfl kk) ?_
  refine own_go (S' := s₁.setTop (mkF m 3 #[.val (.int ln), .val (.int c0), .val (.int c1), .val (.int c2), .unset, .unset, .unset, .unset, .unset, .unset] [(.int c1), (.int c0), (.int ln)])) (fun tg kk => XS.iloadN X0.here hx rfl (hb hby at_2) rfl kk) ?_
  refine own_go (S' := s₁.setTop (mkF m 4 #[.val (.int ln), .val (.int c0), .val (.int c1), .val (.int c2), .unset, .unset, .unset, .unset, .unset, .unset] [(.int c2), (.int c1), (.int c0), (.int ln)])) (fun tg kk => XS.iloadN X0.here hx rfl (hb hby at_3) rfl kk) ?_
  obtain ⟨v1, _, ⟨T1, L1, k1, n1⟩, -, Y1, hT1, gr1, ⟨Lc1, hQ1, l1, y1, z1, CH1⟩, st1⟩ := callSS X0 hx (y := (⟨"com/example/periodic_jobs/periodicjobs/engine/DeliveryResultFailedPinLaw", "draw", "(IIII)Ljava/lang/String;"⟩ : MethodName)) hown (mvT hZ (hw _ (List.mem_of_getElem? (i := 0) rfl))) (mvT hZ (hw _ (List.mem_of_getElem? (i := 1) rfl))) (mvT hZ (hw _ (List.mem_of_getElem? (i := 2) rfl))) (mvT hZ (hw _ (List.mem_of_getElem? (i := 3) rfl))) (by decide) (backOfSH (W := 0) (rm1 l Z a0 hw [] ln c0 c1 c2 cs h0 n0 Z0 O0 S_CS hcs) hZ (hw _ (List.mem_of_getElem? (i := 3) rfl)) (hw _ (List.mem_of_getElem? (i := 2) rfl)) (by decide) (by decide) hEL CR0.1) (g := (mkF m 4 #[.val (.int ln), .val (.int c0), .val (.int c1), .val (.int c2), .unset, .unset, .unset, .unset, .unset, .unset] [(.int c2), (.int c1), (.int c0), (.int ln)])) rfl (by rw [hml]; rfl) (argsL := [(.int ln), (.int c0), (.int c1), (.int c2)]) (rest := []) (lenOf pd__IIII_Ljava_lang_String_ rfl) rfl (by show 2 * 0 + _ ≤ _; exact Nat.le_of_eq rfl) (hb hby at_4) (fun _ _ => ⟨rfl, e0, (by decide : 0 + 6 ≤ _), (by decide : 0 + 12 ≤ _)⟩)
  dsimp only [Pt.U, Pt.locs, Pt.cells, Pt.slots] at Y1 l1 y1 z1 st1 hQ1 hT1 gr1 CH1
  subst l1 y1 z1
  obtain ⟨X1, hS1, hZ1, ho1⟩ := rebS hS0 (Nat.le_trans hk0 (Nat.le_of_eq (congrArg Array.size e0.symm))) Y1 hT1 gr1 hZ hown
  obtain ⟨b1, rfl, M2, K1, G1_0⟩ := hQ1
  have N2 := Fr.app N0 M2
  obtain ⟨h1, e1⟩ : ∃ z, T1.heap = z := ⟨_, rfl⟩
  rw [e1] at K1 CH1 G1_0
  have hk1 : T1.heap.size ≤ h1.size := by rw [e1]; exact Nat.le_refl _
  have CR3 := CR0.trans CH1
  have O4 : Old Z n0 h1 := O0.keep K1 all0
  have Z5 : n0 ≤ h1.size := Nat.le_trans Z0 K1.1
  refine own_to (S' := T1.setTop (mkF m 7 #[.val (.int ln), .val (.int c0), .val (.int c1), .val (.int c2), .unset, .unset, .unset, .unset, .unset, .unset] [(.ref b1)])) st1 ?_
  refine own_go (S' := T1.setTop (mkF m 9 #[.val (.int ln), .val (.int c0), .val (.int c1), .val (.int c2), .val (.ref b1), .unset, .unset, .unset, .unset, .unset] [])) (fun tg kk => XS.astore X1.here hx rfl (hb hby at_7) rfl rfl (l' := #[.val (.int ln), .val (.int c0), .val (.int c1), .val (.int c2), .val (.ref b1), .unset, .unset, .unset, .unset, .unset]) rfl kk) ?_
  refine own_go (S' := T1.setTop (mkF m 11 #[.val (.int ln), .val (.int c0), .val (.int c1), .val (.int c2), .val (.ref b1), .unset, .unset, .unset, .unset, .unset] [(.ref b1)])) (fun tg kk => XS.aload X1.here hx rfl (hb hby at_9) rfl rfl kk) ?_
  obtain ⟨v6, _, ⟨T6, L6, k6, n6⟩, -, Y6, hT6, gr6, ⟨Lc6, hQ6, l6, y6, z6, CH6⟩, st6⟩ := callSS X1 hx (y := (⟨"com/example/periodic_jobs/periodicjobs/engine/DeliveryResult", "failed", "(Ljava/lang/String;)Lcom/example/periodic_jobs/periodicjobs/engine/DeliveryResult;"⟩ : MethodName)) ho1 (mvT hZ1 (hw _ (List.mem_of_getElem? (i := 26) rfl))) (mvT hZ1 (hw _ (List.mem_of_getElem? (i := 27) rfl))) (mvT hZ1 (hw _ (List.mem_of_getElem? (i := 28) rfl))) (mvT hZ1 (hw _ (List.mem_of_getElem? (i := 29) rfl))) (by decide) (backOfSH (W := 0) (rm5 l Z a0 hw [] b1 h1 n0 Z5 G1_0) hZ1 (hw _ (List.mem_of_getElem? (i := 29) rfl)) (hw _ (List.mem_of_getElem? (i := 28) rfl)) (by decide) (by decide) hEL CR3.1) (g := (mkF m 11 #[.val (.int ln), .val (.int c0), .val (.int c1), .val (.int c2), .val (.ref b1), .unset, .unset, .unset, .unset, .unset] [(.ref b1)])) rfl (by rw [hml]; rfl) (argsL := [(.ref b1)]) (rest := []) (lenOf pd__Ljava_lang_String__Lcom_example_periodic_jobs_periodicjobs_engine_DeliveryResult_ rfl) rfl (by show 2 * 0 + _ ≤ _; exact Nat.le_of_eq rfl) (hb hby at_11) (fun _ _ => ⟨rfl, e1, (by decide : 6 + 3 ≤ _), (by decide : 12 + 27 ≤ _)⟩)
  dsimp only [Pt.U, Pt.locs, Pt.cells, Pt.slots] at Y6 l6 y6 z6 st6 hQ6 hT6 gr6 CH6
  subst l6 y6 z6
  obtain ⟨X6, hS6, hZ6, ho6⟩ := rebS hS1 (Nat.le_trans hk1 (Nat.le_of_eq (congrArg Array.size e1.symm))) Y6 hT6 gr6 hZ1 ho1
  obtain ⟨b6, rfl, M7, K6, G6_0, G6_1, G6_2, G6_3⟩ := hQ6
  have N7 := Fr.app N2 M7
  obtain ⟨h6, e6⟩ : ∃ z, T6.heap = z := ⟨_, rfl⟩
  rw [e6] at K6 CH6 G6_0 G6_1 G6_2 G6_3
  have hk6 : T6.heap.size ≤ h6.size := by rw [e6]; exact Nat.le_refl _
  have CR8 := CR3.trans CH6
  have E9 : Exa Z h6 b1 "java/lang/String" := G1_0.keep K6
  have O10 : Old Z n0 h6 := O4.keep K6 all0
  have Z11 : n0 ≤ h6.size := Nat.le_trans Z5 K6.1
  refine own_to (S' := T6.setTop (mkF m 14 #[.val (.int ln), .val (.int c0), .val (.int c1), .val (.int c2), .val (.ref b1), .unset, .unset, .unset, .unset, .unset] [(.ref b6)])) st6 ?_
  refine own_go (S' := T6.setTop (mkF m 16 #[.val (.int ln), .val (.int c0), .val (.int c1), .val (.int c2), .val (.ref b1), .val (.ref b6), .unset, .unset, .unset, .unset] [])) (fun tg kk => XS.astore X6.here hx rfl (hb hby at_14) rfl rfl (l' := #[.val (.int ln), .val (.int c0), .val (.int c1), .val (.int c2), .val (.ref b1), .val (.ref b6), .unset, .unset, .unset, .unset]) rfl kk) ?_
  refine own_go (S' := T6.setTop (mkF m 18 #[.val (.int ln), .val (.int c0), .val (.int c1), .val (.int c2), .val (.ref b1), .val (.ref b6), .unset, .unset, .unset, .unset] [(.ref b6)])) (fun tg kk => XS.aload X6.here hx rfl (hb hby at_16) rfl rfl kk) ?_
  obtain ⟨cq12, kq12, qa12, qb12, qc12⟩ := isOf hZ6 e6 G6_0
  obtain ⟨v12, _, ⟨T12, L12, k12, n12⟩, -, X12, ⟨Lc12, hQ12, l12, y12, z12⟩, st12⟩ := X6.virtualBack hx (y := (⟨"com/example/periodic_jobs/periodicjobs/engine/DeliveryResult", "getError", "()Ljava/util/Optional;"⟩ : MethodName)) (z := (⟨"com/example/periodic_jobs/periodicjobs/engine/DeliveryResult", "getError", "()Ljava/util/Optional;"⟩ : MethodName)) ho6 (mvT hZ6 (hw _ (List.mem_of_getElem? (i := 48) rfl))) (mvT hZ6 (hw _ (List.mem_of_getElem? (i := 49) rfl))) (notFace_of_selects (args := #[]) (mvT hZ6 (hw _ (List.mem_of_getElem? (i := 51) rfl)))) (mvT hZ6 (hw _ (List.mem_of_getElem? (i := 51) rfl))) (mvT hZ6 (hw _ (List.mem_of_getElem? (i := 50) rfl))) (by decide) (backOf (W := 0) (rm8 l Z a0 hw [] b6 b1 h6 n0 Z11 G6_3) hZ6 (hw _ (List.mem_of_getElem? (i := 52) rfl)) (hw _ (List.mem_of_getElem? (i := 28) rfl)) (by decide) (by decide)) qa12 qc12 (g := (mkF m 18 #[.val (.int ln), .val (.int c0), .val (.int c1), .val (.int c2), .val (.ref b1), .val (.ref b6), .unset, .unset, .unset, .unset] [(.ref b6)])) rfl (by rw [hml]; rfl) (Steps.refl _) (argsL := []) (rest := []) (lenOf pd___Ljava_util_Optional_ rfl) rfl (by show 2 * 0 + _ ≤ _; exact Nat.le_of_eq rfl) (hb hby at_18) (fun _ _ => ⟨rfl, e6, (by decide : 9 + 1 ≤ _), (by decide : 39 + 1 ≤ _)⟩)
  dsimp only [Pt.U, Pt.locs, Pt.cells, Pt.slots] at X12 l12 y12 z12 st12 hQ12
  subst l12 y12 z12
  obtain ⟨b12, rfl, M13, K12, G12_0, G12_1⟩ := hQ12
  have N13 := Fr.app N7 M13
  obtain ⟨h12, e12⟩ : ∃ z, T12.heap = z := ⟨_, rfl⟩
  rw [e12] at K12 G12_0 G12_1
  have CR14 := CR8.trans (CHr.keep K12 sf0 CR8.1)
  have hk14 := Nat.le_trans hk6 K12.1
  have F15 := G6_1.keep K12 nin0
  have F16 := G6_2.keep K12 nin0
  have F17 := G6_3.keep K12 nin0
  have E18 : Exa Z h12 b1 "java/lang/String" := E9.keep K12
  have E19 : Exa Z h12 b6 "com/example/periodic_jobs/periodicjobs/engine/DeliveryResult" := G6_0.keep K12
  have O20 : Old Z n0 h12 := O10.keep K12 all0
  have Z21 : n0 ≤ h12.size := Nat.le_trans Z11 K12.1
  refine own_to (S' := T12.setTop (mkF m 21 #[.val (.int ln), .val (.int c0), .val (.int c1), .val (.int c2), .val (.ref b1), .val (.ref b6), .unset, .unset, .unset, .unset] [(.ref b12)])) st12 ?_
  refine own_go (S' := T12.setTop (mkF m 23 #[.val (.int ln), .val (.int c0), .val (.int c1), .val (.int c2), .val (.ref b1), .val (.ref b6), .val (.ref b12), .unset, .unset, .unset] [])) (fun tg kk => XS.astore X12.here hx rfl (hb hby at_21) rfl rfl (l' := #[.val (.int ln), .val (.int c0), .val (.int c1), .val (.int c2), .val (.ref b1), .val (.ref b6), .val (.ref b12), .unset, .unset, .unset]) rfl kk) ?_
  refine own_go (S' := T12.setTop (mkF m 25 #[.val (.int ln), .val (.int c0), .val (.int c1), .val (.int c2), .val (.ref b1), .val (.ref b6), .val (.ref b12), .unset, .unset, .unset] [(.ref b12)])) (fun tg kk => XS.aload X12.here hx rfl (hb hby at_23) rfl rfl kk) ?_
  obtain ⟨cq22, kq22, qa22, qb22, qc22⟩ := isOf hZ6 e12 G12_0
  obtain ⟨v22, _, ⟨T22, L22, k22, n22⟩, -, X22, ⟨Lc22, hQ22, l22, y22, z22⟩, st22⟩ := X12.virtualBack hx (y := (⟨"java/util/Optional", "isPresent", "()Z"⟩ : MethodName)) (z := (⟨"java/util/Optional", "isPresent", "()Z"⟩ : MethodName)) ho6 (mvT hZ6 (hw _ (List.mem_of_getElem? (i := 66) rfl))) (mvT hZ6 (hw _ (List.mem_of_getElem? (i := 67) rfl))) (notFace_of_selects (args := #[]) (mvT hZ6 (hw _ (List.mem_of_getElem? (i := 69) rfl)))) (mvT hZ6 (hw _ (List.mem_of_getElem? (i := 69) rfl))) (mvT hZ6 (hw _ (List.mem_of_getElem? (i := 68) rfl))) (by decide) (backOf (W := 0) (rm11 l Z a0 hw [] b12 b1 h12 n0 Z21 G12_1) hZ6 (hw _ (List.mem_of_getElem? (i := 70) rfl)) (hw _ (List.mem_of_getElem? (i := 55) rfl)) (by decide) (by decide)) qa22 qc22 (g := (mkF m 25 #[.val (.int ln), .val (.int c0), .val (.int c1), .val (.int c2), .val (.ref b1), .val (.ref b6), .val (.ref b12), .unset, .unset, .unset] [(.ref b12)])) rfl (by rw [hml]; rfl) (Steps.refl _) (argsL := []) (rest := []) (lenOf pd___Z rfl) rfl (by show 2 * 0 + _ ≤ _; exact Nat.le_of_eq rfl) (hb hby at_25) (fun _ _ => ⟨rfl, e12, (by decide : 10 + 0 ≤ _), (by decide : 40 + 0 ≤ _)⟩)
  dsimp only [Pt.U, Pt.locs, Pt.cells, Pt.slots] at X22 l22 y22 z22 st22 hQ22
  subst l22 y22 z22
  obtain ⟨rfl, M23, e22⟩ := hQ22
  have N23 := Fr.app N13 M23
  refine own_to (S' := T22.setTop (mkF m 28 #[.val (.int ln), .val (.int c0), .val (.int c1), .val (.int c2), .val (.ref b1), .val (.ref b6), .val (.ref b12), .unset, .unset, .unset] [(.int (1 : Int32))])) st22 ?_
  refine own_go (S' := T22.setTop (mkF m 31 #[.val (.int ln), .val (.int c0), .val (.int c1), .val (.int c2), .val (.ref b1), .val (.ref b6), .val (.ref b12), .unset, .unset, .unset] [])) (fun tg kk => XS.ifNo X22.here hx rfl (hb hby at_28) rfl (XT.i0_eq_f (by decide)) kk) ?_
  refine own_go (S' := T22.setTop (mkF m 33 #[.val (.int ln), .val (.int c0), .val (.int c1), .val (.int c2), .val (.ref b1), .val (.ref b6), .val (.ref b12), .unset, .unset, .unset] [(.ref b12)])) (fun tg kk => XS.aload X22.here hx rfl (hb hby at_31) rfl rfl kk) ?_
  obtain ⟨cq24, kq24, qa24, qb24, qc24⟩ := isOf hZ6 e22 G12_0
  obtain ⟨v24, _, ⟨T24, L24, k24, n24⟩, -, X24, ⟨Lc24, hQ24, l24, y24, z24⟩, st24⟩ := X22.virtualBack hx (y := (⟨"java/util/Optional", "get", "()Ljava/lang/Object;"⟩ : MethodName)) (z := (⟨"java/util/Optional", "get", "()Ljava/lang/Object;"⟩ : MethodName)) ho6 (mvT hZ6 (hw _ (List.mem_of_getElem? (i := 71) rfl))) (mvT hZ6 (hw _ (List.mem_of_getElem? (i := 72) rfl))) (notFace_of_selects (args := #[]) (mvT hZ6 (hw _ (List.mem_of_getElem? (i := 74) rfl)))) (mvT hZ6 (hw _ (List.mem_of_getElem? (i := 74) rfl))) (mvT hZ6 (hw _ (List.mem_of_getElem? (i := 73) rfl))) (by decide) (backOf (W := 0) (rm12 l Z a0 hw [] b12 b1 h12 n0 Z21 G12_1) hZ6 (hw _ (List.mem_of_getElem? (i := 75) rfl)) (hw _ (List.mem_of_getElem? (i := 55) rfl)) (by decide) (by decide)) qa24 qc24 (g := (mkF m 33 #[.val (.int ln), .val (.int c0), .val (.int c1), .val (.int c2), .val (.ref b1), .val (.ref b6), .val (.ref b12), .unset, .unset, .unset] [(.ref b12)])) rfl (by rw [hml]; rfl) (Steps.refl _) (argsL := []) (rest := []) (lenOf pd___Ljava_lang_Object_ rfl) rfl (by show 2 * 0 + _ ≤ _; exact Nat.le_of_eq rfl) (hb hby at_33) (fun _ _ => ⟨rfl, e22, (by decide : 10 + 0 ≤ _), (by decide : 40 + 0 ≤ _)⟩)
  dsimp only [Pt.U, Pt.locs, Pt.cells, Pt.slots] at X24 l24 y24 z24 st24 hQ24
  subst l24 y24 z24
  obtain ⟨rfl, M25, e24⟩ := hQ24
  have N25 := Fr.app N23 M25
  refine own_to (S' := T24.setTop (mkF m 36 #[.val (.int ln), .val (.int c0), .val (.int c1), .val (.int c2), .val (.ref b1), .val (.ref b6), .val (.ref b12), .unset, .unset, .unset] [(.ref b1)])) st24 ?_
  obtain ⟨T26, X26, e26, st26⟩ := castY X24 hx hZ6 ho6 (hw _ (List.mem_of_getElem? (i := 4) rfl)) e24 (Ins.self E18) (g := (mkF m 36 #[.val (.int ln), .val (.int c0), .val (.int c1), .val (.int c2), .val (.ref b1), .val (.ref b6), .val (.ref b12), .unset, .unset, .unset] [(.ref b1)])) rfl rfl (hb hby at_36)
  refine own_go (S' := T26.setTop (mkF m 39 #[.val (.int ln), .val (.int c0), .val (.int c1), .val (.int c2), .val (.ref b1), .val (.ref b6), .val (.ref b12), .unset, .unset, .unset] [(.ref b1)])) (st26) ?_
  refine own_go (S' := T26.setTop (mkF m 41 #[.val (.int ln), .val (.int c0), .val (.int c1), .val (.int c2), .val (.ref b1), .val (.ref b6), .val (.ref b12), .unset, .unset, .unset] [(.ref b1), (.ref b1)])) (fun tg kk => XS.aload X26.here hx rfl (hb hby at_39) rfl rfl kk) ?_
  obtain ⟨cq27, kq27, qa27, qb27, qc27⟩ := isOf hZ6 e26 E18
  obtain ⟨v27, _, ⟨T27, L27, k27, n27⟩, -, X27, ⟨Lc27, hQ27, l27, y27, z27⟩, st27⟩ := X26.virtualBack hx (y := (⟨"java/lang/String", "equals", "(Ljava/lang/Object;)Z"⟩ : MethodName)) (z := (⟨"java/lang/String", "equals", "(Ljava/lang/Object;)Z"⟩ : MethodName)) ho6 (mvT hZ6 (hw _ (List.mem_of_getElem? (i := 76) rfl))) (mvT hZ6 (hw _ (List.mem_of_getElem? (i := 77) rfl))) (notFace_of_selects (args := #[]) (mvT hZ6 (hw _ (List.mem_of_getElem? (i := 79) rfl)))) (mvT hZ6 (hw _ (List.mem_of_getElem? (i := 79) rfl))) (mvT hZ6 (hw _ (List.mem_of_getElem? (i := 78) rfl))) (by decide) (backOf (W := 0) (rm13 l Z a0 hw [] b1 h12 n0 Z21) hZ6 (hw _ (List.mem_of_getElem? (i := 80) rfl)) (hw _ (List.mem_of_getElem? (i := 6) rfl)) (by decide) (by decide)) qa27 qc27 (g := (mkF m 41 #[.val (.int ln), .val (.int c0), .val (.int c1), .val (.int c2), .val (.ref b1), .val (.ref b6), .val (.ref b12), .unset, .unset, .unset] [(.ref b1), (.ref b1)])) rfl (by rw [hml]; rfl) (Steps.refl _) (argsL := [(.ref b1)]) (rest := []) (lenOf pd__Ljava_lang_Object__Z rfl) rfl (by show 2 * 0 + _ ≤ _; exact Nat.le_of_eq rfl) (hb hby at_41) (fun _ _ => ⟨rfl, e26, (by decide : 10 + 0 ≤ _), (by decide : 40 + 0 ≤ _)⟩)
  dsimp only [Pt.U, Pt.locs, Pt.cells, Pt.slots] at X27 l27 y27 z27 st27 hQ27
  subst l27 y27 z27
  obtain ⟨rfl, M28, e27⟩ := hQ27
  have N28 := Fr.app N25 M28
  refine own_to (S' := T27.setTop (mkF m 44 #[.val (.int ln), .val (.int c0), .val (.int c1), .val (.int c2), .val (.ref b1), .val (.ref b6), .val (.ref b12), .unset, .unset, .unset] [(.int (1 : Int32))])) st27 ?_
  refine own_go (S' := T27.setTop (mkF m 47 #[.val (.int ln), .val (.int c0), .val (.int c1), .val (.int c2), .val (.ref b1), .val (.ref b6), .val (.ref b12), .unset, .unset, .unset] [])) (fun tg kk => XS.ifNo X27.here hx rfl (hb hby at_44) rfl (XT.i0_eq_f (by decide)) kk) ?_
  refine own_go (S' := T27.setTop (mkF m 49 #[.val (.int ln), .val (.int c0), .val (.int c1), .val (.int c2), .val (.ref b1), .val (.ref b6), .val (.ref b12), .unset, .unset, .unset] [(.ref b1)])) (fun tg kk => XS.aload X27.here hx rfl (hb hby at_47) rfl rfl kk) ?_
  refine own_go (S' := T27.setTop (mkF m 51 #[.val (.int ln), .val (.int c0), .val (.int c1), .val (.int c2), .val (.ref b1), .val (.ref b6), .val (.ref b12), .unset, .unset, .unset] [(.ref b12), (.ref b1)])) (fun tg kk => XS.aload X27.here hx rfl (hb hby at_49) rfl rfl kk) ?_
  obtain ⟨cq29, kq29, qa29, qb29, qc29⟩ := isOf hZ6 e27 G12_0
  obtain ⟨v29, _, ⟨T29, L29, k29, n29⟩, -, X29, ⟨Lc29, hQ29, l29, y29, z29⟩, st29⟩ := X27.virtualBack hx (y := (⟨"java/util/Optional", "get", "()Ljava/lang/Object;"⟩ : MethodName)) (z := (⟨"java/util/Optional", "get", "()Ljava/lang/Object;"⟩ : MethodName)) ho6 (mvT hZ6 (hw _ (List.mem_of_getElem? (i := 71) rfl))) (mvT hZ6 (hw _ (List.mem_of_getElem? (i := 72) rfl))) (notFace_of_selects (args := #[]) (mvT hZ6 (hw _ (List.mem_of_getElem? (i := 74) rfl)))) (mvT hZ6 (hw _ (List.mem_of_getElem? (i := 74) rfl))) (mvT hZ6 (hw _ (List.mem_of_getElem? (i := 73) rfl))) (by decide) (backOf (W := 1) (rm12 l Z a0 hw [] b12 b1 h12 n0 Z21 G12_1) hZ6 (hw _ (List.mem_of_getElem? (i := 75) rfl)) (hw _ (List.mem_of_getElem? (i := 55) rfl)) (by decide) (by decide)) qa29 qc29 (g := (mkF m 51 #[.val (.int ln), .val (.int c0), .val (.int c1), .val (.int c2), .val (.ref b1), .val (.ref b6), .val (.ref b12), .unset, .unset, .unset] [(.ref b12), (.ref b1)])) rfl (by rw [hml]; rfl) (Steps.refl _) (argsL := []) (rest := [(.ref b1)]) (lenOf pd___Ljava_lang_Object_ rfl) rfl (by show 2 * 0 + _ ≤ _; exact Nat.le_of_eq rfl) (hb hby at_51) (fun _ _ => ⟨rfl, e27, (by decide : 10 + 0 ≤ _), (by decide : 40 + 0 ≤ _)⟩)
  dsimp only [Pt.U, Pt.locs, Pt.cells, Pt.slots] at X29 l29 y29 z29 st29 hQ29
  subst l29 y29 z29
  obtain ⟨rfl, M30, e29⟩ := hQ29
  have N30 := Fr.app N28 M30
  refine own_to (S' := T29.setTop (mkF m 54 #[.val (.int ln), .val (.int c0), .val (.int c1), .val (.int c2), .val (.ref b1), .val (.ref b6), .val (.ref b12), .unset, .unset, .unset] [(.ref b1), (.ref b1)])) st29 ?_
  obtain ⟨cq31, kq31, qa31, qb31, qc31⟩ := isOf hZ6 e29 E18
  obtain ⟨v31, _, ⟨T31, L31, k31, n31⟩, -, X31, ⟨Lc31, hQ31, l31, y31, z31⟩, st31⟩ := X29.virtualBack hx (y := (⟨"java/lang/String", "equals", "(Ljava/lang/Object;)Z"⟩ : MethodName)) (z := (⟨"java/lang/String", "equals", "(Ljava/lang/Object;)Z"⟩ : MethodName)) ho6 (mvT hZ6 (hw _ (List.mem_of_getElem? (i := 76) rfl))) (mvT hZ6 (hw _ (List.mem_of_getElem? (i := 77) rfl))) (notFace_of_selects (args := #[]) (mvT hZ6 (hw _ (List.mem_of_getElem? (i := 79) rfl)))) (mvT hZ6 (hw _ (List.mem_of_getElem? (i := 79) rfl))) (mvT hZ6 (hw _ (List.mem_of_getElem? (i := 78) rfl))) (by decide) (backOf (W := 0) (rm13 l Z a0 hw [] b1 h12 n0 Z21) hZ6 (hw _ (List.mem_of_getElem? (i := 80) rfl)) (hw _ (List.mem_of_getElem? (i := 6) rfl)) (by decide) (by decide)) qa31 qc31 (g := (mkF m 54 #[.val (.int ln), .val (.int c0), .val (.int c1), .val (.int c2), .val (.ref b1), .val (.ref b6), .val (.ref b12), .unset, .unset, .unset] [(.ref b1), (.ref b1)])) rfl (by rw [hml]; rfl) (Steps.refl _) (argsL := [(.ref b1)]) (rest := []) (lenOf pd__Ljava_lang_Object__Z rfl) rfl (by show 2 * 0 + _ ≤ _; exact Nat.le_of_eq rfl) (hb hby at_54) (fun _ _ => ⟨rfl, e29, (by decide : 10 + 0 ≤ _), (by decide : 40 + 0 ≤ _)⟩)
  dsimp only [Pt.U, Pt.locs, Pt.cells, Pt.slots] at X31 l31 y31 z31 st31 hQ31
  subst l31 y31 z31
  obtain ⟨rfl, M32, e31⟩ := hQ31
  have N32 := Fr.app N30 M32
  refine own_to (S' := T31.setTop (mkF m 57 #[.val (.int ln), .val (.int c0), .val (.int c1), .val (.int c2), .val (.ref b1), .val (.ref b6), .val (.ref b12), .unset, .unset, .unset] [(.int (1 : Int32))])) st31 ?_
  refine own_go (S' := T31.setTop (mkF m 60 #[.val (.int ln), .val (.int c0), .val (.int c1), .val (.int c2), .val (.ref b1), .val (.ref b6), .val (.ref b12), .unset, .unset, .unset] [])) (fun tg kk => XS.ifNo X31.here hx rfl (hb hby at_57) rfl (XT.i0_eq_f (by decide)) kk) ?_
  refine own_go (S' := T31.setTop (mkF m 61 #[.val (.int ln), .val (.int c0), .val (.int c1), .val (.int c2), .val (.ref b1), .val (.ref b6), .val (.ref b12), .unset, .unset, .unset] [(.int (1 : Int32))])) (fun tg kk => XT.iconstV X31.here hx rfl (1 : Int32) (hb hby at_60) (by decide) kk) ?_
  refine own_go (S' := T31.setTop (mkF m 65 #[.val (.int ln), .val (.int c0), .val (.int c1), .val (.int c2), .val (.ref b1), .val (.ref b6), .val (.ref b12), .unset, .unset, .unset] [(.int (1 : Int32))])) (fun tg kk => XS.goto X31.here hx rfl (pc0 := 61) (pc' := 65) rfl (hb hby at_61) (by decide) (by decide) kk) ?_
  refine own_go (S' := T31.setTop (mkF m 67 #[.val (.int ln), .val (.int c0), .val (.int c1), .val (.int c2), .val (.ref b1), .val (.ref b6), .val (.ref b12), .val (.int (1 : Int32)), .unset, .unset] [])) (fun tg kk => XS.istore X31.here hx rfl (hb hby at_65) rfl (l' := #[.val (.int ln), .val (.int c0), .val (.int c1), .val (.int c2), .val (.ref b1), .val (.ref b6), .val (.ref b12), .val (.int (1 : Int32)), .unset, .unset]) rfl kk) ?_
  refine own_go (S' := T31.setTop (mkF m 69 #[.val (.int ln), .val (.int c0), .val (.int c1), .val (.int c2), .val (.ref b1), .val (.ref b6), .val (.ref b12), .val (.int (1 : Int32)), .unset, .unset] [(.ref b6)])) (fun tg kk => XS.aload X31.here hx rfl (hb hby at_67) rfl rfl kk) ?_
  obtain ⟨cq33, kq33, qa33, qb33, qc33⟩ := isOf hZ6 e31 E19
  obtain ⟨v33, _, ⟨T33, L33, k33, n33⟩, -, X33, ⟨Lc33, hQ33, l33, y33, z33⟩, st33⟩ := X31.virtualBack hx (y := (⟨"com/example/periodic_jobs/periodicjobs/engine/DeliveryResult", "getHttpStatus", "()Ljava/util/OptionalInt;"⟩ : MethodName)) (z := (⟨"com/example/periodic_jobs/periodicjobs/engine/DeliveryResult", "getHttpStatus", "()Ljava/util/OptionalInt;"⟩ : MethodName)) ho6 (mvT hZ6 (hw _ (List.mem_of_getElem? (i := 81) rfl))) (mvT hZ6 (hw _ (List.mem_of_getElem? (i := 82) rfl))) (notFace_of_selects (args := #[]) (mvT hZ6 (hw _ (List.mem_of_getElem? (i := 84) rfl)))) (mvT hZ6 (hw _ (List.mem_of_getElem? (i := 84) rfl))) (mvT hZ6 (hw _ (List.mem_of_getElem? (i := 83) rfl))) (by decide) (backOf (W := 0) (rm14 l Z a0 hw [] b6 em h12 n0 Z21 O20 F15 S_EM) hZ6 (hw _ (List.mem_of_getElem? (i := 85) rfl)) (hw _ (List.mem_of_getElem? (i := 28) rfl)) (by decide) (by decide)) qa33 qc33 (g := (mkF m 69 #[.val (.int ln), .val (.int c0), .val (.int c1), .val (.int c2), .val (.ref b1), .val (.ref b6), .val (.ref b12), .val (.int (1 : Int32)), .unset, .unset] [(.ref b6)])) rfl (by rw [hml]; rfl) (Steps.refl _) (argsL := []) (rest := []) (lenOf pd___Ljava_util_OptionalInt_ rfl) rfl (by show 2 * 0 + _ ≤ _; exact Nat.le_of_eq rfl) (hb hby at_69) (fun _ _ => ⟨rfl, e31, (by decide : 10 + 0 ≤ _), (by decide : 40 + 0 ≤ _)⟩)
  dsimp only [Pt.U, Pt.locs, Pt.cells, Pt.slots] at X33 l33 y33 z33 st33 hQ33
  subst l33 y33 z33
  obtain ⟨rfl, M34, e33⟩ := hQ33
  have N34 := Fr.app N32 M34
  refine own_to (S' := T33.setTop (mkF m 72 #[.val (.int ln), .val (.int c0), .val (.int c1), .val (.int c2), .val (.ref b1), .val (.ref b6), .val (.ref b12), .val (.int (1 : Int32)), .unset, .unset] [(.ref em)])) st33 ?_
  refine own_go (S' := T33.setTop (mkF m 74 #[.val (.int ln), .val (.int c0), .val (.int c1), .val (.int c2), .val (.ref b1), .val (.ref b6), .val (.ref b12), .val (.int (1 : Int32)), .val (.ref em), .unset] [])) (fun tg kk => XS.astore X33.here hx rfl (hb hby at_72) rfl rfl (l' := #[.val (.int ln), .val (.int c0), .val (.int c1), .val (.int c2), .val (.ref b1), .val (.ref b6), .val (.ref b12), .val (.int (1 : Int32)), .val (.ref em), .unset]) rfl kk) ?_
  refine own_go (S' := T33.setTop (mkF m 76 #[.val (.int ln), .val (.int c0), .val (.int c1), .val (.int c2), .val (.ref b1), .val (.ref b6), .val (.ref b12), .val (.int (1 : Int32)), .val (.ref em), .unset] [(.ref em)])) (fun tg kk => XS.aload X33.here hx rfl (hb hby at_74) rfl rfl kk) ?_
  obtain ⟨cq35, kq35, qa35, qb35, qc35⟩ := isOf hZ6 e33 (E_EM.ext O20.2)
  obtain ⟨v35, _, ⟨T35, L35, k35, n35⟩, -, X35, ⟨Lc35, hQ35, l35, y35, z35⟩, st35⟩ := X33.virtualBack hx (y := (⟨"java/util/OptionalInt", "isPresent", "()Z"⟩ : MethodName)) (z := (⟨"java/util/OptionalInt", "isPresent", "()Z"⟩ : MethodName)) ho6 (mvT hZ6 (hw _ (List.mem_of_getElem? (i := 91) rfl))) (mvT hZ6 (hw _ (List.mem_of_getElem? (i := 92) rfl))) (notFace_of_selects (args := #[]) (mvT hZ6 (hw _ (List.mem_of_getElem? (i := 94) rfl)))) (mvT hZ6 (hw _ (List.mem_of_getElem? (i := 94) rfl))) (mvT hZ6 (hw _ (List.mem_of_getElem? (i := 93) rfl))) (by decide) (backOf (W := 0) (rm16 l Z a0 hw [] em h12 n0 Z21 O20 F_EM) hZ6 (hw _ (List.mem_of_getElem? (i := 95) rfl)) (hw _ (List.mem_of_getElem? (i := 88) rfl)) (by decide) (by decide)) qa35 qc35 (g := (mkF m 76 #[.val (.int ln), .val (.int c0), .val (.int c1), .val (.int c2), .val (.ref b1), .val (.ref b6), .val (.ref b12), .val (.int (1 : Int32)), .val (.ref em), .unset] [(.ref em)])) rfl (by rw [hml]; rfl) (Steps.refl _) (argsL := []) (rest := []) (lenOf pd___Z rfl) rfl (by show 2 * 0 + _ ≤ _; exact Nat.le_of_eq rfl) (hb hby at_76) (fun _ _ => ⟨rfl, e33, (by decide : 10 + 0 ≤ _), (by decide : 40 + 0 ≤ _)⟩)
  dsimp only [Pt.U, Pt.locs, Pt.cells, Pt.slots] at X35 l35 y35 z35 st35 hQ35
  subst l35 y35 z35
  obtain ⟨rfl, M36, e35⟩ := hQ35
  have N36 := Fr.app N34 M36
  refine own_to (S' := T35.setTop (mkF m 79 #[.val (.int ln), .val (.int c0), .val (.int c1), .val (.int c2), .val (.ref b1), .val (.ref b6), .val (.ref b12), .val (.int (1 : Int32)), .val (.ref em), .unset] [(.int (0 : Int32))])) st35 ?_
  refine own_go (S' := T35.setTop (mkF m 82 #[.val (.int ln), .val (.int c0), .val (.int c1), .val (.int c2), .val (.ref b1), .val (.ref b6), .val (.ref b12), .val (.int (1 : Int32)), .val (.ref em), .unset] [])) (fun tg kk => XS.ifNo X35.here hx rfl (hb hby at_79) rfl (XT.i0_ne_f (by decide)) kk) ?_
  refine own_go (S' := T35.setTop (mkF m 83 #[.val (.int ln), .val (.int c0), .val (.int c1), .val (.int c2), .val (.ref b1), .val (.ref b6), .val (.ref b12), .val (.int (1 : Int32)), .val (.ref em), .unset] [(.int (1 : Int32))])) (fun tg kk => XT.iconstV X35.here hx rfl (1 : Int32) (hb hby at_82) (by decide) kk) ?_
  refine own_go (S' := T35.setTop (mkF m 87 #[.val (.int ln), .val (.int c0), .val (.int c1), .val (.int c2), .val (.ref b1), .val (.ref b6), .val (.ref b12), .val (.int (1 : Int32)), .val (.ref em), .unset] [(.int (1 : Int32))])) (fun tg kk => XS.goto X35.here hx rfl (pc0 := 83) (pc' := 87) rfl (hb hby at_83) (by decide) (by decide) kk) ?_
  refine own_go (S' := T35.setTop (mkF m 89 #[.val (.int ln), .val (.int c0), .val (.int c1), .val (.int c2), .val (.ref b1), .val (.ref b6), .val (.ref b12), .val (.int (1 : Int32)), .val (.ref em), .val (.int (1 : Int32))] [])) (fun tg kk => XS.istore X35.here hx rfl (hb hby at_87) rfl (l' := #[.val (.int ln), .val (.int c0), .val (.int c1), .val (.int c2), .val (.ref b1), .val (.ref b6), .val (.ref b12), .val (.int (1 : Int32)), .val (.ref em), .val (.int (1 : Int32))]) rfl kk) ?_
  refine own_go (S' := T35.setTop (mkF m 91 #[.val (.int ln), .val (.int c0), .val (.int c1), .val (.int c2), .val (.ref b1), .val (.ref b6), .val (.ref b12), .val (.int (1 : Int32)), .val (.ref em), .val (.int (1 : Int32))] [(.int (1 : Int32))])) (fun tg kk => XS.iload X35.here hx rfl (hb hby at_89) rfl kk) ?_
  refine own_go (S' := T35.setTop (mkF m 94 #[.val (.int ln), .val (.int c0), .val (.int c1), .val (.int c2), .val (.ref b1), .val (.ref b6), .val (.ref b12), .val (.int (1 : Int32)), .val (.ref em), .val (.int (1 : Int32))] [])) (fun tg kk => XS.ifNo X35.here hx rfl (hb hby at_91) rfl (XT.i0_eq_f (by decide)) kk) ?_
  refine own_go (S' := T35.setTop (mkF m 96 #[.val (.int ln), .val (.int c0), .val (.int c1), .val (.int c2), .val (.ref b1), .val (.ref b6), .val (.ref b12), .val (.int (1 : Int32)), .val (.ref em), .val (.int (1 : Int32))] [(.int (1 : Int32))])) (fun tg kk => XS.iload X35.here hx rfl (hb hby at_94) rfl kk) ?_
  refine own_go (S' := T35.setTop (mkF m 99 #[.val (.int ln), .val (.int c0), .val (.int c1), .val (.int c2), .val (.ref b1), .val (.ref b6), .val (.ref b12), .val (.int (1 : Int32)), .val (.ref em), .val (.int (1 : Int32))] [])) (fun tg kk => XS.ifNo X35.here hx rfl (hb hby at_96) rfl (XT.i0_eq_f (by decide)) kk) ?_
  refine own_go (S' := T35.setTop (mkF m 101 #[.val (.int ln), .val (.int c0), .val (.int c1), .val (.int c2), .val (.ref b1), .val (.ref b6), .val (.ref b12), .val (.int (1 : Int32)), .val (.ref em), .val (.int (1 : Int32))] [(.ref b6)])) (fun tg kk => XS.aload X35.here hx rfl (hb hby at_99) rfl rfl kk) ?_
  obtain ⟨cq37, kq37, qa37, qb37, qc37⟩ := isOf hZ6 e35 E19
  obtain ⟨v37, _, ⟨T37, L37, k37, n37⟩, -, X37, ⟨Lc37, hQ37, l37, y37, z37⟩, st37⟩ := X35.virtualBack hx (y := (⟨"com/example/periodic_jobs/periodicjobs/engine/DeliveryResult", "isConfirmed", "()Z"⟩ : MethodName)) (z := (⟨"com/example/periodic_jobs/periodicjobs/engine/DeliveryResult", "isConfirmed", "()Z"⟩ : MethodName)) ho6 (mvT hZ6 (hw _ (List.mem_of_getElem? (i := 98) rfl))) (mvT hZ6 (hw _ (List.mem_of_getElem? (i := 99) rfl))) (notFace_of_selects (args := #[]) (mvT hZ6 (hw _ (List.mem_of_getElem? (i := 101) rfl)))) (mvT hZ6 (hw _ (List.mem_of_getElem? (i := 101) rfl))) (mvT hZ6 (hw _ (List.mem_of_getElem? (i := 100) rfl))) (by decide) (backOf (W := 0) (rm17 l Z a0 hw [] b6 h12 n0 Z21 F16) hZ6 (hw _ (List.mem_of_getElem? (i := 102) rfl)) (hw _ (List.mem_of_getElem? (i := 28) rfl)) (by decide) (by decide)) qa37 qc37 (g := (mkF m 101 #[.val (.int ln), .val (.int c0), .val (.int c1), .val (.int c2), .val (.ref b1), .val (.ref b6), .val (.ref b12), .val (.int (1 : Int32)), .val (.ref em), .val (.int (1 : Int32))] [(.ref b6)])) rfl (by rw [hml]; rfl) (Steps.refl _) (argsL := []) (rest := []) (lenOf pd___Z rfl) rfl (by show 2 * 0 + _ ≤ _; exact Nat.le_of_eq rfl) (hb hby at_101) (fun _ _ => ⟨rfl, e35, (by decide : 10 + 0 ≤ _), (by decide : 40 + 0 ≤ _)⟩)
  dsimp only [Pt.U, Pt.locs, Pt.cells, Pt.slots] at X37 l37 y37 z37 st37 hQ37
  subst l37 y37 z37
  obtain ⟨rfl, M38, e37⟩ := hQ37
  have N38 := Fr.app N36 M38
  refine own_to (S' := T37.setTop (mkF m 104 #[.val (.int ln), .val (.int c0), .val (.int c1), .val (.int c2), .val (.ref b1), .val (.ref b6), .val (.ref b12), .val (.int (1 : Int32)), .val (.ref em), .val (.int (1 : Int32))] [(.int (0 : Int32))])) st37 ?_
  refine own_go (S' := T37.setTop (mkF m 107 #[.val (.int ln), .val (.int c0), .val (.int c1), .val (.int c2), .val (.ref b1), .val (.ref b6), .val (.ref b12), .val (.int (1 : Int32)), .val (.ref em), .val (.int (1 : Int32))] [])) (fun tg kk => XS.ifNo X37.here hx rfl (hb hby at_104) rfl (XT.i0_ne_f (by decide)) kk) ?_
  refine own_go (S' := T37.setTop (mkF m 109 #[.val (.int ln), .val (.int c0), .val (.int c1), .val (.int c2), .val (.ref b1), .val (.ref b6), .val (.ref b12), .val (.int (1 : Int32)), .val (.ref em), .val (.int (1 : Int32))] [(.ref b6)])) (fun tg kk => XS.aload X37.here hx rfl (hb hby at_107) rfl rfl kk) ?_
  obtain ⟨cq39, kq39, qa39, qb39, qc39⟩ := isOf hZ6 e37 E19
  obtain ⟨v39, _, ⟨T39, L39, k39, n39⟩, -, X39, ⟨Lc39, hQ39, l39, y39, z39⟩, st39⟩ := X37.virtualBack hx (y := (⟨"com/example/periodic_jobs/periodicjobs/engine/DeliveryResult", "isSuccess", "()Z"⟩ : MethodName)) (z := (⟨"com/example/periodic_jobs/periodicjobs/engine/DeliveryResult", "isSuccess", "()Z"⟩ : MethodName)) ho6 (mvT hZ6 (hw _ (List.mem_of_getElem? (i := 103) rfl))) (mvT hZ6 (hw _ (List.mem_of_getElem? (i := 104) rfl))) (notFace_of_selects (args := #[]) (mvT hZ6 (hw _ (List.mem_of_getElem? (i := 106) rfl)))) (mvT hZ6 (hw _ (List.mem_of_getElem? (i := 106) rfl))) (mvT hZ6 (hw _ (List.mem_of_getElem? (i := 105) rfl))) (by decide) (backOf (W := 0) (rm18 l Z a0 hw [] b6 h12 n0 Z21 F16 F15) hZ6 (hw _ (List.mem_of_getElem? (i := 107) rfl)) (hw _ (List.mem_of_getElem? (i := 28) rfl)) (by decide) (by decide)) qa39 qc39 (g := (mkF m 109 #[.val (.int ln), .val (.int c0), .val (.int c1), .val (.int c2), .val (.ref b1), .val (.ref b6), .val (.ref b12), .val (.int (1 : Int32)), .val (.ref em), .val (.int (1 : Int32))] [(.ref b6)])) rfl (by rw [hml]; rfl) (Steps.refl _) (argsL := []) (rest := []) (lenOf pd___Z rfl) rfl (by show 2 * 0 + _ ≤ _; exact Nat.le_of_eq rfl) (hb hby at_109) (fun _ _ => ⟨rfl, e37, (by decide : 10 + 0 ≤ _), (by decide : 40 + 0 ≤ _)⟩)
  dsimp only [Pt.U, Pt.locs, Pt.cells, Pt.slots] at X39 l39 y39 z39 st39 hQ39
  subst l39 y39 z39
  obtain ⟨rfl, M40, e39⟩ := hQ39
  have N40 := Fr.app N38 M40
  refine own_to (S' := T39.setTop (mkF m 112 #[.val (.int ln), .val (.int c0), .val (.int c1), .val (.int c2), .val (.ref b1), .val (.ref b6), .val (.ref b12), .val (.int (1 : Int32)), .val (.ref em), .val (.int (1 : Int32))] [(.int (0 : Int32))])) st39 ?_
  refine own_go (S' := T39.setTop (mkF m 115 #[.val (.int ln), .val (.int c0), .val (.int c1), .val (.int c2), .val (.ref b1), .val (.ref b6), .val (.ref b12), .val (.int (1 : Int32)), .val (.ref em), .val (.int (1 : Int32))] [])) (fun tg kk => XS.ifNo X39.here hx rfl (hb hby at_112) rfl (XT.i0_ne_f (by decide)) kk) ?_
  refine own_go (S' := T39.setTop (mkF m 117 #[.val (.int ln), .val (.int c0), .val (.int c1), .val (.int c2), .val (.ref b1), .val (.ref b6), .val (.ref b12), .val (.int (1 : Int32)), .val (.ref em), .val (.int (1 : Int32))] [(.ref b6)])) (fun tg kk => XS.aload X39.here hx rfl (hb hby at_115) rfl rfl kk) ?_
  obtain ⟨cq41, kq41, qa41, qb41, qc41⟩ := isOf hZ6 e39 E19
  obtain ⟨v41, _, ⟨T41, L41, k41, n41⟩, -, X41, ⟨Lc41, hQ41, l41, y41, z41⟩, st41⟩ := X39.virtualBack hx (y := (⟨"com/example/periodic_jobs/periodicjobs/engine/DeliveryResult", "isAccepted", "()Z"⟩ : MethodName)) (z := (⟨"com/example/periodic_jobs/periodicjobs/engine/DeliveryResult", "isAccepted", "()Z"⟩ : MethodName)) ho6 (mvT hZ6 (hw _ (List.mem_of_getElem? (i := 108) rfl))) (mvT hZ6 (hw _ (List.mem_of_getElem? (i := 109) rfl))) (notFace_of_selects (args := #[]) (mvT hZ6 (hw _ (List.mem_of_getElem? (i := 111) rfl)))) (mvT hZ6 (hw _ (List.mem_of_getElem? (i := 111) rfl))) (mvT hZ6 (hw _ (List.mem_of_getElem? (i := 110) rfl))) (by decide) (backOf (W := 0) (rm19 l Z a0 hw [] b6 h12 n0 Z21 F15) hZ6 (hw _ (List.mem_of_getElem? (i := 112) rfl)) (hw _ (List.mem_of_getElem? (i := 28) rfl)) (by decide) (by decide)) qa41 qc41 (g := (mkF m 117 #[.val (.int ln), .val (.int c0), .val (.int c1), .val (.int c2), .val (.ref b1), .val (.ref b6), .val (.ref b12), .val (.int (1 : Int32)), .val (.ref em), .val (.int (1 : Int32))] [(.ref b6)])) rfl (by rw [hml]; rfl) (Steps.refl _) (argsL := []) (rest := []) (lenOf pd___Z rfl) rfl (by show 2 * 0 + _ ≤ _; exact Nat.le_of_eq rfl) (hb hby at_117) (fun _ _ => ⟨rfl, e39, (by decide : 10 + 0 ≤ _), (by decide : 40 + 0 ≤ _)⟩)
  dsimp only [Pt.U, Pt.locs, Pt.cells, Pt.slots] at X41 l41 y41 z41 st41 hQ41
  subst l41 y41 z41
  obtain ⟨rfl, M42, e41⟩ := hQ41
  have N42 := Fr.app N40 M42
  refine own_to (S' := T41.setTop (mkF m 120 #[.val (.int ln), .val (.int c0), .val (.int c1), .val (.int c2), .val (.ref b1), .val (.ref b6), .val (.ref b12), .val (.int (1 : Int32)), .val (.ref em), .val (.int (1 : Int32))] [(.int (0 : Int32))])) st41 ?_
  refine own_go (S' := T41.setTop (mkF m 123 #[.val (.int ln), .val (.int c0), .val (.int c1), .val (.int c2), .val (.ref b1), .val (.ref b6), .val (.ref b12), .val (.int (1 : Int32)), .val (.ref em), .val (.int (1 : Int32))] [])) (fun tg kk => XS.ifNo X41.here hx rfl (hb hby at_120) rfl (XT.i0_ne_f (by decide)) kk) ?_
  refine own_go (S' := T41.setTop (mkF m 125 #[.val (.int ln), .val (.int c0), .val (.int c1), .val (.int c2), .val (.ref b1), .val (.ref b6), .val (.ref b12), .val (.int (1 : Int32)), .val (.ref em), .val (.int (1 : Int32))] [(.ref b6)])) (fun tg kk => XS.aload X41.here hx rfl (hb hby at_123) rfl rfl kk) ?_
  obtain ⟨cq43, kq43, qa43, qb43, qc43⟩ := isOf hZ6 e41 E19
  obtain ⟨v43, _, ⟨T43, L43, k43, n43⟩, -, X43, ⟨Lc43, hQ43, l43, y43, z43⟩, st43⟩ := X41.virtualBack hx (y := (⟨"com/example/periodic_jobs/periodicjobs/engine/DeliveryResult", "isWorthRetrying", "()Z"⟩ : MethodName)) (z := (⟨"com/example/periodic_jobs/periodicjobs/engine/DeliveryResult", "isWorthRetrying", "()Z"⟩ : MethodName)) ho6 (mvT hZ6 (hw _ (List.mem_of_getElem? (i := 113) rfl))) (mvT hZ6 (hw _ (List.mem_of_getElem? (i := 114) rfl))) (notFace_of_selects (args := #[]) (mvT hZ6 (hw _ (List.mem_of_getElem? (i := 116) rfl)))) (mvT hZ6 (hw _ (List.mem_of_getElem? (i := 116) rfl))) (mvT hZ6 (hw _ (List.mem_of_getElem? (i := 115) rfl))) (by decide) (backOf (W := 0) (rm20 l Z a0 hw [] b6 h12 n0 Z21 F15) hZ6 (hw _ (List.mem_of_getElem? (i := 117) rfl)) (hw _ (List.mem_of_getElem? (i := 28) rfl)) (by decide) (by decide)) qa43 qc43 (g := (mkF m 125 #[.val (.int ln), .val (.int c0), .val (.int c1), .val (.int c2), .val (.ref b1), .val (.ref b6), .val (.ref b12), .val (.int (1 : Int32)), .val (.ref em), .val (.int (1 : Int32))] [(.ref b6)])) rfl (by rw [hml]; rfl) (Steps.refl _) (argsL := []) (rest := []) (lenOf pd___Z rfl) rfl (by show 2 * 0 + _ ≤ _; exact Nat.le_of_eq rfl) (hb hby at_125) (fun _ _ => ⟨rfl, e41, (by decide : 10 + 0 ≤ _), (by decide : 40 + 0 ≤ _)⟩)
  dsimp only [Pt.U, Pt.locs, Pt.cells, Pt.slots] at X43 l43 y43 z43 st43 hQ43
  subst l43 y43 z43
  obtain ⟨rfl, M44, e43⟩ := hQ43
  have N44 := Fr.app N42 M44
  refine own_to (S' := T43.setTop (mkF m 128 #[.val (.int ln), .val (.int c0), .val (.int c1), .val (.int c2), .val (.ref b1), .val (.ref b6), .val (.ref b12), .val (.int (1 : Int32)), .val (.ref em), .val (.int (1 : Int32))] [(.int (1 : Int32))])) st43 ?_
  refine own_go (S' := T43.setTop (mkF m 131 #[.val (.int ln), .val (.int c0), .val (.int c1), .val (.int c2), .val (.ref b1), .val (.ref b6), .val (.ref b12), .val (.int (1 : Int32)), .val (.ref em), .val (.int (1 : Int32))] [])) (fun tg kk => XS.ifNo X43.here hx rfl (hb hby at_128) rfl (XT.i0_eq_f (by decide)) kk) ?_
  refine own_go (S' := T43.setTop (mkF m 132 #[.val (.int ln), .val (.int c0), .val (.int c1), .val (.int c2), .val (.ref b1), .val (.ref b6), .val (.ref b12), .val (.int (1 : Int32)), .val (.ref em), .val (.int (1 : Int32))] [(.int (1 : Int32))])) (fun tg kk => XT.iconstV X43.here hx rfl (1 : Int32) (hb hby at_131) (by decide) kk) ?_
  refine own_go (S' := T43.setTop (mkF m 136 #[.val (.int ln), .val (.int c0), .val (.int c1), .val (.int c2), .val (.ref b1), .val (.ref b6), .val (.ref b12), .val (.int (1 : Int32)), .val (.ref em), .val (.int (1 : Int32))] [(.int (1 : Int32))])) (fun tg kk => XS.goto X43.here hx rfl (pc0 := 132) (pc' := 136) rfl (hb hby at_132) (by decide) (by decide) kk) ?_
  obtain ⟨fs, hr, hrun, hended, hEnd⟩ := X43.leaveW hS6 (Nat.le_trans hk14 (Nat.le_of_eq (congrArg Array.size e43.symm))) (v := some (.int (1 : Int32))) (fun h => by rw [Bd.returns] at h; cases h)
  refine ⟨_, _, retN X43 hx (t := .boolean) Bd.returns (by simp) (hb hby at_136) hr, hrun, hended, _, _, rfl, ?_, ?_, hEnd.1, hEnd.2.1, hEnd.2.2.1, hEnd.2.2.2.mono (by decide) (by decide)⟩
  · show Q0 Z ln c0 c1 c2 cs em h0 n0 (some (.int (1 : Int32))) T43.heap _
    rw [e43]
    exact ⟨rfl, N44⟩
  · show CHr Z own_EL s.vm s.heap T43.vm T43.heap
    rw [hh, e43]
    exact CR14.trans (CHv.at X43 hZ6 hEL CR14.1)
set_option maxRecDepth 65536 in
set_option maxHeartbeats 40000000 in
theorem comes_1 {Post : Tables → Env → Array Value → State → Outcome → State → Prop} (hpost : ∀ tb e args s v u, (limb_1_1.after args s (.returned v) u = true ∧ limb_1_2.after args s (.returned v) u = true ∧ True) → ReturnedEndW s (.returned v) u (Jvm.fieldLocs frame_1_writes args s ++ Jvm.arrayLocs frame_1_arrays args s ++ Jvm.staticLocs frame_1_statics s) 24 2176 → Post tb e args s (.returned v) u) :
    ArmFor flags0 classFile x code maxLocals ret World_1 tables_1 room_1 Calls_1 rest_1 Pre_1 Post := by
  intro l hfl _ _ p e ha hc hk s m args below hf hA hF happ hP
  obtain ⟨hcalls, hrest, hpre⟩ := hP
  obtain ⟨-, -, -, hnamed, -, -, -, hat⟩ := (Spec.applies_iff hf).mp happ
  obtain ⟨hg, hn⟩ := and_e (Cond.before_iff.mp (show (Jvm.Cond.and given_1 narrow_1).before args s = true from hpre))
  obtain ⟨hgl, hgr⟩ := and_e hg
  obtain ⟨hgrl, hgrr⟩ := and_e hgr
  obtain ⟨hgrrl, hgrrr⟩ := and_e hgrr
  obtain ⟨hgrrrl, hgrrrr⟩ := and_e hgrrr
  obtain ⟨w0, w1, w2, w3, rfl⟩ : ∃ w0 w1 w2 w3 : Value, args = #[w0, w1, w2, w3] := by
    have hs : args.size = 4 := by simpa [Cond.value] using hgl
    obtain ⟨L⟩ := args
    match L, hs with
    | [w0, w1, w2, w3], _ => exact ⟨w0, w1, w2, w3, rfl⟩
  have hw := fun d (hd : d ∈ tables_1) => atoms_spec (ws := Jvm.Cond.code x code maxLocals ret :: tables_1) hat d (List.mem_cons_of_mem _ hd)
  have hfit : Fit s := fun {y c} hc i hi => by
    obtain ⟨ha, rfl⟩ := Array.getElem?_eq_some_iff.mp hc
    have q := List.all_eq_true.mp ((Array.all_eq_true_iff_forall_mem.mp hF) _ (Array.getElem_mem ha)) i (List.mem_range.mpr hi)
    simpa [Array.getElem?_eq_getElem hi] using q
  obtain ⟨ln, ew0⟩ := is_v hgrl
  obtain rfl : w0 = (.int ln) := Option.some.inj ew0
  obtain ⟨c0, ew1⟩ := is_v hgrrl
  obtain rfl : w1 = (.int c0) := Option.some.inj ew1
  obtain ⟨c1, ew2⟩ := is_v hgrrrl
  obtain rfl : w2 = (.int c1) := Option.some.inj ew2
  obtain ⟨c2, ew3⟩ := is_v hgrrrr
  obtain rfl : w3 = (.int c2) := Option.some.inj ew3
  obtain ⟨hsets, hown0⟩ := atoms_of _ (rest_1_c_eq ▸ (show rest_1_c.before _ s = true from hrest))
  obtain ⟨cs, ev_cs⟩ := is_v (Cond.before_iff.mp (hsets _ (List.mem_of_getElem? (i := 6) rfl)))
  have S_CS : Sta s s.heap "java/lang/String" "COMPACT_STRINGS" "Z" (.int cs) := Sta.start ev_cs (Or.inl (hsets _ (List.mem_of_getElem? (i := 5) rfl)))
  have hcs : ¬ cs = 0 := gotF (Cond.eq_ints ev_cs rfl) (not_v (Cond.before_iff.mp (hsets _ (List.mem_of_getElem? (i := 7) rfl))))
  obtain ⟨em, ev_em⟩ := exa_v (Cond.before_iff.mp (hsets _ (List.mem_of_getElem? (i := 2) rfl)))
  have E_EM := Exa.start ev_em (Cond.before_iff.mp (hsets _ (List.mem_of_getElem? (i := 2) rfl)))
  have S_EM : Sta s s.heap "java/util/OptionalInt" "EMPTY" "Ljava/util/OptionalInt;" (.ref em) := Sta.start ev_em (Or.inl (hsets _ (List.mem_of_getElem? (i := 1) rfl)))
  have F_EM : Fld s s.heap em "java/util/OptionalInt" "isPresent" "Z" (.int (0 : Int32)) := Fld.start ((fld_at ev_em).symm.trans (Cond.eq_int (hsets _ (List.mem_of_getElem? (i := 3) rfl)) rfl))
  have hCH : CHv s own_EL s.vm s.heap := CHv.start (own_hEL hw) (fun q hq => hcalls.1 q hq) (hsets _ (List.mem_of_getElem? (i := 7) rfl)) (hw _ (List.mem_of_getElem? (i := 19) rfl)) (hw _ (List.mem_of_getElem? (i := 5) rfl))
  obtain ⟨n, o, h1, h2, h3, _, L, rfl, ⟨rfl, N⟩, hcr, hq⟩ := rm0 l s _ hw tables_1 ln c0 c1 c2 cs em s.heap s.heap.size (Nat.le_refl _) (Old.start s) S_CS hcs S_EM E_EM F_EM p e ha hc hk s m _ below hf ((Spec.applies_iff_loose hf).mp happ).1 ⟨rfl, State.Warmed39.refl s, rfl, hCH⟩ trivial
  refine ⟨n, _, h1, h2, h3, hpost _ _ _ _ _ _ ⟨Cond.after_iff.mpr rfl, Cond.after_iff.mpr (eq_i res_at (Term.int_eval (1)) rfl), trivial⟩ ⟨hq.1, hq.2.1, hq.2.2.1, (hq.2.2.2.sift fun y hy => Or.inr (N y hy)).mono (by decide) (by decide)⟩⟩
theorem main_1_1 : Claimed_1_1 := comes_1 fun _ _ _ _ _ _ h hF => ⟨h.1, hF⟩
theorem main_1_2 : Claimed_1_2 := comes_1 fun _ _ _ _ _ _ h hF => ⟨h.2.1, hF⟩
end Jvm.Pilot.@@N@@
namespace Jvm.Pilot.@@N@@
open Jvm Jvm.ClassFile Sem Op Lib Jvm.Free Jvm.Stand Jvm.Pilot.@@N@@.Jvm.D
/-! MADE BY PROGRAM (witnessworld.py) out of the Statement's table words and the real class files: 23 classes; the members and pool entries that the words name. The judged class is class 1, her method 1. -/
namespace start1
open Jvm.ClassFile
def u (s : String) : CpInfo := .utf8 (stringToUtf16 s)
/-- a pool by its gaps: so many unusable entries, then the entry; so many at the end -/
def gap : Nat → List CpInfo → List CpInfo
  | 0, r => r
  | n + 1, r => .unusable :: gap n r
def poolList (es : List (Nat × CpInfo)) (last : Nat) : List CpInfo := es.foldr (fun e r => gap e.1 (e.2 :: r)) (gap last [])
def pool (es : List (Nat × CpInfo)) (last : Nat) : Array CpInfo := ⟨poolList es last⟩
def fileOf (pool : Array CpInfo) (this : Nat) (attrs : Array Attribute := #[]) (ms : Array MethodInfo := #[]) (fl : Nat := 33) (sup : Nat := 0) (ifs : Array Nat := #[]) (fds : Array FieldInfo := #[]) : ClassFile where
  minorVersion := 0
  majorVersion := 65
  constantPool := pool
  accessFlags := fl
  thisClass := this
  superClass := sup
  interfaces := ifs
  fields := fds
  methods := ms
  attributes := attrs
def plain (name : String) (sup : Option ClassId) : Class where
  name := name
  kind := .ordinary
  loader := none
  accessFlags := 33
  super := sup
  interfaces := #[]
  cf := none
  fields := #[]
  methods := #[]
  instanceTypes := #[]
  staticTypes := #[]
  resolved := #[]
  callSites := []
  init := .initialized
  statics := none
  mirror := none

def pool0 : Array CpInfo := pool [(5, u "<init>"), (0, u "()V"), (1, .class_ 10), (1, u "java/lang/Object")] 113

def k0c0 : Code := { maxStack := 0, maxLocals := 1, code := object_method_1_code, exceptionTable := #[], attributes := #[] }
def k0m0 : Method := { name := "<init>", desc := "()V", sig := { parameters := [], returnType := none }, accessFlags := 1, code := some k0c0 }
/-- java/lang/Object -/
def k0 : Class := { plain "java/lang/Object" none with
  accessFlags := 33
  interfaces := #[]
  cf := some (fileOf pool0 8 #[] #[{ accessFlags := 1, nameIndex := 5, descriptorIndex := 6, attributes := #[] }] 33 0 #[] #[])
  fields := #[]
  methods := #[k0m0]
  instanceTypes := #[]
  staticTypes := #[]
  resolved := Array.replicate 124 none
  statics := none }

def pool1 : Array CpInfo := pool [(2, .class_ 4), (1, u "java/lang/Object"), (0, u "<init>"), (0, u "()V"), (0, .methodref 8 9), (0, .class_ 10), (0, .nameAndType 11 12), (0, u "com/example/periodic_jobs/periodicjobs/engine/DeliveryResultFailedPinLaw"), (0, u "draw"), (0, u "(IIII)Ljava/lang/String;"), (0, .methodref 14 15), (0, .class_ 16), (0, .nameAndType 17 18), (0, u "com/example/periodic_jobs/periodicjobs/engine/DeliveryResult"), (0, u "failed"), (0, u "(Ljava/lang/String;)Lcom/example/periodic_jobs/periodicjobs/engine/DeliveryResult;"), (0, .methodref 14 20), (0, .nameAndType 21 22), (0, u "getError"), (0, u "()Ljava/util/Optional;"), (0, .methodref 24 25), (0, .class_ 26), (0, .nameAndType 27 28), (0, u "java/util/Optional"), (0, u "isPresent"), (0, u "()Z"), (0, .methodref 24 30), (0, .nameAndType 31 32), (0, u "get"), (0, u "()Ljava/lang/Object;"), (0, .class_ 34), (0, u "java/lang/String"), (0, .methodref 33 36), (0, .nameAndType 37 38), (0, u "equals"), (0, u "(Ljava/lang/Object;)Z"), (0, .methodref 14 40), (0, .nameAndType 41 42), (0, u "getHttpStatus"), (0, u "()Ljava/util/OptionalInt;"), (0, .methodref 44 25), (0, .class_ 45), (0, u "java/util/OptionalInt"), (0, .methodref 14 47), (0, .nameAndType 48 28), (0, u "isConfirmed"), (0, .methodref 14 50), (0, .nameAndType 51 28), (0, u "isSuccess"), (0, .methodref 14 53), (0, .nameAndType 54 28), (0, u "isAccepted"), (0, .methodref 14 56), (0, .nameAndType 57 28), (0, u "isWorthRetrying"), (0, .methodref 33 59), (0, .nameAndType 5 60), (0, u "([C)V"), (2, u "law"), (0, u "(IIII)Z")] 3

def k1m0 : Method := { name := "<init>", desc := "()V", sig := { parameters := [], returnType := none }, accessFlags := 1, code := none }
def k1c1 : Code := { maxStack := 4, maxLocals := 10, code := code, exceptionTable := #[], attributes := #[] }
def k1m1 : Method := { name := "law", desc := "(IIII)Z", sig := { parameters := [.int, .int, .int, .int], returnType := some .boolean }, accessFlags := 9, code := some k1c1 }
def k1c2 : Code := { maxStack := 6, maxLocals := 8, code := method_3_code, exceptionTable := #[], attributes := #[] }
def k1m2 : Method := { name := "draw", desc := "(IIII)Ljava/lang/String;", sig := { parameters := [.int, .int, .int, .int], returnType := some (.object "java/lang/String") }, accessFlags := 10, code := some k1c2 }
/-- com/example/periodic_jobs/periodicjobs/engine/DeliveryResultFailedPinLaw -/
def k1 : Class := { plain "com/example/periodic_jobs/periodicjobs/engine/DeliveryResultFailedPinLaw" (some 0) with
  accessFlags := 49
  interfaces := #[]
  cf := some (fileOf pool1 8 #[] #[{ accessFlags := 1, nameIndex := 5, descriptorIndex := 6, attributes := #[] }, { accessFlags := 9, nameIndex := 63, descriptorIndex := 64, attributes := #[] }, { accessFlags := 10, nameIndex := 11, descriptorIndex := 12, attributes := #[] }] 49 2 #[] #[])
  fields := #[]
  methods := #[k1m0, k1m1, k1m2]
  instanceTypes := #[]
  staticTypes := #[]
  resolved := Array.replicate 68 none
  statics := none }

def pool2 : Array CpInfo := pool [(1, .class_ 2), (0, u "java/io/Serializable"), (0, .class_ 4), (0, u "java/lang/Object")] 2

/-- java/io/Serializable -/
def k2 : Class := { plain "java/io/Serializable" (some 0) with
  accessFlags := 1537
  interfaces := #[]
  cf := some (fileOf pool2 1 #[] #[] 1537 3 #[] #[])
  fields := #[]
  methods := #[]
  instanceTypes := #[]
  staticTypes := #[]
  resolved := Array.replicate 7 none
  statics := none }

def pool3 : Array CpInfo := pool [(1, .class_ 2), (0, u "java/lang/Comparable"), (0, .class_ 4), (0, u "java/lang/Object")] 7

/-- java/lang/Comparable -/
def k3 : Class := { plain "java/lang/Comparable" (some 0) with
  accessFlags := 1537
  interfaces := #[]
  cf := some (fileOf pool3 1 #[] #[] 1537 3 #[] #[])
  fields := #[]
  methods := #[]
  instanceTypes := #[]
  staticTypes := #[]
  resolved := Array.replicate 12 none
  statics := none }

def pool4 : Array CpInfo := pool [(2, .class_ 4), (1, u "java/lang/CharSequence"), (42, .class_ 48), (0, u "java/lang/CharSequence$1CodePointIterator"), (10, .class_ 60), (0, u "java/lang/CharSequence$1CharIterator"), (5, .class_ 67), (0, u "java/lang/Object")] 63

/-- java/lang/CharSequence -/
def k4 : Class := { plain "java/lang/CharSequence" (some 0) with
  accessFlags := 1537
  interfaces := #[]
  cf := some (fileOf pool4 2 #[.nestMembers #[47, 59]] #[] 1537 66 #[] #[])
  fields := #[]
  methods := #[]
  instanceTypes := #[]
  staticTypes := #[]
  resolved := Array.replicate 131 none
  statics := none }

def pool5 : Array CpInfo := pool [(1, .class_ 2), (0, u "java/lang/constant/Constable"), (0, .class_ 4), (0, u "java/lang/Object")] 6

/-- java/lang/constant/Constable -/
def k5 : Class := { plain "java/lang/constant/Constable" (some 0) with
  accessFlags := 1537
  interfaces := #[]
  cf := some (fileOf pool5 1 #[] #[] 1537 3 #[] #[])
  fields := #[]
  methods := #[]
  instanceTypes := #[]
  staticTypes := #[]
  resolved := Array.replicate 11 none
  statics := none }

def pool6 : Array CpInfo := pool [(1, .class_ 2), (0, u "java/lang/constant/ConstantDesc"), (0, .class_ 4), (0, u "java/lang/Object")] 32

/-- java/lang/constant/ConstantDesc -/
def k6 : Class := { plain "java/lang/constant/ConstantDesc" (some 0) with
  accessFlags := 1537
  interfaces := #[]
  cf := some (fileOf pool6 1 #[] #[] 1537 3 #[] #[])
  fields := #[]
  methods := #[]
  instanceTypes := #[]
  staticTypes := #[]
  resolved := Array.replicate 37 none
  statics := none }

def pool7 : Array CpInfo := pool [(1, .methodref 2 3), (0, .class_ 4), (0, .nameAndType 5 6), (0, u "java/lang/Object"), (0, u "<init>"), (0, u "()V"), (0, .string 8), (0, u ""), (0, .fieldref 10 11), (0, .class_ 12), (0, .nameAndType 13 14), (0, u "java/lang/String"), (0, u "value"), (0, u "[B"), (0, .fieldref 10 16), (0, .nameAndType 17 18), (0, u "coder"), (0, u "B"), (2, u "hash"), (0, u "I"), (2, u "hashIsZero"), (0, u "Z"), (0, .methodref 10 28), (0, .nameAndType 5 29), (0, u "([CIILjava/lang/Void;)V"), (8, .fieldref 10 39), (0, .nameAndType 40 26), (0, u "COMPACT_STRINGS"), (1, .class_ 44), (1, u "java/lang/StringUTF16"), (0, u "compress"), (1, .methodref 42 48), (0, .nameAndType 49 50), (0, u "coderFromArrayLen"), (0, u "([BI)B"), (126, .methodref 42 178), (0, .nameAndType 45 179), (0, u "([CII)[B"), (363, u "equals"), (29, u "(Ljava/lang/Object;)Z"), (1, .class_ 576), (0, u "java/lang/CharSequence"), (22, u "CASE_INSENSITIVE_ORDER"), (0, u "Ljava/util/Comparator;"), (409, u "([C)V"), (90, u "serialPersistentFields"), (0, u "[Ljava/io/ObjectStreamField;"), (0, .class_ 1104), (0, u "java/lang/String$CaseInsensitiveComparator"), (1, .class_ 1107), (0, u "java/io/Serializable"), (0, .class_ 1109), (0, u "java/lang/Comparable"), (0, .class_ 1111), (0, u "java/lang/constant/Constable"), (0, .class_ 1113), (0, u "java/lang/constant/ConstantDesc"), (2, u "serialVersionUID"), (0, u "J"), (3, u "REPL"), (0, u "C"), (2, u "LATIN1"), (1, u "UTF16")] 323

def k7m0 : Method := { name := "<init>", desc := "()V", sig := { parameters := [], returnType := none }, accessFlags := 1, code := none }
def k7c1 : Code := { maxStack := 5, maxLocals := 2, code := jdk_42_method_3_code, exceptionTable := #[], attributes := #[] }
def k7m1 : Method := { name := "<init>", desc := "([C)V", sig := { parameters := [(.array .char)], returnType := none }, accessFlags := 1, code := some k7c1 }
def k7c2 : Code := { maxStack := 2, maxLocals := 3, code := jdk_42_method_66_code, exceptionTable := #[], attributes := #[] }
def k7m2 : Method := { name := "equals", desc := "(Ljava/lang/Object;)Z", sig := { parameters := [(.object "java/lang/Object")], returnType := some .boolean }, accessFlags := 1, code := some k7c2 }
def k7c3 : Code := { maxStack := 4, maxLocals := 6, code := jdk_42_method_149_code, exceptionTable := #[], attributes := #[] }
def k7m3 : Method := { name := "<init>", desc := "([CIILjava/lang/Void;)V", sig := { parameters := [(.array .char), .int, .int, (.object "java/lang/Void")], returnType := none }, accessFlags := 2, code := some k7c3 }
/-- java/lang/String -/
def k7 : Class := { plain "java/lang/String" (some 0) with
  accessFlags := 49
  interfaces := #[2, 3, 4, 5, 6]
  cf := some (fileOf pool7 10 #[.nestMembers #[1103]] #[{ accessFlags := 1, nameIndex := 5, descriptorIndex := 6, attributes := #[] }, { accessFlags := 1, nameIndex := 5, descriptorIndex := 1010, attributes := #[] }, { accessFlags := 1, nameIndex := 543, descriptorIndex := 573, attributes := #[] }, { accessFlags := 2, nameIndex := 5, descriptorIndex := 29, attributes := #[] }] 49 2 #[1106, 1108, 575, 1110, 1112] #[{ accessFlags := 18, nameIndex := 13, descriptorIndex := 14, attributes := #[] }, { accessFlags := 18, nameIndex := 17, descriptorIndex := 18, attributes := #[] }, { accessFlags := 2, nameIndex := 21, descriptorIndex := 22, attributes := #[] }, { accessFlags := 2, nameIndex := 25, descriptorIndex := 26, attributes := #[] }, { accessFlags := 26, nameIndex := 1116, descriptorIndex := 1117, attributes := #[] }, { accessFlags := 24, nameIndex := 40, descriptorIndex := 26, attributes := #[] }, { accessFlags := 26, nameIndex := 1101, descriptorIndex := 1102, attributes := #[] }, { accessFlags := 26, nameIndex := 1121, descriptorIndex := 1122, attributes := #[] }, { accessFlags := 25, nameIndex := 599, descriptorIndex := 600, attributes := #[] }, { accessFlags := 24, nameIndex := 1125, descriptorIndex := 18, attributes := #[] }, { accessFlags := 24, nameIndex := 1127, descriptorIndex := 18, attributes := #[] }])
  fields := #[{ name := "value", type := (.array .byte), accessFlags := 18, slot := 0, constantValue := 0 }, { name := "coder", type := .byte, accessFlags := 18, slot := 1, constantValue := 0 }, { name := "hash", type := .int, accessFlags := 2, slot := 2, constantValue := 0 }, { name := "hashIsZero", type := .boolean, accessFlags := 2, slot := 3, constantValue := 0 }, { name := "serialVersionUID", type := .long, accessFlags := 26, slot := 0, constantValue := 0 }, { name := "COMPACT_STRINGS", type := .boolean, accessFlags := 24, slot := 1, constantValue := 0 }, { name := "serialPersistentFields", type := (.array (.object "java/io/ObjectStreamField")), accessFlags := 26, slot := 2, constantValue := 0 }, { name := "REPL", type := .char, accessFlags := 26, slot := 3, constantValue := 0 }, { name := "CASE_INSENSITIVE_ORDER", type := (.object "java/util/Comparator"), accessFlags := 25, slot := 4, constantValue := 0 }, { name := "LATIN1", type := .byte, accessFlags := 24, slot := 5, constantValue := 0 }, { name := "UTF16", type := .byte, accessFlags := 24, slot := 6, constantValue := 0 }]
  methods := #[k7m0, k7m1, k7m2, k7m3]
  instanceTypes := #[(.array .byte), .byte, .int, .boolean]
  staticTypes := #[.long, .boolean, (.array (.object "java/io/ObjectStreamField")), .char, (.object "java/util/Comparator"), .byte, .byte]
  resolved := Array.replicate 1451 none
  statics := some 0 }

def pool8 : Array CpInfo := pool [(1, .methodref 2 3), (0, .class_ 4), (0, .nameAndType 5 6), (0, u "java/lang/Object"), (0, u "<init>"), (0, u "()V"), (0, .fieldref 8 9), (0, .class_ 10), (0, .nameAndType 11 12), (0, u "com/example/periodic_jobs/periodicjobs/engine/DeliveryResult"), (0, u "httpStatus"), (0, u "Ljava/lang/Integer;"), (0, .fieldref 8 14), (0, .nameAndType 15 16), (0, u "confirmed"), (0, u "Z"), (0, .fieldref 8 18), (0, .nameAndType 19 20), (0, u "error"), (0, u "Ljava/lang/String;"), (6, .methodref 8 28), (0, .nameAndType 5 29), (0, u "(Ljava/lang/Integer;ZLjava/lang/String;)V"), (0, .string 19), (0, .methodref 32 33), (0, .class_ 34), (0, .nameAndType 35 36), (0, u "java/util/Objects"), (0, u "requireNonNull"), (0, u "(Ljava/lang/Object;Ljava/lang/String;)Ljava/lang/Object;"), (0, .class_ 38), (0, u "java/lang/String"), (0, .methodref 40 41), (0, .class_ 42), (0, .nameAndType 43 44), (0, u "java/util/OptionalInt"), (0, u "empty"), (0, u "()Ljava/util/OptionalInt;"), (8, .methodref 54 55), (0, .class_ 56), (0, .nameAndType 57 58), (0, u "java/util/Optional"), (0, u "ofNullable"), (0, u "(Ljava/lang/Object;)Ljava/util/Optional;"), (5, u "failed"), (0, u "(Ljava/lang/String;)Lcom/example/periodic_jobs/periodicjobs/engine/DeliveryResult;"), (0, u "getHttpStatus"), (1, u "isConfirmed"), (0, u "()Z"), (0, u "getError"), (0, u "()Ljava/util/Optional;"), (2, u "isSuccess"), (0, u "isAccepted"), (0, u "isWorthRetrying")] 2

def k8c0 : Code := { maxStack := 2, maxLocals := 4, code := prog_9_method_1_code, exceptionTable := #[], attributes := #[] }
def k8m0 : Method := { name := "<init>", desc := "(Ljava/lang/Integer;ZLjava/lang/String;)V", sig := { parameters := [(.object "java/lang/Integer"), .boolean, (.object "java/lang/String")], returnType := none }, accessFlags := 2, code := some k8c0 }
def k8c1 : Code := { maxStack := 6, maxLocals := 1, code := prog_9_method_4_code, exceptionTable := #[], attributes := #[] }
def k8m1 : Method := { name := "failed", desc := "(Ljava/lang/String;)Lcom/example/periodic_jobs/periodicjobs/engine/DeliveryResult;", sig := { parameters := [(.object "java/lang/String")], returnType := some (.object "com/example/periodic_jobs/periodicjobs/engine/DeliveryResult") }, accessFlags := 8, code := some k8c1 }
def k8c2 : Code := { maxStack := 1, maxLocals := 1, code := prog_9_method_5_code, exceptionTable := #[], attributes := #[] }
def k8m2 : Method := { name := "getHttpStatus", desc := "()Ljava/util/OptionalInt;", sig := { parameters := [], returnType := some (.object "java/util/OptionalInt") }, accessFlags := 1, code := some k8c2 }
def k8c3 : Code := { maxStack := 1, maxLocals := 1, code := prog_9_method_6_code, exceptionTable := #[], attributes := #[] }
def k8m3 : Method := { name := "isConfirmed", desc := "()Z", sig := { parameters := [], returnType := some .boolean }, accessFlags := 1, code := some k8c3 }
def k8c4 : Code := { maxStack := 1, maxLocals := 1, code := prog_9_method_7_code, exceptionTable := #[], attributes := #[] }
def k8m4 : Method := { name := "getError", desc := "()Ljava/util/Optional;", sig := { parameters := [], returnType := some (.object "java/util/Optional") }, accessFlags := 1, code := some k8c4 }
def k8c5 : Code := { maxStack := 2, maxLocals := 1, code := prog_9_method_8_code, exceptionTable := #[], attributes := #[] }
def k8m5 : Method := { name := "isSuccess", desc := "()Z", sig := { parameters := [], returnType := some .boolean }, accessFlags := 0, code := some k8c5 }
def k8c6 : Code := { maxStack := 2, maxLocals := 1, code := prog_9_method_9_code, exceptionTable := #[], attributes := #[] }
def k8m6 : Method := { name := "isAccepted", desc := "()Z", sig := { parameters := [], returnType := some .boolean }, accessFlags := 0, code := some k8c6 }
def k8c7 : Code := { maxStack := 2, maxLocals := 1, code := prog_9_method_10_code, exceptionTable := #[], attributes := #[] }
def k8m7 : Method := { name := "isWorthRetrying", desc := "()Z", sig := { parameters := [], returnType := some .boolean }, accessFlags := 0, code := some k8c7 }
/-- com/example/periodic_jobs/periodicjobs/engine/DeliveryResult -/
def k8 : Class := { plain "com/example/periodic_jobs/periodicjobs/engine/DeliveryResult" (some 0) with
  accessFlags := 49
  interfaces := #[]
  cf := some (fileOf pool8 8 #[] #[{ accessFlags := 2, nameIndex := 5, descriptorIndex := 29, attributes := #[] }, { accessFlags := 8, nameIndex := 64, descriptorIndex := 65, attributes := #[] }, { accessFlags := 1, nameIndex := 66, descriptorIndex := 44, attributes := #[] }, { accessFlags := 1, nameIndex := 68, descriptorIndex := 69, attributes := #[] }, { accessFlags := 1, nameIndex := 70, descriptorIndex := 71, attributes := #[] }, { accessFlags := 0, nameIndex := 74, descriptorIndex := 69, attributes := #[] }, { accessFlags := 0, nameIndex := 75, descriptorIndex := 69, attributes := #[] }, { accessFlags := 0, nameIndex := 76, descriptorIndex := 69, attributes := #[] }] 49 2 #[] #[{ accessFlags := 18, nameIndex := 11, descriptorIndex := 12, attributes := #[] }, { accessFlags := 18, nameIndex := 15, descriptorIndex := 16, attributes := #[] }, { accessFlags := 18, nameIndex := 19, descriptorIndex := 20, attributes := #[] }])
  fields := #[{ name := "httpStatus", type := (.object "java/lang/Integer"), accessFlags := 18, slot := 0, constantValue := 0 }, { name := "confirmed", type := .boolean, accessFlags := 18, slot := 1, constantValue := 0 }, { name := "error", type := (.object "java/lang/String"), accessFlags := 18, slot := 2, constantValue := 0 }]
  methods := #[k8m0, k8m1, k8m2, k8m3, k8m4, k8m5, k8m6, k8m7]
  instanceTypes := #[(.object "java/lang/Integer"), .boolean, (.object "java/lang/String")]
  staticTypes := #[]
  resolved := Array.replicate 79 none
  statics := none }

def pool9 : Array CpInfo := pool [(2, .class_ 4), (1, u "java/lang/Object"), (0, u "<init>"), (0, u "()V"), (35, .class_ 44), (1, u "java/util/Objects"), (0, u "requireNonNull"), (48, u "(Ljava/lang/Object;Ljava/lang/String;)Ljava/lang/Object;")] 89

def k9m0 : Method := { name := "<init>", desc := "()V", sig := { parameters := [], returnType := none }, accessFlags := 2, code := none }
def k9c1 : Code := { maxStack := 3, maxLocals := 2, code := jdk_31_method_11_code, exceptionTable := #[], attributes := #[] }
def k9m1 : Method := { name := "requireNonNull", desc := "(Ljava/lang/Object;Ljava/lang/String;)Ljava/lang/Object;", sig := { parameters := [(.object "java/lang/Object"), (.object "java/lang/String")], returnType := some (.object "java/lang/Object") }, accessFlags := 9, code := some k9c1 }
/-- java/util/Objects -/
def k9 : Class := { plain "java/util/Objects" (some 0) with
  accessFlags := 49
  interfaces := #[]
  cf := some (fileOf pool9 42 #[] #[{ accessFlags := 2, nameIndex := 5, descriptorIndex := 6, attributes := #[] }, { accessFlags := 9, nameIndex := 45, descriptorIndex := 94, attributes := #[] }] 49 2 #[] #[])
  fields := #[]
  methods := #[k9m0, k9m1]
  instanceTypes := #[]
  staticTypes := #[]
  resolved := Array.replicate 184 none
  statics := none }

def pool10 : Array CpInfo := pool [(2, .class_ 4), (1, u "java/util/Optional"), (0, u "EMPTY"), (0, u "Ljava/util/Optional;"), (0, .methodref 8 9), (0, .class_ 10), (0, .nameAndType 11 12), (0, u "java/lang/Object"), (0, u "<init>"), (0, u "()V"), (0, .fieldref 2 14), (0, .nameAndType 15 16), (0, u "value"), (0, u "Ljava/lang/Object;"), (6, .methodref 2 24), (0, .nameAndType 11 25), (0, u "(Ljava/lang/Object;)V"), (20, u "()Z"), (17, u "ofNullable"), (0, u "(Ljava/lang/Object;)Ljava/util/Optional;"), (2, u "isPresent"), (4, u "get"), (0, u "()Ljava/lang/Object;")] 112

def k10c0 : Code := { maxStack := 2, maxLocals := 2, code := jdk_32_method_2_code, exceptionTable := #[], attributes := #[] }
def k10m0 : Method := { name := "<init>", desc := "(Ljava/lang/Object;)V", sig := { parameters := [(.object "java/lang/Object")], returnType := none }, accessFlags := 2, code := some k10c0 }
def k10c1 : Code := { maxStack := 3, maxLocals := 1, code := jdk_32_method_4_code, exceptionTable := #[], attributes := #[] }
def k10m1 : Method := { name := "ofNullable", desc := "(Ljava/lang/Object;)Ljava/util/Optional;", sig := { parameters := [(.object "java/lang/Object")], returnType := some (.object "java/util/Optional") }, accessFlags := 9, code := some k10c1 }
def k10c2 : Code := { maxStack := 3, maxLocals := 1, code := jdk_32_method_5_code, exceptionTable := #[], attributes := #[] }
def k10m2 : Method := { name := "get", desc := "()Ljava/lang/Object;", sig := { parameters := [], returnType := some (.object "java/lang/Object") }, accessFlags := 1, code := some k10c2 }
def k10c3 : Code := { maxStack := 1, maxLocals := 1, code := jdk_32_method_6_code, exceptionTable := #[], attributes := #[] }
def k10m3 : Method := { name := "isPresent", desc := "()Z", sig := { parameters := [], returnType := some .boolean }, accessFlags := 1, code := some k10c3 }
/-- java/util/Optional -/
def k10 : Class := { plain "java/util/Optional" (some 0) with
  accessFlags := 49
  interfaces := #[]
  cf := some (fileOf pool10 2 #[] #[{ accessFlags := 2, nameIndex := 11, descriptorIndex := 25, attributes := #[] }, { accessFlags := 9, nameIndex := 64, descriptorIndex := 65, attributes := #[] }, { accessFlags := 1, nameIndex := 73, descriptorIndex := 74, attributes := #[] }, { accessFlags := 1, nameIndex := 68, descriptorIndex := 46, attributes := #[] }] 49 8 #[] #[{ accessFlags := 26, nameIndex := 5, descriptorIndex := 6, attributes := #[] }, { accessFlags := 18, nameIndex := 15, descriptorIndex := 16, attributes := #[] }])
  fields := #[{ name := "EMPTY", type := (.object "java/util/Optional"), accessFlags := 26, slot := 0, constantValue := 0 }, { name := "value", type := (.object "java/lang/Object"), accessFlags := 18, slot := 0, constantValue := 0 }]
  methods := #[k10m0, k10m1, k10m2, k10m3]
  instanceTypes := #[(.object "java/lang/Object")]
  staticTypes := #[(.object "java/util/Optional")]
  resolved := Array.replicate 187 none
  statics := none }

def pool11 : Array CpInfo := pool [(2, .class_ 4), (1, u "java/lang/Object"), (0, u "<init>"), (0, u "()V"), (0, .fieldref 8 9), (0, .class_ 10), (0, .nameAndType 11 12), (0, u "java/util/OptionalInt"), (0, u "isPresent"), (0, u "Z"), (2, u "value"), (0, u "I"), (0, .fieldref 8 18), (0, .nameAndType 19 20), (0, u "EMPTY"), (0, u "Ljava/util/OptionalInt;"), (28, u "empty"), (46, u "()Ljava/util/OptionalInt;"), (2, u "()Z")] 36

def k11m0 : Method := { name := "<init>", desc := "()V", sig := { parameters := [], returnType := none }, accessFlags := 2, code := none }
def k11c1 : Code := { maxStack := 1, maxLocals := 0, code := jdk_2649_method_2_code, exceptionTable := #[], attributes := #[] }
def k11m1 : Method := { name := "empty", desc := "()Ljava/util/OptionalInt;", sig := { parameters := [], returnType := some (.object "java/util/OptionalInt") }, accessFlags := 9, code := some k11c1 }
def k11c2 : Code := { maxStack := 1, maxLocals := 1, code := jdk_2649_method_6_code, exceptionTable := #[], attributes := #[] }
def k11m2 : Method := { name := "isPresent", desc := "()Z", sig := { parameters := [], returnType := some .boolean }, accessFlags := 1, code := some k11c2 }
/-- java/util/OptionalInt -/
def k11 : Class := { plain "java/util/OptionalInt" (some 0) with
  accessFlags := 49
  interfaces := #[]
  cf := some (fileOf pool11 8 #[] #[{ accessFlags := 2, nameIndex := 5, descriptorIndex := 6, attributes := #[] }, { accessFlags := 9, nameIndex := 49, descriptorIndex := 96, attributes := #[] }, { accessFlags := 1, nameIndex := 11, descriptorIndex := 99, attributes := #[] }] 49 2 #[] #[{ accessFlags := 26, nameIndex := 19, descriptorIndex := 20, attributes := #[] }, { accessFlags := 18, nameIndex := 11, descriptorIndex := 12, attributes := #[] }, { accessFlags := 18, nameIndex := 15, descriptorIndex := 16, attributes := #[] }])
  fields := #[{ name := "EMPTY", type := (.object "java/util/OptionalInt"), accessFlags := 26, slot := 0, constantValue := 0 }, { name := "isPresent", type := .boolean, accessFlags := 18, slot := 0, constantValue := 0 }, { name := "value", type := .int, accessFlags := 18, slot := 1, constantValue := 0 }]
  methods := #[k11m0, k11m1, k11m2]
  instanceTypes := #[.boolean, .int]
  staticTypes := #[(.object "java/util/OptionalInt")]
  resolved := Array.replicate 136 none
  statics := some 1 }

def pool12 : Array CpInfo := pool [(6, .class_ 8), (1, u "java/lang/Object"), (0, u "<init>"), (0, u "()V"), (1, .class_ 14), (1, u "java/lang/StringUTF16"), (31, u "$assertionsDisabled"), (0, u "Z"), (13, u "HI_BYTE_SHIFT"), (0, u "I"), (2, u "LO_BYTE_SHIFT"), (49, .methodref 12 116), (0, .nameAndType 117 118), (0, u "compress"), (0, u "([CI[BII)I"), (3, u "([CII)[B"), (138, u "coderFromArrayLen"), (0, u "([BI)B"), (106, .class_ 371), (1, u "java/lang/StringUTF16$LinesSpliterator"), (58, u "MAX_LENGTH"), (196, .class_ 628), (0, u "java/lang/StringUTF16$CodePointsSpliterator"), (0, .class_ 630), (0, u "java/lang/StringUTF16$CharsSpliterator")] 4

def k12m0 : Method := { name := "<init>", desc := "()V", sig := { parameters := [], returnType := none }, accessFlags := 0, code := none }
def k12c1 : Code := { maxStack := 2, maxLocals := 2, code := jdk_52_method_15_code, exceptionTable := #[], attributes := #[] }
def k12m1 : Method := { name := "coderFromArrayLen", desc := "([BI)B", sig := { parameters := [(.array .byte), .int], returnType := some .byte }, accessFlags := 8, code := some k12c1 }
def k12c2 : Code := { maxStack := 5, maxLocals := 6, code := jdk_52_method_16_code, exceptionTable := #[], attributes := #[] }
def k12m2 : Method := { name := "compress", desc := "([CII)[B", sig := { parameters := [(.array .char), .int, .int], returnType := some (.array .byte) }, accessFlags := 9, code := some k12c2 }
def k12c3 : Code := { maxStack := 3, maxLocals := 7, code := jdk_52_method_21_code, exceptionTable := #[], attributes := #[] }
def k12m3 : Method := { name := "compress", desc := "([CI[BII)I", sig := { parameters := [(.array .char), .int, (.array .byte), .int, .int], returnType := some .int }, accessFlags := 9, code := some k12c3 }
/-- java/lang/StringUTF16 -/
def k12 : Class := { plain "java/lang/StringUTF16" (some 0) with
  accessFlags := 48
  interfaces := #[]
  cf := some (fileOf pool12 12 #[.nestMembers #[627, 629, 369]] #[{ accessFlags := 0, nameIndex := 9, descriptorIndex := 10, attributes := #[] }, { accessFlags := 8, nameIndex := 261, descriptorIndex := 262, attributes := #[] }, { accessFlags := 9, nameIndex := 117, descriptorIndex := 122, attributes := #[] }, { accessFlags := 9, nameIndex := 117, descriptorIndex := 118, attributes := #[] }] 48 6 #[] #[{ accessFlags := 26, nameIndex := 61, descriptorIndex := 62, attributes := #[] }, { accessFlags := 26, nameIndex := 65, descriptorIndex := 62, attributes := #[] }, { accessFlags := 24, nameIndex := 430, descriptorIndex := 62, attributes := #[] }, { accessFlags := 4120, nameIndex := 46, descriptorIndex := 47, attributes := #[] }])
  fields := #[{ name := "HI_BYTE_SHIFT", type := .int, accessFlags := 26, slot := 0, constantValue := 0 }, { name := "LO_BYTE_SHIFT", type := .int, accessFlags := 26, slot := 1, constantValue := 0 }, { name := "MAX_LENGTH", type := .int, accessFlags := 24, slot := 2, constantValue := 0 }, { name := "$assertionsDisabled", type := .boolean, accessFlags := 4120, slot := 3, constantValue := 0 }]
  methods := #[k12m0, k12m1, k12m2, k12m3]
  instanceTypes := #[]
  staticTypes := #[.int, .int, .int, .boolean]
  resolved := Array.replicate 635 none
  statics := none }

def pool13 : Array CpInfo := pool [(4, .class_ 6), (1, u "java/lang/Object"), (0, u "<init>"), (0, u "()V"), (5, .class_ 16), (1, u "java/lang/StringLatin1"), (104, u "$assertionsDisabled"), (0, u "Z"), (98, .class_ 223), (1, u "java/lang/StringLatin1$LinesSpliterator"), (166, .class_ 391), (0, u "java/lang/StringLatin1$CharsSpliterator")] 3

def k13m0 : Method := { name := "<init>", desc := "()V", sig := { parameters := [], returnType := none }, accessFlags := 0, code := none }
/-- java/lang/StringLatin1 -/
def k13 : Class := { plain "java/lang/StringLatin1" (some 0) with
  accessFlags := 48
  interfaces := #[]
  cf := some (fileOf pool13 14 #[.nestMembers #[390, 221]] #[{ accessFlags := 0, nameIndex := 7, descriptorIndex := 8, attributes := #[] }] 48 4 #[] #[{ accessFlags := 4120, nameIndex := 121, descriptorIndex := 122, attributes := #[] }])
  fields := #[{ name := "$assertionsDisabled", type := .boolean, accessFlags := 4120, slot := 0, constantValue := 0 }]
  methods := #[k13m0]
  instanceTypes := #[]
  staticTypes := #[.boolean]
  resolved := Array.replicate 395 none
  statics := none }

def pool14 : Array CpInfo := pool [(2, .class_ 4), (1, u "java/lang/Object"), (0, u "<init>"), (0, u "()V"), (17, .class_ 26), (1, u "jdk/internal/util/Preconditions"), (28, .class_ 56), (0, u "jdk/internal/util/Preconditions$4"), (57, .class_ 115), (0, u "jdk/internal/util/Preconditions$1"), (7, u "SIOOBE_FORMATTER"), (0, u "Ljava/util/function/BiFunction;"), (0, .class_ 126), (0, u "jdk/internal/util/Preconditions$2"), (3, u "AIOOBE_FORMATTER"), (0, .class_ 132), (0, u "jdk/internal/util/Preconditions$3"), (3, u "IOOBE_FORMATTER")] 57

def k14m0 : Method := { name := "<init>", desc := "()V", sig := { parameters := [], returnType := none }, accessFlags := 1, code := none }
/-- jdk/internal/util/Preconditions -/
def k14 : Class := { plain "jdk/internal/util/Preconditions" (some 0) with
  accessFlags := 33
  interfaces := #[]
  cf := some (fileOf pool14 24 #[.nestMembers #[55, 131, 125, 114]] #[{ accessFlags := 1, nameIndex := 5, descriptorIndex := 6, attributes := #[] }] 33 2 #[] #[{ accessFlags := 25, nameIndex := 123, descriptorIndex := 124, attributes := #[] }, { accessFlags := 25, nameIndex := 130, descriptorIndex := 124, attributes := #[] }, { accessFlags := 25, nameIndex := 136, descriptorIndex := 124, attributes := #[] }])
  fields := #[{ name := "SIOOBE_FORMATTER", type := (.object "java/util/function/BiFunction"), accessFlags := 25, slot := 0, constantValue := 0 }, { name := "AIOOBE_FORMATTER", type := (.object "java/util/function/BiFunction"), accessFlags := 25, slot := 1, constantValue := 0 }, { name := "IOOBE_FORMATTER", type := (.object "java/util/function/BiFunction"), accessFlags := 25, slot := 2, constantValue := 0 }]
  methods := #[k14m0]
  instanceTypes := #[]
  staticTypes := #[(.object "java/util/function/BiFunction"), (.object "java/util/function/BiFunction"), (.object "java/util/function/BiFunction")]
  resolved := Array.replicate 194 none
  statics := some 2 }

def pool15 : Array CpInfo := pool [(9, u "<init>"), (6, .class_ 18), (1, u "java/lang/Object"), (0, u "()V"), (1, .class_ 23), (1, u "jdk/internal/util/ArraysSupport"), (0, u "LOG2_ARRAY_LONG_INDEX_SCALE"), (0, u "I"), (2, u "U"), (0, u "Ljdk/internal/misc/Unsafe;"), (8, u "BIG_ENDIAN"), (0, u "Z"), (8, u "LOG2_BYTE_BIT_SIZE"), (4, u "LOG2_ARRAY_INT_INDEX_SCALE"), (54, u "JLA"), (0, u "Ljdk/internal/access/JavaLangAccess;"), (11, u "LOG2_ARRAY_BOOLEAN_INDEX_SCALE"), (9, u "LOG2_ARRAY_BYTE_INDEX_SCALE"), (5, u "LOG2_ARRAY_CHAR_INDEX_SCALE"), (5, u "LOG2_ARRAY_SHORT_INDEX_SCALE"), (18, u "LOG2_ARRAY_FLOAT_INDEX_SCALE"), (24, u "LOG2_ARRAY_DOUBLE_INDEX_SCALE"), (89, u "T_BOOLEAN"), (2, u "T_CHAR"), (1, u "T_FLOAT"), (1, u "T_DOUBLE"), (1, u "T_BYTE"), (1, u "T_SHORT"), (1, u "T_INT"), (1, u "T_LONG"), (1, u "SOFT_MAX_ARRAY_LENGTH")] 83

def k15m0 : Method := { name := "<init>", desc := "()V", sig := { parameters := [], returnType := none }, accessFlags := 2, code := none }
/-- jdk/internal/util/ArraysSupport -/
def k15 : Class := { plain "jdk/internal/util/ArraysSupport" (some 0) with
  accessFlags := 33
  interfaces := #[]
  cf := some (fileOf pool15 21 #[] #[{ accessFlags := 2, nameIndex := 9, descriptorIndex := 19, attributes := #[] }] 33 16 #[] #[{ accessFlags := 24, nameIndex := 28, descriptorIndex := 29, attributes := #[] }, { accessFlags := 26, nameIndex := 38, descriptorIndex := 39, attributes := #[] }, { accessFlags := 25, nameIndex := 121, descriptorIndex := 25, attributes := #[] }, { accessFlags := 25, nameIndex := 131, descriptorIndex := 25, attributes := #[] }, { accessFlags := 25, nameIndex := 137, descriptorIndex := 25, attributes := #[] }, { accessFlags := 25, nameIndex := 143, descriptorIndex := 25, attributes := #[] }, { accessFlags := 25, nameIndex := 53, descriptorIndex := 25, attributes := #[] }, { accessFlags := 25, nameIndex := 24, descriptorIndex := 25, attributes := #[] }, { accessFlags := 25, nameIndex := 162, descriptorIndex := 25, attributes := #[] }, { accessFlags := 25, nameIndex := 187, descriptorIndex := 25, attributes := #[] }, { accessFlags := 26, nameIndex := 48, descriptorIndex := 25, attributes := #[] }, { accessFlags := 25, nameIndex := 277, descriptorIndex := 25, attributes := #[] }, { accessFlags := 25, nameIndex := 280, descriptorIndex := 25, attributes := #[] }, { accessFlags := 25, nameIndex := 282, descriptorIndex := 25, attributes := #[] }, { accessFlags := 25, nameIndex := 284, descriptorIndex := 25, attributes := #[] }, { accessFlags := 25, nameIndex := 286, descriptorIndex := 25, attributes := #[] }, { accessFlags := 25, nameIndex := 288, descriptorIndex := 25, attributes := #[] }, { accessFlags := 25, nameIndex := 290, descriptorIndex := 25, attributes := #[] }, { accessFlags := 25, nameIndex := 292, descriptorIndex := 25, attributes := #[] }, { accessFlags := 26, nameIndex := 108, descriptorIndex := 109, attributes := #[] }, { accessFlags := 25, nameIndex := 294, descriptorIndex := 25, attributes := #[] }])
  fields := #[{ name := "U", type := (.object "jdk/internal/misc/Unsafe"), accessFlags := 24, slot := 0, constantValue := 0 }, { name := "BIG_ENDIAN", type := .boolean, accessFlags := 26, slot := 1, constantValue := 0 }, { name := "LOG2_ARRAY_BOOLEAN_INDEX_SCALE", type := .int, accessFlags := 25, slot := 2, constantValue := 0 }, { name := "LOG2_ARRAY_BYTE_INDEX_SCALE", type := .int, accessFlags := 25, slot := 3, constantValue := 0 }, { name := "LOG2_ARRAY_CHAR_INDEX_SCALE", type := .int, accessFlags := 25, slot := 4, constantValue := 0 }, { name := "LOG2_ARRAY_SHORT_INDEX_SCALE", type := .int, accessFlags := 25, slot := 5, constantValue := 0 }, { name := "LOG2_ARRAY_INT_INDEX_SCALE", type := .int, accessFlags := 25, slot := 6, constantValue := 0 }, { name := "LOG2_ARRAY_LONG_INDEX_SCALE", type := .int, accessFlags := 25, slot := 7, constantValue := 0 }, { name := "LOG2_ARRAY_FLOAT_INDEX_SCALE", type := .int, accessFlags := 25, slot := 8, constantValue := 0 }, { name := "LOG2_ARRAY_DOUBLE_INDEX_SCALE", type := .int, accessFlags := 25, slot := 9, constantValue := 0 }, { name := "LOG2_BYTE_BIT_SIZE", type := .int, accessFlags := 26, slot := 10, constantValue := 0 }, { name := "T_BOOLEAN", type := .int, accessFlags := 25, slot := 11, constantValue := 0 }, { name := "T_CHAR", type := .int, accessFlags := 25, slot := 12, constantValue := 0 }, { name := "T_FLOAT", type := .int, accessFlags := 25, slot := 13, constantValue := 0 }, { name := "T_DOUBLE", type := .int, accessFlags := 25, slot := 14, constantValue := 0 }, { name := "T_BYTE", type := .int, accessFlags := 25, slot := 15, constantValue := 0 }, { name := "T_SHORT", type := .int, accessFlags := 25, slot := 16, constantValue := 0 }, { name := "T_INT", type := .int, accessFlags := 25, slot := 17, constantValue := 0 }, { name := "T_LONG", type := .int, accessFlags := 25, slot := 18, constantValue := 0 }, { name := "JLA", type := (.object "jdk/internal/access/JavaLangAccess"), accessFlags := 26, slot := 19, constantValue := 0 }, { name := "SOFT_MAX_ARRAY_LENGTH", type := .int, accessFlags := 25, slot := 20, constantValue := 0 }]
  methods := #[k15m0]
  instanceTypes := #[]
  staticTypes := #[(.object "jdk/internal/misc/Unsafe"), .boolean, .int, .int, .int, .int, .int, .int, .int, .int, .int, .int, .int, .int, .int, .int, .int, .int, .int, (.object "jdk/internal/access/JavaLangAccess"), .int]
  resolved := Array.replicate 378 none
  statics := none }

def pool16 : Array CpInfo := pool [(1, u "java/lang/Cloneable"), (0, .class_ 1), (0, u "java/lang/Object"), (0, .class_ 3)] 3

/-- java/lang/Cloneable -/
def k16 : Class := { plain "java/lang/Cloneable" (some 0) with
  accessFlags := 1537
  interfaces := #[]
  cf := some (fileOf pool16 2 #[] #[] 1537 4 #[] #[])
  fields := #[]
  methods := #[]
  instanceTypes := #[]
  staticTypes := #[]
  resolved := Array.replicate 8 none
  statics := none }

/-- the primitive byte -/
def k17 : Class := { plain "byte" none with kind := .primitive 'B', accessFlags := 0x411 }
/-- [B -/
def k18 : Class := { plain "[B" (some 0) with kind := .array 17 .byte, interfaces := #[16, 2], accessFlags := 1041 }

/-- the primitive char -/
def k19 : Class := { plain "char" none with kind := .primitive 'C', accessFlags := 0x411 }
/-- [C -/
def k20 : Class := { plain "[C" (some 0) with kind := .array 19 .char, interfaces := #[16, 2], accessFlags := 1041 }

/-- the primitive int -/
def k21 : Class := { plain "int" none with kind := .primitive 'I', accessFlags := 0x411 }
/-- [I -/
def k22 : Class := { plain "[I" (some 0) with kind := .array 21 .int, interfaces := #[16, 2], accessFlags := 1041 }

def heap : Heap := #[{ cls := 7, slots := #[.long 0, .int 1, .null, .int 0, .null, .int 0, .int 0], vm := .statics 7 },
  { cls := 11, slots := #[.ref 3], vm := .statics 11 },
  { cls := 14, slots := #[.null, .null, .null], vm := .statics 14 },
  { cls := 11, slots := #[.int 0, .int 0], vm := .none }]
def classes : Array Class := #[k0, k1, k2, k3, k4, k5, k6, k7, k8, k9, k10, k11, k12, k13, k14, k15, k16, k17, k18, k19, k20, k21, k22]
def interned : List (Array UInt16 × Addr) := []
def slotsUsed : Nat := 13
def theMethod : MethodId := ⟨1, 1⟩
def args0 : Array Value := #[.int 2, .int 65, .int 66, .int 67]
def aboutOver (below : List Frame) : State where
  vm := { classes := classes, interned := interned.toArray }
  heap := heap
  slotsUsed := slotsUsed
  threads := #[{ frames := .invoking theMethod args0 :: below }]
def below0 : List Frame := [.native { method := ⟨0, 0⟩, args := #[] }]
def about1 : State := aboutOver below0
def p0 : Program := .bare "" "" ""
def e0 : Env := launch0.env 0 0 0
theorem w_frames : about1.frames = Frame.invoking theMethod args0 :: below0 := rfl
set_option maxRecDepth 65536 in
theorem w_args : argsFit about1.vm theMethod args0 = true := by decide +kernel
set_option maxRecDepth 65536 in
theorem w_heap : heapFits about1 = true := by decide +kernel
set_option maxRecDepth 65536 in
theorem w_runnable : about1.curStatus? = some .runnable := by decide +kernel
set_option maxRecDepth 65536 in
theorem w_alone : about1.alone = true := by decide +kernel
set_option maxRecDepth 65536 in
theorem w_named : about1.methodNamed? x = some theMethod := by decide +kernel
set_option maxRecDepth 65536 in
theorem w_hears : about1.hears theMethod below0 = true := by decide +kernel
set_option maxRecDepth 65536 in
theorem w_ripe : about1.ripe theMethod args0 below0 = true := by decide +kernel
theorem w_running : about1.status = .running := rfl
set_option maxRecDepth 65536 in
theorem w_room : about1.hasRoom e0.platform room_1 = true :=
  launch0.hasRoom_least _ room_1 (by decide +kernel) (by decide +kernel) (by decide +kernel) (by decide +kernel) (by decide +kernel) (by decide +kernel)
theorem allAtoms_all (ts : List Jvm.Cond) (a : Array Jvm.Value) (st : Jvm.State) : (allAtoms ts).before a st = ts.all (fun c => c.before a st) := by
  induction ts with
  | nil => rfl
  | cons c t ih =>
    show (Jvm.Cond.and c (allAtoms t)).before a st = _
    rw [Jvm.Cond.before_and, ih, List.all_cons]
def words1 : List Jvm.Cond := Jvm.Cond.code x code maxLocals ret :: tables_1
/-- a 'code' word, met by the world's own term for the bytes: nothing is compared byte by byte -/
theorem code_word {y : MethodName} {bytes : ByteArray} {mx : Nat} {rt : Option FieldType} {a : Array Value} {s : State} {m : MethodId} {meth : Method} {c : Code} (h1 : s.methodNamed? y = some m) (h2 : s.vm.method? m = some meth) (h3 : meth.code = some c) (h4 : c.code = bytes)
    (h5 : (c.maxLocals == mx && c.exceptionTable.isEmpty && decide (c.maxStack ≤ mostOperands) && decide (meth.sig.returnType = rt) && !meth.locks && decide (parseMethodDescriptor y.desc = some meth.sig)) = true) : (Jvm.Cond.code y bytes mx rt).before a s = true := by
  simp only [Bool.and_eq_true, beq_iff_eq, Bool.not_eq_true', decide_eq_true_eq] at h5
  obtain ⟨⟨⟨⟨⟨g1, g2⟩, g3⟩, g4⟩, g5⟩, g6⟩ := h5
  simp [Cond.before, Cond.holds, Cond.value, h1, h2, h3, h4, g1, g2, g3, g4, g5, g6]
def isCode : Jvm.Cond → Bool
  | .code _ _ _ _ => true
  | _ => false
theorem all_split {L : List Jvm.Cond} {P : Jvm.Cond → Bool} (h1 : L.all (fun c => isCode c || P c) = true) (h2 : ∀ c ∈ L.filter isCode, P c = true) : L.all P = true := by
  refine List.all_eq_true.mpr fun c hc => ?_
  have h := List.all_eq_true.mp h1 c hc
  rcases Bool.eq_false_or_eq_true (isCode c) with hi | hi
  · exact h2 c (List.mem_filter.mpr ⟨hc, hi⟩)
  · simpa [hi] using h
set_option maxRecDepth 65536 in
theorem w_c0 : (Jvm.Cond.code x code maxLocals ret).before args0 about1 = true := code_word (m := ⟨1, 1⟩) (meth := k1m1) (c := k1c1) (by decide +kernel) rfl rfl rfl (by decide +kernel)
set_option maxRecDepth 65536 in
theorem w_c1 : (Jvm.Cond.code ({ cls := "com/example/periodic_jobs/periodicjobs/engine/DeliveryResultFailedPinLaw", name := "draw", desc := "(IIII)Ljava/lang/String;" } : Jvm.MethodName) method_3_code (8 : Nat) (Option.some (Jvm.ClassFile.FieldType.object "java/lang/String"))).before args0 about1 = true := code_word (m := ⟨1, 2⟩) (meth := k1m2) (c := k1c2) (by decide +kernel) rfl rfl rfl (by decide +kernel)
set_option maxRecDepth 65536 in
theorem w_c2 : (Jvm.Cond.code ({ cls := "java/lang/String", name := "<init>", desc := "([C)V" } : Jvm.MethodName) jdk_42_method_3_code (2 : Nat) (Option.none : Option Jvm.ClassFile.FieldType)).before args0 about1 = true := code_word (m := ⟨7, 1⟩) (meth := k7m1) (c := k7c1) (by decide +kernel) rfl rfl rfl (by decide +kernel)
set_option maxRecDepth 65536 in
theorem w_c3 : (Jvm.Cond.code ({ cls := "java/lang/String", name := "<init>", desc := "([CIILjava/lang/Void;)V" } : Jvm.MethodName) jdk_42_method_149_code (6 : Nat) (Option.none : Option Jvm.ClassFile.FieldType)).before args0 about1 = true := code_word (m := ⟨7, 3⟩) (meth := k7m3) (c := k7c3) (by decide +kernel) rfl rfl rfl (by decide +kernel)
set_option maxRecDepth 65536 in
theorem w_c4 : (Jvm.Cond.code ({ cls := "java/lang/Object", name := "<init>", desc := "()V" } : Jvm.MethodName) object_method_1_code (1 : Nat) (Option.none : Option Jvm.ClassFile.FieldType)).before args0 about1 = true := code_word (m := ⟨0, 0⟩) (meth := k0m0) (c := k0c0) (by decide +kernel) rfl rfl rfl (by decide +kernel)
set_option maxRecDepth 65536 in
theorem w_c5 : (Jvm.Cond.code ({ cls := "com/example/periodic_jobs/periodicjobs/engine/DeliveryResult", name := "failed", desc := "(Ljava/lang/String;)Lcom/example/periodic_jobs/periodicjobs/engine/DeliveryResult;" } : Jvm.MethodName) prog_9_method_4_code (1 : Nat) (Option.some (Jvm.ClassFile.FieldType.object "com/example/periodic_jobs/periodicjobs/engine/DeliveryResult"))).before args0 about1 = true := code_word (m := ⟨8, 1⟩) (meth := k8m1) (c := k8c1) (by decide +kernel) rfl rfl rfl (by decide +kernel)
set_option maxRecDepth 65536 in
theorem w_c6 : (Jvm.Cond.code ({ cls := "java/util/Objects", name := "requireNonNull", desc := "(Ljava/lang/Object;Ljava/lang/String;)Ljava/lang/Object;" } : Jvm.MethodName) jdk_31_method_11_code (2 : Nat) (Option.some (Jvm.ClassFile.FieldType.object "java/lang/Object"))).before args0 about1 = true := code_word (m := ⟨9, 1⟩) (meth := k9m1) (c := k9c1) (by decide +kernel) rfl rfl rfl (by decide +kernel)
set_option maxRecDepth 65536 in
theorem w_c7 : (Jvm.Cond.code ({ cls := "com/example/periodic_jobs/periodicjobs/engine/DeliveryResult", name := "<init>", desc := "(Ljava/lang/Integer;ZLjava/lang/String;)V" } : Jvm.MethodName) prog_9_method_1_code (4 : Nat) (Option.none : Option Jvm.ClassFile.FieldType)).before args0 about1 = true := code_word (m := ⟨8, 0⟩) (meth := k8m0) (c := k8c0) (by decide +kernel) rfl rfl rfl (by decide +kernel)
set_option maxRecDepth 65536 in
theorem w_c8 : (Jvm.Cond.code ({ cls := "com/example/periodic_jobs/periodicjobs/engine/DeliveryResult", name := "getError", desc := "()Ljava/util/Optional;" } : Jvm.MethodName) prog_9_method_7_code (1 : Nat) (Option.some (Jvm.ClassFile.FieldType.object "java/util/Optional"))).before args0 about1 = true := code_word (m := ⟨8, 4⟩) (meth := k8m4) (c := k8c4) (by decide +kernel) rfl rfl rfl (by decide +kernel)
set_option maxRecDepth 65536 in
theorem w_c9 : (Jvm.Cond.code ({ cls := "java/util/Optional", name := "ofNullable", desc := "(Ljava/lang/Object;)Ljava/util/Optional;" } : Jvm.MethodName) jdk_32_method_4_code (1 : Nat) (Option.some (Jvm.ClassFile.FieldType.object "java/util/Optional"))).before args0 about1 = true := code_word (m := ⟨10, 1⟩) (meth := k10m1) (c := k10c1) (by decide +kernel) rfl rfl rfl (by decide +kernel)
set_option maxRecDepth 65536 in
theorem w_c10 : (Jvm.Cond.code ({ cls := "java/util/Optional", name := "<init>", desc := "(Ljava/lang/Object;)V" } : Jvm.MethodName) jdk_32_method_2_code (2 : Nat) (Option.none : Option Jvm.ClassFile.FieldType)).before args0 about1 = true := code_word (m := ⟨10, 0⟩) (meth := k10m0) (c := k10c0) (by decide +kernel) rfl rfl rfl (by decide +kernel)
set_option maxRecDepth 65536 in
theorem w_c11 : (Jvm.Cond.code ({ cls := "java/util/Optional", name := "isPresent", desc := "()Z" } : Jvm.MethodName) jdk_32_method_6_code (1 : Nat) (Option.some Jvm.ClassFile.FieldType.boolean)).before args0 about1 = true := code_word (m := ⟨10, 3⟩) (meth := k10m3) (c := k10c3) (by decide +kernel) rfl rfl rfl (by decide +kernel)
set_option maxRecDepth 65536 in
theorem w_c12 : (Jvm.Cond.code ({ cls := "java/util/Optional", name := "get", desc := "()Ljava/lang/Object;" } : Jvm.MethodName) jdk_32_method_5_code (1 : Nat) (Option.some (Jvm.ClassFile.FieldType.object "java/lang/Object"))).before args0 about1 = true := code_word (m := ⟨10, 2⟩) (meth := k10m2) (c := k10c2) (by decide +kernel) rfl rfl rfl (by decide +kernel)
set_option maxRecDepth 65536 in
theorem w_c13 : (Jvm.Cond.code ({ cls := "java/lang/String", name := "equals", desc := "(Ljava/lang/Object;)Z" } : Jvm.MethodName) jdk_42_method_66_code (3 : Nat) (Option.some Jvm.ClassFile.FieldType.boolean)).before args0 about1 = true := code_word (m := ⟨7, 2⟩) (meth := k7m2) (c := k7c2) (by decide +kernel) rfl rfl rfl (by decide +kernel)
set_option maxRecDepth 65536 in
theorem w_c14 : (Jvm.Cond.code ({ cls := "com/example/periodic_jobs/periodicjobs/engine/DeliveryResult", name := "getHttpStatus", desc := "()Ljava/util/OptionalInt;" } : Jvm.MethodName) prog_9_method_5_code (1 : Nat) (Option.some (Jvm.ClassFile.FieldType.object "java/util/OptionalInt"))).before args0 about1 = true := code_word (m := ⟨8, 2⟩) (meth := k8m2) (c := k8c2) (by decide +kernel) rfl rfl rfl (by decide +kernel)
set_option maxRecDepth 65536 in
theorem w_c15 : (Jvm.Cond.code ({ cls := "java/util/OptionalInt", name := "empty", desc := "()Ljava/util/OptionalInt;" } : Jvm.MethodName) jdk_2649_method_2_code (0 : Nat) (Option.some (Jvm.ClassFile.FieldType.object "java/util/OptionalInt"))).before args0 about1 = true := code_word (m := ⟨11, 1⟩) (meth := k11m1) (c := k11c1) (by decide +kernel) rfl rfl rfl (by decide +kernel)
set_option maxRecDepth 65536 in
theorem w_c16 : (Jvm.Cond.code ({ cls := "java/util/OptionalInt", name := "isPresent", desc := "()Z" } : Jvm.MethodName) jdk_2649_method_6_code (1 : Nat) (Option.some Jvm.ClassFile.FieldType.boolean)).before args0 about1 = true := code_word (m := ⟨11, 2⟩) (meth := k11m2) (c := k11c2) (by decide +kernel) rfl rfl rfl (by decide +kernel)
set_option maxRecDepth 65536 in
theorem w_c17 : (Jvm.Cond.code ({ cls := "com/example/periodic_jobs/periodicjobs/engine/DeliveryResult", name := "isConfirmed", desc := "()Z" } : Jvm.MethodName) prog_9_method_6_code (1 : Nat) (Option.some Jvm.ClassFile.FieldType.boolean)).before args0 about1 = true := code_word (m := ⟨8, 3⟩) (meth := k8m3) (c := k8c3) (by decide +kernel) rfl rfl rfl (by decide +kernel)
set_option maxRecDepth 65536 in
theorem w_c18 : (Jvm.Cond.code ({ cls := "com/example/periodic_jobs/periodicjobs/engine/DeliveryResult", name := "isSuccess", desc := "()Z" } : Jvm.MethodName) prog_9_method_8_code (1 : Nat) (Option.some Jvm.ClassFile.FieldType.boolean)).before args0 about1 = true := code_word (m := ⟨8, 5⟩) (meth := k8m5) (c := k8c5) (by decide +kernel) rfl rfl rfl (by decide +kernel)
set_option maxRecDepth 65536 in
theorem w_c19 : (Jvm.Cond.code ({ cls := "com/example/periodic_jobs/periodicjobs/engine/DeliveryResult", name := "isAccepted", desc := "()Z" } : Jvm.MethodName) prog_9_method_9_code (1 : Nat) (Option.some Jvm.ClassFile.FieldType.boolean)).before args0 about1 = true := code_word (m := ⟨8, 6⟩) (meth := k8m6) (c := k8c6) (by decide +kernel) rfl rfl rfl (by decide +kernel)
set_option maxRecDepth 65536 in
theorem w_c20 : (Jvm.Cond.code ({ cls := "com/example/periodic_jobs/periodicjobs/engine/DeliveryResult", name := "isWorthRetrying", desc := "()Z" } : Jvm.MethodName) prog_9_method_10_code (1 : Nat) (Option.some Jvm.ClassFile.FieldType.boolean)).before args0 about1 = true := code_word (m := ⟨8, 7⟩) (meth := k8m7) (c := k8c7) (by decide +kernel) rfl rfl rfl (by decide +kernel)
set_option maxRecDepth 65536 in
theorem w_c21 : (Jvm.Cond.code ({ cls := "java/lang/StringUTF16", name := "compress", desc := "([CII)[B" } : Jvm.MethodName) jdk_52_method_16_code (6 : Nat) (Option.some (Jvm.ClassFile.FieldType.array Jvm.ClassFile.FieldType.byte))).before args0 about1 = true := code_word (m := ⟨12, 2⟩) (meth := k12m2) (c := k12c2) (by decide +kernel) rfl rfl rfl (by decide +kernel)
set_option maxRecDepth 65536 in
theorem w_c22 : (Jvm.Cond.code ({ cls := "java/lang/StringUTF16", name := "compress", desc := "([CI[BII)I" } : Jvm.MethodName) jdk_52_method_21_code (7 : Nat) (Option.some Jvm.ClassFile.FieldType.int)).before args0 about1 = true := code_word (m := ⟨12, 3⟩) (meth := k12m3) (c := k12c3) (by decide +kernel) rfl rfl rfl (by decide +kernel)
set_option maxRecDepth 65536 in
theorem w_c23 : (Jvm.Cond.code ({ cls := "java/lang/StringUTF16", name := "coderFromArrayLen", desc := "([BI)B" } : Jvm.MethodName) jdk_52_method_15_code (2 : Nat) (Option.some Jvm.ClassFile.FieldType.byte)).before args0 about1 = true := code_word (m := ⟨12, 1⟩) (meth := k12m1) (c := k12c1) (by decide +kernel) rfl rfl rfl (by decide +kernel)
def codes1 : List Jvm.Cond := [Jvm.Cond.code x code maxLocals ret, Jvm.Cond.code ({ cls := "com/example/periodic_jobs/periodicjobs/engine/DeliveryResultFailedPinLaw", name := "draw", desc := "(IIII)Ljava/lang/String;" } : Jvm.MethodName) method_3_code (8 : Nat) (Option.some (Jvm.ClassFile.FieldType.object "java/lang/String")), Jvm.Cond.code ({ cls := "java/lang/String", name := "<init>", desc := "([C)V" } : Jvm.MethodName) jdk_42_method_3_code (2 : Nat) (Option.none : Option Jvm.ClassFile.FieldType), Jvm.Cond.code ({ cls := "java/lang/String", name := "<init>", desc := "([CIILjava/lang/Void;)V" } : Jvm.MethodName) jdk_42_method_149_code (6 : Nat) (Option.none : Option Jvm.ClassFile.FieldType), Jvm.Cond.code ({ cls := "java/lang/Object", name := "<init>", desc := "()V" } : Jvm.MethodName) object_method_1_code (1 : Nat) (Option.none : Option Jvm.ClassFile.FieldType), Jvm.Cond.code ({ cls := "com/example/periodic_jobs/periodicjobs/engine/DeliveryResult", name := "failed", desc := "(Ljava/lang/String;)Lcom/example/periodic_jobs/periodicjobs/engine/DeliveryResult;" } : Jvm.MethodName) prog_9_method_4_code (1 : Nat) (Option.some (Jvm.ClassFile.FieldType.object "com/example/periodic_jobs/periodicjobs/engine/DeliveryResult")), Jvm.Cond.code ({ cls := "java/util/Objects", name := "requireNonNull", desc := "(Ljava/lang/Object;Ljava/lang/String;)Ljava/lang/Object;" } : Jvm.MethodName) jdk_31_method_11_code (2 : Nat) (Option.some (Jvm.ClassFile.FieldType.object "java/lang/Object")), Jvm.Cond.code ({ cls := "com/example/periodic_jobs/periodicjobs/engine/DeliveryResult", name := "<init>", desc := "(Ljava/lang/Integer;ZLjava/lang/String;)V" } : Jvm.MethodName) prog_9_method_1_code (4 : Nat) (Option.none : Option Jvm.ClassFile.FieldType), Jvm.Cond.code ({ cls := "com/example/periodic_jobs/periodicjobs/engine/DeliveryResult", name := "getError", desc := "()Ljava/util/Optional;" } : Jvm.MethodName) prog_9_method_7_code (1 : Nat) (Option.some (Jvm.ClassFile.FieldType.object "java/util/Optional")), Jvm.Cond.code ({ cls := "java/util/Optional", name := "ofNullable", desc := "(Ljava/lang/Object;)Ljava/util/Optional;" } : Jvm.MethodName) jdk_32_method_4_code (1 : Nat) (Option.some (Jvm.ClassFile.FieldType.object "java/util/Optional")), Jvm.Cond.code ({ cls := "java/util/Optional", name := "<init>", desc := "(Ljava/lang/Object;)V" } : Jvm.MethodName) jdk_32_method_2_code (2 : Nat) (Option.none : Option Jvm.ClassFile.FieldType), Jvm.Cond.code ({ cls := "java/util/Optional", name := "isPresent", desc := "()Z" } : Jvm.MethodName) jdk_32_method_6_code (1 : Nat) (Option.some Jvm.ClassFile.FieldType.boolean), Jvm.Cond.code ({ cls := "java/util/Optional", name := "get", desc := "()Ljava/lang/Object;" } : Jvm.MethodName) jdk_32_method_5_code (1 : Nat) (Option.some (Jvm.ClassFile.FieldType.object "java/lang/Object")), Jvm.Cond.code ({ cls := "java/lang/String", name := "equals", desc := "(Ljava/lang/Object;)Z" } : Jvm.MethodName) jdk_42_method_66_code (3 : Nat) (Option.some Jvm.ClassFile.FieldType.boolean), Jvm.Cond.code ({ cls := "com/example/periodic_jobs/periodicjobs/engine/DeliveryResult", name := "getHttpStatus", desc := "()Ljava/util/OptionalInt;" } : Jvm.MethodName) prog_9_method_5_code (1 : Nat) (Option.some (Jvm.ClassFile.FieldType.object "java/util/OptionalInt")), Jvm.Cond.code ({ cls := "java/util/OptionalInt", name := "empty", desc := "()Ljava/util/OptionalInt;" } : Jvm.MethodName) jdk_2649_method_2_code (0 : Nat) (Option.some (Jvm.ClassFile.FieldType.object "java/util/OptionalInt")), Jvm.Cond.code ({ cls := "java/util/OptionalInt", name := "isPresent", desc := "()Z" } : Jvm.MethodName) jdk_2649_method_6_code (1 : Nat) (Option.some Jvm.ClassFile.FieldType.boolean), Jvm.Cond.code ({ cls := "com/example/periodic_jobs/periodicjobs/engine/DeliveryResult", name := "isConfirmed", desc := "()Z" } : Jvm.MethodName) prog_9_method_6_code (1 : Nat) (Option.some Jvm.ClassFile.FieldType.boolean), Jvm.Cond.code ({ cls := "com/example/periodic_jobs/periodicjobs/engine/DeliveryResult", name := "isSuccess", desc := "()Z" } : Jvm.MethodName) prog_9_method_8_code (1 : Nat) (Option.some Jvm.ClassFile.FieldType.boolean), Jvm.Cond.code ({ cls := "com/example/periodic_jobs/periodicjobs/engine/DeliveryResult", name := "isAccepted", desc := "()Z" } : Jvm.MethodName) prog_9_method_9_code (1 : Nat) (Option.some Jvm.ClassFile.FieldType.boolean), Jvm.Cond.code ({ cls := "com/example/periodic_jobs/periodicjobs/engine/DeliveryResult", name := "isWorthRetrying", desc := "()Z" } : Jvm.MethodName) prog_9_method_10_code (1 : Nat) (Option.some Jvm.ClassFile.FieldType.boolean), Jvm.Cond.code ({ cls := "java/lang/StringUTF16", name := "compress", desc := "([CII)[B" } : Jvm.MethodName) jdk_52_method_16_code (6 : Nat) (Option.some (Jvm.ClassFile.FieldType.array Jvm.ClassFile.FieldType.byte)), Jvm.Cond.code ({ cls := "java/lang/StringUTF16", name := "compress", desc := "([CI[BII)I" } : Jvm.MethodName) jdk_52_method_21_code (7 : Nat) (Option.some Jvm.ClassFile.FieldType.int), Jvm.Cond.code ({ cls := "java/lang/StringUTF16", name := "coderFromArrayLen", desc := "([BI)B" } : Jvm.MethodName) jdk_52_method_15_code (2 : Nat) (Option.some Jvm.ClassFile.FieldType.byte)]
set_option maxRecDepth 65536 in
theorem codes_eq : words1.filter isCode = codes1 := rfl
theorem w_codes : ∀ c ∈ words1.filter isCode, c.before args0 about1 = true := by
  rw [codes_eq]
  intro c hc
  simp only [codes1, List.mem_cons, List.not_mem_nil, or_false] at hc
  rcases hc with rfl | rfl | rfl | rfl | rfl | rfl | rfl | rfl | rfl | rfl | rfl | rfl | rfl | rfl | rfl | rfl | rfl | rfl | rfl | rfl | rfl | rfl | rfl | rfl
  · exact w_c0
  · exact w_c1
  · exact w_c2
  · exact w_c3
  · exact w_c4
  · exact w_c5
  · exact w_c6
  · exact w_c7
  · exact w_c8
  · exact w_c9
  · exact w_c10
  · exact w_c11
  · exact w_c12
  · exact w_c13
  · exact w_c14
  · exact w_c15
  · exact w_c16
  · exact w_c17
  · exact w_c18
  · exact w_c19
  · exact w_c20
  · exact w_c21
  · exact w_c22
  · exact w_c23
set_option maxRecDepth 65536 in
theorem w_t1 : (words1.take 24).all (fun c => isCode c || c.before args0 about1) = true := by decide +kernel
set_option maxRecDepth 65536 in
theorem w_t2 : ((words1.drop 24).take 24).all (fun c => isCode c || c.before args0 about1) = true := by decide +kernel
set_option maxRecDepth 65536 in
theorem w_t3 : (((words1.drop 24).drop 24).take 24).all (fun c => isCode c || c.before args0 about1) = true := by decide +kernel
set_option maxRecDepth 65536 in
theorem w_t4 : ((((words1.drop 24).drop 24).drop 24).take 24).all (fun c => isCode c || c.before args0 about1) = true := by decide +kernel
set_option maxRecDepth 65536 in
theorem w_t5 : (((((words1.drop 24).drop 24).drop 24).drop 24).take 24).all (fun c => isCode c || c.before args0 about1) = true := by decide +kernel
set_option maxRecDepth 65536 in
theorem w_t6 : (((((words1.drop 24).drop 24).drop 24).drop 24).drop 24).all (fun c => isCode c || c.before args0 about1) = true := by decide +kernel
theorem w_tables : (allAtoms (Jvm.Cond.code x code maxLocals ret :: tables_1)).before args0 about1 = true := by
  rw [allAtoms_all]
  show words1.all (fun c => c.before args0 about1) = true
  refine all_split ?_ w_codes
  rw [← List.take_append_drop 24 words1, List.all_append, w_t1, ← List.take_append_drop 24 (words1.drop 24), List.all_append, w_t2, ← List.take_append_drop 24 ((words1.drop 24).drop 24), List.all_append, w_t3, ← List.take_append_drop 24 (((words1.drop 24).drop 24).drop 24), List.all_append, w_t4, ← List.take_append_drop 24 ((((words1.drop 24).drop 24).drop 24).drop 24), List.all_append, w_t5, w_t6]
  rfl
set_option maxRecDepth 65536 in
theorem w_rest : rest_1_c.before args0 about1 = true := by decide +kernel
set_option maxRecDepth 65536 in
theorem w_case : (Jvm.Cond.and given_1 narrow_1).before args0 about1 = true := by decide +kernel
set_option maxRecDepth 65536 in
theorem w_consts : constsHeld consts_1 about1 := Jvm.Lit.constsHeldB_iff.mp (by decide +kernel)
theorem w_applies : (headSpec (Jvm.Cond.code x code maxLocals ret :: tables_1) room_1).applies x e0.platform about1 = true :=
  (Spec.applies_iff w_frames).mpr ⟨w_running, w_runnable, w_alone, w_named, w_hears, w_ripe, w_room, w_tables⟩
theorem atStart : AtStart classFile x code maxLocals ret World_1 tables_1 room_1 Calls_1 rest_1 Pre_1 launch0 p0 e0 about1 theMethod args0 below0 :=
  ⟨lists_1, trivial, launch0.admits_env _ _ _, launch0.least_env, fairChoices_fair.cas, fairChoices_fair.clock, w_frames, w_args, w_heap, w_applies, ⟨w_consts, trivial⟩, w_rest, w_case⟩
end start1
theorem witness_1 : WitnessClaimed_1 := ⟨start1.p0, start1.e0, start1.about1, start1.theMethod, start1.args0, start1.below0, start1.atStart⟩
end Jvm.Pilot.@@N@@
